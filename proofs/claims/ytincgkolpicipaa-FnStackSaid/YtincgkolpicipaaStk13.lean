/- FnStack: popIfExists by contract. -/
import Derived.Test.YtincgkolpicipaaStk11
namespace Go.Proofs.Ytincgkolpicipaa.stack
open Go.RowKit
set_option maxRecDepth 100000 in
set_option maxHeartbeats 8000000 in
theorem pop_other (g cap k : Nat) (A : Option Addr) (t0 t1 : Value) (n m z : Int) (w : World) (h : Cs w g t0 t1 (.slice A k cap) n m) (hz : ((k : Int) == z) = false) :
    Calls Try.prog 48 #[.pointer (some ⟨g, 0, none⟩), .int .i64 z] w fun e w' => e = .returned (.tuple #[]) ∧ w' = w := by
  have c2 : w.cell? ⟨g, 2, none⟩ = some (.slice A k cap) := h.at 2
  clear h
  go_enter Try.func48, Try.ntmps48
  go_wp2_with fail
  go_returns
  exact ⟨rfl, rfl⟩
/-- The cells that the rest of a pop reads. -/
structure PopS (g gs cap k q : Nat) (xa xb : Option Addr) (w' : World) : Prop where
  c2 : w'.cell? ⟨g, 2, none⟩ = some (.slice (some ⟨gs, 0, none⟩) (k + 1) cap)
  ct : w'.cell? ⟨gs, k, none⟩ = some (.pointer (some ⟨q, 0, none⟩))
  p0 : w'.cell? ⟨q, 0, none⟩ = some (.pointer xa)
  p1 : w'.cell? ⟨q, 1, none⟩ = some (.pointer xb)
theorem pops_of {W : World} {B g gs cap : Nat} {t0 t1 : Value} {n m : Int} {ps : List (Nat × Fr)} {p : Nat × Fr} {xa xb : Option Addr} {u2 u3 u4 u5 u6 : Value} (h : Cs W g t0 t1 (.slice (some ⟨gs, 0, none⟩) (ps.length + 1) cap) n m) (ho : StkO W B (.slice (some ⟨gs, 0, none⟩) (ps.length + 1) cap) (ps ++ [p]))
    (hfr : W.heap[p.1]? = some (.cells #[.pointer xa, .pointer xb, u2, u3, u4, u5, u6] 156 (0, 0))) : PopS g gs cap ps.length p.1 xa xb W := by
  refine ⟨h.at 2, ?_, by simp [World.cell?, hfr], by simp [World.cell?, hfr]⟩
  have h1 := ho.own
  rw [show (ps ++ [p]).length = ps.length + 1 by simp] at h1
  rw [h1.cellAt _ (by omega)]
  simp [ptrs]
/-- What stands when a pop is at its last two statements. -/
structure PopM (w W : World) (B g gs cap : Nat) (n m : Int) (ps : List (Nat × Fr)) (p : Nat × Fr) : Prop where
  cs : Cs W g (.pointer none) (.pointer none) (.slice (some ⟨gs, 0, none⟩) (ps.length + 1) cap) n m
  st : StkO W B (.slice (some ⟨gs, 0, none⟩) (ps.length + 1) cap) (ps ++ [p])
  ch : Chg (fun k => k = g) w W
theorem fr_pop {w W : World} {B g gs cap : Nat} {n m : Int} {ps : List (Nat × Fr)} {p : Nat × Fr} (h : PopM w W B g gs cap n m ps p) {xa xb : Option Addr} {u2 u3 u4 u5 u6 : Value} (hfr : w.heap[p.1]? = some (.cells #[.pointer xa, .pointer xb, u2, u3, u4, u5, u6] 156 (0, 0))) (hne : p.1 ≠ g) : PopS g gs cap ps.length p.1 xa xb W :=
  pops_of h.cs h.st (h.ch.keep hfr hne)
theorem pop_more {w W w3 : World} {B g gs cap : Nat} {n m : Int} {t0 t1 : Value} {ps : List (Nat × Fr)} {p : Nat × Fr} (h : PopM w W B g gs cap n m ps p) {xa xb : Option Addr} {u2 u3 u4 u5 u6 : Value} (hfr : w.heap[p.1]? = some (.cells #[.pointer xa, .pointer xb, u2, u3, u4, u5, u6] 156 (0, 0))) (hne : p.1 ≠ g)
    (hc : Chg (fun k => k = g) W.drew w3) (k3 : Cs w3 g t0 t1 (.slice (some ⟨gs, 0, none⟩) (ps.length + 1) cap) n m) : PopS g gs cap ps.length p.1 xa xb w3 ∧ StkO w3 B (.slice (some ⟨gs, 0, none⟩) (ps.length + 1) cap) (ps ++ [p]) := by
  have c : Chg (fun k => k = g) W w3 := (Chg.refl _ _).drew.step hc fun _ _ h => h
  have st := h.st.chg c (soft_cs h.cs) (cs_off h.cs h.st)
  exact ⟨pops_of k3 st ((h.ch.step c fun _ _ h => h).keep hfr hne), st⟩
theorem pop_done {w W w3 : World} {B g gs cap : Nat} {n m : Int} {xa xb : Option Addr} {ps : List (Nat × Fr)} {p : Nat × Fr} (h : PopM w W B g gs cap n m ps p) (hc : Chg (fun k => k = g) W.drew w3) (k3 : Cs w3 g (.pointer xa) (.pointer xb) (.slice (some ⟨gs, 0, none⟩) (ps.length + 1) cap) n m) (st : StkO w3 B (.slice (some ⟨gs, 0, none⟩) (ps.length + 1) cap) (ps ++ [p])) :
    ∃ sl' x y, Cs (w3.setCell ⟨g, 2, none⟩ (.slice (some ⟨gs, 0, none⟩) ps.length cap)).drew g (.pointer x) (.pointer y) sl' n m ∧ StkO (w3.setCell ⟨g, 2, none⟩ (.slice (some ⟨gs, 0, none⟩) ps.length cap)).drew B sl' ps ∧ Chg (fun k => k = g) w (w3.setCell ⟨g, 2, none⟩ (.slice (some ⟨gs, 0, none⟩) ps.length cap)).drew := by
  have c5 : Chg (fun k => k = g) w3 (w3.setCell ⟨g, 2, none⟩ (.slice (some ⟨gs, 0, none⟩) ps.length cap)).drew := (Chg.setCell (X := fun k => k = g) (p := ⟨g, 2, none⟩) (Chg.refl _ _) (fun _ => rfl) _).drew
  have ht := StkO.take st (by simp) (Nat.le_succ ps.length)
  rw [List.take_left' rfl] at ht
  exact ⟨_, xa, xb, k3.slice _, ht.chg c5 (soft_cs k3) (cs_off k3 ht), (h.ch.step ((Chg.refl _ _).drew.step hc fun _ _ h => h) fun _ _ h => h).step c5 fun _ _ h => h⟩
theorem pop_count {w W : World} {B g gs cap : Nat} {n m : Int} {ps : List (Nat × Fr)} {p : Nat × Fr} (h : PopM w W B g gs cap n m ps p) (z : Int) : PopM w (W.setCell ⟨g, 3, none⟩ (.int .i64 z)) B g gs cap z m ps p := by
  have c5 : Chg (fun k => k = g) W (W.setCell ⟨g, 3, none⟩ (.int .i64 z)) := Chg.setCell (X := fun k => k = g) (p := ⟨g, 3, none⟩) (Chg.refl _ _) (fun _ => rfl) _
  exact ⟨h.cs.count z, h.st.chg c5 (soft_cs h.cs) (cs_off h.cs h.st), h.ch.step c5 fun _ _ h => h⟩
set_option maxRecDepth 100000 in
set_option maxHeartbeats 8000000 in
theorem pop_top (B g : Nat) (sl : Value) (n m z : Int) (ps : List (Nat × Fr)) (p : Nat × Fr) (w : World) (h : Cs w g (.pointer none) (.pointer none) sl n m) (ho : StkO w B sl (ps ++ [p])) (hl : ps.length ≤ 200) (hn : 0 ≤ n ∧ n ≤ 201) (hc : p.2.call = true → 1 ≤ n) (hz : z = (ps.length : Int) + 1) :
    Calls Try.prog 48 #[.pointer (some ⟨g, 0, none⟩), .int .i64 z] w fun e w' => e = .returned (.tuple #[]) ∧ ∃ sl' x y, Cs w' g (.pointer x) (.pointer y) sl' (if p.2.call then n - 1 else n) m ∧ StkO w' B sl' ps ∧ Chg (fun k => k = g) w w' := by
  obtain ⟨A, cap, rfl, hcap, -, hA⟩ := owns_form ho.own
  obtain ⟨gs, rfl⟩ := hA (by simp)
  obtain ⟨xa, xb, mb, zz, hfr, -⟩ := (ho.all p (by simp)).ex
  have hlen : (ps ++ [p]).length = ps.length + 1 := by simp
  rw [hlen] at h ho hcap
  have hne : p.1 ≠ g := fun e => by
    subst e
    rw [show w.heap[p.1]? = _ from h] at hfr
    cases hfr
  have HMM := Lib.hid (show ∀ w', Below w.heap.size w w' → PopM w w' B g gs cap n m ps p from fun w' hb => ⟨h.chg (X := fun _ => False) (Chg.below hb) id, ho.chg (Chg.below (X := fun _ => False) hb) soft_none (fun _ _ h => h), Chg.below hb⟩)
  have HFR := Lib.hid (fun W n' (hm : PopM w W B g gs cap n' m ps p) => fr_pop hm hfr hne)
  have HMO := Lib.hid (fun W w3 n' (hm : PopM w W B g gs cap n' m ps p) => pop_more (w3 := w3) (t0 := .pointer xa) (t1 := .pointer xb) hm hfr hne)
  have HL := Lib.hid hl
  have c2 : w.cell? ⟨g, 2, none⟩ = some (.slice (some ⟨gs, 0, none⟩) (ps.length + 1) cap) := h.at 2
  have p5 : w.cell? ⟨p.1, 5, none⟩ = some (.bool p.2.call) := by simp [World.cell?, hfr]
  have hz1 : (((ps.length + 1 : Nat) : Int) == z) = true := by simp [hz]
  have HTP := Lib.hid (csTop_any g gs cap _ _ n m B ps p w hl h ho)
  clear h ho hl hlen hfr hne hA hz
  generalize hcall : p.2.call = b at *
  clear hcall
  go_enter Try.func48, Try.ntmps48
  cases b
  · go_wp2_with (go_at_call 67; refine HTP.out.mono ?_; rintro e W ⟨rfl, hb1⟩; have HP := Lib.hid (HMM.out W hb1); have p5' := cell_later hb1 p5; clear hb1)
    obtain ⟨n', hn', HPM⟩ : ∃ n', n' = (if false = true then n - 1 else n) ∧ Hid (PopM w W B g gs cap n' m ps p) := ⟨n, rfl, HP⟩
    clear HP p5' hc
    have HNN := Lib.hid hn'
    have HQ := Lib.hid (HFR.out _ _ HPM.out)
    have HQ1 := HQ.out.c2
    have HQ2 := HQ.out.ct
    have HQ3 := HQ.out.p0
    have HQ4 := HQ.out.p1
    have HSC := Lib.hid (setCurrentTrace_any g xa xb _ n' m W.drew HPM.out.cs)
    have q1 : (0 : Int) ≤ (ps.length : Int) := by omega
    have q2 : (ps.length : Int) < (ps.length : Int) + 1 := by omega
    have q5 : IntKind.i64.wrap (ps.length : Int) = (ps.length : Int) := IntWalk.i64_in _ (by have := HL.out; omega)
    have q6 : ps.length ≤ cap := by omega
    have q7 : (ps.length : Int) ≤ (cap : Int) := by omega
    clear p5 c2 hn'
    go_region_held3 (fun w' => w'.cell? ⟨g, 2, none⟩ = some (.slice (some ⟨gs, 0, none⟩) (ps.length + 1) cap) ∧ w'.cell? ⟨gs, ps.length, none⟩ = some (.pointer (some ⟨p.1, 0, none⟩)) ∧ w'.cell? ⟨p.1, 0, none⟩ = some (.pointer xa) ∧ w'.cell? ⟨p.1, 1, none⟩ = some (.pointer xb))
      (first | (exact ⟨HQ1, HQ2, HQ3, HQ4⟩) | (exact ⟨HS3.out.c2, HS3.out.ct, HS3.out.p0, HS3.out.p1⟩))
      (first | (go_at_call 42; refine HSC.out.mono ?_; rintro e w3 ⟨rfl, k3, c3⟩; have HS3 := Lib.hid (HMO.out _ _ _ HPM.out c3 k3).1; have HT3 := Lib.hid (HMO.out _ _ _ HPM.out c3 k3).2; have K3 := Lib.hid k3; have C3 := Lib.hid c3; clear k3 c3))
    have d2 : w3.cell? ⟨g, 2, none⟩ = some (.slice (some ⟨gs, 0, none⟩) (ps.length + 1) cap) := K3.out.at 2
    have g2 : w3.frozen? ⟨g, 2, none⟩ = false := K3.out.free 2
    go_wp2_with fail
    go_region
    go_returns
    rw [← HNN.out]
    exact ⟨rfl, pop_done HPM.out C3.out K3.out HT3.out⟩
  · have hc1 : 1 ≤ n := hc rfl
    clear hc
    go_wp2_with (go_at_call 67; refine HTP.out.mono ?_; rintro e w1 ⟨rfl, hb1⟩; have HP := Lib.hid (HMM.out w1 hb1); have p5' := cell_later hb1 p5; have c3 : w1.cell? ⟨g, 3, none⟩ = some (.int .i64 n) := HP.out.cs.at 3; have f3 := HP.out.cs.free 3; clear hb1)
    have HP2 := Lib.hid (pop_count HP.out (n - 1))
    clear c3 f3 p5' HP
    generalize (World.setCell w1 _ _) = W at HP2 ⊢
    obtain ⟨n', hn', HPM⟩ : ∃ n', n' = (if true = true then n - 1 else n) ∧ Hid (PopM w W B g gs cap n' m ps p) := ⟨n - 1, rfl, HP2⟩
    clear HP2 hc1
    have HNN := Lib.hid hn'
    have HQ := Lib.hid (HFR.out _ _ HPM.out)
    have HQ1 := HQ.out.c2
    have HQ2 := HQ.out.ct
    have HQ3 := HQ.out.p0
    have HQ4 := HQ.out.p1
    have HSC := Lib.hid (setCurrentTrace_any g xa xb _ n' m W.drew HPM.out.cs)
    have q1 : (0 : Int) ≤ (ps.length : Int) := by omega
    have q2 : (ps.length : Int) < (ps.length : Int) + 1 := by omega
    have q5 : IntKind.i64.wrap (ps.length : Int) = (ps.length : Int) := IntWalk.i64_in _ (by have := HL.out; omega)
    have q6 : ps.length ≤ cap := by omega
    have q7 : (ps.length : Int) ≤ (cap : Int) := by omega
    clear p5 c2 hn'
    go_region_held3 (fun w' => w'.cell? ⟨g, 2, none⟩ = some (.slice (some ⟨gs, 0, none⟩) (ps.length + 1) cap) ∧ w'.cell? ⟨gs, ps.length, none⟩ = some (.pointer (some ⟨p.1, 0, none⟩)) ∧ w'.cell? ⟨p.1, 0, none⟩ = some (.pointer xa) ∧ w'.cell? ⟨p.1, 1, none⟩ = some (.pointer xb))
      (first | (exact ⟨HQ1, HQ2, HQ3, HQ4⟩) | (exact ⟨HS3.out.c2, HS3.out.ct, HS3.out.p0, HS3.out.p1⟩))
      (first | (go_at_call 42; refine HSC.out.mono ?_; rintro e w3 ⟨rfl, k3, c3⟩; have HS3 := Lib.hid (HMO.out _ _ _ HPM.out c3 k3).1; have HT3 := Lib.hid (HMO.out _ _ _ HPM.out c3 k3).2; have K3 := Lib.hid k3; have C3 := Lib.hid c3; clear k3 c3))
    have d2 : w3.cell? ⟨g, 2, none⟩ = some (.slice (some ⟨gs, 0, none⟩) (ps.length + 1) cap) := K3.out.at 2
    have g2 : w3.frozen? ⟨g, 2, none⟩ = false := K3.out.free 2
    go_wp2_with fail
    go_region
    go_returns
    rw [show (if true = true then n - 1 else n) = n' by simpa using HNN.out.symm]
    exact ⟨rfl, pop_done HPM.out C3.out K3.out HT3.out⟩
end Go.Proofs.Ytincgkolpicipaa.stack
