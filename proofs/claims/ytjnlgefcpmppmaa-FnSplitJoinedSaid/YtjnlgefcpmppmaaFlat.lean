/- A string of the evaluator, flattened and told. -/
import Derived.Test.YtjnlgefcpmppmaaJoin
import Derived.Lib.Hide
import Derived.OwnWalk
import Derived.Deep.RegionHeld3
import Derived.Deep.AppendLies
import Derived.Deep.DrawnRows
import Derived.Deep.RegionLaw
namespace Go.Proofs.Ytjnlgefcpmppmaa.joined
open Go.RowKit Go.Proofs.Ytjnlgefcpmppmaa.utf
/-- What has been gathered so far, at a variable of the call's own. -/
def Acc (B p : Nat) (xs : List Nat) (w : World) : Prop := ∃ v, w.heap[p]? = some (.cells #[v] 85 (0, 0)) ∧ w.ownsRow B 21 1 v xs.length (xs.map rv) ∧ v.ownBlock ≠ some p ∧ B ≤ p
def Built (B p : Nat) (xs : List Nat) (w : World) (e : Ending) (w' : World) : Prop := e = .returned (.tuple #[]) ∧ Acc B p xs w' ∧ Below B w w'
theorem is_flat (v : Value) (w : World) : (Instr.typeAssert (.iface 82 v) 45 82 true).run Try.prog w = .ok (.tuple #[v, .bool true]) w := by kernel_rfl
theorem not_flat (v : Value) (w : World) : (Instr.typeAssert (.iface 113 v) 45 82 true).run Try.prog w = .ok (.tuple #[.pointer none, .bool false]) w := by kernel_rfl
theorem is_tree (v : Value) (w : World) : (Instr.typeAssert (.iface 113 v) 45 113 true).run Try.prog w = .ok (.tuple #[v, .bool true]) w := by kernel_rfl
theorem one_rv (us : List Nat) : ∀ u ∈ us.map rv, u.oneCell' = true := by intro u hu; obtain ⟨x, _, rfl⟩ := List.mem_map.1 hu; rfl
theorem leaf_end {B p n m : Nat} {rs xs : List Nat} {w : World} {v : Value} (hv : w.heap[p]? = some (.cells #[v] 85 (0, 0))) (hne : v.ownBlock ≠ some p) (hBp : B ≤ p) (hB : B ≤ w.heap.size)
    (HN : (xs ++ rs).map rv = xs.map rv ++ rs.map rv) (HZ : (xs ++ rs).length = m + n) (lp : p < w.heap.size) (g cap : Nat) (w1 : World) (hown1 : w1.ownsRow B 21 1 (.slice (some ⟨g, 0, none⟩) (m + n) cap) (m + n) (xs.map rv ++ rs.map rv))
    (hgrow : w.drew.grownBy w1 v.ownBlock) (hat : v.ownBlock = some g ∨ g = w.heap.size) (hlt : ∀ k, v.ownBlock = some k → B ≤ k) :
    Built B p (xs ++ rs) w (.returned (.tuple #[])) (w1.setCell ⟨p, 0, none⟩ (.slice (some ⟨g, 0, none⟩) (m + n) cap)) := by
  have h1 : w1.heap[p]? = some (.cells #[v] 85 (0, 0)) := (hgrow.block p (by simpa using lp) (Ne.symm hne)).trans hv
  have hgp : g ≠ p := by
    rcases hat with h | h
    · intro e
      subst e
      exact hne h
    · omega
  have hb : Below B w w1 := ((Below.refl B w).drew).grown hgrow (by simpa using hB) hlt
  refine ⟨rfl, ⟨_, one_setCell h1, ?_, ?_, hBp⟩, hb.setCell hBp _⟩
  · rw [HZ, HN]
    exact ownsRow_setCell_other hown1 (by simp [Value.ownBlock]; exact hgp) _
  · simp [Value.ownBlock]
    exact hgp
set_option maxRecDepth 100000 in
set_option maxHeartbeats 1000000 in
theorem leaf_any (B p b c : Nat) (a : Addr) (rs xs : List Nat) (w : World) (hb : w.heap[b]? = some (.cells #[.slice (some a) rs.length c] 90 (0, 0))) (hlt : b < B) (hr : ∀ j u, (rs.map rv)[j]? = some u → w.cell? (a.add j) = some u)
    (hA : Acc B p xs w) (h0 : rs ≠ []) (hmax : xs.length + rs.length ≤ 1000000) (hB : B ≤ w.heap.size) :
    Calls Try.prog 86 #[.iface 82 (.pointer (some ⟨b, 0, none⟩)), .pointer (some ⟨p, 0, none⟩)] w (Built B p (xs ++ rs) w) := by
  obtain ⟨i0, hi, hi0, hi1, hi2⟩ := info_parts Try.info21
  obtain ⟨v, hv, hown, hne, hBp⟩ := hA
  have c0 : w.cell? ⟨b, 0, none⟩ = some (.slice (some a) rs.length c) := by rw [cell_of_row w b 0 _ _ _ hb]; rfl
  have p0 : w.cell? ⟨p, 0, none⟩ = some v := cell_of_one hv
  have f0 : w.frozen? ⟨p, 0, none⟩ = false := free_of_one hv
  have hnb : v.ownBlock ≠ some b := fun e => by have := (hown.lt b e).1; omega
  have lp := block_lt p0
  have lb := block_lt c0
  have hpos : 0 < rs.length := List.length_pos_iff.2 h0
  have HL := Lib.hid (show (rs.map rv).length = rs.length * 1 by simp)
  have HR := Lib.hid hr
  have HO := Lib.hid (one_rv rs)
  have HN := Lib.hid (show (xs ++ rs).map rv = xs.map rv ++ rs.map rv by simp)
  have HZ := Lib.hid (show (xs ++ rs).length = xs.length + rs.length by simp)
  have hm1 := is_flat
  generalize rs.length = n at *
  generalize xs.length = m at *
  have HE := Lib.hid (fun g cap w1 h1 h2 h3 => leaf_end (w := w) (n := n) (m := m) hv hne hBp hB HN.out HZ.out lp g cap w1 h1 h2 h3 (fun k hk => (hown.lt k hk).1))
  clear hr h0 hb hv
  go_enter Try.func86, Try.ntmps86
  go_wp2_with fail
  go_region_law
    ((refine step_append_lies _ (by rfl) _ _ _ (by rfl) B 21 i0 _ 1 4 Try.underlying85 hi hi0 hi1 hi2 rfl (by omega) v m (xs.map rv) (by rfl) (hown.drew)
        a n c (rs.map rv) (by rfl) HL.out HR.out HO.out hpos (by simp only [maxLen]; omega) (by omega) (by simpa using hB) w.heap.size (by simp) ?_; intro g cap w1 hown1 hgrow hat hlt1; have q1 : w1.cell? ⟨p, 0, none⟩ = some v := (hgrow.cell_far ⟨p, 0, none⟩ (by simpa using lp) (Ne.symm hne)).trans (by simpa using p0); have q2 : w1.frozen? ⟨p, 0, none⟩ = false := (hgrow.frozen_far ⟨p, 0, none⟩ (by simpa using lp) (Ne.symm hne)).trans (by simpa using f0)))
  all_goals
    go_end0
    exact HE.out g cap w1 hown1 hgrow hat
theorem Acc.alive {B p : Nat} {xs : List Nat} {w : World} (h : Acc B p xs w) : p < w.heap.size := by
  obtain ⟨v, hv, _⟩ := h
  exact (Array.getElem?_eq_some_iff.1 hv).1
theorem Str.form {B : Nat} {w : World} {v : Value} {rs : List Nat} (h : Str B w v rs) : ∃ T b, v = .iface T (.pointer (some ⟨b, 0, none⟩)) := by
  cases h with
  | flat b o n c rs hn h0 hr hB => exact ⟨82, b, rfl⟩
  | tree b n l r ls rs hl hr h0 hn h30 e0 e1 hB => exact ⟨113, b, rfl⟩
set_option maxRecDepth 100000 in
/-- buildFullString. -/
theorem build_any {B : Nat} {w0 : World} {v : Value} {rs : List Nat} (hs : Str B w0 v rs) (p : Nat) : ∀ (xs : List Nat) (w : World), Below w0.heap.size w0 w → Acc w0.heap.size p xs w → rs ≠ [] → xs.length + rs.length ≤ 1000000 →
    Calls Try.prog 86 #[v, .pointer (some ⟨p, 0, none⟩)] w (Built w0.heap.size p (xs ++ rs) w) := by
  induction hs with
  | flat b o n c rs hn h0 hr hB =>
    intro xs w hb hA hne hmax
    subst hn
    obtain ⟨a, rfl, hc⟩ := hr.resolve_left hne
    exact leaf_any w0.heap.size p b c a rs xs w (hkeep hb h0) (Array.getElem?_eq_some_iff.1 h0).1 (fun j u h => keep hb (hc j u h)) hA hne hmax hb.size
  | tree b n l r ls rs hl hr h0 hn h30 e0 e1 hBb il ir =>
    intro xs w hb hA hne hmax
    rw [List.length_append] at hmax
    have IL := Lib.hid (il xs w hb hA e0 (by omega))
    have IR := Lib.hid (fun w' h1 h2 => ir (xs ++ ls) w' h1 h2 e1 (by rw [List.length_append]; omega))
    have hb0 := hkeep hb h0
    have HB := Lib.hid hb
    have H0 := Lib.hid h0
    have C0 : w.cell? ⟨b, 0, none⟩ = some l := by rw [cell_of_row w b 0 _ _ _ hb0]; rfl
    have hm1 := not_flat
    have hm2 := is_tree
    clear il ir hb hA hmax hb0 h0 hl hr hn h30 e0 e1 hne
    go_enter Try.func86, Try.ntmps86
    go_wp2_with fail
    refine IL.out.mono ?_
    rintro e w1 ⟨rfl, hA1, hb1⟩
    have HB1 := Lib.hid (HB.out.trans hb1)
    have C1 : w1.cell? ⟨b, 1, none⟩ = some r := by rw [cell_of_row w1 b 1 _ _ _ (hkeep HB1.out H0.out)]; rfl
    have HA1 := Lib.hid hA1
    have Hb1 := Lib.hid hb1
    clear hA1 hb1 C0
    go_wp2_with fail
    refine (IR.out w1 HB1.out HA1.out).mono ?_
    rintro e w2 ⟨rfl, hA2, hb2⟩
    have HA2 := Lib.hid hA2
    have HB2 := Lib.hid (Hb1.out.trans hb2)
    clear hA2 hb2
    go_wp2_with fail
    go_end0
    exact ⟨rfl, by rw [← List.append_assoc]; exact HA2.out, HB2.out⟩
/-- A flat string of so many runes is at a cell. -/
def Told (w : World) (us : List Nat) (v : Value) : Prop := ∃ b o c, v = .iface 82 (.pointer (some ⟨b, 0, none⟩)) ∧ w.cell? ⟨b, 0, none⟩ = some (.slice o us.length c) ∧ Runes w o us
theorem row_form2 {w : World} {B n : Nat} {v : Value} {us : List Value} (h : w.ownsRow B 21 1 v n us) (h0 : n ≠ 0) : ∃ g c, v = .slice (some ⟨g, 0, none⟩) n c ∧ B ≤ g ∧ ∀ j u, us[j]? = some u → w.cell? ⟨g, j, none⟩ = some u := by
  rcases h.2 with ⟨_, h1⟩ | ⟨g, cap, cur, rfl, hB, hg, _, _, _, ht⟩
  · exact absurd h1 h0
  · refine ⟨_, _, rfl, hB, fun j u hu => ?_⟩
    rw [cell_of_row w g j _ _ _ hg]
    rw [← ht] at hu
    have hj := (List.getElem?_eq_some_iff.1 hu).1
    rw [List.length_take] at hj
    rw [List.getElem?_take_of_lt (by omega)] at hu
    simpa using hu
theorem set_far (w : World) (b k : Nat) (v : Value) (g j : Nat) (h : g ≠ b) : (w.setCell ⟨b, k, none⟩ v).cell? ⟨g, j, none⟩ = w.cell? ⟨g, j, none⟩ :=
  World.cell?_of_block (w := w) (Below.heap_setCell _ _ _ _ h)
theorem flatten_end {B b n g k3 : Nat} {us : List Nat} {w w2 : World} {x : Value} (hbB : B ≤ b) (hb : b < w.heap.size) (hB3 : Below w.heap.size w w2) (K0 : w2.cell? ⟨b, 0, none⟩ = some x) (hn : n = us.length) (hg : w.heap.size ≤ g)
    (hr : ∀ j u, (us.map rv)[j]? = some u → w2.cell? ⟨g, j, none⟩ = some u) :
    (∃ v, (((w2.setCell ⟨b, 0, none⟩ (.iface 82 (.pointer (some ⟨w2.heap.size, 0, none⟩)))).setCell ⟨b, 1, none⟩ .nilIface).alloc (.cells #[.slice (some ⟨g, 0, none⟩) n k3] 90)).cell? ⟨b, 0, none⟩ = some v ∧ Told (((w2.setCell ⟨b, 0, none⟩ (.iface 82 (.pointer (some ⟨w2.heap.size, 0, none⟩)))).setCell ⟨b, 1, none⟩ .nilIface).alloc (.cells #[.slice (some ⟨g, 0, none⟩) n k3] 90)) us v) ∧
    Below B w (((w2.setCell ⟨b, 0, none⟩ (.iface 82 (.pointer (some ⟨w2.heap.size, 0, none⟩)))).setCell ⟨b, 1, none⟩ .nilIface).alloc (.cells #[.slice (some ⟨g, 0, none⟩) n k3] 90)) := by
  have hlt := block_lt K0
  have hz := hB3.size
  refine ⟨⟨.iface 82 (.pointer (some ⟨w2.heap.size, 0, none⟩)), ?_, w2.heap.size, some ⟨g, 0, none⟩, k3, rfl, ?_, .inr ⟨_, rfl, fun j u hu => ?_⟩⟩, ?_⟩
  · rw [World.cell?_alloc_past _ _ _ (by simpa using hlt)]
    simp [go_sem, K0]
  · rw [World.cell?_alloc_at _ _ _ _ (by simp), hn]
    rfl
  · have hc := hr j u hu
    have hgl := block_lt hc
    rw [Addr.add_lit, Nat.zero_add, World.cell?_alloc_past _ _ _ (by simpa using hgl), set_far _ _ _ _ _ _ (by omega), set_far _ _ _ _ _ _ (by omega)]
    exact hc
  · exact ((((hB3.mono (by omega)).setCell (by exact hbB) _).setCell (by exact hbB) _).alloc (by simp; omega) _)
set_option maxRecDepth 100000 in
/-- flattenToLeft of a string that is put together. -/
theorem flatten_any (B b : Nat) (us : List Nat) (w : World) (hs : Str B w (.iface 113 (.pointer (some ⟨b, 0, none⟩))) us) (hmax : us.length ≤ 1000000) :
    Calls Try.prog 85 #[.pointer (some ⟨b, 0, none⟩)] w fun e w' => e = .returned (.tuple #[]) ∧ (∃ v, w'.cell? ⟨b, 0, none⟩ = some v ∧ Told w' us v) ∧ Below B w w' := by
  obtain ⟨i0, hi, hi0, hi1, hi2⟩ := info_parts Try.info21
  have HB := Lib.hid (fun p xs w1 h1 h2 h3 h4 => build_any hs p xs w1 h1 h2 h3 h4)
  have HS := Lib.hid hs
  cases hs with
  | tree b n l r ls rs hl hr h0 hn h30 e0 e1 hB =>
    obtain ⟨T1, b1, rfl⟩ := hl.form
    obtain ⟨T2, b2, rfl⟩ := hr.form
    have C0 : w.cell? ⟨b, 0, none⟩ = some (.iface T1 (.pointer (some ⟨b1, 0, none⟩))) := by rw [cell_of_row w b 0 _ _ _ h0]; rfl
    have C1 : w.cell? ⟨b, 1, none⟩ = some (.iface T2 (.pointer (some ⟨b2, 0, none⟩))) := by rw [cell_of_row w b 1 _ _ _ h0]; rfl
    have C2 : w.cell? ⟨b, 2, none⟩ = some (.int .i64 n) := by rw [cell_of_row w b 2 _ _ _ h0]; rfl
    have HN := Lib.hid (show n = (ls ++ rs).length by rw [List.length_append]; exact hn)
    have hn2 : n ≤ 1000000 := by rw [HN.out]; exact hmax
    clear hl hr hn hmax
    go_enter Try.func85, Try.ntmps85
    go_wp2_with (at_make; refine wpList_make_own _ rfl _ _ 85 rfl w.heap.size 21 i0 (.int .i32 0) 1 Try.underlying85 hi hi0 hi1 .i64 .i64 _ n rfl rfl rfl ?q2 ?q3 ?q4 ?_)
    case q2 => rw [hi2]; omega
    case q3 => simp only [maxLen]; omega
    case q4 => exact Nat.le_refl _
    intro w1 hown1 hgr1
    have hlt1 : w.heap.size < w1.heap.size := (hown1.lt w.heap.size rfl).2
    have hbW := ((Below.refl w.heap.size w).grown hgr1 (Nat.le_refl _) (by intro k h; cases h)).alloc (Nat.le_of_lt hlt1) (.cells #[.slice (some ⟨w.heap.size, 0, none⟩) 0 n] 85)
    have hA : Acc w.heap.size w1.heap.size [] (w1.alloc (.cells #[.slice (some ⟨w.heap.size, 0, none⟩) 0 n] 85)) :=
      ⟨_, heap_alloc_new w1 _, hown1.alloc _, by simp [Value.ownBlock]; omega, Nat.le_of_lt hlt1⟩
    have HX := Lib.hid (HB.out w1.heap.size [] _ hbW hA (by simp [e0]) (by rw [← HN.out]; simpa using hn2))
    have HW := Lib.hid hbW
    have H0 := Lib.hid h0
    have hb := (Array.getElem?_eq_some_iff.1 h0).1
    clear hA hown1 hgr1 hbW
    go_wp2_with fail
    refine HX.out.mono ?_
    rintro e w2 ⟨rfl, hA2, hb2⟩
    have hb3 := HW.out.trans hb2
    obtain ⟨v2, hv2, hown2, hne2, hp2⟩ := hA2
    have hbk := hkeep hb3 H0.out
    have K0 : w2.cell? ⟨b, 0, none⟩ = some (.iface T1 (.pointer (some ⟨b1, 0, none⟩))) := by rw [cell_of_row w2 b 0 _ _ _ hbk]; rfl
    have K1 : w2.cell? ⟨b, 1, none⟩ = some (.iface T2 (.pointer (some ⟨b2, 0, none⟩))) := by rw [cell_of_row w2 b 1 _ _ _ hbk]; rfl
    have F0 : w2.frozen? ⟨b, 0, none⟩ = false := frozen_of_row w2 b 0 _ _ hbk
    have F1 : w2.frozen? ⟨b, 1, none⟩ = false := frozen_of_row w2 b 1 _ _ hbk
    have hlt2 : b < w2.heap.size := (Array.getElem?_eq_some_iff.1 hbk).1
    have P0 : w2.cell? ⟨w1.heap.size, 0, none⟩ = some v2 := cell_of_one hv2
    have hlt3 : w1.heap.size < w2.heap.size := block_lt P0
    obtain ⟨g, k3, rfl, hg, hr3⟩ := row_form2 hown2 (by rw [List.nil_append, ← HN.out]; omega)
    rw [List.nil_append] at hr3
    have HE := Lib.hid (flatten_end (k3 := k3) hB hb hb3 K0 HN.out hg hr3)
    have HZ : Hid (n = ([] ++ (ls ++ rs)).length) := Lib.hid (by rw [List.nil_append]; exact HN.out)
    rw [← HZ.out] at P0
    have HB3 := Lib.hid hb3
    have HK := Lib.hid hbk
    clear hr3 hb3 hbk hown2 hv2 hne2 hp2 hb2 HX HW C0 C1 C2
    go_wp2_with (go_at_call 40; refine (of_runes _ _ _ _).mono ?_; rintro e w' ⟨rfl, rfl⟩)
    go_end0
    exact ⟨rfl, HE.out⟩
end Go.Proofs.Ytjnlgefcpmppmaa.joined
