/- FnStack: counting calls; numbers there and back; what PartStack keeps. -/
import Derived.Test.YtincgkolpicipaaStk15
import Derived.Test.YtincgkolpicipaaStk12
namespace Go.Proofs.Ytincgkolpicipaa.stack
open Go.RowKit
def cnt (l : List Fr) : Int := callsTo l l.length
theorem callsTo_app (l r : List Fr) : ∀ k, k ≤ l.length → callsTo (l ++ r) k = callsTo l k
  | 0, _ => rfl
  | k + 1, h => by
    rw [callsTo, callsTo, List.getElem?_append_left (by omega), callsTo_app l r k (by omega)]
theorem topTo_app (l r : List Fr) : ∀ k, k ≤ l.length → topTo (l ++ r) k = topTo l k
  | 0, _ => rfl
  | k + 1, h => by
    rw [topTo, topTo, List.getElem?_append_left (by omega), topTo_app l r k (by omega)]
theorem cnt_snoc (l : List Fr) (f : Fr) : cnt (l ++ [f]) = if f.call then cnt l + 1 else cnt l := by
  unfold cnt
  rw [List.length_append, List.length_singleton, callsTo, List.getElem?_append_right (Nat.le_refl _)]
  simp only [Nat.sub_self, List.getElem?_cons_zero]
  rw [callsTo_app l [f] l.length (Nat.le_refl _)]
theorem calls_top (l : List Fr) : ∀ (k j : Nat), topTo l k = j → callsTo l k = callsTo l j + 1
  | 0, j, h => by simp [topTo] at h
  | k + 1, j, h => by
    rw [topTo] at h
    cases hl : l[k]? with
    | none => rw [hl] at h; simp at h
    | some f =>
      rw [hl] at h
      simp only at h
      cases hf : f.call
      · rw [hf] at h
        rw [callsTo, hl]
        simp only [hf, Bool.false_eq_true, if_false]
        exact calls_top l k j (by simpa using h)
      · rw [hf] at h
        have : j = k := by simp at h; omega
        subst this
        rw [callsTo, hl]
        simp [hf]
theorem cnt_take (l : List Fr) (j : Nat) (h : topTo l l.length = j) : cnt (l.take j) = cnt l - 1 := by
  have h1 := calls_top l l.length j h
  have h2 := topTo_lt l l.length
  have hj : j ≤ l.length := by omega
  unfold cnt
  rw [h1]
  have h3 := callsTo_app (l.take j) (l.drop j) j (by simp; omega)
  rw [List.take_append_drop] at h3
  rw [show (l.take j).length = j by simp; omega, h3]
  omega
theorem cnt_bounds (l : List Fr) : 0 ≤ cnt l ∧ cnt l ≤ l.length := callsTo_le l l.length
theorem back_small : ∀ i : Fin 201, floatToIntVal .f64 (floatOfInt .f64 (i.val : Int)) .i64 = some (i.val : Int) := by decide +kernel
theorem back_any (i : Int) (h : 0 ≤ i ∧ i ≤ 200) : floatToIntVal .f64 (floatOfInt .f64 i) .i64 = some i := by
  have := back_small ⟨i.toNat, by omega⟩
  simp only at this
  rwa [Int.toNat_of_nonneg h.1] at this
/-- Steps of frames are small. -/
theorem steps_of {es : List Sx} : ∀ (k : Nat), k ≤ es.length → ∀ f ∈ (rn es k).st, 0 ≤ f.step ∧ f.step ≤ k
  | 0, _, f, hf => by cases hf
  | k + 1, h, f, hf => by
    have hx : es[k]? = some es[k] := List.getElem?_eq_getElem (by omega)
    rw [rn_succ hx] at hf
    have ih := steps_of (es := es) k (by omega)
    have key : f ∈ (rn es k).st ∨ f.step = (k : Int) := by
      have hf' : f ∈ stepS (rn es k).st k es[k] := hf
      unfold stepS at hf'
      split at hf'
      · rcases List.mem_append.1 hf' with h | h
        · exact .inl h
        · rw [List.mem_singleton.1 h]; exact .inr rfl
      · split at hf'
        · rcases List.mem_append.1 hf' with h | h
          · exact .inl h
          · rw [List.mem_singleton.1 h]; exact .inr rfl
        · split at hf'
          · split at hf'
            · exact .inl (List.dropLast_subset _ hf')
            · exact .inl hf'
          · split at hf'
            · split at hf'
              · exact .inl (List.mem_of_mem_take hf')
              · exact .inl hf'
            · exact .inl hf'
    rcases key with h | h
    · have := ih f h; omega
    · omega
theorem look_small (l : List Fr) (s : ByteArray) (m : Int) (h : ∀ f ∈ l, 0 ≤ f.step ∧ f.step ≤ m) : ∀ k, lookTo l s k = -1 ∨ (0 ≤ lookTo l s k ∧ lookTo l s k ≤ m)
  | 0 => .inl rfl
  | k + 1 => by
    rw [lookTo]
    cases hl : l[k]? with
    | none => exact .inl rfl
    | some f =>
      simp only
      split
      · exact .inr (h f (List.mem_of_getElem? hl))
      · split
        · exact .inl rfl
        · exact look_small l s m h k
/-- What PartStack keeps: three rows, the call stack. -/
structure Pt (w : World) (B g : Nat) (x y : Option Addr) (sl : Value) (n m : Int) (ps : List (Nat × Fr)) (u2 u3 u4 : Value) (xs ys zs : List Int) (W : World) : Prop where
  r3 : R3 B w u2 u3 u4 xs ys zs W
  cs : Cs W g (.pointer x) (.pointer y) sl n m
  st : StkO W B sl ps
  hB : B ≤ W.heap.size
  hg : B ≤ g
section
variable {w W W' : World} {B g : Nat} {x y : Option Addr} {sl : Value} {n m : Int} {ps : List (Nat × Fr)} {u2 u3 u4 : Value} {xs ys zs : List Int}
theorem Pt.later (h : Pt w B g x y sl n m ps u2 u3 u4 xs ys zs W) (hb : Below W.heap.size W W') : Pt w B g x y sl n m ps u2 u3 u4 xs ys zs W' :=
  ⟨h.r3.later h.hB hb, h.cs.chg (X := fun _ => False) (Chg.below hb) id, h.st.chg (Chg.below (X := fun _ => False) hb) soft_none fun _ _ h => h, Nat.le_trans h.hB hb.size, h.hg⟩
theorem Pt.drew (h : Pt w B g x y sl n m ps u2 u3 u4 xs ys zs W) : Pt w B g x y sl n m ps u2 u3 u4 xs ys zs W.drew := h.later (Below.refl _ _).drew
theorem Pt.alloc (h : Pt w B g x y sl n m ps u2 u3 u4 xs ys zs W) (o : Obj) : Pt w B g x y sl n m ps u2 u3 u4 xs ys zs (W.alloc o) := h.later ((Below.refl _ _).alloc (Nat.le_refl _) o)
theorem ints_soft {u : Value} {l : List Int} (h : IntsO W B u l) : Soft (fun k => u.ownBlock = some k) W := fun k hk => by
  obtain ⟨cs, e⟩ := own_type h hk
  exact ⟨_, _, _, e, by decide, by decide, by decide⟩
theorem ints_cs {u : Value} {l : List Int} (h : IntsO W B u l) {t0 t1 sl : Value} {n m : Int} (hc : Cs W g t0 t1 sl n m) : ¬ u.ownBlock = some g := fun hk => by
  obtain ⟨cs, e⟩ := own_type h hk
  rw [show W.heap[g]? = _ from hc] at e
  cases e
theorem stk_ints {u : Value} {l : List Int} (h : IntsO W B u l) (hs : StkO W B sl ps) : ∀ k, sl.ownBlock = some k → ¬ u.ownBlock = some k := fun _ h1 h2 => Dj.types hs.own h (by decide) _ h1 h2
theorem Pt.grown2 (h : Pt w B g x y sl n m ps u2 u3 u4 xs ys zs W) {u : Value} {l : List Int} (hu : IntsO W B u l) (hg : W.grownBy W' u.ownBlock) : Cs W' g (.pointer x) (.pointer y) sl n m ∧ StkO W' B sl ps ∧ B ≤ W'.heap.size := by
  have hx : Chg (fun k => u.ownBlock = some k) W W' := (Chg.refl _ _).grown hg fun k hk _ => hk
  exact ⟨h.cs.chg hx (ints_cs hu h.cs), h.st.chg hx (ints_soft hu) (stk_ints hu h.st), Nat.le_trans h.hB hg.size⟩
theorem Pt.app2 (h : Pt w B g x y sl n m ps u2 u3 u4 xs ys zs W) {q cap : Nat} {z : Int} (ho : W'.ownsRow B 3 1 (.slice (some ⟨q, 0, none⟩) (xs.length + 1) cap) (xs.length + 1) (xs.map (Value.int .i64) ++ [.int .i64 z])) (hg : W.grownBy W' u2.ownBlock) (hat : u2.ownBlock = some q ∨ q = W.heap.size) :
    Pt w B g x y sl n m ps (.slice (some ⟨q, 0, none⟩) (xs.length + 1) cap) u3 u4 (xs ++ [z]) ys zs W' := by
  obtain ⟨a, b, c⟩ := h.grown2 h.r3.o2 hg
  exact ⟨h.r3.app2 h.hB ho hg hat, a, b, c, h.hg⟩
theorem Pt.app3 (h : Pt w B g x y sl n m ps u2 u3 u4 xs ys zs W) {q cap : Nat} {z : Int} (ho : W'.ownsRow B 3 1 (.slice (some ⟨q, 0, none⟩) (ys.length + 1) cap) (ys.length + 1) (ys.map (Value.int .i64) ++ [.int .i64 z])) (hg : W.grownBy W' u3.ownBlock) (hat : u3.ownBlock = some q ∨ q = W.heap.size) :
    Pt w B g x y sl n m ps u2 (.slice (some ⟨q, 0, none⟩) (ys.length + 1) cap) u4 xs (ys ++ [z]) zs W' := by
  obtain ⟨a, b, c⟩ := h.grown2 h.r3.o3 hg
  exact ⟨h.r3.app3 h.hB ho hg hat, a, b, c, h.hg⟩
theorem Pt.app4 (h : Pt w B g x y sl n m ps u2 u3 u4 xs ys zs W) {q cap : Nat} {z : Int} (ho : W'.ownsRow B 3 1 (.slice (some ⟨q, 0, none⟩) (zs.length + 1) cap) (zs.length + 1) (zs.map (Value.int .i64) ++ [.int .i64 z])) (hg : W.grownBy W' u4.ownBlock) (hat : u4.ownBlock = some q ∨ q = W.heap.size) :
    Pt w B g x y sl n m ps u2 u3 (.slice (some ⟨q, 0, none⟩) (zs.length + 1) cap) xs ys (zs ++ [z]) W' := by
  obtain ⟨a, b, c⟩ := h.grown2 h.r3.o4 hg
  exact ⟨h.r3.app4 h.hB ho hg hat, a, b, c, h.hg⟩
end
end Go.Proofs.Ytincgkolpicipaa.stack
