/- FnStack: the frames of the call stack, and what keeps them. -/
import Derived.Test.YtincgkolpicipaaStk8
namespace Go.Proofs.Ytincgkolpicipaa.stack
open Go.RowKit
/-- Block p is the frame f. -/
structure FrAt (W : World) (p : Nat) (f : Fr) : Prop where
  ex : ∃ (a b : Option Addr) (m : Nat) (z : Int), W.heap[p]? = some (.cells #[.pointer a, .pointer b, .map (some m), .pointer none, .int .i64 z, .bool f.call, .bool f.trim] 156 (0, 0)) ∧ MapOk W m f.names f.step
theorem FrAt.chg {X : Nat → Prop} {W W' : World} {p : Nat} {f : Fr} (h : FrAt W p f) (hx : Chg X W W') (hs : Soft X W) : FrAt W' p f := by
  obtain ⟨a, b, m, z, h1, h2⟩ := h.ex
  refine ⟨a, b, m, z, hx.keep h1 fun hX => ?_, h2.chg hx hs⟩
  obtain ⟨cs, t, fr, e, n1, n2, n3⟩ := hs p hX
  rw [h1] at e; cases e; exact n3 rfl
def ptrs (ps : List (Nat × Fr)) : List Value := ps.map fun p => .pointer (some ⟨p.1, 0, none⟩)
/-- The call stack's slice. -/
structure StkO (W : World) (B : Nat) (sl : Value) (ps : List (Nat × Fr)) : Prop where
  own : W.ownsRow B 154 1 sl ps.length (ptrs ps)
  all : ∀ p ∈ ps, FrAt W p.1 p.2
theorem StkO.none_ {W : World} {B : Nat} : StkO W B (.slice none 0 0) [] := ⟨World.ownsRow_nil _ _ _ _, fun p hp => by cases hp⟩
theorem StkO.chg {X : Nat → Prop} {W W' : World} {B : Nat} {sl : Value} {ps : List (Nat × Fr)} (h : StkO W B sl ps) (hx : Chg X W W') (hs : Soft X W) (hv : ∀ k, sl.ownBlock = some k → ¬ X k) : StkO W' B sl ps :=
  ⟨owns_chg h.own hx hv, fun p hp => (h.all p hp).chg hx hs⟩
theorem soft_none {W : World} : Soft (fun _ => False) W := fun _ h => h.elim
theorem soft_cs {W : World} {g : Nat} {t0 t1 sl : Value} {n m : Int} (h : Cs W g t0 t1 sl n m) : Soft (fun k => k = g) W := fun k hk => by
  subst hk
  exact ⟨_, _, _, h, by decide, by decide, by decide⟩
theorem soft_own {W : World} {B : Nat} {sl : Value} {ps : List (Nat × Fr)} (h : StkO W B sl ps) : Soft (fun k => sl.ownBlock = some k) W := fun k hk => by
  obtain ⟨cs, e⟩ := own_type h.own hk
  exact ⟨_, _, _, e, by decide, by decide, by decide⟩
theorem cs_off {W : World} {B g : Nat} {t0 t1 sl u : Value} {n m : Int} {ps : List (Nat × Fr)} (h : Cs W g t0 t1 u n m) (ho : StkO W B sl ps) : ∀ k, sl.ownBlock = some k → ¬ k = g := fun k hk e => by
  obtain ⟨cs, e1⟩ := own_type ho.own hk
  subst e
  rw [show W.heap[k]? = _ from h] at e1
  cases e1
theorem StkO.take {W : World} {B n cap : Nat} {A : Option Addr} {ps : List (Nat × Fr)} (h : StkO W B (.slice A n cap) ps) (hn : ps.length = n) {m : Nat} (hm : m ≤ n) : StkO W B (.slice A m cap) (ps.take m) := by
  have h1 := h.own
  rw [hn] at h1
  have h2 := owns_take h1 hm
  rw [Nat.mul_one] at h2
  refine ⟨by rw [List.length_take, hn, Nat.min_eq_left hm]; simpa [ptrs, List.map_take] using h2, fun p hp => h.all p (List.mem_of_mem_take hp)⟩
end Go.Proofs.Ytincgkolpicipaa.stack
