/- White space struck at both ends, plainly: at the code points and at the bytes it is the same. No program is named. -/
import Derived.Test.YtfdkgaipakannaaUtf
namespace Go.Proofs.Ytfdkgaipakannaa.strip
open Go.Proofs.Ytfdkgaipakannaa.utf

def blankN (r : Nat) : Bool := r == 32 || r == 9 || r == 13
def blankB (b : UInt8) : Bool := blankN b.toNat

/-- How many at the beginning, at most m. -/
def lead {α : Type} (p : α → Bool) (m : Nat) : List α → Nat
  | [] => 0
  | x :: l => match m with
    | 0 => 0
    | m + 1 => if p x then lead p m l + 1 else 0
/-- Without those at the end. -/
def dropEnd {α : Type} (p : α → Bool) : List α → List α
  | [] => []
  | x :: l => match dropEnd p l with
    | [] => if p x then [] else [x]
    | y :: r => x :: y :: r

theorem dropEnd_append_blank {α : Type} (p : α → Bool) (l r : List α) (h : dropEnd p r = []) : dropEnd p (l ++ r) = dropEnd p l := by
  induction l with
  | nil => simpa [dropEnd] using h
  | cons x l ih => simp only [List.cons_append, dropEnd, ih]
theorem dropEnd_append_not {α : Type} (p : α → Bool) (l r : List α) (h : dropEnd p r ≠ []) : dropEnd p (l ++ r) = l ++ dropEnd p r := by
  induction l with
  | nil => rfl
  | cons x l ih =>
    simp only [List.cons_append, dropEnd, ih]
    cases hl : l ++ dropEnd p r with
    | nil => simp at hl; exact (h hl.2).elim
    | cons y t => rfl

theorem encL_blank {r : Nat} (h : Scalar r) : blankN r = true → encL r = [UInt8.ofNat r] ∧ blankB (UInt8.ofNat r) = true := by
  intro hb
  have hr : r = 32 ∨ r = 9 ∨ r = 13 := by simpa [blankN, or_assoc] using hb
  rcases hr with rfl | rfl | rfl <;> exact ⟨by rw [encL_ascii (by omega)], by decide⟩
theorem encL_not {r : Nat} (h : Scalar r) (hb : blankN r = false) : encL r ≠ [] ∧ ∀ b ∈ encL r, blankB b = false := by
  by_cases hr : r < 128
  · rw [encL_ascii hr]
    refine ⟨by simp, fun b hm => ?_⟩
    rw [List.mem_singleton] at hm
    subst hm
    unfold blankB
    have : (UInt8.ofNat r).toNat = r := by simp; omega
    rw [this]; exact hb
  · obtain ⟨h1, h2⟩ := encL_high (by omega) h
    refine ⟨h1, fun b hm => ?_⟩
    have := h2 b hm
    unfold blankB blankN
    simp; omega

theorem dropEnd_all_not {α : Type} (p : α → Bool) (l : List α) (h : ∀ b ∈ l, p b = false) : dropEnd p l = l := by
  induction l with
  | nil => rfl
  | cons x l ih =>
    simp only [dropEnd, ih (fun b hb => h b (List.mem_cons_of_mem _ hb))]
    cases l with
    | nil => simp [h x (List.mem_cons_self ..)]
    | cons y t => rfl

/-- At the end: the same. -/
theorem dropEnd_enc : ∀ (rs : List Nat), (∀ r ∈ rs, Scalar r) → (dropEnd blankN rs).flatMap encL = dropEnd blankB (rs.flatMap encL) ∧ (dropEnd blankN rs = [] ↔ dropEnd blankB (rs.flatMap encL) = [])
  | [], _ => ⟨rfl, by simp [dropEnd]⟩
  | r :: rs, h => by
    obtain ⟨i1, i2⟩ := dropEnd_enc rs (fun x hx => h x (List.mem_cons_of_mem _ hx))
    have hs := h r (List.mem_cons_self ..)
    rw [List.flatMap_cons]
    cases hd : dropEnd blankN rs with
    | nil =>
      have hb := i2.1 hd
      rw [dropEnd_append_blank _ _ _ hb]
      simp only [dropEnd, hd]
      cases hc : blankN r
      · obtain ⟨n1, n2⟩ := encL_not hs hc
        rw [dropEnd_all_not _ _ n2]
        simp [n1]
      · obtain ⟨n1, n2⟩ := encL_blank hs hc
        rw [n1]
        simp [dropEnd, n2]
    | cons y t =>
      have hb : dropEnd blankB (rs.flatMap encL) ≠ [] := fun e => by rw [i2.2 e] at hd; cases hd
      rw [dropEnd_append_not _ _ _ hb]
      simp only [dropEnd, hd]
      rw [← i1, hd]
      refine ⟨rfl, ?_⟩
      simp only [List.flatMap_cons]
      constructor
      · intro e; cases e
      · intro e
        have h3 : encL r = [] := by
          have := congrArg List.length e
          simp at this
          exact this.1
        exfalso
        cases hc : blankN r
        · exact (encL_not hs hc).1 h3
        · rw [(encL_blank hs hc).1] at h3; cases h3

/-- At the beginning: the same number, and what is left is the same. -/
theorem lead_enc : ∀ (rs : List Nat) (m : Nat), (∀ r ∈ rs, Scalar r) → lead blankB m (rs.flatMap encL) = lead blankN m rs ∧ ∀ k, k ≤ lead blankN m rs → (rs.drop k).flatMap encL = (rs.flatMap encL).drop k
  | [], m, _ => ⟨by simp [lead], fun k hk => by simp⟩
  | r :: rs, 0, h => by
    refine ⟨?_, fun k hk => ?_⟩
    · cases hx : (r :: rs).flatMap encL <;> simp [lead]
    · simp [lead] at hk; subst hk; rfl
  | r :: rs, m + 1, h => by
    have hs := h r (List.mem_cons_self ..)
    obtain ⟨i1, i2⟩ := lead_enc rs m (fun x hx => h x (List.mem_cons_of_mem _ hx))
    cases hc : blankN r
    · obtain ⟨n1, n2⟩ := encL_not hs hc
      refine ⟨?_, fun k hk => ?_⟩
      · rw [List.flatMap_cons]
        cases he : encL r with
        | nil => exact (n1 he).elim
        | cons b t =>
          have := n2 b (by rw [he]; simp)
          simp [lead, this, hc]
      · simp [lead, hc] at hk; subst hk; rfl
    · obtain ⟨n1, n2⟩ := encL_blank hs hc
      refine ⟨?_, fun k hk => ?_⟩
      · rw [List.flatMap_cons, n1]
        simp only [List.singleton_append, lead, n2, hc, if_true, i1]
      · cases k with
        | zero => rfl
        | succ k =>
          simp only [lead, hc, if_true] at hk
          rw [List.flatMap_cons, n1]
          simp only [List.drop_succ_cons, List.singleton_append]
          exact i2 k (by omega)

theorem dropEnd_cons_not {α : Type} (p : α → Bool) (x : α) (l : List α) (h : p x = false) : dropEnd p (x :: l) = x :: dropEnd p l := by
  simp only [dropEnd]
  cases dropEnd p l with
  | nil => simp [h]
  | cons y t => rfl

/-- First at the beginning and then at the end, or the other way round: the same. -/
theorem strip_swap {α : Type} (p : α → Bool) : ∀ (l : List α) (m : Nat), dropEnd p (l.drop (lead p m l)) = (dropEnd p l).drop (lead p m (dropEnd p l))
  | [], m => by simp [lead, dropEnd]
  | x :: l, 0 => by
    cases h : dropEnd p (x :: l) <;> simp [lead, h]
  | x :: l, m + 1 => by
    cases hx : p x
    · rw [dropEnd_cons_not p x l hx]
      simp only [lead, hx, Bool.false_eq_true, if_false, List.drop_zero]
      rw [dropEnd_cons_not p x l hx]
    · simp only [lead, hx, if_true, List.drop_succ_cons]
      rw [strip_swap p l m]
      simp only [dropEnd]
      cases hd : dropEnd p l with
      | nil => simp [hx, lead]
      | cons y t => simp only [lead, hx, if_true, List.drop_succ_cons]

theorem lead_le {α : Type} (p : α → Bool) : ∀ (m : Nat) (l : List α), lead p m l ≤ l.length ∧ lead p m l ≤ m
  | _, [] => by simp [lead]
  | 0, _ :: _ => by simp [lead]
  | m + 1, x :: l => by
    have := lead_le p m l
    simp only [lead]
    split <;> simp <;> omega

/-- THE PLAIN LAW. -/
theorem strip_enc (rs : List Nat) (m : Nat) (h : ∀ r ∈ rs, Scalar r) :
    (dropEnd blankN (rs.drop (lead blankN m rs))).flatMap encL = (dropEnd blankB (rs.flatMap encL)).drop (lead blankB m (dropEnd blankB (rs.flatMap encL))) := by
  obtain ⟨l1, l2⟩ := lead_enc rs m h
  rw [(dropEnd_enc _ (fun r hr => h r (List.mem_of_mem_drop hr))).1, l2 _ (Nat.le_refl _), ← l1, strip_swap]
end Go.Proofs.Ytfdkgaipakannaa.strip
