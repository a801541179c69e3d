/- FnStepsTwice: the plain law: an object that is added twice is as if it were added once. No program in sight. -/
import Derived.Sort.KeysCollected
namespace Go.Proofs.YtincgkolpicipaaDoor.twice
/-- Which fields there are, and how each is seen. -/
abbrev Vw := List UInt8 → Option Int
structure Sp where
  is : Bool
  rem : List UInt8
  names : List (List UInt8)
  hides : List Int
def simV (names : List (List UInt8)) (hides : List Int) : Nat → Vw
  | 0 => fun _ => none
  | k + 1 => fun s => if names[k]? = some s then hides[k]? else simV names hides k s
def extV (f g : Vw) : Vw := fun s => match g s with
  | none => f s
  | some v => if v = 1 then (match f s with | none => some v | some u => some u) else some v
def delV (f : Vw) (k : List UInt8) : Vw := fun s => if s = k then none else f s
def objV (s : Sp) : Vw := simV s.names s.hides s.names.length
def stepV (f : Vw) (i : Nat) (s : Sp) : Vw := if s.is then delV f s.rem else if i = 0 then objV s else extV f (objV s)
def chainV (es : List Sp) : Nat → Vw
  | 0 => fun _ => none
  | k + 1 => match es[k]? with
    | some s => stepV (chainV es k) k s
    | none => chainV es k
theorem ext_twice (f g : Vw) : extV (extV f g) g = extV f g := by
  funext s
  unfold extV
  cases hg : g s with
  | none => rfl
  | some v =>
    by_cases h : v = 1
    · simp only [h, if_true]
      cases hf : f s <;> rfl
    · simp [h]
theorem ext_self (g : Vw) : extV g g = g := by
  funext s
  unfold extV
  cases hg : g s with
  | none => rfl
  | some v => by_cases h : v = 1 <;> simp [h]
theorem del_twice (f : Vw) (k : List UInt8) : delV (delV f k) k = delV f k := by
  funext s
  unfold delV
  by_cases h : s = k <;> simp [h]
theorem step_twice (f : Vw) (i : Nat) (s : Sp) : stepV (stepV f i s) (i + 1) s = stepV f i s := by
  unfold stepV
  by_cases hs : s.is = true
  · simp only [hs, if_true]
    exact del_twice f s.rem
  · simp only [hs]
    by_cases h : i = 0
    · simp [h, ext_self]
    · simp [h, ext_twice]
theorem chain_succ {es : List Sp} {k : Nat} {s : Sp} (h : es[k]? = some s) : chainV es (k + 1) = stepV (chainV es k) k s := by rw [chainV, h]
/-- Steps with one of them twice. -/
def put (es : List Sp) (i : Nat) : List Sp := match es[i]? with
  | some s => es.take i ++ s :: es.drop i
  | none => es
theorem put_eq {es : List Sp} {i : Nat} {s : Sp} (h : es[i]? = some s) : put es i = es.take i ++ s :: es.drop i := by rw [put, h]
theorem put_len {es : List Sp} {i : Nat} (h : i < es.length) : (put es i).length = es.length + 1 := by
  rw [put_eq (List.getElem?_eq_getElem h)]
  simp; omega
theorem put_low {es : List Sp} {i j : Nat} (h : i < es.length) (hj : j ≤ i) : (put es i)[j]? = es[j]? := by
  have hs : es[i]? = some es[i] := List.getElem?_eq_getElem h
  rw [put_eq hs]
  by_cases e : j = i
  · subst e
    rw [List.getElem?_append_right (by simp; omega)]
    simp only [List.length_take]
    rw [show j - min j es.length = 0 by omega, List.getElem?_cons_zero, hs]
  · rw [List.getElem?_append_left (by simp; omega), List.getElem?_take_of_lt (by omega)]
theorem put_high {es : List Sp} {i j : Nat} (h : i < es.length) (hj : i ≤ j) : (put es i)[j + 1]? = es[j]? := by
  have hs : es[i]? = some es[i] := List.getElem?_eq_getElem h
  rw [put_eq hs, List.getElem?_append_right (by simp; omega)]
  simp only [List.length_take]
  rw [show j + 1 - min i es.length = (j - i) + 1 by omega, List.getElem?_cons_succ, List.getElem?_drop]
  congr 1; omega
theorem chain_low {es : List Sp} {i : Nat} (h : i < es.length) : ∀ k, k ≤ i + 1 → chainV (put es i) k = chainV es k
  | 0, _ => rfl
  | k + 1, hk => by
    have hs : es[k]? = some es[k] := List.getElem?_eq_getElem (by omega)
    rw [chain_succ hs, chain_succ ((put_low h (by omega)).trans hs), chain_low h k (by omega)]
theorem chain_high {es : List Sp} {i : Nat} (h : i < es.length) : ∀ k, i < k → k ≤ es.length → chainV (put es i) (k + 1) = chainV es k
  | 0, hk, _ => by omega
  | k + 1, hk, hl => by
    have hs : es[k]? = some es[k] := List.getElem?_eq_getElem (by omega)
    rw [chain_succ ((put_high h (by omega)).trans hs), chain_succ hs]
    by_cases e : i = k
    · subst e
      rw [chain_low h (i + 1) (Nat.le_refl _), chain_succ hs, step_twice]
    · rw [chain_high h k (by omega) (by omega)]
      unfold stepV
      rw [if_neg (show ¬ k + 1 = 0 by omega), if_neg (show ¬ k = 0 by omega)]
/-- THE PLAIN LAW. -/
theorem chain_put {es : List Sp} {i : Nat} (h : i < es.length) : chainV (put es i) (put es i).length = chainV es es.length := by
  rw [put_len h]; exact chain_high h es.length h (Nat.le_refl _)
/-- Two lists of the keys of one view, sorted, are the same. -/
theorem keys_same {f : Vw} {ss ts : List (List UInt8)} (h1 : ss.Nodup) (h2 : ∀ x, x ∈ ss ↔ (f x).isSome = true) (h3 : ts.Nodup) (h4 : ∀ x, x ∈ ts ↔ (f x).isSome = true) : ss.mergeSort leB = ts.mergeSort leB :=
  mergeSort_of_perm ((List.perm_ext_iff_of_nodup h1 h3).2 fun x => by rw [h2, h4])
end Go.Proofs.YtincgkolpicipaaDoor.twice
