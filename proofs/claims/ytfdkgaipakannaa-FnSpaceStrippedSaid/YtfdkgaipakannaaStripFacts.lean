/- Facts for the loops that strike white space. No program is named. -/
import Derived.Test.YtfdkgaipakannaaStripLaw
namespace Go.Proofs.Ytfdkgaipakannaa.strip
open Go.Proofs.Ytfdkgaipakannaa.utf

theorem lead_lt {p : Nat → Bool} : ∀ (m : Nat) (l : List Nat) (k : Nat), k < lead p m l → k < l.length ∧ k < m ∧ p (l.getD k 0) = true
  | _, [], k, h => by simp [lead] at h
  | 0, _ :: _, k, h => by simp [lead] at h
  | m + 1, x :: l, k, h => by
    simp only [lead] at h
    split at h
    · rename_i hx
      cases k with
      | zero => simp [hx]
      | succ k =>
        have := lead_lt (p := p) m l k (by omega)
        simpa using this
    · omega
theorem lead_end {p : Nat → Bool} : ∀ (m : Nat) (l : List Nat), lead p m l = l.length ∨ lead p m l = m ∨ (lead p m l < l.length ∧ lead p m l < m ∧ p (l.getD (lead p m l) 0) = false)
  | _, [] => by simp [lead]
  | 0, _ :: _ => by simp [lead]
  | m + 1, x :: l => by
    simp only [lead]
    cases hx : p x
    · simp [hx]
    · rcases lead_end m l (p := p) with h | h | ⟨h1, h2, h3⟩
      · left; simp [h]
      · right; left; simp [h]
      · right; right; simp only [if_true, List.length_cons, List.getD_cons_succ]; exact ⟨by omega, by omega, h3⟩

theorem dropEnd_take {α : Type} (p : α → Bool) : ∀ l : List α, dropEnd p l = l.take (dropEnd p l).length
  | [] => rfl
  | x :: l => by
    have ih := dropEnd_take p l
    simp only [dropEnd]
    cases hd : dropEnd p l with
    | nil => cases hx : p x <;> simp
    | cons y t =>
      rw [hd] at ih
      simp only [List.length_cons, List.take_succ_cons] at ih ⊢
      rw [← ih]
theorem dropEnd_len {α : Type} (p : α → Bool) (l : List α) : (dropEnd p l).length ≤ l.length := by
  have := congrArg List.length (dropEnd_take p l)
  rw [List.length_take] at this
  omega
theorem dropEnd_past {p : Nat → Bool} : ∀ (l : List Nat) (k : Nat), (dropEnd p l).length ≤ k → k < l.length → p (l.getD k 0) = true
  | [], k, _, h => by simp at h
  | x :: l, k, h1, h2 => by
    simp only [dropEnd] at h1
    cases hd : dropEnd p l with
    | nil =>
      rw [hd] at h1
      cases k with
      | zero =>
        cases hx : p x
        · simp [hx] at h1
        · simp [hx]
      | succ k =>
        have := dropEnd_past (p := p) l k (by rw [hd]; simp) (by simpa using h2)
        simpa using this
    | cons y t =>
      rw [hd] at h1
      cases k with
      | zero => simp at h1
      | succ k =>
        have := dropEnd_past (p := p) l k (by rw [hd]; simpa using h1) (by simpa using h2)
        simpa using this
theorem dropEnd_last {p : Nat → Bool} : ∀ (l : List Nat) (k : Nat), (dropEnd p l).length = k + 1 → p (l.getD k 0) = false
  | [], k, h => by simp [dropEnd] at h
  | x :: l, k, h => by
    simp only [dropEnd] at h
    cases hd : dropEnd p l with
    | nil =>
      rw [hd] at h
      cases hx : p x
      · simp [hx] at h; subst h; simp [hx]
      · simp [hx] at h
    | cons y t =>
      rw [hd] at h
      cases k with
      | zero => simp at h
      | succ k =>
        have := dropEnd_last (p := p) l k (by rw [hd]; simpa using h)
        simpa using this

/-- Over the bytes as numbers. -/
theorem lead_map {α β : Type} (f : α → β) (p : β → Bool) : ∀ (m : Nat) (l : List α), lead p m (l.map f) = lead (fun x => p (f x)) m l
  | _, [] => by simp [lead]
  | 0, _ :: _ => by simp [lead]
  | m + 1, x :: l => by simp only [List.map_cons, lead, lead_map f p m l]
theorem dropEnd_map {α β : Type} (f : α → β) (p : β → Bool) : ∀ l : List α, dropEnd p (l.map f) = (dropEnd (fun x => p (f x)) l).map f
  | [] => rfl
  | x :: l => by
    simp only [List.map_cons, dropEnd, dropEnd_map f p l]
    cases dropEnd (fun x => p (f x)) l with
    | nil => by_cases h : p (f x) = true <;> simp [h]
    | cons y t => rfl

/-- The bytes of a string as numbers. -/
def nums (s : ByteArray) : List Nat := s.data.toList.map UInt8.toNat
theorem nums_len (s : ByteArray) : (nums s).length = s.size := by simp [nums]
theorem nums_at (s : ByteArray) (k : Nat) (h : k < s.size) : (nums s).getD k 0 = byteAt s k := by
  have hd : k < s.data.size := h
  unfold nums byteAt
  have e : s.get! k = s.data[k] := by
    show s.data[k]! = s.data[k]
    rw [getElem!_pos s.data k hd]
  rw [e]
  simp [List.getD, Array.getElem?_eq_getElem hd]

/-- What is left of the bytes: from, to. -/
def toB (s : ByteArray) : Nat := (dropEnd blankN (nums s)).length
def fromB (s : ByteArray) (m : Nat) : Nat := lead blankN m (dropEnd blankN (nums s))
def specS (s : ByteArray) (m : Nat) : ByteArray := s.extract (fromB s m) (toB s)
theorem toB_le (s : ByteArray) : toB s ≤ s.size := by have := dropEnd_len blankN (nums s); rw [nums_len] at this; exact this
theorem fromB_le (s : ByteArray) (m : Nat) : fromB s m ≤ toB s := (lead_le _ _ _).1

theorem dropEnd_get {p : Nat → Bool} (l : List Nat) (k : Nat) (h : k < (dropEnd p l).length) : (dropEnd p l).getD k 0 = l.getD k 0 := by
  have e := dropEnd_take p l
  generalize dropEnd p l = q at e h ⊢
  rw [e, List.getD_eq_getElem?_getD, List.getD_eq_getElem?_getD, List.getElem?_take_of_lt h]
theorem fromB_yes (s : ByteArray) (m k : Nat) (h : k < fromB s m) : blankN (byteAt s k) = true ∧ k < toB s ∧ k < m := by
  obtain ⟨g1, g2, g3⟩ := lead_lt (p := blankN) m (dropEnd blankN (nums s)) k h
  have hT := toB_le s
  refine ⟨?_, g1, g2⟩
  rw [← nums_at s k (by unfold toB at hT; omega), ← dropEnd_get (p := blankN) _ _ g1]
  exact g3
theorem fromB_end (s : ByteArray) (m : Nat) : fromB s m = toB s ∨ fromB s m = m ∨ (fromB s m < toB s ∧ fromB s m < m ∧ blankN (byteAt s (fromB s m)) = false) := by
  have hT := toB_le s
  rcases lead_end (p := blankN) m (dropEnd blankN (nums s)) with g | g | ⟨g1, g2, g3⟩
  · exact .inl g
  · exact .inr (.inl g)
  · refine .inr (.inr ⟨g1, g2, ?_⟩)
    rw [← nums_at s (fromB s m) (Nat.lt_of_lt_of_le g1 hT)]
    show blankN ((nums s).getD (lead blankN m (dropEnd blankN (nums s))) 0) = false
    rw [← dropEnd_get (p := blankN) _ _ g1]
    exact g3
theorem toB_past (s : ByteArray) (t : Nat) (h : toB s ≤ t) (ht : t < s.size) : blankN (byteAt s t) = true := by
  rw [← nums_at s t ht]
  exact dropEnd_past (nums s) t h (by rw [nums_len]; exact ht)
theorem toB_last (s : ByteArray) : toB s = 0 ∨ ∃ t, toB s = t + 1 ∧ t < s.size ∧ blankN (byteAt s t) = false := by
  have hT := toB_le s
  cases ht : toB s with
  | zero => exact .inl rfl
  | succ t =>
    refine .inr ⟨t, rfl, by omega, ?_⟩
    rw [← nums_at s t (by omega)]
    exact dropEnd_last (nums s) t ht

/-- What is left of the code points. -/
def fromR (rs : List Nat) (m : Nat) : Nat := lead blankN m rs
def lenR (rs : List Nat) (m : Nat) : Nat := (dropEnd blankN (rs.drop (fromR rs m))).length
theorem fromR_le (rs : List Nat) (m : Nat) : fromR rs m ≤ rs.length := (lead_le _ _ _).1
theorem lenR_le (rs : List Nat) (m : Nat) : fromR rs m + lenR rs m ≤ rs.length := by
  have := dropEnd_len blankN (rs.drop (fromR rs m))
  have h2 := fromR_le rs m
  rw [List.length_drop] at this
  unfold lenR; omega
theorem fromR_yes (rs : List Nat) (m k : Nat) (h : k < fromR rs m) : k < rs.length ∧ k < m ∧ blankN (rs.getD k 0) = true := lead_lt m rs k h
theorem fromR_end (rs : List Nat) (m : Nat) : fromR rs m = rs.length ∨ fromR rs m = m ∨ (fromR rs m < rs.length ∧ fromR rs m < m ∧ blankN (rs.getD (fromR rs m) 0) = false) := lead_end m rs
theorem drop_get (rs : List Nat) (i k : Nat) : (rs.drop i).getD k 0 = rs.getD (i + k) 0 := by
  rw [List.getD_eq_getElem?_getD, List.getD_eq_getElem?_getD, List.getElem?_drop]
theorem lenR_past (rs : List Nat) (m t : Nat) (h : fromR rs m + lenR rs m ≤ t) (ht : t < rs.length) : blankN (rs.getD t 0) = true := by
  have := dropEnd_past (p := blankN) (rs.drop (fromR rs m)) (t - fromR rs m) (by unfold lenR at h; omega) (by rw [List.length_drop]; omega)
  rw [drop_get] at this
  rwa [show fromR rs m + (t - fromR rs m) = t by omega] at this
theorem lenR_last (rs : List Nat) (m : Nat) : lenR rs m = 0 ∨ ∃ t, lenR rs m = t + 1 ∧ blankN (rs.getD (fromR rs m + t) 0) = false := by
  cases ht : lenR rs m with
  | zero => exact .inl rfl
  | succ t =>
    refine .inr ⟨t, rfl, ?_⟩
    rw [← drop_get]
    exact dropEnd_last (p := blankN) _ t ht
def implS (rs : List Nat) (m : Nat) : ByteArray := runesBytes (((rs.drop (fromR rs m)).map fun r : Nat => (r : Int)).take (lenR rs m))

theorem runesBytes_fold (l : List Nat) (h : ∀ r ∈ l, Scalar r) : ∀ b : ByteArray, ((l.map fun r : Nat => (r : Int)).foldl (fun r n => r ++ Utf8.encode n) b).data.toList = b.data.toList ++ l.flatMap encL := by
  induction l with
  | nil => intro b; simp
  | cons x l ih =>
    intro b
    simp only [List.map_cons, List.foldl_cons, List.flatMap_cons]
    rw [ih (fun r hr => h r (List.mem_cons_of_mem _ hr)), ← encode_encL x (h x (List.mem_cons_self ..))]
    simp [ByteArray.data_append]
theorem runesBytes_enc (l : List Nat) (h : ∀ r ∈ l, Scalar r) : (runesBytes (l.map fun r : Nat => (r : Int))).data.toList = l.flatMap encL := by
  have := runesBytes_fold l h ByteArray.empty
  simpa [runesBytes] using this

theorem byteArray_ext {a b : ByteArray} (h : a.data.toList = b.data.toList) : a = b := by
  cases a; cases b; simp_all

/-- THE TWO ARE ONE. -/
theorem impl_spec (s : ByteArray) (rs : List Nat) (m : Nat) (hc : Chain s 0 rs) : implS rs m = specS s m := by
  apply byteArray_ext
  have hsc := hc.scalar
  have hby : s.data.toList = rs.flatMap encL := by have := hc.bytes; simpa using this
  unfold implS
  rw [← List.map_take, runesBytes_enc _ (fun r hr => hsc r (List.mem_of_mem_drop (List.mem_of_mem_take hr)))]
  have ht : (rs.drop (fromR rs m)).take (lenR rs m) = dropEnd blankN (rs.drop (fromR rs m)) := (dropEnd_take blankN _).symm
  rw [ht]
  have key := strip_enc rs m hsc
  unfold fromR
  rw [key, ← hby]
  have hB : ∀ l : List UInt8, dropEnd blankN (l.map UInt8.toNat) = (dropEnd blankB l).map UInt8.toNat := fun l => dropEnd_map UInt8.toNat blankN l
  have hL : ∀ l : List UInt8, lead blankN m (l.map UInt8.toNat) = lead blankB m l := fun l => lead_map UInt8.toNat blankN m l
  unfold specS fromB toB nums
  rw [hB, hL, List.length_map]
  have hx : (s.extract (lead blankB m (dropEnd blankB s.data.toList)) (dropEnd blankB s.data.toList).length).data.toList = (s.data.toList.take (dropEnd blankB s.data.toList).length).drop (lead blankB m (dropEnd blankB s.data.toList)) := by
    simp [ByteArray.data_extract, List.drop_take]
  rw [hx, ← dropEnd_take]
end Go.Proofs.Ytfdkgaipakannaa.strip
