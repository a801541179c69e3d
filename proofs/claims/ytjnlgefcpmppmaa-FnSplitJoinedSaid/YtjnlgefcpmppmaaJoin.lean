/- Strings put together, one after the other, from the left or from the right. -/
import Derived.Test.YtjnlgefcpmppmaaCat
namespace Go.Proofs.Ytjnlgefcpmppmaa.joined
open Go.RowKit Go.Proofs.Ytjnlgefcpmppmaa.utf
/-- The strings lie in memory. -/
def Strs (w : World) (b off : Nat) (ss : List ByteArray) : Prop := ∀ j, j < ss.length → w.cell? ⟨b, off + j, none⟩ = some (.string (ss.getD j ByteArray.empty))
theorem Strs.keep {w w' : World} {b off : Nat} {ss : List ByteArray} (h : Strs w b off ss) (hb : Below w.heap.size w w') : Strs w' b off ss := fun j hj => joined.keep hb (h j hj)
/-- Their code points. -/
def Pts (ss : List ByteArray) (us : List (List Nat)) : Prop := us.length = ss.length ∧ ∀ j, j < ss.length → Chain (ss.getD j ByteArray.empty) 0 (us.getD j [])
theorem getD_at (us : List (List Nat)) (k : Nat) (h : k < us.length) : us.getD k [] = us[k] := by simp [List.getD, List.getElem?_eq_getElem h]
theorem take_flat (us : List (List Nat)) (k : Nat) (h : k < us.length) : (us.take (k + 1)).flatten = (us.take k).flatten ++ us.getD k [] := by
  rw [List.take_succ_eq_append_getElem h, List.flatten_append, getD_at us k h, List.flatten_cons, List.flatten_nil, List.append_nil]
theorem drop_flat (us : List (List Nat)) (k : Nat) (h : k < us.length) : (us.drop k).flatten = us.getD k [] ++ (us.drop (k + 1)).flatten := by
  rw [List.drop_eq_getElem_cons h, List.flatten_cons, getD_at us k h]
theorem flat_take_le (us : List (List Nat)) (k : Nat) : (us.take k).flatten.length ≤ us.flatten.length := by
  conv => rhs; rw [← List.take_append_drop k us, List.flatten_append, List.length_append]
  omega
theorem flat_drop_le (us : List (List Nat)) (k : Nat) : (us.drop k).flatten.length ≤ us.flatten.length := by
  conv => rhs; rw [← List.take_append_drop k us, List.flatten_append, List.length_append]
  omega
def LInv (w : World) (us : List (List Nat)) (k : Nat) (v : Value) (wr : World) : Prop := Str w.heap.size wr v (us.take k).flatten ∧ Below w.heap.size w wr
set_option maxRecDepth 100000 in
theorem left_any (b off n c : Nat) (ss : List ByteArray) (us : List (List Nat)) (w : World) (hn : n = ss.length) (hS : Strs w b off ss) (hP : Pts ss us) (hmax : us.flatten.length ≤ 400000) (hn2 : n ≤ 200) :
    Calls Try.prog 20 #[.slice (some ⟨b, off, none⟩) n c, .bool false] w (Makes w.heap.size w us.flatten) := by
  have HS := Lib.hid hS
  have HP := Lib.hid hP
  have HN := Lib.hid hn
  clear hS hP hn
  go_enter Try.func20, Try.ntmps20
  go_wp2_with (go_at_call 29; refine (empty_any _).mono ?_; rintro e w' ⟨rfl, rfl⟩)
  go_loopw [5, 11] (fun v i wr => ∃ k : Nat, i = .int .i64 k ∧ k ≤ n ∧ LInv w us k v wr) (fun _ i _ => n - (intOf i).toNat)
  case atStart => exact ⟨0, rfl, by omega, flat_new w.heap.size w (Nat.le_refl _) none 0 0 [] rfl (.inl rfl), (Below.refl _ _).alloc (Nat.le_refl _) _⟩
  case round =>
    obtain ⟨k, rfl, hk, hI⟩ := hrel
    have HI := Lib.hid hI
    clear hI
    by_cases hlt : k < n
    · have hcell := (HS.out.keep HI.out.2) k (by rw [← HN.out]; exact hlt)
      have hch := HP.out.2 k (by rw [← HN.out]; exact hlt)
      have hl : (us.getD k []).length ≤ 400000 := by
        have h1 := take_flat us k (by rw [HP.out.1, ← HN.out]; exact hlt)
        have h2 := flat_take_le us (k + 1)
        rw [h1, List.length_append] at h2
        omega
      generalize ss.getD k ByteArray.empty = s at hcell hch
      have HC := Lib.hid hch
      clear hch
      go_wp2_with fail
      refine (make_any w.heap.size s (us.getD k []) wr HI.out.2.size HC.out (by omega)).mono ?_
      rintro e w1 ⟨⟨v1, rfl, hv1⟩, hb1⟩
      have H1 := Lib.hid hv1
      have HB1 := Lib.hid hb1
      clear hv1 hb1 hcell
      go_wp2_with fail
      refine (concat_any w.heap.size u5 v1 (us.take k).flatten (us.getD k []) w1 (HI.out.1.keep HB1.out) H1.out (by have := flat_take_le us k; omega)).mono ?_
      rintro e w2 ⟨⟨v2, rfl, hv2⟩, hb2⟩
      have hN : LInv w us (k + 1) v2 w2 := ⟨by rw [take_flat us k (by rw [HP.out.1, ← HN.out]; exact hlt)]; exact hv2, (HI.out.2.trans (HB1.out.mono HI.out.2.size)).trans (hb2.mono (Nat.le_trans HI.out.2.size HB1.out.size))⟩
      have H2 := Lib.hid hN
      clear hv2 hb2 hN H1 HB1 HI
      go_wp2_with fail
      go_roundw
      case rel => exact ⟨k + 1, by go_num, by omega, H2.out⟩
      case measure => simp [intOf]; omega
    · have hk2 : k = n := by omega
      have hv := HI.out.1
      rw [List.take_of_length_le (by rw [HP.out.1, ← HN.out]; omega)] at hv
      have HV := Lib.hid hv
      have HB := Lib.hid HI.out.2
      clear hv HI
      go_wp2_with fail
      go_ret
      exact ⟨⟨_, rfl, HV.out⟩, HB.out⟩
def RInv (w : World) (us : List (List Nat)) (k : Nat) (v : Value) (wr : World) : Prop := Str w.heap.size wr v (us.drop (us.length - k)).flatten ∧ Below w.heap.size w wr
set_option maxRecDepth 100000 in
theorem right_any (b off n c : Nat) (ss : List ByteArray) (us : List (List Nat)) (w : World) (hn : n = ss.length) (hS : Strs w b off ss) (hP : Pts ss us) (hmax : us.flatten.length ≤ 400000) (hn2 : n ≤ 200) :
    Calls Try.prog 20 #[.slice (some ⟨b, off, none⟩) n c, .bool true] w (Makes w.heap.size w us.flatten) := by
  have HS := Lib.hid hS
  have HP := Lib.hid hP
  have HN := Lib.hid hn
  clear hS hP hn
  go_enter Try.func20, Try.ntmps20
  go_wp2_with (go_at_call 29; refine (empty_any _).mono ?_; rintro e w' ⟨rfl, rfl⟩)
  go_loopw [5, 11] (fun v i wr => ∃ k : Nat, i = .int .i64 k ∧ k ≤ n ∧ RInv w us k v wr) (fun _ i _ => n - (intOf i).toNat)
  case atStart => exact ⟨0, rfl, by omega, (by rw [Nat.sub_zero, List.drop_length]; exact flat_new w.heap.size w (Nat.le_refl _) none 0 0 [] rfl (.inl rfl)), (Below.refl _ _).alloc (Nat.le_refl _) _⟩
  case round =>
    obtain ⟨k, rfl, hk, hI⟩ := hrel
    have HI := Lib.hid hI
    clear hI
    by_cases hlt : k < n
    · have hu : us.length = n := by rw [HP.out.1, ← HN.out]
      have hcell := (HS.out.keep HI.out.2) (n - 1 - k) (by rw [← HN.out]; omega)
      have hch := HP.out.2 (n - 1 - k) (by rw [← HN.out]; omega)
      have h1 := drop_flat us (n - 1 - k) (by omega)
      have h2 := flat_drop_le us (n - 1 - k)
      generalize us.getD (n - 1 - k) [] = x at hch h1
      rw [h1, List.length_append] at h2
      rw [show n - 1 - k + 1 = us.length - k by omega, show n - 1 - k = us.length - (k + 1) by omega] at h1
      rw [show n - 1 - k + 1 = us.length - k by omega] at h2
      have H0 := Lib.hid h1
      clear h1 hu
      generalize ss.getD (n - 1 - k) ByteArray.empty = s at hcell hch
      have HC := Lib.hid hch
      clear hch
      go_wp2_with fail
      refine (make_any w.heap.size s x wr HI.out.2.size HC.out (by omega)).mono ?_
      rintro e w1 ⟨⟨v1, rfl, hv1⟩, hb1⟩
      have H1 := Lib.hid hv1
      have HB1 := Lib.hid hb1
      clear hv1 hb1 hcell
      go_wp2_with fail
      refine (concat_any w.heap.size v1 u5 x (us.drop (us.length - k)).flatten w1 H1.out (HI.out.1.keep HB1.out) (by omega)).mono ?_
      rintro e w2 ⟨⟨v2, rfl, hv2⟩, hb2⟩
      have hN : RInv w us (k + 1) v2 w2 := ⟨by rw [H0.out]; exact hv2, (HI.out.2.trans (HB1.out.mono HI.out.2.size)).trans (hb2.mono (Nat.le_trans HI.out.2.size HB1.out.size))⟩
      have H2 := Lib.hid hN
      clear hv2 hb2 hN H1 HB1 HI
      go_wp2_with fail
      go_roundw
      case rel => exact ⟨k + 1, by go_num, by omega, H2.out⟩
      case measure => simp [intOf]; omega
    · have hk2 : k = n := by omega
      have hv := HI.out.1
      rw [show us.length - k = 0 by rw [HP.out.1, ← HN.out]; omega, List.drop_zero] at hv
      have HV := Lib.hid hv
      have HB := Lib.hid HI.out.2
      clear hv HI
      go_wp2_with fail
      go_ret
      exact ⟨⟨_, rfl, HV.out⟩, HB.out⟩
end Go.Proofs.Ytjnlgefcpmppmaa.joined
