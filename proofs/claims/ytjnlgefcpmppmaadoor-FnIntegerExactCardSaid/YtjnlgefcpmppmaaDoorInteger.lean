/- spec.Integer by contract. -/
import Derived.Test.YtjnlgefcpmppmaaDoorRows
import Derived.Test.YtjnlgefcpmppmaaDoorPoint
import Derived.Test.YtjnlgefcpmppmaaDoorIntLaw
import Derived.WalkKit
import Derived.WalkLawsBesides
import Derived.WalkSpells
import Derived.Lib.Hide
import Derived.Below
namespace Go.Proofs.YtjnlgefcpmppmaaDoor.ints
open Go.RowKit Go.Proofs.YtjnlgefcpmppmaaDoor.utf

/-- What the specification tells of a string, held against the library. -/
def ISpec (s : ByteArray) (n : Int) (ok sure : Bool) : Prop :=
  sure = true → (ok = true → Lib.parseIntB 64 s.data.toList = .ok n) ∧ (ok = false → ∀ v, Lib.parseIntB 64 s.data.toList ≠ .ok v)
def IPost (s : ByteArray) (w : World) (e : Ending) (w' : World) : Prop := ∃ n ok sure, e = .returned (.tuple #[.int .i64 n, .bool ok, .bool sure]) ∧ ISpec s n ok sure ∧ w = w'

instance (c : Nat) : Decidable (isD c) := inferInstanceAs (Decidable (48 ≤ c ∧ c ≤ 57))
theorem digit_any (c : Nat) (w : World) : Calls Tryd.prog 18 #[.int .u8 c] w fun e w' => e = .returned (.bool (decide (isD c))) ∧ w = w' := by
  by_cases h1 : 48 ≤ c
  · by_cases h2 : c ≤ 57
    · have hd : decide (isD c) = true := decide_eq_true ⟨h1, h2⟩
      have e : decide ((c : Int) ≤ 57) = true := decide_eq_true (by omega)
      rw [hd]
      clear hd
      go_enter Tryd.func18, Tryd.ntmps18
      go_wp2
      go_ret
      exact ⟨rfl, rfl⟩
    · have hd : decide (isD c) = false := decide_eq_false (fun h => h2 h.2)
      have e : decide ((c : Int) ≤ 57) = false := decide_eq_false (by omega)
      rw [hd]
      clear hd
      go_enter Tryd.func18, Tryd.ntmps18
      go_wp2
      go_ret
      exact ⟨rfl, rfl⟩
  · have hd : decide (isD c) = false := decide_eq_false (fun h => h1 h.1)
    rw [hd]
    clear hd
    go_enter Tryd.func18, Tryd.ntmps18
    go_wp2
    go_ret
    exact ⟨rfl, rfl⟩

theorem full (s : ByteArray) (h : 0 < s.size) : s.toList.isEmpty = false := by
  rw [ByteArray.toList_eq]
  cases hl : s.data.toList with
  | nil =>
    have h1 : s.data.toList.length = s.size := by simp
    rw [hl] at h1
    have h2 : 0 = s.size := h1
    omega
  | cons _ _ => rfl
theorem void (s : ByteArray) (h : s.size = 0) : s.toList.isEmpty = true := by
  rw [ByteArray.toList_eq]
  have : s.data.toList.length = 0 := by simpa using h
  rw [List.length_eq_zero_iff.1 this]; rfl
theorem index0 (s : ByteArray) (b : Nat) (h : 0 < s.size) (hb : byteAt s 0 = b) (w : World) : (Instr.index 9 (.string s) (.int .i64 0)).run Tryd.prog w = .ok (.int .u8 b) w := by
  rw [← hb]; exact index_run s 0 h w

set_option maxRecDepth 100000 in
theorem integer_plus (s : ByteArray) (w : World) (h0 : 0 < s.size) (hb0 : byteAt s 0 = 43) :
    Calls Tryd.prog 11 #[.string s] w (IPost s w) := by
  have hi0 := index0 s 43 h0 hb0
  have hne := full s h0
  clear h0 hb0
  go_enter Tryd.func11, Tryd.ntmps11
  go_wp2
  go_ret3
  exact ⟨_, _, _, rfl, (fun h => by cases h), rfl⟩

set_option maxRecDepth 100000 in
theorem integer_plain (s : ByteArray) (w : World) (hs : s.size ≤ 1000000) (h0 : 0 < s.size) (b0 : Nat) (hb0 : byteAt s 0 = b0) (h43 : b0 ≠ 43) (h45 : b0 ≠ 45) :
    Calls Tryd.prog 11 #[.string s] w (IPost s w) := by
  have hi0 := index0 s b0 h0 hb0
  have hne := full s h0
  have hc : ((b0 : Int) == 45) = false := by simp; omega
  have hc2 : ((b0 : Int) == 43) = false := by simp; omega
  have H0 := Lib.hid h0
  clear h0
  go_enter Tryd.func11, Tryd.ntmps11
  go_wp2
  go_loopw [2, 7] (fun n i wr => ∃ k : Nat, n = .int .i64 0 ∧ i = .int .i64 k ∧ k ≤ s.size ∧ wr = w ∧ Hid (∀ j, j < k → isD (byteAt s j))) (fun _ i _ => s.size - (intOf i).toNat)
  case atStart => exact ⟨0, rfl, rfl, by omega, rfl, fun j hj => by omega⟩
  case round =>
    obtain ⟨k, rfl, rfl, hk, rfl, hd⟩ := hrel
    by_cases hlt : k < s.size
    · have hik := index_run s k hlt
      obtain ⟨c, hcv⟩ : ∃ c, byteAt s k = c := ⟨_, rfl⟩
      have hlz : (k : Int) < (s.size : Int) := by omega
      rw [hcv] at hik
      have hw : wrap64 ((k : Int) + 1) = ((k + 1 : Nat) : Int) := by unfold wrap64; omega
      have HD := Lib.hid (digit_any c)
      have HLT := Lib.hid hlt
      clear hlt
      by_cases hdg : isD c
      · rw [decide_eq_true hdg] at HD
        go_wp2_with (go_at_call 18; refine (HD.out _).mono ?_; rintro e w' ⟨rfl, rfl⟩)
        refine ⟨⟨k + 1, rfl, by simp, by have := HLT.out; omega, trivial, ?_⟩, ?_⟩
        · intro j hj
          rcases Nat.lt_or_ge j k with g | g
          · exact hd j g
          · have : j = k := by omega
            subst this; rw [hcv]; exact hdg
        · have := HLT.out
          simp [intOf]; omega
      · rw [decide_eq_false hdg] at HD
        go_wp2_with (go_at_call 18; refine (HD.out _).mono ?_; rintro e w' ⟨rfl, rfl⟩)
        go_ret3
        refine ⟨_, _, _, rfl, fun _ => ⟨(fun h => by cases h), fun _ v => ?_⟩, rfl⟩
        exact plain_bad k HLT.out (by omega) (by omega) (by rw [hcv]; exact hdg) v
    · have hks : k = s.size := by omega
      subst hks
      have hdig : dig s := fun j hj => hd.out j hj
      by_cases h15 : s.size ≤ 15
      · have HDG := Lib.hid hdig
        clear hdig hd hlt hk
        go_wp2
        go_loopw [2, 8] (fun n i wx => ∃ k : Nat, i = .int .i64 k ∧ n = .int .i64 (valN s k) ∧ k ≤ s.size ∧ wx = wr) (fun _ i _ => s.size - (intOf i).toNat)
        case atStart => exact ⟨0, rfl, rfl, by omega, rfl⟩
        case round =>
          obtain ⟨k, rfl, rfl, hk, rfl⟩ := hrel
          by_cases hlt : k < s.size
          · have hik := index_run s k hlt
            obtain ⟨c, hcv⟩ : ∃ c, byteAt s k = c := ⟨_, rfl⟩
            have hlz : (k : Int) < (s.size : Int) := by omega
            have hdk := HDG.out k hlt
            have hvl := valN_le HDG.out k (by omega) h15
            rw [hcv] at hik hdk
            unfold isD at hdk
            have hw : wrap64 ((k : Int) + 1) = ((k + 1 : Nat) : Int) := by unfold wrap64; omega
            have HLT := Lib.hid hlt
            clear hlt
            go_wp2
            refine ⟨⟨k + 1, by simp, ?_, by have := HLT.out; omega, trivial⟩, ?_⟩
            · simp only [valN, hcv]
              congr 1
              omega
            · have := HLT.out
              simp [intOf]; omega
          · have hks : k = s.size := by omega
            subst hks
            have hp := plain_ok H0.out (by omega) HDG.out h15
            have HP := Lib.hid hp
            clear hp
            go_wp2
            go_ret3
            exact ⟨_, _, _, rfl, fun _ => ⟨fun _ => HP.out, (fun h => by cases h)⟩, rfl⟩
      · have h15' : (15 : Int) < (s.size : Int) := by omega
        go_wp2
        go_ret3
        exact ⟨_, _, _, rfl, (fun h => by cases h), rfl⟩

set_option maxRecDepth 100000 in
theorem integer_minus (s l : ByteArray) (w : World) (hs : s.size ≤ 1000000) (h0 : 0 < s.size) (hb0 : byteAt s 0 = 45) (hl : s.extract 1 s.size = l) (h1 : 0 < l.size) (b1 : Nat) (hb1 : byteAt l 0 = b1) (h43 : b1 ≠ 43) :
    Calls Tryd.prog 11 #[.string s] w (IPost s w) := by
  have hi0 := index0 s 45 h0 hb0
  have hi1 := index0 l b1 h1 hb1
  have hne := full s h0
  have hne1 := full l h1
  have hls : l.size ≤ 1000000 := by
    rw [← hl, ByteArray.size_extract]; omega
  have hc2 : ((b1 : Int) == 43) = false := by simp; omega
  have H0 := Lib.hid h0
  have H1 := Lib.hid h1
  have HL := Lib.hid hl.symm
  have hz : (1 : Int) ≤ (s.size : Int) := by omega
  clear h0 h1
  go_enter Tryd.func11, Tryd.ntmps11
  go_wp2
  go_loopw [2, 7] (fun n i wr => ∃ k : Nat, n = .int .i64 0 ∧ i = .int .i64 k ∧ k ≤ l.size ∧ wr = w ∧ Hid (∀ j, j < k → isD (byteAt l j))) (fun _ i _ => l.size - (intOf i).toNat)
  case atStart => exact ⟨0, rfl, rfl, by omega, rfl, fun j hj => by omega⟩
  case round =>
    obtain ⟨k, rfl, rfl, hk, rfl, hd⟩ := hrel
    by_cases hlt : k < l.size
    · have hik := index_run l k hlt
      obtain ⟨c, hcv⟩ : ∃ c, byteAt l k = c := ⟨_, rfl⟩
      have hlz : (k : Int) < (l.size : Int) := by omega
      rw [hcv] at hik
      have hw : wrap64 ((k : Int) + 1) = ((k + 1 : Nat) : Int) := by unfold wrap64; omega
      have HD := Lib.hid (digit_any c)
      have HLT := Lib.hid hlt
      clear hlt
      by_cases hdg : isD c
      · rw [decide_eq_true hdg] at HD
        go_wp2_with (go_at_call 18; refine (HD.out _).mono ?_; rintro e w' ⟨rfl, rfl⟩)
        refine ⟨⟨k + 1, rfl, by simp, by have := HLT.out; omega, trivial, ?_⟩, ?_⟩
        · intro j hj
          rcases Nat.lt_or_ge j k with g | g
          · exact hd j g
          · have : j = k := by omega
            subst this; rw [hcv]; exact hdg
        · have := HLT.out
          simp [intOf]; omega
      · rw [decide_eq_false hdg] at HD
        go_wp2_with (go_at_call 18; refine (HD.out _).mono ?_; rintro e w' ⟨rfl, rfl⟩)
        go_ret3
        refine ⟨_, _, _, rfl, fun _ => ⟨(fun h => by cases h), fun _ v => ?_⟩, rfl⟩
        exact minus_bad HL.out H0.out hb0 (.inr ⟨k, HLT.out, by rw [hcv]; exact hdg⟩) v
    · have hks : k = l.size := by omega
      subst hks
      have hdig : dig l := fun j hj => hd.out j hj
      by_cases h15 : l.size ≤ 15
      · have HDG := Lib.hid hdig
        clear hdig hd hlt hk
        go_wp2
        go_loopw [2, 8] (fun n i wx => ∃ k : Nat, i = .int .i64 k ∧ n = .int .i64 (valN l k) ∧ k ≤ l.size ∧ wx = wr) (fun _ i _ => l.size - (intOf i).toNat)
        case atStart => exact ⟨0, rfl, rfl, by omega, rfl⟩
        case round =>
          obtain ⟨k, rfl, rfl, hk, rfl⟩ := hrel
          by_cases hlt : k < l.size
          · have hik := index_run l k hlt
            obtain ⟨c, hcv⟩ : ∃ c, byteAt l k = c := ⟨_, rfl⟩
            have hlz : (k : Int) < (l.size : Int) := by omega
            have hdk := HDG.out k hlt
            have hvl := valN_le HDG.out k (by omega) h15
            rw [hcv] at hik hdk
            unfold isD at hdk
            have hw : wrap64 ((k : Int) + 1) = ((k + 1 : Nat) : Int) := by unfold wrap64; omega
            have HLT := Lib.hid hlt
            clear hlt
            go_wp2
            refine ⟨⟨k + 1, by simp, ?_, by have := HLT.out; omega, trivial⟩, ?_⟩
            · simp only [valN, hcv]
              congr 1
              omega
            · have := HLT.out
              simp [intOf]; omega
          · have hks : k = l.size := by omega
            subst hks
            have hp := minus_ok HL.out H0.out hb0 H1.out HDG.out h15
            have hvl := valN_le HDG.out l.size (Nat.le_refl _) h15
            have HP := Lib.hid hp
            have hng : wrap64 (-(valN l l.size : Int)) = -(valN l l.size : Int) := by unfold wrap64; omega
            clear hp
            go_wp2
            all_goals go_ret3
            all_goals first
              | exact ⟨_, _, _, rfl, fun _ => ⟨fun _ => HP.out, (fun h => by cases h)⟩, rfl⟩
              | exact ⟨_, _, _, rfl, (fun h => by cases h), rfl⟩
      · have h15' : (15 : Int) < (l.size : Int) := by omega
        go_wp2
        go_ret3
        exact ⟨_, _, _, rfl, (fun h => by cases h), rfl⟩

set_option maxRecDepth 100000 in
theorem integer_minus_plus (s l : ByteArray) (w : World) (hs : s.size ≤ 1000000) (h0 : 0 < s.size) (hb0 : byteAt s 0 = 45) (hl : s.extract 1 s.size = l) (h1 : 0 < l.size) (hb1 : byteAt l 0 = 43) :
    Calls Tryd.prog 11 #[.string s] w (IPost s w) := by
  have hi0 := index0 s 45 h0 hb0
  have hi1 := index0 l 43 h1 hb1
  have hne := full s h0
  have hne1 := full l h1
  have hz : (1 : Int) ≤ (s.size : Int) := by omega
  clear h0 h1 hb0 hb1
  go_enter Tryd.func11, Tryd.ntmps11
  go_wp2
  go_ret3
  exact ⟨_, _, _, rfl, (fun h => by cases h), rfl⟩

set_option maxRecDepth 100000 in
theorem integer_minus_none (s l : ByteArray) (w : World) (hs : s.size ≤ 1000000) (h0 : 0 < s.size) (hb0 : byteAt s 0 = 45) (hl : s.extract 1 s.size = l) (h1 : l.size = 0) :
    Calls Tryd.prog 11 #[.string s] w (IPost s w) := by
  have hi0 := index0 s 45 h0 hb0
  have hne := full s h0
  have hne1 := void l h1
  have hz : (1 : Int) ≤ (s.size : Int) := by omega
  have HB := Lib.hid (fun v => minus_bad hl.symm h0 hb0 (.inl h1) v)
  clear h0 hb0
  go_enter Tryd.func11, Tryd.ntmps11
  go_wp2
  refine wp_loop_rounds 1 ?_
  rw [rounds_succ]
  go_wp2
  refine wp_loop_rounds 1 ?_
  rw [rounds_succ]
  go_wp2
  go_ret3
  exact ⟨_, _, _, rfl, fun _ => ⟨(fun h => by cases h), fun _ v => HB.out v⟩, rfl⟩

set_option maxRecDepth 100000 in
theorem integer_none (s : ByteArray) (w : World) (h0 : s.size = 0) :
    Calls Tryd.prog 11 #[.string s] w (IPost s w) := by
  have hne := void s h0
  have HB := Lib.hid (fun v => empty_bad h0 v)
  go_enter Tryd.func11, Tryd.ntmps11
  go_wp2
  refine wp_loop_rounds 1 ?_
  rw [rounds_succ]
  go_wp2
  refine wp_loop_rounds 1 ?_
  rw [rounds_succ]
  go_wp2
  go_ret3
  exact ⟨_, _, _, rfl, fun _ => ⟨(fun h => by cases h), fun _ v => HB.out v⟩, rfl⟩

theorem integer_any (s : ByteArray) (w : World) (hs : s.size ≤ 1000000) : Calls Tryd.prog 11 #[.string s] w (IPost s w) := by
  by_cases h0 : s.size = 0
  · exact integer_none s w h0
  · have hp : 0 < s.size := by omega
    by_cases h45 : byteAt s 0 = 45
    · by_cases h1 : (s.extract 1 s.size).size = 0
      · exact integer_minus_none s _ w hs hp h45 rfl h1
      · by_cases h43 : byteAt (s.extract 1 s.size) 0 = 43
        · exact integer_minus_plus s _ w hs hp h45 rfl (by omega) h43
        · exact integer_minus s _ w hs hp h45 rfl (by omega) _ rfl h43
    · by_cases h43 : byteAt s 0 = 43
      · exact integer_plus s w hp h43
      · exact integer_plain s w hs hp _ rfl h43 h45
end Go.Proofs.YtjnlgefcpmppmaaDoor.ints
