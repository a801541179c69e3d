/- White space struck at both ends: the walks of the code's own function and of the reference. -/
import Derived.Test.YtfdkgaipakannaaRows
import Derived.Test.YtfdkgaipakannaaPoint
import Derived.Test.YtfdkgaipakannaaStripFacts
import Derived.Below
namespace Go.Proofs.Ytfdkgaipakannaa.strip
open Go.RowKit Go.Proofs.Ytfdkgaipakannaa.utf

theorem blank8 (b : Nat) (w : World) : Calls Try.prog 18 #[.int .u8 b] w fun e w' => e = .returned (.bool (blankN b)) ∧ w = w' := by
  by_cases h1 : b = 32
  · subst h1
    go_enter Try.func18, Try.ntmps18
    go_wp2
    go_ret
    exact ⟨rfl, rfl⟩
  · by_cases h2 : b = 9
    · subst h2
      go_enter Try.func18, Try.ntmps18
      go_wp2
      go_ret
      exact ⟨rfl, rfl⟩
    · have e : blankN b = ((b : Int) == 13) := by
        unfold blankN
        have e1 : (b == 32) = false := by simpa using h1
        have e2 : (b == 9) = false := by simpa using h2
        rw [e1, e2]
        by_cases h3 : b = 13
        · subst h3; rfl
        · have : (b == 13) = false := by simpa using h3
          rw [this]; simp; omega
      rw [e]
      have e1 : ((b : Int) == 32) = false := by simp; omega
      have e2 : ((b : Int) == 9) = false := by simp; omega
      clear h1 h2 e
      go_enter Try.func18, Try.ntmps18
      go_wp2
      go_ret
      exact ⟨rfl, rfl⟩
theorem blank32 (b : Nat) (w : World) : Calls Try.prog 35 #[.int .i32 b] w fun e w' => e = .returned (.bool (blankN b)) ∧ w = w' := by
  by_cases h1 : b = 32
  · subst h1
    go_enter Try.func35, Try.ntmps35
    go_wp2
    go_ret
    exact ⟨rfl, rfl⟩
  · by_cases h2 : b = 9
    · subst h2
      go_enter Try.func35, Try.ntmps35
      go_wp2
      go_ret
      exact ⟨rfl, rfl⟩
    · have e : blankN b = ((b : Int) == 13) := by
        unfold blankN
        have e1 : (b == 32) = false := by simpa using h1
        have e2 : (b == 9) = false := by simpa using h2
        rw [e1, e2]
        by_cases h3 : b = 13
        · subst h3; rfl
        · have : (b == 13) = false := by simpa using h3
          rw [this]; simp; omega
      rw [e]
      have e1 : ((b : Int) == 32) = false := by simp; omega
      have e2 : ((b : Int) == 9) = false := by simp; omega
      clear h1 h2 e
      go_enter Try.func35, Try.ntmps35
      go_wp2
      go_ret
      exact ⟨rfl, rfl⟩

set_option maxHeartbeats 800000 in
theorem spec_walk (s : ByteArray) (m F T : Nat) (w : World) (hs : s.size ≤ 2000) (hm : m ≤ 1000) (hT : T ≤ s.size) (hF : F ≤ T)
    (HP : Hid (∀ t, T ≤ t → t < s.size → blankN (byteAt s t) = true)) (HL : Hid (∀ k, k < F → blankN (byteAt s k) = true ∧ k < T ∧ k < m))
    (HE : Hid (F = T ∨ F = m ∨ (F < T ∧ F < m ∧ blankN (byteAt s F) = false))) (HZ : Hid (T = 0 ∨ ∃ t, T = t + 1 ∧ t < s.size ∧ blankN (byteAt s t) = false)) :
    Calls Try.prog 9 #[.string s, .int .i64 m] w fun e w' => e = .returned (.string (s.extract F T)) ∧ w = w' := by
  go_enter Try.func9, Try.ntmps9
  go_wp2
  go_loop [5] (fun x => ∃ k : Nat, T ≤ k ∧ k ≤ s.size ∧ x = .int .i64 k) (fun x => (intOf x).toNat)
  case atStart => exact ⟨s.size, hT, Nat.le_refl _, rfl⟩
  case round =>
    obtain ⟨k, hk1, hk2, rfl⟩ := hrel
    by_cases hk : T < k
    · obtain ⟨t, rfl⟩ : ∃ t, k = t + 1 := ⟨k - 1, by omega⟩
      have hx := index_run s t (by omega)
      have hb := HP.out t (by omega) (by omega)
      have c := blank8 (byteAt s t)
      rw [hb] at c
      have C := Lib.hid c
      clear c hb
      go_wp2_with (go_at_call 18; refine (C.out _).mono ?_; rintro e w' ⟨rfl, rfl⟩)
      go_round
      case rel => exact ⟨t, by omega, by omega, by go_num⟩
      case measure => simp [intOf]
    · obtain rfl : k = T := by omega
      clear hk hk1 HP
      rcases HZ.out with hz | ⟨t, hz, ht, hb⟩
      · subst hz
        obtain rfl : F = 0 := by omega
        go_wp2
        refine wp_loop_rounds 1 ?_
        rw [rounds_succ]
        go_wp2
        go_ret
        have e0 : s.extract 0 0 = ByteArray.empty := by apply ByteArray.ext; simp
        exact ⟨by rw [e0]; rfl, rfl⟩
      · subst hz
        have hx := index_run s t (by omega)
        have c := blank8 (byteAt s t)
        rw [hb] at c
        have C := Lib.hid c
        clear c hb
        go_wp2_with (go_at_call 18; refine (C.out _).mono ?_; rintro e w' ⟨rfl, rfl⟩)
        clear C
        go_loop [6] (fun x => ∃ k : Nat, k ≤ F ∧ x = .int .i64 k) (fun x => F - (intOf x).toNat)
        case atStart => exact ⟨0, Nat.zero_le _, rfl⟩
        case round =>
          obtain ⟨f, hf, rfl⟩ := hrel
          by_cases hlt : f < F
          · obtain ⟨g1, g2, g3⟩ := HL.out f hlt
            have hx2 := index_run s f (by omega)
            have c := blank8 (byteAt s f)
            rw [g1] at c
            have C := Lib.hid c
            clear c g1
            go_wp2_with (go_at_call 18; refine (C.out _).mono ?_; rintro e w' ⟨rfl, rfl⟩)
            go_round
            case rel => exact ⟨f + 1, by omega, by go_num⟩
            case measure => simp [intOf]; omega
          · obtain rfl : f = F := by omega
            clear hlt hf
            rcases HE.out with g | g | ⟨g1, g2, g3⟩
            · subst g
              go_wp2
              go_ret
              exact ⟨rfl, rfl⟩
            · subst g
              by_cases hz : f < t + 1
              · go_wp2
                go_ret
                exact ⟨rfl, rfl⟩
              · go_wp2
                go_ret
                exact ⟨rfl, rfl⟩
            · have hx2 := index_run s f (by omega)
              have c := blank8 (byteAt s f)
              rw [g3] at c
              have C := Lib.hid c
              clear c g3
              go_wp2_with (go_at_call 18; refine (C.out _).mono ?_; rintro e w' ⟨rfl, rfl⟩)
              go_ret
              exact ⟨rfl, rfl⟩

theorem spec_any (s : ByteArray) (m : Nat) (w : World) (hs : s.size ≤ 2000) (hm : m ≤ 1000) :
    Calls Try.prog 9 #[.string s, .int .i64 m] w fun e w' => e = .returned (.string (specS s m)) ∧ w = w' :=
  spec_walk s m (fromB s m) (toB s) w hs hm (toB_le s) (fromB_le s m) (toB_past s) (fromB_yes s m) (fromB_end s m) (toB_last s)

/-- The world behind '[]rune(s)'. -/
def runeCap (s : ByteArray) (w : World) : Nat := grownCap w (Conv.runesFrom s s.size 0 #[]).size 0 21
def runeW (s : ByteArray) (w : World) : World := w.drew.alloc (.cells (Conv.runesFrom s s.size 0 #[] ++ Array.replicate (grownCap w (Conv.runesFrom s s.size 0 #[]).size 0 21 - (Conv.runesFrom s s.size 0 #[]).size) (.int .i32 0)) 21)

theorem rune_conv (s : ByteArray) (rs : List Nat) (hc : Chain s 0 rs) (hs : s.size ≤ 2000) (w : World) :
    (convert 9 63 (.string s)).run Try.prog w = .ok (.slice (some ⟨w.heap.size, 0, none⟩) rs.length (runeCap s w)) (runeW s w) := by
  have hr := hc.runesFrom s.size #[] (by have := hc.length; omega)
  have hsz : (Conv.runesFrom s s.size 0 #[]).size = rs.length := by rw [hr]; simp
  have hl := hc.length
  rw [run_runes_of_string w 9 63 21 s Try.underlying9 Try.underlying63 Try.underlying21 (by rw [hsz]; omega)]
  unfold runeCap runeW
  rw [hsz]
theorem rune_below (s : ByteArray) (w : World) : Below w.heap.size w (runeW s w) := ((Below.refl _ _).drew).alloc (Nat.le_refl _) _
theorem rune_cell (s : ByteArray) (rs : List Nat) (hc : Chain s 0 rs) (w : World) (k : Nat) (hk : k < rs.length) : (runeW s w).cell? ⟨w.heap.size, k, none⟩ = some (.int .i32 (rs.getD k 0 : Nat)) := by
  have hr := hc.runesFrom s.size #[] (by have := hc.length; omega)
  unfold runeW
  have e : w.heap.size = w.drew.heap.size := rfl
  rw [e, World.cell?_alloc_new]
  rw [hr, Array.getElem?_append_left (by simp; exact hk)]
  simp [List.getD, hk]

set_option maxHeartbeats 1000000 in
theorem strip_walk (s : ByteArray) (rs : List Nat) (m F L cap : Nat) (w W : World) (hs : s.size ≤ 2000) (hm : m ≤ 1000) (hpos : 0 < s.size) (hn : rs.length ≤ s.size) (hcap : rs.length ≤ cap) (hFc : F < cap)
    (hcv : (convert 9 63 (.string s)).run Try.prog w = .ok (.slice (some ⟨w.heap.size, 0, none⟩) rs.length cap) W)
    (HC : Hid (∀ k, k < rs.length → W.cell? ⟨w.heap.size, k, none⟩ = some (.int .i32 (rs.getD k 0 : Nat)))) (out : ByteArray)
    (HV : Hid ((convert 63 9 (.slice (some ⟨w.heap.size, F, none⟩) L (cap - F))).run Try.prog W = .ok (.string out) W))
    (hL : F + L ≤ rs.length)
    (HY : Hid (∀ k, k < F → k < rs.length ∧ k < m ∧ blankN (rs.getD k 0) = true)) (HE : Hid (rs.length ≤ F ∨ (F < rs.length ∧ blankN (rs.getD F 0) = false) ∨ (F < rs.length ∧ m ≤ F ∧ blankN (rs.getD F 0) = true)))
    (HP : Hid (∀ t, F + L ≤ t → t < rs.length → blankN (rs.getD t 0) = true)) (HZ : Hid (L = 0 ∨ ∃ t, L = t + 1 ∧ blankN (rs.getD (F + t) 0) = false)) :
    Calls Try.prog 28 #[.string s, .int .i64 m] w fun e w' => e = .returned (.string out) ∧ W = w' := by
  have hne : ((s.size : Int) == 0) = false := beq_eq_false_iff_ne.2 (by omega)
  go_enter Try.func28, Try.ntmps28
  go_wp2
  go_loop [6] (fun x => ∃ k : Nat, k ≤ F ∧ x = .int .i64 k) (fun x => F - (intOf x).toNat)
  case atStart => exact ⟨0, Nat.zero_le _, rfl⟩
  case round =>
    obtain ⟨f, hf, rfl⟩ := hrel
    by_cases hlt : f < F
    · obtain ⟨g1, g2, g3⟩ := HY.out f hlt
      have hcell := HC.out f g1
      have c := blank32 (rs.getD f 0)
      rw [g3] at c
      have C := Lib.hid c
      clear c g3
      generalize rs.getD f 0 = rf at hcell C
      go_wp2_with (go_at_call 35; refine (C.out _).mono ?_; rintro e w' ⟨rfl, rfl⟩)
      go_round
      case rel => exact ⟨f + 1, by omega, by go_num⟩
      case measure => simp [intOf]; omega
    · obtain rfl : f = F := by omega
      clear hlt hf hcv
      rcases HE.out with g | ⟨g1, g3⟩ | ⟨g1, g2, g3⟩
      · obtain rfl : L = 0 := by omega
        have hv := HV.out
        go_wp2
        refine wp_loop_rounds 1 ?_
        rw [rounds_succ]
        go_wp2
        go_ret
        exact ⟨rfl, rfl⟩
      · have hcell := HC.out f g1
        have c := blank32 (rs.getD f 0)
        rw [g3] at c
        have C := Lib.hid c
        clear c g3
        generalize rs.getD f 0 = rf at hcell C
        go_wp2_with (go_at_call 35; refine (C.out _).mono ?_; rintro e w' ⟨rfl, rfl⟩)
        go_loop [7] (fun x => ∃ k : Nat, f + L ≤ k ∧ k ≤ rs.length ∧ x = .int .i64 k) (fun x => (intOf x).toNat)
        case atStart => exact ⟨rs.length, hL, Nat.le_refl _, rfl⟩
        case round =>
          obtain ⟨k, hk1, hk2, rfl⟩ := hrel
          by_cases hk : f + L < k
          · obtain ⟨t, rfl⟩ : ∃ t, k = t + 1 := ⟨k - 1, by omega⟩
            have hcell2 := HC.out t (by omega)
            have hb := HP.out t (by omega) (by omega)
            have c := blank32 (rs.getD t 0)
            rw [hb] at c
            have C2 := Lib.hid c
            clear c hb
            generalize rs.getD t 0 = rt at hcell2 C2
            go_wp2_with (go_at_call 35; refine (C2.out _).mono ?_; rintro e w' ⟨rfl, rfl⟩)
            go_round
            case rel => exact ⟨t, by omega, by omega, by go_num⟩
            case measure => simp [intOf]
          · obtain rfl : k = f + L := by omega
            clear hk hk1 HP
            rcases HZ.out with hz | ⟨t, hz, hb⟩
            · subst hz
              have hv := HV.out
              go_wp2
              go_ret
              exact ⟨rfl, rfl⟩
            · subst hz
              have hcell2 := HC.out (f + t) (by omega)
              have c := blank32 (rs.getD (f + t) 0)
              rw [hb] at c
              have C2 := Lib.hid c
              clear c hb
              generalize rs.getD (f + t) 0 = rt at hcell2 C2
              have hv := HV.out
              go_wp2_with (go_at_call 35; refine (C2.out _).mono ?_; rintro e w' ⟨rfl, rfl⟩)
              go_ret
              exact ⟨rfl, rfl⟩
      · have hcell := HC.out f g1
        have hd : decide (f < m) = false := by simp; omega
        clear g2
        have c := blank32 (rs.getD f 0)
        rw [g3] at c
        have C := Lib.hid c
        clear c g3
        generalize rs.getD f 0 = rf at hcell C
        go_wp2_with (go_at_call 35; refine (C.out _).mono ?_; rintro e w' ⟨rfl, rfl⟩)
        go_loop [7] (fun x => ∃ k : Nat, f + L ≤ k ∧ k ≤ rs.length ∧ x = .int .i64 k) (fun x => (intOf x).toNat)
        case atStart => exact ⟨rs.length, hL, Nat.le_refl _, rfl⟩
        case round =>
          obtain ⟨k, hk1, hk2, rfl⟩ := hrel
          by_cases hk : f + L < k
          · obtain ⟨t, rfl⟩ : ∃ t, k = t + 1 := ⟨k - 1, by omega⟩
            have hcell2 := HC.out t (by omega)
            have hb := HP.out t (by omega) (by omega)
            have c := blank32 (rs.getD t 0)
            rw [hb] at c
            have C2 := Lib.hid c
            clear c hb
            generalize rs.getD t 0 = rt at hcell2 C2
            go_wp2_with (go_at_call 35; refine (C2.out _).mono ?_; rintro e w' ⟨rfl, rfl⟩)
            go_round
            case rel => exact ⟨t, by omega, by omega, by go_num⟩
            case measure => simp [intOf]
          · obtain rfl : k = f + L := by omega
            clear hk hk1 HP
            rcases HZ.out with hz | ⟨t, hz, hb⟩
            · subst hz
              have hv := HV.out
              go_wp2
              go_ret
              exact ⟨rfl, rfl⟩
            · subst hz
              have hcell2 := HC.out (f + t) (by omega)
              have c := blank32 (rs.getD (f + t) 0)
              rw [hb] at c
              have C2 := Lib.hid c
              clear c hb
              generalize rs.getD (f + t) 0 = rt at hcell2 C2
              have hv := HV.out
              go_wp2_with (go_at_call 35; refine (C2.out _).mono ?_; rintro e w' ⟨rfl, rfl⟩)
              go_ret
              exact ⟨rfl, rfl⟩

end Go.Proofs.Ytfdkgaipakannaa.strip
