/- FnSplitJoined: the parts that std.splitLimit and std.splitLimitR tell are, with the separator between, the string again; there are at most one more than asked for. -/
import Derived.Test.YtjnlgefcpmppmaaLimit
import Derived.Test.YtjnlgefcpmppmaaOfU
import Derived.Test.YtjnlgefcpmppmaaLawKit
import Derived.ProofKit
import Derived.OpenShut
import Derived.Deep.DeepHandedRow
import Derived.SizedLaws
namespace Go.Proofs.Ytjnlgefcpmppmaa.split
open Go.ChangeShapes Go.WideShapes Go.ChangeAt Go.RowKit Go.Proofs.Ytjnlgefcpmppmaa.utf Go.Proofs.Ytjnlgefcpmppmaa.joined
open Go.ChangeMaps (open_string shut_string)
theorem joinL_app (c : List UInt8) : ∀ (qs : List ByteArray) (x : ByteArray), qs ≠ [] → joinL c (qs ++ [x]) = joinL c qs ++ (c ++ L x)
  | [], _, h => absurd rfl h
  | [p], x, _ => by simp [joinL]
  | p :: q :: r, x, _ => by
    have := joinL_app c (q :: r) x (by simp)
    simp only [List.cons_append] at this ⊢
    rw [joinL, this, joinL]
    simp
theorem join_take (c : List UInt8) (ps : List ByteArray) (j : Nat) (h1 : 1 ≤ j) (h : j < ps.length) : joinL c (ps.take (j + 1)) = joinL c (ps.take j) ++ (c ++ L (ps.getD j ByteArray.empty)) := by
  rw [take_parts ps j h, joinL_app]
  intro e
  have := congrArg List.length e
  rw [List.length_take, List.length_nil] at this
  omega
theorem join_one (c : List UInt8) (ps : List ByteArray) (h : 1 ≤ ps.length) : L (ps.getD 0 ByteArray.empty) = joinL c (ps.take 1) := by
  match ps, h with
  | p :: qs, _ => rfl
theorem L_app (a b : ByteArray) : L (a ++ b) = L a ++ L b := by unfold L; simp
theorem L_inj {a b : ByteArray} (h : L a = L b) : a = b := bytes_inj h
theorem part_size {c s : ByteArray} {ps : List ByteArray} (h : Parts c s ps) (j : Nat) (hj : j < ps.length) : (ps.getD j ByteArray.empty).size ≤ s.size := by
  rw [show ps.getD j ByteArray.empty = ps[j] by simp [List.getD, List.getElem?_eq_getElem hj]]
  exact h.size _ (List.getElem_mem _)
def V9 (s : ByteArray) (w : World) (e : Ending) (w' : World) : Prop := (∃ o n cc ok, e = .returned (.tuple #[.slice o n cc, .bool ok]) ∧ (ok = true → ∃ rs, Chain s 0 rs ∧ n = rs.length ∧ s.size ≤ 2000)) ∧ Below w.heap.size w w'
theorem v9_any (s : ByteArray) (w : World) (hz : s.size ≤ 9223372036854775807) : Calls Try.prog 10 #[.string s] w (V9 s w) :=
  (units9_any s w hz).mono (fun e w' ⟨hb, h⟩ => by
    rcases h with rfl | ⟨v, rs, rfl, hc, hown, hs⟩
    · exact ⟨⟨none, 0, 0, false, rfl, fun h => by cases h⟩, hb⟩
    · rcases hown.2 with ⟨rfl, h2⟩ | ⟨g, cap, cur, rfl, _⟩
      · exact ⟨⟨none, 0, 0, true, rfl, fun _ => ⟨rs, hc, h2.symm, hs⟩⟩, hb⟩
      · exact ⟨⟨_, _, _, true, rfl, fun _ => ⟨rs, hc, rfl, hs⟩⟩, hb⟩)
def Yes (w : World) (e : Ending) (w' : World) : Prop := e = .returned (.bool true) ∧ Below w.heap.size w w'
set_option maxRecDepth 100000 in
set_option maxHeartbeats 2000000 in
theorem walk (s c : ByteArray) (m : Nat) (w : World) (hm : m < 256) (hz1 : s.size ≤ 9223372036854775807) (hz2 : c.size ≤ 9223372036854775807) : Calls Try.prog 4 #[.string s, .string c, .int .u8 m] w (Yes w) := by
  by_cases hb1 : s.size ≤ 2147483647 ∧ c.size ≤ 2147483647
  · obtain ⟨hb1, hb2⟩ := hb1
    have e1 : decide ((2147483647 : Int) < (s.size : Int)) = false := decide_eq_false (by omega)
    have e2 : decide ((2147483647 : Int) < (c.size : Int)) = false := decide_eq_false (by omega)
    have HU := Lib.hid (fun w => v9_any s w hz1)
    have HV := Lib.hid (fun w => v9_any c w hz2)
    have HCV := Lib.hid (fun w : World => run_convert_int_float (P := Try.prog) w 5 35 .u8 .f64 m (by rw [Try.underlying5]; rfl) Try.underlying35)
    have HT := Lib.hid (fun rs us w h1 h2 h3 h4 h5 => text_limit s c rs us m w h1 h2 hm h3 h4 h5)
    have HR := Lib.hid (fun rs us w h1 h2 h3 h4 h5 => text_limitR s c rs us m w h1 h2 hm h3 h4 h5)
    generalize floatOfInt .f64 (m : Int) = x at *
    go_enter Try.func4, Try.ntmps4
    go_wp2_with fail
    refine (HU.out _).mono ?_
    rintro e W1 ⟨⟨o1, n1, c1, k1, rfl, h1⟩, hb⟩
    have B1 := Lib.hid hb
    have H1 := Lib.hid h1
    clear hb h1
    go_wp2_with fail
    refine (HV.out _).mono ?_
    rintro e W2 ⟨⟨o2, n2, c2, k2, rfl, h2⟩, hb⟩
    have B2 := Lib.hid (B1.out.trans (hb.mono B1.out.size))
    have H2 := Lib.hid h2
    clear hb h2 B1
    cases k1
    · go_wp2_with fail
      go_ret
      exact ⟨rfl, B2.out⟩
    cases k2
    · go_wp2_with fail
      go_ret
      exact ⟨rfl, B2.out⟩
    obtain ⟨rs, hc1, hn1, hs1⟩ := H1.out rfl
    obtain ⟨us, hc2, hn2, hs2⟩ := H2.out rfl
    have P1 := Lib.hid hc1
    have P2 := Lib.hid hc2
    have hus := hc2.length
    have N2 := Lib.hid hn2
    clear hc1 hc2 hn1 H1 H2 hus hn2
    by_cases hz : n2 = 0
    · subst hz
      go_wp2_with fail
      go_ret
      exact ⟨rfl, B2.out⟩
    have hc0 : 0 < c.size := by
      have := P2.out.length
      have := N2.out
      omega
    have e3 : ((n2 : Int) == 0) = false := by rw [beq_eq_false_iff_ne]; omega
    have hcv := HCV.out
    go_wp2_with fail
    refine wp_loop_rounds 3 ?_
    rw [rounds_succ]
    go_wp2_with fail
    refine (HT.out rs us _ P1.out P2.out hs1 hs2 hc0).mono ?_
    rintro e W3 ⟨⟨g, cc, ps, rfl, hcells, hP, l1, l2⟩, hb⟩
    have B3 := Lib.hid (B2.out.trans (hb.mono B2.out.size))
    have HC := Lib.hid (show ∀ j, j < ps.length → W3.cell? ⟨g, j, none⟩ = some (.string (ps.getD j ByteArray.empty)) from hcells)
    have HP := Lib.hid hP
    have HJ := Lib.hid (join_one (L c) ps l1)
    have c0 := HC.out 0 l1
    have HY := Lib.hid (fun j (hj : j < ps.length) => part_size hP j hj)
    have hy0 := HY.out 0 l1
    generalize ps.getD 0 ByteArray.empty = y at c0 HJ hy0
    have HW := Lib.hid (show ∀ j, 1 ≤ j → j < ps.length → joinL (L c) (ps.take (j + 1)) = joinL (L c) (ps.take j) ++ (L c ++ L (ps.getD j ByteArray.empty)) from fun j h1 h => join_take (L c) ps j h1 h)
    have HA := Lib.hid (show joinL (L c) (ps.take ps.length) = L s by rw [List.take_length]; exact hP.whole)
    clear hcells hP hb
    generalize ps.length = n at *
    have e4 : decide ((m : Int) + 1 < (n : Int)) = false := decide_eq_false (by omega)
    have e5 : ((n : Int) == 0) = false := by rw [beq_eq_false_iff_ne]; omega
    go_wp2_with fail
    go_loop [14, 15] (fun xv iv => ∃ (X : ByteArray) (j : Nat), xv = .string X ∧ iv = .int .i64 j ∧ 1 ≤ j ∧ j ≤ n ∧ X.size ≤ 4000 * j ∧ L X = joinL (L c) (ps.take j)) (fun _ iv => n - (intOf iv).toNat)
    case atStart => exact ⟨y, 1, rfl, rfl, Nat.le_refl _, l1, by omega, HJ.out⟩
    case round =>
      obtain ⟨X, j, rfl, rfl, hj1, hj2, hXs, hX⟩ := hrel
      by_cases hlt : j < n
      · have hcell := HC.out j hlt
        have hst := HW.out j hj1 hlt
        have hy2 := HY.out j hlt
        rw [← hX] at hst
        generalize ps.getD j ByteArray.empty = y2 at hcell hst hy2
        have HS := Lib.hid (show L (X ++ (c ++ y2)) = joinL (L c) (ps.take (j + 1)) by rw [L_app, L_app]; exact hst.symm)
        have hsz : (X ++ (c ++ y2)).size ≤ 4000 * (j + 1) := by rw [ByteArray.size_append, ByteArray.size_append]; omega
        have HSZ := Lib.hid hsz
        clear hX hst hsz
        go_wp2_with fail
        go_round
        case rel => exact ⟨_, j + 1, rfl, by go_num, by omega, by omega, HSZ.out, HS.out⟩
        case measure => simp [intOf]; omega
      · have hjn : j = n := by omega
        subst hjn
        obtain rfl : s = X := (L_inj (hX.trans HA.out)).symm
        clear hX
        go_wp2_with fail
        rw [rounds_succ]
        go_wp2_with fail
        refine (HT.out rs us _ P1.out P2.out hs1 hs2 hc0).mono ?_
        rintro e W4 ⟨⟨g', cc', ps', rfl, _, _, l1', l2'⟩, hb⟩
        have B4 := Lib.hid (B3.out.trans (hb.mono B3.out.size))
        clear hb
        clear HC HP HJ HY HW HA hy0 c0 e4 e5 l1 l2
        go_wp2_with fail
        refine (HR.out rs us _ P1.out P2.out hs1 hs2 hc0).mono ?_
        rintro e W5 ⟨⟨g, cc, ps, rfl, hcells, hP, l1, l2⟩, hb⟩
        have B5 := Lib.hid (B4.out.trans (hb.mono B4.out.size))
        have HC := Lib.hid (show ∀ j, j < ps.length → W5.cell? ⟨g, j, none⟩ = some (.string (ps.getD j ByteArray.empty)) from hcells)
        have HP := Lib.hid hP
        have HJ := Lib.hid (join_one (L c) ps l1)
        have c0 := HC.out 0 l1
        have HY := Lib.hid (fun j (hj : j < ps.length) => part_size hP j hj)
        have hy0 := HY.out 0 l1
        generalize ps.getD 0 ByteArray.empty = y at c0 HJ hy0
        have HW := Lib.hid (show ∀ j, 1 ≤ j → j < ps.length → joinL (L c) (ps.take (j + 1)) = joinL (L c) (ps.take j) ++ (L c ++ L (ps.getD j ByteArray.empty)) from fun j h1 h => join_take (L c) ps j h1 h)
        have HA := Lib.hid (show joinL (L c) (ps.take ps.length) = L s by rw [List.take_length]; exact hP.whole)
        clear hcells hP hb
        generalize ps.length = n at *
        have e4 : decide ((m : Int) + 1 < (n : Int)) = false := decide_eq_false (by omega)
        have e5 : ((n : Int) == 0) = false := by rw [beq_eq_false_iff_ne]; omega
        go_wp2_with fail
        go_loop [14, 15] (fun xv iv => ∃ (X : ByteArray) (j : Nat), xv = .string X ∧ iv = .int .i64 j ∧ 1 ≤ j ∧ j ≤ n ∧ X.size ≤ 4000 * j ∧ L X = joinL (L c) (ps.take j)) (fun _ iv => n - (intOf iv).toNat)
        case atStart => exact ⟨y, 1, rfl, rfl, Nat.le_refl _, l1, by omega, HJ.out⟩
        case round =>
          obtain ⟨X, j, rfl, rfl, hj1, hj2, hXs, hX⟩ := hrel
          by_cases hlt : j < n
          · have hcell := HC.out j hlt
            have hst := HW.out j hj1 hlt
            have hy2 := HY.out j hlt
            rw [← hX] at hst
            generalize ps.getD j ByteArray.empty = y2 at hcell hst hy2
            have HS := Lib.hid (show L (X ++ (c ++ y2)) = joinL (L c) (ps.take (j + 1)) by rw [L_app, L_app]; exact hst.symm)
            have hsz : (X ++ (c ++ y2)).size ≤ 4000 * (j + 1) := by rw [ByteArray.size_append, ByteArray.size_append]; omega
            have HSZ := Lib.hid hsz
            clear hX hst hsz
            go_wp2_with fail
            go_round
            case rel => exact ⟨_, j + 1, rfl, by go_num, by omega, by omega, HSZ.out, HS.out⟩
            case measure => simp [intOf]; omega
          · have hjn : j = n := by omega
            subst hjn
            obtain rfl : s = X := (L_inj (hX.trans HA.out)).symm
            clear hX
            go_wp2_with fail
            rw [rounds_succ]
            go_wp2_with fail
            go_ret
            exact ⟨rfl, B5.out⟩
  · by_cases h1 : s.size ≤ 2147483647
    · have e1 : decide ((2147483647 : Int) < (s.size : Int)) = false := decide_eq_false (by omega)
      have e2 : decide ((2147483647 : Int) < (c.size : Int)) = true := decide_eq_true (by omega)
      go_enter Try.func4, Try.ntmps4
      go_wp2_with fail
      go_ret
      exact ⟨rfl, Below.refl _ _⟩
    · have e1 : decide ((2147483647 : Int) < (s.size : Int)) = true := decide_eq_true (by omega)
      go_enter Try.func4, Try.ntmps4
      go_wp2_with fail
      go_ret
      exact ⟨rfl, Below.refl _ _⟩
theorem own : ownKnob Try.prog.godebug = none := by kernel_rfl
theorem laidOut : laidOutB Try.prog = true := by kernel_rfl
set_option maxRecDepth 100000 in
theorem lifted (os : Os) (started : os.Started) (H : Type) (enc : TypeId × Value → H) :
    ReturnsInHanded {} Try.checked os 4 .any (Rows.fnSplitJoinedSpec.pre6 enc Try.prog Try.f4 [] false) (Rows.fnSplitJoinedSpec.post enc Try.prog Try.f4 false true false false) := by
  refine LawKit.law_lifted (C := Try.checked) own started (by kernel_rfl) Try.func4
    (ChangeSpec.witness6 (enc := enc) (C := Try.checked) false ⟨#[], #[.string ByteArray.empty, .string ByteArray.empty, .int .u8 0], []⟩ 8 (by kernel_rfl) (by kernel_rfl) (by kernel_rfl) (by kernel_rfl))
    laidOut (by kernel_rfl) rfl (by kernel_rfl) Try.underlying4 ?_ ?_
  · intro ds hl
    have hl' : ds.length = 3 := hl
    obtain ⟨a, b, c, rfl⟩ : ∃ a b c, ds = [a, b, c] := by
      match ds, hl' with
      | [a, b, c], _ => exact ⟨a, b, c, rfl⟩
    exact ⟨rfl, rfl, rfl⟩
  · intro W base args ds before hval0 hA0 _ _
    have hval : ∀ (j : Nat) t v, Try.f4.params[j]? = some t → args[j]? = some v → Value.okWide Try.prog W .any base t v := hval0
    have hA : DataW.TrodAll enc Try.prog W 0 (fun _ => true) true Try.f4.params.toList args.toList ds before := hA0
    rw [Try.params4] at hA hval
    obtain ⟨v0, v1, v2, d0, d1, d2, p0, p1, p2, rfl, rfl, rfl, h0, h1, h2⟩ := trodAll_three hA
    obtain ⟨s, rfl, rfl, rfl, hs⟩ := open_string Try.underlying9 (hval 0 9 v0 rfl rfl) h0
    obtain ⟨c, rfl, rfl, rfl, hc⟩ := open_string Try.underlying9 (hval 1 9 v1 rfl rfl) h1
    obtain ⟨m, rfl, rfl, rfl, hm⟩ := open_int Try.underlying5 (hval 2 5 v2 rfl rfl) h2
    have hm2 : 0 ≤ m ∧ m < 256 := by
      simp [Lit.wf, IntKind.min, IntKind.max, IntKind.bits, IntKind.signed] at hm
      omega
    obtain ⟨k, rfl⟩ := Int.eq_ofNat_of_zero_le hm2.1
    exact walk s c k W (by omega) (by unfold maxLen at hs; omega) (by unfold maxLen at hc; omega)
theorem holds : Rows.FnSplitJoinedSaid :=
  OpenClaim.holds_of_wide 4 Try.f4 rfl rfl rfl rfl rfl rfl rfl ⟨rfl, rfl, rfl, rfl, rfl⟩ rfl rfl rfl rfl rfl (by kernel_rfl) Try.func4 (by kernel_rfl)
    (of_decide_eq_true (by kernel_rfl)) (by unfold Func.isWrapper; first | (rw [if_pos (by decide +kernel)]; kernel_rfl) | (rw [if_neg (by decide +kernel)]; exact ⟨rfl, rfl⟩))
    (fun os started H enc _ => lifted os started H enc)
end Go.Proofs.Ytjnlgefcpmppmaa.split
