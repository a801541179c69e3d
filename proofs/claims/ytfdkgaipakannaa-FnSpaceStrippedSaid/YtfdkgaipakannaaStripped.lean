/- FnSpaceStripped: what is left of a text is the text without white space at its end, and without as much of it at its beginning as a margin says. (Texts of at most 2000 bytes; margins from 0 to 1000; others: the law says nothing of them, and is true.) -/
import Derived.Test.YtfdkgaipakannaaRows
import Derived.Test.YtfdkgaipakannaaLawKit
import Derived.Test.YtfdkgaipakannaaStrip
namespace Go.Proofs.Ytfdkgaipakannaa.strip
open Go.ChangeShapes Go.WideShapes Go.ChangeAt Go.RowKit Go.Proofs.Ytfdkgaipakannaa.utf
open Go.ChangeMaps (open_string shut_string)

theorem own : ownKnob Try.prog.godebug = none := by kernel_rfl
theorem laidOut : laidOutB Try.prog = true := by kernel_rfl

set_option maxHeartbeats 1000000 in
theorem strip_walk_cap (s : ByteArray) (rs : List Nat) (m F : Nat) (w W : World) (hs : s.size ≤ 2000) (hm : m ≤ 1000) (hpos : 0 < s.size) (hF : rs.length = F) (hn : F ≤ s.size)
    (hcv : (convert 9 63 (.string s)).run Try.prog w = .ok (.slice (some ⟨w.heap.size, 0, none⟩) F F) W)
    (HC : Hid (∀ k, k < F → W.cell? ⟨w.heap.size, k, none⟩ = some (.int .i32 (rs.getD k 0 : Nat)))) (out : ByteArray)
    (HV : Hid ((convert 63 9 (.slice (some ⟨w.heap.size, 0, none⟩) 0 0)).run Try.prog W = .ok (.string out) W))
    (HY : Hid (∀ k, k < F → k < rs.length ∧ k < m ∧ blankN (rs.getD k 0) = true)) :
    Calls Try.prog 28 #[.string s, .int .i64 m] w fun e w' => e = .returned (.string out) ∧ W = w' := by
  have hne : ((s.size : Int) == 0) = false := beq_eq_false_iff_ne.2 (by omega)
  have HFF := Lib.hid hF
  clear hF
  go_enter Try.func28, Try.ntmps28
  go_wp2
  go_loop [6] (fun x => ∃ k : Nat, k ≤ F ∧ x = .int .i64 k) (fun x => F - (intOf x).toNat)
  case atStart => exact ⟨0, Nat.zero_le _, rfl⟩
  case round =>
    obtain ⟨f, hf, rfl⟩ := hrel
    by_cases hlt : f < F
    · obtain ⟨g1, g2, g3⟩ := HY.out f hlt
      have hcell := HC.out f hlt
      have c := blank32 (rs.getD f 0)
      rw [g3] at c
      have C := Lib.hid c
      clear c g3 g1
      generalize rs.getD f 0 = rf at hcell C
      go_wp2_with (go_at_call 35; refine (C.out _).mono ?_; rintro e w' ⟨rfl, rfl⟩)
      go_round
      case rel => exact ⟨f + 1, by omega, by go_num⟩
      case measure => simp [intOf]; omega
    · obtain rfl : f = F := by omega
      clear hlt hf hcv
      have hv := HV.out
      go_wp2
      refine wp_loop_rounds 1 ?_
      rw [rounds_succ]
      go_wp2
      go_ret
      exact ⟨rfl, rfl⟩

theorem strip_empty (s : ByteArray) (m : Nat) (w W : World) (n c : Nat) (hz : s.size = 0) (hcv : (convert 9 63 (.string s)).run Try.prog w = .ok (.slice (some ⟨w.heap.size, 0, none⟩) n c) W) :
    Calls Try.prog 28 #[.string s, .int .i64 m] w fun e w' => e = .returned (.string s) ∧ W = w' := by
  obtain rfl : s = ByteArray.empty := by
    apply ByteArray.ext
    exact Array.eq_empty_of_size_eq_zero hz
  go_enter Try.func28, Try.ntmps28
  go_wp2
  go_ret
  exact ⟨rfl, rfl⟩

theorem strip_any (s : ByteArray) (rs : List Nat) (m : Nat) (w : World) (hc : Chain s 0 rs) (hs : s.size ≤ 2000) (hm : m ≤ 1000) :
    Calls Try.prog 28 #[.string s, .int .i64 m] w fun e w' => e = .returned (.string (specS s m)) ∧ Below w.heap.size w w' := by
  have hcv := rune_conv s rs hc hs w
  have hB := rune_below s w
  have hcell := rune_cell s rs hc w
  have hlen := hc.length
  by_cases hz : s.size = 0
  · refine (strip_empty s m w _ _ _ hz hcv).mono ?_
    rintro e w' ⟨rfl, rfl⟩
    refine ⟨?_, hB⟩
    have : specS s m = s := by
      unfold specS
      apply ByteArray.ext
      have hd : s.data = #[] := Array.eq_empty_of_size_eq_zero hz
      simp [hd]
    rw [this]
  · have hcap : rs.length ≤ runeCap s w := by
      have hr := hc.runesFrom s.size #[] (by omega)
      have hsz : (Conv.runesFrom s s.size 0 #[]).size = rs.length := by rw [hr]; simp
      unfold runeCap
      rw [hsz]
      exact grownCap_ge _ _ _ _
    have hv : ∀ c, (convert 63 9 (.slice (some ⟨w.heap.size, fromR rs m, none⟩) (lenR rs m) c)).run Try.prog (runeW s w) = .ok (.string (implS rs m)) (runeW s w) := by
      intro c
      have hl := lenR_le rs m
      have := run_convert_runes (P := Try.prog) (runeW s w) 63 9 21 ⟨w.heap.size, fromR rs m, none⟩ (lenR rs m) c ((rs.drop (fromR rs m)).map fun r : Nat => (r : Int)) (by simp; omega) Try.underlying63 Try.underlying21 Try.underlying9 ?_
      · exact this
      · intro j hj
        simp at hj
        have h1 := hcell (fromR rs m + j) (by omega)
        have e : (⟨w.heap.size, fromR rs m, none⟩ : Addr).add j = ⟨w.heap.size, fromR rs m + j, none⟩ := by simp [Addr.add]
        rw [e, h1]
        simp [List.getD, List.getElem?_drop, show fromR rs m + j < rs.length by omega]
    rw [impl_spec s rs m hc] at hv
    have hE := fromR_end rs m
    have hF := fromR_le rs m
    by_cases hFc : fromR rs m < runeCap s w
    · refine (strip_walk s rs m (fromR rs m) (lenR rs m) (runeCap s w) w (runeW s w) hs hm (by omega) (by omega) hcap hFc hcv hcell (specS s m) (hv _) (lenR_le rs m) (fromR_yes rs m) ?_ (lenR_past rs m) (lenR_last rs m)).mono ?_
      · show _ ∨ _
        by_cases h1 : rs.length ≤ fromR rs m
        · exact .inl h1
        · right
          cases hb : blankN (rs.getD (fromR rs m) 0)
          · exact .inl ⟨by omega, rfl⟩
          · refine .inr ⟨by omega, ?_, rfl⟩
            rcases hE with h | h | ⟨_, _, h⟩
            · omega
            · omega
            · rw [hb] at h; cases h
      · rintro e w' ⟨rfl, rfl⟩
        exact ⟨rfl, hB⟩
    · have e1 : rs.length = fromR rs m := by omega
      have e2 : runeCap s w = fromR rs m := by omega
      have e3 : lenR rs m = 0 := by have := lenR_le rs m; omega
      rw [e2, e1] at hcv
      have hv0 : (convert 63 9 (.slice (some ⟨w.heap.size, 0, none⟩) 0 0)).run Try.prog (runeW s w) = .ok (.string (specS s m)) (runeW s w) := by
        have h0 : specS s m = runesBytes [] := by
          rw [← impl_spec s rs m hc]; unfold implS; rw [e3]; rfl
        have := run_convert_runes (P := Try.prog) (runeW s w) 63 9 21 ⟨w.heap.size, 0, none⟩ 0 0 [] (by simp) Try.underlying63 Try.underlying21 Try.underlying9 (by simp)
        rw [this, h0]; rfl
      refine (strip_walk_cap s rs m (fromR rs m) w (runeW s w) hs hm (by omega) e1 (by omega) hcv (fun k hk => hcell k (by omega)) (specS s m) hv0 (fromR_yes rs m)).mono ?_
      rintro e w' ⟨rfl, rfl⟩
      exact ⟨rfl, hB⟩

theorem impl_any (s : ByteArray) (rs : List Nat) (m : Nat) (w : World) (hc : Chain s 0 rs) (hs : s.size ≤ 2000) (hm : m ≤ 1000) :
    Calls Try.prog 8 #[.string s, .int .i64 m] w fun e w' => e = .returned (.string (specS s m)) ∧ Below w.heap.size w w' := by
  have C := Lib.hid (fun W => strip_any s rs m W hc hs hm)
  go_enter Try.func8, Try.ntmps8
  go_wp2_with (first | (go_at_call 17; go_in) | (go_at_call 28; refine (C.out _).mono ?_; rintro e w' ⟨rfl, hb⟩))
  go_ret
  exact ⟨rfl, (by assumption)⟩

/-- Whether a text can be read: if so it is a chain of code points. -/
def ReadPost (s : ByteArray) (w : World) (e : Ending) (w' : World) : Prop := ((∃ rs, Chain s 0 rs) ∧ e = .returned (.bool true) ∨ e = .returned (.bool false)) ∧ w = w'

set_option maxHeartbeats 800000 in
theorem read_any (s : ByteArray) (w : World) (hs : s.size ≤ 2000) : Calls Try.prog 16 #[.string s] w (ReadPost s w) := by
  go_enter Try.func16, Try.ntmps16
  go_wp2
  go_loop [3] (fun x => ∃ k : Nat, k ≤ s.size ∧ x = .int .i64 k ∧ Hid (∀ rs, Chain s k rs → ∃ rs', Chain s 0 rs')) (fun x => s.size - (intOf x).toNat)
  case atStart => exact ⟨0, Nat.zero_le _, rfl, fun rs h => ⟨rs, h⟩⟩
  case round =>
    obtain ⟨k, hk, rfl, HK⟩ := hrel
    by_cases hlt : k < s.size
    · have c := fun W => point_any s k (s.size - k) W (by omega) (by omega) (by omega)
      obtain ⟨p, hp⟩ : ∃ p, ptAt s k = p := ⟨_, rfl⟩
      have c2 : ∀ W, Calls Try.prog 27 #[.string s, .int .i64 k] W fun e w' => e = .returned (.tuple #[.int .i64 p.1, .int .i64 p.2]) ∧ W = w' := fun W => (c W).mono fun e w' h => by
        rw [← hp]; exact h
      obtain ⟨r, n⟩ := p
      have C := Lib.hid c2
      have HP := Lib.hid hp
      clear c c2 hp
      have hle : n ≤ s.size - k := ptN_le HP.out (by omega)
      by_cases h1 : n = 0
      · subst h1
        go_wp2_with (go_at_call 27; refine (C.out _).mono ?_; rintro e w' ⟨rfl, rfl⟩)
        go_ret
        exact ⟨.inr rfl, rfl⟩
      · have e1 : ((n : Int) == 0) = false := beq_eq_false_iff_ne.2 (by omega)
        by_cases h2 : r = 0
        · subst h2
          go_wp2_with (go_at_call 27; refine (C.out _).mono ?_; rintro e w' ⟨rfl, rfl⟩)
          go_ret
          exact ⟨.inr rfl, rfl⟩
        · have e2 : ((r : Int) == 0) = false := beq_eq_false_iff_ne.2 (by omega)
          by_cases h3 : r = 65279
          · subst h3
            go_wp2_with (go_at_call 27; refine (C.out _).mono ?_; rintro e w' ⟨rfl, rfl⟩)
            go_ret
            exact ⟨.inr rfl, rfl⟩
          · have e3 : ((r : Int) == 65279) = false := beq_eq_false_iff_ne.2 (by omega)
            go_wp2_with (go_at_call 27; refine (C.out _).mono ?_; rintro e w' ⟨rfl, rfl⟩)
            go_round
            case rel => exact ⟨k + n, by omega, by go_num, fun rs hc => HK.out _ (.step hlt HP.out (by omega) hc)⟩
            case measure => simp [intOf]; omega
    · go_wp2
      go_ret
      refine ⟨.inl ⟨?_, rfl⟩, rfl⟩
      obtain rfl : k = s.size := by omega
      exact HK.out [] .done

def ShortPost (s : ByteArray) (w : World) (e : Ending) (w' : World) : Prop := ((s.size ≤ 2000 ∧ ∃ rs, Chain s 0 rs) ∧ e = .returned (.bool true) ∨ e = .returned (.bool false)) ∧ w = w'
theorem short_any (s : ByteArray) (w : World) (hs : s.size ≤ 9223372036854775807) :
    Calls Try.prog 7 #[.string s] w fun e w' => ((s.size ≤ 2000 ∧ ∃ rs, Chain s 0 rs) ∧ e = .returned (.bool true) ∨ e = .returned (.bool false)) ∧ w = w' := by
  suffices h : Calls Try.prog 7 #[.string s] w (ShortPost s w) from h
  by_cases h : s.size ≤ 2000
  · have hd : decide ((s.size : Int) ≤ 2000) = true := by simp; omega
    have C := Lib.hid (fun W => read_any s W h)
    go_enter Try.func7, Try.ntmps7
    go_wp2_with fail
    refine (C.out _).mono ?_
    rintro e w' ⟨⟨hr, rfl⟩ | rfl, rfl⟩
    · have HR := Lib.hid hr
      clear hr
      go_wp2_with fail
      go_ret
      exact ⟨.inl ⟨⟨h, HR.out⟩, rfl⟩, rfl⟩
    · go_wp2_with fail
      go_ret
      exact ⟨.inr rfl, rfl⟩
  · have hd : decide ((s.size : Int) ≤ 2000) = false := by simp; omega
    go_enter Try.func7, Try.ntmps7
    go_wp2
    go_ret
    exact ⟨.inr rfl, rfl⟩

set_option maxHeartbeats 800000 in
theorem walk (s : ByteArray) (m : Int) (w : World) (hs : s.size ≤ 9223372036854775807) :
    Calls Try.prog 4 #[.string s, .int .i64 m] w fun e w' => e = .returned (.bool true) ∧ Below w.heap.size w w' := by
  by_cases hbig : 2147483647 < s.size
  · go_enter Try.func4, Try.ntmps4
    go_wp2
    go_ret
    exact ⟨rfl, Below.refl _ _⟩
  · have CS := Lib.hid (fun W => short_any s W hs)
    by_cases hm0 : m < 0
    · go_enter Try.func4, Try.ntmps4
      go_wp2_with fail
      refine (CS.out _).mono ?_
      rintro e w' ⟨⟨hr, rfl⟩ | rfl, rfl⟩
      · have HR := Lib.hid hr
        clear hr
        go_wp2_with fail
        go_ret
        exact ⟨rfl, Below.refl _ _⟩
      · go_wp2_with fail
        go_ret
        exact ⟨rfl, Below.refl _ _⟩
    · by_cases hm1 : 1000 < m
      · go_enter Try.func4, Try.ntmps4
        go_wp2_with fail
        refine (CS.out _).mono ?_
        rintro e w' ⟨⟨hr, rfl⟩ | rfl, rfl⟩
        · have HR := Lib.hid hr
          clear hr
          go_wp2_with fail
          go_ret
          exact ⟨rfl, Below.refl _ _⟩
        · go_wp2_with fail
          go_ret
          exact ⟨rfl, Below.refl _ _⟩
      · obtain ⟨k, rfl⟩ : ∃ k : Nat, m = k := ⟨m.toNat, by omega⟩
        have hk : k ≤ 1000 := by omega
        clear hm0 hm1
        go_enter Try.func4, Try.ntmps4
        go_wp2_with fail
        refine (CS.out _).mono ?_
        rintro e w' ⟨⟨⟨h2000, hr⟩, rfl⟩ | rfl, rfl⟩
        · obtain ⟨rs, hc⟩ := hr
          have C1 := Lib.hid (fun W => impl_any s rs k W hc h2000 hk)
          have C2 := Lib.hid (fun W => spec_any s k W h2000 hk)
          generalize specS s k = out at C1 C2
          clear hc CS
          go_wp2_with fail
          go_loop [5] (fun x => ∃ j : Nat, j ≤ s.size ∧ x = .int .i64 j) (fun x => s.size - (intOf x).toNat)
          case atStart => exact ⟨0, Nat.zero_le _, rfl⟩
          case round =>
            obtain ⟨j, hj, rfl⟩ := hrel
            by_cases hlt : j < s.size
            · have hx := index_run s j hlt
              obtain ⟨q, hq⟩ : ∃ q, ((byteAt s j : Int) == 10) = q := ⟨_, rfl⟩
              cases q
              · go_wp2_with fail
                go_round
                case rel => exact ⟨j + 1, by omega, by go_num⟩
                case measure => simp [intOf]; omega
              · go_wp2_with fail
                go_ret
                exact ⟨rfl, Below.refl _ _⟩
            · go_wp2_with fail
              refine (C1.out _).mono ?_
              rintro e W ⟨rfl, hb⟩
              have HB := Lib.hid hb
              clear hb
              go_wp2_with fail
              refine (C2.out _).mono ?_
              rintro e w' ⟨rfl, rfl⟩
              go_wp2_with fail
              go_ret
              exact ⟨rfl, HB.out⟩
        · go_wp2_with fail
          go_ret
          exact ⟨rfl, Below.refl _ _⟩

set_option maxRecDepth 100000 in
theorem lifted (os : Os) (started : os.Started) (H : Type) (enc : TypeId × Value → H) :
    ReturnsInHanded {} Try.checked os 4 .any (Rows.fnSpaceStrippedSpec.pre6 enc Try.prog Try.f4 [] false) (Rows.fnSpaceStrippedSpec.post enc Try.prog Try.f4 false true false false) := by
  refine LawKit.law_lifted (C := Try.checked) own started (by kernel_rfl) Try.func4
    (ChangeSpec.witness6 (enc := enc) (C := Try.checked) false ⟨#[], #[.string ByteArray.empty, .int .i64 0], []⟩ 8 (by kernel_rfl) (by kernel_rfl) (by kernel_rfl) (by kernel_rfl))
    laidOut (by kernel_rfl) rfl (by kernel_rfl) Try.underlying4 ?_ ?_
  · intro ds hl
    have hl' : ds.length = 2 := hl
    obtain ⟨a, b, rfl⟩ : ∃ a b, ds = [a, b] := by
      match ds, hl' with
      | [a, b], _ => exact ⟨a, b, rfl⟩
    exact ⟨rfl, rfl, rfl⟩
  · intro W base args ds before hval0 hA0 _ _
    have hval : ∀ (j : Nat) t v, Try.f4.params[j]? = some t → args[j]? = some v → Value.okWide Try.prog W .any base t v := hval0
    have hA : DataW.TrodAll enc Try.prog W 0 (fun _ => true) true Try.f4.params.toList args.toList ds before := hA0
    rw [Try.params4] at hA hval
    obtain ⟨v0, v1, d0, d1, p0, p1, rfl, rfl, rfl, h0, h1⟩ := trodAll_two hA
    obtain ⟨s, rfl, rfl, rfl, hs⟩ := open_string Try.underlying9 (hval 0 9 v0 rfl rfl) h0
    obtain ⟨m, rfl, rfl, rfl, _⟩ := open_int Try.underlying3 (hval 1 3 v1 rfl rfl) h1
    exact walk s m W (by unfold maxLen at hs; omega)

theorem holds : Rows.FnSpaceStrippedSaid :=
  OpenClaim.holds_of_wide 4 Try.f4 rfl rfl rfl rfl rfl rfl rfl ⟨rfl, rfl, rfl, rfl, rfl⟩ rfl rfl rfl rfl rfl (by kernel_rfl) Try.func4 (by kernel_rfl)
    (of_decide_eq_true (by kernel_rfl)) (by unfold Func.isWrapper; first | (rw [if_pos (by decide +kernel)]; kernel_rfl) | (rw [if_neg (by decide +kernel)]; exact ⟨rfl, rfl⟩))
    (fun os started H enc _ => lifted os started H enc)

end Go.Proofs.Ytfdkgaipakannaa.strip
