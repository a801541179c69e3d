/- FnChildren: spec.shapedGreat by contract: fields with a computed name; all kinds; what spec asks of texts: some truth value, some number; keywords, identifiers: some answer; code points, numbers: some answer; texts in UTF-8, numbers: some answer. -/
import Derived.Test.YtincgkolpicipaaC01
import Derived.Test.YtincgkolpicipaaC02
import Derived.Deep.RegionWith
import Derived.Deep.RegionHeld3
import Derived.Deep.DeepCutAuto
set_option linter.unusedVariables false
set_option linter.unusedSimpArgs false
namespace Go.Proofs.Ytincgkolpicipaa.kin
open Go.RowKit
open Go.Proofs.Ytincgkolpicipaa.stack (step_after AnyBool AnyInt add_off owns_form)
set_option maxRecDepth 100000 in
set_option maxHeartbeats 2000000 in
theorem great_35c (q o cap : Nat) (ns : List Nd) (v : Value) (ks : List Nat) (hks : ∀ k ∈ ks, k < ns.length) (B : Nat) (w : World) (hrow : Row w q o ns) (hp : Plc B w v ks) (a : Nat) (n : Nd) (hn : ns[a]? = some n) (hk : n.k = 35) (hm1 : n.m = 2 ∨ n.m = 6 ∨ n.m = 10) :
    Calls Try.prog 75 (greatArgs q o cap ns a v) w fun r w' => Says r (Shp ns n ks) ∧ Below w.heap.size w w' := by
  obtain ⟨c0, c1, c2, c3, c4, -⟩ := hrow a n hn
  have hal : (a : Int) < (ns.length : Int) := by have := (List.getElem?_eq_some_iff.1 hn).1; omega
  have HB0 := Lib.hid (fun (o1 : Obj) => (Below.refl w.heap.size w).alloc (Nat.le_refl _) o1)
  have HN := Lib.hid hk
  rw [hk] at c0
  cases ks with
  | nil =>
    obtain ⟨A, pc, rfl, -, -⟩ := hp.form
    clear hp hrow hn hks hk
    rcases hm1 with hm1 | hm1 | hm1
    all_goals
      rw [hm1] at c3
      go_enter Try.func75, Try.ntmps75
      go_wp2
      all_goals
        go_ret
        refine ⟨.no, ?_⟩
        exact HB0.out _
  | cons x r =>
  rcases List.eq_nil_or_concat r with rfl | ⟨ps, b, rfl⟩
  · obtain ⟨A, pc, rfl, -, -⟩ := hp.form
    clear hp hrow hn hks hk
    rcases hm1 with hm1 | hm1 | hm1
    all_goals
      rw [hm1] at c3
      go_enter Try.func75, Try.ntmps75
      go_wp2
      all_goals
        go_ret
        refine ⟨.no, ?_⟩
        exact HB0.out _
  · rw [List.concat_eq_append] at hp hks ⊢
    obtain ⟨p, po, pc, rfl, hpc, hl, hBp, hpw, cx⟩ := hp.at (j := 0) (k := x) rfl
    rw [Nat.add_zero] at cx
    obtain ⟨p', po', pc', hv, -, -, -, -, cb⟩ := hp.at (j := ps.length + 1) (k := b) (by simp)
    cases hv
    obtain ⟨nx, hnx⟩ := getElem?_lt (hks x (by simp))
    obtain ⟨nb, hnb⟩ := getElem?_lt (hks b (by simp))
    have hfrom := Plc.drop (ks := [x]) (ls := ps ++ [b]) hp rfl
    have htake := hfrom.take rfl
    simp only [List.length_cons, List.length_nil, Nat.zero_add] at htake
    have HK := Lib.hid (fun w' cv (hb : Below w.heap.size w w') (hc : Cs w' cv [33]) => (kinds_says q o cap ns _ cv ps [33] (fun j hj => hks j (by simp [hj])) B w' (hrow.later hb) (htake.later hb) hc).mono (R' := fun r' w1 => ((r' = .returned (.bool false)) ∨ (r' = .returned (.bool true) ∧ Kd ns [33] ps)) ∧ Below w.heap.size w w1 ∧ w1.cell? ⟨p, po + (ps.length + 1), none⟩ = some (.int .i64 b)) fun r' w1 h => ⟨h.1.cases, step_after hb h.2, cell_later (step_after hb h.2) cb⟩)
    have HEX := Lib.hid (fun w' (hb : Below w.heap.size w w') => expr_says q o cap ns x nx hnx w' (hrow.later hb))
    have HE := Lib.hid (fun w' (hb : Below w.heap.size w w') => expr_says q o cap ns b nb hnb w' (hrow.later hb))
    have cx2 : ∀ o1, (w.alloc o1).cell? ⟨p, po, none⟩ = some (.int .i64 x) := fun o1 => cell_later (HB0.out o1) cx
    rw [List.length_cons, List.length_append] at hpc hl ⊢
    simp only [List.length_cons, List.length_nil, Nat.zero_add] at hpc hl ⊢
    clear hp hrow hn hks hk hnb hnx htake hfrom cb cx
    generalize hm : ps.length = m at hpc hl HK ⊢
    have HM := Lib.hid hm
    have w1 : IntKind.i64.wrap ((m : Int) + 1 + 1 - 1) = (m : Int) + 1 := by rw [IntWalk.i64_in _ (by omega)]; omega
    have hml : (m : Int) + 1 < (m : Int) + 1 + 1 := by omega
    have t2 : decide ((m : Int) + 1 + 1 < 2) = false := decide_eq_false (by omega)
    have hpc2 : (1 : Int) ≤ (pc : Int) := by omega
    have hpcn : pc ≠ 1 := by omega
    clear hm
    have HM1 := Lib.hid hm1
    cases hexx : ex ns x
    · simp only [hexx] at HEX
      clear hexx
      rcases hm1 with hm1 | hm1 | hm1
      all_goals
        rw [hm1] at c3
        clear hm1
        go_enter Try.func75, Try.ntmps75
        go_wp2_with (go_at_call 37; refine (HEX.out _ (HB0.out _)).mono ?_; rintro r1 w1 ⟨rfl, rfl⟩)
        go_ret
        refine ⟨.no, ?_⟩
        exact HB0.out _
    have HXX := Lib.hid (ex_iff.1 hexx)
    simp only [hexx] at HEX
    clear hexx
    by_cases h10 : n.m = 10
    · rw [h10] at c3
      have HM10 := Lib.hid h10
      clear hm1 h10
      cases hex : ex ns b
      · simp only [hex] at HE
        clear hex
        go_enter Try.func75, Try.ntmps75
        go_wp2_with (first | (go_at_call_of 37 (Value.int IntKind.i64 x); refine (HEX.out _ (HB0.out _)).mono ?_; rintro r1 w1 ⟨rfl, rfl⟩) | (go_at_call 74; refine (HK.out _ _ (below_two w _ _) (cs_new2 w _ [33] 3 (by decide))).mono ?_; rintro r' w1 ⟨rfl | ⟨rfl, hkd⟩, hb, cb⟩; all_goals (have HB := Lib.hid hb; clear hb); try (have HKD := Lib.hid hkd; clear hkd)) | (go_at_call 37; refine (HE.out _ HB.out).mono ?_; rintro r1 w2 ⟨rfl, rfl⟩))
        all_goals
          go_ret
          refine ⟨.no, ?_⟩
          exact HB.out
      · have HX := Lib.hid (ex_iff.1 hex)
        simp only [hex] at HE
        clear hex
        go_enter Try.func75, Try.ntmps75
        go_wp2_with (first | (go_at_call_of 37 (Value.int IntKind.i64 x); refine (HEX.out _ (HB0.out _)).mono ?_; rintro r1 w1 ⟨rfl, rfl⟩) | (go_at_call 74; refine (HK.out _ _ (below_two w _ _) (cs_new2 w _ [33] 3 (by decide))).mono ?_; rintro r' w1 ⟨rfl | ⟨rfl, hkd⟩, hb, cb⟩; all_goals (have HB := Lib.hid hb; clear hb); try (have HKD := Lib.hid hkd; clear hkd)) | (go_at_call 37; refine (HE.out _ HB.out).mono ?_; rintro r1 w2 ⟨rfl, rfl⟩))
        · go_ret
          refine ⟨.no, ?_⟩
          exact HB.out
        · go_ret
          refine ⟨.yes ?_, ?_⟩
          · exact .field3 HN.out HM10.out HXX.out HKD.out HX.out
          · exact HB.out
    have hm2 : n.m = 2 ∨ n.m = 6 := by omega
    have HM2 := Lib.hid hm2
    clear h10 hm1
    by_cases h0 : m = 0
    rotate_left
    · have t3 : ((m : Int) + 1 + 1 != 2) = true := by simp; omega
      clear h0
      rcases hm2 with hm1 | hm1
      all_goals
        rw [hm1] at c3
        clear hm1
        go_enter Try.func75, Try.ntmps75
        go_wp2_with (go_at_call_of 37 (Value.int IntKind.i64 x); refine (HEX.out _ (HB0.out _)).mono ?_; rintro r1 w1 ⟨rfl, rfl⟩)
        go_ret
        refine ⟨.no, ?_⟩
        exact HB0.out _
    have t3 : ((m : Int) + 1 + 1 != 2) = false := by simp; omega
    have HM0 := Lib.hid h0
    clear h0
    cases hex : ex ns b
    · simp only [hex] at HE
      clear hex
      rcases hm2 with hm1 | hm1
      all_goals
        rw [hm1] at c3
        clear hm1
        go_enter Try.func75, Try.ntmps75
        go_wp2_with (first | (go_at_call_of 37 (Value.int IntKind.i64 x); refine (HEX.out _ (HB0.out _)).mono ?_; rintro r1 w1 ⟨rfl, rfl⟩) | (go_at_call 74; refine (HK.out _ _ (below_two w _ _) (cs_new2 w _ [33] 3 (by decide))).mono ?_; rintro r' w1 ⟨rfl | ⟨rfl, hkd⟩, hb, cb⟩; all_goals (have HB := Lib.hid hb; clear hb); try (have HKD := Lib.hid hkd; clear hkd)) | (go_at_call 37; refine (HE.out _ HB.out).mono ?_; rintro r1 w2 ⟨rfl, rfl⟩))
        all_goals
          go_ret
          refine ⟨.no, ?_⟩
          exact HB.out
    · have HX := Lib.hid (ex_iff.1 hex)
      simp only [hex] at HE
      clear hex
      rcases hm2 with hm1 | hm1
      all_goals
        rw [hm1] at c3
        clear hm1
        go_enter Try.func75, Try.ntmps75
        go_wp2_with (first | (go_at_call_of 37 (Value.int IntKind.i64 x); refine (HEX.out _ (HB0.out _)).mono ?_; rintro r1 w1 ⟨rfl, rfl⟩) | (go_at_call 74; refine (HK.out _ _ (below_two w _ _) (cs_new2 w _ [33] 3 (by decide))).mono ?_; rintro r' w1 ⟨rfl | ⟨rfl, hkd⟩, hb, cb⟩; all_goals (have HB := Lib.hid hb; clear hb); try (have HKD := Lib.hid hkd; clear hkd)) | (go_at_call 37; refine (HE.out _ HB.out).mono ?_; rintro r1 w2 ⟨rfl, rfl⟩))
        · go_ret
          refine ⟨.no, ?_⟩
          exact HB.out
        · go_ret
          refine ⟨.yes ?_, ?_⟩
          · have h0 := HM.out; rw [HM0.out] at h0; rw [List.length_eq_zero_iff.1 h0]; exact .field1 HN.out HM2.out HXX.out HX.out
          · exact HB.out
/-- spec.shapedGreat, of all kinds that it is asked of. -/
theorem great_says (q o cap : Nat) (ns : List Nd) (v : Value) (ks : List Nat) (hks : ∀ k ∈ ks, k < ns.length) (B : Nat) (w : World) (hrow : Row w q o ns) (hp : Plc B w v ks) (a : Nat) (n : Nd) (hn : ns[a]? = some n) (hbar : Bar n) :
    Calls Try.prog 75 (greatArgs q o cap ns a v) w fun r w' => Says r (Shp ns n ks) ∧ Below w.heap.size w w' := by
  by_cases h17 : n.k = 17
  · exact great_17 q o cap ns v ks hks B w hrow hp a n hn h17
  by_cases h29 : n.k = 29
  · exact great_29 q o cap ns v ks hks B w hrow hp a n hn h29
  by_cases h12 : n.k = 12
  · exact great_12 q o cap ns v ks hks B w hrow hp a n hn h12
  by_cases h13 : n.k = 13
  · exact great_13 q o cap ns v ks hks B w hrow hp a n hn h13
  by_cases h14 : n.k = 14
  · exact great_14 q o cap ns v ks hks B w hrow hp a n hn h14
  by_cases h19 : n.k = 19
  · exact great_19 q o cap ns v ks hks B w hrow hp a n hn h19
  by_cases h32 : n.k = 32
  · rcases hbar.bind h32 with hm | hm
    · exact great_32p q o cap ns v ks hks B w hrow hp a n hn h32 hm
    · exact great_32f q o cap ns v ks hks B w hrow hp a n hn h32 hm
  by_cases h20 : n.k = 20
  · exact great_20 q o cap ns v ks hks B w hrow hp a n hn h20
  by_cases h18 : n.k = 18
  · exact great_18 q o cap ns v ks hks B w hrow hp a n hn h18
  by_cases h35 : n.k = 35
  · obtain ⟨-, hm⟩ := hbar.field h35
    by_cases ha : n.m = 0 ∨ n.m = 1 ∨ n.m = 4 ∨ n.m = 5
    · exact great_35a q o cap ns v ks hks B w hrow hp a n hn h35 ha
    by_cases hb : n.m = 8 ∨ n.m = 9
    · exact great_35b q o cap ns v ks hks B w hrow hp a n hn h35 hb
    · exact great_35c q o cap ns v ks hks B w hrow hp a n hn h35 (by omega)
  have e : ∀ c : Int, n.k ≠ c → (n.k == c) = false := fun c h => by simpa using h
  exact great_other q o cap ns v ks hks B w hrow hp a n hn (e _ h17) (e _ h29) (e _ h12) (e _ h13) (e _ h14) (e _ h19) (e _ h32) (e _ h20) (e _ h18) (e _ h35)
end Go.Proofs.Ytincgkolpicipaa.kin
namespace Go.Proofs.Ytincgkolpicipaa.kin
open Go.RowKit
open Go.Proofs.Ytincgkolpicipaa.stack (step_after AnyBool AnyInt add_off owns_form)
theorem digit_any (c : Nat) (w : World) : Calls Try.prog 88 #[.int .u8 c] w fun r w' => AnyBool r ∧ w = w' := by
  by_cases h1 : (48 : Int) ≤ c
  · have t1 : decide ((48 : Int) ≤ c) = true := decide_eq_true h1
    go_enter Try.func88, Try.ntmps88
    go_wp2
    go_ret
    exact ⟨⟨_, rfl⟩, rfl⟩
  · have t1 : decide ((48 : Int) ≤ c) = false := decide_eq_false h1
    go_enter Try.func88, Try.ntmps88
    go_wp2
    go_ret
    exact ⟨⟨_, rfl⟩, rfl⟩
set_option maxHeartbeats 1000000 in
theorem letter_any (c : Nat) (w : World) : Calls Try.prog 111 #[.int .u8 c] w fun r w' => AnyBool r ∧ w = w' := by
  by_cases h1 : (97 : Int) ≤ c
  · have t1 : decide ((97 : Int) ≤ c) = true := decide_eq_true h1
    have t3 : decide ((65 : Int) ≤ c) = true := decide_eq_true (by omega)
    by_cases h2 : (c : Int) ≤ 122
    · have t2 : decide ((c : Int) ≤ 122) = true := decide_eq_true h2
      go_enter Try.func111, Try.ntmps111
      go_wp2
      go_ret
      exact ⟨⟨_, rfl⟩, rfl⟩
    · have t2 : decide ((c : Int) ≤ 122) = false := decide_eq_false h2
      have t4 : decide ((c : Int) ≤ 90) = false := decide_eq_false (by omega)
      go_enter Try.func111, Try.ntmps111
      go_wp2
      go_ret
      exact ⟨⟨_, rfl⟩, rfl⟩
  · have t1 : decide ((97 : Int) ≤ c) = false := decide_eq_false h1
    by_cases h3 : (65 : Int) ≤ c
    · have t3 : decide ((65 : Int) ≤ c) = true := decide_eq_true h3
      by_cases h2 : (c : Int) ≤ 90
      · have t2 : decide ((c : Int) ≤ 90) = true := decide_eq_true h2
        go_enter Try.func111, Try.ntmps111
        go_wp2
        go_ret
        exact ⟨⟨_, rfl⟩, rfl⟩
      · have t2 : decide ((c : Int) ≤ 90) = false := decide_eq_false h2
        go_enter Try.func111, Try.ntmps111
        go_wp2
        go_ret
        exact ⟨⟨_, rfl⟩, rfl⟩
    · have t3 : decide ((65 : Int) ≤ c) = false := decide_eq_false h3
      go_enter Try.func111, Try.ntmps111
      go_wp2
      go_ret
      exact ⟨⟨_, rfl⟩, rfl⟩
set_option maxHeartbeats 1000000 in
theorem continued_says (s : ByteArray) (i : Nat) (w : World) : Calls Try.prog 110 #[.string s, .int .i64 i] w fun r w' => Says r (i < s.size) ∧ w = w' := by
  by_cases h1 : i < s.size
  · have t1 : (i : Int) < (s.size : Int) := by omega
    by_cases h2 : (128 : Int) ≤ (s[i]).toNat
    · have t2 : decide ((128 : Int) ≤ (s[i]).toNat) = true := decide_eq_true h2
      go_enter Try.func110, Try.ntmps110
      go_wp2
      go_ret
      exact ⟨⟨_, rfl, fun _ => h1⟩, rfl⟩
    · have t2 : decide ((128 : Int) ≤ (s[i]).toNat) = false := decide_eq_false h2
      go_enter Try.func110, Try.ntmps110
      go_wp2
      go_ret
      exact ⟨.no, rfl⟩
  · have t1 : ¬ (i : Int) < (s.size : Int) := by omega
    go_enter Try.func110, Try.ntmps110
    go_wp2
    go_ret
    exact ⟨.no, rfl⟩
theorem digits_says (s : ByteArray) (a : Nat) (hs : s.size ≤ 4000) (ha : a ≤ s.size) (w : World) : Calls Try.prog 87 #[.string s, .int .i64 a] w fun r w' => (∃ e : Nat, r = .returned (.int .i64 e) ∧ a ≤ e ∧ e ≤ s.size) ∧ w = w' := by
  have HA := Lib.hid ha
  have HS := Lib.hid hs
  clear ha
  go_enter Try.func87, Try.ntmps87
  go_wp2
  go_loop [1] (fun i => ∃ k : Nat, a ≤ k ∧ k ≤ s.size ∧ i = .int .i64 k) (fun i => s.size - (intOf i).toNat)
  case atStart => exact ⟨a, Nat.le_refl _, HA.out, rfl⟩
  case round =>
    obtain ⟨k, hk1, hk, rfl⟩ := hrel
    by_cases hlt : k < s.size
    · have hki : (k : Int) < (s.size : Int) := by omega
      have w1 : IntKind.i64.wrap ((k : Int) + 1) = ((k + 1 : Nat) : Int) := by rw [IntWalk.i64_in _ (by omega)]; simp
      have HD := Lib.hid (digit_any (s[k]).toNat w)
      go_wp2_with (go_at_call 88; refine HD.out.mono ?_; rintro r w1 ⟨⟨b, rfl⟩, rfl⟩; cases b)
      · go_ret
        exact ⟨⟨k, rfl, hk1, hk⟩, rfl⟩
      · go_round
        case rel => exact ⟨k + 1, by omega, by omega, rfl⟩
        case measure => simp [intOf]; omega
    · have hki : ¬ (k : Int) < (s.size : Int) := by omega
      go_wp2
      go_ret
      exact ⟨⟨k, rfl, hk1, hk⟩, rfl⟩
theorem empty_pos {s : ByteArray} (h : s.toList.isEmpty = false) : 0 < s.size := by
  rw [ByteArray.toList_eq] at h
  rcases Nat.eq_zero_or_pos s.size with h0 | h0
  · have h1 : s.data.toList = [] := List.length_eq_zero_iff.1 (by rw [Array.length_toList]; exact h0)
    rw [h1] at h; cases h
  · exact h0
theorem word_any (s : ByteArray) (hs : s.size ≤ 4000) (w : World) : Calls Try.prog 90 #[.string s] w fun r w' => AnyBool r ∧ w = w' := by
  cases t0 : s.toList.isEmpty
  rotate_left
  · go_enter Try.func90, Try.ntmps90
    go_wp2
    go_ret
    exact ⟨⟨_, rfl⟩, rfl⟩
  · have hpos : 0 < s.size := empty_pos t0
    have hp : (0 : Int) < (s.size : Int) := by omega
    have HL := Lib.hid (fun (k : Nat) (hk : k < s.size) => letter_any (s[k]).toNat w)
    have HD := Lib.hid (fun (k : Nat) (hk : k < s.size) => digit_any (s[k]).toNat w)
    go_enter Try.func90, Try.ntmps90
    go_wp2_with (go_at_call 111; refine (HL.out 0 hpos).mono ?_; rintro r w1 ⟨⟨b, rfl⟩, rfl⟩; cases b)
    · go_ret
      exact ⟨⟨_, rfl⟩, rfl⟩
    go_loop [3] (fun i => ∃ k : Nat, 1 ≤ k ∧ k ≤ s.size ∧ i = .int .i64 k) (fun i => s.size - (intOf i).toNat)
    case atStart => exact ⟨1, Nat.le_refl _, by omega, rfl⟩
    case round =>
      obtain ⟨k, hk1, hk, rfl⟩ := hrel
      by_cases hlt : k < s.size
      · have hki : (k : Int) < (s.size : Int) := by omega
        have w1 : IntKind.i64.wrap ((k : Int) + 1) = ((k + 1 : Nat) : Int) := by rw [IntWalk.i64_in _ (by omega)]; simp
        go_wp2_with (first | (go_at_call 111; refine (HL.out k hlt).mono ?_; rintro r w1 ⟨⟨b, rfl⟩, rfl⟩; cases b) | (go_at_call 88; refine (HD.out k hlt).mono ?_; rintro r w1 ⟨⟨b, rfl⟩, rfl⟩; cases b))
        · go_ret
          exact ⟨⟨_, rfl⟩, rfl⟩
        all_goals
          go_round
          case rel => exact ⟨k + 1, by omega, by omega, rfl⟩
          case measure => simp [intOf]; omega
      · have hki : ¬ (k : Int) < (s.size : Int) := by omega
        go_wp2
        go_ret
        exact ⟨⟨_, rfl⟩, rfl⟩
end Go.Proofs.Ytincgkolpicipaa.kin
namespace Go.Proofs.Ytincgkolpicipaa.kin
open Go.RowKit
open Go.Proofs.Ytincgkolpicipaa.stack (step_after AnyBool AnyInt add_off owns_form)
def isStr : Value → Bool
  | .string _ => true
  | _ => false
theorem str_at (a : Array Value) (h : a.toList.all isStr = true) (j : Nat) (hj : j < a.size) : ∃ t, a[j]? = some (.string t) := by
  have hv : a[j]? = some a[j] := Array.getElem?_eq_getElem hj
  have := List.all_eq_true.1 h a[j] (by simp)
  rw [hv]
  cases hx : a[j] <;> rw [hx] at this <;> simp [isStr] at this
  exact ⟨_, rfl⟩
set_option maxRecDepth 100000 in
set_option maxHeartbeats 1000000 in
theorem keyword_any (s : ByteArray) (w : World) : Calls Try.prog 91 #[.string s] w fun r w' => AnyBool r ∧ Below w.heap.size w w' := by
  go_enter Try.func91, Try.ntmps91
  go_wp2
  go_loopw [4] (fun i wr => ∃ k : Nat, k ≤ 18 ∧ i = .int .i64 k ∧ Below w.heap.size w wr ∧ ∀ j, j < 18 → ∃ t, wr.cell? ⟨w.heap.size, j, none⟩ = some (.string t)) (fun i _ => 18 - (intOf i).toNat)
  case atStart => exact ⟨0, by omega, rfl, (Below.refl _ _).alloc (Nat.le_refl _) _, fun j hj => by rw [World.cell?_alloc_at _ _ _ _ (by simp)]; exact str_at _ (by simp [isStr]) j hj⟩
  case round =>
    obtain ⟨k, hk, rfl, hb, hc⟩ := hrel
    have HB := Lib.hid hb
    have HC := Lib.hid hc
    by_cases hlt : k < 18
    · obtain ⟨t, ht⟩ := hc k hlt
      have hki : (k : Int) < 18 := by omega
      clear hb hc
      cases hq : (t.toList == s.toList)
      · go_wp2
        go_roundw
        case rel => exact ⟨k + 1, by omega, by go_num, HB.out, HC.out⟩
        case measure => simp [intOf]; omega
      · go_wp2
        go_ret
        exact ⟨⟨_, rfl⟩, HB.out⟩
    · have hki : ¬ (k : Int) < 18 := by omega
      clear hb hc
      go_wp2
      go_ret
      exact ⟨⟨_, rfl⟩, HB.out⟩
theorem identifier_any (s : ByteArray) (hs : s.size ≤ 4000) (w : World) : Calls Try.prog 71 #[.string s] w fun r w' => AnyBool r ∧ Below w.heap.size w w' := by
  have H1 := Lib.hid (word_any s hs w)
  have H2 := Lib.hid (keyword_any s w)
  clear hs
  go_enter Try.func71, Try.ntmps71
  go_wp2_with (first | (go_at_call 90; refine H1.out.mono ?_; rintro r w1 ⟨⟨b, rfl⟩, rfl⟩; cases b) | (go_at_call 91; refine H2.out.mono ?_; rintro r w1 ⟨⟨b, rfl⟩, hb⟩; have HB := Lib.hid hb; clear hb))
  · go_ret
    exact ⟨⟨_, rfl⟩, Below.refl _ _⟩
  · go_ret
    exact ⟨⟨_, rfl⟩, HB.out⟩
end Go.Proofs.Ytincgkolpicipaa.kin
namespace Go.Proofs.Ytincgkolpicipaa.kin
open Go.RowKit
open Go.Proofs.Ytincgkolpicipaa.stack (step_after AnyBool AnyInt add_off owns_form)
def AnyNum (r : Ending) : Prop := ∃ (p : Int) (n : Nat), r = .returned (.tuple #[.int .i64 p, .int .i64 n]) ∧ n ≤ 4
theorem continued_at (s : ByteArray) (x : Int) (hx : 0 ≤ x) (w : World) : Calls Try.prog 110 #[.string s, .int .i64 x] w fun r w' => (r = .returned (.bool false) ∨ r = .returned (.bool true) ∧ x < s.size) ∧ w = w' := by
  obtain ⟨j, rfl⟩ : ∃ j : Nat, x = j := ⟨x.toNat, by omega⟩
  refine (continued_says s j w).mono ?_
  rintro r w' ⟨h, rfl⟩
  refine ⟨?_, rfl⟩
  rcases h.cases with h | ⟨h, hj⟩
  · exact .inl h
  · exact .inr ⟨h, by omega⟩
set_option maxRecDepth 100000 in
set_option maxHeartbeats 2000000 in
theorem point_low (s : ByteArray) (i : Nat) (hi : i < s.size) (hs : s.size ≤ 4000) (hc : (s[i]).toNat < 224) (w : World) : Calls Try.prog 89 #[.string s, .int .i64 i] w fun r w' => AnyNum r ∧ Below w.heap.size w w' := by
  have hin : (i : Int) < (s.size : Int) := by omega
  have w1 : IntKind.i64.wrap ((i : Int) + 1) = (i : Int) + 1 := IntWalk.i64_in _ (by omega)
  have H1 := Lib.hid (continued_at s ((i : Int) + 1) (by omega) w)
  have t3 : decide ((224 : Int) ≤ (s[i]).toNat) = false := decide_eq_false (by omega)
  have t4 : decide ((240 : Int) ≤ (s[i]).toNat) = false := decide_eq_false (by omega)
  have t5 : decide (((s[i]).toNat : Int) < 224) = true := decide_eq_true (by omega)
  by_cases h1 : (s[i]).toNat < 128
  · have t1 : decide (((s[i]).toNat : Int) < 128) = true := decide_eq_true (by omega)
    go_enter Try.func89, Try.ntmps89
    go_wp2
    go_ret2
    exact ⟨⟨_, 1, rfl, by omega⟩, Below.refl _ _⟩
  have t1 : decide (((s[i]).toNat : Int) < 128) = false := decide_eq_false (by omega)
  by_cases h2 : 194 ≤ (s[i]).toNat
  · have t2 : decide ((194 : Int) ≤ (s[i]).toNat) = true := decide_eq_true (by omega)
    go_enter Try.func89, Try.ntmps89
    go_wp2_with (go_at_call 110; refine H1.out.mono ?_; rintro r w1 ⟨rfl | ⟨rfl, hx⟩, rfl⟩)
    · go_ret2
      exact ⟨⟨_, 0, rfl, by omega⟩, Below.refl _ _⟩
    · go_ret2
      exact ⟨⟨_, 2, rfl, by omega⟩, Below.refl _ _⟩
  · have t2 : decide ((194 : Int) ≤ (s[i]).toNat) = false := decide_eq_false (by omega)
    go_enter Try.func89, Try.ntmps89
    go_wp2
    go_ret2
    exact ⟨⟨_, 0, rfl, by omega⟩, Below.refl _ _⟩
set_option maxRecDepth 100000 in
set_option maxHeartbeats 4000000 in
theorem point_mid (s : ByteArray) (i : Nat) (hi : i < s.size) (hs : s.size ≤ 4000) (hc : 224 ≤ (s[i]).toNat) (hd : (s[i]).toNat < 240) (w : World) : Calls Try.prog 89 #[.string s, .int .i64 i] w fun r w' => AnyNum r ∧ Below w.heap.size w w' := by
  have hin : (i : Int) < (s.size : Int) := by omega
  have w1 : IntKind.i64.wrap ((i : Int) + 1) = (i : Int) + 1 := IntWalk.i64_in _ (by omega)
  have w2 : IntKind.i64.wrap ((i : Int) + 2) = (i : Int) + 2 := IntWalk.i64_in _ (by omega)
  have H1 := Lib.hid (continued_at s ((i : Int) + 1) (by omega) w)
  have H2 := Lib.hid (continued_at s ((i : Int) + 2) (by omega) w)
  have t1 : decide (((s[i]).toNat : Int) < 128) = false := decide_eq_false (by omega)
  have t2 : decide ((194 : Int) ≤ (s[i]).toNat) = true := decide_eq_true (by omega)
  have t3 : decide (((s[i]).toNat : Int) < 224) = false := decide_eq_false (by omega)
  have t4 : decide ((224 : Int) ≤ (s[i]).toNat) = true := decide_eq_true (by omega)
  have t5 : decide (((s[i]).toNat : Int) < 240) = true := decide_eq_true (by omega)
  have t6 : decide ((240 : Int) ≤ (s[i]).toNat) = false := decide_eq_false (by omega)
  have e0 : wrap64 ((s[i]).toNat : Int) = ((s[i]).toNat : Int) := by unfold wrap64; have := (s[i]).toNat_lt; omega
  clear hs hc hd
  go_enter Try.func89, Try.ntmps89
  go_upto_region 7 with fail
  refine H1.out.mono ?_
  rintro r w1 ⟨rfl | ⟨rfl, hx⟩, rfl⟩
  · go_upto_region 7 with fail
    go_ret2
    exact ⟨⟨_, 0, rfl, by omega⟩, Below.refl _ _⟩
  go_upto_region 7 with fail
  refine H2.out.mono ?_
  rintro r w1 ⟨rfl | ⟨rfl, hy⟩, rfl⟩
  · go_upto_region 7 with fail
    go_ret2
    exact ⟨⟨_, 0, rfl, by omega⟩, Below.refl _ _⟩
  go_upto_region 7 with fail
  go_cut [7] (fun v wx => (∃ p : Int, v = .int .i64 p) ∧ Below w.heap.size w wx)
  case first =>
    have n1 : ((i : Int) + 1).toNat = i + 1 := by omega
    have n2 : ((i : Int) + 2).toNat = i + 2 := by omega
    have m1 : i + 1 < s.size := by omega
    have m2 : i + 2 < s.size := by omega
    have m3 : (0 : Int) ≤ (i : Int) + 1 := by omega
    have m4 : (0 : Int) ≤ (i : Int) + 2 := by omega
    go_quiet (fail)
    go_wp2
    go_meet
    exact ⟨⟨_, rfl⟩, bdn (Below.refl _ _) _⟩
  case rest =>
    obtain ⟨⟨p, rfl⟩, hb⟩ := hcut
    have HB := Lib.hid hb
    clear hb
    by_cases q1 : (2048 : Int) ≤ p
    · have u1 : decide ((2048 : Int) ≤ p) = true := decide_eq_true q1
      by_cases q2 : p < 55296
      · have u2 : decide (p < 55296) = true := decide_eq_true q2
        clear q1 q2
        go_wp2
        go_ret2
        exact ⟨⟨_, 3, rfl, by omega⟩, HB.out⟩
      · have u2 : decide (p < 55296) = false := decide_eq_false q2
        by_cases q3 : (57343 : Int) < p
        · have u3 : decide ((57343 : Int) < p) = true := decide_eq_true q3
          clear q1 q2 q3
          go_wp2
          go_ret2
          exact ⟨⟨_, 3, rfl, by omega⟩, HB.out⟩
        · have u3 : decide ((57343 : Int) < p) = false := decide_eq_false q3
          clear q1 q2 q3
          go_wp2
          go_ret2
          exact ⟨⟨_, 0, rfl, by omega⟩, HB.out⟩
    · have u1 : decide ((2048 : Int) ≤ p) = false := decide_eq_false q1
      clear q1
      go_wp2
      go_ret2
      exact ⟨⟨_, 0, rfl, by omega⟩, HB.out⟩
set_option maxRecDepth 100000 in
set_option maxHeartbeats 4000000 in
theorem point_high (s : ByteArray) (i : Nat) (hi : i < s.size) (hs : s.size ≤ 4000) (hc : 240 ≤ (s[i]).toNat) (w : World) : Calls Try.prog 89 #[.string s, .int .i64 i] w fun r w' => AnyNum r ∧ Below w.heap.size w w' := by
  have hin : (i : Int) < (s.size : Int) := by omega
  have w1 : IntKind.i64.wrap ((i : Int) + 1) = (i : Int) + 1 := IntWalk.i64_in _ (by omega)
  have w2 : IntKind.i64.wrap ((i : Int) + 2) = (i : Int) + 2 := IntWalk.i64_in _ (by omega)
  have w3 : IntKind.i64.wrap ((i : Int) + 3) = (i : Int) + 3 := IntWalk.i64_in _ (by omega)
  have H1 := Lib.hid (continued_at s ((i : Int) + 1) (by omega) w)
  have H2 := Lib.hid (continued_at s ((i : Int) + 2) (by omega) w)
  have H3 := Lib.hid (continued_at s ((i : Int) + 3) (by omega) w)
  have t1 : decide (((s[i]).toNat : Int) < 128) = false := decide_eq_false (by omega)
  have t2 : decide ((194 : Int) ≤ (s[i]).toNat) = true := decide_eq_true (by omega)
  have t3 : decide (((s[i]).toNat : Int) < 224) = false := decide_eq_false (by omega)
  have t4 : decide ((224 : Int) ≤ (s[i]).toNat) = true := decide_eq_true (by omega)
  have t5 : decide (((s[i]).toNat : Int) < 240) = false := decide_eq_false (by omega)
  have t6 : decide ((240 : Int) ≤ (s[i]).toNat) = true := decide_eq_true (by omega)
  have e0 : wrap64 ((s[i]).toNat : Int) = ((s[i]).toNat : Int) := by unfold wrap64; have := (s[i]).toNat_lt; omega
  by_cases h7 : (s[i]).toNat < 245
  rotate_left
  · have t7 : decide (((s[i]).toNat : Int) < 245) = false := decide_eq_false (by omega)
    clear hs hc h7
    go_enter Try.func89, Try.ntmps89
    go_upto_region 11 with fail
    go_ret2
    exact ⟨⟨_, 0, rfl, by omega⟩, Below.refl _ _⟩
  have t7 : decide (((s[i]).toNat : Int) < 245) = true := decide_eq_true (by omega)
  clear hs hc h7
  go_enter Try.func89, Try.ntmps89
  go_upto_region 11 with fail
  refine H1.out.mono ?_
  rintro r w1 ⟨rfl | ⟨rfl, hx⟩, rfl⟩
  · go_upto_region 11 with fail
    go_ret2
    exact ⟨⟨_, 0, rfl, by omega⟩, Below.refl _ _⟩
  go_upto_region 11 with fail
  refine H2.out.mono ?_
  rintro r w1 ⟨rfl | ⟨rfl, hy⟩, rfl⟩
  · go_upto_region 11 with fail
    go_ret2
    exact ⟨⟨_, 0, rfl, by omega⟩, Below.refl _ _⟩
  go_upto_region 11 with fail
  refine H3.out.mono ?_
  rintro r w1 ⟨rfl | ⟨rfl, hz⟩, rfl⟩
  · go_upto_region 11 with fail
    go_ret2
    exact ⟨⟨_, 0, rfl, by omega⟩, Below.refl _ _⟩
  go_upto_region 11 with fail
  go_cut [8] (fun v wx => (∃ p : Int, v = .int .i64 p) ∧ Below w.heap.size w wx)
  case first =>
    have n1 : ((i : Int) + 1).toNat = i + 1 := by omega
    have n2 : ((i : Int) + 2).toNat = i + 2 := by omega
    have n3 : ((i : Int) + 3).toNat = i + 3 := by omega
    have m1 : i + 1 < s.size := by omega
    have m2 : i + 2 < s.size := by omega
    have m5 : i + 3 < s.size := by omega
    have m3 : (0 : Int) ≤ (i : Int) + 1 := by omega
    have m4 : (0 : Int) ≤ (i : Int) + 2 := by omega
    have m6 : (0 : Int) ≤ (i : Int) + 3 := by omega
    go_quiet (fail)
    go_wp2
    go_meet
    exact ⟨⟨_, rfl⟩, bdn (Below.refl _ _) _⟩
  case rest =>
    obtain ⟨⟨p, rfl⟩, hb⟩ := hcut
    have HB := Lib.hid hb
    clear hb
    by_cases q1 : (65536 : Int) ≤ p
    · have u1 : decide ((65536 : Int) ≤ p) = true := decide_eq_true q1
      by_cases q2 : p ≤ 1114111
      · have u2 : decide (p ≤ 1114111) = true := decide_eq_true q2
        clear q1 q2
        go_wp2
        go_ret2
        exact ⟨⟨_, 4, rfl, by omega⟩, HB.out⟩
      · have u2 : decide (p ≤ 1114111) = false := decide_eq_false q2
        clear q1 q2
        go_wp2
        go_ret2
        exact ⟨⟨_, 0, rfl, by omega⟩, HB.out⟩
    · have u1 : decide ((65536 : Int) ≤ p) = false := decide_eq_false q1
      clear q1
      go_wp2
      go_ret2
      exact ⟨⟨_, 0, rfl, by omega⟩, HB.out⟩
theorem point_any (s : ByteArray) (i : Nat) (hi : i < s.size) (hs : s.size ≤ 4000) (w : World) : Calls Try.prog 89 #[.string s, .int .i64 i] w fun r w' => AnyNum r ∧ Below w.heap.size w w' := by
  by_cases h1 : (s[i]).toNat < 224
  · exact point_low s i hi hs h1 w
  by_cases h2 : (s[i]).toNat < 240
  · exact point_mid s i hi hs (by omega) h2 w
  · exact point_high s i hi hs (by omega) w
end Go.Proofs.Ytincgkolpicipaa.kin
namespace Go.Proofs.Ytincgkolpicipaa.kin
open Go.RowKit
open Go.Proofs.Ytincgkolpicipaa.stack (step_after AnyBool AnyInt add_off owns_form)
set_option maxHeartbeats 1000000 in
theorem points_any (s : ByteArray) (hs : s.size ≤ 4000) (w : World) : Calls Try.prog 70 #[.string s] w fun r w' => AnyBool r ∧ Below w.heap.size w w' := by
  have HS := Lib.hid hs
  clear hs
  go_enter Try.func70, Try.ntmps70
  go_wp2
  go_loopw [3] (fun i wr => ∃ k : Nat, k ≤ s.size + 4 ∧ i = .int .i64 k ∧ Below w.heap.size w wr) (fun i _ => s.size + 4 - (intOf i).toNat)
  case atStart => exact ⟨0, by omega, rfl, Below.refl _ _⟩
  case round =>
    obtain ⟨k, hk, rfl, hb⟩ := hrel
    have HB := Lib.hid hb
    clear hb
    by_cases hlt : k < s.size
    · have hki : (k : Int) < (s.size : Int) := by omega
      have HC := Lib.hid ((point_any s k hlt HS.out wr).mono (R' := fun r w1 => (∃ p : Int, r = .returned (.tuple #[.int .i64 p, .int .i64 0]) ∧ Below w.heap.size w w1) ∨ ∃ (p : Int) (n : Nat), r = .returned (.tuple #[.int .i64 p, .int .i64 n]) ∧ Below w.heap.size w w1 ∧ ((n : Int) == 0) = false ∧ IntKind.i64.wrap ((k : Int) + n) = ((k + n : Nat) : Int) ∧ 1 ≤ n ∧ k + n ≤ s.size + 4) (by
          rintro r w1 ⟨⟨p, n, rfl, hn⟩, hb⟩
          by_cases h0 : n = 0
          · subst h0; exact .inl ⟨p, rfl, step_after HB.out hb⟩
          · exact .inr ⟨p, n, rfl, step_after HB.out hb, by simpa using h0, by rw [IntWalk.i64_in _ (by have := HS.out; omega)]; simp, by omega, by omega⟩))
      go_wp2_with (go_at_call 89; refine HC.out.mono ?_; rintro r w1 (⟨p, rfl, hb1⟩ | ⟨p, n, rfl, hb1, t0, w4, hx⟩); all_goals (have HB1 := Lib.hid hb1; clear hb1); try (have HX := Lib.hid hx; clear hx))
      · go_ret
        exact ⟨⟨_, rfl⟩, HB1.out⟩
      · go_roundw
        case rel => exact ⟨k + n, HX.out.2, rfl, HB1.out⟩
        case measure => have := HX.out; simp [intOf]; omega
    · have hki : ¬ (k : Int) < (s.size : Int) := by omega
      go_wp2
      go_ret
      exact ⟨⟨_, rfl⟩, HB.out⟩
theorem digits_at (s : ByteArray) (x : Int) (h0 : 0 ≤ x) (hs : s.size ≤ 4000) (hx : x ≤ s.size) (w : World) : Calls Try.prog 87 #[.string s, .int .i64 x] w fun r w' => (∃ e : Nat, r = .returned (.int .i64 e) ∧ x ≤ e ∧ e ≤ s.size) ∧ w = w' := by
  obtain ⟨j, rfl⟩ : ∃ j : Nat, x = j := ⟨x.toNat, by omega⟩
  refine (digits_says s j hs (by omega) w).mono ?_
  rintro r w' ⟨⟨e, h, h1, h2⟩, rfl⟩
  exact ⟨⟨e, h, by omega, h2⟩, rfl⟩
set_option maxHeartbeats 2000000 in
theorem number_any (s : ByteArray) (hs : s.size ≤ 4000) (w : World) : Calls Try.prog 69 #[.string s] w fun r w' => AnyInt r ∧ w = w' := by
  have HS := Lib.hid hs
  have H0 := Lib.hid ((digits_at s 0 (Int.le_refl _) hs (by omega) w).mono (R' := fun r w' => (r = .returned (.int .i64 0) ∨ ∃ e : Nat, r = .returned (.int .i64 e) ∧ ((e : Int) == 0) = false ∧ 1 ≤ e ∧ e ≤ s.size) ∧ w = w') (by
    rintro r w' ⟨⟨e, rfl, h1, h2⟩, rfl⟩
    by_cases h : e = 0
    · subst h; exact ⟨.inl rfl, rfl⟩
    · exact ⟨.inr ⟨e, rfl, by simpa using h, by omega, h2⟩, rfl⟩))
  have HD := Lib.hid (fun (x : Int) (h0 : 0 ≤ x) (hx : x ≤ s.size) => digits_at s x h0 hs hx w)
  have HE := Lib.hid (fun (x : Int) (h0 : 0 ≤ x) (hx : x ≤ s.size) => (digits_at s x h0 hs hx w).mono (R' := fun r w' => (∃ e : Nat, r = .returned (.int .i64 e) ∧ (decide (x < e) = true ∨ decide (x < e) = false)) ∧ w = w') (by
    rintro r w' ⟨⟨e, rfl, h1, h2⟩, rfl⟩
    refine ⟨⟨e, rfl, ?_⟩, rfl⟩
    cases decide (x < e) <;> simp))
  have HB := Lib.hid (fun (c : Nat) => digit_any c w)
  clear hs
  go_enter Try.func69, Try.ntmps69
  go_upto_if 9 with (go_at_call 87; refine H0.out.mono ?_; rintro r w1 ⟨rfl | ⟨e, rfl, t0, h1, h2⟩, rfl⟩)
  · go_wp2
    go_ret
    exact ⟨⟨_, rfl⟩, rfl⟩
  have hp0 : 0 < s.size := by omega
  have hp : (0 : Int) < (s.size : Int) := by omega
  go_upto_if 12 with fail
  go_cut [3] (fun v wx => (∃ a : Nat, v = .int .i64 a ∧ 1 ≤ a ∧ a ≤ s.size) ∧ wx = w)
  case first =>
    cases q : (((s[0]).toNat : Int) == 48)
    all_goals
      go_wp2
      go_meet
    · exact ⟨⟨e, rfl, h1, h2⟩, rfl⟩
    · exact ⟨⟨1, rfl, Nat.le_refl _, by omega⟩, rfl⟩
  case rest =>
    obtain ⟨⟨a, rfl, ha1, ha2⟩, rfl⟩ := hcut
    have hS := HS.out
    have w1 : IntKind.i64.wrap ((a : Int) + 1) = (a : Int) + 1 := IntWalk.i64_in _ (by omega)
    clear h1 h2 t0
    go_upto_region 6 with fail
    go_cut [30] (fun v wx => (v = .bool false ∨ v = .bool true ∧ a + 1 < s.size) ∧ wx = wc)
    case first =>
      by_cases l1 : a + 1 < s.size
      · have l1' : (a : Int) + 1 < (s.size : Int) := by omega
        have l0 : (a : Int) < (s.size : Int) := by omega
        have l2 : a < s.size := by omega
        have n1 : ((a : Int) + 1).toNat = a + 1 := by omega
        have m3 : (0 : Int) ≤ (a : Int) + 1 := by omega
        cases q1 : (((s[a]).toNat : Int) == 46)
        · go_wp2
          go_meet
          exact ⟨.inl rfl, rfl⟩
        · go_wp2_with (go_at_call 88; refine (HB.out _).mono ?_; rintro r w1 ⟨⟨b, rfl⟩, rfl⟩; cases b)
          all_goals go_meet
          · exact ⟨.inl rfl, rfl⟩
          · exact ⟨.inr ⟨rfl, l1⟩, rfl⟩
      · have l1' : ¬ (a : Int) + 1 < (s.size : Int) := by omega
        go_wp2
        go_meet
        exact ⟨.inl rfl, rfl⟩
    case rest =>
      obtain ⟨hv, rfl⟩ := hcut
      go_upto_if 30 with fail
      go_cut [3] (fun v wx => (∃ b : Nat, v = .int .i64 b ∧ b ≤ s.size) ∧ wx = wc)
      case first =>
        rcases hv with rfl | ⟨rfl, hl⟩
        · go_wp2
          go_meet
          exact ⟨⟨a, rfl, ha2⟩, rfl⟩
        · have HDA := Lib.hid (HD.out ((a : Int) + 1) (by omega) (by omega))
          go_wp2_with (go_at_call 87; refine HDA.out.mono ?_; rintro r w1 ⟨⟨e2, rfl, -, h4⟩, rfl⟩)
          go_meet
          exact ⟨⟨e2, rfl, h4⟩, rfl⟩
      case rest =>
        obtain ⟨⟨b, rfl, hb⟩, rfl⟩ := hcut
        clear hv ha1 ha2 w1
        have w1 : IntKind.i64.wrap ((b : Int) + 1) = (b : Int) + 1 := IntWalk.i64_in _ (by omega)
        have w2 : IntKind.i64.wrap ((b : Int) + 1 + 1) = (b : Int) + 2 := by rw [IntWalk.i64_in _ (by omega)]; omega
        go_upto_region 8 with fail
        go_cut [50] (fun v wx => (v = .bool false ∨ v = .bool true ∧ b < s.size) ∧ wx = wc)
        case first =>
          by_cases l1 : b < s.size
          · have l1' : (b : Int) < (s.size : Int) := by omega
            cases q1 : (((s[b]).toNat : Int) == 101)
            · cases q2 : (((s[b]).toNat : Int) == 69)
              · go_wp2
                go_meet
                exact ⟨.inl rfl, rfl⟩
              · go_wp2
                go_meet
                exact ⟨.inr ⟨rfl, l1⟩, rfl⟩
            · go_wp2
              go_meet
              exact ⟨.inr ⟨rfl, l1⟩, rfl⟩
          · have l1' : ¬ (b : Int) < (s.size : Int) := by omega
            go_wp2
            go_meet
            exact ⟨.inl rfl, rfl⟩
        case rest =>
          obtain ⟨rfl | ⟨rfl, hl⟩, rfl⟩ := hcut
          · go_wp2
            go_ret
            exact ⟨⟨_, rfl⟩, rfl⟩
          go_upto_region 10 with fail
          go_cut [68] (fun v wx => (v = .bool false ∨ v = .bool true ∧ b + 1 < s.size) ∧ wx = wc)
          case first =>
            by_cases l1 : b + 1 < s.size
            · have l1' : (b : Int) + 1 < (s.size : Int) := by omega
              have n1 : ((b : Int) + 1).toNat = b + 1 := by omega
              have m3 : (0 : Int) ≤ (b : Int) + 1 := by omega
              cases q1 : (((s[b + 1]).toNat : Int) == 43)
              · cases q2 : (((s[b + 1]).toNat : Int) == 45)
                · go_wp2
                  go_meet
                  exact ⟨.inl rfl, rfl⟩
                · go_wp2
                  go_meet
                  exact ⟨.inr ⟨rfl, l1⟩, rfl⟩
              · go_wp2
                go_meet
                exact ⟨.inr ⟨rfl, l1⟩, rfl⟩
            · have l1' : ¬ (b : Int) + 1 < (s.size : Int) := by omega
              go_wp2
              go_meet
              exact ⟨.inl rfl, rfl⟩
          case rest =>
            obtain ⟨rfl | ⟨rfl, hl2⟩, rfl⟩ := hcut
            · have HDA := Lib.hid (HE.out ((b : Int) + 1) (by omega) (by omega))
              go_wp2_with (go_at_call 87; refine HDA.out.mono ?_; rintro r w1 ⟨⟨e2, rfl, t7 | t7⟩, rfl⟩)
              all_goals
                go_ret
                exact ⟨⟨_, rfl⟩, rfl⟩
            · have HDA := Lib.hid (HE.out ((b : Int) + 2) (by omega) (by omega))
              go_wp2_with (go_at_call 87; refine HDA.out.mono ?_; rintro r w1 ⟨⟨e2, rfl, t7 | t7⟩, rfl⟩)
              all_goals
                go_ret
                exact ⟨⟨_, rfl⟩, rfl⟩
end Go.Proofs.Ytincgkolpicipaa.kin
