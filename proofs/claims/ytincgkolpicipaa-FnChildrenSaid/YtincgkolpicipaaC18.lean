/- FnChildren: spec.bare by contract, where a call lies in an order that is drawn; identifiers: the same answer in all worlds. -/
import Derived.Test.YtincgkolpicipaaC03
import Derived.Test.YtincgkolpicipaaC17
set_option linter.unusedVariables false
set_option linter.unusedSimpArgs false
namespace Go.Proofs.Ytincgkolpicipaa.kin
open Go.RowKit
open Go.Proofs.Ytincgkolpicipaa.stack (step_after AnyBool AnyInt add_off owns_form)
set_option maxRecDepth 100000 in
set_option maxHeartbeats 4000000 in
theorem bare_4 (o m z : Int) (t : ByteArray) (hs : t.size ≤ 4000) (w : World) :
    Calls Try.prog 57 (bareArgs 4 o m z t) w fun r w' => AnyBool r ∧ Below w.heap.size w w' := by
  go_enter Try.func57, Try.ntmps57
  go_upto_region 1 with fail
  go_cut [3, 4, 5] (fun a b c wx => (a = .bool (m == 0) ∧ b = .bool (o == 0) ∧ c = .bool t.toList.isEmpty) ∧ Box wx w.heap.size 4 o m z t ∧ Below w.heap.size w wx)
  case first =>
    go_quiet (fail)
    go_wp2
    go_meet
    exact ⟨⟨rfl, rfl, rfl⟩, ⟨by simp [World.cell?_alloc_new], by simp [World.cell?_alloc_new], by simp [World.cell?_alloc_new], by simp [World.cell?_alloc_new], by simp [World.cell?_alloc_new]⟩, bdn ((Below.refl _ _).alloc (Nat.le_refl _) _) _⟩
  case rest =>
    obtain ⟨⟨rfl, rfl, rfl⟩, hbox, hb⟩ := hcut
    obtain ⟨b0, b1, b2, b3, b4⟩ := id hbox
    have HB := Lib.hid hb
    clear hb
    have S1 := Lib.hid (show ∀ w', Below wc.heap.size wc w' → (w'.cell? ⟨w.heap.size, 2, none⟩ = some (.string t) ∧ w'.cell? ⟨w.heap.size, 3, none⟩ = some (.int .i64 m)) ∧ Below wc.heap.size wc w' from fun w' hb => ⟨⟨cell_later hb b2, cell_later hb b3⟩, hb⟩)
    have H1 := Lib.hid (fun w' (hb : Below wc.heap.size wc w') => (number_any t hs w').mono (R' := fun r w1 => AnyInt r ∧ Below wc.heap.size wc w1 ∧ w1.cell? ⟨w.heap.size, 2, none⟩ = some (.string t)) fun r w1 h => ⟨h.1, by rw [← h.2]; exact hb, by rw [← h.2]; exact cell_later hb b2⟩)
    clear hbox hs
    cases t3 : t.toList.isEmpty
    rotate_left
    · cases t1 : (m == 0)
      all_goals cases t2 : (o == 0)
      all_goals
        go_upto_region 4 with fail
        go_quiet (fail)
        go_wp2
        go_ret
        exact ⟨⟨_, rfl⟩, bdn HB.out _⟩
    · cases t1 : (m == 0)
      all_goals cases t2 : (o == 0)
      all_goals
        go_upto_region 4 with fail
        go_region_with (go_at_call 69; refine (H1.out _ (by first | exact Below.refl _ _ | exact (Below.refl _ _).drew | assumption)).mono ?_; rintro r w1 ⟨⟨x, rfl⟩, hb, c2⟩)
        all_goals
          go_wp2
          go_ret
          first
            | exact ⟨⟨_, rfl⟩, step_after HB.out (by assumption)⟩
            | exact ⟨⟨_, rfl⟩, step_after HB.out (Below.drew (by assumption))⟩
end Go.Proofs.Ytincgkolpicipaa.kin
namespace Go.Proofs.Ytincgkolpicipaa.kin
open Go.RowKit
open Go.Proofs.Ytincgkolpicipaa.stack (step_after AnyBool AnyInt add_off owns_form)
def db (c : Nat) : Bool := decide ((48 : Int) ≤ c) && decide ((c : Int) ≤ 57)
def lb (c : Nat) : Bool := (decide ((97 : Int) ≤ c) && decide ((c : Int) ≤ 122)) || (decide ((65 : Int) ≤ c) && decide ((c : Int) ≤ 90)) || ((c : Int) == 95)
theorem digit_is (c : Nat) (w : World) : Calls Try.prog 88 #[.int .u8 c] w fun r w' => r = .returned (.bool (db c)) ∧ w = w' := by
  by_cases h1 : (48 : Int) ≤ c
  · have t1 : decide ((48 : Int) ≤ c) = true := decide_eq_true h1
    have hd : db c = decide ((c : Int) ≤ 57) := by rw [db, t1, Bool.true_and]
    rw [hd]
    go_enter Try.func88, Try.ntmps88
    go_wp2
    go_ret
    exact ⟨rfl, rfl⟩
  · have t1 : decide ((48 : Int) ≤ c) = false := decide_eq_false h1
    have hd : db c = false := by rw [db, t1, Bool.false_and]
    rw [hd]
    go_enter Try.func88, Try.ntmps88
    go_wp2
    go_ret
    exact ⟨rfl, rfl⟩
set_option maxHeartbeats 1000000 in
theorem letter_is (c : Nat) (w : World) : Calls Try.prog 111 #[.int .u8 c] w fun r w' => r = .returned (.bool (lb c)) ∧ w = w' := by
  by_cases h1 : (97 : Int) ≤ c
  · have t1 : decide ((97 : Int) ≤ c) = true := decide_eq_true h1
    have t3 : decide ((65 : Int) ≤ c) = true := decide_eq_true (by omega)
    by_cases h2 : (c : Int) ≤ 122
    · have t2 : decide ((c : Int) ≤ 122) = true := decide_eq_true h2
      have hd : lb c = true := by rw [lb, t1, t2]; rfl
      rw [hd]
      go_enter Try.func111, Try.ntmps111
      go_wp2
      go_ret
      exact ⟨rfl, rfl⟩
    · have t2 : decide ((c : Int) ≤ 122) = false := decide_eq_false h2
      have t4 : decide ((c : Int) ≤ 90) = false := decide_eq_false (by omega)
      have hd : lb c = ((c : Int) == 95) := by rw [lb, t1, t2, t3, t4]; rfl
      rw [hd]
      go_enter Try.func111, Try.ntmps111
      go_wp2
      go_ret
      exact ⟨rfl, rfl⟩
  · have t1 : decide ((97 : Int) ≤ c) = false := decide_eq_false h1
    by_cases h3 : (65 : Int) ≤ c
    · have t3 : decide ((65 : Int) ≤ c) = true := decide_eq_true h3
      by_cases h2 : (c : Int) ≤ 90
      · have t2 : decide ((c : Int) ≤ 90) = true := decide_eq_true h2
        have hd : lb c = true := by rw [lb, t1, t2, t3]; rfl
        rw [hd]
        go_enter Try.func111, Try.ntmps111
        go_wp2
        go_ret
        exact ⟨rfl, rfl⟩
      · have t2 : decide ((c : Int) ≤ 90) = false := decide_eq_false h2
        have hd : lb c = ((c : Int) == 95) := by rw [lb, t1, t2, t3]; rfl
        rw [hd]
        go_enter Try.func111, Try.ntmps111
        go_wp2
        go_ret
        exact ⟨rfl, rfl⟩
    · have t3 : decide ((65 : Int) ≤ c) = false := decide_eq_false h3
      have hd : lb c = ((c : Int) == 95) := by rw [lb, t1, t3]; rfl
      rw [hd]
      go_enter Try.func111, Try.ntmps111
      go_wp2
      go_ret
      exact ⟨rfl, rfl⟩
/-- Some truth value, that of P. -/
def Tells (r : Ending) (P : Prop) : Prop := ∃ b : Bool, r = .returned (.bool b) ∧ (b = true ↔ P)
theorem Tells.no {P : Prop} (h : ¬ P) : Tells (.returned (.bool false)) P := ⟨false, rfl, by simp [h]⟩
theorem Tells.yes {P : Prop} (h : P) : Tells (.returned (.bool true)) P := ⟨true, rfl, by simp [h]⟩
theorem Tells.eq {r : Ending} {P : Prop} (h : Tells r P) : r = .returned (.bool (@decide P (Classical.propDecidable P))) := by
  obtain ⟨b, rfl, hb⟩ := h
  congr 2
  by_cases hp : P
  · rw [hb.2 hp]; simp [hp]
  · cases b
    · simp [hp]
    · exact absurd (hb.1 rfl) hp
def Wd (s : ByteArray) : Prop := ∃ h : 0 < s.size, lb (s[0]).toNat = true ∧ ∀ (k : Nat) (h : k < s.size), 1 ≤ k → lb (s[k]).toNat = true ∨ db (s[k]).toNat = true
theorem word_tells (s : ByteArray) (hs : s.size ≤ 4000) (w : World) : Calls Try.prog 90 #[.string s] w fun r w' => Tells r (Wd s) ∧ w = w' := by
  cases t0 : s.toList.isEmpty
  rotate_left
  · have HN := Lib.hid (show ¬ Wd s from fun ⟨h, _⟩ => by
      rw [ByteArray.toList_eq, List.isEmpty_iff] at t0
      have : s.size = 0 := by show s.data.size = 0; rw [← Array.length_toList, t0]; rfl
      omega)
    go_enter Try.func90, Try.ntmps90
    go_wp2
    go_ret
    exact ⟨.no HN.out, rfl⟩
  · have hpos : 0 < s.size := empty_pos t0
    have hp : (0 : Int) < (s.size : Int) := by omega
    have HL := Lib.hid (fun (k : Nat) (hk : k < s.size) => letter_is (s[k]).toNat w)
    have HD := Lib.hid (fun (k : Nat) (hk : k < s.size) => digit_is (s[k]).toNat w)
    cases l0 : lb (s[0]).toNat
    · have H0 := HL.out 0 hpos
      rw [l0] at H0
      have H0 := Lib.hid H0
      have HN := Lib.hid (show ¬ Wd s from fun ⟨_, h, _⟩ => by rw [l0] at h; cases h)
      clear l0
      go_enter Try.func90, Try.ntmps90
      go_wp2_with (go_at_call 111; refine H0.out.mono ?_; rintro r w1 ⟨rfl, rfl⟩)
      go_ret
      exact ⟨.no HN.out, rfl⟩
    have H0 := HL.out 0 hpos
    rw [l0] at H0
    have H0 := Lib.hid H0
    have HL0 := Lib.hid l0
    clear l0
    go_enter Try.func90, Try.ntmps90
    go_wp2_with (go_at_call 111; refine H0.out.mono ?_; rintro r w1 ⟨rfl, rfl⟩)
    go_loop [3] (fun i => ∃ k : Nat, 1 ≤ k ∧ k ≤ s.size ∧ i = .int .i64 k ∧ ∀ (j : Nat) (h : j < s.size), 1 ≤ j → j < k → lb (s[j]).toNat = true ∨ db (s[j]).toNat = true) (fun i => s.size - (intOf i).toNat)
    case atStart => exact ⟨1, Nat.le_refl _, by omega, rfl, fun j h h1 h2 => by omega⟩
    case round =>
      obtain ⟨k, hk1, hk, rfl, hall⟩ := hrel
      have HA := Lib.hid hall
      clear hall
      by_cases hlt : k < s.size
      · have hki : (k : Int) < (s.size : Int) := by omega
        have w1 : IntKind.i64.wrap ((k : Int) + 1) = ((k + 1 : Nat) : Int) := by rw [IntWalk.i64_in _ (by omega)]; simp
        have HLk := HL.out k hlt
        have HDk := HD.out k hlt
        cases lk : lb (s[k]).toNat
        · cases dk : db (s[k]).toNat
          · rw [lk] at HLk
            rw [dk] at HDk
            have HLk := Lib.hid HLk
            have HDk := Lib.hid HDk
            have HN := Lib.hid (show ¬ Wd s from fun ⟨_, _, h⟩ => by rcases h k hlt hk1 with h | h <;> simp_all)
            clear lk dk
            go_wp2_with (first | (go_at_call 111; refine HLk.out.mono ?_; rintro r w1 ⟨rfl, rfl⟩) | (go_at_call 88; refine HDk.out.mono ?_; rintro r w1 ⟨rfl, rfl⟩))
            go_ret
            exact ⟨.no HN.out, rfl⟩
          · rw [lk] at HLk
            rw [dk] at HDk
            have HLk := Lib.hid HLk
            have HDk := Lib.hid HDk
            have HDK := Lib.hid dk
            clear lk dk
            go_wp2_with (first | (go_at_call 111; refine HLk.out.mono ?_; rintro r w1 ⟨rfl, rfl⟩) | (go_at_call 88; refine HDk.out.mono ?_; rintro r w1 ⟨rfl, rfl⟩))
            go_round
            case rel => exact ⟨k + 1, by omega, by omega, rfl, fun j h h1 h2 => by
              by_cases hjk : j < k
              · exact HA.out j h h1 hjk
              · have : j = k := by omega
                subst this; exact .inr HDK.out⟩
            case measure => simp [intOf]; omega
        · rw [lk] at HLk
          have HLk := Lib.hid HLk
          have HLK := Lib.hid lk
          clear lk HDk
          go_wp2_with (go_at_call 111; refine HLk.out.mono ?_; rintro r w1 ⟨rfl, rfl⟩)
          go_round
          case rel => exact ⟨k + 1, by omega, by omega, rfl, fun j h h1 h2 => by
              by_cases hjk : j < k
              · exact HA.out j h h1 hjk
              · have : j = k := by omega
                subst this; exact .inl HLK.out⟩
          case measure => simp [intOf]; omega
      · have hki : ¬ (k : Int) < (s.size : Int) := by omega
        go_wp2
        go_ret
        exact ⟨.yes ⟨hpos, HL0.out, fun j h h1 => HA.out j h h1 (by omega)⟩, rfl⟩
def kws : List ByteArray := [⟨#[97, 115, 115, 101, 114, 116]⟩, ⟨#[101, 108, 115, 101]⟩, ⟨#[101, 114, 114, 111, 114]⟩, ⟨#[102, 97, 108, 115, 101]⟩, ⟨#[102, 111, 114]⟩, ⟨#[102, 117, 110, 99, 116, 105, 111, 110]⟩, ⟨#[105, 102]⟩, ⟨#[105, 109, 112, 111, 114, 116]⟩, ⟨#[105, 109, 112, 111, 114, 116, 98, 105, 110]⟩, ⟨#[105, 109, 112, 111, 114, 116, 115, 116, 114]⟩, ⟨#[105, 110]⟩, ⟨#[108, 111, 99, 97, 108]⟩, ⟨#[110, 117, 108, 108]⟩, ⟨#[115, 101, 108, 102]⟩, ⟨#[115, 117, 112, 101, 114]⟩, ⟨#[116, 97, 105, 108, 115, 116, 114, 105, 99, 116]⟩, ⟨#[116, 104, 101, 110]⟩, ⟨#[116, 114, 117, 101]⟩]
def Kw (s : ByteArray) : Prop := ∃ t ∈ kws, (t.toList == s.toList) = true
set_option maxRecDepth 100000 in
set_option maxHeartbeats 1000000 in
theorem keyword_tells (s : ByteArray) (w : World) : Calls Try.prog 91 #[.string s] w fun r w' => Tells r (Kw s) ∧ Below w.heap.size w w' := by
  go_enter Try.func91, Try.ntmps91
  go_wp2
  go_loopw [4] (fun i wr => ∃ k : Nat, k ≤ 18 ∧ i = .int .i64 k ∧ Below w.heap.size w wr ∧ (∀ (j : Nat) (t : ByteArray), kws[j]? = some t → wr.cell? ⟨w.heap.size, j, none⟩ = some (.string t)) ∧ ∀ (j : Nat) (t : ByteArray), j < k → kws[j]? = some t → (t.toList == s.toList) = false) (fun i _ => 18 - (intOf i).toNat)
  case atStart => exact ⟨0, by omega, rfl, (Below.refl _ _).alloc (Nat.le_refl _) _, fun j t hj => by
    rw [World.cell?_alloc_at _ _ _ _ (by simp)]
    have : (kws.map Value.string)[j]? = some (.string t) := by rw [List.getElem?_map, hj]; rfl
    rw [← this]; simp [kws], fun j t h => by omega⟩
  case round =>
    obtain ⟨k, hk, rfl, hb, hc, hall⟩ := hrel
    have HB := Lib.hid hb
    have HC := Lib.hid hc
    have HA := Lib.hid hall
    by_cases hlt : k < 18
    · obtain ⟨t, ht⟩ := getElem?_lt (show k < kws.length from hlt)
      have hcell := hc k t ht
      have hki : (k : Int) < 18 := by omega
      have HT := Lib.hid ht
      clear hb hc hall ht
      cases hq : (t.toList == s.toList)
      · have HQ := Lib.hid hq
        go_wp2
        go_roundw
        case rel => exact ⟨k + 1, by omega, by go_num, HB.out, HC.out, fun j t' hj ht' => by
          by_cases hjk : j < k
          · exact HA.out j t' hjk ht'
          · have : j = k := by omega
            subst this
            have := HT.out; rw [ht'] at this; cases this; exact HQ.out⟩
        case measure => simp [intOf]; omega
      · have HQ := Lib.hid hq
        go_wp2
        go_ret
        exact ⟨.yes ⟨t, List.mem_of_getElem? HT.out, HQ.out⟩, HB.out⟩
    · have hki : ¬ (k : Int) < 18 := by omega
      clear hb hc hall
      go_wp2
      go_ret
      refine ⟨.no ?_, HB.out⟩
      rintro ⟨t, ht, hq⟩
      obtain ⟨j, hj⟩ := List.getElem?_of_mem ht
      have h2 := HA.out j t (by have := (List.getElem?_eq_some_iff.1 hj).1; have h3 : kws.length = 18 := rfl; omega) hj
      rw [h2] at hq; cases hq
theorem identifier_tells (s : ByteArray) (hs : s.size ≤ 4000) (w : World) : Calls Try.prog 71 #[.string s] w fun r w' => Tells r (Wd s ∧ ¬ Kw s) ∧ Below w.heap.size w w' := by
  have H1 := Lib.hid ((word_tells s hs w).mono (R' := fun r w' => ((r = .returned (.bool false) ∧ ¬ Wd s) ∨ (r = .returned (.bool true) ∧ Wd s)) ∧ w = w') (by
    rintro r w' ⟨⟨b, rfl, hb⟩, rfl⟩
    cases b
    · exact ⟨.inl ⟨rfl, fun h => by have := hb.2 h; cases this⟩, rfl⟩
    · exact ⟨.inr ⟨rfl, hb.1 rfl⟩, rfl⟩))
  have H2 := Lib.hid ((keyword_tells s w).mono (R' := fun r w' => ((r = .returned (.bool false) ∧ ¬ Kw s) ∨ (r = .returned (.bool true) ∧ Kw s)) ∧ Below w.heap.size w w') (by
    rintro r w' ⟨⟨b, rfl, hb⟩, hw⟩
    cases b
    · exact ⟨.inl ⟨rfl, fun h => by have := hb.2 h; cases this⟩, hw⟩
    · exact ⟨.inr ⟨rfl, hb.1 rfl⟩, hw⟩))
  clear hs
  go_enter Try.func71, Try.ntmps71
  go_wp2_with (first | (go_at_call 90; refine H1.out.mono ?_; rintro r w1 ⟨⟨rfl, hwd⟩ | ⟨rfl, hwd⟩, rfl⟩; all_goals (have HW := Lib.hid hwd; clear hwd)) | (go_at_call 91; refine H2.out.mono ?_; rintro r w1 ⟨⟨rfl, hkw⟩ | ⟨rfl, hkw⟩, hb⟩; all_goals (have HB := Lib.hid hb; have HK := Lib.hid hkw; clear hb hkw)))
  · go_ret
    exact ⟨.no fun h => HW.out h.1, Below.refl _ _⟩
  · go_ret
    exact ⟨.yes ⟨HW.out, HK.out⟩, HB.out⟩
  · go_ret
    exact ⟨.no fun h => h.2 HK.out, HB.out⟩
/-- The same answer in all worlds. -/
theorem identifier_is (s : ByteArray) (hs : s.size ≤ 4000) : ∃ b : Bool, ∀ w, Calls Try.prog 71 #[.string s] w fun r w' => r = .returned (.bool b) ∧ Below w.heap.size w w' :=
  ⟨_, fun w => (identifier_tells s hs w).mono fun _ _ h => ⟨h.1.eq, h.2⟩⟩
end Go.Proofs.Ytincgkolpicipaa.kin
