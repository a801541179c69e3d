/- FnChildren: spec.bare by contract, of binds and super.f; spec.bare by contract, all kinds; spec.Right by contract; zzFits1, thin by contract; sugared by contract; the law by contract. -/
import Derived.Test.YtincgkolpicipaaC01
import Derived.Test.YtincgkolpicipaaC06
import Derived.Test.YtincgkolpicipaaC07
import Derived.Test.YtincgkolpicipaaC17
import Derived.Test.YtincgkolpicipaaC18
set_option linter.unusedVariables false
set_option linter.unusedSimpArgs false
namespace Go.Proofs.Ytincgkolpicipaa.kin
open Go.RowKit
open Go.Proofs.Ytincgkolpicipaa.stack (step_after AnyBool AnyInt add_off owns_form)
set_option maxRecDepth 100000 in
set_option maxHeartbeats 4000000 in
theorem bare_32 (o m z : Int) (t : ByteArray) (hs : t.size ≤ 4000) (w : World) :
    Calls Try.prog 57 (bareArgs 32 o m z t) w fun r w' => Says r (m = 0 ∨ m = 1) ∧ Below w.heap.size w w' := by
  obtain ⟨b, hid⟩ := identifier_is t hs
  have HI := Lib.hid hid
  clear hs hid
  go_enter Try.func57, Try.ntmps57
  go_upto_region 1 with fail
  go_cut [3, 4, 5] (fun a b c wx => (a = .bool (m == 0) ∧ b = .bool (o == 0) ∧ c = .bool t.toList.isEmpty) ∧ Box wx w.heap.size 32 o m z t ∧ Below w.heap.size w wx)
  case first =>
    go_quiet (fail)
    go_wp2
    go_meet
    exact ⟨⟨rfl, rfl, rfl⟩, ⟨by simp [World.cell?_alloc_new], by simp [World.cell?_alloc_new], by simp [World.cell?_alloc_new], by simp [World.cell?_alloc_new], by simp [World.cell?_alloc_new]⟩, bdn ((Below.refl _ _).alloc (Nat.le_refl _) _) _⟩
  case rest =>
    obtain ⟨⟨rfl, rfl, rfl⟩, ⟨b0, b1, b2, b3, b4⟩, hb⟩ := hcut
    have HB := Lib.hid hb
    have c2 := fun d os => cell_regrown b2 d os
    have c3 := fun d os => cell_regrown b3 d os
    clear hb
    cases b
    all_goals cases t2 : (o == 0)
    all_goals
      cases t1 : (m == 0)
      · cases t3 : (m == 1)
        · go_upto_region 17 with fail
          refine wp_region_quiet_below (by kernel_rfl) (by kernel_rfl) ?_
          repeat (go_big_quiet_step (exact Calls.regrown_of (HI.out _)))
          refine wpQuiet_nil ?_
          intro _ hw'
          obtain ⟨⟨dq, osq⟩, hw''⟩ := hw'
          subst hw''
          go_wp2
          go_ret
          exact ⟨.no, step_after HB.out (below_regrown wc dq osq)⟩
        · go_upto_region 17 with fail
          refine wp_region_quiet_below (by kernel_rfl) (by kernel_rfl) ?_
          repeat (go_big_quiet_step (exact Calls.regrown_of (HI.out _)))
          refine wpQuiet_nil ?_
          intro _ hw'
          obtain ⟨⟨dq, osq⟩, hw''⟩ := hw'
          subst hw''
          go_wp2
          go_ret
          exact ⟨⟨_, rfl, fun _ => .inr (by simpa using t3)⟩, step_after HB.out (below_regrown wc dq osq)⟩
      · go_upto_region 17 with fail
        refine wp_region_quiet_below (by kernel_rfl) (by kernel_rfl) ?_
        repeat (go_big_quiet_step (exact Calls.regrown_of (HI.out _)))
        refine wpQuiet_nil ?_
        intro _ hw'
        obtain ⟨⟨dq, osq⟩, hw''⟩ := hw'
        subst hw''
        go_wp2
        go_ret
        exact ⟨⟨_, rfl, fun _ => .inl (by simpa using t1)⟩, step_after HB.out (below_regrown wc dq osq)⟩
set_option maxRecDepth 100000 in
set_option maxHeartbeats 4000000 in
theorem bare_9 (o m z : Int) (t : ByteArray) (hs : t.size ≤ 4000) (w : World) :
    Calls Try.prog 57 (bareArgs 9 o m z t) w fun r w' => Says r (m = 0 ∨ m = 1) ∧ Below w.heap.size w w' := by
  obtain ⟨b, hid⟩ := identifier_is t hs
  have HI := Lib.hid hid
  clear hs hid
  go_enter Try.func57, Try.ntmps57
  go_upto_region 1 with fail
  go_cut [3, 4, 5] (fun a b c wx => (a = .bool (m == 0) ∧ b = .bool (o == 0) ∧ c = .bool t.toList.isEmpty) ∧ Box wx w.heap.size 9 o m z t ∧ Below w.heap.size w wx)
  case first =>
    go_quiet (fail)
    go_wp2
    go_meet
    exact ⟨⟨rfl, rfl, rfl⟩, ⟨by simp [World.cell?_alloc_new], by simp [World.cell?_alloc_new], by simp [World.cell?_alloc_new], by simp [World.cell?_alloc_new], by simp [World.cell?_alloc_new]⟩, bdn ((Below.refl _ _).alloc (Nat.le_refl _) _) _⟩
  case rest =>
    obtain ⟨⟨rfl, rfl, rfl⟩, ⟨b0, b1, b2, b3, b4⟩, hb⟩ := hcut
    have HB := Lib.hid hb
    have c2 := fun d os => cell_regrown b2 d os
    have c3 := fun d os => cell_regrown b3 d os
    clear hb
    cases b
    all_goals cases t2 : (o == 0)
    all_goals cases t4 : t.toList.isEmpty
    all_goals
      cases t1 : (m == 0)
      · cases t3 : (m == 1)
        · go_upto_region 21 with fail
          refine wp_region_quiet_below (by kernel_rfl) (by kernel_rfl) ?_
          repeat (go_big_quiet_step (exact Calls.regrown_of (HI.out _)))
          refine wpQuiet_nil ?_
          intro _ hw'
          obtain ⟨⟨dq, osq⟩, hw''⟩ := hw'
          subst hw''
          go_wp2
          go_ret
          exact ⟨.no, step_after HB.out (below_regrown wc dq osq)⟩
        · go_upto_region 21 with fail
          refine wp_region_quiet_below (by kernel_rfl) (by kernel_rfl) ?_
          repeat (go_big_quiet_step (exact Calls.regrown_of (HI.out _)))
          refine wpQuiet_nil ?_
          intro _ hw'
          obtain ⟨⟨dq, osq⟩, hw''⟩ := hw'
          subst hw''
          go_wp2
          go_ret
          exact ⟨⟨_, rfl, fun _ => .inr (by simpa using t3)⟩, step_after HB.out (below_regrown wc dq osq)⟩
      · cases t3 : (m == 1)
        all_goals
          go_upto_region 21 with fail
          refine wp_region_quiet_below (by kernel_rfl) (by kernel_rfl) ?_
          repeat (go_big_quiet_step (exact Calls.regrown_of (HI.out _)))
          refine wpQuiet_nil ?_
          intro _ hw'
          obtain ⟨⟨dq, osq⟩, hw''⟩ := hw'
          subst hw''
          go_wp2
          go_ret
          exact ⟨⟨_, rfl, fun _ => .inl (by simpa using t1)⟩, step_after HB.out (below_regrown wc dq osq)⟩
end Go.Proofs.Ytincgkolpicipaa.kin
namespace Go.Proofs.Ytincgkolpicipaa.kin
open Go.RowKit
open Go.Proofs.Ytincgkolpicipaa.stack (step_after AnyBool AnyInt add_off owns_form)
theorem says_bar {r : Ending} {P : Prop} (h : AnyBool r) (hp : P) : Says r P := by
  obtain ⟨b, hb⟩ := h
  exact ⟨b, hb, fun _ => hp⟩
theorem bare_says (n : Nd) (hs : n.t.size ≤ 4000) (w : World) : Calls Try.prog 57 #[nv n] w fun r w' => Says r (Bar n) ∧ Below w.heap.size w w' := by
  obtain ⟨k, o, t, m, z⟩ := n
  by_cases h4 : k = 4
  · subst h4; exact (bare_4 o m z t hs w).mono fun r w' h => ⟨says_bar h.1 (.other (by decide) (by decide) (by decide) (by decide) (by decide) (by decide) (by decide)), h.2⟩
  by_cases h5 : k = 5
  · subst h5; exact (bare_5 o m z t hs w).mono fun r w' h => ⟨says_bar h.1 (.other (by decide) (by decide) (by decide) (by decide) (by decide) (by decide) (by decide)), h.2⟩
  by_cases hp : k = 26 ∨ k = 27 ∨ k = 28
  · exact (bare_points k o m z t hs w hp).mono fun r w' h => ⟨says_bar h.1 (.other (by omega) (by omega) (by omega) (by omega) (by omega) (by omega) (by omega)), h.2⟩
  by_cases hi : k = 8 ∨ k = 16 ∨ k = 33 ∨ k = 38
  · exact (bare_ident k o m z t hs w hi).mono fun r w' h => ⟨says_bar h.1 (.other (by omega) (by omega) (by omega) (by omega) (by omega) (by omega) (by omega)), h.2⟩
  by_cases h32 : k = 32
  · subst h32; exact (bare_32 o m z t hs w).mono fun r w' h => ⟨h.1.imp fun hm => .flag (by simp) hm, h.2⟩
  by_cases h34 : k = 34
  · subst h34; exact (bare_34 o m z t hs w).mono fun r w' h => ⟨says_bar h.1 (.other (by decide) (by decide) (by decide) (by decide) (by decide) (by decide) (by decide)), h.2⟩
  by_cases h9 : k = 9
  · subst h9; exact (bare_9 o m z t hs w).mono fun r w' h => ⟨h.1.imp fun hm => .flag (by simp) hm, h.2⟩
  by_cases h18 : k = 18
  · exact (bare_flag k o m z t w (.inl h18)).mono fun r w' h => ⟨h.1.imp fun _ => .other (by omega) (by omega) (by omega) (by omega) (by omega) (by omega) (by omega), h.2⟩
  by_cases hf : k = 25 ∨ k = 37
  · exact (bare_flag k o m z t w (.inr hf)).mono fun r w' h => ⟨h.1.imp fun hm => .flag (by omega) hm, h.2⟩
  by_cases h22 : k = 22
  · subst h22; exact bare_22 o m z t w
  by_cases h23 : k = 23
  · subst h23; exact bare_23 o m z t w
  by_cases h35 : k = 35
  · subst h35; exact (bare_35 o m z t hs w).mono fun r w' h => ⟨h.1.imp fun hm => .of35 hm, h.2⟩
  have e : ∀ c : Int, k ≠ c → (k == c) = false := fun c h => by simpa using h
  exact (bare_other k o m z t w (e _ h4) (e _ h5) (e _ (by omega)) (e _ (by omega)) (e _ (by omega)) (e _ (by omega)) (e _ (by omega)) (e _ (by omega)) (e _ (by omega)) (e _ h32) (e _ h34) (e _ h9) (e _ h18) (e _ (by omega)) (e _ (by omega)) (e _ h22) (e _ h23) (e _ h35)).mono fun r w' h => ⟨says_bar h.1 (.other h9 (by omega) h32 (by omega) h22 h23 h35), h.2⟩
end Go.Proofs.Ytincgkolpicipaa.kin
namespace Go.Proofs.Ytincgkolpicipaa.kin
open Go.RowKit
open Go.Proofs.Ytincgkolpicipaa.stack (step_after AnyBool AnyInt add_off owns_form)
theorem Says.or {r : Ending} {P Q : Prop} (h : Says r P) (hpq : P → Q) : r = .returned (.bool false) ∨ r = .returned (.bool true) ∧ Q := by
  rcases h.cases with h | ⟨h, hp⟩
  · exact .inl h
  · exact .inr ⟨h, hpq hp⟩
set_option maxHeartbeats 4000000 in
theorem right_says (q o cap : Nat) (ns : List Nd) (hL : ns.length ≤ 400) (hpos : 0 < ns.length) (hT : ∀ (i : Nat) (n : Nd), ns[i]? = some n → n.t.size ≤ 4000) (w : World) (hrow : Row w q o ns) :
    Calls Try.prog 32 #[.slice (some ⟨q, o, none⟩) ns.length cap] w fun r w' => Says r (Good ns ∧ Ex ns 0 ∧ ∃ n, ns[0]? = some n ∧ n.z = (ns.length : Int)) ∧ Below w.heap.size w w' := by
  obtain ⟨n, hn⟩ := getElem?_lt hpos
  obtain ⟨c0, c1, c2, c3, c4, -⟩ := hrow 0 n hn
  simp only [Nat.zero_mul, Nat.add_zero] at c0 c1 c2 c3 c4
  have t0 : ((ns.length : Int) == 0) = false := by
    have hne : ¬ (ns.length : Int) = 0 := by omega
    simpa using hne
  by_cases hz : n.z = ns.length
  rotate_left
  · have t1 : (n.z != (ns.length : Int)) = true := by simpa using hz
    have hp2 : (0 : Int) < (ns.length : Int) := by omega
    clear hrow hn hT hz hL
    generalize ns.length = m at t0 t1 hp2 hpos ⊢
    go_enter Try.func32, Try.ntmps32
    go_wp2
    go_ret
    exact ⟨.no, Below.refl _ _⟩
  have HZ := Lib.hid (show ∃ n, ns[0]? = some n ∧ n.z = (ns.length : Int) from ⟨n, hn, hz⟩)
  have t1 : (n.z != (ns.length : Int)) = false := by simpa using hz
  have hp2 : (0 : Int) < (ns.length : Int) := by omega
  have H1 := Lib.hid (show Calls Try.prog 56 #[.slice (some ⟨q, o, none⟩) ns.length cap, .int .i64 0, .int .i64 ns.length] w fun r w' => (r = .returned (.bool false) ∨ r = .returned (.bool true) ∧ Fit ns) ∧ Below w.heap.size w w' from
    (sized_says q o cap ns (by omega) ns.length 0 ns.length (by omega) hpos (Nat.le_refl _) w hrow).mono fun r w' h => ⟨h.1.or fun ⟨n', hn', h1, h2, h3⟩ => by
      rw [hn] at hn'; cases hn'
      have : 0 + n.z.toNat = ns.length := by omega
      rw [this] at h3
      exact h3.fit, h.2⟩)
  have H2 := Lib.hid (fun w' (hb : Below w.heap.size w w') => (show Calls Try.prog 37 #[.slice (some ⟨q, o, none⟩) ns.length cap, .int .i64 0] w' fun r w'' => r = .returned (.bool (ex ns 0)) ∧ w' = w'' from expr_says q o cap ns 0 n hn w' (hrow.later hb)))
  have H3 := Lib.hid (fun (i : Nat) (x : Nd) (hx : ns[i]? = some x) w' (hb : Below w.heap.size w w') => (bare_says x (hT i x hx) w').mono (R' := fun r w'' => (r = .returned (.bool false) ∨ r = .returned (.bool true) ∧ Bar x) ∧ Below w.heap.size w w'') fun r w'' h => ⟨h.1.cases, step_after hb h.2⟩)
  have H4 := Lib.hid (fun (i : Nat) (x : Nd) (hx : ns[i]? = some x) (hf : Fit ns) (hbar : Bar x) w' (hb : Below w.heap.size w w') => (shaped_says q o cap ns hL i x hx (hf i x hx) hbar w' (hrow.later hb)).mono (R' := fun r w'' => (r = .returned (.bool false) ∨ r = .returned (.bool true) ∧ Shp ns x (kids ns i)) ∧ Below w.heap.size w w'') fun r w'' h => ⟨h.1.cases, step_after hb h.2⟩)
  have HR := Lib.hid hrow
  have HL := Lib.hid hL
  clear hrow hn hT hL hz
  generalize hm : ns.length = m at t0 t1 hp2 hpos H1 H2 H4 HL HZ ⊢
  have HM := Lib.hid hm
  clear hm
  cases hex : ex ns 0
  · simp only [hex] at H2
    clear hex
    go_enter Try.func32, Try.ntmps32
    go_wp2_with (first | (go_at_call 56; refine H1.out.mono ?_; rintro r w1 ⟨rfl | ⟨rfl, hf⟩, hb⟩; all_goals (have HB := Lib.hid hb; clear hb)) | (go_at_call 37; refine (H2.out _ HB.out).mono ?_; rintro r w1 ⟨rfl, rfl⟩))
    all_goals
      go_ret
      exact ⟨.no, HB.out⟩
  have HX := Lib.hid (ex_iff.1 hex)
  simp only [hex] at H2
  clear hex
  go_enter Try.func32, Try.ntmps32
  go_wp2_with (first | (go_at_call 56; refine H1.out.mono ?_; rintro r w1 ⟨rfl | ⟨rfl, hf⟩, hb⟩; all_goals (have HB := Lib.hid hb; clear hb); try (have HF := Lib.hid hf; clear hf)) | (go_at_call 37; refine (H2.out _ HB.out).mono ?_; rintro r w1 ⟨rfl, rfl⟩))
  · go_ret
    exact ⟨.no, HB.out⟩
  clear c0 c1 c2 c3 c4 t1
  go_loopw [3] (fun i wr => ∃ k : Nat, k ≤ m ∧ i = .int .i64 k ∧ Below w.heap.size w wr ∧ ∀ j x, j < k → ns[j]? = some x → Bar x ∧ Shp ns x (kids ns j)) (fun i _ => m - (intOf i).toNat)
  case atStart => exact ⟨0, Nat.zero_le _, rfl, HB.out, fun j x h => by omega⟩
  case round =>
    obtain ⟨k, hk, rfl, hb, hall⟩ := hrel
    have HBW := Lib.hid hb
    have HA := Lib.hid hall
    by_cases hlt : k < m
    · obtain ⟨x, hx⟩ := getElem?_lt (show k < ns.length by have := HM.out; omega)
      obtain ⟨d0, d1, d2, d3, d4, -⟩ := (HR.out.later hb) k x hx
      have HXX := Lib.hid hx
      have hki : (k : Int) < (m : Int) := by omega
      have hL4 := HL.out
      have HC1 := Lib.hid (H3.out k x hx _ hb)
      have HC2 := Lib.hid (fun hbar => H4.out k x hx HF.out hbar)
      clear hb hall hx
      obtain ⟨k0, o0, t0', m0, z0⟩ := x
      dsimp only [nv] at d0 d1 d2 d3 d4 HC1
      go_wp2_with (first | (go_at_call 57; refine HC1.out.mono ?_; rintro r w2 ⟨rfl | ⟨rfl, hbar⟩, hb⟩; all_goals (have HB2 := Lib.hid hb; clear hb); try (have HBAR := Lib.hid hbar; clear hbar)) | (go_at_call 58; refine (HC2.out HBAR.out _ HB2.out).mono ?_; rintro r w2 ⟨rfl | ⟨rfl, hs⟩, hb⟩; all_goals (have HB3 := Lib.hid hb; clear hb); try (have HS := Lib.hid hs; clear hs)))
      · go_ret
        exact ⟨.no, HB2.out⟩
      · go_ret
        exact ⟨.no, HB3.out⟩
      · go_roundw
        case rel => exact ⟨k + 1, by omega, by go_num, HB3.out, fun j y hj hy => by
          by_cases hjk : j < k
          · exact HA.out j y hjk hy
          · have : j = k := by omega
            subst this
            have := HXX.out; rw [hy] at this; cases this
            exact ⟨HBAR.out, HS.out⟩⟩
        case measure => simp [intOf]; omega
    · have hki : ¬ (k : Int) < (m : Int) := by omega
      clear hb hall
      go_wp2
      go_ret
      refine ⟨.yes ⟨⟨HF.out, fun i x hx => ?_, fun i x hx => ?_⟩, HX.out, HZ.out⟩, HBW.out⟩
      · exact (HA.out i x (by have := (List.getElem?_eq_some_iff.1 hx).1; have := HM.out; omega) hx).1
      · exact (HA.out i x (by have := (List.getElem?_eq_some_iff.1 hx).1; have := HM.out; omega) hx).2
theorem right_none (A : Option Addr) (cap : Nat) (w : World) : Calls Try.prog 32 #[.slice A 0 cap] w fun r w' => r = .returned (.bool false) ∧ Below w.heap.size w w' := by
  go_enter Try.func32, Try.ntmps32
  go_wp2
  go_ret
  exact ⟨rfl, Below.refl _ _⟩
end Go.Proofs.Ytincgkolpicipaa.kin
namespace Go.Proofs.Ytincgkolpicipaa.kin
open Go.RowKit
open Go.Proofs.Ytincgkolpicipaa.stack (step_after AnyBool AnyInt add_off owns_form)
/-- A slice of nodes that came in. -/
def NRow (W : World) (v : Value) (ns : List Nd) : Prop := ∃ (A : Option Addr) (cap : Nat), v = .slice A ns.length cap ∧ ns.length ≤ 9223372036854775807 ∧ (ns = [] ∨ ∃ q o, A = some ⟨q, o, none⟩ ∧ Row W q o ns)
theorem NRow.later {W W' : World} {v : Value} {ns : List Nd} (h : NRow W v ns) (hb : Below W.heap.size W W') : NRow W' v ns := by
  obtain ⟨A, cap, hv, hl, h⟩ := h
  refine ⟨A, cap, hv, hl, ?_⟩
  rcases h with h | ⟨q, o, ha, h⟩
  · exact .inl h
  · exact .inr ⟨q, o, ha, h.later hb⟩
theorem NRow.here {W : World} {A : Option Addr} {n cap : Nat} {ns : List Nd} (h : NRow W (.slice A n cap) ns) {i : Nat} {x : Nd} (hx : ns[i]? = some x) : ∃ q o, A = some ⟨q, o, none⟩ ∧ Row W q o ns := by
  obtain ⟨A', cap', hv, -, h⟩ := h
  injection hv with h1 h2 h3
  rcases h with rfl | ⟨q, o, ha, h⟩
  · simp at hx
  · exact ⟨q, o, h1.trans ha, h⟩
theorem fits31_any (k o m z : Int) (t : ByteArray) (w : World) : Calls Try.prog 31 #[.agg #[.int .i64 k, .int .i64 o, .string t, .int .i64 m, .int .i64 z]] w fun r w' => AnyBool r ∧ Below w.heap.size w w' := by
  cases h : decide ((2147483647 : Int) < (t.size : Int))
  all_goals
    go_enter Try.func31, Try.ntmps31
    go_wp2
    go_ret
    exact ⟨⟨_, rfl⟩, (Below.refl _ _).alloc (Nat.le_refl _) _⟩
set_option maxHeartbeats 1000000 in
theorem fits16_any (v : Value) (ns : List Nd) (w : World) (h : NRow w v ns) : Calls Try.prog 16 #[v] w fun r w' => AnyBool r ∧ Below w.heap.size w w' := by
  have HH := Lib.hid h
  obtain ⟨A, cap, rfl, hl, -⟩ := h
  by_cases hbig : ns.length ≤ 2147483647
  · have hnb : decide ((2147483647 : Int) < (ns.length : Int)) = false := decide_eq_false (by omega)
    generalize hn : ns.length = n at hl hbig hnb HH ⊢
    have HN := Lib.hid hn
    clear hn
    go_enter Try.func16, Try.ntmps16
    go_wp2
    go_loopw [4, 10] (fun _ i wr => ∃ k : Nat, k ≤ n ∧ i = .int .i64 k ∧ Below w.heap.size w wr) (fun _ i _ => n - (intOf i).toNat)
    case atStart => exact ⟨0, Nat.zero_le _, rfl, Below.refl _ _⟩
    case round =>
      obtain ⟨k, hk, rfl, hb⟩ := hrel
      have HB := Lib.hid hb
      by_cases hlt : k < n
      · obtain ⟨s, hs⟩ := getElem?_lt (show k < ns.length by have := HN.out; omega)
        obtain ⟨q, o, rfl, hrow⟩ := (HH.out.later hb).here hs
        obtain ⟨c0, c1, c2, c3, c4, -⟩ := hrow k s hs
        have hki : (k : Int) < (n : Int) := by omega
        have HF := Lib.hid (fun w' => fits31_any s.k s.o s.m s.z s.t w')
        clear hs hb hrow
        go_wp2_with (go_at_call 31; refine (HF.out _).mono ?_; rintro e w' ⟨⟨b, rfl⟩, hb⟩; have HB2 := Lib.hid hb; clear hb; cases b)
        · go_ret
          exact ⟨⟨_, rfl⟩, step_after (HB.out.alloc HB.out.size _) HB2.out⟩
        · go_roundw
          case rel => exact ⟨k + 1, by omega, by go_num, step_after (HB.out.alloc HB.out.size _) HB2.out⟩
          case measure => simp [intOf]; omega
      · have hki : ¬ (k : Int) < (n : Int) := by omega
        clear hb
        go_wp2
        go_ret
        exact ⟨⟨_, rfl⟩, HB.out⟩
  · have hnb : decide ((2147483647 : Int) < (ns.length : Int)) = true := decide_eq_true (by omega)
    go_enter Try.func16, Try.ntmps16
    go_wp2
    go_ret
    exact ⟨⟨_, rfl⟩, Below.refl _ _⟩
structure Thin (ns : List Nd) : Prop where
  many : ns.length ≤ 400
  one : 0 < ns.length
  texts : ∀ (i : Nat) (n : Nd), ns[i]? = some n → n.t.size ≤ 4000
  good : Good ns
  root : Ex ns 0
  whole : ∃ n, ns[0]? = some n ∧ n.z = (ns.length : Int)
set_option maxRecDepth 100000 in
set_option maxHeartbeats 2000000 in
theorem thin_says (v : Value) (ns : List Nd) (w : World) (h : NRow w v ns) : Calls Try.prog 17 #[v] w fun r w' => Says r (Thin ns) ∧ Below w.heap.size w w' := by
  have HH := Lib.hid h
  obtain ⟨A, cap, rfl, hl, -⟩ := h
  by_cases hbig : ns.length ≤ 400
  rotate_left
  · have hnb : decide ((400 : Int) < (ns.length : Int)) = true := decide_eq_true (by omega)
    go_enter Try.func17, Try.ntmps17
    go_wp2
    go_ret
    exact ⟨.no, Below.refl _ _⟩
  have hnb : decide ((400 : Int) < (ns.length : Int)) = false := decide_eq_false (by omega)
  have FIN := Lib.hid (show (∀ (i : Nat) (n : Nd), ns[i]? = some n → n.t.size ≤ 4000) → ∀ w', Below w.heap.size w w' → Calls Try.prog 32 #[.slice A ns.length cap] w' fun r w'' => (r = .returned (.bool false) ∨ r = .returned (.bool true) ∧ Thin ns ∧ Calls Try.prog 33 #[.slice A ns.length cap] w'' fun r w''' => AnyBool r ∧ Below w.heap.size w w''') ∧ Below w.heap.size w w'' from fun hT w' hb => by
    by_cases hp : 0 < ns.length
    · obtain ⟨x, hx⟩ := getElem?_lt hp
      obtain ⟨q, o, rfl, hrow⟩ := (HH.out.later hb).here hx
      refine (right_says q o cap ns hbig hp hT w' hrow).mono ?_
      rintro r w'' ⟨hs, hb2⟩
      refine ⟨?_, step_after hb hb2⟩
      rcases hs.cases with h | ⟨h, hg, hx, hz⟩
      · exact .inl h
      · exact .inr ⟨h, ⟨hbig, hp, hT, hg, hx, hz⟩, (light_any q o cap ns hbig hp hg.fit hg.bar w'' (hrow.later hb2)).mono fun r w3 h => ⟨h.1, step_after (step_after hb hb2) h.2⟩⟩
    · have h0 : ns.length = 0 := by omega
      rw [h0]
      exact (right_none A cap w').mono fun r w'' h => ⟨.inl h.1, step_after hb h.2⟩)
  generalize hn : ns.length = n at hl hbig hnb HH FIN ⊢
  have HN := Lib.hid hn
  clear hn hl
  go_enter Try.func17, Try.ntmps17
  go_wp2
  go_loopw [3, 4] (fun x i wr => ∃ k b : Nat, k ≤ n ∧ b ≤ 4000 ∧ x = .int .i64 b ∧ i = .int .i64 k ∧ wr = w ∧ ∀ (i : Nat) (n : Nd), i < k → ns[i]? = some n → n.t.size ≤ 4000) (fun _ i _ => n - (intOf i).toNat)
  case atStart => exact ⟨0, 0, Nat.zero_le _, Nat.zero_le _, rfl, rfl, rfl, fun i n h => by omega⟩
  case round =>
    obtain ⟨k, b, hk, hb, rfl, rfl, hw, hall⟩ := hrel
    have hw2 := hw.symm
    subst hw2
    have HA := Lib.hid hall
    by_cases hlt : k < n
    · obtain ⟨s, hs⟩ := getElem?_lt (show k < ns.length by have := HN.out; omega)
      obtain ⟨q, o, rfl, hrow⟩ := HH.out.here hs
      obtain ⟨c0, c1, c2, c3, c4, hsz⟩ := hrow k s hs
      have hki : (k : Int) < (n : Int) := by omega
      have HS := Lib.hid hs
      have HSZ := Lib.hid hsz
      clear hall hs hrow c0 c1 c3 c4 hw
      by_cases h1 : (4001 : Int) < (s.t.size : Int)
      · go_wp2
        all_goals
          go_ret
          exact ⟨.no, Below.refl _ _⟩
      by_cases h2 : (4000 : Int) < (b : Int) + (s.t.size : Int)
      · go_wp2
        all_goals
          go_ret
          exact ⟨.no, Below.refl _ _⟩
      · go_wp2
        go_roundw
        case rel => exact ⟨k + 1, b + s.t.size, by omega, by omega, by go_num, by go_num, by first | rfl | trivial, fun i x hi hx => by
          by_cases hik : i < k
          · exact HA.out i x hik hx
          · have : i = k := by omega
            subst this
            have := HS.out; rw [hx] at this; cases this; omega⟩
        case measure => simp [intOf]; omega
    · have hki : ¬ (k : Int) < (n : Int) := by omega
      have HF := Lib.hid (FIN.out fun i x hx => HA.out i x (by have := (List.getElem?_eq_some_iff.1 hx).1; have := HN.out; omega) hx)
      clear hall
      go_wp2_with (first | (go_at_call 32; refine (HF.out _ (Below.refl _ _)).mono ?_; rintro r w1 ⟨rfl | ⟨rfl, ht, hc⟩, hb⟩; all_goals (have HB := Lib.hid hb; clear hb); try (have HT := Lib.hid ht; have HC := Lib.hid hc; clear ht hc)) | (go_at_call 33; refine HC.out.mono ?_; rintro r w2 ⟨⟨b, rfl⟩, hb⟩; have HB2 := Lib.hid hb; clear hb))
      · go_ret
        exact ⟨.no, HB.out⟩
      · go_ret
        exact ⟨⟨_, rfl, fun _ => HT.out⟩, HB2.out⟩
end Go.Proofs.Ytincgkolpicipaa.kin
namespace Go.Proofs.Ytincgkolpicipaa.kin
open Go.RowKit
open Go.Proofs.Ytincgkolpicipaa.stack (step_after AnyBool AnyInt add_off owns_form)
theorem Ks.head {ns : List Nd} {b e a : Nat} {r : List Nat} (h : Ks ns b e (a :: r)) : a = b := by
  cases h
  rfl
/-- The kid of a local of an object is its bind. -/
theorem mlocal_kid {ns : List Nd} (hg : Good ns) {k : Nat} {n : Nd} (hn : ns[k]? = some n) (hk : n.k = 36) : ∃ x, ns[k + 1]? = some x ∧ kids ns k = [k + 1] ∧ x.k = 32 := by
  have hs := hg.shp k n hn
  have hks := (hg.fit k n hn).kids
  generalize kids ns k = ks at hs hks
  cases hs with
  | mlocal h ha =>
    obtain rfl := hks.head
    obtain ⟨x, hx, hx2⟩ := ha (k + 1) (by simp)
    exact ⟨x, hx, rfl, by simpa using hx2⟩
  | _ => exfalso; omega
/-- Some truth value; if it is false, P. -/
def Denies (r : Ending) (P : Prop) : Prop := ∃ b : Bool, r = .returned (.bool b) ∧ (b = false → P)
theorem Denies.yes {P : Prop} : Denies (.returned (.bool true)) P := ⟨true, rfl, fun h => by cases h⟩
theorem Denies.no {P : Prop} (h : P) : Denies (.returned (.bool false)) P := ⟨false, rfl, fun _ => h⟩
set_option maxRecDepth 100000 in
set_option maxHeartbeats 4000000 in
theorem sugared_says (q o cap : Nat) (ns : List Nd) (hL : ns.length ≤ 400) (hg : Good ns) (a : Nat) (n : Nd) (hn : ns[a]? = some n) (w : World) (hrow : Row w q o ns) :
    Calls Try.prog 18 #[.slice (some ⟨q, o, none⟩) ns.length cap, .int .i64 a] w fun r w' => Denies r (∀ k ∈ kids ns a, Plain ns k) ∧ Below w.heap.size w w' := by
  have HK := Lib.hid (kids_form q o cap ns hL a n hn (hg.fit a n hn) w hrow)
  have HKS := Lib.hid (show ∀ k ∈ kids ns a, k < ns.length from fun k hk => (hg.fit.kid hn hk).2.2.2.2)
  have HR := Lib.hid hrow
  have HG := Lib.hid hg
  have HL := Lib.hid hL
  clear hn hg hrow hL
  generalize kids ns a = ks at HK HKS ⊢
  generalize hm : ks.length = m at HK
  have HM := Lib.hid hm
  clear hm
  go_enter Try.func18, Try.ntmps18
  go_wp2_with (go_at_call 34; refine HK.out.mono ?_; rintro r w1 ⟨A, pc, rfl, hl, hp, hb⟩; have HP := Lib.hid hp; have HB := Lib.hid hb; clear hp hb HK)
  go_loopw [6] (fun i wr => ∃ k : Nat, k ≤ m ∧ i = .int .i64 k ∧ Below w.heap.size w wr ∧ Below w1.heap.size w1 wr ∧ ∀ j x, j < k → ks[j]? = some x → Plain ns x) (fun i _ => m - (intOf i).toNat)
  case atStart => exact ⟨0, Nat.zero_le _, rfl, HB.out, Below.refl _ _, fun j x h => by omega⟩
  case round =>
    obtain ⟨k, hk, rfl, hb, hb1, hall⟩ := hrel
    have HBW := Lib.hid hb
    have HBV := Lib.hid hb1
    have HA := Lib.hid hall
    by_cases hlt : k < m
    · obtain ⟨j, hj⟩ := getElem?_lt (show k < ks.length by have := HM.out; omega)
      have hjm := List.mem_of_getElem? hj
      obtain ⟨p, po, rfl, -, -, cx⟩ := (HP.out.later hb1).here hj
      have cx2 : ∀ o1, (wr.alloc o1).cell? ⟨p, po + k, none⟩ = some (.int .i64 j) := fun o1 => cell_later ((Below.refl _ _).alloc (Nat.le_refl _) _) cx
      obtain ⟨nj, hnj⟩ := getElem?_lt (HKS.out j hjm)
      have hjl : (j : Int) < (ns.length : Int) := by have := HKS.out j hjm; omega
      have hki : (k : Int) < (m : Int) := by omega
      obtain ⟨c0, c1, c2, c3, c4, -⟩ := (HR.out.later hb) j nj hnj
      have STEP := Lib.hid (show Plain ns j → ∀ i y, i < k + 1 → ks[i]? = some y → Plain ns y from fun hP i y hi hy => by
        by_cases hik : i < k
        · exact HA.out i y hik hy
        · have : i = k := by omega
          subst this; rw [hj] at hy; cases hy; exact hP)
      have HNJ := Lib.hid hnj
      have hbar := HG.out.bar j nj hnj
      have HF := Lib.hid (fun (h36 : nj.k = 36) => mlocal_kid HG.out hnj h36)
      clear hb hb1 hj hjm hnj hall
      obtain ⟨k0, o0, t0, m0, z0⟩ := nj
      dsimp only at c0 c1 c2 c3 c4 hbar HNJ HF
      by_cases h33 : k0 = 33
      · subst h33
        clear hbar
        go_wp2
        go_ret
        exact ⟨.yes, HBW.out.alloc HBW.out.size _⟩
      by_cases h32 : k0 = 32
      · subst h32
        by_cases h1 : m0 = 1
        · subst h1
          clear hbar
          go_wp2
          go_ret
          exact ⟨.yes, HBW.out.alloc HBW.out.size _⟩
        · have t1 : (m0 == 1) = false := by simpa using h1
          have HP1 := Lib.hid (show Plain ns j from ⟨_, HNJ.out, by simp, fun _ => h1, fun h => by simp at h, fun h => by simp at h⟩)
          clear hbar h1
          go_wp2
          go_roundw
          case rel => exact ⟨k + 1, by omega, by go_num, HBW.out.alloc HBW.out.size _, HBV.out.alloc HBV.out.size _, STEP.out HP1.out⟩
          case measure => simp [intOf]; omega
      by_cases h35 : k0 = 35
      · subst h35
        have hm9 := (hbar.field rfl).2
        dsimp only at hm9
        clear hbar
        have HPF := Lib.hid (show (m0 = 0 ∨ m0 = 2 ∨ m0 = 4 ∨ m0 = 6) → Plain ns j from fun h => ⟨_, HNJ.out, by simp, fun h => by simp at h, fun _ => h, fun h => by simp at h⟩)
        rcases hm9 with rfl | rfl | rfl | rfl | rfl | rfl | rfl | rfl | rfl
        all_goals
          go_wp2
          first
            | (go_ret
               exact ⟨.yes, HBW.out.alloc HBW.out.size _⟩)
            | (go_roundw
               case rel => exact ⟨k + 1, by omega, by go_num, HBW.out.alloc HBW.out.size _, HBV.out.alloc HBV.out.size _, STEP.out (HPF.out (by simp))⟩
               case measure => simp [intOf]; omega)
      by_cases h36 : k0 = 36
      · subst h36
        obtain ⟨y, hy, -, -⟩ := HF.out rfl
        have d3 := ((HR.out.later HBW.out) (j + 1) y hy).2.2.2.1
        have d4 : ∀ o1, (wr.alloc o1).cell? ⟨q, o + (j + 1) * 5 + 3, none⟩ = some (.int .i64 y.m) := fun o1 => cell_later ((Below.refl _ _).alloc (Nat.le_refl _) _) d3
        have hyl : (j : Int) + 1 < (ns.length : Int) := by have := (List.getElem?_eq_some_iff.1 hy).1; omega
        have hL4 := HL.out
        have wj : IntKind.i64.wrap ((j : Int) + 1) = (j : Int) + 1 := IntWalk.i64_in _ (by omega)
        have HPF := Lib.hid (show y.m ≠ 1 → Plain ns j from fun h => ⟨_, HNJ.out, by simp, fun h => by simp at h, fun h => by simp at h, fun _ => ⟨y, hy, h⟩⟩)
        clear hbar hy
        by_cases h1 : y.m = 1
        · have t1 : (y.m == 1) = true := by simpa using h1
          clear h1
          go_wp2
          go_ret
          exact ⟨.yes, HBW.out.alloc HBW.out.size _⟩
        · have t1 : (y.m == 1) = false := by simpa using h1
          have HP1 := Lib.hid (HPF.out h1)
          clear h1
          go_wp2
          go_roundw
          case rel => exact ⟨k + 1, by omega, by go_num, HBW.out.alloc HBW.out.size _, HBV.out.alloc HBV.out.size _, STEP.out HP1.out⟩
          case measure => simp [intOf]; omega
      have t1 : (k0 == 33) = false := by simpa using h33
      have t2 : (k0 == 32) = false := by simpa using h32
      have t3 : (k0 == 35) = false := by simpa using h35
      have t4 : (k0 == 36) = false := by simpa using h36
      have HP1 := Lib.hid (show Plain ns j from ⟨_, HNJ.out, h33, fun h => absurd h h32, fun h => absurd h h35, fun h => absurd h h36⟩)
      clear hbar h33 h32 h35 h36
      go_wp2
      go_roundw
      case rel => exact ⟨k + 1, by omega, by go_num, HBW.out.alloc HBW.out.size _, HBV.out.alloc HBV.out.size _, STEP.out HP1.out⟩
      case measure => simp [intOf]; omega
    · have hki : ¬ (k : Int) < (m : Int) := by omega
      clear hb hb1 hall
      go_wp2
      go_ret
      refine ⟨.no fun x hx => ?_, HBW.out⟩
      obtain ⟨j, hj⟩ := List.getElem?_of_mem hx
      exact HA.out j x (by have := (List.getElem?_eq_some_iff.1 hj).1; have := HM.out; omega) hj
end Go.Proofs.Ytincgkolpicipaa.kin
namespace Go.Proofs.Ytincgkolpicipaa.kin
open Go.RowKit
open Go.Proofs.Ytincgkolpicipaa.stack (step_after Chg owns_chg owns_form AnyBool)
set_option maxRecDepth 100000 in
set_option maxHeartbeats 4000000 in
theorem impl_children (q o cap : Nat) (ns : List Nd) (hL : ns.length ≤ 400) (hg : Good ns) (hx : Ex ns 0) (h0 : ∃ n, ns[0]? = some n ∧ n.z = (ns.length : Int)) (a : Nat) (n : Nd) (hn : ns[a]? = some n) (ha : InS ns a) (w : World) (hrow : Row w q o ns) :
    Calls Try.prog 20 #[.slice (some ⟨q, o, none⟩) ns.length cap, .int .i64 a] w (KidsR ns a w) := by
  have HK := Lib.hid (kin_does q o cap ns hL hg hx h0 a n hn ha w hrow)
  clear hg hx h0 hn ha hrow hL
  generalize ns.length = m at HK ⊢
  go_enter Try.func20, Try.ntmps20
  go_wp2_with (go_at_call 35; refine HK.out.mono ?_; rintro r w1 ⟨⟨v, ps, rfl, hp, hpl⟩, hb⟩; have HR := Lib.hid (show KidsR ns a w (.returned v) w1 from ⟨⟨v, ps, rfl, hp, hpl⟩, hb⟩); clear hp hpl hb)
  go_ret
  exact HR.out
theorem tmod_nat (x m : Nat) : Int.tmod (x : Int) (m : Int) = ((x % m : Nat) : Int) := rfl
set_option maxRecDepth 100000 in
set_option maxHeartbeats 8000000 in
theorem law5 (x : Nat) (hx : x ≤ 65535) (v : Value) (ns : List Nd) (w : World) (h : NRow w v ns) : Calls Try.prog 5 #[v, .int .u16 x] w fun r w' => r = .returned (.bool true) ∧ Below w.heap.size w w' := by
  have HF := Lib.hid (fits16_any v ns w h)
  have HT := Lib.hid (fun w1 (hb : Below w.heap.size w w1) => thin_says v ns w1 (h.later hb))
  by_cases hthin : Thin ns
  rotate_left
  · have HT2 := Lib.hid (fun w1 (hb : Below w.heap.size w w1) => (HT.out w1 hb).mono (R' := fun r w2 => r = .returned (.bool false) ∧ Below w.heap.size w w2) fun r w2 ⟨⟨b, h1, h2⟩, h3⟩ => ⟨by cases b with
      | false => exact h1
      | true => exact absurd (h2 rfl) hthin, step_after hb h3⟩)
    clear HT hthin
    obtain ⟨A, cap, rfl, -⟩ := h
    generalize ns.length = m at HF HT2 ⊢
    go_enter Try.func5, Try.ntmps5
    go_wp2_with (first | (go_at_call 16; refine HF.out.mono ?_; rintro r w1 ⟨⟨b, rfl⟩, hb⟩; have HB := Lib.hid hb; clear hb; cases b) | (go_at_call 17; refine (HT2.out _ HB.out).mono ?_; rintro r w2 ⟨rfl, hb⟩; have HB2 := Lib.hid hb; clear hb))
    all_goals go_ret
    all_goals first | exact ⟨rfl, HB2.out⟩ | exact ⟨rfl, HB.out⟩
  have HT2 := Lib.hid (fun w1 (hb : Below w.heap.size w w1) => (HT.out w1 hb).mono (R' := fun r w2 => (∃ b : Bool, r = .returned (.bool b)) ∧ Below w.heap.size w w2) fun r w2 ⟨⟨b, h1, h2⟩, h3⟩ => ⟨⟨b, h1⟩, step_after hb h3⟩)
  clear HT
  have hL := hthin.many
  have hone := hthin.one
  have hg := hthin.good
  have hroot := hthin.root
  have hwhole := hthin.whole
  have hal : x % ns.length < ns.length := Nat.mod_lt _ hone
  obtain ⟨n, hn⟩ := getElem?_lt hal
  obtain ⟨A, cap, rfl, hrest⟩ := id h
  obtain ⟨q, o, rfl, hrow⟩ := h.here hn
  have htm := tmod_nat x ns.length
  have hz : ((ns.length : Int) == 0) = false := by rw [beq_eq_false_iff_ne]; omega
  have hz2 : ¬ (ns.length : Int) = 0 := by omega
  have hlt : ((x % ns.length : Nat) : Int) < (ns.length : Int) := by omega
  have w1 : IntKind.i64.wrap (x : Int) = (x : Int) := IntWalk.i64_in _ (by omega)
  have w2 : IntKind.i64.wrap ((x % ns.length : Nat) : Int) = ((x % ns.length : Nat) : Int) := IntWalk.i64_in _ (by omega)
  have HC := Lib.hid (fun w' (hb : Below w.heap.size w w') => (hrow.later hb (x % ns.length) n hn).1)
  have HS := Lib.hid (fun w' (hb : Below w.heap.size w w') => (sugared_says q o cap ns hL hg _ n hn w' (hrow.later hb)).mono (R' := fun r w2 => Denies r (∀ k ∈ kids ns (x % ns.length), Plain ns k) ∧ Below w.heap.size w w2) fun r w2 h => ⟨h.1, step_after hb h.2⟩)
  by_cases hsc : scope n.k
  rotate_left
  · have e : ∀ c : Int, scope c → (n.k == c) = false := fun c hc => by
      rw [beq_eq_false_iff_ne]; rintro rfl; exact hsc hc
    have e22 := e 22 (by simp [scope])
    have e23 := e 23 (by simp [scope])
    have e15 := e 15 (by simp [scope])
    have e11 := e 11 (by simp [scope])
    have e18 := e 18 (by simp [scope])
    have e21 := e 21 (by simp [scope])
    have e30 := e 30 (by simp [scope])
    have e24 := e 24 (by simp [scope])
    have e20 := e 20 (by simp [scope])
    have e13 := e 13 (by simp [scope])
    have e19 := e 19 (by simp [scope])
    have e8 := e 8 (by simp [scope])
    have e1 := e 1 (by simp [scope])
    have e2 := e 2 (by simp [scope])
    have e3 := e 3 (by simp [scope])
    have e4 := e 4 (by simp [scope])
    have e5 := e 5 (by simp [scope])
    have e6 := e 6 (by simp [scope])
    have e7 := e 7 (by simp [scope])
    clear e hsc hthin hg hroot hwhole hn hrow h hrest HS hone
    generalize hm : x % ns.length = a at *
    generalize ns.length = m at *
    go_enter Try.func5, Try.ntmps5
    go_wp2_with (first | (go_at_call 16; refine HF.out.mono ?_; rintro r w1 ⟨⟨b, rfl⟩, hb⟩; have HB := Lib.hid hb; clear hb; cases b) | (go_at_call 17; refine (HT2.out _ HB.out).mono ?_; rintro r w2 ⟨⟨b, rfl⟩, hb⟩; have hc := HC.out _ hb; have HB2 := Lib.hid hb; clear hb; cases b))
    all_goals go_ret
    all_goals first | exact ⟨rfl, HB2.out⟩ | exact ⟨rfl, HB.out⟩
  have HI := Lib.hid (fun (hpl : ∀ k ∈ kids ns (x % ns.length), Plain ns k) w' (hb : Below w.heap.size w w') => (impl_children q o cap ns hL hg hroot hwhole _ n hn ⟨⟨n, hn, hsc⟩, hpl⟩ w' (hrow.later hb)).mono (R' := fun r w2 => ∃ (A : Option Addr) (c : Nat) (ps : List Nat), r = .returned (.slice A ps.length c) ∧ ps.Perm (inner ns (x % ns.length)) ∧ Plc w'.heap.size w2 (.slice A ps.length c) ps ∧ Below w.heap.size w w2) fun r w2 ⟨⟨v, ps, h1, h2, h3⟩, h4⟩ => by
    obtain ⟨A, c, rfl, -, -⟩ := h3.form
    exact ⟨A, c, ps, h1, h2, h3, step_after hb h4⟩)
  have HN := Lib.hid (fun w' (hb : Below w.heap.size w w') => (inner_says q o cap ns hL hg.fit _ _ n hn (Nat.le_refl _) w' (hrow.later hb)).mono (R' := fun r w2 => ∃ (A : Option Addr) (c : Nat), r = .returned (.slice A (inner ns (x % ns.length)).length c) ∧ Plc w'.heap.size w2 (.slice A (inner ns (x % ns.length)).length c) (inner ns (x % ns.length)) ∧ Below w.heap.size w w2 ∧ Below w'.heap.size w' w2) fun r w2 ⟨⟨v, h1, h2⟩, h3⟩ => by
    obtain ⟨A, c, rfl, -, -⟩ := h2.form
    exact ⟨A, c, h1, h2, step_after hb h3, h3⟩)
  have HND := Lib.hid (inner_nodup hg.fit hn)
  obtain ⟨k0, o0, t0, m0, z0⟩ := n
  unfold scope at hsc
  dsimp only at hsc HC
  clear hthin hg hroot hwhole hn hrow h hrest hone
  generalize hm : x % ns.length = a at *
  generalize inner ns a = inn at HI HN HND
  generalize ns.length = m at *
  rcases hsc with rfl | rfl | rfl | rfl | rfl | rfl | rfl | rfl | rfl | rfl | rfl | rfl | rfl | rfl | rfl | rfl | rfl | rfl | rfl
  all_goals
      go_enter Try.func5, Try.ntmps5
      go_wp2_with (first | (go_at_call 16; refine HF.out.mono ?_; rintro r w1 ⟨⟨b, rfl⟩, hb⟩; have HB := Lib.hid hb; clear hb; cases b) | (go_at_call 17; refine (HT2.out _ HB.out).mono ?_; rintro r w2 ⟨⟨b, rfl⟩, hb⟩; have hc := HC.out _ hb; have HB2 := Lib.hid hb; clear hb; cases b) | (go_at_call 18; refine (HS.out _ HB2.out).mono ?_; rintro r w3 ⟨⟨b, rfl, hpl⟩, hb⟩; have HPL := Lib.hid hpl; have HB3 := Lib.hid hb; clear hb hpl; cases b) | (go_at_call 20; refine (HI.out (HPL.out (by trivial)) _ HB3.out).mono ?_; rintro r w4 ⟨A4, c4, ps, rfl, hperm, hp4, hb⟩; have HPM := Lib.hid hperm; have HP4 := Lib.hid hp4; have HB4 := Lib.hid hb; clear hb hperm hp4) | (go_at_call 21; refine (HN.out _ HB4.out).mono ?_; rintro r w5 ⟨A5, c5, rfl, hp5, hb, hb2⟩; have HP5 := Lib.hid hp5; have HB5 := Lib.hid hb; have HQ4 := Lib.hid (HP4.out.later hb2); clear hb hb2 hp5) | (go_at_call 19; refine (sameSet_true _ _ _ _ HPM.out HND.out _ _ _ HQ4.out HP5.out).mono ?_; rintro r w6 ⟨rfl, hb⟩; have HB6 := Lib.hid (step_after HB5.out hb); clear hb))
      all_goals go_ret
      all_goals first | exact ⟨rfl, HB6.out⟩ | exact ⟨rfl, HB3.out⟩ | exact ⟨rfl, HB2.out⟩ | exact ⟨rfl, HB.out⟩
end Go.Proofs.Ytincgkolpicipaa.kin
