/- FnChildren: builder.sugar by contract: comprehensions of arrays, calls with an object, slices; builder.sugar by contract: slices. -/
import Derived.Test.YtincgkolpicipaaC14
import Derived.Deep.RegionWith
import Derived.Lib.QuietBelow
set_option linter.unusedVariables false
set_option linter.unusedSimpArgs false
namespace Go.Proofs.Ytincgkolpicipaa.kin
open Go.RowKit
open Go.Proofs.Ytincgkolpicipaa.stack (step_after Chg owns_chg owns_form)
set_option maxRecDepth 100000 in
set_option maxHeartbeats 4000000 in
theorem sugar_acomp {e : Env} (hg : Good e.ns) (hL : e.ns.length ≤ 400) (a : Nat) (ks : List Nat) (hna : NodeC e a) (hsp : Spc e.ns ks) (hns : ∀ k ∈ ks, ∀ x ∈ kids e.ns k, NodeC e x) (hs : Sep e.ns (a :: ks)) (hlen : (a :: ks).length ≤ e.ns.length) (w : World) (cs : Pl) (U : Nat → Prop) (hst : St e w cs U) (hfr : Free e.ns cs (a :: ks)) (B : Nat) (hB : e.N < B) (v : Value) (hp : Plc B w v (a :: ks)) (o m z : Int) (t : ByteArray) :
    Calls Try.prog 86 #[.pointer (some ⟨e.b, 0, none⟩), .agg #[.int .i64 12, .int .i64 o, .string t, .int .i64 m, .int .i64 z], v] w (Res e w cs U (a :: ks) 201 (fun _ _ _ => True)) := by
  obtain ⟨s0, sr, sn, hks, -, -⟩ := hsp.1
  obtain ⟨p, po, pc, rfl, hpc, hl, hBp, hpw, cx⟩ := hp.at (j := 0) (k := a) rfl
  rw [Nat.add_zero] at cx
  have hkl : ks.length = sr.length + 1 := by rw [hks]; rfl
  have hfrom := Plc.from_ (ks := [a]) (ls := ks) hp rfl
  simp only [List.length_cons, List.length_nil, Nat.zero_add] at hfrom hpc hl hlen ⊢
  have hpc1 : ¬ pc = 1 := by omega
  rw [if_neg hpc1, hkl] at hfrom
  rw [hkl] at hpc hl hlen ⊢
  have hpN : p ≠ e.N := by omega
  have hsep := (show Sep e.ns ([a] ++ ks) from hs).app
  have hcx : ∀ w', Chg (· = e.N) w w' → w'.cell? ⟨p, po, none⟩ = some (.int .i64 a) := fun w' hc => hc.cell cx hpN
  have S1 := Lib.hid (show ∀ w', Chg (· = e.N) w w' → (w'.cell? ⟨p, po, none⟩ = some (.int .i64 a)) ∧ Chg (· = e.N) w w' from fun w' hc => ⟨hcx w' hc, hc⟩)
  have HNX := Lib.hid (fun W (hb : Below w.heap.size w W) => hna.first hg.fit hst (hfr.sub fun x hx => by rw [List.mem_singleton] at hx; simp [hx]) W hb)
  have HSP := Lib.hid (fun (W : World) (cs1 : Pl) (U1 : Nat → Prop) (hd : Done e (Rs e.ns [a]) w W cs cs1 U U1) => (specs_does hg hL ks hsp hns hsep.2.1 W cs1 U1 hd.st (hd.free hsep.2.2 (hfr.sub fun x hx => by simp [hx])) B hB _ (hfrom.chg hd.chg fun q hq hx => by omega)).mono (R' := fun r2 w2 => ∃ (cs' : Pl) (U' : Nat → Prop) (A : Option Addr) (m c : Nat) (op : Option Addr) (T : TypeId) (C : Nat) (t : ByteArray), r2 = .returned (.agg #[.slice none 0 0, .slice none 0 0, .slice A m c, .pointer op, .iface T (.pointer (some ⟨C, 0, none⟩)), .string t, .slice none 0 0]) ∧ Done e (Rs e.ns (a :: ks)) w w2 cs cs' U U') fun r2 w2 ⟨cs', U', A, m, c, op, T, C, t, h1, h2⟩ => ⟨cs', U', A, m, c, op, T, C, t, h1, hd.app h2 hsep.2.2⟩)
  have hc0 : ∀ o1, (w.alloc o1).cell? ⟨e.b, 0, none⟩ = some (.slice (some ⟨e.q, e.o, none⟩) e.ns.length e.cap) := fun o1 => cell_later ((Below.refl _ _).alloc (Nat.le_refl _) o1) hst.base.c0
  have hl1 : (2 : Int) ≤ ((sr.length + 1 + 1 : Nat) : Int) := by omega
  have hl2 : ((sr.length + 1 + 1 : Nat) : Int) ≤ (e.ns.length : Int) := by omega
  generalize sr.length = sl at *
  have hk1 : (1 : Int) ≤ (sl : Int) + 1 + 1 := by omega
  have hk2 : (1 : Int) ≤ (pc : Int) := by omega
  have hk3 : (sl : Int) + 1 + 1 ≤ (pc : Int) := by omega
  have hk4 : (0 : Int) < (sl : Int) + 1 + 1 := by omega
  clear hg hL hna hsp hns hs hlen hst hfr hB hp hsep hfrom hBp hpw cx hcx hks hkl
  go_enter Try.func86, Try.ntmps86
  go_wp2_with (go_at_call 96; refine (count_ok _ _ _ _ _ _ hl1 hl2 _).mono ?_; rintro r w1 ⟨rfl, rfl⟩)
  go_region_held3 (fun w' => (w'.cell? ⟨p, po, none⟩ = some (.int .i64 a)) ∧ Chg (· = e.N) w w')
    (first | (with_reducible exact S1.out _ ((Chg.refl _ _).alloc _).drew) | (with_reducible exact S1.out _ HD3.out.chg) | (with_reducible exact S1.out _ HD2.out.chg) | (with_reducible exact S1.out _ (HD3.out.chg.alloc _)))
    (first | (go_at_call 55; refine (HNX.out _ (((Below.refl _ _).alloc (Nat.le_refl _) _).drew)).mono ?_; rintro r w2 ⟨cs2, U2, T, C, rfl, hcj, hd2⟩; have HD2 := Lib.hid hd2; clear hcj hd2) | (go_at_call 107; refine (HSP.out _ _ _ HD2.out).mono ?_; rintro r w3 ⟨cs3, U3, A3, m3, c3, op, T3, C3, t3, rfl, hd3⟩; have HD3 := Lib.hid hd3; clear hd3))
  go_wp2
  go_ret
  exact res_new HD3.out _ trivial
theorem count_below (b : Nat) (A : Option Addr) (n c : Nat) (least most : Int) (h1 : least ≤ n) (h2 : n ≤ most) (w : World) : Calls Try.prog 96 #[.pointer (some ⟨b, 0, none⟩), .slice A n c, .int .i64 least, .int .i64 most] w fun r w' => r = .returned (.bool true) ∧ Below w.heap.size w w' :=
  (count_ok b A n c least most h1 h2 w).mono fun r w' ⟨h1, h2⟩ => ⟨h1, by subst h2; exact Below.refl _ _⟩
set_option maxRecDepth 100000 in
set_option maxHeartbeats 4000000 in
theorem sugar_brace {e : Env} (hg : Good e.ns) (a b : Nat) (hna : NodeC e a) (hnb : NodeC e b) (hb13 : Kd e.ns [13] [b]) (hs : Sep e.ns [a, b]) (w : World) (cs : Pl) (U : Nat → Prop) (hst : St e w cs U) (hfr : Free e.ns cs [a, b]) (B : Nat) (hB : e.N < B) (v : Value) (hp : Plc B w v [a, b]) (o m z : Int) (t : ByteArray) :
    Calls Try.prog 86 #[.pointer (some ⟨e.b, 0, none⟩), .agg #[.int .i64 29, .int .i64 o, .string t, .int .i64 m, .int .i64 z], v] w (Res e w cs U [a, b] 127 (fun _ _ _ => True)) := by
  obtain ⟨p, po, pc, rfl, -, -, hBp, -, cx⟩ := hp.at (j := 0) (k := a) rfl
  obtain ⟨p', po', pc', hv, -, -, -, -, cy⟩ := hp.at (j := 1) (k := b) rfl
  have hv2 : p' = p ∧ po' = po := by cases hv; exact ⟨rfl, rfl⟩
  obtain ⟨rfl, rfl⟩ := hv2
  clear hv
  rw [Nat.add_zero] at cx
  have hpN : p' ≠ e.N := by omega
  obtain ⟨nb, hnb2, hk13⟩ := hb13 b (by simp)
  have hk13 : nb.k = 13 := by simpa using hk13
  obtain ⟨cb, -⟩ := hst.base.row b nb hnb2
  rw [hk13] at cb
  have hbl : (b : Int) < (e.ns.length : Int) := by have := (List.getElem?_eq_some_iff.1 hnb2).1; omega
  have S1 := Lib.hid (show ∀ w', Chg (· = e.N) w w' → (w'.cell? ⟨p', po', none⟩ = some (.int .i64 a) ∧ w'.cell? ⟨p', po' + 1, none⟩ = some (.int .i64 b)) ∧ Chg (· = e.N) w w' from fun w' hc => ⟨⟨hc.cell cx hpN, hc.cell cy hpN⟩, hc⟩)
  have hba : ∀ o1 : Obj, Below w.heap.size w (w.alloc o1) := fun o1 => (Below.refl _ _).alloc (Nat.le_refl _) o1
  have c1a := fun o1 d os => cell_regrown (cell_later (hba o1) cy) d os
  have c2a := fun o1 d os => cell_regrown (cell_later (hba o1) hst.base.c0) d os
  have c3a := fun o1 d os => cell_regrown (cell_later (hba o1) cb) d os
  have HNX := Lib.hid (fun W (hb : Below w.heap.size w W) => hna.first hg.fit hst (hfr.sub fun x hx => by rw [List.mem_singleton] at hx; simp [hx]) W hb)
  have HNY := Lib.hid (fun W cs1 U1 (hd : Done e (Rs e.ns [a]) w W cs cs1 U U1) => hnb.nx hg.fit (hfr.sub fun x hx => by rw [List.mem_singleton] at hx; simp [hx]) (two_apt hs) W cs1 U1 hd)
  clear hp hna hnb hst hfr hg cx cy hs hB hBp hba cb hnb2 hk13 hb13
  go_enter Try.func86, Try.ntmps86
  go_upto_region 10 with fail
  refine wp_region_quiet_below (by kernel_rfl) (by kernel_rfl) ?_
  repeat (go_big_quiet_step (exact Calls.regrown_of (count_below _ _ _ _ _ _ (by simp) (by simp) _)))
  refine wpQuiet_nil ?_
  intro _ hw'
  obtain ⟨⟨dq, osq⟩, hw''⟩ := hw'
  subst hw''
  have HBQ := Lib.hid (step_after ((Below.refl w.heap.size w).alloc (Nat.le_refl _) (.cells #[.int .i64 29, .int .i64 o, .string t, .int .i64 m, .int .i64 z] 37)) (below_regrown (w.alloc (.cells #[.int .i64 29, .int .i64 o, .string t, .int .i64 m, .int .i64 z] 37)) dq osq))
  clear c1a c2a c3a
  go_upto_region 11 with fail
  go_region_held3 (fun w' => (w'.cell? ⟨p', po', none⟩ = some (.int .i64 a) ∧ w'.cell? ⟨p', po' + 1, none⟩ = some (.int .i64 b)) ∧ Chg (· = e.N) w w')
    (first | (with_reducible exact S1.out _ (Chg.below HBQ.out).drew) | (with_reducible exact S1.out _ ((Chg.refl _ _).alloc _).drew) | (with_reducible exact S1.out _ HD3.out.chg) | (with_reducible exact S1.out _ HD2.out.chg) | (with_reducible exact S1.out _ (HD3.out.chg.alloc _)))
    (first | (go_at_call_of 55 (Value.int IntKind.i64 a); refine (HNX.out _ HBQ.out.drew).mono ?_; rintro r w2 ⟨cs2, U2, T, C, rfl, hcj, hd2⟩; have HD2 := Lib.hid hd2; clear hcj hd2) | (go_at_call_of 55 (Value.int IntKind.i64 b); refine (HNY.out _ _ _ HD2.out).mono ?_; rintro r w3 ⟨cs3, U3, T3, C3, rfl, hcj, hke, hd2, -⟩; have HD3 := Lib.hid hd2; clear hcj hd2 hke))
  go_wp2
  go_ret
  exact res_new HD3.out _ trivial
end Go.Proofs.Ytincgkolpicipaa.kin
namespace Go.Proofs.Ytincgkolpicipaa.kin
open Go.RowKit
open Go.Proofs.Ytincgkolpicipaa.stack (step_after Chg owns_chg owns_form)
def nilv (_ : TypeId) (_ : Nat) : Value := .nilIface
/-- A node, or none, and which. -/
def MayV (e : Env) (w : World) (cs : Pl) (U : Nat → Prop) (l : List Nat) (f : TypeId → Nat → Value) (r : Ending) (w' : World) : Prop :=
  ∃ (cs' : Pl) (U' : Nat → Prop) (T : TypeId) (C : Nat), r = .returned (f T C) ∧ Done e (Rs e.ns l) w w' cs cs' U U'
set_option maxHeartbeats 2000000 in
theorem maybe_some {e : Env} (hg : Good e.ns) (k : Nat) (hx : Ex e.ns k) (hno : NodeC e k) {w : World} {cs : Pl} {U : Nat → Prop} {l : List Nat} (hf : Free e.ns cs [k]) (ha : Apt e.ns l [k]) (W : World) (cs1 : Pl) (U1 : Nat → Prop) (hd : Done e (Rs e.ns l) w W cs cs1 U U1) :
    Calls Try.prog 105 #[.pointer (some ⟨e.b, 0, none⟩), .int .i64 k] W (MayV e w cs U (l ++ [k]) iv) := by
  have hb := hd.st.base
  have hc0 := hb.c0
  obtain ⟨n, hn, h1, h2⟩ := hx
  obtain ⟨c0, -⟩ := hb.row k n hn
  have hkl : (k : Int) < (e.ns.length : Int) := by have := (List.getElem?_eq_some_iff.1 hn).1; omega
  have t1 : (n.k == 31) = false := by simp; omega
  have HNX := Lib.hid (hno.nx hg.fit hf ha W cs1 U1 hd)
  clear hno hb hg hf ha hd hn h1 h2
  go_enter Try.func105, Try.ntmps105
  go_wp2_with (go_at_call 55; refine HNX.out.mono ?_; rintro r w2 ⟨cs2, U2, T, C, rfl, -, -, hd2, -⟩; have HD2 := Lib.hid hd2; clear hd2)
  go_ret
  exact ⟨cs2, U2, T, C, rfl, HD2.out⟩
set_option maxHeartbeats 2000000 in
theorem maybe_none {e : Env} (hg : Good e.ns) (k : Nat) (hkd : Kd e.ns [31] [k]) {w : World} {cs : Pl} {U : Nat → Prop} {l : List Nat} (hf : Free e.ns cs [k]) (ha : Apt e.ns l [k]) (W : World) (cs1 : Pl) (U1 : Nat → Prop) (hd : Done e (Rs e.ns l) w W cs cs1 U U1) :
    Calls Try.prog 105 #[.pointer (some ⟨e.b, 0, none⟩), .int .i64 k] W (MayV e w cs U (l ++ [k]) nilv) := by
  have hb := hd.st.base
  have hc0 := hb.c0
  obtain ⟨n, hn, hk31⟩ := hkd k (by simp)
  have hk31 : n.k = 31 := by simpa using hk31
  obtain ⟨c0, -⟩ := hb.row k n hn
  rw [hk31] at c0
  have hkl : (k : Int) < (e.ns.length : Int) := by have := (List.getElem?_eq_some_iff.1 hn).1; omega
  have hks : kids e.ns k = [] := by
    have hs := hg.shp k n hn
    generalize kids e.ns k = ks at hs
    cases hs with
    | leaf h => rfl
    | _ => exfalso; omega
  have hx : ¬ Ex e.ns k := by
    rintro ⟨n', h1, h2, h3⟩
    rw [hn] at h1; cases h1; omega
  have HD := Lib.hid (hd.app (Done.upTo hg.fit hn hx (by rw [hks]; exact Done.none hd.st (Below.refl _ _))) ha)
  clear hb hg hf ha hd hn hks hx hk31
  go_enter Try.func105, Try.ntmps105
  go_wp2
  go_ret
  exact ⟨cs1, U1, 0, 0, rfl, HD.out⟩
theorem maybe_v {e : Env} (hg : Good e.ns) (k : Nat) (hk : (Ex e.ns k ∧ NodeC e k) ∨ Kd e.ns [31] [k]) {w : World} {cs : Pl} {U : Nat → Prop} {l : List Nat} (hf : Free e.ns cs [k]) (ha : Apt e.ns l [k]) : ∃ f : TypeId → Nat → Value, (f = iv ∨ f = nilv) ∧ ∀ (W : World) (cs1 : Pl) (U1 : Nat → Prop), Done e (Rs e.ns l) w W cs cs1 U U1 →
    Calls Try.prog 105 #[.pointer (some ⟨e.b, 0, none⟩), .int .i64 k] W (MayV e w cs U (l ++ [k]) f) := by
  rcases hk with ⟨hx, hno⟩ | hkd
  · exact ⟨iv, .inl rfl, fun W cs1 U1 hd => maybe_some hg k hx hno hf ha W cs1 U1 hd⟩
  · exact ⟨nilv, .inr rfl, fun W cs1 U1 hd => maybe_none hg k hkd hf ha W cs1 U1 hd⟩
set_option maxRecDepth 100000 in
set_option maxHeartbeats 4000000 in
theorem slice_a {e : Env} (a b c d : Nat) (w : World) (cs : Pl) (U : Nat → Prop) (p po pc : Nat) (o m z : Int) (t : ByteArray) (S1 : Hid (∀ w', Chg (· = e.N) w w' → (w'.cell? ⟨p, po, none⟩ = some (.int .i64 a) ∧ w'.cell? ⟨p, po + 1, none⟩ = some (.int .i64 b) ∧ w'.cell? ⟨p, po + 2, none⟩ = some (.int .i64 c) ∧ w'.cell? ⟨p, po + 3, none⟩ = some (.int .i64 d)) ∧ Chg (· = e.N) w w')) (HNX : Hid (∀ W, Below w.heap.size w W → Calls Try.prog 55 #[.pointer (some ⟨e.b, 0, none⟩), .int .i64 a] W (fun r w' => ∃ (cs' : Pl) (U' : Nat → Prop) (T : TypeId) (B : Nat), r = .returned (.iface T (.pointer (some ⟨B, 0, none⟩))) ∧ cs' a = some (T, B) ∧ Done e (Rs e.ns [a]) w w' cs cs' U U'))) (HNB : Hid (∀ (W : World) (cs1 : Pl) (U1 : Nat → Prop), Done e (Rs e.ns [a]) w W cs cs1 U U1 → Calls Try.prog 105 #[.pointer (some ⟨e.b, 0, none⟩), .int .i64 b] W (MayV e w cs U ([a] ++ [b]) iv))) (HNC : Hid (∀ (W : World) (cs1 : Pl) (U1 : Nat → Prop), Done e (Rs e.ns [a, b]) w W cs cs1 U U1 → Calls Try.prog 105 #[.pointer (some ⟨e.b, 0, none⟩), .int .i64 c] W (MayV e w cs U ([a, b] ++ [c]) iv))) (HND : Hid (∀ (W : World) (cs1 : Pl) (U1 : Nat → Prop), Done e (Rs e.ns [a, b, c]) w W cs cs1 U U1 → Calls Try.prog 105 #[.pointer (some ⟨e.b, 0, none⟩), .int .i64 d] W (MayV e w cs U ([a, b, c] ++ [d]) iv))) :
    Calls Try.prog 86 #[.pointer (some ⟨e.b, 0, none⟩), .agg #[.int .i64 17, .int .i64 o, .string t, .int .i64 m, .int .i64 z], .slice (some ⟨p, po, none⟩) 4 pc] w (Res e w cs U [a, b, c, d] 130 (fun _ _ _ => True)) := by
  go_enter Try.func86, Try.ntmps86
  go_wp2_with (go_at_call 96; refine (count_ok _ _ _ _ _ _ (by simp) (by simp) _).mono ?_; rintro r w1 ⟨rfl, rfl⟩)
  go_region_held3 (fun w' => (w'.cell? ⟨p, po, none⟩ = some (.int .i64 a) ∧ w'.cell? ⟨p, po + 1, none⟩ = some (.int .i64 b) ∧ w'.cell? ⟨p, po + 2, none⟩ = some (.int .i64 c) ∧ w'.cell? ⟨p, po + 3, none⟩ = some (.int .i64 d)) ∧ Chg (· = e.N) w w')
    (first | (with_reducible exact S1.out _ ((Chg.refl _ _).alloc _).drew) | (with_reducible exact S1.out _ HD5.out.chg) | (with_reducible exact S1.out _ HD4.out.chg) | (with_reducible exact S1.out _ HD3.out.chg) | (with_reducible exact S1.out _ HD2.out.chg) | (with_reducible exact S1.out _ (HD5.out.chg.alloc _)))
    (first | (go_at_call 55; refine (HNX.out _ (((Below.refl _ _).alloc (Nat.le_refl _) _).drew)).mono ?_; rintro r w2 ⟨cs2, U2, T, C, rfl, hcj, hd2⟩; have HD2 := Lib.hid hd2; clear hcj hd2) | (go_at_call_of 105 (Value.int IntKind.i64 b); refine (HNB.out _ _ _ HD2.out).mono ?_; rintro r w3 ⟨cs3, U3, T3, C3, rfl, hd3⟩; (try unfold nilv); have HD3 := Lib.hid hd3; clear hd3) | (go_at_call_of 105 (Value.int IntKind.i64 c); refine (HNC.out _ _ _ HD3.out).mono ?_; rintro r w4 ⟨cs4, U4, T4, C4, rfl, hd4⟩; (try unfold nilv); have HD4 := Lib.hid hd4; clear hd4) | (go_at_call_of 105 (Value.int IntKind.i64 d); refine (HND.out _ _ _ HD4.out).mono ?_; rintro r w5 ⟨cs5, U5, T5, C5, rfl, hd5⟩; (try unfold nilv); have HD5 := Lib.hid hd5; clear hd5))
  go_wp2
  go_ret
  exact res_new HD5.out _ trivial
set_option maxRecDepth 100000 in
set_option maxHeartbeats 4000000 in
theorem slice_b {e : Env} (a b c d : Nat) (w : World) (cs : Pl) (U : Nat → Prop) (p po pc : Nat) (o m z : Int) (t : ByteArray) (S1 : Hid (∀ w', Chg (· = e.N) w w' → (w'.cell? ⟨p, po, none⟩ = some (.int .i64 a) ∧ w'.cell? ⟨p, po + 1, none⟩ = some (.int .i64 b) ∧ w'.cell? ⟨p, po + 2, none⟩ = some (.int .i64 c) ∧ w'.cell? ⟨p, po + 3, none⟩ = some (.int .i64 d)) ∧ Chg (· = e.N) w w')) (HNX : Hid (∀ W, Below w.heap.size w W → Calls Try.prog 55 #[.pointer (some ⟨e.b, 0, none⟩), .int .i64 a] W (fun r w' => ∃ (cs' : Pl) (U' : Nat → Prop) (T : TypeId) (B : Nat), r = .returned (.iface T (.pointer (some ⟨B, 0, none⟩))) ∧ cs' a = some (T, B) ∧ Done e (Rs e.ns [a]) w w' cs cs' U U'))) (HNB : Hid (∀ (W : World) (cs1 : Pl) (U1 : Nat → Prop), Done e (Rs e.ns [a]) w W cs cs1 U U1 → Calls Try.prog 105 #[.pointer (some ⟨e.b, 0, none⟩), .int .i64 b] W (MayV e w cs U ([a] ++ [b]) iv))) (HNC : Hid (∀ (W : World) (cs1 : Pl) (U1 : Nat → Prop), Done e (Rs e.ns [a, b]) w W cs cs1 U U1 → Calls Try.prog 105 #[.pointer (some ⟨e.b, 0, none⟩), .int .i64 c] W (MayV e w cs U ([a, b] ++ [c]) iv))) (HND : Hid (∀ (W : World) (cs1 : Pl) (U1 : Nat → Prop), Done e (Rs e.ns [a, b, c]) w W cs cs1 U U1 → Calls Try.prog 105 #[.pointer (some ⟨e.b, 0, none⟩), .int .i64 d] W (MayV e w cs U ([a, b, c] ++ [d]) nilv))) :
    Calls Try.prog 86 #[.pointer (some ⟨e.b, 0, none⟩), .agg #[.int .i64 17, .int .i64 o, .string t, .int .i64 m, .int .i64 z], .slice (some ⟨p, po, none⟩) 4 pc] w (Res e w cs U [a, b, c, d] 130 (fun _ _ _ => True)) := by
  go_enter Try.func86, Try.ntmps86
  go_wp2_with (go_at_call 96; refine (count_ok _ _ _ _ _ _ (by simp) (by simp) _).mono ?_; rintro r w1 ⟨rfl, rfl⟩)
  go_region_held3 (fun w' => (w'.cell? ⟨p, po, none⟩ = some (.int .i64 a) ∧ w'.cell? ⟨p, po + 1, none⟩ = some (.int .i64 b) ∧ w'.cell? ⟨p, po + 2, none⟩ = some (.int .i64 c) ∧ w'.cell? ⟨p, po + 3, none⟩ = some (.int .i64 d)) ∧ Chg (· = e.N) w w')
    (first | (with_reducible exact S1.out _ ((Chg.refl _ _).alloc _).drew) | (with_reducible exact S1.out _ HD5.out.chg) | (with_reducible exact S1.out _ HD4.out.chg) | (with_reducible exact S1.out _ HD3.out.chg) | (with_reducible exact S1.out _ HD2.out.chg) | (with_reducible exact S1.out _ (HD5.out.chg.alloc _)))
    (first | (go_at_call 55; refine (HNX.out _ (((Below.refl _ _).alloc (Nat.le_refl _) _).drew)).mono ?_; rintro r w2 ⟨cs2, U2, T, C, rfl, hcj, hd2⟩; have HD2 := Lib.hid hd2; clear hcj hd2) | (go_at_call_of 105 (Value.int IntKind.i64 b); refine (HNB.out _ _ _ HD2.out).mono ?_; rintro r w3 ⟨cs3, U3, T3, C3, rfl, hd3⟩; (try unfold nilv); have HD3 := Lib.hid hd3; clear hd3) | (go_at_call_of 105 (Value.int IntKind.i64 c); refine (HNC.out _ _ _ HD3.out).mono ?_; rintro r w4 ⟨cs4, U4, T4, C4, rfl, hd4⟩; (try unfold nilv); have HD4 := Lib.hid hd4; clear hd4) | (go_at_call_of 105 (Value.int IntKind.i64 d); refine (HND.out _ _ _ HD4.out).mono ?_; rintro r w5 ⟨cs5, U5, T5, C5, rfl, hd5⟩; (try unfold nilv); have HD5 := Lib.hid hd5; clear hd5))
  go_wp2
  go_ret
  exact res_new HD5.out _ trivial
set_option maxRecDepth 100000 in
set_option maxHeartbeats 4000000 in
theorem slice_c {e : Env} (a b c d : Nat) (w : World) (cs : Pl) (U : Nat → Prop) (p po pc : Nat) (o m z : Int) (t : ByteArray) (S1 : Hid (∀ w', Chg (· = e.N) w w' → (w'.cell? ⟨p, po, none⟩ = some (.int .i64 a) ∧ w'.cell? ⟨p, po + 1, none⟩ = some (.int .i64 b) ∧ w'.cell? ⟨p, po + 2, none⟩ = some (.int .i64 c) ∧ w'.cell? ⟨p, po + 3, none⟩ = some (.int .i64 d)) ∧ Chg (· = e.N) w w')) (HNX : Hid (∀ W, Below w.heap.size w W → Calls Try.prog 55 #[.pointer (some ⟨e.b, 0, none⟩), .int .i64 a] W (fun r w' => ∃ (cs' : Pl) (U' : Nat → Prop) (T : TypeId) (B : Nat), r = .returned (.iface T (.pointer (some ⟨B, 0, none⟩))) ∧ cs' a = some (T, B) ∧ Done e (Rs e.ns [a]) w w' cs cs' U U'))) (HNB : Hid (∀ (W : World) (cs1 : Pl) (U1 : Nat → Prop), Done e (Rs e.ns [a]) w W cs cs1 U U1 → Calls Try.prog 105 #[.pointer (some ⟨e.b, 0, none⟩), .int .i64 b] W (MayV e w cs U ([a] ++ [b]) iv))) (HNC : Hid (∀ (W : World) (cs1 : Pl) (U1 : Nat → Prop), Done e (Rs e.ns [a, b]) w W cs cs1 U U1 → Calls Try.prog 105 #[.pointer (some ⟨e.b, 0, none⟩), .int .i64 c] W (MayV e w cs U ([a, b] ++ [c]) nilv))) (HND : Hid (∀ (W : World) (cs1 : Pl) (U1 : Nat → Prop), Done e (Rs e.ns [a, b, c]) w W cs cs1 U U1 → Calls Try.prog 105 #[.pointer (some ⟨e.b, 0, none⟩), .int .i64 d] W (MayV e w cs U ([a, b, c] ++ [d]) iv))) :
    Calls Try.prog 86 #[.pointer (some ⟨e.b, 0, none⟩), .agg #[.int .i64 17, .int .i64 o, .string t, .int .i64 m, .int .i64 z], .slice (some ⟨p, po, none⟩) 4 pc] w (Res e w cs U [a, b, c, d] 130 (fun _ _ _ => True)) := by
  go_enter Try.func86, Try.ntmps86
  go_wp2_with (go_at_call 96; refine (count_ok _ _ _ _ _ _ (by simp) (by simp) _).mono ?_; rintro r w1 ⟨rfl, rfl⟩)
  go_region_held3 (fun w' => (w'.cell? ⟨p, po, none⟩ = some (.int .i64 a) ∧ w'.cell? ⟨p, po + 1, none⟩ = some (.int .i64 b) ∧ w'.cell? ⟨p, po + 2, none⟩ = some (.int .i64 c) ∧ w'.cell? ⟨p, po + 3, none⟩ = some (.int .i64 d)) ∧ Chg (· = e.N) w w')
    (first | (with_reducible exact S1.out _ ((Chg.refl _ _).alloc _).drew) | (with_reducible exact S1.out _ HD5.out.chg) | (with_reducible exact S1.out _ HD4.out.chg) | (with_reducible exact S1.out _ HD3.out.chg) | (with_reducible exact S1.out _ HD2.out.chg) | (with_reducible exact S1.out _ (HD5.out.chg.alloc _)))
    (first | (go_at_call 55; refine (HNX.out _ (((Below.refl _ _).alloc (Nat.le_refl _) _).drew)).mono ?_; rintro r w2 ⟨cs2, U2, T, C, rfl, hcj, hd2⟩; have HD2 := Lib.hid hd2; clear hcj hd2) | (go_at_call_of 105 (Value.int IntKind.i64 b); refine (HNB.out _ _ _ HD2.out).mono ?_; rintro r w3 ⟨cs3, U3, T3, C3, rfl, hd3⟩; (try unfold nilv); have HD3 := Lib.hid hd3; clear hd3) | (go_at_call_of 105 (Value.int IntKind.i64 c); refine (HNC.out _ _ _ HD3.out).mono ?_; rintro r w4 ⟨cs4, U4, T4, C4, rfl, hd4⟩; (try unfold nilv); have HD4 := Lib.hid hd4; clear hd4) | (go_at_call_of 105 (Value.int IntKind.i64 d); refine (HND.out _ _ _ HD4.out).mono ?_; rintro r w5 ⟨cs5, U5, T5, C5, rfl, hd5⟩; (try unfold nilv); have HD5 := Lib.hid hd5; clear hd5))
  go_wp2
  go_ret
  exact res_new HD5.out _ trivial
set_option maxRecDepth 100000 in
set_option maxHeartbeats 4000000 in
theorem slice_d {e : Env} (a b c d : Nat) (w : World) (cs : Pl) (U : Nat → Prop) (p po pc : Nat) (o m z : Int) (t : ByteArray) (S1 : Hid (∀ w', Chg (· = e.N) w w' → (w'.cell? ⟨p, po, none⟩ = some (.int .i64 a) ∧ w'.cell? ⟨p, po + 1, none⟩ = some (.int .i64 b) ∧ w'.cell? ⟨p, po + 2, none⟩ = some (.int .i64 c) ∧ w'.cell? ⟨p, po + 3, none⟩ = some (.int .i64 d)) ∧ Chg (· = e.N) w w')) (HNX : Hid (∀ W, Below w.heap.size w W → Calls Try.prog 55 #[.pointer (some ⟨e.b, 0, none⟩), .int .i64 a] W (fun r w' => ∃ (cs' : Pl) (U' : Nat → Prop) (T : TypeId) (B : Nat), r = .returned (.iface T (.pointer (some ⟨B, 0, none⟩))) ∧ cs' a = some (T, B) ∧ Done e (Rs e.ns [a]) w w' cs cs' U U'))) (HNB : Hid (∀ (W : World) (cs1 : Pl) (U1 : Nat → Prop), Done e (Rs e.ns [a]) w W cs cs1 U U1 → Calls Try.prog 105 #[.pointer (some ⟨e.b, 0, none⟩), .int .i64 b] W (MayV e w cs U ([a] ++ [b]) iv))) (HNC : Hid (∀ (W : World) (cs1 : Pl) (U1 : Nat → Prop), Done e (Rs e.ns [a, b]) w W cs cs1 U U1 → Calls Try.prog 105 #[.pointer (some ⟨e.b, 0, none⟩), .int .i64 c] W (MayV e w cs U ([a, b] ++ [c]) nilv))) (HND : Hid (∀ (W : World) (cs1 : Pl) (U1 : Nat → Prop), Done e (Rs e.ns [a, b, c]) w W cs cs1 U U1 → Calls Try.prog 105 #[.pointer (some ⟨e.b, 0, none⟩), .int .i64 d] W (MayV e w cs U ([a, b, c] ++ [d]) nilv))) :
    Calls Try.prog 86 #[.pointer (some ⟨e.b, 0, none⟩), .agg #[.int .i64 17, .int .i64 o, .string t, .int .i64 m, .int .i64 z], .slice (some ⟨p, po, none⟩) 4 pc] w (Res e w cs U [a, b, c, d] 130 (fun _ _ _ => True)) := by
  go_enter Try.func86, Try.ntmps86
  go_wp2_with (go_at_call 96; refine (count_ok _ _ _ _ _ _ (by simp) (by simp) _).mono ?_; rintro r w1 ⟨rfl, rfl⟩)
  go_region_held3 (fun w' => (w'.cell? ⟨p, po, none⟩ = some (.int .i64 a) ∧ w'.cell? ⟨p, po + 1, none⟩ = some (.int .i64 b) ∧ w'.cell? ⟨p, po + 2, none⟩ = some (.int .i64 c) ∧ w'.cell? ⟨p, po + 3, none⟩ = some (.int .i64 d)) ∧ Chg (· = e.N) w w')
    (first | (with_reducible exact S1.out _ ((Chg.refl _ _).alloc _).drew) | (with_reducible exact S1.out _ HD5.out.chg) | (with_reducible exact S1.out _ HD4.out.chg) | (with_reducible exact S1.out _ HD3.out.chg) | (with_reducible exact S1.out _ HD2.out.chg) | (with_reducible exact S1.out _ (HD5.out.chg.alloc _)))
    (first | (go_at_call 55; refine (HNX.out _ (((Below.refl _ _).alloc (Nat.le_refl _) _).drew)).mono ?_; rintro r w2 ⟨cs2, U2, T, C, rfl, hcj, hd2⟩; have HD2 := Lib.hid hd2; clear hcj hd2) | (go_at_call_of 105 (Value.int IntKind.i64 b); refine (HNB.out _ _ _ HD2.out).mono ?_; rintro r w3 ⟨cs3, U3, T3, C3, rfl, hd3⟩; (try unfold nilv); have HD3 := Lib.hid hd3; clear hd3) | (go_at_call_of 105 (Value.int IntKind.i64 c); refine (HNC.out _ _ _ HD3.out).mono ?_; rintro r w4 ⟨cs4, U4, T4, C4, rfl, hd4⟩; (try unfold nilv); have HD4 := Lib.hid hd4; clear hd4) | (go_at_call_of 105 (Value.int IntKind.i64 d); refine (HND.out _ _ _ HD4.out).mono ?_; rintro r w5 ⟨cs5, U5, T5, C5, rfl, hd5⟩; (try unfold nilv); have HD5 := Lib.hid hd5; clear hd5))
  go_wp2
  go_ret
  exact res_new HD5.out _ trivial
set_option maxRecDepth 100000 in
set_option maxHeartbeats 4000000 in
theorem slice_e {e : Env} (a b c d : Nat) (w : World) (cs : Pl) (U : Nat → Prop) (p po pc : Nat) (o m z : Int) (t : ByteArray) (S1 : Hid (∀ w', Chg (· = e.N) w w' → (w'.cell? ⟨p, po, none⟩ = some (.int .i64 a) ∧ w'.cell? ⟨p, po + 1, none⟩ = some (.int .i64 b) ∧ w'.cell? ⟨p, po + 2, none⟩ = some (.int .i64 c) ∧ w'.cell? ⟨p, po + 3, none⟩ = some (.int .i64 d)) ∧ Chg (· = e.N) w w')) (HNX : Hid (∀ W, Below w.heap.size w W → Calls Try.prog 55 #[.pointer (some ⟨e.b, 0, none⟩), .int .i64 a] W (fun r w' => ∃ (cs' : Pl) (U' : Nat → Prop) (T : TypeId) (B : Nat), r = .returned (.iface T (.pointer (some ⟨B, 0, none⟩))) ∧ cs' a = some (T, B) ∧ Done e (Rs e.ns [a]) w w' cs cs' U U'))) (HNB : Hid (∀ (W : World) (cs1 : Pl) (U1 : Nat → Prop), Done e (Rs e.ns [a]) w W cs cs1 U U1 → Calls Try.prog 105 #[.pointer (some ⟨e.b, 0, none⟩), .int .i64 b] W (MayV e w cs U ([a] ++ [b]) nilv))) (HNC : Hid (∀ (W : World) (cs1 : Pl) (U1 : Nat → Prop), Done e (Rs e.ns [a, b]) w W cs cs1 U U1 → Calls Try.prog 105 #[.pointer (some ⟨e.b, 0, none⟩), .int .i64 c] W (MayV e w cs U ([a, b] ++ [c]) iv))) (HND : Hid (∀ (W : World) (cs1 : Pl) (U1 : Nat → Prop), Done e (Rs e.ns [a, b, c]) w W cs cs1 U U1 → Calls Try.prog 105 #[.pointer (some ⟨e.b, 0, none⟩), .int .i64 d] W (MayV e w cs U ([a, b, c] ++ [d]) iv))) :
    Calls Try.prog 86 #[.pointer (some ⟨e.b, 0, none⟩), .agg #[.int .i64 17, .int .i64 o, .string t, .int .i64 m, .int .i64 z], .slice (some ⟨p, po, none⟩) 4 pc] w (Res e w cs U [a, b, c, d] 130 (fun _ _ _ => True)) := by
  go_enter Try.func86, Try.ntmps86
  go_wp2_with (go_at_call 96; refine (count_ok _ _ _ _ _ _ (by simp) (by simp) _).mono ?_; rintro r w1 ⟨rfl, rfl⟩)
  go_region_held3 (fun w' => (w'.cell? ⟨p, po, none⟩ = some (.int .i64 a) ∧ w'.cell? ⟨p, po + 1, none⟩ = some (.int .i64 b) ∧ w'.cell? ⟨p, po + 2, none⟩ = some (.int .i64 c) ∧ w'.cell? ⟨p, po + 3, none⟩ = some (.int .i64 d)) ∧ Chg (· = e.N) w w')
    (first | (with_reducible exact S1.out _ ((Chg.refl _ _).alloc _).drew) | (with_reducible exact S1.out _ HD5.out.chg) | (with_reducible exact S1.out _ HD4.out.chg) | (with_reducible exact S1.out _ HD3.out.chg) | (with_reducible exact S1.out _ HD2.out.chg) | (with_reducible exact S1.out _ (HD5.out.chg.alloc _)))
    (first | (go_at_call 55; refine (HNX.out _ (((Below.refl _ _).alloc (Nat.le_refl _) _).drew)).mono ?_; rintro r w2 ⟨cs2, U2, T, C, rfl, hcj, hd2⟩; have HD2 := Lib.hid hd2; clear hcj hd2) | (go_at_call_of 105 (Value.int IntKind.i64 b); refine (HNB.out _ _ _ HD2.out).mono ?_; rintro r w3 ⟨cs3, U3, T3, C3, rfl, hd3⟩; (try unfold nilv); have HD3 := Lib.hid hd3; clear hd3) | (go_at_call_of 105 (Value.int IntKind.i64 c); refine (HNC.out _ _ _ HD3.out).mono ?_; rintro r w4 ⟨cs4, U4, T4, C4, rfl, hd4⟩; (try unfold nilv); have HD4 := Lib.hid hd4; clear hd4) | (go_at_call_of 105 (Value.int IntKind.i64 d); refine (HND.out _ _ _ HD4.out).mono ?_; rintro r w5 ⟨cs5, U5, T5, C5, rfl, hd5⟩; (try unfold nilv); have HD5 := Lib.hid hd5; clear hd5))
  go_wp2
  go_ret
  exact res_new HD5.out _ trivial
set_option maxRecDepth 100000 in
set_option maxHeartbeats 4000000 in
theorem slice_f {e : Env} (a b c d : Nat) (w : World) (cs : Pl) (U : Nat → Prop) (p po pc : Nat) (o m z : Int) (t : ByteArray) (S1 : Hid (∀ w', Chg (· = e.N) w w' → (w'.cell? ⟨p, po, none⟩ = some (.int .i64 a) ∧ w'.cell? ⟨p, po + 1, none⟩ = some (.int .i64 b) ∧ w'.cell? ⟨p, po + 2, none⟩ = some (.int .i64 c) ∧ w'.cell? ⟨p, po + 3, none⟩ = some (.int .i64 d)) ∧ Chg (· = e.N) w w')) (HNX : Hid (∀ W, Below w.heap.size w W → Calls Try.prog 55 #[.pointer (some ⟨e.b, 0, none⟩), .int .i64 a] W (fun r w' => ∃ (cs' : Pl) (U' : Nat → Prop) (T : TypeId) (B : Nat), r = .returned (.iface T (.pointer (some ⟨B, 0, none⟩))) ∧ cs' a = some (T, B) ∧ Done e (Rs e.ns [a]) w w' cs cs' U U'))) (HNB : Hid (∀ (W : World) (cs1 : Pl) (U1 : Nat → Prop), Done e (Rs e.ns [a]) w W cs cs1 U U1 → Calls Try.prog 105 #[.pointer (some ⟨e.b, 0, none⟩), .int .i64 b] W (MayV e w cs U ([a] ++ [b]) nilv))) (HNC : Hid (∀ (W : World) (cs1 : Pl) (U1 : Nat → Prop), Done e (Rs e.ns [a, b]) w W cs cs1 U U1 → Calls Try.prog 105 #[.pointer (some ⟨e.b, 0, none⟩), .int .i64 c] W (MayV e w cs U ([a, b] ++ [c]) iv))) (HND : Hid (∀ (W : World) (cs1 : Pl) (U1 : Nat → Prop), Done e (Rs e.ns [a, b, c]) w W cs cs1 U U1 → Calls Try.prog 105 #[.pointer (some ⟨e.b, 0, none⟩), .int .i64 d] W (MayV e w cs U ([a, b, c] ++ [d]) nilv))) :
    Calls Try.prog 86 #[.pointer (some ⟨e.b, 0, none⟩), .agg #[.int .i64 17, .int .i64 o, .string t, .int .i64 m, .int .i64 z], .slice (some ⟨p, po, none⟩) 4 pc] w (Res e w cs U [a, b, c, d] 130 (fun _ _ _ => True)) := by
  go_enter Try.func86, Try.ntmps86
  go_wp2_with (go_at_call 96; refine (count_ok _ _ _ _ _ _ (by simp) (by simp) _).mono ?_; rintro r w1 ⟨rfl, rfl⟩)
  go_region_held3 (fun w' => (w'.cell? ⟨p, po, none⟩ = some (.int .i64 a) ∧ w'.cell? ⟨p, po + 1, none⟩ = some (.int .i64 b) ∧ w'.cell? ⟨p, po + 2, none⟩ = some (.int .i64 c) ∧ w'.cell? ⟨p, po + 3, none⟩ = some (.int .i64 d)) ∧ Chg (· = e.N) w w')
    (first | (with_reducible exact S1.out _ ((Chg.refl _ _).alloc _).drew) | (with_reducible exact S1.out _ HD5.out.chg) | (with_reducible exact S1.out _ HD4.out.chg) | (with_reducible exact S1.out _ HD3.out.chg) | (with_reducible exact S1.out _ HD2.out.chg) | (with_reducible exact S1.out _ (HD5.out.chg.alloc _)))
    (first | (go_at_call 55; refine (HNX.out _ (((Below.refl _ _).alloc (Nat.le_refl _) _).drew)).mono ?_; rintro r w2 ⟨cs2, U2, T, C, rfl, hcj, hd2⟩; have HD2 := Lib.hid hd2; clear hcj hd2) | (go_at_call_of 105 (Value.int IntKind.i64 b); refine (HNB.out _ _ _ HD2.out).mono ?_; rintro r w3 ⟨cs3, U3, T3, C3, rfl, hd3⟩; (try unfold nilv); have HD3 := Lib.hid hd3; clear hd3) | (go_at_call_of 105 (Value.int IntKind.i64 c); refine (HNC.out _ _ _ HD3.out).mono ?_; rintro r w4 ⟨cs4, U4, T4, C4, rfl, hd4⟩; (try unfold nilv); have HD4 := Lib.hid hd4; clear hd4) | (go_at_call_of 105 (Value.int IntKind.i64 d); refine (HND.out _ _ _ HD4.out).mono ?_; rintro r w5 ⟨cs5, U5, T5, C5, rfl, hd5⟩; (try unfold nilv); have HD5 := Lib.hid hd5; clear hd5))
  go_wp2
  go_ret
  exact res_new HD5.out _ trivial
set_option maxRecDepth 100000 in
set_option maxHeartbeats 4000000 in
theorem slice_g {e : Env} (a b c d : Nat) (w : World) (cs : Pl) (U : Nat → Prop) (p po pc : Nat) (o m z : Int) (t : ByteArray) (S1 : Hid (∀ w', Chg (· = e.N) w w' → (w'.cell? ⟨p, po, none⟩ = some (.int .i64 a) ∧ w'.cell? ⟨p, po + 1, none⟩ = some (.int .i64 b) ∧ w'.cell? ⟨p, po + 2, none⟩ = some (.int .i64 c) ∧ w'.cell? ⟨p, po + 3, none⟩ = some (.int .i64 d)) ∧ Chg (· = e.N) w w')) (HNX : Hid (∀ W, Below w.heap.size w W → Calls Try.prog 55 #[.pointer (some ⟨e.b, 0, none⟩), .int .i64 a] W (fun r w' => ∃ (cs' : Pl) (U' : Nat → Prop) (T : TypeId) (B : Nat), r = .returned (.iface T (.pointer (some ⟨B, 0, none⟩))) ∧ cs' a = some (T, B) ∧ Done e (Rs e.ns [a]) w w' cs cs' U U'))) (HNB : Hid (∀ (W : World) (cs1 : Pl) (U1 : Nat → Prop), Done e (Rs e.ns [a]) w W cs cs1 U U1 → Calls Try.prog 105 #[.pointer (some ⟨e.b, 0, none⟩), .int .i64 b] W (MayV e w cs U ([a] ++ [b]) nilv))) (HNC : Hid (∀ (W : World) (cs1 : Pl) (U1 : Nat → Prop), Done e (Rs e.ns [a, b]) w W cs cs1 U U1 → Calls Try.prog 105 #[.pointer (some ⟨e.b, 0, none⟩), .int .i64 c] W (MayV e w cs U ([a, b] ++ [c]) nilv))) (HND : Hid (∀ (W : World) (cs1 : Pl) (U1 : Nat → Prop), Done e (Rs e.ns [a, b, c]) w W cs cs1 U U1 → Calls Try.prog 105 #[.pointer (some ⟨e.b, 0, none⟩), .int .i64 d] W (MayV e w cs U ([a, b, c] ++ [d]) iv))) :
    Calls Try.prog 86 #[.pointer (some ⟨e.b, 0, none⟩), .agg #[.int .i64 17, .int .i64 o, .string t, .int .i64 m, .int .i64 z], .slice (some ⟨p, po, none⟩) 4 pc] w (Res e w cs U [a, b, c, d] 130 (fun _ _ _ => True)) := by
  go_enter Try.func86, Try.ntmps86
  go_wp2_with (go_at_call 96; refine (count_ok _ _ _ _ _ _ (by simp) (by simp) _).mono ?_; rintro r w1 ⟨rfl, rfl⟩)
  go_region_held3 (fun w' => (w'.cell? ⟨p, po, none⟩ = some (.int .i64 a) ∧ w'.cell? ⟨p, po + 1, none⟩ = some (.int .i64 b) ∧ w'.cell? ⟨p, po + 2, none⟩ = some (.int .i64 c) ∧ w'.cell? ⟨p, po + 3, none⟩ = some (.int .i64 d)) ∧ Chg (· = e.N) w w')
    (first | (with_reducible exact S1.out _ ((Chg.refl _ _).alloc _).drew) | (with_reducible exact S1.out _ HD5.out.chg) | (with_reducible exact S1.out _ HD4.out.chg) | (with_reducible exact S1.out _ HD3.out.chg) | (with_reducible exact S1.out _ HD2.out.chg) | (with_reducible exact S1.out _ (HD5.out.chg.alloc _)))
    (first | (go_at_call 55; refine (HNX.out _ (((Below.refl _ _).alloc (Nat.le_refl _) _).drew)).mono ?_; rintro r w2 ⟨cs2, U2, T, C, rfl, hcj, hd2⟩; have HD2 := Lib.hid hd2; clear hcj hd2) | (go_at_call_of 105 (Value.int IntKind.i64 b); refine (HNB.out _ _ _ HD2.out).mono ?_; rintro r w3 ⟨cs3, U3, T3, C3, rfl, hd3⟩; (try unfold nilv); have HD3 := Lib.hid hd3; clear hd3) | (go_at_call_of 105 (Value.int IntKind.i64 c); refine (HNC.out _ _ _ HD3.out).mono ?_; rintro r w4 ⟨cs4, U4, T4, C4, rfl, hd4⟩; (try unfold nilv); have HD4 := Lib.hid hd4; clear hd4) | (go_at_call_of 105 (Value.int IntKind.i64 d); refine (HND.out _ _ _ HD4.out).mono ?_; rintro r w5 ⟨cs5, U5, T5, C5, rfl, hd5⟩; (try unfold nilv); have HD5 := Lib.hid hd5; clear hd5))
  go_wp2
  go_ret
  exact res_new HD5.out _ trivial
set_option maxRecDepth 100000 in
set_option maxHeartbeats 4000000 in
theorem slice_h {e : Env} (a b c d : Nat) (w : World) (cs : Pl) (U : Nat → Prop) (p po pc : Nat) (o m z : Int) (t : ByteArray) (S1 : Hid (∀ w', Chg (· = e.N) w w' → (w'.cell? ⟨p, po, none⟩ = some (.int .i64 a) ∧ w'.cell? ⟨p, po + 1, none⟩ = some (.int .i64 b) ∧ w'.cell? ⟨p, po + 2, none⟩ = some (.int .i64 c) ∧ w'.cell? ⟨p, po + 3, none⟩ = some (.int .i64 d)) ∧ Chg (· = e.N) w w')) (HNX : Hid (∀ W, Below w.heap.size w W → Calls Try.prog 55 #[.pointer (some ⟨e.b, 0, none⟩), .int .i64 a] W (fun r w' => ∃ (cs' : Pl) (U' : Nat → Prop) (T : TypeId) (B : Nat), r = .returned (.iface T (.pointer (some ⟨B, 0, none⟩))) ∧ cs' a = some (T, B) ∧ Done e (Rs e.ns [a]) w w' cs cs' U U'))) (HNB : Hid (∀ (W : World) (cs1 : Pl) (U1 : Nat → Prop), Done e (Rs e.ns [a]) w W cs cs1 U U1 → Calls Try.prog 105 #[.pointer (some ⟨e.b, 0, none⟩), .int .i64 b] W (MayV e w cs U ([a] ++ [b]) nilv))) (HNC : Hid (∀ (W : World) (cs1 : Pl) (U1 : Nat → Prop), Done e (Rs e.ns [a, b]) w W cs cs1 U U1 → Calls Try.prog 105 #[.pointer (some ⟨e.b, 0, none⟩), .int .i64 c] W (MayV e w cs U ([a, b] ++ [c]) nilv))) (HND : Hid (∀ (W : World) (cs1 : Pl) (U1 : Nat → Prop), Done e (Rs e.ns [a, b, c]) w W cs cs1 U U1 → Calls Try.prog 105 #[.pointer (some ⟨e.b, 0, none⟩), .int .i64 d] W (MayV e w cs U ([a, b, c] ++ [d]) nilv))) :
    Calls Try.prog 86 #[.pointer (some ⟨e.b, 0, none⟩), .agg #[.int .i64 17, .int .i64 o, .string t, .int .i64 m, .int .i64 z], .slice (some ⟨p, po, none⟩) 4 pc] w (Res e w cs U [a, b, c, d] 130 (fun _ _ _ => True)) := by
  go_enter Try.func86, Try.ntmps86
  go_wp2_with (go_at_call 96; refine (count_ok _ _ _ _ _ _ (by simp) (by simp) _).mono ?_; rintro r w1 ⟨rfl, rfl⟩)
  go_region_held3 (fun w' => (w'.cell? ⟨p, po, none⟩ = some (.int .i64 a) ∧ w'.cell? ⟨p, po + 1, none⟩ = some (.int .i64 b) ∧ w'.cell? ⟨p, po + 2, none⟩ = some (.int .i64 c) ∧ w'.cell? ⟨p, po + 3, none⟩ = some (.int .i64 d)) ∧ Chg (· = e.N) w w')
    (first | (with_reducible exact S1.out _ ((Chg.refl _ _).alloc _).drew) | (with_reducible exact S1.out _ HD5.out.chg) | (with_reducible exact S1.out _ HD4.out.chg) | (with_reducible exact S1.out _ HD3.out.chg) | (with_reducible exact S1.out _ HD2.out.chg) | (with_reducible exact S1.out _ (HD5.out.chg.alloc _)))
    (first | (go_at_call 55; refine (HNX.out _ (((Below.refl _ _).alloc (Nat.le_refl _) _).drew)).mono ?_; rintro r w2 ⟨cs2, U2, T, C, rfl, hcj, hd2⟩; have HD2 := Lib.hid hd2; clear hcj hd2) | (go_at_call_of 105 (Value.int IntKind.i64 b); refine (HNB.out _ _ _ HD2.out).mono ?_; rintro r w3 ⟨cs3, U3, T3, C3, rfl, hd3⟩; (try unfold nilv); have HD3 := Lib.hid hd3; clear hd3) | (go_at_call_of 105 (Value.int IntKind.i64 c); refine (HNC.out _ _ _ HD3.out).mono ?_; rintro r w4 ⟨cs4, U4, T4, C4, rfl, hd4⟩; (try unfold nilv); have HD4 := Lib.hid hd4; clear hd4) | (go_at_call_of 105 (Value.int IntKind.i64 d); refine (HND.out _ _ _ HD4.out).mono ?_; rintro r w5 ⟨cs5, U5, T5, C5, rfl, hd5⟩; (try unfold nilv); have HD5 := Lib.hid hd5; clear hd5))
  go_wp2
  go_ret
  exact res_new HD5.out _ trivial
set_option maxRecDepth 100000 in
set_option maxHeartbeats 4000000 in
theorem sugar_slice {e : Env} (hg : Good e.ns) (a b c d : Nat) (hna : NodeC e a) (hb : (Ex e.ns b ∧ NodeC e b) ∨ Kd e.ns [31] [b]) (hc : (Ex e.ns c ∧ NodeC e c) ∨ Kd e.ns [31] [c]) (hd : (Ex e.ns d ∧ NodeC e d) ∨ Kd e.ns [31] [d]) (hs : Sep e.ns [a, b, c, d]) (w : World) (cs : Pl) (U : Nat → Prop) (hst : St e w cs U) (hfr : Free e.ns cs [a, b, c, d]) (B : Nat) (hB : e.N < B) (v : Value) (hp : Plc B w v [a, b, c, d]) (o m z : Int) (t : ByteArray) :
    Calls Try.prog 86 #[.pointer (some ⟨e.b, 0, none⟩), .agg #[.int .i64 17, .int .i64 o, .string t, .int .i64 m, .int .i64 z], v] w (Res e w cs U [a, b, c, d] 130 (fun _ _ _ => True)) := by
  obtain ⟨p, po, pc, rfl, -, -, hBp, -, cx⟩ := hp.at (j := 0) (k := a) rfl
  have hcell : ∀ (j k : Nat), [a, b, c, d][j]? = some k → w.cell? ⟨p, po + j, none⟩ = some (.int .i64 k) := fun j k hj => by
    obtain ⟨q, qo, h1, -, -, h2⟩ := hp.here hj
    injection h1 with h1
    cases h1
    exact h2
  have cy := hcell 1 b rfl
  have cz := hcell 2 c rfl
  have cu := hcell 3 d rfl
  rw [Nat.add_zero] at cx
  have hpN : p ≠ e.N := by omega
  have hapb : Apt e.ns [a] [b] := ((show Sep e.ns ([a] ++ [b, c, d]) from hs).app.2.2).sub (fun _ h => h) (fun x hx => by rw [List.mem_singleton] at hx; simp [hx])
  have hapc : Apt e.ns [a, b] [c] := ((show Sep e.ns ([a, b] ++ [c, d]) from hs).app.2.2).sub (fun _ h => h) (fun x hx => by rw [List.mem_singleton] at hx; simp [hx])
  have hapd : Apt e.ns [a, b, c] [d] := (show Sep e.ns ([a, b, c] ++ [d]) from hs).app.2.2
  have S1 := Lib.hid (show ∀ w', Chg (· = e.N) w w' → (w'.cell? ⟨p, po, none⟩ = some (.int .i64 a) ∧ w'.cell? ⟨p, po + 1, none⟩ = some (.int .i64 b) ∧ w'.cell? ⟨p, po + 2, none⟩ = some (.int .i64 c) ∧ w'.cell? ⟨p, po + 3, none⟩ = some (.int .i64 d)) ∧ Chg (· = e.N) w w' from fun w' hc => ⟨⟨hc.cell cx hpN, hc.cell cy hpN, hc.cell cz hpN, hc.cell cu hpN⟩, hc⟩)
  have HNX := Lib.hid (fun W (hb : Below w.heap.size w W) => hna.first hg.fit hst (hfr.sub fun x hx => by rw [List.mem_singleton] at hx; simp [hx]) W hb)
  obtain ⟨vb, hvb, hcb⟩ := maybe_v (w := w) (U := U) (l := [a]) hg b hb (hfr.sub fun x hx => by rw [List.mem_singleton] at hx; simp [hx]) hapb
  have HNB := Lib.hid hcb
  obtain ⟨vc, hvc, hcc⟩ := maybe_v (w := w) (U := U) (l := [a, b]) hg c hc (hfr.sub fun x hx => by rw [List.mem_singleton] at hx; simp [hx]) hapc
  have HNC := Lib.hid hcc
  obtain ⟨vd, hvd, hcd⟩ := maybe_v (w := w) (U := U) (l := [a, b, c]) hg d hd (hfr.sub fun x hx => by rw [List.mem_singleton] at hx; simp [hx]) hapd
  have HND := Lib.hid hcd
  clear hp hna hb hc hd hst hfr hg cx cy cz cu hs hB hBp hcell hapb hapc hapd hcb hcc hcd
  rcases hvb with rfl | rfl <;> rcases hvc with rfl | rfl <;> rcases hvd with rfl | rfl
  · exact slice_a a b c d w cs U p po _ o m z t S1 HNX HNB HNC HND
  · exact slice_b a b c d w cs U p po _ o m z t S1 HNX HNB HNC HND
  · exact slice_c a b c d w cs U p po _ o m z t S1 HNX HNB HNC HND
  · exact slice_d a b c d w cs U p po _ o m z t S1 HNX HNB HNC HND
  · exact slice_e a b c d w cs U p po _ o m z t S1 HNX HNB HNC HND
  · exact slice_f a b c d w cs U p po _ o m z t S1 HNX HNB HNC HND
  · exact slice_g a b c d w cs U p po _ o m z t S1 HNX HNB HNC HND
  · exact slice_h a b c d w cs U p po _ o m z t S1 HNX HNB HNC HND
end Go.Proofs.Ytincgkolpicipaa.kin
