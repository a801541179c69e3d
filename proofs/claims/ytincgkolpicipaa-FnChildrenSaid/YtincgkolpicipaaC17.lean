/- FnChildren: impl.kin, impl.Children by contract; spec.bare by contract, the rest. -/
import Derived.Test.YtincgkolpicipaaC05
import Derived.Test.YtincgkolpicipaaC16
import Derived.LaidEql
set_option linter.unusedVariables false
set_option linter.unusedSimpArgs false
namespace Go.Proofs.Ytincgkolpicipaa.kin
open Go.RowKit
open Go.Proofs.Ytincgkolpicipaa.stack (step_after Chg owns_chg owns_form)
/-- A node's children, told by package parser; where the nodes of the tree are. -/
def KidsR (ns : List Nd) (a : Nat) (w : World) (r : Ending) (w' : World) : Prop :=
  (∃ (v : Value) (ps : List Nat), r = .returned v ∧ ps.Perm (inner ns a) ∧ Plc w.heap.size w' v ps) ∧ Below w.heap.size w w'
/-- What a pointer points to. -/
def ptrOf : TypeDesc → Option TypeId
  | .pointer te => some te
  | _ => none
/-- A type of nodes is one of pointers to something. -/
theorem nts_ok : nts.all (fun T => ((Try.prog.underlying T).bind ptrOf).any fun te => ((Try.prog.info? T).any fun i => i.comparable) && ((Try.prog.info? te).any fun j => !(j.size == 0))) = true := by kernel_rfl
theorem nt_info {T : TypeId} (h : NT T) : ∃ te i j, Try.prog.underlying T = some (.pointer te) ∧ Try.prog.info? T = some i ∧ i.comparable = true ∧ Try.prog.info? te = some j ∧ j.size ≠ 0 := by
  have h1 := List.all_eq_true.1 nts_ok T h
  cases hu : Try.prog.underlying T with
  | none => rw [hu] at h1; cases h1
  | some d =>
    rw [hu] at h1
    cases d with
    | pointer te =>
      cases hi : Try.prog.info? T with
      | none => rw [hi] at h1; cases h1
      | some i =>
        cases hj : Try.prog.info? te with
        | none => rw [hi] at h1; simp [ptrOf, hj] at h1
        | some j =>
          rw [hi] at h1
          simp [ptrOf, hj] at h1
          exact ⟨te, i, j, rfl, rfl, h1.1, hj, h1.2⟩
    | _ => cases h1
theorem eq_same {T : TypeId} (C : Nat) (W : World) (h : NT T) : (binOp .eql 65 (.iface T (.pointer (some ⟨C, 0, none⟩))) (iv T C)).run Try.prog W = .ok (.bool true) W := by
  obtain ⟨te, i, j, h1, h2, h3, h4, -⟩ := nt_info h
  exact run_eql_iface_ptr_same W ⟨C, 0, none⟩ Try.underlying65 h1 h2 h3 h4
theorem eq_other {T T' : TypeId} {C C' : Nat} {W : World} (h : NT T) (hb : Blk W C) (hb' : Blk W C') (hne : ¬ C = C') : (binOp .eql 65 (.iface T (.pointer (some ⟨C, 0, none⟩))) (iv T' C')).run Try.prog W = .ok (.bool false) W := by
  by_cases ht : T = T'
  · subst ht
    obtain ⟨te, i, j, h1, h2, h3, h4, h5⟩ := nt_info h
    obtain ⟨a1, E1, k1⟩ := hb
    obtain ⟨a2, E2, k2⟩ := hb'
    exact run_eql_iface_ptr_other W Try.underlying65 h1 h2 h3 h4 h5 (fun hx => hne (by injection hx)) k1 k2
  · have h1 : ∀ d : Nat, (Op.equalIn (d + 1) 65 (.iface T (.pointer (some ⟨C, 0, none⟩))) (iv T' C')).run Try.prog W = .ok false W := fun d => by simp [Op.equalIn, run_underlying Try.underlying65, ht]
    simp only [binOp]
    simp [Op.equal, Op.maxDepth, h1 9999]
set_option maxRecDepth 100000 in
set_option maxHeartbeats 4000000 in
theorem kin_does (q o cap : Nat) (ns : List Nd) (hL : ns.length ≤ 400) (hg : Good ns) (hx : Ex ns 0) (h0 : ∃ n, ns[0]? = some n ∧ n.z = (ns.length : Int)) (a : Nat) (n : Nd) (hn : ns[a]? = some n) (ha : InS ns a) (w : World) (hrow : Row w q o ns) :
    Calls Try.prog 35 #[.slice (some ⟨q, o, none⟩) ns.length cap, .int .i64 a, .func (Fn.func 36) #[] #[]] w (KidsR ns a w) := by
  obtain ⟨i0, hi1, hi2, hi3, hi4⟩ := info_parts Try.info3
  have HI := Lib.hid (And.intro hi1 (And.intro hi2 (And.intro hi3 hi4)))
  have HGR := Lib.hid (grown_does q o cap ns hL hg hx h0 w hrow)
  have hal := (List.getElem?_eq_some_iff.1 hn).1
  have hex : Ex ns a := by
    obtain ⟨n', h1, h2⟩ := ha.1
    refine ⟨n', h1, ?_, ?_⟩ <;> (unfold scope at h2; omega)
  have hnin := inner_len hg.fit hn
  have HIN := Lib.hid (show ∀ p ∈ inner ns a, p < ns.length from fun p hp => by
    obtain ⟨np, h1, -⟩ := (inner_mem hg.fit (sz ns a) a n hn (Nat.le_refl _) p hp).2.2.2
    exact (List.getElem?_eq_some_iff.1 h1).1)
  -- what is known behind grown
  have HG2 := Lib.hid (show ∀ r w1, GrownR w ns r w1 → ∃ (e : Env) (cs : Pl) (U : Nat → Prop) (T : TypeId) (C : Nat) (ps : List Nat), e.ns = ns ∧ r = .returned (.tuple #[.slice (some ⟨e.N, 0, none⟩) ns.length ns.length, .bool true]) ∧ St e w1 cs U ∧ Below w.heap.size w w1 ∧ w1.cell? ⟨e.N, a, none⟩ = some (iv T C) ∧ ps.Perm (inner ns a) ∧ (∀ p ∈ ps, cs p ≠ none) ∧ Calls Try.prog 36 #[iv T C] w1 (Lists w1 (ps.map fun p => cv (cs p))) from fun r w1 ⟨e, cs, U, h1, h2, hst, h4, h5⟩ => by
    obtain ⟨⟨T, C⟩, hcb⟩ := Option.ne_none_iff_exists'.1 (h4 a hex)
    have hgood := hst.good a _ hcb
    rw [h1] at hgood
    obtain ⟨ps, hp1, hp2, hp3⟩ := hgood ha
    obtain ⟨arr, ha1, ha2, ha3⟩ := hst.places
    have hc := (row_facts ha1).1 a
    rw [ha3 a (by rw [h1]; exact hal), hcb] at hc
    refine ⟨e, cs, U, T, C, ps, h1, h2, hst, h5, hc, hp1, hp2, children_any hp3 fun x hx => ?_⟩
    obtain ⟨p, hp, rfl⟩ := List.mem_map.1 hx
    obtain ⟨⟨T2, C2⟩, hc2⟩ := Option.ne_none_iff_exists'.1 (hp2 p hp)
    exact ⟨T2, C2, by rw [hc2]; rfl⟩)
  have t1 : decide ((a : Int) < 0) = false := decide_eq_false (by omega)
  have t2 : decide ((ns.length : Int) ≤ (a : Int)) = false := decide_eq_false (by omega)
  have t3 : (a : Int) < (ns.length : Int) := by omega
  have HNL := Lib.hid hnin
  clear hi1 hi2 hi3 hi4 hg hx h0 hn ha hrow hex hnin hal
  generalize hm : ns.length = m at hL t2 t3 HGR HG2 HNL HIN ⊢
  have HM := Lib.hid hm
  clear hm
  go_enter Try.func35, Try.ntmps35
  go_wp2_with (first | (go_at_call 61; refine HGR.out.mono ?_; rintro r w1 hgr; obtain ⟨e, cs, U, T, C, ps, he, rfl, hst, hb, hc, hp1, hp2, hch⟩ := HG2.out r w1 hgr; have HST := Lib.hid hst; have HB := Lib.hid hb; have HP := Lib.hid (And.intro hp1 hp2); have HCH := Lib.hid hch; have HE := Lib.hid he; clear hst hb hp1 hp2 hch hgr he) | (go_at_call 36; refine HCH.out.mono ?_; rintro r w2 ⟨A2, c2, rfl, hown, hb2⟩; have HOW := Lib.hid hown; have HB2 := Lib.hid hb2; clear hown hb2))
  have hpl : ps.length ≤ 400 := by have h1 := HP.out.1.length_eq; have h2 := HNL.out; omega
  rw [List.length_map] at HOW
  clear hc
  go_loopw [9, 44] (fun v i wr => ∃ (k : Nat) (l : List Nat), k ≤ ps.length ∧ i = .int .i64 k ∧ Hid (l = ps.take k) ∧ Hid (Below w2.heap.size w2 wr) ∧ ∃ A3 c3, v = .slice A3 l.length c3 ∧ Hid (wr.ownsRow w2.heap.size 3 1 (.slice A3 l.length c3) l.length (l.map pv))) (fun _ i _ => ps.length - (intOf i).toNat)
  case atStart => exact ⟨0, [], Nat.zero_le _, rfl, Lib.hid (by simp), Lib.hid (Below.refl _ _), none, 0, rfl, Lib.hid (World.ownsRow_nil _ _ _ _)⟩
  case round =>
    obtain ⟨k, l, hk, rfl, HLL, HBW, A3, c3, rfl, HOR⟩ := hrel
    by_cases hlt : k < ps.length
    · obtain ⟨p, hp⟩ := getElem?_lt hlt
      have hpm := List.mem_of_getElem? hp
      obtain ⟨⟨Tp, Cp⟩, hcp⟩ := Option.ne_none_iff_exists'.1 (HP.out.2 p hpm)
      have hpi := HIN.out p (HP.out.1.mem_iff.1 hpm)
      have hki : (k : Int) < (ps.length : Int) := by omega
      obtain ⟨g, hA2, hcell⟩ : ∃ g, A2 = some ⟨g, 0, none⟩ ∧ w2.cell? ⟨g, k, none⟩ = some (iv Tp Cp) := by
        rcases HOW.out.2 with ⟨h1, h2⟩ | ⟨g, cap', cur, h1, -⟩
        · omega
        · injection h1 with h1
          subst h1
          refine ⟨g, rfl, ?_⟩
          rw [HOW.out.cellAt k (by omega), List.getElem?_map, hp]
          simp [hcp, cv]
      subst hA2
      have cx := cell_later HBW.out hcell
      have HLS := Lib.hid (show l ++ [p] = ps.take (k + 1) by rw [HLL.out, List.take_add_one, hp]; rfl)
      have HCP := Lib.hid hcp
      have hll : l.length ≤ 400 := by rw [HLL.out, List.length_take]; omega
      clear hcell hp hpm hcp
      rename World => wo
      go_wp2_with fail
      go_loopw [9, 50] (fun v i wr => ∃ (j : Nat) (l' : List Nat), j ≤ m ∧ i = .int .i64 j ∧ Hid (l' = l ++ if p < j then [p] else []) ∧ Hid (Below w2.heap.size w2 wr) ∧ ∃ A4 c4, v = .slice A4 l'.length c4 ∧ Hid (wr.ownsRow w2.heap.size 3 1 (.slice A4 l'.length c4) l'.length (l'.map pv))) (fun _ i _ => m - (intOf i).toNat)
      case atStart => exact ⟨0, l, Nat.zero_le _, rfl, Lib.hid (by simp), HBW, A3, c3, rfl, HOR⟩
      case round =>
        obtain ⟨j, l', hj, rfl, HL2, HBJ, A4, c4, rfl, HOJ⟩ := hrel
        by_cases hjt : j < m
        · have hji : (j : Int) < (m : Int) := by omega
          have hcj : wr.cell? ⟨e.N, j, none⟩ = some (cv (cs j)) := by
            obtain ⟨arr, h1, h2, h3⟩ := HST.out.places
            refine cell_later HBJ.out (cell_later HB2.out ?_)
            rw [(row_facts h1).1 j]
            exact h3 j (by rw [HE.out, HM.out]; exact hjt)
          by_cases hjp : j = p
          · subst hjp
            rw [HCP.out] at hcj
            simp only [cv] at hcj
            have hl2 : l' = l := by rw [HL2.out]; simp
            subst hl2
            have heq := eq_same Cp wr (HST.out.shp j _ HCP.out).1
            go_wp2_with (at_builtin; refine wpList_append_own_at (hgd := rfl) (s := _) (x := _) (t := 24) (ho := rfl) (base := w2.heap.size) (e := 3) (i := i0) (z := .int .i64 0) (size := 1) (bytes := 8) (ht := Try.underlying24) (hi := HI.out.1) (hz := HI.out.2.1) (hsize := HI.out.2.2.1) (hby := HI.out.2.2.2) (hzs := rfl) (hsz := by decide) (v := _) (n := l'.length) (xs := l'.map pv) (hs := rfl) (hown := HOJ.out.alloc _) (ad := ⟨wr.heap.size, 0, none⟩) (m := 1) (c := 1) (news := [pv j]) (hx := rfl) (hl := rfl) (hnews := World.news_of_block (heap_alloc_new _ _)) (h1 := ?q2) (h63 := ?q3) (hbytes := ?q4) (hbase := ?q5) (h := ?_))
            case q2 => first | rfl | (intro u hu; simp at hu; subst hu; rfl)
            case q3 => rw [stack.maxLen_eq]; omega
            case q4 => omega
            case q5 => have := HBJ.out.size; simp; omega
            intro v5 W5 hown5 hg5 _ hat5
            obtain ⟨A5, c5, rfl, -⟩ := owns_form hown5
            have HO5 := Lib.hid hown5
            have HB5 := Lib.hid ((HBJ.out.alloc HBJ.out.size _).grown hg5 (by have := HBJ.out.size; simp; omega) (fun i hi => (HOJ.out.lt i hi).1))
            clear hown5 hg5 hat5 heq hcj
            go_wp2
            go_roundw
            case rel => exact ⟨j + 1, l' ++ [j], by omega, by go_num, Lib.hid (by simp), HB5, A5, c5, by simp, Lib.hid (by simpa using HO5.out)⟩
            case measure => simp [intOf]; omega
          · have HL3 := Lib.hid (show l' = l ++ if p < j + 1 then [p] else [] by
              rw [HL2.out]
              by_cases h : p < j
              · rw [if_pos h, if_pos (by omega)]
              · rw [if_neg h, if_neg (by omega)])
            cases hcc : cs j with
            | none =>
              rw [hcc] at hcj
              simp only [cv] at hcj
              have heq := run_eql_iface_nil_left (P := Try.prog) wr Tp (.pointer (some ⟨Cp, 0, none⟩)) Try.underlying65
              clear hcc
              go_wp2
              go_roundw
              case rel => exact ⟨j + 1, l', by omega, by go_num, HL3, HBJ, A4, c4, rfl, HOJ⟩
              case measure => simp [intOf]; omega
            | some x =>
              obtain ⟨T', C'⟩ := x
              rw [hcc] at hcj
              simp only [cv] at hcj
              have hne : ¬ C' = Cp := fun h => hjp (HST.out.inj j p _ _ hcc HCP.out h)
              have hbz : Below w1.heap.size w1 wr := step_after HB2.out HBJ.out
              have heq := eq_other (T := T') (T' := Tp) (HST.out.shp j _ hcc).1 ((HST.out.shp j _ hcc).2.chg (X := fun _ => False) (Chg.below hbz) fun h => h) ((HST.out.shp p _ HCP.out).2.chg (X := fun _ => False) (Chg.below hbz) fun h => h) hne
              clear hcc hbz
              go_wp2
              go_roundw
              case rel => exact ⟨j + 1, l', by omega, by go_num, HL3, HBJ, A4, c4, rfl, HOJ⟩
              case measure => simp [intOf]; omega
        · have hji : ¬ (j : Int) < (m : Int) := by omega
          have hl2 : l' = l ++ [p] := by rw [HL2.out, if_pos (by omega)]
          subst hl2
          go_wp2
          go_roundw
          case rel => exact ⟨k + 1, l ++ [p], by omega, by go_num, HLS, HBJ, A4, c4, rfl, HOJ⟩
          case measure => simp [intOf]; omega
    · have hki : ¬ (k : Int) < (ps.length : Int) := by omega
      have hll := HLL.out
      rw [List.take_of_length_le (by omega)] at hll
      subst hll
      go_wp2
      go_ret
      have hbz := (HB.out.trans (HB2.out.mono HB.out.size))
      exact ⟨⟨_, l, rfl, HP.out.1, (Plc.of_owns hpl HOR.out).mono hbz.size⟩, hbz.trans (HBW.out.mono hbz.size)⟩
end Go.Proofs.Ytincgkolpicipaa.kin
namespace Go.Proofs.Ytincgkolpicipaa.kin
open Go.RowKit
open Go.Proofs.Ytincgkolpicipaa.stack (step_after AnyBool AnyInt add_off owns_form)
set_option maxRecDepth 100000 in
set_option maxHeartbeats 4000000 in
theorem bare_5 (o m z : Int) (t : ByteArray) (hs : t.size ≤ 4000) (w : World) :
    Calls Try.prog 57 (bareArgs 5 o m z t) w fun r w' => AnyBool r ∧ Below w.heap.size w w' := by
  have H1 := Lib.hid (fun w' (hb : Below w.heap.size w w') => (points_any t hs w').mono (R' := fun r w1 => AnyBool r ∧ Below w'.heap.size w' w1 ∧ Below w.heap.size w w1) fun r w1 h => ⟨h.1, h.2, step_after hb h.2⟩)
  have HX := Lib.hid (fun w' (hb : Below w.heap.size w w') (hx : Box w' w.heap.size 5 o m z t) => (H1.out w' hb).mono (R' := fun r w1 => (r = .returned (.bool false) ∨ r = .returned (.bool true)) ∧ Below w.heap.size w w1 ∧ w1.cell? ⟨w.heap.size, 2, none⟩ = some (.string t)) fun r w1 h => by
    obtain ⟨⟨b, rfl⟩, h2, h3⟩ := h
    exact ⟨by cases b <;> simp, h3, (hx.later h2).2.2.1⟩)
  clear hs
  go_enter Try.func57, Try.ntmps57
  go_upto_region 1 with fail
  go_cut [3, 4, 5] (fun a b c wx => (a = .bool (m == 0) ∧ b = .bool (o == 0) ∧ c = .bool t.toList.isEmpty) ∧ Box wx w.heap.size 5 o m z t ∧ Below w.heap.size w wx)
  case first =>
    go_quiet (fail)
    go_wp2
    go_meet
    exact ⟨⟨rfl, rfl, rfl⟩, ⟨by simp [World.cell?_alloc_new], by simp [World.cell?_alloc_new], by simp [World.cell?_alloc_new], by simp [World.cell?_alloc_new], by simp [World.cell?_alloc_new]⟩, bdn ((Below.refl _ _).alloc (Nat.le_refl _) _) _⟩
  case rest =>
    obtain ⟨⟨rfl, rfl, rfl⟩, hbox, hb⟩ := hcut
    obtain ⟨b0, b1, b2, b3, b4⟩ := id hbox
    have HB := Lib.hid hb
    clear hb
    have HBX := Lib.hid hbox
    clear hbox
    cases q1 : (t.toList == [58])
    all_goals cases q2 : (t.toList == [58, 58])
    all_goals
      cases t1 : (m == 0)
      · go_wp2_with (go_at_call 70; refine (HX.out _ HB.out HBX.out).mono ?_; rintro r w1 ⟨rfl | rfl, hb, c2⟩; all_goals (have HB1 := Lib.hid hb; clear hb))
        all_goals
          go_ret
          exact ⟨⟨_, rfl⟩, HB1.out⟩
      · cases t2 : (o == 0)
        all_goals
          go_wp2_with (go_at_call 70; refine (HX.out _ HB.out HBX.out).mono ?_; rintro r w1 ⟨rfl | rfl, hb, c2⟩; all_goals (have HB1 := Lib.hid hb; clear hb))
          all_goals
            go_ret
            exact ⟨⟨_, rfl⟩, HB1.out⟩
set_option maxRecDepth 100000 in
set_option maxHeartbeats 4000000 in
theorem bare_34 (o m z : Int) (t : ByteArray) (hs : t.size ≤ 4000) (w : World) :
    Calls Try.prog 57 (bareArgs 34 o m z t) w fun r w' => AnyBool r ∧ Below w.heap.size w w' := by
  have H1 := Lib.hid (fun w' (hb : Below w.heap.size w w') => (identifier_any t hs w').mono (R' := fun r w1 => AnyBool r ∧ Below w'.heap.size w' w1 ∧ Below w.heap.size w w1) fun r w1 h => ⟨h.1, h.2, step_after hb h.2⟩)
  clear hs
  go_enter Try.func57, Try.ntmps57
  go_upto_region 1 with fail
  go_cut [3, 4, 5] (fun a b c wx => (a = .bool (m == 0) ∧ b = .bool (o == 0) ∧ c = .bool t.toList.isEmpty) ∧ Box wx w.heap.size 34 o m z t ∧ Below w.heap.size w wx)
  case first =>
    go_quiet (fail)
    go_wp2
    go_meet
    exact ⟨⟨rfl, rfl, rfl⟩, ⟨by simp [World.cell?_alloc_new], by simp [World.cell?_alloc_new], by simp [World.cell?_alloc_new], by simp [World.cell?_alloc_new], by simp [World.cell?_alloc_new]⟩, bdn ((Below.refl _ _).alloc (Nat.le_refl _) _) _⟩
  case rest =>
    obtain ⟨⟨rfl, rfl, rfl⟩, hbox, hb⟩ := hcut
    obtain ⟨b0, b1, b2, b3, b4⟩ := id hbox
    have HB := Lib.hid hb
    clear hb
    clear hbox
    cases t3 : t.toList.isEmpty
    · cases t1 : (m == 0)
      · go_wp2_with (go_at_call 71; refine (H1.out _ HB.out).mono ?_; rintro r w1 ⟨⟨b, rfl⟩, -, hb⟩; have HB1 := Lib.hid hb; clear hb)
        go_ret
        exact ⟨⟨_, rfl⟩, HB1.out⟩
      cases t2 : (o == 0)
      all_goals
        go_wp2_with (go_at_call 71; refine (H1.out _ HB.out).mono ?_; rintro r w1 ⟨⟨b, rfl⟩, -, hb⟩; have HB1 := Lib.hid hb; clear hb)
        go_ret
        exact ⟨⟨_, rfl⟩, HB1.out⟩
    · cases t1 : (m == 0)
      · go_wp2
        go_ret
        exact ⟨⟨_, rfl⟩, HB.out⟩
      cases t2 : (o == 0)
      all_goals
        go_wp2
        go_ret
        exact ⟨⟨_, rfl⟩, HB.out⟩
end Go.Proofs.Ytincgkolpicipaa.kin
