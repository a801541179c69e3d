/- FnChildren: spec.Light: some answer; rows under construction; builder.many by contract; builder.both by contract: nodes with one kid, with two kids; precedences of operators; builder.both by contract: operators of two operands, conditions; builder.function by contract. -/
import Derived.Test.YtincgkolpicipaaC06
import Derived.Deep.RegionWith
import Derived.Test.YtincgkolpicipaaRows
import Derived.WalkKit
import Derived.WalkLawsBesides
import Derived.WalkSpells
import Derived.Lib.Hide
import Derived.Below
import Derived.Deep.RegionLaw
set_option linter.unusedVariables false
set_option linter.unusedSimpArgs false
namespace Go.Proofs.Ytincgkolpicipaa.kin
open Go.RowKit
open Go.Proofs.Ytincgkolpicipaa.stack (step_after AnyBool AnyInt add_off owns_form)
theorem Plc.here {B : Nat} {W : World} {A : Option Addr} {n cap : Nat} {ks : List Nat} (h : Plc B W (.slice A n cap) ks) {j k : Nat} (hj : ks[j]? = some k) : ∃ q o, A = some ⟨q, o, none⟩ ∧ B ≤ q ∧ q < W.heap.size ∧ W.cell? ⟨q, o + j, none⟩ = some (.int .i64 k) := by
  obtain ⟨q, o, c, hv, -, -, hB, hq, hc⟩ := h.at hj
  injection hv with h1 h2 h3
  exact ⟨q, o, h1, hB, hq, hc⟩
/-- spec.Kids, the answer's form told. -/
theorem kids_form (q o cap : Nat) (ns : List Nd) (hL : ns.length ≤ 400) (a : Nat) (n : Nd) (hn : ns[a]? = some n) (hfit : Fits ns a n) (w : World) (hrow : Row w q o ns) :
    Calls Try.prog 34 #[.slice (some ⟨q, o, none⟩) ns.length cap, .int .i64 a] w fun r w' => ∃ A pc, r = .returned (.slice A (kids ns a).length pc) ∧ (kids ns a).length ≤ 400 ∧ Plc w.heap.size w' (.slice A (kids ns a).length pc) (kids ns a) ∧ Below w.heap.size w w' :=
  (kids_says q o cap ns hL a n hn hfit w hrow).mono fun r w' ⟨⟨v, hr, hp⟩, hb⟩ => by
    obtain ⟨A, pc, rfl, -, hl⟩ := hp.form
    exact ⟨A, pc, hr, hl, hp, hb⟩
set_option maxHeartbeats 4000000 in
theorem weight_any (q o cap : Nat) (ns : List Nd) (hL : ns.length ≤ 400) (hf : Fit ns) : ∀ (d a : Nat) (n : Nd), ns[a]? = some n → sz ns a ≤ d → ∀ (w : World), Row w q o ns →
    Calls Try.prog 59 #[.slice (some ⟨q, o, none⟩) ns.length cap, .int .i64 a] w fun r w' => AnyInt r ∧ Below w.heap.size w w' := by
  intro d
  induction d with
  | zero => intro a n hn hs; have := sz_of hn; have := (hf a n hn).one; omega
  | succ d ih =>
    intro a n hn hs w hrow
    have HK := Lib.hid (kids_form q o cap ns hL a n hn (hf a n hn) w hrow)
    have IH := Lib.hid (show ∀ k ∈ kids ns a, ∀ (w : World), Row w q o ns → Calls Try.prog 59 #[.slice (some ⟨q, o, none⟩) ns.length cap, .int .i64 k] w fun r w' => AnyInt r ∧ Below w.heap.size w w' from fun k hk w hrow => by
      have hkd := hf.kid hn hk
      obtain ⟨m, hm⟩ := getElem?_lt hkd.2.2.2.2
      exact ih k m hm (by omega) w hrow)
    have HKS := Lib.hid (show ∀ k ∈ kids ns a, k < ns.length from fun k hk => (hf.kid hn hk).2.2.2.2)
    have HR := Lib.hid hrow
    clear hn hs ih hf hrow hL
    generalize kids ns a = ks at HK IH HKS
    generalize hm : ks.length = m at HK
    have HM := Lib.hid hm
    clear hm
    go_enter Try.func59, Try.ntmps59
    go_wp2_with (go_at_call 34; refine HK.out.mono ?_; rintro r w1 ⟨A, pc, rfl, hl, hp, hb⟩; have HP := Lib.hid hp; have HB := Lib.hid hb; clear hp hb HK)
    go_loopw [6, 7, 8, 9] (fun x y z i wr => ∃ k : Nat, k ≤ m ∧ i = .int .i64 k ∧ (∃ p, x = .int .i64 p) ∧ (∃ p, y = .int .i64 p) ∧ (∃ p, z = .int .i64 p) ∧ Below w.heap.size w wr ∧ Below w1.heap.size w1 wr) (fun _ _ _ i _ => m - (intOf i).toNat)
    case atStart => exact ⟨0, Nat.zero_le _, rfl, ⟨_, rfl⟩, ⟨_, rfl⟩, ⟨_, rfl⟩, HB.out, Below.refl _ _⟩
    case round =>
      obtain ⟨k, hk, rfl, ⟨x, rfl⟩, ⟨y, rfl⟩, ⟨z, rfl⟩, hb, hb1⟩ := hrel
      have HBW := Lib.hid hb
      have HBV := Lib.hid hb1
      by_cases hlt : k < m
      · obtain ⟨j, hj⟩ := getElem?_lt (show k < ks.length by have := HM.out; omega)
        have hjm := List.mem_of_getElem? hj
        obtain ⟨p, po, rfl, -, -, cx⟩ := (HP.out.later hb1).here hj
        obtain ⟨nj, hnj⟩ := getElem?_lt (HKS.out j hjm)
        have hjl : (j : Int) < (ns.length : Int) := by have := HKS.out j hjm; omega
        have hki : (k : Int) < (m : Int) := by omega
        have CX := Lib.hid cx
        have HC := Lib.hid ((IH.out j hjm wr (HR.out.later hb)).mono (R' := fun r w' => (∃ x : Int, r = .returned (.int .i64 x)) ∧ Below w.heap.size w w' ∧ Below w1.heap.size w1 w' ∧ w'.cell? ⟨p, po + k, none⟩ = some (.int .i64 j) ∧ w'.cell? ⟨q, o + j * 5, none⟩ = some (.int .i64 nj.k)) fun r w' h => ⟨h.1, step_after hb h.2, step_after hb1 h.2, cell_later h.2 cx, ((HR.out.later (step_after hb h.2)) j nj hnj).1⟩)
        clear hb hb1 hj hjm hnj
        cases t36 : (nj.k == 36)
        · cases t35 : (nj.k == 35)
          · cases t37 : (nj.k == 37)
            all_goals
              go_wp2_with (go_at_call 59; refine HC.out.mono ?_; rintro r w2 ⟨⟨u, rfl⟩, hb, hb2, cy, dj⟩; have HB2 := Lib.hid hb; have HB3 := Lib.hid hb2; clear hb hb2)
              go_roundw
              case rel => exact ⟨k + 1, by omega, by go_num, ⟨_, rfl⟩, ⟨_, rfl⟩, ⟨_, rfl⟩, HB2.out, HB3.out⟩
              case measure => simp [intOf]; omega
          · go_wp2_with (go_at_call 59; refine HC.out.mono ?_; rintro r w2 ⟨⟨u, rfl⟩, hb, hb2, cy, dj⟩; have HB2 := Lib.hid hb; have HB3 := Lib.hid hb2; clear hb hb2)
            go_roundw
            case rel => exact ⟨k + 1, by omega, by go_num, ⟨_, rfl⟩, ⟨_, rfl⟩, ⟨_, rfl⟩, HB2.out, HB3.out⟩
            case measure => simp [intOf]; omega
        · go_wp2_with (go_at_call 59; refine HC.out.mono ?_; rintro r w2 ⟨⟨u, rfl⟩, hb, hb2, cy, dj⟩; have HB2 := Lib.hid hb; have HB3 := Lib.hid hb2; clear hb hb2)
          go_roundw
          case rel => exact ⟨k + 1, by omega, by go_num, ⟨_, rfl⟩, ⟨_, rfl⟩, ⟨_, rfl⟩, HB2.out, HB3.out⟩
          case measure => simp [intOf]; omega
      · have hki : ¬ (k : Int) < (m : Int) := by omega
        clear hb hb1
        go_wp2
        all_goals
          go_ret
          exact ⟨⟨_, rfl⟩, HBW.out⟩
set_option maxRecDepth 100000 in
set_option maxHeartbeats 4000000 in
theorem tangled_any (q o cap : Nat) (ns : List Nd) (hL : ns.length ≤ 400) (hf : Fit ns) (hbr : ∀ (i : Nat) (n : Nd), ns[i]? = some n → Bar n) : ∀ (d a : Nat) (n : Nd), ns[a]? = some n → sz ns a ≤ d → ∀ (x : Int) (w : World), Row w q o ns →
    Calls Try.prog 60 #[.slice (some ⟨q, o, none⟩) ns.length cap, .int .i64 a, .int .i64 x] w fun r w' => AnyInt r ∧ Below w.heap.size w w' := by
  intro d
  induction d with
  | zero => intro a n hn hs; have := sz_of hn; have := (hf a n hn).one; omega
  | succ d ih =>
    intro a n hn hs x w hrow
    have HK := Lib.hid (fun w' (hb : Below w.heap.size w w') => (kids_form q o cap ns hL a n hn (hf a n hn) w' (hrow.later hb)).mono (R' := fun r w'' => ∃ A pc, r = .returned (.slice A (kids ns a).length pc) ∧ (kids ns a).length ≤ 400 ∧ Plc w.heap.size w'' (.slice A (kids ns a).length pc) (kids ns a) ∧ Below w.heap.size w w'') fun r w'' ⟨A, pc, h1, h2, h3, h4⟩ => ⟨A, pc, h1, h2, h3.mono hb.size, step_after hb h4⟩)
    have IH := Lib.hid (show ∀ k ∈ kids ns a, ∀ (x : Int) (w : World), Row w q o ns → Calls Try.prog 60 #[.slice (some ⟨q, o, none⟩) ns.length cap, .int .i64 k, .int .i64 x] w fun r w' => AnyInt r ∧ Below w.heap.size w w' from fun k hk x w hrow => by
      have hkd := hf.kid hn hk
      obtain ⟨m, hm⟩ := getElem?_lt hkd.2.2.2.2
      exact ih k m hm (by omega) x w hrow)
    have HKS := Lib.hid (show ∀ k ∈ kids ns a, k < ns.length from fun k hk => (hf.kid hn hk).2.2.2.2)
    have HR := Lib.hid hrow
    have hbar := hbr a n hn
    obtain ⟨c0, c1, c2, c3, c4, -⟩ := hrow a n hn
    have hal : (a : Int) < (ns.length : Int) := by have := (List.getElem?_eq_some_iff.1 hn).1; omega
    have HB0 := Lib.hid (fun (o1 : Obj) => (Below.refl w.heap.size w).alloc (Nat.le_refl _) o1)
    clear hn hs ih hf hrow hL hbr
    generalize kids ns a = ks at HK IH HKS
    generalize hm : ks.length = m at HK
    have HM := Lib.hid hm
    clear hm
    obtain ⟨k0, o0, t0, m0, z0⟩ := n
    dsimp only at c0 c1 c2 c3 c4
    go_enter Try.func60, Try.ntmps60
    go_upto_region 2 with fail
    go_cut [8] (fun v wx => (∃ b : Bool, v = .bool b) ∧ wx.cell? ⟨w.heap.size, 0, none⟩ = some (.int .i64 k0) ∧ Below w.heap.size w wx)
    case first =>
      cases t35 : (k0 == 35)
      · cases t32 : (k0 == 32)
        · go_wp2
          go_meet
          exact ⟨⟨_, rfl⟩, by simp [World.cell?_alloc_new], HB0.out _⟩
        · cases tm : (m0 == 1)
          all_goals
            go_wp2
            go_meet
            exact ⟨⟨_, rfl⟩, by simp [World.cell?_alloc_new], HB0.out _⟩
      · have hm9 := (hbar.field (by simpa using t35)).2
        dsimp only at hm9
        clear hbar
        obtain rfl : k0 = 35 := by simpa using t35
        rcases hm9 with rfl | rfl | rfl | rfl | rfl | rfl | rfl | rfl | rfl
        all_goals
          go_wp2
          go_meet
          exact ⟨⟨_, rfl⟩, by simp [World.cell?_alloc_new], HB0.out _⟩
    case rest =>
      obtain ⟨⟨b, rfl⟩, d0, hb⟩ := hcut
      have HBC := Lib.hid hb
      clear hb c0 c1 c2 c3 c4
      go_upto_region 3 with fail
      go_cut [44] (fun v wx => (∃ c : Bool, v = .bool c) ∧ wx = wc)
      case first =>
        cases t36 : (k0 == 36)
        · cases tx : decide (0 < x)
          · go_wp2
            go_meet
            exact ⟨⟨_, rfl⟩, rfl⟩
          · cases b
            all_goals
              go_wp2
              go_meet
              exact ⟨⟨_, rfl⟩, rfl⟩
        · go_wp2
          go_meet
          exact ⟨⟨_, rfl⟩, rfl⟩
      case rest =>
        obtain ⟨⟨c, rfl⟩, rfl⟩ := hcut
        clear d0
        go_upto_if 44 with fail
        go_cut [2] (fun v wx => (∃ y : Int, v = .int .i64 y) ∧ wx = wc)
        case first =>
          cases c
          all_goals
            go_wp2
            go_meet
            exact ⟨⟨_, rfl⟩, rfl⟩
        case rest =>
        obtain ⟨⟨y, rfl⟩, rfl⟩ := hcut
        go_wp2_with (go_at_call 34; refine (HK.out _ HBC.out).mono ?_; rintro r w1 ⟨A, pc, rfl, hl, hp, hb⟩; have HP := Lib.hid hp; have HB := Lib.hid hb; clear hp hb HK)
        go_loopw [9, 11] (fun z i wr => ∃ k : Nat, k ≤ m ∧ i = .int .i64 k ∧ (∃ p, z = .int .i64 p) ∧ Below w.heap.size w wr ∧ Below w1.heap.size w1 wr) (fun _ i _ => m - (intOf i).toNat)
        case atStart => exact ⟨0, Nat.zero_le _, rfl, ⟨_, rfl⟩, HB.out, Below.refl _ _⟩
        case round =>
          obtain ⟨k, hk, rfl, ⟨z, rfl⟩, hb, hb1⟩ := hrel
          have HBW := Lib.hid hb
          by_cases hlt : k < m
          · obtain ⟨j, hj⟩ := getElem?_lt (show k < ks.length by have := HM.out; omega)
            have hjm := List.mem_of_getElem? hj
            obtain ⟨p, po, rfl, -, -, cx⟩ := (HP.out.later hb1).here hj
            have hki : (k : Int) < (m : Int) := by omega
            have HC := Lib.hid ((IH.out j hjm y wr (HR.out.later hb)).mono (R' := fun r w' => (∃ x : Int, r = .returned (.int .i64 x)) ∧ Below w.heap.size w w' ∧ Below w1.heap.size w1 w') fun r w' h => ⟨h.1, step_after hb h.2, step_after hb1 h.2⟩)
            clear hb hb1 hj hjm
            go_wp2_with (go_at_call 60; refine HC.out.mono ?_; rintro r w2 ⟨⟨u, rfl⟩, hb, hb2⟩; have HB2 := Lib.hid hb; have HB3 := Lib.hid hb2; clear hb hb2)
            all_goals
              go_roundw
              case rel => exact ⟨k + 1, by omega, by go_num, ⟨_, rfl⟩, HB2.out, HB3.out⟩
              case measure => simp [intOf]; omega
          · have hki : ¬ (k : Int) < (m : Int) := by omega
            clear hb hb1
            go_wp2
            go_ret
            exact ⟨⟨_, rfl⟩, HBW.out⟩
theorem light_any (q o cap : Nat) (ns : List Nd) (hL : ns.length ≤ 400) (hpos : 0 < ns.length) (hf : Fit ns) (hbr : ∀ (i : Nat) (n : Nd), ns[i]? = some n → Bar n) (w : World) (hrow : Row w q o ns) :
    Calls Try.prog 33 #[.slice (some ⟨q, o, none⟩) ns.length cap] w fun r w' => AnyBool r ∧ Below w.heap.size w w' := by
  obtain ⟨n, hn⟩ := getElem?_lt hpos
  have H1 := Lib.hid (show Calls Try.prog 59 #[.slice (some ⟨q, o, none⟩) ns.length cap, .int .i64 0] w fun r w' => (∃ x : Int, r = .returned (.int .i64 x) ∧ (decide (x ≤ 20000) = true ∨ decide (x ≤ 20000) = false)) ∧ Below w.heap.size w w' from
    (weight_any q o cap ns hL hf (sz ns 0) 0 n hn (Nat.le_refl _) w hrow).mono fun r w' ⟨⟨x, hx⟩, hb⟩ => ⟨⟨x, hx, by cases decide (x ≤ 20000) <;> simp⟩, hb⟩)
  have H2 := Lib.hid (fun w1 (hb : Below w.heap.size w w1) => show Calls Try.prog 60 #[.slice (some ⟨q, o, none⟩) ns.length cap, .int .i64 0, .int .i64 0] w1 fun r w' => (∃ x : Int, r = .returned (.int .i64 x)) ∧ Below w.heap.size w w' from
    (tangled_any q o cap ns hL hf hbr (sz ns 0) 0 n hn (Nat.le_refl _) 0 w1 (hrow.later hb)).mono fun r w' ⟨⟨x, hx⟩, hb2⟩ => ⟨⟨x, hx⟩, step_after hb hb2⟩)
  clear hrow hn hpos hf hbr hL
  go_enter Try.func33, Try.ntmps33
  go_wp2_with (first | (go_at_call 59; refine H1.out.mono ?_; rintro r w1 ⟨⟨x, rfl, t | t⟩, hb⟩; all_goals (have HB := Lib.hid hb; clear hb)) | (go_at_call 60; refine (H2.out _ HB.out).mono ?_; rintro r w1 ⟨⟨x, rfl⟩, hb⟩; have HB2 := Lib.hid hb; clear hb))
  all_goals
    go_ret
    first
      | exact ⟨⟨_, rfl⟩, HB2.out⟩
      | exact ⟨⟨_, rfl⟩, HB.out⟩
end Go.Proofs.Ytincgkolpicipaa.kin
namespace Go.Proofs.Ytincgkolpicipaa.kin
open Go.RowKit
open Go.Proofs.Ytincgkolpicipaa.stack (step_after Chg owns_chg owns_form)
/-- After the places l are built, that of a further one. -/
def Nx (e : Env) (w : World) (cs : Pl) (U : Nat → Prop) (l : List Nat) (k : Nat) (W : World) (cs1 : Pl) (U1 : Nat → Prop) (r : Ending) (w' : World) : Prop :=
  ∃ (cs' : Pl) (U' : Nat → Prop) (T : TypeId) (B : Nat), r = .returned (.iface T (.pointer (some ⟨B, 0, none⟩))) ∧ cs' k = some (T, B) ∧ (∀ a ∈ l, cs' a = cs1 a) ∧ Done e (Rs e.ns (l ++ [k])) w w' cs cs' U U' ∧ Done e (Rs e.ns [k]) W w' cs1 cs' U1 U'
theorem NodeC.nx {e : Env} {k : Nat} (h : NodeC e k) (hft : Fit e.ns) {w : World} {cs : Pl} {U : Nat → Prop} {l : List Nat} (hf : Free e.ns cs [k]) (ha : Apt e.ns l [k]) (W : World) (cs1 : Pl) (U1 : Nat → Prop) (hd : Done e (Rs e.ns l) w W cs cs1 U U1) :
    Calls Try.prog 55 #[.pointer (some ⟨e.b, 0, none⟩), .int .i64 k] W (Nx e w cs U l k W cs1 U1) := by
  refine (h W cs1 U1 hd.st (hd.free ha hf)).mono ?_
  rintro r w' ⟨cs', U', T, B, hr, hc, hd2⟩
  exact ⟨cs', U', T, B, hr, hc, hd2.keeps hft ha, hd.app hd2 ha, hd2⟩
/-- A row of one's own that is not yet among the blocks that stay. -/
structure Mine (W : World) (base : Nat) (U : Nat → Prop) (E : TypeId) (z : Nat) (v : Value) (n : Nat) (xs : List Value) : Prop where
  own : W.ownsRow base E z v n xs
  out : ∀ g, v.ownBlock = some g → ¬ U g
theorem own_lt {W : World} {base : Nat} {E : TypeId} {z n : Nat} {v : Value} {xs : List Value} (h : W.ownsRow base E z v n xs) {g : Nat} (hg : v.ownBlock = some g) : base ≤ g ∧ g < W.heap.size := by
  rcases h.2 with ⟨rfl, -⟩ | ⟨g', cap, cur, rfl, hb, hh, -⟩
  · simp [Value.ownBlock] at hg
  · simp [Value.ownBlock] at hg; subst hg
    exact ⟨hb, (Array.getElem?_eq_some_iff.1 hh).1⟩
theorem Mine.nil (W : World) (base : Nat) (U : Nat → Prop) (E : TypeId) (z : Nat) : Mine W base U E z (.slice none 0 0) 0 [] :=
  ⟨World.ownsRow_nil W base E z, fun g h => by simp [Value.ownBlock] at h⟩
theorem Mine.step {W W' : World} {base : Nat} {U U' : Nat → Prop} {E : TypeId} {z n : Nat} {v : Value} {xs : List Value} {X : Nat → Prop} (h : Mine W base U E z v n xs) (hc : Chg X W W') (hX : ∀ B, X B → B < base) (hu : ∀ B, U' B → U B ∨ W.heap.size ≤ B) : Mine W' base U' E z v n xs :=
  ⟨owns_chg h.own hc fun k hk hx => by have := (own_lt h.own hk).1; have := hX k hx; omega, fun g hg hU => by
    rcases hu g hU with h1 | h1
    · exact h.out g hg h1
    · have := (own_lt h.own hg).2; omega⟩
/-- A node is built meanwhile. -/
theorem Mine.done {e : Env} {S : Nat → Prop} {W W' : World} {cs cs' : Pl} {base : Nat} {U U' : Nat → Prop} {E : TypeId} {z n : Nat} {v : Value} {xs : List Value} (h : Mine W base U E z v n xs) (hd : Done e S W W' cs cs' U U') (hN : e.N < base) : Mine W' base U' E z v n xs :=
  h.step hd.chg (fun _ hB => hB ▸ hN) hd.new
theorem Mine.later {W W' : World} {base : Nat} {U : Nat → Prop} {E : TypeId} {z n : Nat} {v : Value} {xs : List Value} (h : Mine W base U E z v n xs) (hb : Below W.heap.size W W') : Mine W' base U E z v n xs :=
  h.step (X := fun _ => False) (Chg.below hb) (fun _ h => h.elim) fun _ h => .inl h
/-- It grows. -/
theorem Mine.grown {W W' : World} {base : Nat} {U : Nat → Prop} {E : TypeId} {z n m : Nat} {v v' : Value} {xs ys : List Value} (h : Mine W base U E z v n xs) (hU : ∀ B, U B → B < W.heap.size) (hown : W'.ownsRow base E z v' m ys) (hat : v'.ownBlock = v.ownBlock ∨ v'.ownBlock = some W.heap.size) : Mine W' base U E z v' m ys :=
  ⟨hown, fun g hg hx => by
    rcases hat with hat | hat
    · rw [hat] at hg; exact h.out g hg hx
    · rw [hat] at hg; cases hg; exact absurd (hU _ hx) (Nat.lt_irrefl _)⟩
theorem Done.grown {e : Env} {S : Nat → Prop} {w W W' : World} {cs cs' : Pl} {U U' : Nat → Prop} {E : TypeId} {z n : Nat} {v : Value} {xs : List Value} {base : Nat} (h : Done e S w W cs cs' U U') (hm : Mine W base U' E z v n xs) (hb : w.heap.size ≤ base) (hN : e.N < base) (hg : W.grownBy W' v.ownBlock) : Done e S w W' cs cs' U U' :=
  h.step (X := fun B => v.ownBlock = some B) ((Chg.refl _ _).grown hg fun _ hk _ => hk) fun B hB => ⟨Nat.le_trans hb (own_lt hm.own hB).1, hm.out B hB, by have := (own_lt hm.own hB).1; omega⟩
/-- It is done: its block stays, too. -/
theorem Mine.fin {e : Env} {S : Nat → Prop} {w W : World} {cs cs' : Pl} {U U' : Nat → Prop} {E : TypeId} {z n : Nat} {v : Value} {xs : List Value} {base : Nat} (h : Mine W base U' E z v n xs) (hd : Done e S w W cs cs' U U') (hb : w.heap.size ≤ base) (hN : e.N < w.heap.size) : Done e S w W cs cs' U (fun B => U' B ∨ v.ownBlock = some B) :=
  hd.grow hN _ fun _ hB => ⟨Nat.le_trans hb (own_lt h.own hB).1, (own_lt h.own hB).2⟩
theorem flatMap_at {α : Type} {f : α → List Value} {z : Nat} : ∀ (l : List α) (j d : Nat) (k : α), (∀ k ∈ l, (f k).length = z) → l[j]? = some k → d < z → (l.flatMap f)[j * z + d]? = (f k)[d]? := by
  intro l
  induction l with
  | nil => intro j d k _ h; simp at h
  | cons a l ih =>
    intro j d k hf hj hd
    rw [List.flatMap_cons]
    cases j with
    | zero =>
      simp at hj; subst hj
      rw [Nat.zero_mul, Nat.zero_add, List.getElem?_append_left (by rw [hf a (by simp)]; exact hd)]
    | succ j =>
      rw [List.getElem?_append_right (by rw [hf a (by simp), Nat.succ_mul]; omega), hf a (by simp)]
      have : (j + 1) * z + d - z = j * z + d := by rw [Nat.succ_mul]; omega
      rw [this]
      exact ih j d k (fun k hk => hf k (by simp [hk])) (by simpa using hj) hd
theorem flatMap_len {α : Type} {f : α → List Value} {z : Nat} : ∀ (l : List α), (∀ k ∈ l, (f k).length = z) → (l.flatMap f).length = l.length * z := by
  intro l
  induction l with
  | nil => intro _; simp
  | cons a l ih => intro hf; rw [List.flatMap_cons, List.length_append, hf a (by simp), ih fun k hk => hf k (by simp [hk]), List.length_cons, Nat.succ_mul]; omega
/-- A row that is done, as elements. -/
theorem Mine.elems {α : Type} {W : World} {base : Nat} {U : Nat → Prop} {E : TypeId} {z d : Nat} {v : Value} {l : List α} {f : α → List Value} {g : α → Value} (h : Mine W base U E z v l.length (l.flatMap f)) (hl : l.length ≤ 400) (hf : ∀ k ∈ l, (f k).length = z) (hd : d < z) (hg : ∀ k ∈ l, (f k)[d]? = some (g k)) (h1 : ∀ k ∈ l, ∀ u ∈ f k, u.oneCell' = true) : Elems (rd W (fun B => U B ∨ v.ownBlock = some B)) z d v (l.map g) := by
  have h0 := h.own
  rcases h.own.2 with ⟨rfl, h2⟩ | ⟨q, cap, cur, rfl, hq, hh, hn, hm, hcs, hcur⟩
  · have : l = [] := List.length_eq_zero_iff.1 h2
    subst this
    exact ⟨none, 0, rfl, by simp, fun j x hj => by simp at hj⟩
  · refine ⟨_, cap, by rw [List.length_map], by simpa using hl, fun j x hj => ?_⟩
    rw [List.getElem?_map] at hj
    cases hk : l[j]? with
    | none => rw [hk] at hj; simp at hj
    | some k =>
      rw [hk] at hj; simp at hj; subst hj
      have hjl := (List.getElem?_eq_some_iff.1 hk).1
      have hkm := List.mem_of_getElem? hk
      refine ⟨q, f k, rfl, hf k hkm, hg k hkm, h1 k hkm, fun i u hu => ⟨.inr rfl, ?_⟩⟩
      have hi : i < z := by have := (List.getElem?_eq_some_iff.1 hu).1; rw [hf k hkm] at this; exact this
      have : j * z + i < l.length * z := by
        have := Nat.mul_le_mul_right z hjl
        rw [Nat.succ_mul] at this; omega
      rw [h0.cellAt _ this, flatMap_at l j i k hf hk hi]
      exact hu
/-- What stands in rows is one cell each. -/
theorem one_of_map {α β : Type} {g : α → Value} {f : β → Option (TypeId × Nat)} {rs : List α} {l : List β} (h : rs.map g = l.map fun k => cv (f k)) : ∀ x ∈ rs, (g x).oneCell' = true := fun x hx => by
  have h1 : g x ∈ rs.map g := List.mem_map.2 ⟨x, hx, rfl⟩
  rw [h] at h1
  obtain ⟨k, -, hk⟩ := List.mem_map.1 h1
  rw [← hk]; exact cv_one _
theorem Try.info226 : (Try.prog.info? 226).map (fun i => (i.zero, i.size, i.bytes)) = some (some (.agg #[.nilIface, .slice none 0 0]), 2, 40) := by kernel_rfl
def pair (cs : Pl) (k : Nat) : List Value := [cv (cs k), .slice none 0 0]
theorem flat_same {f g : Nat → List Value} {l : List Nat} (h : ∀ k ∈ l, f k = g k) : l.flatMap f = l.flatMap g := by
  induction l with
  | nil => rfl
  | cons a l ih => rw [List.flatMap_cons, List.flatMap_cons, h a (by simp), ih fun k hk => h k (by simp [hk])]
def ManyR (e : Env) (w : World) (cs : Pl) (U : Nat → Prop) (ks : List Nat) (r : Ending) (w' : World) : Prop :=
  ∃ (u : Value) (cs' : Pl) (U' : Nat → Prop), r = .returned u ∧ Done e (Rs e.ns ks) w w' cs cs' U U' ∧ Elems (rd w' U') 2 0 u (ks.map fun k => cv (cs' k))
set_option maxRecDepth 100000 in
set_option maxHeartbeats 4000000 in
theorem many_does {e : Env} (hft : Fit e.ns) (ks : List Nat) (hno : ∀ k ∈ ks, NodeC e k) (hs : Sep e.ns ks) (w : World) (cs : Pl) (U : Nat → Prop) (hst : St e w cs U) (hfr : Free e.ns cs ks) (B : Nat) (hB : e.N < B) (v : Value) (hp : Plc B w v ks) :
    Calls Try.prog 97 #[.pointer (some ⟨e.b, 0, none⟩), v] w (ManyR e w cs U ks) := by
  obtain ⟨i0, hi, hz0, hz1, hz2⟩ := info_parts Try.info226
  obtain ⟨A, pc, rfl, -, hl⟩ := hp.form
  have HP := Lib.hid hp
  have HNO := Lib.hid hno
  have HS := Lib.hid hs
  have HFR := Lib.hid hfr
  have HN := Lib.hid hst.nlt
  have HD0 := Lib.hid (Done.none hst (Below.refl _ _))
  have HM0 := Lib.hid (Mine.nil w w.heap.size U 226 2)
  have HFT := Lib.hid hft
  have HB := Lib.hid hB
  clear hp hno hs hst hfr hft hB
  generalize hm : ks.length = m at hl HP ⊢
  have HM := Lib.hid hm
  clear hm
  go_enter Try.func97, Try.ntmps97
  go_wp2
  go_loopw [5, 7, 10] (fun v _ i wr => ∃ (k : Nat) (l : List Nat) (cs1 : Pl) (U1 : Nat → Prop), k ≤ m ∧ i = .int .i64 k ∧ Hid (l = ks.take k) ∧ Hid (Done e (Rs e.ns l) w wr cs cs1 U U1) ∧ Mine wr w.heap.size U1 226 2 v l.length (l.flatMap (pair cs1))) (fun _ _ i _ => m - (intOf i).toNat)
  case atStart => exact ⟨0, [], cs, U, Nat.zero_le _, rfl, Lib.hid (by simp), HD0, HM0.out⟩
  case round =>
    obtain ⟨k, l, cs1, U1, hk, rfl, HLL, HD, hmine⟩ := hrel
    obtain ⟨A1, vc, rfl, -⟩ := owns_form hmine.own
    have HMI := Lib.hid hmine
    by_cases hlt : k < m
    · obtain ⟨j, hj⟩ := getElem?_lt (show k < ks.length by have := HM.out; omega)
      obtain ⟨p, po, rfl, hpB, hpw, cx⟩ := HP.out.here hj
      have cx1 := HD.out.chg.cell cx (show ¬ p = e.N by have := HB.out; omega)
      have hki : (k : Int) < (m : Int) := by omega
      have hlk : l.length ≤ 400 := by rw [HLL.out, List.length_take]; omega
      have hsplit : ks = l ++ j :: ks.drop (k + 1) := by
        rw [HLL.out]
        have h1 : ks.drop k = j :: ks.drop (k + 1) := by
          have hkl := (List.getElem?_eq_some_iff.1 hj).1
          rw [List.drop_eq_getElem_cons hkl]
          rw [List.getElem?_eq_getElem hkl] at hj
          rw [Option.some.inj hj]
        rw [← h1, List.take_append_drop]
      have hapt : Apt e.ns l [j] := by
        have h1 := HS.out
        rw [hsplit] at h1
        exact h1.app.2.2.sub (fun _ h => h) (fun x hx => by rw [List.mem_singleton] at hx; simp [hx])
      have HNX := Lib.hid ((HNO.out j (List.mem_of_getElem? hj)).nx HFT.out (HFR.out.sub fun x hx => by rw [List.mem_singleton] at hx; rw [hx]; exact List.mem_of_getElem? hj) hapt wr cs1 U1 HD.out)
      have HLS := Lib.hid (show l ++ [j] = ks.take (k + 1) by rw [HLL.out, List.take_add_one, hj]; rfl)
      clear hmine cx hj hsplit hapt
      go_wp2_with (first | (go_at_call 55; refine HNX.out.mono ?_; rintro r w2 ⟨cs2, U2, T, C, rfl, hcj, hkeep, hd2, hd1⟩; have hmine2 := HMI.out.done hd1 HN.out; have hown2 := hmine2.own; have HM2 := Lib.hid hmine2; have HCJ := Lib.hid hcj; have HKE := Lib.hid hkeep; have HD2 := Lib.hid hd2; have HSZ := Lib.hid (show w.heap.size ≤ (w2.alloc (.cells #[.iface T (.pointer (some ⟨C, 0, none⟩)), .slice none 0 0] 226)).heap.size from Nat.le_trans hd2.chg.size (by simp)); clear hcj hkeep hd2 hd1 hmine2) | (at_builtin; refine wpList_append_own_at (hgd := rfl) (s := _) (x := _) (t := 166) (ho := rfl) (base := w.heap.size) (e := 226) (i := i0) (z := .agg #[.nilIface, .slice none 0 0]) (size := 2) (bytes := 40) (ht := Try.underlying166) (hi := hi) (hz := hz0) (hsize := hz1) (hby := hz2) (hzs := rfl) (hsz := by decide) (v := _) (n := l.length) (xs := l.flatMap (pair cs1)) (hs := rfl) (hown := hown2.alloc _) (ad := ⟨w2.heap.size, 0, none⟩) (m := 1) (c := 1) (news := [.iface T (.pointer (some ⟨C, 0, none⟩)), .slice none 0 0]) (hx := rfl) (hl := rfl) (hnews := ?q1) (h1 := ?q2) (h63 := ?q3) (hbytes := ?q4) (hbase := HSZ.out) (h := ?_)))
      case q1 => intro i u hi; rcases i with _ | _ | i <;> simp at hi <;> subst hi <;> simp [Addr.add, go_sem]
      case q2 => intro u hu; simp at hu; rcases hu with rfl | rfl <;> rfl
      case q3 => simp [maxLen]; omega
      case q4 => omega
      intro v2 W2 hown3 hg3 _ hat
      have hba : Below w2.heap.size w2 (w2.alloc (.cells #[.iface T (.pointer (some ⟨C, 0, none⟩)), .slice none 0 0] 226)) := (Below.refl _ _).alloc (Nat.le_refl _) _
      have hma := HM2.out.later hba
      have hda := HD2.out.later hba
      have HD3 := Lib.hid (hda.grown hma (Nat.le_refl _) HN.out hg3)
      have hfl : (l ++ [j]).flatMap (pair cs2) = l.flatMap (pair cs1) ++ [.iface T (.pointer (some ⟨C, 0, none⟩)), .slice none 0 0] := by
        rw [List.flatMap_append, flat_same (f := pair cs2) (g := pair cs1) fun a ha => by simp [pair, HKE.out a ha]]
        simp [pair, HCJ.out, cv]
      have HM3 := Lib.hid (show Mine W2 w.heap.size U2 226 2 v2 (l ++ [j]).length ((l ++ [j]).flatMap (pair cs2)) by
        rw [hfl, List.length_append]
        exact hma.grown hda.st.lt hown3 (by simpa using hat))
      clear hba hma hda hfl hat hown3 hg3 hown2
      go_wp2
      go_roundw
      case rel => exact ⟨k + 1, l ++ [j], cs2, U2, by omega, by go_num, HLS, HD3, HM3.out⟩
      case measure => simp [intOf]; omega
    · have hki : ¬ (k : Int) < (m : Int) := by omega
      clear hmine
      go_wp2
      go_ret
      have hll := HLL.out
      rw [List.take_of_length_le (by have := HM.out; omega)] at hll
      have hm2 := HM.out
      subst hll
      refine ⟨_, cs1, _, rfl, HMI.out.fin HD.out (Nat.le_refl _) HN.out, ?_⟩
      exact HMI.out.elems (f := pair cs1) (g := fun k => cv (cs1 k)) (by omega) (fun _ _ => rfl) (by decide) (fun _ _ => rfl) (fun k _ u hu => by simp [pair] at hu; rcases hu with rfl | rfl <;> first | exact cv_one _ | rfl)
end Go.Proofs.Ytincgkolpicipaa.kin
namespace Go.Proofs.Ytincgkolpicipaa.kin
open Go.RowKit
open Go.Proofs.Ytincgkolpicipaa.stack (step_after Chg owns_chg owns_form)
/-- A new node of the type T in a block of its own, the kids built. -/
def Res (e : Env) (w : World) (cs : Pl) (U : Nat → Prop) (ks : List Nat) (T : TypeId) (P : (Addr → Value → Prop) → Pl → Nat → Prop) (r : Ending) (w' : World) : Prop :=
  ∃ (cs' : Pl) (U' : Nat → Prop) (B : Nat), r = .returned (.iface T (.pointer (some ⟨B, 0, none⟩))) ∧ Done e (Rs e.ns ks) w w' cs cs' U U' ∧ w.heap.size ≤ B ∧ Blk w' B ∧ ¬ U' B ∧ P (rd w' (fun C => U' C ∨ C = B)) cs' B
theorem res_new {e : Env} {w W : World} {cs cs' : Pl} {U U' : Nat → Prop} {ks : List Nat} {T : TypeId} {P : (Addr → Value → Prop) → Pl → Nat → Prop} (hd : Done e (Rs e.ns ks) w W cs cs' U U') (arr : Array Value) {E : TypeId} (hp : P (rd (W.alloc (.cells arr E)) (fun C => U' C ∨ C = W.heap.size)) cs' W.heap.size) : Res e w cs U ks T P (.returned (.iface T (.pointer (some ⟨W.heap.size, 0, none⟩)))) (W.alloc (.cells arr E)) :=
  ⟨cs', U', W.heap.size, rfl, hd.later ((Below.refl _ _).alloc (Nat.le_refl _) _), hd.chg.size, Blk.new _ _ _, fun h => absurd (hd.st.lt _ h) (Nat.lt_irrefl _), hp⟩
/-- The first node to be built, somewhat later. -/
theorem NodeC.first {e : Env} {k : Nat} (h : NodeC e k) (hft : Fit e.ns) {w : World} {cs : Pl} {U : Nat → Prop} (hst : St e w cs U) (hf : Free e.ns cs [k]) (W : World) (hb : Below w.heap.size w W) :
    Calls Try.prog 55 #[.pointer (some ⟨e.b, 0, none⟩), .int .i64 k] W (fun r w' => ∃ (cs' : Pl) (U' : Nat → Prop) (T : TypeId) (B : Nat), r = .returned (.iface T (.pointer (some ⟨B, 0, none⟩))) ∧ cs' k = some (T, B) ∧ Done e (Rs e.ns [k]) w w' cs cs' U U') := by
  refine (h.nx hft hf (l := []) (fun a h => by simp at h) W cs U (Done.none hst hb)).mono ?_
  rintro r w' ⟨cs', U', T, B, hr, hc, -, hd, -⟩
  exact ⟨cs', U', T, B, hr, hc, hd⟩
def OneR (e : Env) (w : World) (cs : Pl) (U : Nat → Prop) (a : Nat) (k : Int) (r : Ending) (w' : World) : Prop := (k = 9 → Res e w cs U [a] 129 (fun _ _ _ => True) r w') ∧ (k = 10 → Res e w cs U [a] 141 (fun _ _ _ => True) r w') ∧ (k = 24 → Res e w cs U [a] 144 (fun rd cs' B => rd ⟨B, 0, none⟩ (cv (cs' a))) r w')
set_option maxRecDepth 100000 in
set_option maxHeartbeats 4000000 in
theorem both_one {e : Env} (hft : Fit e.ns) (a : Nat) (hno : NodeC e a) (w : World) (cs : Pl) (U : Nat → Prop) (hst : St e w cs U) (hfr : Free e.ns cs [a]) (B : Nat) (v : Value) (hp : Plc B w v [a]) (k o m z : Int) (t : ByteArray) (hk : k = 9 ∨ k = 10 ∨ k = 24) :
    Calls Try.prog 84 #[.pointer (some ⟨e.b, 0, none⟩), .agg #[.int .i64 k, .int .i64 o, .string t, .int .i64 m, .int .i64 z], v] w (OneR e w cs U a k) := by
  obtain ⟨p, po, pc, rfl, -, -, -, -, cx⟩ := hp.at (j := 0) (k := a) rfl
  rw [Nat.add_zero] at cx
  have cx1 : ∀ o1, (w.alloc o1).cell? ⟨p, po, none⟩ = some (.int .i64 a) := fun o1 => cell_later ((Below.refl _ _).alloc (Nat.le_refl _) _) cx
  have HNX := Lib.hid (fun W (hb : Below w.heap.size w W) => hno.first hft hst hfr W hb)
  clear hp hno hst hfr hft cx
  rcases hk with rfl | rfl | rfl
  all_goals
    go_enter Try.func84, Try.ntmps84
    go_wp2_with (first | (go_at_call 96; refine (count_ok _ _ _ _ _ _ (by simp) (by simp) _).mono ?_; rintro r w1 ⟨rfl, rfl⟩) | (go_at_call 55; refine (HNX.out _ ((Below.refl _ _).alloc (Nat.le_refl _) _)).mono ?_; rintro r w2 ⟨cs2, U2, T, C, rfl, hcj, hd2⟩; have HCJ := Lib.hid hcj; have HD2 := Lib.hid hd2; clear hcj hd2))
    go_ret
    first
      | exact ⟨fun _ => res_new HD2.out _ trivial, (fun h => by cases h), (fun h => by cases h)⟩
      | exact ⟨(fun h => by cases h), fun _ => res_new HD2.out _ trivial, (fun h => by cases h)⟩
      | exact ⟨(fun h => by cases h), (fun h => by cases h), fun _ => res_new HD2.out _ ⟨.inr rfl, by rw [HCJ.out]; simp [World.cell?_alloc_new, cv]⟩⟩
def UnR (e : Env) (w : World) (cs : Pl) (U : Nat → Prop) (a : Nat) : Ending → World → Prop := Res e w cs U [a] 131 (fun rd cs' B => rd ⟨B, 0, none⟩ (cv (cs' a)))
set_option maxRecDepth 100000 in
set_option maxHeartbeats 4000000 in
theorem both_unary {e : Env} (hft : Fit e.ns) (a : Nat) (hno : NodeC e a) (w : World) (cs : Pl) (U : Nat → Prop) (hst : St e w cs U) (hfr : Free e.ns cs [a]) (B : Nat) (v : Value) (hp : Plc B w v [a]) (o m z : Int) (t : ByteArray) (ho : 1 ≤ o ∧ o ≤ 4) :
    Calls Try.prog 84 #[.pointer (some ⟨e.b, 0, none⟩), .agg #[.int .i64 22, .int .i64 o, .string t, .int .i64 m, .int .i64 z], v] w (UnR e w cs U a) := by
  obtain ⟨p, po, pc, rfl, -, -, -, -, cx⟩ := hp.at (j := 0) (k := a) rfl
  rw [Nat.add_zero] at cx
  have cx1 : ∀ o1, (w.alloc o1).cell? ⟨p, po, none⟩ = some (.int .i64 a) := fun o1 => cell_later ((Below.refl _ _).alloc (Nat.le_refl _) _) cx
  have HNX := Lib.hid (fun W (hb : Below w.heap.size w W) => hno.first hft hst hfr W hb)
  have HO := Lib.hid (unaryOp_ok o ho)
  clear hp hno hst hfr hft cx ho
  go_enter Try.func84, Try.ntmps84
  go_wp2_with (first | (go_at_call 102; refine (HO.out _).mono ?_; rintro r w1 ⟨⟨y, rfl⟩, rfl⟩) | (go_at_call 96; refine (count_ok _ _ _ _ _ _ (by simp) (by simp) _).mono ?_; rintro r w1 ⟨rfl, rfl⟩) | (go_at_call 55; refine (HNX.out _ ((Below.refl _ _).alloc (Nat.le_refl _) _)).mono ?_; rintro r w2 ⟨cs2, U2, T, C, rfl, hcj, hd2⟩; have HCJ := Lib.hid hcj; have HD2 := Lib.hid hd2; clear hcj hd2))
  go_ret
  exact res_new HD2.out _ ⟨.inr rfl, by rw [HCJ.out]; simp [World.cell?_alloc_new, cv]⟩
/-- Two nodes are built, the first one first. -/
theorem two_apt {e : Env} {a b : Nat} (hs : Sep e.ns [a, b]) : Apt e.ns [a] [b] := (show Sep e.ns ([a] ++ [b]) from hs).app.2.2
def IdxR (e : Env) (w : World) (cs : Pl) (U : Nat → Prop) (a b : Nat) : Ending → World → Prop := Res e w cs U [a, b] 128 (fun rd cs' B => rd ⟨B, 0, none⟩ (cv (cs' a)) ∧ rd ⟨B, 1, none⟩ (cv (cs' b)) ∧ rd ⟨B, 4, none⟩ (.pointer none))
set_option maxRecDepth 100000 in
set_option maxHeartbeats 4000000 in
theorem both_index {e : Env} (hft : Fit e.ns) (a b : Nat) (hna : NodeC e a) (hnb : NodeC e b) (hs : Sep e.ns [a, b]) (w : World) (cs : Pl) (U : Nat → Prop) (hst : St e w cs U) (hfr : Free e.ns cs [a, b]) (B : Nat) (hB : e.N < B) (v : Value) (hp : Plc B w v [a, b]) (o m z : Int) (t : ByteArray) :
    Calls Try.prog 84 #[.pointer (some ⟨e.b, 0, none⟩), .agg #[.int .i64 15, .int .i64 o, .string t, .int .i64 m, .int .i64 z], v] w (IdxR e w cs U a b) := by
  obtain ⟨p, po, pc, rfl, -, -, hBp, -, cx⟩ := hp.at (j := 0) (k := a) rfl
  obtain ⟨p', po', pc', hv, -, -, -, -, cy⟩ := hp.at (j := 1) (k := b) rfl
  have hv2 : p' = p ∧ po' = po := by cases hv; exact ⟨rfl, rfl⟩
  obtain ⟨rfl, rfl⟩ := hv2
  clear hv
  rw [Nat.add_zero] at cx
  have hpN : p' ≠ e.N := by omega
  have S1 := Lib.hid (show ∀ w', Chg (· = e.N) w w' → (w'.cell? ⟨p', po', none⟩ = some (.int .i64 a) ∧ w'.cell? ⟨p', po' + 1, none⟩ = some (.int .i64 b)) ∧ Chg (· = e.N) w w' from fun w' hc => ⟨⟨hc.cell cx hpN, hc.cell cy hpN⟩, hc⟩)
  have HNX := Lib.hid (fun W (hb : Below w.heap.size w W) => hna.first hft hst (hfr.sub fun x hx => by rw [List.mem_singleton] at hx; simp [hx]) W hb)
  have HNY := Lib.hid (fun W cs1 U1 (hd : Done e (Rs e.ns [a]) w W cs cs1 U U1) => hnb.nx hft (hfr.sub fun x hx => by rw [List.mem_singleton] at hx; simp [hx]) (two_apt hs) W cs1 U1 hd)
  clear hp hna hnb hst hfr hft cx cy hs hB hBp
  go_enter Try.func84, Try.ntmps84
  go_wp2_with (go_at_call 96; refine (count_ok _ _ _ _ _ _ (by simp) (by simp) _).mono ?_; rintro r w1 ⟨rfl, rfl⟩)
  go_region_held3 (fun w' => (w'.cell? ⟨p', po', none⟩ = some (.int .i64 a) ∧ w'.cell? ⟨p', po' + 1, none⟩ = some (.int .i64 b)) ∧ Chg (· = e.N) w w')
    (first | (with_reducible exact S1.out _ ((Chg.refl _ _).alloc _).drew) | (with_reducible exact S1.out _ HD3.out.chg) | (with_reducible exact S1.out _ HD2.out.chg) | (with_reducible exact S1.out _ (HD3.out.chg.alloc _)))
    (first | (go_at_call_of 55 (Value.int IntKind.i64 a); refine (HNX.out _ (((Below.refl _ _).alloc (Nat.le_refl _) _).drew)).mono ?_; rintro r w2 ⟨cs2, U2, T, C, rfl, hcj, hd2⟩; have HCJ := Lib.hid hcj; have HD2 := Lib.hid hd2; clear hcj hd2) | (go_at_call_of 55 (Value.int IntKind.i64 b); refine (HNY.out _ _ _ HD2.out).mono ?_; rintro r w3 ⟨cs3, U3, T3, C3, rfl, hcj, hke, hd2, -⟩; have HCK := Lib.hid hcj; have HKE := Lib.hid hke; have HD3 := Lib.hid hd2; clear hcj hd2 hke))
  go_wp2
  go_ret
  refine res_new HD3.out _ ⟨⟨.inr rfl, ?_⟩, ⟨.inr rfl, ?_⟩, ⟨.inr rfl, ?_⟩⟩
  · rw [HKE.out a (by simp), HCJ.out]; simp [World.cell?_alloc_new, cv]
  · rw [HCK.out]; simp [World.cell?_alloc_new, cv]
  · simp [World.cell?_alloc_new]
end Go.Proofs.Ytincgkolpicipaa.kin
namespace Go.Proofs.Ytincgkolpicipaa.ops
open Go.RowKit

def bopL : List Int := [5, 5, 5, 6, 6, 7, 7, 8, 8, 8, 8, 8, 9, 9, 10, 11, 12, 13, 14]
set_option maxRecDepth 100000 in
theorem bop_any (k : Nat) (hk : k < 19) (w : World) : Calls Try.prog 53 #[.int .i64 k] w fun e w' => e = .returned (.int .i64 (bopL.getD k 0)) ∧ w = w' := by
  have h : k = 0 ∨ k = 1 ∨ k = 2 ∨ k = 3 ∨ k = 4 ∨ k = 5 ∨ k = 6 ∨ k = 7 ∨ k = 8 ∨ k = 9 ∨ k = 10 ∨ k = 11 ∨ k = 12 ∨ k = 13 ∨ k = 14 ∨ k = 15 ∨ k = 16 ∨ k = 17 ∨ k = 18 := by omega
  clear hk
  rcases h with rfl | rfl | rfl | rfl | rfl | rfl | rfl | rfl | rfl | rfl | rfl | rfl | rfl | rfl | rfl | rfl | rfl | rfl | rfl
  all_goals
    go_enter Try.func53, Try.ntmps53
    go_wp2
    go_ret
    exact ⟨rfl, rfl⟩
def opL : List Int := [0, 0, 1, 2, 3, 4, 5, 6, 9, 10, 7, 8, 11, 12, 13, 14, 15, 16, 17, 18]
def sgL : List ByteArray := [⟨#[]⟩, ⟨#[42]⟩, ⟨#[47]⟩, ⟨#[37]⟩, ⟨#[43]⟩, ⟨#[45]⟩, ⟨#[60, 60]⟩, ⟨#[62, 62]⟩, ⟨#[60]⟩, ⟨#[60, 61]⟩, ⟨#[62]⟩, ⟨#[62, 61]⟩, ⟨#[105, 110]⟩, ⟨#[61, 61]⟩, ⟨#[33, 61]⟩, ⟨#[38]⟩, ⟨#[94]⟩, ⟨#[124]⟩, ⟨#[38, 38]⟩, ⟨#[124, 124]⟩]
theorem binaries_any (w : World) : Calls Try.prog 52 #[] w fun e w' => e = .returned (.slice (some ⟨w.heap.size, 0, none⟩) 20 20) ∧ w.alloc (.cells (opL.map fun z => Value.int .i64 z).toArray 58) = w' := by
  go_enter Try.func52, Try.ntmps52
  go_wp2
  go_ret
  exact ⟨rfl, rfl⟩
set_option maxRecDepth 100000 in
theorem binaryOp_any (x : Nat) (h0 : 1 ≤ x) (h1 : x < 20) (w : World) : Calls Try.prog 27 #[.int .i64 x] w fun e w' => e = .returned (.tuple #[.int .i64 (opL.getD x 0), .bool true]) ∧ w.alloc (.cells (opL.map fun z => Value.int .i64 z).toArray 58) = w' := by
  have hc : (w.alloc (.cells (opL.map fun z => Value.int .i64 z).toArray 58)).cell? ⟨w.heap.size, x, none⟩ = some (.int .i64 (opL.getD x 0)) := by
    rw [World.cell?_alloc_at _ _ _ _ rfl]
    have hl : x < opL.length := h1
    simp [List.getD_eq_getElem?_getD, List.getElem?_eq_getElem hl]
  have hx : (1 : Int) ≤ (x : Int) := by omega
  have hx2 : (x : Int) < 20 := by omega
  have hd1 : decide ((x : Int) < 1) = false := decide_eq_false (by omega)
  have hd2 : decide ((20 : Int) ≤ (x : Int)) = false := decide_eq_false (by omega)
  generalize opL.getD x 0 = z at hc ⊢
  generalize hC : (opL.map fun z => Value.int .i64 z).toArray = C at hc ⊢
  have HB : Hid (∀ w, Calls Try.prog 52 #[] w fun e w' => e = .returned (.slice (some ⟨w.heap.size, 0, none⟩) 20 20) ∧ w.alloc (.cells C 58) = w') := by rw [← hC]; exact Lib.hid binaries_any
  clear hC
  go_enter Try.func27, Try.ntmps27
  go_wp2_with (go_at_call 52; refine (HB.out _).mono ?_; rintro e w' ⟨rfl, rfl⟩)
  go_ret2
  exact ⟨rfl, rfl⟩
theorem opF : ∀ x : Fin 20, 0 ≤ opL.getD x.val 0 ∧ opL.getD x.val 0 < 19 := by decide
theorem opL_in (x : Nat) (h1 : x < 20) : ∃ k : Nat, k < 19 ∧ opL.getD x 0 = (k : Int) := by
  have h := opF ⟨x, h1⟩
  simp only at h
  exact ⟨(opL.getD x 0).toNat, by omega, by omega⟩
theorem bp_any (k : Nat) (hk : k < 19) (w : World) : Calls Try.prog 28 #[.int .i64 k] w fun e w' => e = .returned (.int .i64 (bopL.getD k 0)) ∧ w = w' := by
  have H := Lib.hid (bop_any k hk)
  clear hk
  generalize bopL.getD k 0 = p at H ⊢
  go_enter Try.func28, Try.ntmps28
  go_wp2_with (go_at_call 53; refine (H.out _).mono ?_; rintro e w' ⟨rfl, rfl⟩)
  go_ret
  exact ⟨rfl, rfl⟩
/-- The precedence of the operator x. -/
def prec (x : Nat) : Int := bopL.getD (opL.getD x 0).toNat 0
theorem prec_any (x : Nat) (h0 : 1 ≤ x) (h1 : x < 20) (w : World) : Calls Try.prog 11 #[.int .i64 x] w fun e w' => e = .returned (.int .i64 (prec x)) ∧ Below w.heap.size w w' := by
  obtain ⟨k, hk, hx⟩ := opL_in x h1
  have H1 := Lib.hid (fun w => binaryOp_any x h0 h1 w)
  have H2 := Lib.hid (bp_any k hk)
  have hp : prec x = bopL.getD k 0 := by unfold prec; rw [hx]; rfl
  rw [hp]
  rw [hx] at H1
  clear hk hx h0 h1 hp
  generalize bopL.getD k 0 = p at H2 ⊢
  go_enter Try.func11, Try.ntmps11
  go_wp2_with (first | (go_at_call 27; refine (H1.out _).mono ?_; rintro e w' ⟨rfl, rfl⟩) | (go_at_call 28; refine (H2.out _).mono ?_; rintro e w' ⟨rfl, rfl⟩))
  go_ret
  exact ⟨rfl, (Below.refl _ _).alloc (Nat.le_refl _) _⟩

/-- The sign of the operator x. -/
def sg (x : Nat) : ByteArray := sgL.getD x ⟨#[]⟩
set_option maxRecDepth 100000 in
theorem signs_any (x : Nat) (h1 : x < 20) (w : World) : Calls Try.prog 13 #[.int .i64 x] w fun e w' => e = .returned (.string (sg x)) ∧ Below w.heap.size w w' := by
  have hc : ((w.alloc (.cells (sgL.map fun z => Value.string z).toArray 9))).cell? ⟨w.heap.size, x, none⟩ = some (.string (sg x)) := by
    rw [World.cell?_alloc_at _ _ _ _ rfl]
    have hl : x < sgL.length := h1
    simp [sg, List.getD_eq_getElem?_getD, List.getElem?_eq_getElem hl]
  have hx2 : (x : Int) < 20 := by omega
  have hC : (sgL.map fun z => Value.string z).toArray = #[.string ⟨#[]⟩, .string ⟨#[42]⟩, .string ⟨#[47]⟩, .string ⟨#[37]⟩, .string ⟨#[43]⟩, .string ⟨#[45]⟩, .string ⟨#[60, 60]⟩, .string ⟨#[62, 62]⟩, .string ⟨#[60]⟩, .string ⟨#[60, 61]⟩, .string ⟨#[62]⟩, .string ⟨#[62, 61]⟩, .string ⟨#[105, 110]⟩, .string ⟨#[61, 61]⟩, .string ⟨#[33, 61]⟩, .string ⟨#[38]⟩, .string ⟨#[94]⟩, .string ⟨#[124]⟩, .string ⟨#[38, 38]⟩, .string ⟨#[124, 124]⟩] := rfl
  rw [hC] at hc
  clear hC
  generalize sg x = z at hc ⊢
  go_enter Try.func13, Try.ntmps13
  go_wp2
  go_ret
  exact ⟨rfl, (Below.refl _ _).alloc (Nat.le_refl _) _⟩
def levL : List Int := [3, 3, 3, 4, 4, 5, 5, 6, 6, 6, 6, 6, 7, 7, 8, 9, 10, 11, 12]
def lev (x : Nat) : Int := levL.getD (x - 1) 0
def namesC : Array Value := #[.string ⟨#[42]⟩, .string ⟨#[47]⟩, .string ⟨#[37]⟩, .string ⟨#[43]⟩, .string ⟨#[45]⟩, .string ⟨#[60, 60]⟩, .string ⟨#[62, 62]⟩, .string ⟨#[60]⟩, .string ⟨#[60, 61]⟩, .string ⟨#[62]⟩, .string ⟨#[62, 61]⟩, .string ⟨#[105, 110]⟩, .string ⟨#[61, 61]⟩, .string ⟨#[33, 61]⟩, .string ⟨#[38]⟩, .string ⟨#[94]⟩, .string ⟨#[124]⟩, .string ⟨#[38, 38]⟩, .string ⟨#[124, 124]⟩]
def levelsC : Array Value := #[.int .i64 3, .int .i64 3, .int .i64 3, .int .i64 4, .int .i64 4, .int .i64 5, .int .i64 5, .int .i64 6, .int .i64 6, .int .i64 6, .int .i64 6, .int .i64 6, .int .i64 7, .int .i64 7, .int .i64 8, .int .i64 9, .int .i64 10, .int .i64 11, .int .i64 12]
theorem names_at (k : Nat) (h : k < 19) : namesC[k]? = some (.string (sg (k + 1))) := by
  have hC : namesC = ((sgL.drop 1).map fun z => Value.string z).toArray := rfl
  rw [hC]
  have hl : k < (sgL.drop 1).length := h
  have hl2 : k + 1 < sgL.length := by simp [sgL]; omega
  have e : sg (k + 1) = (sgL.drop 1)[k] := by
    rw [List.getElem_drop]
    simp [sg, List.getD_eq_getElem?_getD, List.getElem?_eq_getElem hl2, Nat.add_comm]
  rw [e]
  simp
theorem levels_at (k : Nat) (h : k < 19) : levelsC[k]? = some (.int .i64 (lev (k + 1))) := by
  have hC : levelsC = (levL.map fun z => Value.int .i64 z).toArray := rfl
  rw [hC]
  have hl : k < levL.length := h
  simp [lev, List.getD_eq_getElem?_getD, List.getElem?_eq_getElem hl]
theorem sg_ne : ∀ a b : Fin 20, a ≠ b → (sg a.val).data ≠ (sg b.val).data := by decide +kernel

set_option maxRecDepth 100000 in
theorem binds_any (x : Nat) (h0 : 1 ≤ x) (h1 : x < 20) (w : World) : Calls Try.prog 12 #[.string (sg x)] w fun e w' => e = .returned (.tuple #[.int .i64 (lev x), .int .i64 x]) ∧ Below w.heap.size w w' := by
  have HN := Lib.hid names_at
  have HL := Lib.hid levels_at
  have hN : namesC = #[.string ⟨#[42]⟩, .string ⟨#[47]⟩, .string ⟨#[37]⟩, .string ⟨#[43]⟩, .string ⟨#[45]⟩, .string ⟨#[60, 60]⟩, .string ⟨#[62, 62]⟩, .string ⟨#[60]⟩, .string ⟨#[60, 61]⟩, .string ⟨#[62]⟩, .string ⟨#[62, 61]⟩, .string ⟨#[105, 110]⟩, .string ⟨#[61, 61]⟩, .string ⟨#[33, 61]⟩, .string ⟨#[38]⟩, .string ⟨#[94]⟩, .string ⟨#[124]⟩, .string ⟨#[38, 38]⟩, .string ⟨#[124, 124]⟩] := rfl
  have hL : levelsC = #[.int .i64 3, .int .i64 3, .int .i64 3, .int .i64 4, .int .i64 4, .int .i64 5, .int .i64 5, .int .i64 6, .int .i64 6, .int .i64 6, .int .i64 6, .int .i64 6, .int .i64 7, .int .i64 7, .int .i64 8, .int .i64 9, .int .i64 10, .int .i64 11, .int .i64 12] := rfl
  generalize namesC = N at HN hN
  generalize levelsC = L at HL hL
  generalize hs : sg x = s
  go_enter Try.func12, Try.ntmps12
  go_wp2
  rw [← hN, ← hL]
  clear hN hL
  have hcn : Hid (∀ k, k < 19 → ((w.alloc (Obj.cells N 9)).alloc (Obj.cells L 3)).cell? ⟨w.heap.size, k, none⟩ = some (.string (sg (k + 1)))) := fun k hk => by
    rw [World.cell?_alloc_past _ _ _ (by simp), World.cell?_alloc_at _ _ _ _ rfl, HN.out k hk]
  have hcl : Hid (∀ k, k < 19 → ((w.alloc (Obj.cells N 9)).alloc (Obj.cells L 3)).cell? ⟨w.heap.size + 1, k, none⟩ = some (.int .i64 (lev (k + 1)))) := fun k hk => by
    rw [World.cell?_alloc_at _ _ _ _ (by simp), HL.out k hk]
  have HB : Hid (Below w.heap.size w ((w.alloc (Obj.cells N 9)).alloc (Obj.cells L 3))) := ((Below.refl _ _).alloc (Nat.le_refl _) _).alloc (by simp) _
  generalize ((w.alloc (Obj.cells N 9)).alloc (Obj.cells L 3)) = W at hcn hcl HB ⊢
  clear HN HL
  go_loopw [2, 3, 6] (fun _ _ i wx => ∃ k : Nat, i = .int .i64 k ∧ k < x ∧ wx = W) (fun _ _ i _ => x - (intOf i).toNat)
  case atStart => exact ⟨0, rfl, by omega, rfl⟩
  case round =>
    obtain ⟨k, rfl, hk, rfl⟩ := hrel
    have c1 := hcn.out k (by omega)
    have c2 := hcl.out k (by omega)
    have hk1 : (k : Int) < 19 := by omega
    have hw : wrap64 ((k : Int) + 1) = ((k + 1 : Nat) : Int) := by unfold wrap64; omega
    by_cases e : k + 1 = x
    · rw [e, hs] at c1
      rw [e] at c2
      have HE := Lib.hid e
      have he : ((k : Int) + 1) = (x : Int) := by omega
      clear e hs
      go_wp2
      go_ret2
      exact ⟨rfl, HB.out⟩
    · have hne : (sg (k + 1)).data ≠ s.data := by
        have := sg_ne ⟨k + 1, by omega⟩ ⟨x, h1⟩ (fun h => e (by simpa using h))
        rw [hs] at this
        exact this
      generalize sg (k + 1) = t at c1 hne
      have hb : (t.toList == s.toList) = false := by
        rw [ByteArray.toList_eq, ByteArray.toList_eq]
        cases h : t.data.toList == s.data.toList
        · rfl
        · exact (hne (Array.toList_inj.1 (eq_of_beq h))).elim
      clear hs hne
      go_wp2
      exact ⟨⟨k + 1, by simp, by omega, trivial⟩, by simp [intOf]; omega⟩
end Go.Proofs.Ytincgkolpicipaa.ops
namespace Go.Proofs.Ytincgkolpicipaa.kin
open Go.RowKit
open Go.Proofs.Ytincgkolpicipaa.stack (step_after Chg owns_chg owns_form)
theorem binaryOp_ok (x : Int) (h : 1 ≤ x ∧ x ≤ 19) (w : World) : Calls Try.prog 27 #[.int .i64 x] w fun r w' => (∃ y : Int, r = .returned (.tuple #[.int .i64 y, .bool true])) ∧ Below w.heap.size w w' := by
  obtain ⟨n, rfl⟩ : ∃ n : Nat, x = n := ⟨x.toNat, by omega⟩
  refine (ops.binaryOp_any n (by omega) (by omega) w).mono ?_
  rintro r w' ⟨hr, rfl⟩
  exact ⟨⟨_, hr⟩, (Below.refl _ _).alloc (Nat.le_refl _) _⟩
def BinR (e : Env) (w : World) (cs : Pl) (U : Nat → Prop) (a b : Nat) : Ending → World → Prop := Res e w cs U [a, b] 132 (fun rd cs' B => rd ⟨B, 1, none⟩ (cv (cs' a)) ∧ rd ⟨B, 0, none⟩ (cv (cs' b)))
set_option maxRecDepth 100000 in
set_option maxHeartbeats 4000000 in
theorem both_binary {e : Env} (hft : Fit e.ns) (a b : Nat) (hna : NodeC e a) (hnb : NodeC e b) (hs : Sep e.ns [a, b]) (w : World) (cs : Pl) (U : Nat → Prop) (hst : St e w cs U) (hfr : Free e.ns cs [a, b]) (B : Nat) (hB : e.N < B) (v : Value) (hp : Plc B w v [a, b]) (o m z : Int) (t : ByteArray) (ho : 1 ≤ o ∧ o ≤ 19) :
    Calls Try.prog 84 #[.pointer (some ⟨e.b, 0, none⟩), .agg #[.int .i64 23, .int .i64 o, .string t, .int .i64 m, .int .i64 z], v] w (BinR e w cs U a b) := by
  obtain ⟨p, po, pc, rfl, -, -, hBp, -, cx⟩ := hp.at (j := 0) (k := a) rfl
  obtain ⟨p', po', pc', hv, -, -, -, -, cy⟩ := hp.at (j := 1) (k := b) rfl
  have hv2 : p' = p ∧ po' = po := by cases hv; exact ⟨rfl, rfl⟩
  obtain ⟨rfl, rfl⟩ := hv2
  clear hv
  rw [Nat.add_zero] at cx
  have hpN : p' ≠ e.N := by omega
  have S1 := Lib.hid (show ∀ w', Chg (· = e.N) w w' → (w'.cell? ⟨p', po', none⟩ = some (.int .i64 a) ∧ w'.cell? ⟨p', po' + 1, none⟩ = some (.int .i64 b)) ∧ Chg (· = e.N) w w' from fun w' hc => ⟨⟨hc.cell cx hpN, hc.cell cy hpN⟩, hc⟩)
  have HNX := Lib.hid (fun W (hb : Below w.heap.size w W) => hna.first hft hst (hfr.sub fun x hx => by rw [List.mem_singleton] at hx; simp [hx]) W hb)
  have HNY := Lib.hid (fun W cs1 U1 (hd : Done e (Rs e.ns [a]) w W cs cs1 U U1) => hnb.nx hft (hfr.sub fun x hx => by rw [List.mem_singleton] at hx; simp [hx]) (two_apt hs) W cs1 U1 hd)
  have HO := Lib.hid (fun w' (hb : Below w.heap.size w w') => (binaryOp_ok o ho w').mono (R' := fun r w'' => (∃ y : Int, r = .returned (.tuple #[.int .i64 y, .bool true])) ∧ Below w.heap.size w w'') fun r w'' h => ⟨h.1, step_after hb h.2⟩)
  clear hp hna hnb hst hfr hft cx cy hs hB hBp ho
  go_enter Try.func84, Try.ntmps84
  go_wp2_with (first | (go_at_call 27; refine (HO.out _ ((Below.refl _ _).alloc (Nat.le_refl _) _)).mono ?_; rintro r w1 ⟨⟨y, rfl⟩, hb⟩; have HB := Lib.hid hb; obtain ⟨⟨d0, d1⟩, -⟩ := S1.out _ (Chg.below hb); clear hb) | (go_at_call 96; refine (count_ok _ _ _ _ _ _ (by simp) (by simp) _).mono ?_; rintro r w2 ⟨rfl, rfl⟩))
  go_region_held3 (fun w' => (w'.cell? ⟨p', po', none⟩ = some (.int .i64 a) ∧ w'.cell? ⟨p', po' + 1, none⟩ = some (.int .i64 b)) ∧ Chg (· = e.N) w w')
    (first | (with_reducible exact S1.out _ (Chg.below HB.out).drew) | (with_reducible exact S1.out _ HD3.out.chg) | (with_reducible exact S1.out _ HD2.out.chg) | (with_reducible exact S1.out _ (HD3.out.chg.alloc _)))
    (first | (go_at_call_of 55 (Value.int IntKind.i64 a); refine (HNX.out _ (HB.out.drew)).mono ?_; rintro r w2 ⟨cs2, U2, T, C, rfl, hcj, hd2⟩; have HCJ := Lib.hid hcj; have HD2 := Lib.hid hd2; clear hcj hd2) | (go_at_call_of 55 (Value.int IntKind.i64 b); refine (HNY.out _ _ _ HD2.out).mono ?_; rintro r w3 ⟨cs3, U3, T3, C3, rfl, hcj, hke, hd2, -⟩; have HCK := Lib.hid hcj; have HKE := Lib.hid hke; have HD3 := Lib.hid hd2; clear hcj hd2 hke))
  go_wp2
  go_ret
  refine res_new HD3.out _ ⟨⟨.inr rfl, ?_⟩, ⟨.inr rfl, ?_⟩⟩
  · rw [HKE.out a (by simp), HCJ.out]; simp [World.cell?_alloc_new, cv]
  · rw [HCK.out]; simp [World.cell?_alloc_new, cv]
def Cnd2R (e : Env) (w : World) (cs : Pl) (U : Nat → Prop) (a b : Nat) : Ending → World → Prop := Res e w cs U [a, b] 148 (fun rd cs' B => rd ⟨B, 0, none⟩ (cv (cs' a)) ∧ rd ⟨B, 1, none⟩ (cv (cs' b)) ∧ rd ⟨B, 2, none⟩ .nilIface)
set_option maxRecDepth 100000 in
set_option maxHeartbeats 4000000 in
theorem cond_two {e : Env} (hft : Fit e.ns) (a b : Nat) (hna : NodeC e a) (hnb : NodeC e b) (hs : Sep e.ns [a, b]) (w : World) (cs : Pl) (U : Nat → Prop) (hst : St e w cs U) (hfr : Free e.ns cs [a, b]) (B : Nat) (hB : e.N < B) (v : Value) (hp : Plc B w v [a, b]) :
    Calls Try.prog 101 #[.pointer (some ⟨e.b, 0, none⟩), v] w (Cnd2R e w cs U a b) := by
  obtain ⟨p, po, pc, rfl, -, -, hBp, -, cx⟩ := hp.at (j := 0) (k := a) rfl
  obtain ⟨p', po', pc', hv, -, -, -, -, cy⟩ := hp.at (j := 1) (k := b) rfl
  have hv2 : p' = p ∧ po' = po := by cases hv; exact ⟨rfl, rfl⟩
  obtain ⟨rfl, rfl⟩ := hv2
  clear hv
  rw [Nat.add_zero] at cx
  have hpN : p' ≠ e.N := by omega
  have hcore := hst.base.c1
  have S1 := Lib.hid (show ∀ w', Chg (· = e.N) w w' → (w'.cell? ⟨p', po', none⟩ = some (.int .i64 a) ∧ w'.cell? ⟨p', po' + 1, none⟩ = some (.int .i64 b)) ∧ Chg (· = e.N) w w' from fun w' hc => ⟨⟨hc.cell cx hpN, hc.cell cy hpN⟩, hc⟩)
  have HNX := Lib.hid (fun W (hb : Below w.heap.size w W) => hna.first hft hst (hfr.sub fun x hx => by rw [List.mem_singleton] at hx; simp [hx]) W hb)
  have HNY := Lib.hid (fun W cs1 U1 (hd : Done e (Rs e.ns [a]) w W cs cs1 U U1) => hnb.nx hft (hfr.sub fun x hx => by rw [List.mem_singleton] at hx; simp [hx]) (two_apt hs) W cs1 U1 hd)
  clear hp hna hnb hst hfr hft hs hB hBp
  go_enter Try.func101, Try.ntmps101
  go_wp2_with (go_at_call 96; refine (count_ok _ _ _ _ _ _ (by simp) (by simp) _).mono ?_; rintro r w1 ⟨rfl, rfl⟩)
  clear cx cy hcore
  go_region_held3 (fun w' => (w'.cell? ⟨p', po', none⟩ = some (.int .i64 a) ∧ w'.cell? ⟨p', po' + 1, none⟩ = some (.int .i64 b)) ∧ Chg (· = e.N) w w')
    (first | (with_reducible exact S1.out _ (Chg.refl _ _).drew) | (with_reducible exact S1.out _ HD3.out.chg) | (with_reducible exact S1.out _ HD2.out.chg) | (with_reducible exact S1.out _ (HD3.out.chg.alloc _)))
    (first | (go_at_call_of 55 (Value.int IntKind.i64 a); refine (HNX.out _ ((Below.refl _ _).drew)).mono ?_; rintro r w2 ⟨cs2, U2, T, C, rfl, hcj, hd2⟩; have HCJ := Lib.hid hcj; have HD2 := Lib.hid hd2; clear hcj hd2) | (go_at_call_of 55 (Value.int IntKind.i64 b); refine (HNY.out _ _ _ HD2.out).mono ?_; rintro r w3 ⟨cs3, U3, T3, C3, rfl, hcj, hke, hd2, -⟩; have HCK := Lib.hid hcj; have HKE := Lib.hid hke; have HD3 := Lib.hid hd2; clear hcj hd2 hke))
  go_wp2
  go_ret
  refine res_new HD3.out _ ⟨⟨.inr rfl, ?_⟩, ⟨.inr rfl, ?_⟩, ⟨.inr rfl, ?_⟩⟩
  · rw [HKE.out a (by simp), HCJ.out]; simp [World.cell?_alloc_new, cv]
  · rw [HCK.out]; simp [World.cell?_alloc_new, cv]
  · simp [World.cell?_alloc_new]
theorem three_apt {e : Env} {a b c : Nat} (hs : Sep e.ns [a, b, c]) : Sep e.ns [a, b] ∧ Apt e.ns [a, b] [c] := by
  have h := (show Sep e.ns ([a, b] ++ [c]) from hs).app
  exact ⟨h.1, h.2.2⟩
theorem done_setIn {e : Env} {S : Nat → Prop} {w W : World} {cs cs' : Pl} {U U' : Nat → Prop} (h : Done e S w W cs cs' U U') {B : Nat} (h1 : w.heap.size ≤ B) (h2 : ¬ U' B) (h3 : B ≠ e.N) (j : Nat) (u : Value) : Done e S w (W.setCell ⟨B, j, none⟩ u) cs cs' U U' :=
  h.step (X := (· = B)) (Chg.setCell (X := (· = B)) (p := ⟨B, j, none⟩) (Chg.refl _ W) (fun _ => rfl) u) fun C hC => by subst hC; exact ⟨h1, h2, h3⟩
def Cnd3R (e : Env) (w : World) (cs : Pl) (U : Nat → Prop) (a b c : Nat) : Ending → World → Prop := Res e w cs U [a, b, c] 148 (fun rd cs' B => rd ⟨B, 0, none⟩ (cv (cs' a)) ∧ rd ⟨B, 1, none⟩ (cv (cs' b)) ∧ rd ⟨B, 2, none⟩ (cv (cs' c)))
set_option maxRecDepth 100000 in
set_option maxHeartbeats 4000000 in
theorem cond_three {e : Env} (hft : Fit e.ns) (a b c : Nat) (hna : NodeC e a) (hnb : NodeC e b) (hnc : NodeC e c) (hs : Sep e.ns [a, b, c]) (w : World) (cs : Pl) (U : Nat → Prop) (hst : St e w cs U) (hfr : Free e.ns cs [a, b, c]) (B : Nat) (hB : e.N < B) (v : Value) (hp : Plc B w v [a, b, c]) :
    Calls Try.prog 101 #[.pointer (some ⟨e.b, 0, none⟩), v] w (Cnd3R e w cs U a b c) := by
  obtain ⟨p, po, pc, rfl, -, -, hBp, -, cx⟩ := hp.at (j := 0) (k := a) rfl
  obtain ⟨p', po', pc', hv, -, -, -, -, cy⟩ := hp.at (j := 1) (k := b) rfl
  have hv2 : p' = p ∧ po' = po := by cases hv; exact ⟨rfl, rfl⟩
  obtain ⟨rfl, rfl⟩ := hv2
  clear hv
  obtain ⟨p, po, pc', hv, -, -, -, -, cz⟩ := hp.at (j := 2) (k := c) rfl
  have hv2 : p = p' ∧ po = po' := by cases hv; exact ⟨rfl, rfl⟩
  obtain ⟨rfl, rfl⟩ := hv2
  clear hv
  rw [Nat.add_zero] at cx
  have hpN : p ≠ e.N := by omega
  have hcore := hst.base.c1
  have S1 := Lib.hid (show ∀ w', Chg (· = e.N) w w' → (w'.cell? ⟨p, po, none⟩ = some (.int .i64 a) ∧ w'.cell? ⟨p, po + 1, none⟩ = some (.int .i64 b)) ∧ Chg (· = e.N) w w' from fun w' hc => ⟨⟨hc.cell cx hpN, hc.cell cy hpN⟩, hc⟩)
  have S2 := Lib.hid (show ∀ w', Chg (· = e.N) w w' → w'.cell? ⟨p, po + 2, none⟩ = some (.int .i64 c) from fun w' hc => hc.cell cz hpN)
  have HNX := Lib.hid (fun W (hb : Below w.heap.size w W) => hna.first hft hst (hfr.sub fun x hx => by rw [List.mem_singleton] at hx; simp [hx]) W hb)
  have HNY := Lib.hid (fun W cs1 U1 (hd : Done e (Rs e.ns [a]) w W cs cs1 U U1) => hnb.nx hft (hfr.sub fun x hx => by rw [List.mem_singleton] at hx; simp [hx]) (two_apt (three_apt hs).1) W cs1 U1 hd)
  have HNZ := Lib.hid (fun W cs1 U1 (hd : Done e (Rs e.ns [a, b]) w W cs cs1 U U1) => hnc.nx hft (hfr.sub fun x hx => by rw [List.mem_singleton] at hx; simp [hx]) (three_apt hs).2 W cs1 U1 hd)
  have HN := Lib.hid hst.nlt
  clear hp hna hnb hnc hst hfr hft hs hB hBp
  go_enter Try.func101, Try.ntmps101
  go_wp2_with (go_at_call 96; refine (count_ok _ _ _ _ _ _ (by simp) (by simp) _).mono ?_; rintro r w1 ⟨rfl, rfl⟩)
  clear cx cy cz hcore
  go_region_held3 (fun w' => (w'.cell? ⟨p, po, none⟩ = some (.int .i64 a) ∧ w'.cell? ⟨p, po + 1, none⟩ = some (.int .i64 b)) ∧ Chg (· = e.N) w w')
    (first | (with_reducible exact S1.out _ (Chg.refl _ _).drew) | (with_reducible exact S1.out _ HD3.out.chg) | (with_reducible exact S1.out _ HD2.out.chg) | (with_reducible exact S1.out _ (HD3.out.chg.alloc _)))
    (first | (go_at_call_of 55 (Value.int IntKind.i64 a); refine (HNX.out _ ((Below.refl _ _).drew)).mono ?_; rintro r w2 ⟨cs2, U2, T, C, rfl, hcj, hd2⟩; have HCJ := Lib.hid hcj; have HD2 := Lib.hid hd2; clear hcj hd2) | (go_at_call_of 55 (Value.int IntKind.i64 b); refine (HNY.out _ _ _ HD2.out).mono ?_; rintro r w3 ⟨cs3, U3, T3, C3, rfl, hcj, hke, hd2, -⟩; have HCK := Lib.hid hcj; have HKE := Lib.hid hke; have HD3 := Lib.hid hd2; clear hcj hd2 hke))
  have hcz : ∀ o1, (w3.alloc o1).cell? ⟨p, po + 2, none⟩ = some (.int .i64 c) := fun o1 => S2.out _ (HD3.out.chg.alloc o1)
  have NE := Lib.hid (show w3.heap.size ≠ e.N by have := HD3.out.chg.size; have := HN.out; omega)
  go_wp2_with (go_at_call 55; refine (HNZ.out _ _ _ (HD3.out.later ((Below.refl _ _).alloc (Nat.le_refl _) _))).mono ?_; rintro r w4 ⟨cs4, U4, T4, C4, rfl, hcj, hke, hd2, hd1⟩; have hv := row_parts (hd1.chg.keep (heap_alloc_new w3 _) NE.out); obtain ⟨hv1, hv2⟩ := hv; have HCL := Lib.hid hcj; have HKF := Lib.hid hke; have HD4 := Lib.hid hd2; have HDI := Lib.hid hd1; clear hcj hke hd2 hd1)
  go_ret
  have hB1 : w.heap.size ≤ w3.heap.size := HD3.out.chg.size
  have hB2 : ¬ U4 w3.heap.size := HDI.out.apart (by simp) (fun h => absurd (HD3.out.st.lt _ h) (Nat.lt_irrefl _))
  refine ⟨cs4, U4, w3.heap.size, rfl, done_setIn HD4.out hB1 hB2 NE.out _ _, hB1, ?_, hB2, ⟨.inr rfl, ?_⟩, ⟨.inr rfl, ?_⟩, ⟨.inr rfl, ?_⟩⟩
  · exact ((Blk.new w3 _ _).chg HDI.out.chg NE.out).set _ _ _
  · rw [HKF.out a (by simp), HKE.out a (by simp), HCJ.out]; simp [go_sem, hv1, cv]
  · rw [HKF.out b (by simp), HCK.out]; simp [go_sem, hv1, cv]
  · rw [HCL.out]; simp [go_sem, hv1, cv]
end Go.Proofs.Ytincgkolpicipaa.kin
namespace Go.Proofs.Ytincgkolpicipaa.kin
open Go.RowKit
open Go.Proofs.Ytincgkolpicipaa.stack (step_after Chg owns_chg owns_form)
theorem Try.info235 : (Try.prog.info? 235).map (fun i => (i.zero, i.size, i.bytes)) = some (some (.agg #[.slice none 0 0, .string ⟨#[]⟩, .slice none 0 0, .slice none 0 0, .nilIface, .pointer none, .string ⟨#[]⟩, .int .i64 0, .int .i64 0, .int .i64 0, .int .i64 0]), 11, 160) := by kernel_rfl
def fnCells (x vP : Value) : Array Value := #[.slice none 0 0, .slice none 0 0, x, vP, .slice none 0 0, .pointer none, .slice none 0 0, .pointer none, .string ⟨#[]⟩, .int .i64 0, .int .i64 0, .int .i64 0, .int .i64 0, .bool false]
def paCells (t : ByteArray) (x : Value) : Array Value := #[.slice none 0 0, .string t, .slice none 0 0, .slice none 0 0, x, .pointer none, .string ⟨#[]⟩, .int .i64 0, .int .i64 0, .int .i64 0, .int .i64 0]
/-- Where builder.function stands: the params l are built. -/
structure FnS (e : Env) (w : World) (cs : Pl) (U : Nat → Prop) (l : List Nat) (wr : World) (cs1 : Pl) (U1 : Nat → Prop) (vP : Value) (n : Nat) : Prop where
  done : Done e (Rs e.ns l) w wr cs cs1 U U1
  blk : wr.heap[w.heap.size]? = some (.cells (fnCells .nilIface vP) 233 (0, 0))
  row : ∃ xs, Mine wr (w.heap.size + 1) U1 235 11 vP n xs
  out : ¬ U1 w.heap.size
theorem Mine.other {W W' : World} {base : Nat} {U : Nat → Prop} {E : TypeId} {z n : Nat} {v : Value} {xs : List Value} {X : Nat → Prop} (h : Mine W base U E z v n xs) (hc : Chg X W W') (hX : ∀ B, X B → v.ownBlock ≠ some B) : Mine W' base U E z v n xs :=
  ⟨owns_chg h.own hc fun k hk hx => hX k hx hk, h.out⟩
theorem FnS.later {e : Env} {w : World} {cs : Pl} {U : Nat → Prop} {l : List Nat} {wr W : World} {cs1 : Pl} {U1 : Nat → Prop} {vP : Value} {n : Nat} (h : FnS e w cs U l wr cs1 U1 vP n) (hb : Below wr.heap.size wr W) : FnS e w cs U l W cs1 U1 vP n :=
  ⟨h.done.later hb, hkeep hb h.blk, by obtain ⟨xs, hx⟩ := h.row; exact ⟨xs, hx.later hb⟩, h.out⟩
theorem FnS.node {e : Env} {w : World} {cs : Pl} {U : Nat → Prop} {l : List Nat} {wr W : World} {cs1 cs2 : Pl} {U1 U2 : Nat → Prop} {vP : Value} {n j : Nat} (h : FnS e w cs U l wr cs1 U1 vP n) (hN : e.N < w.heap.size) (hd : Done e (Rs e.ns [j]) wr W cs1 cs2 U1 U2) (ha : Apt e.ns l [j]) : FnS e w cs U (l ++ [j]) W cs2 U2 vP n :=
  ⟨h.done.app hd ha, hd.chg.keep h.blk (by omega), by obtain ⟨xs, hx⟩ := h.row; exact ⟨xs, hx.done hd (by omega)⟩, hd.apart (Array.getElem?_eq_some_iff.1 h.blk).1 h.out⟩
theorem FnS.set {e : Env} {w : World} {cs : Pl} {U : Nat → Prop} {l : List Nat} {wr : World} {cs1 : Pl} {U1 : Nat → Prop} {vP : Value} {n Q : Nat} (h : FnS e w cs U l wr cs1 U1 vP n) (hN : e.N < w.heap.size) (hQ : w.heap.size < Q) (hU : ¬ U1 Q) (hv : vP.ownBlock ≠ some Q) (j : Nat) (u : Value) : FnS e w cs U l (wr.setCell ⟨Q, j, none⟩ u) cs1 U1 vP n := by
  have hc : Chg (· = Q) wr (wr.setCell ⟨Q, j, none⟩ u) := Chg.setCell (X := (· = Q)) (p := ⟨Q, j, none⟩) (Chg.refl _ wr) (fun _ => rfl) u
  refine ⟨done_setIn h.done (by omega) hU (by omega) j u, hc.keep h.blk (by omega), ?_, h.out⟩
  obtain ⟨xs, hx⟩ := h.row
  exact ⟨xs, hx.other hc fun B hB => by subst hB; exact hv⟩
theorem Apt.kids {ns : List Nd} (hf : Fit ns) {l : List Nat} {j : Nat} {n : Nd} (hn : ns[j]? = some n) (h : Apt ns l [j]) : Apt ns l (kids ns j) := fun a ha k hk => by
  have := hf.kid hn hk
  rcases h a ha j (by simp) with h | h
  · exact .inl (by omega)
  · exact .inr (by omega)
theorem blk_set {W : World} {Q : Nat} {arr : Array Value} {T : TypeId} (h : W.heap[Q]? = some (.cells arr T (0, 0))) (j : Nat) (u : Value) : (W.setCell ⟨Q, j, none⟩ u).heap[Q]? = some (.cells (arr.setIfInBounds j u) T (0, 0)) := by
  rw [setCell_eq_setRow W Q j arr T (0, 0) u h]
  exact setRow_heap W Q arr _ T _ h
theorem FnS.push {e : Env} {w : World} {cs : Pl} {U : Nat → Prop} {l : List Nat} {wr : World} {cs1 : Pl} {U1 : Nat → Prop} {vP : Value} {n : Nat} {xs : List Value} (h : FnS e w cs U l wr cs1 U1 vP n) (hN : e.N < w.heap.size) (hm : Mine wr (w.heap.size + 1) U1 235 11 vP n xs) (W w2 : World) (hb : Below wr.heap.size wr W) (hg : W.grownBy w2 vP.ownBlock) (g k m : Nat) (ys : List Value) (hown : w2.ownsRow (w.heap.size + 1) 235 11 (.slice (some ⟨g, 0, none⟩) m k) m ys) (hat : vP.ownBlock = some g ∨ g = W.heap.size) :
    w2.heap[w.heap.size]? = some (.cells (fnCells .nilIface vP) 233 (0, 0)) ∧ FnS e w cs U l (w2.setCell ⟨w.heap.size, 3, none⟩ (.slice (some ⟨g, 0, none⟩) m k)) cs1 U1 (.slice (some ⟨g, 0, none⟩) m k) m := by
  have hW := h.later hb
  have hmW := hm.later hb
  have hne : vP.ownBlock ≠ some w.heap.size := fun hx => by have := (own_lt hm.own hx).1; omega
  have hblk : w2.heap[w.heap.size]? = some (.cells (fnCells .nilIface vP) 233 (0, 0)) := by
    rw [hg.block w.heap.size (Array.getElem?_eq_some_iff.1 hW.blk).1 (fun hx => hne hx.symm)]; exact hW.blk
  have hat2 : Value.ownBlock (.slice (some ⟨g, 0, none⟩) m k) = vP.ownBlock ∨ Value.ownBlock (.slice (some ⟨g, 0, none⟩) m k) = some W.heap.size := by
    rcases hat with h | h
    · exact .inl h.symm
    · exact .inr (by rw [← h]; rfl)
  have hgr := hmW.grown hW.done.st.lt hown hat2
  refine ⟨hblk, done_setIn (hW.done.grown hmW (by omega) (by omega) hg) (Nat.le_refl _) h.out (by omega) _ _, blk_set hblk 3 _, ⟨ys, hgr.other (X := (· = w.heap.size)) (Chg.setCell (X := (· = w.heap.size)) (p := ⟨w.heap.size, 3, none⟩) (Chg.refl _ w2) (fun _ => rfl) _) fun B hB hx => by subst hB; have := (own_lt hgr.own hx).1; omega⟩, h.out⟩
/-- The cells of a node that a region of the builder's loads, and what it is told of the world. -/
theorem nodeS {e : Env} {W : World} (hb : Base e W) {i : Nat} {k0 o0 m0 z0 : Int} {t0 : ByteArray} (hn : e.ns[i]? = some ⟨k0, o0, t0, m0, z0⟩) : ∀ w', Below W.heap.size W w' → (w'.cell? ⟨e.b, 0, none⟩ = some (.slice (some ⟨e.q, e.o, none⟩) e.ns.length e.cap) ∧ w'.cell? ⟨e.q, e.o + i * 5, none⟩ = some (.int .i64 k0) ∧ w'.cell? ⟨e.q, e.o + i * 5 + 1, none⟩ = some (.int .i64 o0) ∧ w'.cell? ⟨e.q, e.o + i * 5 + 2, none⟩ = some (.string t0) ∧ w'.cell? ⟨e.q, e.o + i * 5 + 3, none⟩ = some (.int .i64 m0) ∧ w'.cell? ⟨e.q, e.o + i * 5 + 4, none⟩ = some (.int .i64 z0)) ∧ Below W.heap.size W w' := fun w' hb2 => by
  obtain ⟨c0, c1, c2, c3, c4, -⟩ := hb.row i _ hn
  exact ⟨⟨cell_later hb2 hb.c0, cell_later hb2 c0, cell_later hb2 c1, cell_later hb2 c2, cell_later hb2 c3, cell_later hb2 c4⟩, hb2⟩
/-- builder.kids, in the midst of the building. -/
theorem kidsB {e : Env} (hL : e.ns.length ≤ 400) (hft : Fit e.ns) {W : World} (hb : Base e W) {i : Nat} {n : Nd} (hn : e.ns[i]? = some n) : ∀ w', Below W.heap.size W w' → Calls Try.prog 81 #[.pointer (some ⟨e.b, 0, none⟩), .int .i64 i] w' fun r w'' => ∃ v, r = .returned v ∧ Plc W.heap.size w'' v (kids e.ns i) ∧ Below W.heap.size W w'' ∧ Below w'.heap.size w' w'' ∧ Plc w'.heap.size w'' v (kids e.ns i) := fun w' hb2 =>
  (bkids_says e.b e.q e.o e.cap e.ns hL i n hn (hft i n hn) w' (hb.row.later hb2) (cell_later hb2 hb.c0)).mono fun r w'' ⟨⟨v, he, hv⟩, h2⟩ => ⟨v, he, hv.mono hb2.size, step_after hb2 h2, h2, hv⟩
def FnRes (e : Env) (w : World) (cs : Pl) (U : Nat → Prop) (ps : List Nat) (bd : Nat) (r : Ending) (w' : World) : Prop :=
  ∃ (cs' : Pl) (U' : Nat → Prop) (O : Nat) (vP : Value), r = .returned (.pointer (some ⟨O, 0, none⟩)) ∧ Done e (Rs e.ns (ps ++ [bd])) w w' cs cs' U U' ∧ w.heap.size ≤ O ∧ Blk w' O ∧ ¬ U' O ∧ w'.cell? ⟨O, 2, none⟩ = some (cv (cs' bd)) ∧ w'.cell? ⟨O, 3, none⟩ = some vP ∧ (ps = [] → vP = .slice none 0 0)
theorem param_kids {ns : List Nd} (hg : Good ns) {k : Nat} {n : Nd} (hn : ns[k]? = some n) (hk : n.k = 33) : kids ns k = [] ∨ ∃ a, kids ns k = [a] ∧ Ex ns a := by
  have hs := hg.shp k n hn
  generalize kids ns k = ks at hs
  cases hs with
  | param0 h => exact .inl rfl
  | param1 h ha => exact .inr ⟨_, rfl, ha⟩
  | _ => exfalso; omega
set_option maxRecDepth 100000 in
set_option maxHeartbeats 8000000 in
theorem function_does {e : Env} (hg : Good e.ns) (hL : e.ns.length ≤ 400) (ps : List Nat) (bd : Nat) (hpar : Kd e.ns [33] ps) (hno : ∀ p ∈ ps, ∀ a ∈ kids e.ns p, NodeC e a) (hnb : NodeC e bd) (hs : Sep e.ns (ps ++ [bd])) (w : World) (cs : Pl) (U : Nat → Prop) (hst : St e w cs U) (hfr : Free e.ns cs (ps ++ [bd])) (B : Nat) (hB : e.N < B) (v : Value) (hp : Plc B w v (ps ++ [bd])) :
    Calls Try.prog 99 #[.pointer (some ⟨e.b, 0, none⟩), v] w (FnRes e w cs U ps bd) := by
  obtain ⟨i0, hi, hz0, hz1, hz2⟩ := info_parts Try.info235
  obtain ⟨p, po, pc, rfl, hpc, hl, hBp, hpw, cb⟩ := hp.at (j := ps.length) (k := bd) (by rw [List.getElem?_append_right (Nat.le_refl _)]; simp)
  have htake := hp.take rfl
  have hba := (Below.refl w.heap.size w).alloc (Nat.le_refl _) (.cells (fnCells .nilIface (.slice none 0 0)) 233)
  have HS0 := Lib.hid (show FnS e w cs U [] (w.alloc (.cells (fnCells .nilIface (.slice none 0 0)) 233)) cs U (.slice none 0 0) 0 from
    ⟨Done.none hst hba, heap_alloc_new w _, ⟨[], Mine.nil _ _ _ _ _⟩, fun h => absurd (hst.lt _ h) (Nat.lt_irrefl _)⟩)
  have hpN : p ≠ e.N := by omega
  have HP := Lib.hid htake
  have HCB := Lib.hid cb
  have HG := Lib.hid hg
  have HPAR := Lib.hid hpar
  have HNO := Lib.hid hno
  have HNB := Lib.hid hnb
  have HSEP := Lib.hid hs
  have HFR := Lib.hid hfr
  have HN := Lib.hid hst.nlt
  have HPN := Lib.hid hpN
  have HL := Lib.hid hL
  rw [List.length_append] at hpc hl ⊢
  simp only [List.length_cons, List.length_nil, Nat.zero_add] at hpc hl ⊢
  clear hp htake hba hg hpar hno hnb hs hst hfr hB hBp hpw cb hpN hL
  generalize hm : ps.length = m at hpc hl HP HCB ⊢
  have HM := Lib.hid hm
  clear hm
  have w1 : IntKind.i64.wrap ((m : Int) + 1 - 1) = (m : Int) := by rw [IntWalk.i64_in _ (by omega)]; omega
  go_enter Try.func99, Try.ntmps99
  go_wp2
  go_loopw [19] (fun i wr => ∃ (k : Nat) (l : List Nat) (cs1 : Pl) (U1 : Nat → Prop) (vP : Value), k ≤ m ∧ i = .int .i64 k ∧ Hid (l = ps.take k) ∧ Hid (FnS e w cs U l wr cs1 U1 vP l.length) ∧ Hid (l = [] → vP = .slice none 0 0)) (fun i _ => m - (intOf i).toNat)
  case atStart => exact ⟨0, [], cs, U, _, Nat.zero_le _, rfl, Lib.hid (by simp), HS0, Lib.hid fun _ => rfl⟩
  case round =>
    obtain ⟨k, l, cs1, U1, vP, hk, rfl, HLL, HS, HVP⟩ := hrel
    by_cases hlt : k < m
    · obtain ⟨j, hj⟩ := getElem?_lt (show k < ps.length by have := HM.out; omega)
      obtain ⟨p', po', hA, -, -, cx⟩ := HP.out.here hj
      have hA2 : p = p' ∧ po = po' := by cases hA; exact ⟨rfl, rfl⟩
      obtain ⟨rfl, rfl⟩ := hA2
      have cx1 := HS.out.done.chg.cell cx HPN.out
      have hki : (k : Int) < (m : Int) := by omega
      obtain ⟨n, hn, hk33⟩ := HPAR.out j (List.mem_of_getElem? hj)
      have hk33 : n.k = 33 := by simpa using hk33
      have hjl : (j : Int) < (e.ns.length : Int) := by have := (List.getElem?_eq_some_iff.1 hn).1; omega
      have hpk := param_kids HG.out hn hk33
      have HLEN := Lib.hid (show l.length ≤ 400 by rw [HLL.out, List.length_take]; have := HM.out; omega)
      have HLS := Lib.hid (show l ++ [j] = ps.take (k + 1) by rw [HLL.out, List.take_add_one, hj]; rfl)
      have HJP := Lib.hid (List.mem_of_getElem? hj)
      have hapt : Apt e.ns l [j] := by
        have h1 := HSEP.out.app.1
        have hsplit : ps = l ++ j :: ps.drop (k + 1) := by
          rw [HLL.out]
          have h1 : ps.drop k = j :: ps.drop (k + 1) := by
            have hkl := (List.getElem?_eq_some_iff.1 hj).1
            rw [List.drop_eq_getElem_cons hkl]
            rw [List.getElem?_eq_getElem hkl] at hj
            rw [Option.some.inj hj]
          rw [← h1, List.take_append_drop]
        rw [hsplit] at h1
        exact h1.app.2.2.sub (fun _ h => h) (fun x hx => by rw [List.mem_singleton] at hx; simp [hx])
      have HAPT := Lib.hid hapt
      obtain ⟨k0, o0, t0, m0, z0⟩ := n
      dsimp only at hk33
      subst hk33
      have hbase := HS.out.done.st.base
      have S1 := Lib.hid (nodeS hbase hn)
      have HK := Lib.hid (kidsB HL.out HG.out.fit hbase hn)
      have SA := Lib.hid (show ∀ (w' : World) (o1 : Obj), (w'.cell? ⟨e.b, 0, none⟩ = some (.slice (some ⟨e.q, e.o, none⟩) e.ns.length e.cap) ∧ w'.cell? ⟨e.q, e.o + j * 5, none⟩ = some (.int .i64 33) ∧ w'.cell? ⟨e.q, e.o + j * 5 + 1, none⟩ = some (.int .i64 o0) ∧ w'.cell? ⟨e.q, e.o + j * 5 + 2, none⟩ = some (.string t0) ∧ w'.cell? ⟨e.q, e.o + j * 5 + 3, none⟩ = some (.int .i64 m0) ∧ w'.cell? ⟨e.q, e.o + j * 5 + 4, none⟩ = some (.int .i64 z0)) ∧ Below wr.heap.size wr w' → _ from fun w' o1 hh => S1.out (w'.alloc o1) (hh.2.alloc hh.2.size o1))
      have SB := Lib.hid (show ∀ (o1 : Obj), _ from fun o1 => S1.out (wr.alloc o1).drew ((Below.refl _ _).alloc (Nat.le_refl _) o1).drew)
      obtain ⟨⟨e0, n0, n1, n2, n3, n4⟩, -⟩ := S1.out wr (Below.refl _ _)
      have HNJ := Lib.hid hn
      clear cx hj hA hn hbase hapt
      go_upto_region 5 with fail
      go_cut [8, 9] (fun s8 s9 wx => ∃ P : Nat, s8 = .pointer (some ⟨P, 0, none⟩) ∧ Plc wr.heap.size wx s9 (kids e.ns j) ∧ Box wx P 33 o0 m0 z0 t0 ∧ Below wr.heap.size wr wx)
      case first =>
        go_region_held3 (fun w' => (w'.cell? ⟨e.b, 0, none⟩ = some (.slice (some ⟨e.q, e.o, none⟩) e.ns.length e.cap) ∧ w'.cell? ⟨e.q, e.o + j * 5, none⟩ = some (.int .i64 33) ∧ w'.cell? ⟨e.q, e.o + j * 5 + 1, none⟩ = some (.int .i64 o0) ∧ w'.cell? ⟨e.q, e.o + j * 5 + 2, none⟩ = some (.string t0) ∧ w'.cell? ⟨e.q, e.o + j * 5 + 3, none⟩ = some (.int .i64 m0) ∧ w'.cell? ⟨e.q, e.o + j * 5 + 4, none⟩ = some (.int .i64 z0)) ∧ Below wr.heap.size wr w')
          (first | (with_reducible exact S1.out _ ((Below.refl _ _).drew)) | (with_reducible exact SA.out _ _ (by assumption)) | (with_reducible exact S1.out _ hb) | (with_reducible exact S1.out _ (hb.alloc hzw _)) | (with_reducible exact SB.out _) | (with_reducible exact S1.out _ (((((hb.setCell (by exact Nat.le_refl _) _).setCell (by exact Nat.le_refl _) _).setCell (by exact Nat.le_refl _) _).setCell (by exact Nat.le_refl _) _).setCell (by exact Nat.le_refl _) _)))
          (first | (go_at_call 81; refine (HK.out _ (And.right (by assumption))).mono ?_; rintro e w1 ⟨v, rfl, hkd, hb, hb2, hkd2⟩; have HKD := Lib.hid hkd; have HKD2 := Lib.hid hkd2; clear hkd hkd2; have hzw := hb.size; try (first | (have hv := row_parts (hkeep hb2 (heap_alloc_new wr _)); obtain ⟨hv1, hv2⟩ := hv) | (have hv := row_parts (hkeep hb2 (heap_alloc_new wr.drew _)); obtain ⟨hv1, hv2⟩ := hv))))
        all_goals (go_wp2_with fail; go_meet)
        · exact ⟨w1.heap.size, rfl, HKD.out.later ((Below.refl _ _).alloc (Nat.le_refl _) _), ⟨by simp [World.cell?_alloc_new], by simp [World.cell?_alloc_new], by simp [World.cell?_alloc_new], by simp [World.cell?_alloc_new], by simp [World.cell?_alloc_new]⟩, hb.alloc hzw _⟩
        · exact ⟨wr.heap.size, rfl, ((((((HKD2.out.setCell (by simp) _).setCell (by simp) _).setCell (by simp) _).setCell (by simp) _).setCell (by simp) _).mono (by simp)), by simp [Box, go_sem, hv1], (((((hb.setCell (by exact Nat.le_refl _) _).setCell (by exact Nat.le_refl _) _).setCell (by exact Nat.le_refl _) _).setCell (by exact Nat.le_refl _) _).setCell (by exact Nat.le_refl _) _)⟩
      case rest =>
        obtain ⟨P, rfl, hkd, ⟨b0, b1, b2, b3, b4⟩, hb⟩ := hcut
        have HSC := Lib.hid (HS.out.later hb)
        obtain ⟨A2, pc2, rfl, -, -⟩ := hkd.form
        have HKD := Lib.hid hkd
        have HBC := Lib.hid hb
        have hlen1 : (kids e.ns j).length ≤ 1 := by rcases hpk with h | ⟨a, h, -⟩ <;> rw [h] <;> simp
        clear hkd hb e0 n0 n1 n2 n3 n4 S1 SA SB HK cx1
        rename World => wd
        go_upto_if 51 with (go_at_call 96; refine (count_ok _ _ _ _ _ _ (by omega) (by omega) _).mono ?_; rintro r w1 ⟨rfl, rfl⟩)
        go_cut [] (fun wx => ∃ cs2 U2 c, FnS e w cs U (l ++ [j]) wx cs2 U2 vP l.length ∧ wx.heap[wd.heap.size]? = some (.cells (paCells t0 (cv c)) 235 (0, 0)))
        case first =>
          rcases hpk with hk0 | ⟨a, hka, hax⟩
          · have t1 : (((kids e.ns j).length : Int) == 1) = false := by rw [hk0]; rfl
            go_wp2
            go_meet
            have hal := (Below.refl wd.heap.size wd).alloc (Nat.le_refl _) (.cells (paCells t0 .nilIface) 235)
            have hx : ¬ Ex e.ns j := by
              rintro ⟨n, h1, h2, h3⟩
              rw [HNJ.out] at h1; cases h1; simp at h3
            have hd : Done e (Rs e.ns (kids e.ns j)) wd (wd.alloc (.cells (paCells t0 .nilIface) 235)) cs1 cs1 U1 U1 := by rw [hk0]; exact Done.none HSC.out.done.st hal
            exact ⟨cs1, U1, none, HSC.out.node HN.out (hd.upTo HG.out.fit HNJ.out hx) HAPT.out, heap_alloc_new wd _⟩
          · have t1 : (((kids e.ns j).length : Int) == 1) = true := by rw [hka]; rfl
            have hapk := HAPT.out.kids HG.out.fit HNJ.out
            have hfj : Free e.ns cs (kids e.ns j) := (HFR.out.sub (l := [j]) fun x hx => by rw [List.mem_singleton] at hx; rw [hx]; exact List.mem_append.2 (.inl HJP.out)).kids HG.out.fit HNJ.out
            have hfj1 := HSC.out.done.free hapk hfj
            rw [hka] at hfj1
            have HNA := Lib.hid (fun o1 => HNO.out j HJP.out a (by rw [hka]; simp) (wd.alloc o1) cs1 U1 (HSC.out.done.st.later ((Below.refl _ _).alloc (Nat.le_refl _) o1)) hfj1)
            have HKA := Lib.hid hka
            have NE := Lib.hid (show wd.heap.size ≠ e.N by have h1 := HSC.out.done.chg.size; have h2 := HN.out; omega)
            obtain ⟨A3, ha3, hcA⟩ : ∃ A3, A2 = some A3 ∧ ∀ o1, (wd.alloc o1).cell? A3 = some (.int .i64 a) := by
              have h1 := HKD.out
              obtain ⟨g, go, hg, -, -, hc⟩ := h1.here (j := 0) (k := a) (by rw [hka]; rfl)
              exact ⟨_, hg, fun o1 => cell_later ((Below.refl _ _).alloc (Nat.le_refl _) o1) (by simpa using hc)⟩
            subst ha3
            have hpos : (0 : Int) < ((kids e.ns j).length : Int) := by rw [hka]; simp
            clear hapk hfj hfj1 hka
            go_wp2_with (go_at_call 55; refine (HNA.out _).mono ?_; rintro r w2 ⟨cs2, U2, T, C, rfl, hcj, hd1⟩; have hv := row_parts (hd1.chg.keep (heap_alloc_new wd _) NE.out); obtain ⟨hv1, hv2⟩ := hv; have HCJ := Lib.hid hcj; have HD1 := Lib.hid hd1; clear hcj hd1)
            go_meet
            have hal := (Below.refl wd.heap.size wd).alloc (Nat.le_refl _) (.cells (paCells t0 .nilIface) 235)
            have hx : ¬ Ex e.ns j := by
              rintro ⟨n, h1, h2, h3⟩
              rw [HNJ.out] at h1; cases h1; simp at h3
            have hd : Done e (Rs e.ns (kids e.ns j)) (wd.alloc (.cells (paCells t0 .nilIface) 235)) w2 cs1 cs2 U1 U2 := by rw [HKA.out]; exact HD1.out
            have hf := (HSC.out.later hal).node HN.out (hd.upTo HG.out.fit HNJ.out hx) HAPT.out
            obtain ⟨xs, hxs⟩ := HSC.out.row
            refine ⟨cs2, U2, some (T, C), hf.set HN.out (Array.getElem?_eq_some_iff.1 HSC.out.blk).1 (HD1.out.apart (by simp) fun h => absurd (HSC.out.done.st.lt _ h) (Nat.lt_irrefl _)) (fun h => absurd (own_lt hxs.own h).2 (Nat.lt_irrefl _)) 4 _, ?_⟩
            exact blk_set (HD1.out.chg.keep (heap_alloc_new wd (.cells (paCells t0 .nilIface) 235)) NE.out) 4 _
        case rest =>
          obtain ⟨cs2, U2, c, hf, hpb⟩ := hcut
          obtain ⟨xs, hmine⟩ := hf.row
          obtain ⟨A1, vc, rfl, -⟩ := owns_form hmine.own
          have hO3 : wc.cell? ⟨w.heap.size, 3, none⟩ = some (.slice A1 l.length vc) := by rw [(row_parts hf.blk).1 3]; rfl
          have hO3a : ∀ o, (wc.alloc o).cell? ⟨w.heap.size, 3, none⟩ = some (.slice A1 l.length vc) := fun o => cell_later ((Below.refl _ _).alloc (Nat.le_refl _) o) hO3
          have hP := (row_parts hpb).1
          have HBW := Lib.hid (show ∀ o, Below wc.heap.size wc (wc.alloc o).drew from fun o => ((Below.refl _ _).alloc (Nat.le_refl _) o).drew)
          have HOW := Lib.hid (fun w' (hb : Below wc.heap.size wc w') => (hmine.later hb).own)
          have HST := Lib.hid (hf.push HN.out hmine)
          have HBS := Lib.hid (show w.heap.size + 1 ≤ wc.heap.size from (Array.getElem?_eq_some_iff.1 hf.blk).1)
          have HI := Lib.hid (And.intro hi (And.intro hz0 (And.intro hz1 hz2)))
          have HONE := Lib.hid (show ∀ u ∈ (paCells t0 (cv c)).toList, u.oneCell' = true from fun u hu => by
            simp [paCells] at hu
            rcases hu with rfl | rfl | rfl | rfl | rfl | rfl | rfl
            all_goals first | rfl | exact cv_one c)
          unfold paCells at hP
          clear hi hz0 hz1 hz2 hf hpb hmine
          go_upto_region 12 with fail
          go_region_law
            ((refine step_append_lies _ (by rfl) (.tmp 62) (.tmp 64) 231 (by rfl) (w.heap.size + 1) 235 i0 _ 11 160 Try.underlying231 HI.out.1 HI.out.2.1 HI.out.2.2.1 HI.out.2.2.2 rfl (by decide) (.slice A1 l.length vc) l.length xs (by rfl) (HOW.out _ (HBW.out _)) ⟨wc.heap.size, 0, none⟩ 1 1 (paCells t0 (cv c)).toList (by rfl) rfl (World.news_of_block (heap_alloc_new wc _)) HONE.out (by decide) (by rw [stack.maxLen_eq]; have := HLEN.out; omega) (by have := HLEN.out; omega) (Nat.le_trans HBS.out (HBW.out _).size) _ (by rfl) ?_
              intro g cp w2 hown2 hg2 hat2 hlt2
              have hst := HST.out _ w2 (HBW.out _) hg2 g cp _ _ hown2 hat2
              obtain ⟨q, hq⟩ := hst
              have q1 : w2.cell? ⟨w.heap.size, 3, none⟩ = some (.slice A1 l.length vc) := by rw [(row_parts q).1 3]; rfl
              have q2 := (row_parts q).2 3
              have HQ := Lib.hid hq
              clear q hq hown2 hg2 hat2 hlt2))
          all_goals
            go_wp2
            go_roundw
            case rel => exact ⟨k + 1, l ++ [j], cs2, U2, _, by omega, by go_num, HLS, Lib.hid (by rw [List.length_append]; exact HQ.out), Lib.hid fun h => by simp at h⟩
            case measure => simp [intOf]; omega
    · have hki : ¬ (k : Int) < (m : Int) := by omega
      have hml : (m : Int) < (m : Int) + 1 := by omega
      have hll : l = ps := by rw [HLL.out, List.take_of_length_le (by have := HM.out; omega)]
      subst hll
      have cb1 := HS.out.done.chg.cell HCB.out HPN.out
      have NE := Lib.hid (show w.heap.size ≠ e.N by have := HN.out; omega)
      have HNX := Lib.hid (HNB.out.nx HG.out.fit (HFR.out.sub fun x hx => by rw [List.mem_singleton] at hx; simp [hx]) HSEP.out.app.2.2 wr cs1 U1 HS.out.done)
      have HLT := Lib.hid (show w.heap.size < wr.heap.size from (Array.getElem?_eq_some_iff.1 HS.out.blk).1)
      go_wp2_with (go_at_call 55; refine HNX.out.mono ?_; rintro r w2 ⟨cs2, U2, T, C, rfl, hcj, hke, hd2, hd1⟩; have hv := row_parts (hd1.chg.keep HS.out.blk NE.out); obtain ⟨hv1, hv2⟩ := hv; have HCJ := Lib.hid hcj; have HD2 := Lib.hid hd2; have HD1 := Lib.hid hd1; clear hcj hke hd2 hd1)
      go_ret
      have hO : ¬ U2 w.heap.size := HD1.out.apart HLT.out HS.out.out
      refine ⟨cs2, U2, w.heap.size, vP, rfl, done_setIn HD2.out (Nat.le_refl _) hO NE.out _ _, Nat.le_refl _, ?_, hO, ?_, ?_, HVP.out⟩
      · exact ((show Blk wr w.heap.size from ⟨_, _, HS.out.blk⟩).chg HD1.out.chg NE.out).set _ _ _
      · rw [HCJ.out]; simp [go_sem, hv1, cv, fnCells]
      · simp [go_sem, hv1, fnCells]
end Go.Proofs.Ytincgkolpicipaa.kin
