/- FnTextLength: the length of a string is how many code points it has. -/
import Derived.Test.YtjnlgefcpmppmaaDoorRows
import Derived.WalkKit
import Derived.WalkLawsBesides
import Derived.WalkSpells
import Derived.Laws.RangeAny
import Derived.Lib.Hide
import Derived.Below
import Derived.Test.YtjnlgefcpmppmaaDoorUtfLay
import Derived.Test.YtjnlgefcpmppmaaDoorLawKit
import Derived.Test.YtjnlgefcpmppmaaDoorFp
import Derived.Test.YtjnlgefcpmppmaaDoorCards
import Derived.Test.YtjnlgefcpmppmaaDoorTie
import Derived.ProofKit
import Derived.OpenShut
import Derived.Deep.DeepHandedRow
import Derived.Deep.DeepWitnessRowRef
import Derived.Lib.LaidTab
import Derived.SizedLaws
namespace Go.Proofs.YtjnlgefcpmppmaaDoor.length
open Go.ChangeShapes Go.WideShapes Go.ChangeAt Go.RowKit
open Go.ChangeMaps (open_string shut_string)

/-- How many code points. -/
def points (s : ByteArray) : Nat := (Conv.runesFrom s s.size 0 #[]).size

/-- A string of the evaluator is at a, of so many code points. -/
def StrAt (w : World) (n : Nat) (v : Value) : Prop := ∃ (b : Nat) (o : Option Addr) (c : Nat), v = .iface 124 (.pointer (some ⟨b, 0, none⟩)) ∧ w.cell? ⟨b, 0, none⟩ = some (.slice o n c)

theorem mk_str (s : ByteArray) (w : World) (h46 : points s ≤ 70368744177664) :
    Calls Tryd.prog 30 #[.string s] w fun e w' => (∃ v, e = .returned v ∧ StrAt w' (points s) v) ∧ Below w.heap.size w w' := by
  have hc := run_runes_of_string (P := Tryd.prog) w 9 125 21 s (by kernel_rfl) (by kernel_rfl) (by kernel_rfl) h46
  go_enter Tryd.func30, Tryd.ntmps30
  go_wp2
  go_ret
  exact ⟨⟨_, rfl, w.heap.size + 1, some ⟨w.heap.size, 0, none⟩, grownCap w (Conv.runesFrom s s.size 0 #[]).size 0 21, rfl, by simp [go_sem, points]⟩, ((((Below.refl _ _).alloc (Nat.le_refl _) _).alloc (by simp) _).drew)⟩
theorem str_any (s : ByteArray) (w : World) (h46 : points s ≤ 70368744177664) :
    Calls Tryd.prog 22 #[.string s] w fun e w' => (∃ v, e = .returned v ∧ StrAt w' (points s) v) ∧ Below w.heap.size w w' := by
  go_enter Tryd.func22, Tryd.ntmps22
  go_wp2_with (go_at_call 30; refine (mk_str s _ h46).mono ?_; rintro e w' ⟨⟨v, rfl, b, o, c, rfl, hv⟩, hb⟩)
  go_ret
  exact ⟨⟨_, rfl, b, o, c, rfl, hv⟩, hb⟩
theorem len_any (b : Nat) (o : Option Addr) (n c : Nat) (w : World) (h : w.cell? ⟨b, 0, none⟩ = some (.slice o n c)) :
    Calls Tryd.prog 107 #[.pointer (some ⟨b, 0, none⟩)] w fun e w' => e = .returned (.int .i64 n) ∧ w = w' := by
  go_enter Tryd.func107, Tryd.ntmps107
  go_wp2
  go_ret
  exact ⟨rfl, rfl⟩
theorem num_any (x : Nat) (w : World) :
    Calls Tryd.prog 29 #[.float .f64 x] w fun e w' => e = .returned (.pointer (some ⟨w.heap.size, 0, none⟩)) ∧ w.alloc (.cells #[.float .f64 x] 79) = w' := by
  go_enter Tryd.func29, Tryd.ntmps29
  go_wp2
  go_ret
  exact ⟨rfl, rfl⟩
theorem as_obj (v : Value) (w : World) : (Instr.typeAssert (.iface 124 v) 48 56 true).run Tryd.prog w = .ok (.tuple #[.pointer none, .bool false]) w := by kernel_rfl
theorem as_arr (v : Value) (w : World) : (Instr.typeAssert (.iface 124 v) 48 83 true).run Tryd.prog w = .ok (.tuple #[.pointer none, .bool false]) w := by kernel_rfl
theorem as_str (v : Value) (w : World) : (Instr.typeAssert (.iface 124 v) 48 88 true).run Tryd.prog w = .ok (.tuple #[.iface 124 v, .bool true]) w := by kernel_rfl
theorem length_of (v : Value) (w : World) : (method 394 124 v "given.example/pub-rondel/pub/jsonnet.length").run Tryd.prog w = .ok (107, v) w := by kernel_rfl
set_option maxRecDepth 100000 in
theorem builtin_any (i : Value) (b : Nat) (o : Option Addr) (n c : Nat) (w : World) (h : w.cell? ⟨b, 0, none⟩ = some (.slice o n c)) :
    Calls Tryd.prog 21 #[i, .iface 124 (.pointer (some ⟨b, 0, none⟩))] w fun e w' => e = .returned (.tuple #[.iface 80 (.pointer (some ⟨w.heap.size, 0, none⟩)), .nilIface]) ∧ w.alloc (.cells #[.float .f64 (floatOfInt .f64 n)] 79) = w' := by
  have h1 := as_obj
  have h2 := as_arr
  have h3 := as_str
  have h4 := length_of
  go_enter Tryd.func21, Tryd.ntmps21
  go_wp2_with (first | (go_at_call 107; refine (len_any b o n c _ (by assumption)).mono ?_; rintro e w' ⟨rfl, rfl⟩) | (go_at_call 29; refine (num_any _ _).mono ?_; rintro e w' ⟨rfl, rfl⟩))
  go_ret2
  exact ⟨rfl, rfl⟩
theorem as_one (v : Value) (w : World) : (Instr.typeAssert (.iface 80 v) 48 80 false).run Tryd.prog w = .ok v w := by kernel_rfl
theorem numOf_ok (x : Nat) (a : Addr) (w : World) (h : w.cell? a = some (.float .f64 x)) :
    Calls Tryd.prog 20 #[.iface 80 (.pointer (some a)), .nilIface] w fun e w' => e = .returned (.tuple #[.float .f64 x, .nilIface]) ∧ w = w' := by
  have h1 := as_one
  go_enter Tryd.func20, Tryd.ntmps20
  go_wp2
  go_ret2
  exact ⟨rfl, rfl⟩
theorem number_ok (x : Nat) (w : World) :
    Calls Tryd.prog 13 #[.float .f64 x, .nilIface] w fun e w' => e = .returned (.tuple #[.float .f64 x, .bool true]) ∧ w = w' := by
  go_enter Tryd.func13, Tryd.ntmps13
  go_wp2
  go_ret2
  exact ⟨rfl, rfl⟩
theorem part_any (s : ByteArray) (w : World) (h46 : points s ≤ 70368744177664) :
    Calls Tryd.prog 14 #[.string s] w fun e w' => e = .returned (.tuple #[.float .f64 (floatOfInt .f64 (points s)), .nilIface]) ∧ Below w.heap.size w w' := by
  generalize hn : points s = n at h46 ⊢
  have C := fun w => str_any s w (by rw [hn]; exact h46)
  rw [hn] at C
  have HC := Lib.hid C
  clear C hn h46
  go_enter Tryd.func14, Tryd.ntmps14
  go_wp2_with fail
  refine (HC.out _).mono ?_
  rintro e w1 ⟨⟨v, rfl, b, o, c, rfl, hv⟩, hb⟩
  have hb1 := ((Below.refl _ _).alloc (Nat.le_refl _) _).trans (hb.mono (by simp))
  have HB := Lib.hid hb1
  clear hb hb1 HC
  go_wp2_with (first | (go_at_call 21; refine (builtin_any _ b o n c _ (by assumption)).mono ?_; rintro e w' ⟨rfl, rfl⟩) | (go_at_call 20; refine (numOf_ok (floatOfInt .f64 n) _ _ (by simp [go_sem])).mono ?_; rintro e w' ⟨rfl, rfl⟩))
  go_ret2
  exact ⟨rfl, HB.out.alloc HB.out.size _⟩
theorem text_any (s : ByteArray) (w : World) (h46 : points s ≤ 70368744177664) :
    Calls Tryd.prog 7 #[.string s] w fun e w' => e = .returned (.tuple #[.float .f64 (floatOfInt .f64 (points s)), .bool true]) ∧ Below w.heap.size w w' := by
  generalize hn : points s = n at h46 ⊢
  have C := fun w => part_any s w (by rw [hn]; exact h46)
  rw [hn] at C
  have HC := Lib.hid C
  clear C hn h46
  go_enter Tryd.func7, Tryd.ntmps7
  go_wp2_with fail
  refine (HC.out _).mono ?_
  rintro e w1 ⟨rfl, hb⟩
  have HB := Lib.hid hb
  clear hb HC
  go_wp2_with (go_at_call 13; refine (number_ok _ _).mono ?_; rintro e w' ⟨rfl, rfl⟩)
  go_ret2
  exact ⟨rfl, HB.out⟩

/-- short7 of one string: it tells something. -/
theorem short_any (s : ByteArray) (b : Nat) (v : Bool) (w : World) (h0 : w.cell? ⟨b, 0, none⟩ = some (.string s)) (hV : ∀ w', Below w.heap.size w w' → Calls Tryd.prog 8 #[.string s] w' fun e w2 => e = .returned (.bool v) ∧ Below w'.heap.size w' w2) :
    Calls Tryd.prog 6 #[.slice (some ⟨b, 0, none⟩) 1 1] w fun e w' => e = .returned (.bool (decide (s.size ≤ 2000) && v)) ∧ Below w.heap.size w w' := by
  have HV := Lib.hid (hV w (Below.refl _ _))
  clear hV
  by_cases hs : s.size ≤ 2000
  · rw [decide_eq_true hs, Bool.true_and]
    have hc : ¬ ((2000 : Int) < (s.size : Int)) := by omega
    have hd : decide ((2000 : Int) < (s.size : Int)) = false := decide_eq_false hc
    clear hc hs
    go_enter Tryd.func6, Tryd.ntmps6
    go_wp2
    refine wp_loop_rounds 2 ?_
    rw [rounds_succ]
    go_wp2_with fail
    refine HV.out.mono ?_
    rintro e w1 ⟨rfl, hb⟩
    have HB := Lib.hid hb
    clear hb HV
    cases v
    · go_wp2
      go_ret
      exact ⟨rfl, HB.out⟩
    · go_wp2
      rw [rounds_succ]
      go_wp2
      go_ret
      exact ⟨rfl, HB.out⟩
  · rw [decide_eq_false hs, Bool.false_and]
    have hc : ((2000 : Int) < (s.size : Int)) := by omega
    have hd : decide ((2000 : Int) < (s.size : Int)) = true := decide_eq_true hc
    clear hs
    go_enter Tryd.func6, Tryd.ntmps6
    go_wp2
    refine wp_loop_rounds 2 ?_
    rw [rounds_succ]
    go_wp2_with fail
    go_ret
    exact ⟨rfl, Below.refl _ _⟩

theorem width_pos (s : ByteArray) (pos : Nat) (h : pos < s.size) : 1 ≤ (Utf8.decode s pos).2 := by
  by_cases ha : (s[pos]'h).toNat < 128
  · rw [decode_ascii s pos h ha]
    exact Nat.le_refl _
  · exact (decode_high s pos h (by omega)).2

theorem runes_end (s : ByteArray) (b pos : Nat) (acc : Array Value) (h : ¬ pos < s.size) : Conv.runesFrom s b pos acc = acc := by
  cases b with
  | zero => rfl
  | succ b => simp [Conv.runesFrom, h]
theorem runes_step (s : ByteArray) (b pos : Nat) (acc : Array Value) (h : pos < s.size) : Conv.runesFrom s (b + 1) pos acc = Conv.runesFrom s b (pos + (Utf8.decode s pos).2) (acc.push (.int .i32 (Int.ofNat (Utf8.decode s pos).1))) := by
  simp [Conv.runesFrom, h]
theorem runes_ge (s : ByteArray) : ∀ (b pos : Nat) (acc : Array Value), acc.size ≤ (Conv.runesFrom s b pos acc).size
  | 0, _, acc => Nat.le_refl _
  | b + 1, pos, acc => by
    unfold Conv.runesFrom
    split
    · have := runes_ge s b (pos + (Utf8.decode s pos).2) (acc.push (.int .i32 (Int.ofNat (Utf8.decode s pos).1)))
      simp at this ⊢
      omega
    · omega
theorem points_le (s : ByteArray) : points s ≤ s.size := by
  have := size_runesFrom s s.size 0 #[]
  simpa [points] using this

set_option maxRecDepth 100000 in
/-- The law's walk. -/
theorem walk (s : ByteArray) (w : World) (v : Bool) (hV : ∀ w', Below w.heap.size w w' → Calls Tryd.prog 8 #[.string s] w' fun e w2 => e = .returned (.bool v) ∧ Below w'.heap.size w' w2)
    (hz : s.size ≤ 9223372036854775807) (ho : (FloatKind.f64.format.order (floatOfInt .f64 (points s)) (floatOfInt .f64 (points s)) == some .eq) = true) :
    Calls Tryd.prog 3 #[.string s] w fun e w' => e = .returned (.bool true) ∧ Below w.heap.size w w' := by
  have hpt := points_le s
  by_cases hs : s.size ≤ 2000
  · have hq : (decide (s.size ≤ 2000) && v) = v := by rw [decide_eq_true hs, Bool.true_and]
    have HS : Hid (∀ w', Below w.heap.size w w' → ∀ b, w'.cell? ⟨b, 0, none⟩ = some (.string s) → Calls Tryd.prog 6 #[.slice (some ⟨b, 0, none⟩) 1 1] w' fun e w2 => e = .returned (.bool v) ∧ Below w'.heap.size w' w2) :=
      fun w' hb b h0 => (short_any s b v w' h0 (fun w2 h2 => hV w2 (hb.trans (h2.mono hb.size)))).mono (fun e w2 h => by rw [hq] at h; exact h)
    have hc : ¬ ((2147483647 : Int) < (s.size : Int)) := by omega
    clear hV hq
    go_enter Tryd.func3, Tryd.ntmps3
    go_wp2_with fail
    refine (HS.out _ ((Below.refl _ _).alloc (Nat.le_refl _) _) _ (by simp [go_sem])).mono ?_
    rintro e W ⟨rfl, hb⟩
    have HB := Lib.hid (((Below.refl _ _).alloc (Nat.le_refl _) _).trans (hb.mono (by simp)))
    clear hb HS hc
    cases v
    · go_wp2
      go_ret
      exact ⟨rfl, HB.out⟩
    · generalize hp : points s = P at hpt ho
      go_wp2
      go_loopw [3] (fun n w' => ∃ (pos b : Nat) (acc : Array Value), w' = W.iter s pos ∧ n = .int .i64 acc.size ∧ (Conv.runesFrom s b pos acc).size = P ∧ s.size ≤ pos + b) (fun _ w' => s.size - w'.iterPos W.heap.size)
      case atStart => exact ⟨0, s.size, #[], rfl, rfl, hp, by omega⟩
      case round =>
        obtain ⟨pos, b, acc, rfl, rfl, hcn, hbd⟩ := hrel
        by_cases hpos : pos < s.size
        · have hnx : ∀ ty, (Instr.next (.pointer (some ⟨W.heap.size, 0, none⟩)) true ty).run Tryd.prog (W.iter s pos) = _ := fun ty => run_next_any W s pos ty hpos
          have hle : acc.size ≤ P := by
            rw [← hcn]
            exact runes_ge s b pos acc
          have hw : wrap64 ((acc.size : Int) + 1) = ((acc.size + 1 : Nat) : Int) := by unfold wrap64; omega
          have HN := Lib.hid hcn
          clear hcn
          go_wp2
          have hwd := width_pos s pos hpos
          go_roundw
          case rel =>
            cases b with
            | zero => omega
            | succ b =>
              refine ⟨pos + (Utf8.decode s pos).2, b, acc.push (.int .i32 (Int.ofNat (Utf8.decode s pos).1)), rfl, by simp, ?_, by omega⟩
              rw [← runes_step s b pos acc hpos]
              exact HN.out
          case measure =>
            simp
            omega
        · rw [runes_end s b pos acc hpos] at hcn
          subst hcn
          have hnx : ∀ ty, (Instr.next (.pointer (some ⟨W.heap.size, 0, none⟩)) true ty).run Tryd.prog (W.iter s pos) = _ := fun ty => run_next_end W s pos ty hpos
          have HT : Hid (∀ w', Calls Tryd.prog 7 #[.string s] w' fun e w2 => e = .returned (.tuple #[.float .f64 (floatOfInt .f64 acc.size), .bool true]) ∧ Below w'.heap.size w' w2) := fun w' => by
            have := text_any s w' (by omega)
            rwa [hp] at this
          go_wp2_with fail
          refine (HT.out _).mono ?_
          rintro e W2 ⟨rfl, hb⟩
          have HB2 := Lib.hid ((HB.out.alloc HB.out.size (.stringIter s pos)).trans (hb.mono (HB.out.alloc HB.out.size (.stringIter s pos)).size))
          clear hb
          go_wp2
          go_ret
          exact ⟨rfl, HB2.out⟩
  · have hq : (decide (s.size ≤ 2000) && v) = false := by rw [decide_eq_false hs, Bool.false_and]
    have HS : Hid (∀ w', Below w.heap.size w w' → ∀ b, w'.cell? ⟨b, 0, none⟩ = some (.string s) → Calls Tryd.prog 6 #[.slice (some ⟨b, 0, none⟩) 1 1] w' fun e w2 => e = .returned (.bool false) ∧ Below w'.heap.size w' w2) :=
      fun w' hb b h0 => (short_any s b v w' h0 (fun w2 h2 => hV w2 (hb.trans (h2.mono hb.size)))).mono (fun e w2 h => by rw [hq] at h; exact h)
    clear hV hq ho
    go_enter Tryd.func3, Tryd.ntmps3
    go_wp2_with fail
    · go_ret
      exact ⟨rfl, Below.refl _ _⟩
    · refine (HS.out _ ((Below.refl _ _).alloc (Nat.le_refl _) _) _ (by simp [go_sem])).mono ?_
      rintro e W ⟨rfl, hb⟩
      have HB := Lib.hid (((Below.refl _ _).alloc (Nat.le_refl _) _).trans (hb.mono (by simp)))
      clear hb HS
      go_wp2
      go_ret
      exact ⟨rfl, HB.out⟩

theorem own : ownKnob Tryd.prog.godebug = none := by kernel_rfl
theorem laidOut : laidOutB Tryd.prog = true := by kernel_rfl
theorem self_eq (n : Int) : (FloatKind.f64.format.order (floatOfInt .f64 n) (floatOfInt .f64 n) == some .eq) = true := by
  have e : floatOfInt .f64 n = Ieee.double.nearest (decide (n < 0)) n.natAbs 0 := rfl
  rw [e]
  have h : FloatKind.f64.format.order (Ieee.double.nearest (decide (n < 0)) n.natAbs 0) (Ieee.double.nearest (decide (n < 0)) n.natAbs 0) = some .eq := Fp.nearest_self _ _ _
  rw [h]; rfl

/-- The witness: the settled world, the two variables holding what their initialisers lay. -/
noncomputable def laidWorld (os : Os) : World :=
  let w0 := World.holding Tryd.prog os ⟨#[], #[], []⟩
  let put (h : Array Obj) (g : Nat) (cs : Array Value) : Array Obj := h.modify g fun
    | .cells _ t frozen => .cells cs t frozen
    | o => o
  let h1 := put w0.heap 0 (Lib.firstTab.map fun z => Value.int .u8 z).toArray
  let h2 := put h1 1 ((List.range 16).flatMap fun i => [Value.int .u8 (Lib.accLo i), Value.int .u8 (Lib.accHi i)]).toArray
  { w0 with heap := h2 }
theorem laid_met (os : Os) (args : Array Value) : laidMet Tryd.prog Rows.fnTextLengthRow.laid ((laidWorld os).forCall (fun _ _ => 0) ⟨#[], args, []⟩).memory :=
  laidMet_of_run' 8 (by kernel_rfl) (by kernel_rfl)
theorem witness_row (os : Os) {H : Type} (enc : TypeId × Value → H) :
    (OpenSpec.ofChange Rows.fnTextLengthSpec).preRow enc Tryd.prog Tryd.f3 Rows.fnTextLengthRow.domain false Rows.fnTextLengthRow.laid ((laidWorld os).forCall (fun _ _ => 0) ⟨#[], #[.string ⟨#[]⟩], []⟩).memory #[.string ⟨#[]⟩] := by
  have hw : (DataW.whole enc Tryd.prog ((laidWorld os).forCall (fun _ _ => 0) ⟨#[], #[.string ⟨#[]⟩], []⟩).memory Tryd.f3.params.toList Rows.fnTextLengthSpec.vars false #[Value.string ⟨#[]⟩].toList 8).map (fun x => (x.1, x.2.1)) =
      some ([.lit (.string [])], []) := by kernel_rfl
  obtain ⟨⟨x1, x2, x3⟩, hx, hx1⟩ := Option.map_eq_some_iff.1 hw
  simp only [Prod.mk.injEq] at hx1
  obtain ⟨rfl, rfl⟩ := hx1
  exact OpenSpec.preRow_of_cond 8 hx (by kernel_rfl) (fun k hk => by cases hk) (by kernel_rfl) (laid_met os _)

set_option maxRecDepth 100000 in
theorem lifted (os : Os) (started : os.Started) (H : Type) (enc : TypeId × Value → H) (F : Stop.Interp) :
    ReturnsInHanded {} Tryd.checked os 3 .any ((OpenSpec.ofChange Rows.fnTextLengthSpec).preRow enc Tryd.prog Tryd.f3 Rows.fnTextLengthRow.domain false Rows.fnTextLengthRow.laid) (((OpenSpec.ofChange Rows.fnTextLengthSpec).at F).post enc Tryd.prog Tryd.f3 false true false false) := by
  refine returnsInHanded_of_row (C := Tryd.checked) (s := OpenSpec.ofChange Rows.fnTextLengthSpec) own started (by kernel_rfl) Tryd.func3
    (witness_row_at (enc := enc) (C := Tryd.checked) false (laidWorld os) #[.string ⟨#[]⟩] rfl (by kernel_rfl) (by kernel_rfl) (by kernel_rfl) (witness_row os enc)) ?_
  intro W base args ds gs before hval0 hW _ _ _ hL _ _
  have hval : ∀ (j : Nat) t v, Tryd.f3.params[j]? = some t → args[j]? = some v → Value.okWide Tryd.prog W .any base t v := hval0
  have hW' := hW
  obtain ⟨p, q, hA0, hV0, rfl, _, _⟩ := hW
  have hA : DataW.TrodAll enc Tryd.prog W 0 (fun _ => true) true Tryd.f3.params.toList args.toList ds p := hA0
  rw [Tryd.params3] at hA hval
  obtain ⟨v0, d0, rfl, rfl, h0⟩ := trodAll_one hA
  obtain ⟨s, rfl, rfl, rfl, ws⟩ := open_string Tryd.underlying9 (hval 0 9 v0 rfl rfl) h0
  have htab : Tabs W := tabs_of (first_is ▸ Lib.laidMet.reads hL (.tail _ (.head _))) (accept_is ▸ Lib.laidMet.reads hL (.head _))
  refine (walk s W (Lib.validD s.data.toList) (fun w' hb => valid_any s w' (by unfold maxLen at ws; omega) (tabs_below htab hb)) (by unfold maxLen at ws; omega) (self_eq _)).mono ?_
  rintro e W' ⟨he, hb⟩
  subst he
  refine ⟨_, rfl, LawKit.law_post laidOut (by kernel_rfl) rfl (by kernel_rfl) Tryd.underlying4 ?_ hW' hb⟩
  intro ds hl
  have hl' : ds.length = 1 := hl
  obtain ⟨a, rfl⟩ : ∃ a, ds = [a] := by
    match ds, hl' with
    | [a], _ => exact ⟨a, rfl⟩
  exact ⟨rfl, rfl, rfl⟩

theorem said : Rows.FnTextLengthSaid :=
  OpenClaim.holds_of_cond 3 Tryd.f3 rfl rfl rfl rfl rfl rfl rfl ⟨rfl, rfl, rfl, rfl, rfl⟩ rfl rfl rfl rfl rfl (by kernel_rfl) Tryd.func3 (by kernel_rfl)
    (of_decide_eq_true (by kernel_rfl)) (by unfold Func.isWrapper; first | (rw [if_pos (by decide +kernel)]; kernel_rfl) | (rw [if_neg (by decide +kernel)]; exact ⟨rfl, rfl⟩))
    (fun os started H enc _ F => by rw [OpenClaim.pre_eq_preRow]; exact lifted os started H enc F)

/-- No parameter wants a stand-in; the program's own looks are off: what the card asks. -/
theorem plain (f : FuncId) (fn : Func) (hf : Tryd.pinned.checked.prog.funcNamed "given.example/pub-rondel/laws.FnTextLength" = some f) (hfn : Tryd.pinned.checked.prog.funcs[f]? = some fn) :
    true = Tryd.pinned.checked.prog.looks [] ∧ ∀ (j : Nat) t, fn.params[j]? = some t → Tryd.pinned.checked.prog.wantsStandIn t = false := by
  obtain rfl : f = 3 := Option.some.inj ((show Tryd.prog.funcNamed "given.example/pub-rondel/laws.FnTextLength" = some 3 by kernel_rfl).symm.trans hf) |>.symm
  obtain rfl : fn = Tryd.f3 := (Option.some.inj (Tryd.func3.symm.trans hfn)).symm
  refine ⟨by kernel_rfl, fun j t ht => ?_⟩
  rw [Tryd.params3] at ht
  obtain rfl : t = 9 := by simpa using Array.mem_of_getElem? ht
  exact (show Tryd.prog.wantsStandIn 9 = false by kernel_rfl)

theorem card : Rows.FnTextLengthCardSaid :=
  Claim7.holds_tied_plain_at .later [] _ _ _ _ said (fun _ h => by cases h) (by kernel_rfl) (fun _ h => by cases h) fnTextLength_row_tie rfl ⟨rfl, rfl⟩ (by kernel_rfl) rfl plain (by kernel_rfl)
end Go.Proofs.YtjnlgefcpmppmaaDoor.length
