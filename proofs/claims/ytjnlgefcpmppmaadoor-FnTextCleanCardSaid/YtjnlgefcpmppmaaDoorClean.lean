/- FnTextClean: a string is written between quotation marks, without control characters, and is UTF-8. -/
import Derived.Test.YtjnlgefcpmppmaaDoorUnparse
import Derived.Test.YtjnlgefcpmppmaaDoorUtfLay
import Derived.Test.YtjnlgefcpmppmaaDoorLawKit
import Derived.Test.YtjnlgefcpmppmaaDoorCards
import Derived.Test.YtjnlgefcpmppmaaDoorTie
import Derived.ProofKit
import Derived.OpenShut
import Derived.Deep.DeepHandedRow
import Derived.Deep.DeepWitnessRowRef
import Derived.Lib.LaidTab
import Derived.Stop.LaidErr
import Derived.SizedLaws
namespace Go.Proofs.YtjnlgefcpmppmaaDoor.clean
open Go.ChangeShapes Go.WideShapes Go.ChangeAt Go.RowKit
open Go.ChangeMaps (open_string shut_string)
/-- What the law asks of a text. -/
structure Fine (t : ByteArray) : Prop where
  two : 2 ≤ t.size
  most : t.size ≤ 6002
  first : ∀ h : 0 < t.size, (t[0]'h).toNat = 34
  last : ∀ h : t.size - 1 < t.size, (t[t.size - 1]'h).toNat = 34
  high : ∀ i (h : i < t.size), 32 ≤ (t[i]'h).toNat
  valid : Lib.validD t.data.toList = true
theorem at_list (L : List UInt8) (i : Nat) (h : i < (⟨L.toArray⟩ : ByteArray).size) (g : i < L.length) : (⟨L.toArray⟩ : ByteArray)[i]'h = L[i]'g := rfl
theorem last_is (x : List UInt8) (j : Nat) (hj : j = x.length + 1) (h : j < ((34 :: x) ++ [34]).length) : ((34 :: x) ++ [34])[j]'h = 34 := by
  subst hj
  simp
theorem fine_of (l : List UInt8) (hc : Clean l) (hl : l.length ≤ 6001) : Fine ⟨(l ++ [34]).toArray⟩ := by
  obtain ⟨hg, x, rfl⟩ := hc
  have hz : (⟨((34 :: x) ++ [34]).toArray⟩ : ByteArray).size = x.length + 2 := by show ((34 :: x) ++ [34]).toArray.size = _; simp
  have hz2 : ((34 :: x) ++ [34]).length = x.length + 2 := by simp
  have hl' : x.length + 1 ≤ 6001 := hl
  have hg2 := hg.append good34
  refine ⟨by omega, by omega, fun h => rfl, ?_, ?_, hg2.of_valid⟩
  · intro h
    rw [at_list _ _ h (by omega), last_is x _ (by omega)]
    rfl
  · intro i h
    rw [at_list _ _ h (by omega)]
    exact hg2.high _ (List.getElem_mem _)
def Gives (w : World) (e : Ending) (w' : World) : Prop := (∃ t, e = .returned (.string t) ∧ Fine t) ∧ Below w.heap.size w w'
theorem text1 (s : ByteArray) (hs : s.size ≤ 1000) (w : World) (hT : w.cell? ⟨7, 15, none⟩ = some (.int .u8 4)) : Calls Tryd.prog 23 #[.string s] w (Gives w) :=
  (unparse_any s hs w hT).mono (fun _ _ ⟨⟨l, he, hc, hl⟩, hb⟩ => ⟨⟨_, he, fine_of l hc hl⟩, hb⟩)
theorem text2 (s : ByteArray) (hs : s.size ≤ 1000) (w : World) (hT : w.cell? ⟨7, 15, none⟩ = some (.int .u8 4)) : Calls Tryd.prog 16 #[.string s] w (Gives w) := by
  have HC := Lib.hid (text1 s hs w hT)
  clear hT
  go_enter Tryd.func16, Tryd.ntmps16
  go_wp2_with fail
  refine HC.out.mono ?_
  rintro e w' ⟨⟨t, rfl, hf⟩, hb⟩
  have HF := Lib.hid hf
  have HB := Lib.hid hb
  clear hf hb
  go_wp2_with fail
  go_ret
  exact ⟨⟨t, rfl, HF.out⟩, HB.out⟩
theorem text_any (s : ByteArray) (hs : s.size ≤ 1000) (w : World) (hT : w.cell? ⟨7, 15, none⟩ = some (.int .u8 4)) : Calls Tryd.prog 9 #[.string s] w (Gives w) := by
  have HC := Lib.hid (text2 s hs w hT)
  clear hT
  go_enter Tryd.func9, Tryd.ntmps9
  go_wp2_with fail
  refine HC.out.mono ?_
  rintro e w' ⟨⟨t, rfl, hf⟩, hb⟩
  have HF := Lib.hid hf
  have HB := Lib.hid hb
  clear hf hb
  go_wp2_with fail
  go_ret
  exact ⟨⟨t, rfl, HF.out⟩, HB.out⟩
def Yes (w : World) (e : Ending) (w' : World) : Prop := e = .returned (.bool true) ∧ Below w.heap.size w w'
set_option maxRecDepth 100000 in
/-- The law's walk. -/
theorem walk (s : ByteArray) (w : World) (hT : w.cell? ⟨7, 15, none⟩ = some (.int .u8 4))
    (hV : ∀ t w', t.size ≤ 6002 → Below w.heap.size w w' → Calls Tryd.prog 8 #[.string t] w' fun e w2 => e = .returned (.bool (Lib.validD t.data.toList)) ∧ Below w'.heap.size w' w2)
    (hz : s.size ≤ 9223372036854775807) :
    Calls Tryd.prog 4 #[.string s] w (Yes w) := by
  by_cases hs : s.size ≤ 1000
  · have hc : ¬ ((2147483647 : Int) < (s.size : Int)) := by omega
    have hd : decide ((1000 : Int) < (s.size : Int)) = false := decide_eq_false (by omega)
    have HV := Lib.hid hV
    have HT := Lib.hid hT
    clear hV hT
    go_enter Tryd.func4, Tryd.ntmps4
    go_wp2_with fail
    refine (HV.out s w (by omega) (Below.refl _ _)).mono ?_
    generalize Lib.validD s.data.toList = v
    rintro e W ⟨rfl, hb⟩
    have HB := Lib.hid hb
    clear hb hc hd hz
    cases v
    · go_wp2_with fail
      go_ret
      exact ⟨rfl, HB.out⟩
    · go_wp2_with fail
      refine (text_any s hs W ((HB.out.cell (p := ⟨7, 15, none⟩) (block_lt HT.out)).trans HT.out)).mono ?_
      rintro e W2 ⟨⟨t, rfl, hf⟩, hb⟩
      have HB2 := Lib.hid (HB.out.trans (hb.mono HB.out.size))
      clear hb hs HB
      obtain ⟨h2, hm, h0, h1, ha, hv⟩ := hf
      have HA := Lib.hid ha
      have H0 := Lib.hid h0
      have H1 := Lib.hid h1
      have H2 := Lib.hid hv
      clear ha h0 h1 hv
      go_wp2_with fail
      go_loop [4] (fun i => ∃ k : Nat, k ≤ t.size ∧ i = .int .i64 k) (fun i => t.size - (intOf i).toNat)
      case atStart => exact ⟨0, Nat.zero_le _, rfl⟩
      case round =>
        obtain ⟨k, hk, rfl⟩ := hrel
        by_cases hlt : k < t.size
        · have hx : decide (((t[k]'hlt).toNat : Int) < 32) = false := decide_eq_false (by have := HA.out k hlt; omega)
          go_wp2_with fail
          go_round
          case rel => exact ⟨k + 1, by omega, by go_num⟩
          case measure => simp [intOf]; omega
        · have hx0 : (((t[0]'(by omega)).toNat : Int) == 34) = true := by rw [H0.out]; rfl
          have hx1 : (((t[t.size - 1]'(by omega)).toNat : Int) == 34) = true := by rw [H1.out]; rfl
          have hd : decide ((1 : Int) < (t.size : Int)) = true := decide_eq_true (by omega)
          go_wp2_with fail
          refine (HV.out t W2 hm HB2.out).mono ?_
          rw [H2.out]
          rintro e W3 ⟨rfl, hb⟩
          have HB3 := Lib.hid (HB2.out.trans (hb.mono HB2.out.size))
          clear hb HB2
          go_wp2_with fail
          go_ret
          exact ⟨rfl, HB3.out⟩
  · have hd : decide ((1000 : Int) < (s.size : Int)) = true := decide_eq_true (by omega)
    clear hV
    go_enter Tryd.func4, Tryd.ntmps4
    go_wp2_with fail
    all_goals
      go_ret
      exact ⟨rfl, Below.refl _ _⟩

/-! ### The listed variables -/
theorem own : ownKnob Tryd.prog.godebug = none := by kernel_rfl
theorem laidOut : laidOutB Tryd.prog = true := by kernel_rfl
def tab64 : List Int := [0, 1, 56, 2, 57, 49, 28, 3, 61, 58, 42, 50, 38, 29, 17, 4, 62, 47, 59, 36, 45, 43, 51, 22, 53, 39, 33, 30, 24, 18, 12, 5, 63, 55, 48, 27, 60, 41, 37, 16, 46, 35, 44, 21, 52, 32, 23, 11, 54, 26, 40, 15, 34, 20, 31, 10, 25, 14, 19, 9, 13, 8, 7, 6]
theorem tab64_is : (Rows.laid_math_bits_deBruijn64tab : DataW Unit) = Lib.tabData .u8 tab64 := by kernel_rfl
theorem g64 : Tryd.prog.globalNamed "math/bits.deBruijn64tab" = some 7 := by kernel_rfl
theorem t64 : (Tryd.prog.globals[7]?).map (·.type) = some 211 := by kernel_rfl
theorem cells211 : Tryd.prog.cellsOf 211 = 64 := by kernel_rfl
theorem cells5 : Tryd.prog.cellsOf 5 = 1 := by kernel_rfl
theorem deBruijn_of {W : World} {rest : List (String × DataW Unit)} (h : laidMet Tryd.prog (("math/bits.deBruijn64tab", Rows.laid_math_bits_deBruijn64tab) :: rest) W) : W.cell? ⟨7, 15, none⟩ = some (.int .u8 4) := by
  rw [tab64_is] at h
  exact (Lib.tabIs_of_head g64 t64 Tryd.underlying211 Tryd.underlying5 cells5 cells211 h).cell g64 15 (by decide)

/-- The witness: the settled world, the variables holding what their initialisers lay. -/
noncomputable def low : Nat := (World.holding Tryd.prog default ⟨#[], #[], []⟩).heap.size
def nums (k : IntKind) (l : List Nat) : Array Value := (l.map fun z : Nat => Value.int k (z : Int)).toArray
noncomputable def laidWorld (os : Os) : World :=
  let w0 := World.holding Tryd.prog os ⟨#[.cells #[.string ⟨#[98, 121, 116, 101, 115, 46, 66, 117, 102, 102, 101, 114, 58, 32, 116, 111, 111, 32, 108, 97, 114, 103, 101]⟩] 209], #[], []⟩
  let put (h : Array Obj) (g : Nat) (cs : Array Value) : Array Obj := h.modify g fun
    | .cells _ t frozen => .cells cs t frozen
    | o => o
  let h1 := put w0.heap 0 (Lib.firstTab.map fun z => Value.int .u8 z).toArray
  let h2 := put h1 1 ((List.range 16).flatMap fun i => [Value.int .u8 (Lib.accLo i), Value.int .u8 (Lib.accHi i)]).toArray
  let h3 := put h2 3 (nums .u64 [1, 10, 100, 1000, 10000, 100000, 1000000, 10000000, 100000000, 1000000000, 10000000000, 100000000000, 1000000000000, 10000000000000, 100000000000000, 1000000000000000, 10000000000000000, 100000000000000000, 1000000000000000000, 10000000000000000000])
  let h4 := put h3 6 (nums .u8 [0, 1, 28, 2, 29, 14, 24, 3, 30, 22, 20, 15, 25, 17, 4, 8, 31, 27, 13, 23, 21, 19, 16, 7, 26, 12, 18, 6, 11, 5, 10, 9])
  let h5 := put h4 7 (nums .u8 [0, 1, 56, 2, 57, 49, 28, 3, 61, 58, 42, 50, 38, 29, 17, 4, 62, 47, 59, 36, 45, 43, 51, 22, 53, 39, 33, 30, 24, 18, 12, 5, 63, 55, 48, 27, 60, 41, 37, 16, 46, 35, 44, 21, 52, 32, 23, 11, 54, 26, 40, 15, 34, 20, 31, 10, 25, 14, 19, 9, 13, 8, 7, 6])
  let h6 := put h5 2 #[.iface 207 (.pointer (some ⟨low, 0, none⟩))]
  { w0 with heap := h6 }
theorem laid_met (os : Os) (args : Array Value) : laidMet Tryd.prog Rows.fnTextCleanRow.laid ((laidWorld os).forCall (fun _ _ => 0) ⟨#[], args, []⟩).memory :=
  laidMet_of_run' 8 (by kernel_rfl) (by kernel_rfl)
theorem witness_row (os : Os) {H : Type} (enc : TypeId × Value → H) :
    (OpenSpec.ofChange Rows.fnTextCleanSpec).preRow enc Tryd.prog Tryd.f4 Rows.fnTextCleanRow.domain false Rows.fnTextCleanRow.laid ((laidWorld os).forCall (fun _ _ => 0) ⟨#[], #[.string ⟨#[]⟩], []⟩).memory #[.string ⟨#[]⟩] := by
  have hw : (DataW.whole enc Tryd.prog ((laidWorld os).forCall (fun _ _ => 0) ⟨#[], #[.string ⟨#[]⟩], []⟩).memory Tryd.f4.params.toList Rows.fnTextCleanSpec.vars false #[Value.string ⟨#[]⟩].toList 8).map (fun x => (x.1, x.2.1)) =
      some ([.lit (.string [])], []) := by kernel_rfl
  obtain ⟨⟨x1, x2, x3⟩, hx, hx1⟩ := Option.map_eq_some_iff.1 hw
  simp only [Prod.mk.injEq] at hx1
  obtain ⟨rfl, rfl⟩ := hx1
  exact OpenSpec.preRow_of_cond 8 hx (by kernel_rfl) (fun k hk => by cases hk) (by kernel_rfl) (laid_met os _)

set_option maxRecDepth 100000 in
theorem lifted (os : Os) (started : os.Started) (H : Type) (enc : TypeId × Value → H) (F : Stop.Interp) :
    ReturnsInHanded {} Tryd.checked os 4 .any ((OpenSpec.ofChange Rows.fnTextCleanSpec).preRow enc Tryd.prog Tryd.f4 Rows.fnTextCleanRow.domain false Rows.fnTextCleanRow.laid) (((OpenSpec.ofChange Rows.fnTextCleanSpec).at F).post enc Tryd.prog Tryd.f4 false true false false) := by
  refine returnsInHanded_of_row (C := Tryd.checked) (s := OpenSpec.ofChange Rows.fnTextCleanSpec) own started (by kernel_rfl) Tryd.func4
    (witness_row_atRef (enc := enc) (C := Tryd.checked) false (laidWorld os) #[.string ⟨#[]⟩] rfl (by kernel_rfl) (by kernel_rfl) (by kernel_rfl) (witness_row os enc)) ?_
  intro W base args ds gs before hval0 hW _ _ _ hL _ _
  have hval : ∀ (j : Nat) t v, Tryd.f4.params[j]? = some t → args[j]? = some v → Value.okWide Tryd.prog W .any base t v := hval0
  have hW' := hW
  obtain ⟨p, q, hA0, hV0, rfl, _, _⟩ := hW
  have hA : DataW.TrodAll enc Tryd.prog W 0 (fun _ => true) true Tryd.f4.params.toList args.toList ds p := hA0
  rw [Tryd.params4] at hA hval
  obtain ⟨v0, d0, rfl, rfl, h0⟩ := trodAll_one hA
  obtain ⟨s, rfl, rfl, rfl, ws⟩ := open_string Tryd.underlying9 (hval 0 9 v0 rfl rfl) h0
  have htab : Tabs W := tabs_of (first_is ▸ Lib.laidMet.reads hL (.tail _ (.tail _ (.tail _ (.tail _ (.tail _ (.head _))))))) (accept_is ▸ Lib.laidMet.reads hL (.tail _ (.tail _ (.tail _ (.head _)))))
  refine (walk s W (deBruijn_of (laidMet.tail hL)) (fun t w' ht hb => valid_any t w' (by omega) (tabs_below htab hb)) (by unfold maxLen at ws; omega)).mono ?_
  rintro e W' ⟨he, hb⟩
  subst he
  refine ⟨_, rfl, LawKit.law_post laidOut (by kernel_rfl) rfl (by kernel_rfl) Tryd.underlying4 ?_ hW' hb⟩
  intro ds hl
  have hl' : ds.length = 1 := hl
  obtain ⟨a, rfl⟩ : ∃ a, ds = [a] := by
    match ds, hl' with
    | [a], _ => exact ⟨a, rfl⟩
  exact ⟨rfl, rfl, rfl⟩

theorem said : Rows.FnTextCleanSaid :=
  OpenClaim.holds_of_cond 4 Tryd.f4 rfl rfl rfl rfl rfl rfl rfl ⟨rfl, rfl, rfl, rfl, rfl⟩ rfl rfl rfl rfl rfl (by kernel_rfl) Tryd.func4 (by kernel_rfl)
    (of_decide_eq_true (by kernel_rfl)) (by unfold Func.isWrapper; first | (rw [if_pos (by decide +kernel)]; kernel_rfl) | (rw [if_neg (by decide +kernel)]; exact ⟨rfl, rfl⟩))
    (fun os started H enc _ F => by rw [OpenClaim.pre_eq_preRow]; exact lifted os started H enc F)

/-- No parameter wants a stand-in; the program's own looks are off: what the card asks. -/
theorem plain (f : FuncId) (fn : Func) (hf : Tryd.pinned.checked.prog.funcNamed "given.example/pub-rondel/laws.FnTextClean" = some f) (hfn : Tryd.pinned.checked.prog.funcs[f]? = some fn) :
    true = Tryd.pinned.checked.prog.looks [] ∧ ∀ (j : Nat) t, fn.params[j]? = some t → Tryd.pinned.checked.prog.wantsStandIn t = false := by
  obtain rfl : f = 4 := Option.some.inj ((show Tryd.prog.funcNamed "given.example/pub-rondel/laws.FnTextClean" = some 4 by kernel_rfl).symm.trans hf) |>.symm
  obtain rfl : fn = Tryd.f4 := (Option.some.inj (Tryd.func4.symm.trans hfn)).symm
  refine ⟨by kernel_rfl, fun j t ht => ?_⟩
  rw [Tryd.params4] at ht
  obtain rfl : t = 9 := by simpa using Array.mem_of_getElem? ht
  exact (show Tryd.prog.wantsStandIn 9 = false by kernel_rfl)

theorem card : Rows.FnTextCleanCardSaid :=
  Claim7.holds_tied_plain_at .later [] _ _ _ _ said (fun _ h => by cases h) (by kernel_rfl) (fun _ h => by cases h) fnTextClean_row_tie rfl ⟨rfl, rfl⟩ (by kernel_rfl) rfl plain (by kernel_rfl)
end Go.Proofs.YtjnlgefcpmppmaaDoor.clean
