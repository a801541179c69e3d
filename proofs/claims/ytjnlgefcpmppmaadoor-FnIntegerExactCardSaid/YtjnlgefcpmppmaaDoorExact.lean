/- FnIntegerExact: std.parseInt of the evaluator by contract; the law. -/
import Derived.Test.YtjnlgefcpmppmaaDoorRows
import Derived.Test.YtjnlgefcpmppmaaDoorUnits
import Derived.Test.YtjnlgefcpmppmaaDoorIntLay
import Derived.Test.YtjnlgefcpmppmaaDoorInteger
import Derived.Test.YtjnlgefcpmppmaaDoorLength
import Derived.WalkKit
import Derived.WalkLawsBesides
import Derived.WalkSpells
import Derived.Laws.Cover4
import Derived.Lib.Hide
import Derived.Below
import Derived.Test.YtjnlgefcpmppmaaDoorLawKit
import Derived.Test.YtjnlgefcpmppmaaDoorCards
import Derived.Test.YtjnlgefcpmppmaaDoorTie
import Derived.ProofKit
import Derived.OpenShut
import Derived.Deep.DeepHandedRow
import Derived.Deep.DeepWitnessRowRef
import Derived.Stop.LaidErr
import Derived.SizedLaws
namespace Go.Proofs.YtjnlgefcpmppmaaDoor.exact
open Go.ChangeShapes Go.WideShapes Go.ChangeAt
open Go.ChangeMaps (open_string shut_string)
open Go.RowKit Go.Proofs.YtjnlgefcpmppmaaDoor.utf Go.Proofs.YtjnlgefcpmppmaaDoor.ints

theorem runesBytes_fold (l : List Nat) (h : ∀ r ∈ l, Scalar r) : ∀ b : ByteArray, ((l.map fun r : Nat => (r : Int)).foldl (fun r n => r ++ Utf8.encode n) b).data.toList = b.data.toList ++ l.flatMap encL := by
  induction l with
  | nil => intro b; simp
  | cons x l ih =>
    intro b
    simp only [List.map_cons, List.foldl_cons, List.flatMap_cons]
    rw [ih (fun r hr => h r (List.mem_cons_of_mem _ hr)), ← encode_encL x (h x (List.mem_cons_self ..))]
    simp [ByteArray.data_append]
theorem byteArray_ext {a b : ByteArray} (h : a.data.toList = b.data.toList) : a = b := by
  cases a; cases b; simp_all
/-- The code points, written, are the string again. -/
theorem back {s : ByteArray} {rs : List Nat} (hc : Chain s 0 rs) : runesBytes (rs.map fun r : Nat => (r : Int)) = s := by
  apply byteArray_ext
  have := runesBytes_fold rs hc.scalar ByteArray.empty
  have hby : s.data.toList = rs.flatMap encL := by have := hc.bytes; simpa using this
  rw [hby]
  simpa [runesBytes] using this

/-- A string of the evaluator. -/
def Str (w : World) (s : ByteArray) (b : Nat) : Prop := ∃ (a : Addr) (c : Nat) (zs : List Int), w.cell? ⟨b, 0, none⟩ = some (.slice (some a) zs.length c) ∧ (∀ j, j < zs.length → w.cell? (a.add j) = some (.int .i32 (zs.getD j 0))) ∧ runesBytes zs = s ∧ b < w.heap.size ∧ a.block < w.heap.size
theorem Str.later {w w' : World} {s : ByteArray} {b : Nat} (h : Str w s b) (hb : Below w.heap.size w w') : Str w' s b := by
  obtain ⟨a, c, zs, h1, h2, h3, h4, h5⟩ := h
  have hz := hb.size
  exact ⟨a, c, zs, cell_later hb h1, fun j hj => cell_later hb (h2 j hj), h3, by omega, by omega⟩

theorem mk_str (s : ByteArray) (rs : List Nat) (hc : Chain s 0 rs) (hs : s.size ≤ 1000000) (w : World) :
    Calls Tryd.prog 30 #[.string s] w fun e w' => (∃ b, e = .returned (.iface 124 (.pointer (some ⟨b, 0, none⟩))) ∧ Str w' s b) ∧ Below w.heap.size w w' := by
  have hl : rs.length ≤ s.size := by have := hc.length; omega
  have hr : Conv.runesFrom s s.size 0 #[] = (rs.map fun r : Nat => Value.int .i32 (r : Int)).toArray := by
    have := hc.runesFrom s.size #[] hl
    simpa using this
  have hc' := run_runes_of_string (P := Tryd.prog) w 9 125 21 s (by kernel_rfl) (by kernel_rfl) (by kernel_rfl) (by rw [hr]; simp; omega)
  rw [hr] at hc'
  have HC := Lib.hid hc
  clear hr hc hl
  go_enter Tryd.func30, Tryd.ntmps30
  go_wp2
  go_ret
  refine ⟨⟨w.heap.size + 1, rfl, ⟨w.heap.size, 0, none⟩, grownCap w rs.length 0 21, rs.map fun r : Nat => (r : Int), ?_, ?_, back HC.out, by simp, by simp; omega⟩, (((Below.refl _ _).alloc (Nat.le_refl _) _).alloc (by simp) _).drew⟩
  · simp [go_sem]
  · intro j hj
    have hjl : j < rs.length := by simpa using hj
    have e : (⟨w.heap.size, 0, none⟩ : Addr).add j = ⟨w.heap.size, j, none⟩ := by simp [Addr.add]; omega
    rw [e]
    show World.cell? ((w.alloc (Obj.cells _ 21)).alloc _) _ = _
    rw [World.cell?_alloc_past _ _ _ (by simp), World.cell?_alloc_at _ _ _ _ rfl]
    rw [Array.getElem?_append_left (by simpa using hjl)]
    simp [hjl]
theorem str_any (s : ByteArray) (rs : List Nat) (hc : Chain s 0 rs) (hs : s.size ≤ 1000000) (w : World) :
    Calls Tryd.prog 22 #[.string s] w fun e w' => (∃ b, e = .returned (.iface 124 (.pointer (some ⟨b, 0, none⟩))) ∧ Str w' s b) ∧ Below w.heap.size w w' := by
  have HC := Lib.hid (fun w => mk_str s rs hc hs w)
  clear hc
  go_enter Tryd.func22, Tryd.ntmps22
  go_wp2_with (go_at_call 30; refine (HC.out _).mono ?_; rintro e w' ⟨⟨b, rfl, hv⟩, hb⟩)
  go_ret
  exact ⟨⟨_, rfl, hv⟩, hb⟩
theorem go_string (s : ByteArray) (b : Nat) (w : World) (h : Str w s b) :
    Calls Tryd.prog 103 #[.pointer (some ⟨b, 0, none⟩)] w fun e w' => e = .returned (.string s) ∧ w = w' := by
  obtain ⟨a, c, zs, h1, h2, h3, _, _⟩ := h
  have hc := run_convert_runes (P := Tryd.prog) w 125 9 21 a zs.length c zs (Nat.le_refl _) (by kernel_rfl) (by kernel_rfl) (by kernel_rfl) h2
  rw [List.take_length, h3] at hc
  clear h2 h3
  go_enter Tryd.func103, Tryd.ntmps103
  go_wp2
  go_ret
  exact ⟨rfl, rfl⟩
theorem get_any (i : Value) (b : Nat) (w : World) :
    Calls Tryd.prog 35 #[i, .iface 124 (.pointer (some ⟨b, 0, none⟩))] w fun e w' => e = .returned (.tuple #[.iface 124 (.pointer (some ⟨b, 0, none⟩)), .nilIface]) ∧ w = w' := by
  have h1 := length.as_str
  go_enter Tryd.func35, Tryd.ntmps35
  go_wp2
  go_ret2
  exact ⟨rfl, rfl⟩
theorem trace_any (b : Nat) (w : World) (h7 : w.cell? ⟨b, 7, none⟩ = some (.slice none 0 0)) (h5 : w.cell? ⟨b, 5, none⟩ = some (.pointer none)) :
    Calls Tryd.prog 49 #[.pointer (some ⟨b, 0, none⟩)] w fun e w' => e = .returned (.slice none 0 0) ∧ w = w' := by
  go_enter Tryd.func49, Tryd.ntmps49
  go_wp2
  refine wp_loop_rounds 1 ?_
  rw [rounds_succ]
  go_wp2
  go_ret
  exact ⟨rfl, rfl⟩
theorem make_any (s : ByteArray) (w : World) :
    Calls Tryd.prog 48 #[.string s, .slice none 0 0] w fun e w' => e = .returned (.agg #[.string s, .slice none 0 0]) ∧ w.alloc (.cells #[.string s, .slice none 0 0] 140) = w' := by
  go_enter Tryd.func48, Tryd.ntmps48
  go_wp2
  exact bodyPost_ret (v := .agg #[.string s, .slice none 0 0]) (by simp [results, Tryd.results48, go_sem]) rfl ⟨rfl, rfl⟩
theorem error_any (b : Nat) (s : ByteArray) (w : World) (h7 : w.cell? ⟨b, 7, none⟩ = some (.slice none 0 0)) (h5 : w.cell? ⟨b, 5, none⟩ = some (.pointer none)) :
    Calls Tryd.prog 37 #[.pointer (some ⟨b, 0, none⟩), .string s] w fun e w' => e = .returned (.iface 140 (.agg #[.string s, .slice none 0 0])) ∧ (w.alloc (.cells #[.string s, .slice none 0 0] 140)).alloc (.cells #[.string s, .slice none 0 0] 140) = w' := by
  go_enter Tryd.func37, Tryd.ntmps37
  go_wp2_with (first | (go_at_call 49; refine (trace_any _ _ (by assumption) (by assumption)).mono ?_; rintro e w' ⟨rfl, rfl⟩) | (go_at_call 48; refine (make_any _ _).mono ?_; rintro e w' ⟨rfl, rfl⟩))
  go_ret
  exact ⟨rfl, rfl⟩

theorem goString_of (v : Value) (w : World) : (method 394 124 v "given.example/pub-rondel/pub/jsonnet.getGoString").run Tryd.prog w = .ok (103, v) w := by kernel_rfl

set_option maxRecDepth 100000 in
theorem builtin_ok (bi : Nat) (s : ByteArray) (b : Nat) (v : Int) (w : World) (h : Str w s b) (hp : Calls Tryd.prog 36 #[.string s, .int .i64 10, .int .i64 64] w fun e w' => e = .returned (.tuple #[.int .i64 v, .nilIface]) ∧ Below w.heap.size w w') :
    Calls Tryd.prog 25 #[.pointer (some ⟨bi, 0, none⟩), .iface 124 (.pointer (some ⟨b, 0, none⟩))] w fun e w' => ∃ B, e = .returned (.tuple #[.iface 80 (.pointer (some ⟨B, 0, none⟩)), .nilIface]) ∧ w'.cell? ⟨B, 0, none⟩ = some (.float .f64 (floatOfInt .f64 v)) ∧ Below w.heap.size w w' := by
  have HP := Lib.hid hp
  have HS := Lib.hid h
  have h4 := goString_of
  clear hp h
  go_enter Tryd.func25, Tryd.ntmps25
  go_wp2_with (first | (go_at_call 35; refine (get_any _ _ _).mono ?_; rintro e w' ⟨rfl, rfl⟩) | (go_at_call 103; refine (go_string _ _ _ HS.out).mono ?_; rintro e w' ⟨rfl, rfl⟩))
  refine HP.out.mono ?_
  rintro e W ⟨rfl, hb⟩
  have HB := Lib.hid hb
  clear hb
  go_wp2_with (go_at_call 29; refine (length.num_any _ _).mono ?_; rintro e w' ⟨rfl, rfl⟩)
  go_ret2
  exact ⟨W.heap.size, rfl, by simp [go_sem], HB.out.alloc HB.out.size _⟩

set_option maxRecDepth 100000 in
theorem builtin_err (bi : Nat) (s : ByteArray) (b : Nat) (w : World) (h : Str w s b) (h7 : w.cell? ⟨bi, 7, none⟩ = some (.slice none 0 0)) (h5 : w.cell? ⟨bi, 5, none⟩ = some (.pointer none))
    (hp : Calls Tryd.prog 36 #[.string s, .int .i64 10, .int .i64 64] w fun e w' => (∃ v N, e = .returned (.tuple #[.int .i64 v, .iface 159 (.pointer (some ⟨N, 0, none⟩))])) ∧ Below w.heap.size w w') :
    Calls Tryd.prog 25 #[.pointer (some ⟨bi, 0, none⟩), .iface 124 (.pointer (some ⟨b, 0, none⟩))] w fun e w' => (∃ t v, e = .returned (.tuple #[.nilIface, .iface t v])) ∧ Below w.heap.size w w' := by
  have HP := Lib.hid hp
  have HS := Lib.hid h
  have h4 := goString_of
  have H1 : Hid (∀ w', Below w.heap.size w w' → w'.cell? ⟨bi, 7, none⟩ = some (.slice none 0 0) ∧ w'.cell? ⟨bi, 5, none⟩ = some (.pointer none)) := fun w' hb => ⟨cell_later hb h7, cell_later hb h5⟩
  clear hp h h7 h5
  go_enter Tryd.func25, Tryd.ntmps25
  go_wp2_with (first | (go_at_call 35; refine (get_any _ _ _).mono ?_; rintro e w' ⟨rfl, rfl⟩) | (go_at_call 103; refine (go_string _ _ _ HS.out).mono ?_; rintro e w' ⟨rfl, rfl⟩))
  refine HP.out.mono ?_
  rintro e W ⟨⟨v, N, rfl⟩, hb⟩
  have HB := Lib.hid hb
  clear hb
  go_wp2_with (go_at_call 37; refine (error_any _ _ _ (H1.out _ HB.out).1 (H1.out _ HB.out).2).mono ?_; rintro e w' ⟨rfl, rfl⟩)
  go_ret2
  exact ⟨⟨_, _, rfl⟩, (HB.out.alloc HB.out.size _).alloc (by have := HB.out.size; simp; omega) _⟩

theorem numOf_err (t : TypeId) (v : Value) (w : World) :
    Calls Tryd.prog 20 #[.nilIface, .iface t v] w fun e w' => e = .returned (.tuple #[.float .f64 0, .iface t v]) ∧ w = w' := by
  go_enter Tryd.func20, Tryd.ntmps20
  go_wp2
  go_ret2
  exact ⟨rfl, rfl⟩
theorem number_err (x : Nat) (t : TypeId) (v : Value) (w : World) :
    Calls Tryd.prog 13 #[.float .f64 x, .iface t v] w fun e w' => e = .returned (.tuple #[.float .f64 0, .bool false]) ∧ w = w' := by
  go_enter Tryd.func13, Tryd.ntmps13
  go_wp2
  go_ret2
  exact ⟨rfl, rfl⟩

/-- What the door tells: the number and true, or false. -/
def PartOk (s : ByteArray) (w : World) (e : Ending) (w' : World) : Prop :=
  Below w.heap.size w w' ∧ ((∃ v, Lib.parseIntB 64 s.data.toList = .ok v ∧ e = .returned (.tuple #[.float .f64 (floatOfInt .f64 v), .nilIface])) ∨
    ((∀ v, Lib.parseIntB 64 s.data.toList ≠ .ok v) ∧ ∃ t v, e = .returned (.tuple #[.float .f64 0, .iface t v])))

set_option maxRecDepth 100000 in
theorem part_any (s : ByteArray) (rs : List Nat) (hc : Chain s 0 rs) (hs : s.size ≤ 1000000) (w : World) (hw : Sent w) :
    Calls Tryd.prog 19 #[.string s] w (PartOk s w) := by
  have HC := Lib.hid (fun w => str_any s rs hc hs w)
  have HW := Lib.hid hw
  have HZ := Lib.hid hs
  clear hc hw hs
  go_enter Tryd.func19, Tryd.ntmps19
  go_wp2_with fail
  refine (HC.out _).mono ?_
  rintro e w1 ⟨⟨b, rfl, hv⟩, hb⟩
  have h7 : w1.cell? ⟨w.heap.size, 7, none⟩ = some (.slice none 0 0) := cell_later hb (by simp [go_sem])
  have h5 : w1.cell? ⟨w.heap.size, 5, none⟩ = some (.pointer none) := cell_later hb (by simp [go_sem])
  have HB := Lib.hid (((Below.refl w.heap.size w).alloc (Nat.le_refl _) _).trans (hb.mono (by simp)))
  clear hb HC
  have hp := parse_any s w1 (by have := HZ.out; omega) (sent_below HW.out HB.out)
  by_cases hok : ∃ v, Lib.parseIntB 64 s.data.toList = .ok v
  · obtain ⟨v, hv1⟩ := hok
    have hp' : Calls Tryd.prog 36 #[.string s, .int .i64 10, .int .i64 64] w1 fun e w' => e = .returned (.tuple #[.int .i64 v, .nilIface]) ∧ Below w1.heap.size w1 w' := by
      refine hp.mono ?_
      rintro e w' ⟨hb, ⟨u, hu, rfl⟩ | ⟨hn, _⟩⟩
      · have : u = v := by rw [hv1] at hu; cases hu; rfl
        subst this
        exact ⟨rfl, hb⟩
      · exact (hn v hv1).elim
    have HQ := Lib.hid (builtin_ok w.heap.size s b v w1 hv hp')
    have HV := Lib.hid hv1
    clear hp hp' hv hv1 h7 h5
    go_wp2_with fail
    refine HQ.out.mono ?_
    rintro e w2 ⟨B, rfl, hcell, hb⟩
    have HB2 := Lib.hid (HB.out.trans (hb.mono HB.out.size))
    clear hb HQ
    go_wp2_with (go_at_call 20; refine (length.numOf_ok _ _ _ hcell).mono ?_; rintro e w' ⟨rfl, rfl⟩)
    go_ret2
    exact ⟨HB2.out, .inl ⟨v, HV.out, rfl⟩⟩
  · have hno : ∀ v, Lib.parseIntB 64 s.data.toList ≠ .ok v := fun v hv => hok ⟨v, hv⟩
    have hp' : Calls Tryd.prog 36 #[.string s, .int .i64 10, .int .i64 64] w1 fun e w' => (∃ v N, e = .returned (.tuple #[.int .i64 v, .iface 159 (.pointer (some ⟨N, 0, none⟩))])) ∧ Below w1.heap.size w1 w' := by
      refine hp.mono ?_
      rintro e w' ⟨hb, ⟨u, hu, rfl⟩ | ⟨_, v, N, rfl⟩⟩
      · exact (hno u hu).elim
      · exact ⟨⟨v, N, rfl⟩, hb⟩
    have HQ := Lib.hid (builtin_err w.heap.size s b w1 hv h7 h5 hp')
    have HV := Lib.hid hno
    clear hp hp' hv hno hok h7 h5
    go_wp2_with fail
    refine HQ.out.mono ?_
    rintro e w2 ⟨⟨t, v, rfl⟩, hb⟩
    have HB2 := Lib.hid (HB.out.trans (hb.mono HB.out.size))
    clear hb HQ
    go_wp2_with (go_at_call 20; refine (numOf_err t v _).mono ?_; rintro e w' ⟨rfl, rfl⟩)
    go_ret2
    exact ⟨HB2.out, .inr ⟨HV.out, t, v, rfl⟩⟩

/-- What the harness tells. -/
def TextOk (s : ByteArray) (w : World) (e : Ending) (w' : World) : Prop :=
  Below w.heap.size w w' ∧ ((∃ v, Lib.parseIntB 64 s.data.toList = .ok v ∧ e = .returned (.tuple #[.float .f64 (floatOfInt .f64 v), .bool true])) ∨
    ((∀ v, Lib.parseIntB 64 s.data.toList ≠ .ok v) ∧ e = .returned (.tuple #[.float .f64 0, .bool false])))
theorem text_any (s : ByteArray) (rs : List Nat) (hc : Chain s 0 rs) (hs : s.size ≤ 1000000) (w : World) (hw : Sent w) :
    Calls Tryd.prog 12 #[.string s] w (TextOk s w) := by
  have HC := Lib.hid (part_any s rs hc hs w hw)
  clear hc hs hw
  go_enter Tryd.func12, Tryd.ntmps12
  go_wp2_with fail
  refine HC.out.mono ?_
  rintro e w1 ⟨hb, ⟨v, hv, rfl⟩ | ⟨hn, t, v, rfl⟩⟩
  · have HB := Lib.hid hb
    have HV := Lib.hid hv
    clear hb hv HC
    go_wp2_with (go_at_call 13; refine (length.number_ok _ _).mono ?_; rintro e w' ⟨rfl, rfl⟩)
    go_ret2
    exact ⟨HB.out, .inl ⟨v, HV.out, rfl⟩⟩
  · have HB := Lib.hid hb
    have HV := Lib.hid hn
    clear hb hn HC
    go_wp2_with (go_at_call 13; refine (number_err _ t v _).mono ?_; rintro e w' ⟨rfl, rfl⟩)
    go_ret2
    exact ⟨HB.out, .inr ⟨HV.out, rfl⟩⟩

/-- units9: UTF-8 of at most 2000 bytes, or not. -/
def U9 (s : ByteArray) (w : World) (e : Ending) (w' : World) : Prop :=
  Below w.heap.size w w' ∧ ((∃ v, e = .returned (.tuple #[v, .bool false])) ∨ ∃ v rs, e = .returned (.tuple #[v, .bool true]) ∧ Chain s 0 rs ∧ s.size ≤ 2000)
theorem units9_any (s : ByteArray) (w : World) : Calls Tryd.prog 10 #[.string s] w (U9 s w) := by
  by_cases hs : s.size ≤ 2000
  · have hc : ¬ ((2000 : Int) < (s.size : Int)) := by omega
    have hd : decide ((2000 : Int) < (s.size : Int)) = false := decide_eq_false hc
    have HC := Lib.hid (units_any s w (by omega))
    have HS := Lib.hid hs
    clear hc hs
    go_enter Tryd.func10, Tryd.ntmps10
    go_wp2_with fail
    refine HC.out.mono ?_
    rintro e w1 ⟨hb, rfl | ⟨v, rs, rfl, hch, _⟩⟩
    · have HB := Lib.hid hb
      clear hb HC
      go_wp2
      go_ret2
      exact ⟨HB.out, .inl ⟨_, rfl⟩⟩
    · have HB := Lib.hid hb
      have HH := Lib.hid hch
      clear hb HC hch
      go_wp2
      go_ret2
      exact ⟨HB.out, .inr ⟨_, rs, rfl, HH.out, HS.out⟩⟩
  · have hc : ((2000 : Int) < (s.size : Int)) := by omega
    have hd : decide ((2000 : Int) < (s.size : Int)) = true := decide_eq_true hc
    clear hs
    go_enter Tryd.func10, Tryd.ntmps10
    go_wp2
    go_ret2
    exact ⟨Below.refl _ _, .inl ⟨_, rfl⟩⟩

set_option maxRecDepth 100000 in
theorem walk (s : ByteArray) (w : World) (hz : s.size ≤ 9223372036854775807) (hw : Sent w) :
    Calls Tryd.prog 5 #[.string s] w fun e w' => e = .returned (.bool true) ∧ Below w.heap.size w w' := by
  have HU := Lib.hid (units9_any s w)
  have HW := Lib.hid hw
  clear hw
  by_cases hs : s.size ≤ 2147483647
  · have hc : ¬ ((2147483647 : Int) < (s.size : Int)) := by omega
    have hd : decide ((2147483647 : Int) < (s.size : Int)) = false := decide_eq_false hc
    clear hc hs
    go_enter Tryd.func5, Tryd.ntmps5
    go_wp2_with fail
    refine HU.out.mono ?_
    rintro e w1 ⟨hb, ⟨v, rfl⟩ | ⟨v, rs, rfl, hch, hs⟩⟩
    · have HB := Lib.hid hb
      clear hb HU
      go_wp2
      go_ret
      exact ⟨rfl, HB.out⟩
    · have HB := Lib.hid hb
      have HI := Lib.hid (integer_any s w1 (by omega))
      have HT := Lib.hid (text_any s rs hch (by omega) w1 (sent_below HW.out HB.out))
      clear hb HU hch hs
      go_wp2_with fail
      refine HI.out.mono ?_
      rintro e w2 ⟨n, ok, sure, rfl, hsp, rfl⟩
      have HP := Lib.hid hsp
      clear hsp HI
      cases sure
      · go_wp2
        go_ret
        exact ⟨rfl, HB.out⟩
      · go_wp2_with fail
        refine HT.out.mono ?_
        rintro e w2 ⟨hb, ⟨u, hu, rfl⟩ | ⟨hn, rfl⟩⟩
        · have HB2 := Lib.hid (HB.out.trans (hb.mono HB.out.size))
          clear hb HT
          cases ok
          · exact ((HP.out rfl).2 rfl u hu).elim
          · have e : u = n := by
              have := (HP.out rfl).1 rfl
              rw [hu] at this
              cases this; rfl
            subst e
            have ho := length.self_eq u
            clear hu
            go_wp2
            go_ret
            exact ⟨rfl, HB2.out⟩
        · have HB2 := Lib.hid (HB.out.trans (hb.mono HB.out.size))
          clear hb HT
          cases ok
          · clear hn
            go_wp2
            go_ret
            exact ⟨rfl, HB2.out⟩
          · exact (hn n ((HP.out rfl).1 rfl)).elim
  · have hc : ((2147483647 : Int) < (s.size : Int)) := by omega
    have hd : decide ((2147483647 : Int) < (s.size : Int)) = true := decide_eq_true hc
    clear hs HU
    go_enter Tryd.func5, Tryd.ntmps5
    go_wp2
    go_ret
    exact ⟨rfl, Below.refl _ _⟩

/-! ### The listed variables -/
theorem gSyn : Tryd.prog.globalNamed "strconv.ErrSyntax" = some 4 := by kernel_rfl
theorem gRng : Tryd.prog.globalNamed "strconv.ErrRange" = some 5 := by kernel_rfl
theorem tSyn : (Tryd.prog.globals[4]?).map (·.type) = some 36 := by kernel_rfl
theorem tRng : (Tryd.prog.globals[5]?).map (·.type) = some 36 := by kernel_rfl
theorem cells209 : Tryd.prog.cellsOf 209 = 1 := by kernel_rfl
theorem cells9 : Tryd.prog.cellsOf 9 = 1 := by kernel_rfl
theorem star : "*" ++ "errors.errorString" = "*errors.errorString" := by decide
theorem row207 (u : TypeId) (h : Tryd.prog.typeName? 3 u = some "*errors.errorString") : u = 207 :=
  typeName_ptr_named (nm := "errors.errorString") (by rw [star]; kernel_rfl) (by kernel_rfl) (by decide) u (by rw [star]; exact h)
theorem sent_of {W : World} (hL : laidMetH Tryd.prog Rows.fnIntegerExactRow.laid W) : Sent W := by
  have h3 : laidMet Tryd.prog [("strconv.ErrRange", Rows.laid_strconv_ErrRange), ("strconv.ErrSyntax", Rows.laid_strconv_ErrSyntax)] W := laidMet.tail (laidMet.tail (laidMet.tail hL))
  obtain ⟨a1, s1, hv1, _, _, _⟩ := laid_sentinel h3 gRng tRng Tryd.underlying36 row207 Tryd.underlying207 Tryd.underlying209 rfl rfl Tryd.underlying9 cells209 cells9
  obtain ⟨a2, s2, hv2, _, _, _⟩ := laid_sentinel (laidMet.tail h3) gSyn tSyn Tryd.underlying36 row207 Tryd.underlying207 Tryd.underlying209 rfl rfl Tryd.underlying9 cells209 cells9
  have e2 := World.var?_cell gSyn hv2 0
  have e1 := World.var?_cell gRng hv1 0
  exact ⟨⟨207, .pointer (some a2), by simpa using e2⟩, ⟨207, .pointer (some a1), by simpa using e1⟩⟩

/-- The witness: the settled world, the variables holding what their initialisers lay. -/
noncomputable def low : Nat := (World.holding Tryd.prog default ⟨#[], #[], []⟩).heap.size
def nums (k : IntKind) (l : List Nat) : Array Value := (l.map fun z : Nat => Value.int k (z : Int)).toArray
noncomputable def laidWorld (os : Os) : World :=
  let w0 := World.holding Tryd.prog os ⟨#[.cells #[.string ⟨#[118, 97, 108, 117, 101, 32, 111, 117, 116, 32, 111, 102, 32, 114, 97, 110, 103, 101]⟩] 209, .cells #[.string ⟨#[105, 110, 118, 97, 108, 105, 100, 32, 115, 121, 110, 116, 97, 120]⟩] 209], #[], []⟩
  let put (h : Array Obj) (g : Nat) (cs : Array Value) : Array Obj := h.modify g fun
    | .cells _ t frozen => .cells cs t frozen
    | o => o
  let h1 := put w0.heap 5 #[.iface 207 (.pointer (some ⟨low, 0, none⟩))]
  let h2 := put h1 4 #[.iface 207 (.pointer (some ⟨low + 1, 0, none⟩))]
  let h3 := put h2 3 (nums .u64 [1, 10, 100, 1000, 10000, 100000, 1000000, 10000000, 100000000, 1000000000, 10000000000, 100000000000, 1000000000000, 10000000000000, 100000000000000, 1000000000000000, 10000000000000000, 100000000000000000, 1000000000000000000, 10000000000000000000])
  let h4 := put h3 6 (nums .u8 [0, 1, 28, 2, 29, 14, 24, 3, 30, 22, 20, 15, 25, 17, 4, 8, 31, 27, 13, 23, 21, 19, 16, 7, 26, 12, 18, 6, 11, 5, 10, 9])
  let h5 := put h4 7 (nums .u8 [0, 1, 56, 2, 57, 49, 28, 3, 61, 58, 42, 50, 38, 29, 17, 4, 62, 47, 59, 36, 45, 43, 51, 22, 53, 39, 33, 30, 24, 18, 12, 5, 63, 55, 48, 27, 60, 41, 37, 16, 46, 35, 44, 21, 52, 32, 23, 11, 54, 26, 40, 15, 34, 20, 31, 10, 25, 14, 19, 9, 13, 8, 7, 6])
  { w0 with heap := h5 }
theorem laid_met (os : Os) (args : Array Value) : laidMet Tryd.prog Rows.fnIntegerExactRow.laid ((laidWorld os).forCall (fun _ _ => 0) ⟨#[], args, []⟩).memory :=
  laidMet_of_run' 8 (by kernel_rfl) (by kernel_rfl)
theorem witness_row (os : Os) {H : Type} (enc : TypeId × Value → H) :
    (OpenSpec.ofChange Rows.fnIntegerExactSpec).preRow enc Tryd.prog Tryd.f5 Rows.fnIntegerExactRow.domain false Rows.fnIntegerExactRow.laid ((laidWorld os).forCall (fun _ _ => 0) ⟨#[], #[.string ⟨#[]⟩], []⟩).memory #[.string ⟨#[]⟩] := by
  have hw : (DataW.whole enc Tryd.prog ((laidWorld os).forCall (fun _ _ => 0) ⟨#[], #[.string ⟨#[]⟩], []⟩).memory Tryd.f5.params.toList Rows.fnIntegerExactSpec.vars false #[Value.string ⟨#[]⟩].toList 8).map (fun x => (x.1, x.2.1)) =
      some ([.lit (.string [])], []) := by kernel_rfl
  obtain ⟨⟨x1, x2, x3⟩, hx, hx1⟩ := Option.map_eq_some_iff.1 hw
  simp only [Prod.mk.injEq] at hx1
  obtain ⟨rfl, rfl⟩ := hx1
  exact OpenSpec.preRow_of_cond 8 hx (by kernel_rfl) (fun k hk => by cases hk) (by kernel_rfl) (laid_met os _)

set_option maxRecDepth 100000 in
theorem lifted (os : Os) (started : os.Started) (H : Type) (enc : TypeId × Value → H) (F : Stop.Interp) :
    ReturnsInHanded {} Tryd.checked os 5 .any ((OpenSpec.ofChange Rows.fnIntegerExactSpec).preRow enc Tryd.prog Tryd.f5 Rows.fnIntegerExactRow.domain false Rows.fnIntegerExactRow.laid) (((OpenSpec.ofChange Rows.fnIntegerExactSpec).at F).post enc Tryd.prog Tryd.f5 false true false false) := by
  refine returnsInHanded_of_row (C := Tryd.checked) (s := OpenSpec.ofChange Rows.fnIntegerExactSpec) length.own started (by kernel_rfl) Tryd.func5
    (witness_row_atRef (enc := enc) (C := Tryd.checked) false (laidWorld os) #[.string ⟨#[]⟩] rfl (by kernel_rfl) (by kernel_rfl) (by kernel_rfl) (witness_row os enc)) ?_
  intro W base args ds gs before hval0 hW _ _ _ hL _ _
  have hval : ∀ (j : Nat) t v, Tryd.f5.params[j]? = some t → args[j]? = some v → Value.okWide Tryd.prog W .any base t v := hval0
  have hW' := hW
  obtain ⟨p, q, hA0, hV0, rfl, _, _⟩ := hW
  have hA : DataW.TrodAll enc Tryd.prog W 0 (fun _ => true) true Tryd.f5.params.toList args.toList ds p := hA0
  rw [Tryd.params5] at hA hval
  obtain ⟨v0, d0, rfl, rfl, h0⟩ := trodAll_one hA
  obtain ⟨s, rfl, rfl, rfl, ws⟩ := open_string Tryd.underlying9 (hval 0 9 v0 rfl rfl) h0
  refine (walk s W (by unfold maxLen at ws; omega) (sent_of hL)).mono ?_
  rintro e W' ⟨he, hb⟩
  subst he
  refine ⟨_, rfl, LawKit.law_post length.laidOut (by kernel_rfl) rfl (by kernel_rfl) Tryd.underlying4 ?_ hW' hb⟩
  intro ds hl
  have hl' : ds.length = 1 := hl
  obtain ⟨a, rfl⟩ : ∃ a, ds = [a] := by
    match ds, hl' with
    | [a], _ => exact ⟨a, rfl⟩
  exact ⟨rfl, rfl, rfl⟩

theorem said : Rows.FnIntegerExactSaid :=
  OpenClaim.holds_of_cond 5 Tryd.f5 rfl rfl rfl rfl rfl rfl rfl ⟨rfl, rfl, rfl, rfl, rfl⟩ rfl rfl rfl rfl rfl (by kernel_rfl) Tryd.func5 (by kernel_rfl)
    (of_decide_eq_true (by kernel_rfl)) (by unfold Func.isWrapper; first | (rw [if_pos (by decide +kernel)]; kernel_rfl) | (rw [if_neg (by decide +kernel)]; exact ⟨rfl, rfl⟩))
    (fun os started H enc _ F => by rw [OpenClaim.pre_eq_preRow]; exact lifted os started H enc F)

/-- No parameter wants a stand-in; the program's own looks are off: what the card asks. -/
theorem plain (f : FuncId) (fn : Func) (hf : Tryd.pinned.checked.prog.funcNamed "given.example/pub-rondel/laws.FnIntegerExact" = some f) (hfn : Tryd.pinned.checked.prog.funcs[f]? = some fn) :
    true = Tryd.pinned.checked.prog.looks [] ∧ ∀ (j : Nat) t, fn.params[j]? = some t → Tryd.pinned.checked.prog.wantsStandIn t = false := by
  obtain rfl : f = 5 := Option.some.inj ((show Tryd.prog.funcNamed "given.example/pub-rondel/laws.FnIntegerExact" = some 5 by kernel_rfl).symm.trans hf) |>.symm
  obtain rfl : fn = Tryd.f5 := (Option.some.inj (Tryd.func5.symm.trans hfn)).symm
  refine ⟨by kernel_rfl, fun j t ht => ?_⟩
  rw [Tryd.params5] at ht
  obtain rfl : t = 9 := by simpa using Array.mem_of_getElem? ht
  exact (show Tryd.prog.wantsStandIn 9 = false by kernel_rfl)

theorem card : Rows.FnIntegerExactCardSaid :=
  Claim7.holds_tied_plain_at .later [] _ _ _ _ said (fun _ h => by cases h) (by kernel_rfl) (fun _ h => by cases h) fnIntegerExact_row_tie rfl ⟨rfl, rfl⟩ (by kernel_rfl) rfl plain (by kernel_rfl)
end Go.Proofs.YtjnlgefcpmppmaaDoor.exact
