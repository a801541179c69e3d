/- Strings of the evaluator: what they hold; how they are made, put together and told. -/
import Derived.Test.YtjnlgefcpmppmaaRows
import Derived.Test.YtjnlgefcpmppmaaUnits
import Derived.WalkKit
import Derived.WalkLawsBesides
import Derived.WalkSpells
import Derived.Laws.RangeAny
import Derived.Laws.Cover4
import Derived.Lib.Hide
import Derived.Below
import Derived.OneCell
import Derived.Deep.RegionHeld3
import Derived.Deep.AppendLies
namespace Go.Proofs.Ytjnlgefcpmppmaa.joined
open Go.RowKit Go.Proofs.Ytjnlgefcpmppmaa.utf

def rv (r : Nat) : Value := .int .i32 (r : Int)
/-- The runes lie from a on; there is no place if there are none. -/
def Runes (w : World) (o : Option Addr) (rs : List Nat) : Prop := rs = [] ∨ ∃ a, o = some a ∧ ∀ j u, (rs.map rv)[j]? = some u → w.cell? (a.add j) = some u
/-- The value is a string of the evaluator: its code points. -/
inductive Str (B : Nat) (w : World) : Value → List Nat → Prop
  | flat (b : Nat) (o : Option Addr) (n c : Nat) (rs : List Nat) (hn : n = rs.length) (h0 : w.heap[b]? = some (.cells #[.slice o n c] 90 (0, 0))) (hr : Runes w o rs) (hB : B ≤ b) : Str B w (.iface 82 (.pointer (some ⟨b, 0, none⟩))) rs
  | tree (b n : Nat) (l r : Value) (ls rs : List Nat) (hl : Str B w l ls) (hr : Str B w r rs) (h0 : w.heap[b]? = some (.cells #[l, r, .int .i64 (n : Int)] 115 (0, 0)))
      (hn : n = ls.length + rs.length) (h30 : 30 ≤ n) (e0 : ls ≠ []) (e1 : rs ≠ []) (hB : B ≤ b) : Str B w (.iface 113 (.pointer (some ⟨b, 0, none⟩))) (ls ++ rs)
theorem block_lt {w : World} {a : Addr} {v : Value} (h : w.cell? a = some v) : a.block < w.heap.size := by
  unfold World.cell? at h
  by_cases hlt : a.block < w.heap.size
  · exact hlt
  · rw [Array.getElem?_eq_none (by omega)] at h
    cases h
theorem keep {w w' : World} (hb : Below w.heap.size w w') {a : Addr} {v : Value} (h : w.cell? a = some v) : w'.cell? a = some v := (hb.cell (block_lt h)).trans h
theorem hkeep {w w' : World} (hb : Below w.heap.size w w') {b : Nat} {o : Obj} (h : w.heap[b]? = some o) : w'.heap[b]? = some o := (hb.block b (Array.getElem?_eq_some_iff.1 h).1).trans h
theorem Runes.keep {w w' : World} (hb : Below w.heap.size w w') {o : Option Addr} {rs : List Nat} (h : Runes w o rs) : Runes w' o rs := by
  rcases h with h | ⟨a, ha, hc⟩
  · exact .inl h
  · exact .inr ⟨a, ha, fun j u hu => joined.keep hb (hc j u hu)⟩
theorem Str.keep {B : Nat} {w w' : World} (hb : Below w.heap.size w w') {v : Value} {rs : List Nat} (h : Str B w v rs) : Str B w' v rs := by
  induction h with
  | flat b o n c rs hn h0 hr hB => exact .flat b o n c rs hn (hkeep hb h0) (hr.keep hb) hB
  | tree b n l r ls rs hl hr h0 hn h30 e0 e1 hB il ir => exact .tree b n l r ls rs il ir (hkeep hb h0) hn h30 e0 e1 hB
/-- What a call that makes a string says. -/
def Makes (B : Nat) (w : World) (rs : List Nat) (e : Ending) (w' : World) : Prop := (∃ v, e = .returned v ∧ Str B w' v rs) ∧ Below w.heap.size w w'
theorem runes_of {s : ByteArray} {rs : List Nat} (h : Chain s 0 rs) : Conv.runesFrom s s.size 0 #[] = (rs.map rv).toArray := by
  have hl := h.length
  have := h.runesFrom s.size #[] (by omega)
  rw [this]
  simp [rv]
theorem empty_any (w : World) : Calls Try.prog 29 #[] w fun e w' => e = .returned (.pointer (some ⟨w.heap.size, 0, none⟩)) ∧ w.alloc (.cells #[.slice none 0 0] 90) = w' := by
  go_enter Try.func29, Try.ntmps29
  go_wp2
  go_ret
  exact ⟨rfl, rfl⟩
theorem flat_new (B : Nat) (w : World) (hB : B ≤ w.heap.size) (o : Option Addr) (n c : Nat) (rs : List Nat) (hn : n = rs.length) (hr : Runes w o rs) : Str B (w.alloc (.cells #[.slice o n c] 90)) (.iface 82 (.pointer (some ⟨w.heap.size, 0, none⟩))) rs :=
  .flat _ o n c rs hn (heap_alloc_new w _) (hr.keep ((Below.refl _ _).alloc (Nat.le_refl _) _)) hB
theorem str_drew {B : Nat} {w : World} {v : Value} {rs : List Nat} (h : Str B w v rs) : Str B w.drew v rs := h.keep (Below.refl _ _).drew
theorem make_any (B : Nat) (s : ByteArray) (rs : List Nat) (w : World) (hB : B ≤ w.heap.size) (hc : Chain s 0 rs) (hl : rs.length ≤ 1000000) : Calls Try.prog 22 #[.string s] w (Makes B w rs) := by
  have e := runes_of hc
  have hcv := run_runes_of_string (P := Try.prog) w 9 85 21 s (by kernel_rfl) (by kernel_rfl) (by kernel_rfl) (by rw [e]; simp; omega)
  rw [e] at hcv
  have hz : (rs.map rv).toArray.size = rs.length := by simp
  rw [hz] at hcv
  generalize hC : (rs.map rv).toArray ++ Array.replicate (grownCap w rs.length 0 21 - rs.length) (Value.int .i32 0) = C at hcv
  have HE : Hid (∀ j u, (rs.map rv)[j]? = some u → C[j]? = some u) := fun j u hu => by
    have hj : j < (rs.map rv).length := (List.getElem?_eq_some_iff.1 hu).1
    rw [← hC, Array.getElem?_append_left (by simpa using hj)]
    simpa using hu
  clear e hc hz hC
  go_enter Try.func22, Try.ntmps22
  go_wp2
  go_ret
  refine ⟨⟨_, rfl, ?_⟩, ((((Below.refl _ _).alloc (Nat.le_refl _) _).alloc (by simp) _).drew)⟩
  have h := flat_new B (w.alloc (.cells C 21)) (by simp; omega) (some ⟨w.heap.size, 0, none⟩) rs.length (grownCap w rs.length 0 21) rs rfl (.inr ⟨_, rfl, fun j u hu => by
    have := HE.out j u hu
    rw [Addr.add_lit, Nat.zero_add, World.cell?_alloc_new]
    exact this⟩)
  simpa [go_sem] using str_drew h
theorem of_runes (o : Option Addr) (n c : Nat) (w : World) : Calls Try.prog 40 #[.slice o n c] w fun e w' => e = .returned (.pointer (some ⟨w.heap.size, 0, none⟩)) ∧ w.alloc (.cells #[.slice o n c] 90) = w' := by
  go_enter Try.func40, Try.ntmps40
  go_wp2
  go_ret
  exact ⟨rfl, rfl⟩
theorem len_flat (b : Nat) (o : Option Addr) (n c : Nat) (w : World) (h : w.cell? ⟨b, 0, none⟩ = some (.slice o n c)) : Calls Try.prog 74 #[.pointer (some ⟨b, 0, none⟩)] w fun e w' => e = .returned (.int .i64 n) ∧ w = w' := by
  go_enter Try.func74, Try.ntmps74
  go_wp2
  go_ret
  exact ⟨rfl, rfl⟩
theorem runes_flat (b : Nat) (o : Option Addr) (n c : Nat) (w : World) (h : w.cell? ⟨b, 0, none⟩ = some (.slice o n c)) : Calls Try.prog 71 #[.pointer (some ⟨b, 0, none⟩)] w fun e w' => e = .returned (.slice o n c) ∧ w = w' := by
  go_enter Try.func71, Try.ntmps71
  go_wp2
  go_ret
  exact ⟨rfl, rfl⟩
theorem len_tree (b n : Nat) (w : World) (h : w.cell? ⟨b, 2, none⟩ = some (.int .i64 n)) : Calls Try.prog 84 #[.pointer (some ⟨b, 0, none⟩)] w fun e w' => e = .returned (.int .i64 n) ∧ w = w' := by
  go_enter Try.func84, Try.ntmps84
  go_wp2
  go_ret
  exact ⟨rfl, rfl⟩
def lengthName : String := "given.example/pub-rondel/pub/jsonnet.length"
theorem meth_flat (p : Value) (w : World) : (method 321 82 p "given.example/pub-rondel/pub/jsonnet.length").run Try.prog w = .ok (74, p) w := by kernel_rfl
theorem meth_tree (p : Value) (w : World) : (method 321 113 p "given.example/pub-rondel/pub/jsonnet.length").run Try.prog w = .ok (84, p) w := by kernel_rfl
theorem meth_runes (p : Value) (w : World) : (method 321 82 p "given.example/pub-rondel/pub/jsonnet.getRunes").run Try.prog w = .ok (71, p) w := by kernel_rfl
theorem enter74 (args : Array Value) (W : World) : (callFunc 74 args).run Try.prog W = .ok (.enter 74 args) W := by kernel_rfl
theorem enter84 (args : Array Value) (W : World) : (callFunc 84 args).run Try.prog W = .ok (.enter 84 args) W := by kernel_rfl
/-- A string's length is told by a method of its own. -/
theorem Str.lens {B : Nat} {w : World} {v : Value} {rs : List Nat} (h : Str B w v rs) :
    ∃ T p f, v = .iface T p ∧ (∀ W, (method 321 T p "given.example/pub-rondel/pub/jsonnet.length").run Try.prog W = .ok (f, p) W) ∧ (∀ args W, (callFunc f args).run Try.prog W = .ok (.enter f args) W) ∧ Calls Try.prog f #[p] w fun e w' => e = .returned (.int .i64 rs.length) ∧ w = w' := by
  cases h with
  | flat b o n c rs hn h0 hr hB =>
    subst hn
    exact ⟨82, _, 74, rfl, fun W => meth_flat _ W, enter74, len_flat b o _ c w (by rw [cell_of_row w b 0 _ _ _ h0]; rfl)⟩
  | tree b n l r ls rs hl hr h0 hn h30 e0 e1 hB =>
    refine ⟨113, _, 84, rfl, fun W => meth_tree _ W, enter84, ?_⟩
    have := len_tree b n w (by rw [cell_of_row w b 2 _ _ _ h0]; rfl)
    rw [List.length_append, ← hn]
    exact this
/-- A short string is flat. -/
theorem Str.short {B : Nat} {w : World} {v : Value} {rs : List Nat} (h : Str B w v rs) (hs : rs.length < 30) :
    ∃ b o c, v = .iface 82 (.pointer (some ⟨b, 0, none⟩)) ∧ w.heap[b]? = some (.cells #[.slice o rs.length c] 90 (0, 0)) ∧ Runes w o rs := by
  cases h with
  | flat b o n c rs hn h0 hr hB =>
    subst hn
    exact ⟨b, o, c, rfl, h0, hr⟩
  | tree b n l r ls rs hl hr h0 hn h30 e0 e1 hB =>
    rw [List.length_append] at hs
    omega
theorem Str.base {B : Nat} {w : World} {v : Value} {rs : List Nat} (h : Str B w v rs) : B ≤ (match v with | .iface _ (.pointer (some a)) => a.block | _ => 0) ∧ (match v with | .iface _ (.pointer (some a)) => a.block | _ => 0) < w.heap.size := by
  cases h with
  | flat b o n c rs hn h0 hr hB => exact ⟨hB, (Array.getElem?_eq_some_iff.1 h0).1⟩
  | tree b n l r ls rs hl hr h0 hn h30 e0 e1 hB => exact ⟨hB, (Array.getElem?_eq_some_iff.1 h0).1⟩
theorem Str.le {B : Nat} {w : World} {v : Value} {rs : List Nat} (h : Str B w v rs) : B ≤ w.heap.size := Nat.le_of_lt (Nat.lt_of_le_of_lt h.base.1 h.base.2)
theorem Try.info21 : (Try.prog.info? 21).map (fun i => (i.zero, i.size, i.bytes)) = some (some (.int .i32 0), 1, 4) := by kernel_rfl
set_option maxRecDepth 100000 in
theorem concat_left (B : Nat) (a b : Value) (bs : List Nat) (w : World) (ha : Str B w a []) (hb : Str B w b bs) : Calls Try.prog 30 #[a, b] w (Makes B w bs) := by
  have HB := Lib.hid hb
  obtain ⟨T1, p1, f1, rfl, m1, q1, k1⟩ := ha.lens
  obtain ⟨T2, p2, f2, rfl, m2, q2, k2⟩ := hb.lens
  have K1 := Lib.hid k1
  have K2 := Lib.hid k2
  have hz : (((([] : List Nat).length : Nat) : Int) == 0) = true := rfl
  clear k1 k2 ha hb
  go_enter Try.func30, Try.ntmps30
  go_wp2_with fail
  refine K1.out.mono ?_
  rintro e w' ⟨rfl, rfl⟩
  go_wp2_with fail
  refine K2.out.mono ?_
  rintro e w' ⟨rfl, rfl⟩
  go_wp2_with fail
  go_ret
  exact ⟨⟨_, rfl, HB.out⟩, Below.refl _ _⟩
set_option maxRecDepth 100000 in
theorem concat_right (B : Nat) (a b : Value) (us : List Nat) (w : World) (ha : Str B w a us) (hb : Str B w b []) (h0 : us ≠ []) : Calls Try.prog 30 #[a, b] w (Makes B w us) := by
  have HA := Lib.hid ha
  obtain ⟨T1, p1, f1, rfl, m1, q1, k1⟩ := ha.lens
  obtain ⟨T2, p2, f2, rfl, m2, q2, k2⟩ := hb.lens
  have h1 : us.length ≠ 0 := by simpa using h0
  generalize us.length = n at k1 h1
  have K1 := Lib.hid k1
  have K2 := Lib.hid k2
  have hz : (((([] : List Nat).length : Nat) : Int) == 0) = true := rfl
  have hz1 : ((n : Int) == 0) = false := by simp; omega
  clear k1 k2 ha hb h0 h1
  go_enter Try.func30, Try.ntmps30
  go_wp2_with fail
  refine K1.out.mono ?_
  rintro e w' ⟨rfl, rfl⟩
  go_wp2_with fail
  refine K2.out.mono ?_
  rintro e w' ⟨rfl, rfl⟩
  go_wp2_with fail
  go_ret
  exact ⟨⟨_, rfl, HA.out⟩, Below.refl _ _⟩
set_option maxRecDepth 100000 in
theorem concat_long (B : Nat) (a b : Value) (us vs : List Nat) (w : World) (ha : Str B w a us) (hb : Str B w b vs) (h0 : us ≠ []) (h1 : vs ≠ []) (h30 : 30 ≤ us.length + vs.length) (hmax : us.length + vs.length ≤ 1000000) : Calls Try.prog 30 #[a, b] w (Makes B w (us ++ vs)) := by
  have HT := Lib.hid (fun n hn => Str.tree (w := w.alloc (.cells #[a, b, .int .i64 (n : Nat)] 115)) w.heap.size n a b us vs (ha.keep ((Below.refl _ _).alloc (Nat.le_refl _) _)) (hb.keep ((Below.refl _ _).alloc (Nat.le_refl _) _)) (heap_alloc_new w _) hn (by omega) h0 h1 ha.le)
  obtain ⟨T1, p1, f1, rfl, m1, q1, k1⟩ := ha.lens
  obtain ⟨T2, p2, f2, rfl, m2, q2, k2⟩ := hb.lens
  have g0 : us.length ≠ 0 := by simpa using h0
  have g1 : vs.length ≠ 0 := by simpa using h1
  generalize us.length = n at *
  generalize vs.length = m at *
  have K1 := Lib.hid k1
  have K2 := Lib.hid k2
  have hz : ((m : Int) == 0) = false := by simp; omega
  have hz1 : ((n : Int) == 0) = false := by simp; omega
  have hz2 : decide ((n : Int) + m < 30) = false := by simp; omega
  clear k1 k2 ha hb h0 h1
  go_enter Try.func30, Try.ntmps30
  go_wp2_with fail
  refine K1.out.mono ?_
  rintro e w' ⟨rfl, rfl⟩
  go_wp2_with fail
  refine K2.out.mono ?_
  rintro e w' ⟨rfl, rfl⟩
  go_wp2_with fail
  go_ret
  exact ⟨⟨_, rfl, HT.out (n + m) rfl⟩, (Below.refl _ _).alloc (Nat.le_refl _) _⟩
end Go.Proofs.Ytjnlgefcpmppmaa.joined
