/- Strings and numbers as values of the evaluator, in thunks. -/
import Derived.Test.YtjnlgefcpmppmaaTell
import Derived.Test.YtjnlgefcpmppmaaSplitN
import Derived.WalkLawsBesides
namespace Go.Proofs.Ytjnlgefcpmppmaa.split
open Go.RowKit Go.Proofs.Ytjnlgefcpmppmaa.utf Go.Proofs.Ytjnlgefcpmppmaa.joined
/-- A flat string, all of it from block B on. -/
def FlatB (B : Nat) (w : World) (v : Value) (rs : List Nat) : Prop := ∃ b o c, v = .iface 82 (.pointer (some ⟨b, 0, none⟩)) ∧ B ≤ b ∧ w.heap[b]? = some (.cells #[.slice (some ⟨o, 0, none⟩) rs.length c] 90 (0, 0)) ∧ B ≤ o ∧ ∀ j u, (rs.map rv)[j]? = some u → w.cell? ⟨o, j, none⟩ = some u
theorem FlatB.keep {B : Nat} {w w' : World} {v : Value} {rs : List Nat} (h : FlatB B w v rs) (hk : ∀ k, B ≤ k → k < w.heap.size → w'.heap[k]? = w.heap[k]?) : FlatB B w' v rs := by
  obtain ⟨b, o, c, e, hb, h0, ho, hc⟩ := h
  refine ⟨b, o, c, e, hb, (hk b hb (Array.getElem?_eq_some_iff.1 h0).1).trans h0, ho, fun j u hu => ?_⟩
  have := hc j u hu
  rw [World.cell?_of_block (w := w) (a := ⟨o, j, none⟩) (hk o ho (block_lt this))]
  exact this
theorem FlatB.mono {B B' : Nat} {w : World} {v : Value} {rs : List Nat} (h : FlatB B w v rs) (hb : B' ≤ B) : FlatB B' w v rs := by
  obtain ⟨b, o, c, e, h1, h0, ho, hc⟩ := h
  exact ⟨b, o, c, e, by omega, h0, by omega, hc⟩
def MakesB (rs : List Nat) (w : World) (e : Ending) (w' : World) : Prop := (∃ v, e = .returned v ∧ FlatB w.heap.size w' v rs) ∧ Below w.heap.size w w'
theorem flat_any (s : ByteArray) (rs : List Nat) (w : World) (hc : Chain s 0 rs) (hl : rs.length ≤ 1000000) : Calls Try.prog 22 #[.string s] w (MakesB rs w) := by
  have e := runes_of hc
  have hcv := run_runes_of_string (P := Try.prog) w 9 85 21 s (by kernel_rfl) (by kernel_rfl) (by kernel_rfl) (by rw [e]; simp; omega)
  rw [e] at hcv
  have hz : (rs.map rv).toArray.size = rs.length := by simp
  rw [hz] at hcv
  generalize hC : (rs.map rv).toArray ++ Array.replicate (grownCap w rs.length 0 21 - rs.length) (Value.int .i32 0) = C at hcv
  have HE : Hid (∀ j u, (rs.map rv)[j]? = some u → C[j]? = some u) := fun j u hu => by
    have hj : j < (rs.map rv).length := (List.getElem?_eq_some_iff.1 hu).1
    rw [← hC, Array.getElem?_append_left (by simpa using hj)]
    simpa using hu
  clear e hc hz hC
  go_enter Try.func22, Try.ntmps22
  go_wp2
  go_ret
  refine ⟨⟨_, rfl, w.heap.size + 1, w.heap.size, grownCap w rs.length 0 21, rfl, by omega, ?_, Nat.le_refl _, fun j u hu => ?_⟩, ((((Below.refl _ _).alloc (Nat.le_refl _) _).alloc (by simp) _).drew)⟩
  · have := heap_alloc_new (w.alloc (.cells C 21)) (.cells #[.slice (some ⟨w.heap.size, 0, none⟩) rs.length (grownCap w rs.length 0 21)] 90)
    rw [show (w.alloc (.cells C 21)).heap.size = w.heap.size + 1 by simp] at this
    exact this
  · have := HE.out j u hu
    simp [go_sem]
    exact this
theorem str_flat (s : ByteArray) (rs : List Nat) (w : World) (hc : Chain s 0 rs) (hl : rs.length ≤ 1000000) : Calls Try.prog 26 #[.string s] w (MakesB rs w) := by
  have HC := Lib.hid (flat_any s rs w hc hl)
  clear hc hl
  go_enter Try.func26, Try.ntmps26
  go_wp2_with fail
  refine HC.out.mono ?_
  rintro e w' ⟨⟨v, rfl, hf⟩, hb⟩
  have HF := Lib.hid hf
  have HB := Lib.hid hb
  clear hf hb
  go_wp2_with fail
  go_ret
  exact ⟨⟨v, rfl, HF.out⟩, HB.out⟩
theorem ready_any (T : TypeId) (p : Value) (w : World) : Calls Try.prog 35 #[.iface T p] w fun e w' => e = .returned (.pointer (some ⟨w.heap.size, 0, none⟩)) ∧ w.alloc (.cells #[.pointer none, .nilIface, .iface T p, .nilIface] 100) = w' := by
  go_enter Try.func35, Try.ntmps35
  go_wp2
  go_ret
  exact ⟨rfl, rfl⟩
theorem as_str (v : Value) (w : World) : (Instr.typeAssert (.iface 82 v) 56 45 true).run Try.prog w = .ok (.tuple #[.iface 82 v, .bool true]) w := by kernel_rfl
theorem as_str1 (v : Value) (w : World) : (Instr.typeAssert (.iface 82 v) 56 45 false).run Try.prog w = .ok (.iface 82 v) w := by kernel_rfl
theorem as_num (v : Value) (w : World) : (Instr.typeAssert (.iface 109 v) 56 109 true).run Try.prog w = .ok (.tuple #[v, .bool true]) w := by kernel_rfl
theorem as_arr1 (v : Value) (w : World) : (Instr.typeAssert (.iface 94 v) 56 94 false).run Try.prog w = .ok v w := by kernel_rfl
theorem getString_any (i v : Value) (w : World) : Calls Try.prog 31 #[i, .iface 82 v] w fun e w' => e = .returned (.tuple #[.iface 82 v, .nilIface]) ∧ w = w' := by
  have h := as_str
  go_enter Try.func31, Try.ntmps31
  go_wp2
  go_ret2
  exact ⟨rfl, rfl⟩
theorem getNumber_any (i v : Value) (w : World) : Calls Try.prog 42 #[i, .iface 109 v] w fun e w' => e = .returned (.tuple #[v, .nilIface]) ∧ w = w' := by
  have h := as_num
  go_enter Try.func42, Try.ntmps42
  go_wp2
  go_ret2
  exact ⟨rfl, rfl⟩
theorem toInt_small : ∀ m : Fin 256, floatToIntVal .f64 (floatOfInt .f64 (m.val : Int)) .i32 = some (m.val : Int) := by decide +kernel
theorem self_small : ∀ m : Fin 256, (FloatKind.f64.format.order (floatOfInt .f64 (m.val : Int)) (floatOfInt .f64 (m.val : Int)) != some .eq) = false := by decide +kernel
theorem getInt_any (i : Value) (b m : Nat) (hm : m < 256) (w : World) (hc : w.cell? ⟨b, 0, none⟩ = some (.float .f64 (floatOfInt .f64 m))) :
    Calls Try.prog 32 #[i, .iface 109 (.pointer (some ⟨b, 0, none⟩))] w fun e w' => e = .returned (.tuple #[.int .i64 m, .nilIface]) ∧ w = w' := by
  have h1 := toInt_small ⟨m, hm⟩
  have h2 := self_small ⟨m, hm⟩
  simp only at h1 h2
  have hcv : ∀ w, (convert 35 21 (.float .f64 (floatOfInt .f64 m))).run Try.prog w = .ok (.int .i32 m) w := fun w => run_convert_float_int w 35 21 .f64 .i32 (floatOfInt .f64 m) m (by rw [Try.underlying35]; rfl) Try.underlying21 h1
  have hcf : ∀ w, (convert 3 35 (.int .i64 m)).run Try.prog w = .ok (.float .f64 (floatOfInt .f64 m)) w := fun w => run_convert_int_float w 3 35 .i64 .f64 m (by rw [Try.underlying3]; rfl) Try.underlying35
  generalize floatOfInt .f64 (m : Int) = x at *
  clear h1
  go_enter Try.func32, Try.ntmps32
  go_wp2_with (go_at_call 42; refine (getNumber_any _ _ _).mono ?_; rintro e w' ⟨rfl, rfl⟩)
  go_ret2
  exact ⟨rfl, rfl⟩
theorem num_any (x : Nat) (w : World) : Calls Try.prog 27 #[.float .f64 x] w fun e w' => e = .returned (.iface 109 (.pointer (some ⟨w.heap.size, 0, none⟩))) ∧ w.alloc (.cells #[.float .f64 x] 120) = w' := by
  go_enter Try.func27, Try.ntmps27
  go_wp2_with (go_in)
  go_ret
  exact ⟨rfl, rfl⟩
/-- A thunk of a flat string that is s, all of it from block B on. -/
def Thunk (B : Nat) (w : World) (x : Value) (s : ByteArray) : Prop := ∃ p v rs, x = .pointer (some ⟨p, 0, none⟩) ∧ B ≤ p ∧ w.heap[p]? = some (.cells #[.pointer none, .nilIface, v, .nilIface] 100 (0, 0)) ∧ FlatB B w v rs ∧ Chain s 0 rs
theorem Thunk.keep {B : Nat} {w w' : World} {x : Value} {s : ByteArray} (h : Thunk B w x s) (hk : ∀ k, B ≤ k → k < w.heap.size → w'.heap[k]? = w.heap[k]?) : Thunk B w' x s := by
  obtain ⟨p, v, rs, e, hp, h0, hf, hc⟩ := h
  exact ⟨p, v, rs, e, hp, (hk p hp (Array.getElem?_eq_some_iff.1 h0).1).trans h0, hf.keep hk, hc⟩
/-- The row at G, of n thunks, of which k are there. -/
def Filled (G n k : Nat) (ps : List ByteArray) (w : World) : Prop := ∃ cur, w.heap[G]? = some (.cells cur 95 (0, 0)) ∧ cur.size = n ∧ ∀ j x, j < k → cur[j]? = some x → Thunk (G + 1) w x (ps.getD j ByteArray.empty)
theorem Filled.step {G n k : Nat} {ps : List ByteArray} {w w1 : World} {T : TypeId} {p : Value} {rs : List Nat} (h : Filled G n k ps w) (hb : Below w.heap.size w w1) (hf : FlatB w.heap.size w1 (.iface T p) rs) (hc : Chain (ps.getD k ByteArray.empty) 0 rs) :
    Filled G n (k + 1) ps ((w1.alloc (.cells #[.pointer none, .nilIface, .iface T p, .nilIface] 100)).setCell ⟨G, k, none⟩ (.pointer (some ⟨w1.heap.size, 0, none⟩))) := by
  obtain ⟨cur, h0, hn, ht⟩ := h
  have hG := (Array.getElem?_eq_some_iff.1 h0).1
  have hG1 : G < w1.heap.size := Nat.lt_of_lt_of_le hG hb.size
  have hb2 := hb.alloc hb.size (.cells #[.pointer none, .nilIface, .iface T p, .nilIface] 100)
  have h2 : (w1.alloc (.cells #[.pointer none, .nilIface, .iface T p, .nilIface] 100)).heap[G]? = some (.cells cur 95 (0, 0)) := (hb2.block G hG).trans h0
  have hset : ((w1.alloc (.cells #[.pointer none, .nilIface, .iface T p, .nilIface] 100)).setCell ⟨G, k, none⟩ (.pointer (some ⟨w1.heap.size, 0, none⟩))).heap[G]? = some (.cells (cur.setIfInBounds k (.pointer (some ⟨w1.heap.size, 0, none⟩))) 95 (0, 0)) := by
    obtain ⟨hlt, he⟩ := Array.getElem?_eq_some_iff.1 h2
    simp only [World.setCell, Array.getElem?_modify, if_true, h2]
    rfl
  have hkeep : ∀ j, G + 1 ≤ j → ((w1.alloc (.cells #[.pointer none, .nilIface, .iface T p, .nilIface] 100)).setCell ⟨G, k, none⟩ (.pointer (some ⟨w1.heap.size, 0, none⟩))).heap[j]? = (w1.alloc (.cells #[.pointer none, .nilIface, .iface T p, .nilIface] 100)).heap[j]? := fun j hj => Below.heap_setCell _ _ _ _ (show j ≠ G by omega)
  refine ⟨_, hset, by simpa using hn, fun j x hj hx => ?_⟩
  by_cases hjk : j = k
  · subst hjk
    have hx2 : x = .pointer (some ⟨w1.heap.size, 0, none⟩) := by
      rw [Array.getElem?_setIfInBounds] at hx
      simp at hx
      exact hx.2.symm
    subst hx2
    refine ⟨w1.heap.size, .iface T p, rs, rfl, by omega, ?_, ?_, hc⟩
    · rw [hkeep _ (by omega)]
      exact heap_alloc_new w1 _
    · refine (hf.mono (by omega)).keep (fun i hi hi2 => ?_)
      rw [hkeep i hi]
      exact heap_alloc_old w1 _ hi2
  · have hx2 : cur[j]? = some x := by
      rw [Array.getElem?_setIfInBounds] at hx
      rw [if_neg (by omega)] at hx
      exact hx
    refine (ht j x (by omega) hx2).keep (fun i hi hi2 => ?_)
    rw [hkeep i hi]
    exact hb2.block i hi2
end Go.Proofs.Ytjnlgefcpmppmaa.split
