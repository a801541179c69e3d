/- FnStepsTwice: how the fields of an object are seen, walked. -/
import Derived.Test.YtincgkolpicipaaDoorSt5
namespace Go.Proofs.YtincgkolpicipaaDoor.twice
open Go.RowKit
theorem ta82_79 (a : Addr) (W : World) : (Instr.typeAssert (.iface 82 (.pointer (some a))) 68 79 true).run Tryd.prog W = .ok (.tuple #[.pointer none, .bool false]) W := by kernel_rfl
theorem ta82_75 (a : Addr) (W : World) : (Instr.typeAssert (.iface 82 (.pointer (some a))) 68 75 true).run Tryd.prog W = .ok (.tuple #[.pointer none, .bool false]) W := by kernel_rfl
theorem ta82_82 (a : Addr) (W : World) : (Instr.typeAssert (.iface 82 (.pointer (some a))) 68 82 true).run Tryd.prog W = .ok (.tuple #[.pointer (some a), .bool true]) W := by kernel_rfl
theorem ta75_79 (a : Addr) (W : World) : (Instr.typeAssert (.iface 75 (.pointer (some a))) 68 79 true).run Tryd.prog W = .ok (.tuple #[.pointer none, .bool false]) W := by kernel_rfl
theorem ta75_75 (a : Addr) (W : World) : (Instr.typeAssert (.iface 75 (.pointer (some a))) 68 75 true).run Tryd.prog W = .ok (.tuple #[.pointer (some a), .bool true]) W := by kernel_rfl
theorem ta79_79 (a : Addr) (W : World) : (Instr.typeAssert (.iface 79 (.pointer (some a))) 68 79 true).run Tryd.prog W = .ok (.tuple #[.pointer (some a), .bool true]) W := by kernel_rfl
theorem hmk56 : ∀ W : World, Sem.run Tryd.prog (Instr.makeMap 56 none) W = .ok (.map (some W.heap.size)) (W.alloc (.map #[] 0)) := fun W => run_makeMap 56 W
/-- What is told of an object: its fields. -/
def VisC (o : Ob) : Prop := ∀ w : World, o.At w → o.cnt ≤ 1000000 → Calls Tryd.prog 23 #[o.val] w fun e w' => Below w.heap.size w w' ∧ ∃ b, e = .returned (.map (some b)) ∧ w.heap.size ≤ b ∧ MapV hR w' b o.view o.cnt
theorem invK9 : ∀ key kl, keyOf Tryd.prog 9 key = some kl → ∃ x, key = encStr x := fun key kl hk => by obtain ⟨x, hx, _⟩ := Maps.keyOf_str Tryd.underlying9 hk; exact ⟨x, hx⟩
theorem invH : ∀ v y, hR v = some y → ∃ c, v = Value.int .i64 c := fun v y hv => by obtain ⟨c, rfl, _⟩ := hR_inv hv; exact ⟨c, rfl⟩
theorem invF : ∀ v y, fR v = some y → ∃ c : Int, v = (fun c => .agg #[.nilIface, .int .i64 c] : Int → Value) c := fun v y hv => by obtain ⟨c, rfl, _⟩ := fR_inv hv; exact ⟨c, rfl⟩
set_option maxRecDepth 100000 in
set_option maxHeartbeats 8000000 in
theorem vis_res (p b : Nat) (f : Vw) (n : Nat) (o : Ob) : VisC (.res p b f n o) := by
  intro w h hc
  obtain ⟨h1, ⟨D, hown, hD⟩, -⟩ := h
  have hc : n ≤ 1000000 := hc
  have c1 : w.cell? ⟨p, 1, none⟩ = some (.map (some b)) := cell_of_row w _ 1 _ _ _ h1
  have c2 : ∀ ob, (w.alloc ob).cell? ⟨p, 1, none⟩ = some (.map (some b)) := fun ob => cell_later ((Below.refl _ _).alloc (Nat.le_refl _) ob) c1
  have hbl := hown.lt
  have hmk := hmk56
  have ta1 := ta75_79
  have ta2 := ta75_75
  have HO := Lib.hid hown
  have HD := Lib.hid hD
  have HSZ := Lib.hid hown.size_le
  clear h1 hown hD
  show Calls Tryd.prog 23 #[.iface 75 (.pointer (some ⟨p, 0, none⟩))] w _
  go_enter Tryd.func23, Tryd.ntmps23
  go_wp2_with (first
    | (at_range; refine wpList_range_own _ rfl _ 56 rfl 9 44 keyed9 Tryd.underlying56 hR b n D rfl (HO.out.alloc _) ?_; intro w0 hrg0 hg0 hs0; have HST := Lib.hid (lrel_start (f := fun _ => none) (h := f) ((Below.refl _ _).alloc (Nat.le_refl _) _) (mapV_made hR w) (HO.out.alloc _) HD.out (fun s h => h) hrg0 hg0); clear hrg0 hg0 hs0)
    | go_in)
  have e1 : (w.alloc (.map #[] 0)).heap.size = w.heap.size + 1 := by simp
  rw [e1, Nat.zero_add] at HST
  rw [e1]
  go_frame
  clear ta1 ta2 hmk c1 c2 e1
  go_loopw [11, 12] (fun _ _ wr => LRel hR w w.heap.size b (w.heap.size + 1) n n D (fun _ => none) f wr) (fun _ _ wr => wr.rangeLeft b (w.heap.size + 1))
  case atStart => exact HST.out
  case round =>
    obtain ⟨⟨left, cnt, m, hrg, hm, hle⟩, hbel⟩ := hrel
    go_wp2_with (first
      | (at_next; refine wpList_next_ranges _ rfl _ rfl 9 keyed9 hR encStr (Value.int .i64) invK9 invH b (w.heap.size + 1) n _ _ _ rfl hrg ?_ ?_)
      | go_in)
    · intro hc0 hl0
      have HE := Lib.hid (lrel_end hm hle hl0)
      have HB := Lib.hid hbel
      clear hrg hm hle hbel hc0 hl0
      go_wp2
      go_returns
      exact ⟨HB.out, _, rfl, Nat.le_refl _, HE.out⟩
    · intro x c kl yd yp w1 cnt1 hkey hlk hv hat hrg1 hlt hg1 hs1 hen
      obtain ⟨x', ex, rfl, hxl⟩ := Maps.keyOf_str Tryd.underlying9 hkey
      obtain rfl := encStr_inj ex
      have hy : yd = .lit (.int .i64 c) := by
        have h0 : hR (.int .i64 c) = some (.lit (.int .i64 c), []) := rfl
        rw [h0] at hv
        injection hv with hv
        injection hv with hv _
        exact hv.symm
      subst hy
      have hx : f x = some c := HD.out.val hat
      have hm1 := hm.grown hg1 (by simp)
      obtain ⟨w2, hrun, hm2, hg2⟩ := hm1.update Tryd.underlying56 (by omega) x (by rw [← maxLen_eq]; exact hxl) (.int .i64 c) c rfl
      have HN := Lib.hid (lrel_put hbel (Nat.le_succ _) (Nat.le_refl _) (by omega) (by omega) hle hlt hrg1 hg1 (World.grownBy.refl _ _) hm2 hg2 hx)
      have HM := Lib.hid (show w2.rangeLeft b (w.heap.size + 1) < wr.rangeLeft b (w.heap.size + 1) by rw [HN.out.2.left_eq, hrg.left_eq]; exact hlt)
      clear hkey hlk hat hrg1 hlt hg1 hs1 hm hm1 hm2 hg2 hx hrg hle hbel hv
      go_wp2_with fail
      exact ⟨HN.out.1, HM.out⟩
end Go.Proofs.YtincgkolpicipaaDoor.twice
