/- impl.Precedence of an operator with two numbers, by contract. -/
import Derived.Test.YtincgkolpicipaaRoot
import Derived.Deep.QuietTactic
import Derived.BigQuiet
namespace Go.Proofs.Ytincgkolpicipaa.tree
open Go.RowKit
set_option maxRecDepth 100000 in
set_option maxHeartbeats 4000000 in
theorem build_op (g cap : Nat) (x : Nat) (hx0 : 1 ≤ x) (hx1 : x < 20) (w : World) (hg : g < w.heap.size) (h : ops.RowAt w g (ops.three x)) :
    Calls Try.prog 29 #[.slice (some ⟨g, 0, none⟩) 3 cap, .bool false] w fun e w' => ∃ q, e = .returned (.tuple #[.iface 132 (.pointer (some ⟨q, 0, none⟩)), .bool true]) ∧ w'.cell? ⟨q, 12, none⟩ = some (.int .i64 (ops.opL.getD x 0)) ∧ Below w.heap.size w w' := by
  have HS := Lib.hid (ops.shaped_three g cap x w hg h)
  have HN := Lib.hid (fun b N w' (h : Bd w' b g cap N (ns3 x)) => node_op b g cap N x hx0 hx1 w' h)
  have HR := Lib.hid h
  clear h hx0 hx1
  have hmk : ∀ w, (Instr.makeSlice 122 (.int .i64 3) (.int .i64 3)).run Try.prog w = .ok (.slice (some ⟨w.heap.size, 0, none⟩) 3 3) (w.alloc (.cells #[.nilIface, .nilIface, .nilIface] 65)) := fun _ => by kernel_rfl
  go_enter Try.func29, Try.ntmps29
  go_wp2_with (go_at_call 54; refine HS.out.mono ?_; rintro e w1 ⟨rfl, hb⟩; have HB := Lib.hid hb; clear hb)
  have hB : Bd ((w1.alloc (.cells #[.nilIface, .nilIface, .nilIface] 65)).alloc (.cells #[.slice (some ⟨g, 0, none⟩) 3 cap, .bool false, .bool false, .slice (some ⟨w1.heap.size, 0, none⟩) 3 3] 124)) (w1.heap.size + 1) g cap w1.heap.size (ns3 x) := by
    have hz := HB.out.size
    have hb2 : Below w.heap.size w ((w1.alloc (.cells #[.nilIface, .nilIface, .nilIface] 65)).alloc (.cells #[.slice (some ⟨g, 0, none⟩) 3 cap, .bool false, .bool false, .slice (some ⟨w1.heap.size, 0, none⟩) 3 3] 124)) := (HB.out.alloc hz _).alloc (by simp; omega) _
    have hr := HR.out.later hb2
    refine ⟨?_, ?_, ?_, ?_, ?_, ⟨#[.nilIface, .nilIface, .nilIface], ?_, rfl⟩, by omega, by omega⟩
    · rw [World.cell?_alloc_at _ _ _ _ (by simp)]; rfl
    · rw [World.cell?_alloc_at _ _ _ _ (by simp)]; rfl
    · rw [World.cell?_alloc_at _ _ _ _ (by simp)]; rfl
    · rw [World.cell?_alloc_at _ _ _ _ (by simp)]; rfl
    · intro i n hn
      have hlt : i < 3 := (List.getElem?_eq_some_iff.1 hn).1
      have hc : i = 0 ∨ i = 1 ∨ i = 2 := by omega
      rcases hc with rfl | rfl | rfl
      · cases hn; exact ⟨hr 0 _ rfl, hr 1 _ rfl, hr 2 _ rfl, hr 3 _ rfl, hr 4 _ rfl⟩
      · cases hn; exact ⟨hr 5 _ rfl, hr 6 _ rfl, hr 7 _ rfl, hr 8 _ rfl, hr 9 _ rfl⟩
      · cases hn; exact ⟨hr 10 _ rfl, hr 11 _ rfl, hr 12 _ rfl, hr 13 _ rfl, hr 14 _ rfl⟩
    · rw [Below.heap_alloc _ _ _ (by simp)]; exact heap_alloc_new w1 _
  have hb3 : Below w.heap.size w ((w1.alloc (.cells #[.nilIface, .nilIface, .nilIface] 65)).alloc (.cells #[.slice (some ⟨g, 0, none⟩) 3 cap, .bool false, .bool false, .slice (some ⟨w1.heap.size, 0, none⟩) 3 3] 124)) := (HB.out.alloc HB.out.size _).alloc (by have := HB.out.size; simp; omega) _
  have hNle : w.heap.size ≤ w1.heap.size := HB.out.size
  have HNN := Lib.hid (HN.out _ _ _ hB)
  have HBD := Lib.hid hB
  have HB3 := Lib.hid hb3
  have HLE := Lib.hid hNle
  clear hB hb3 hNle hmk
  generalize hw : ((w1.alloc (.cells #[.nilIface, .nilIface, .nilIface] 65)).alloc (.cells #[.slice (some ⟨g, 0, none⟩) 3 cap, .bool false, .bool false, .slice (some ⟨w1.heap.size, 0, none⟩) 3 3] 124)) = w3 at HNN HBD HB3

  clear hw
  go_wp2_with (go_at_call 55; refine HNN.out.mono ?_; rintro e w4 ⟨q, rfl, hc, ha⟩; have HC := Lib.hid hc; have HA := Lib.hid ha; clear hc ha)
  have c2 := (HBD.out.aside HA.out).c2
  go_quiet (fail)
  go_wp2
  go_ret2
  exact ⟨q, rfl, HC.out, HB3.out.trans ((HA.out.below HLE.out HB3.out.size).trans ((drewN_below _ _).mono (Nat.le_trans HB3.out.size HA.out.size)))⟩
theorem prec_no (w : World) (q : Nat) : (Instr.typeAssert (.iface 132 (.pointer (some ⟨q, 0, none⟩))) 65 126 true).run Try.prog w = .ok (.tuple #[.pointer none, .bool false]) w ∧ (Instr.typeAssert (.iface 132 (.pointer (some ⟨q, 0, none⟩))) 65 127 true).run Try.prog w = .ok (.tuple #[.pointer none, .bool false]) w ∧ (Instr.typeAssert (.iface 132 (.pointer (some ⟨q, 0, none⟩))) 65 128 true).run Try.prog w = .ok (.tuple #[.pointer none, .bool false]) w ∧ (Instr.typeAssert (.iface 132 (.pointer (some ⟨q, 0, none⟩))) 65 129 true).run Try.prog w = .ok (.tuple #[.pointer none, .bool false]) w ∧ (Instr.typeAssert (.iface 132 (.pointer (some ⟨q, 0, none⟩))) 65 130 true).run Try.prog w = .ok (.tuple #[.pointer none, .bool false]) w ∧ (Instr.typeAssert (.iface 132 (.pointer (some ⟨q, 0, none⟩))) 65 131 true).run Try.prog w = .ok (.tuple #[.pointer none, .bool false]) w ∧ (Instr.typeAssert (.iface 132 (.pointer (some ⟨q, 0, none⟩))) 65 132 true).run Try.prog w = .ok (.tuple #[.pointer (some ⟨q, 0, none⟩), .bool true]) w :=
  ⟨by kernel_rfl, by kernel_rfl, by kernel_rfl, by kernel_rfl, by kernel_rfl, by kernel_rfl, by kernel_rfl⟩
set_option maxRecDepth 100000 in
theorem expr_op (q : Nat) (k : Nat) (hk : k < 19) (w : World) (h : w.cell? ⟨q, 12, none⟩ = some (.int .i64 k)) :
    Calls Try.prog 30 #[.iface 132 (.pointer (some ⟨q, 0, none⟩))] w fun e w' => e = .returned (.int .i64 (ops.bopL.getD k 0)) ∧ w = w' := by
  obtain ⟨t1, t2, t3, t4, t5, t6, t7⟩ := prec_no w q
  have HB := Lib.hid (ops.bop_any k hk)
  clear hk
  generalize ops.bopL.getD k 0 = p at HB ⊢
  go_enter Try.func30, Try.ntmps30
  go_wp2_with (go_at_call 53; refine (HB.out _).mono ?_; rintro e w' ⟨rfl, rfl⟩)
  go_ret
  exact ⟨rfl, rfl⟩
set_option maxRecDepth 100000 in
theorem precedence_op (g cap : Nat) (hcap : 3 ≤ cap) (x : Nat) (hx0 : 1 ≤ x) (hx1 : x < 20) (w : World) (h : ops.RowAt w g (ops.three x)) :
    Calls Try.prog 15 #[.slice (some ⟨g, 0, none⟩) 3 cap, .int .i64 0] w fun e w' => e = .returned (.int .i64 (ops.prec x)) ∧ Below w.heap.size w w' := by
  have hz : w.cell? ⟨g, 4, none⟩ = some (.int .i64 3) := h 4 _ rfl
  have hg : g < w.heap.size := block_lt_of_cell hz
  obtain ⟨k, hk, hkx⟩ := ops.opL_in x hx1
  have HP := Lib.hid (fun cap => build_op g cap x hx0 hx1 w hg h)
  have HE := Lib.hid (fun q w' (hc : w'.cell? ⟨q, 12, none⟩ = some (.int .i64 k)) => expr_op q k hk w' hc)
  have hp : ops.prec x = ops.bopL.getD k 0 := by unfold ops.prec; rw [hkx]; rfl
  rw [hp]
  rw [hkx] at HP
  clear hkx hk hx0 hx1 h hp hg
  have hc1 : ((cap : Int) < 3) = False := by simp; omega
  have hc2 : (cap = 0) = False := by simp; omega
  generalize ops.bopL.getD k 0 = p at HE ⊢
  go_enter Try.func15, Try.ntmps15
  go_wp2_with (first | (go_at_call 29; refine (HP.out _).mono ?_; rintro e w1 ⟨q, rfl, hc, hb⟩; have HB := Lib.hid hb; have HC := Lib.hid hc; clear hb hc) | (go_at_call 30; refine (HE.out _ _ HC.out).mono ?_; rintro e w2 ⟨rfl, rfl⟩))
  go_ret
  exact ⟨rfl, HB.out⟩
end Go.Proofs.Ytincgkolpicipaa.tree
