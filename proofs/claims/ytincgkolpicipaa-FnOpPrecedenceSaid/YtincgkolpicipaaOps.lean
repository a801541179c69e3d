/- FnOpPrecedence: precedences of operators. -/
import Derived.Test.YtincgkolpicipaaRows
import Derived.WalkKit
import Derived.WalkLawsBesides
import Derived.WalkSpells
import Derived.Lib.Hide
import Derived.Below
namespace Go.Proofs.Ytincgkolpicipaa.ops
open Go.RowKit

def bopL : List Int := [5, 5, 5, 6, 6, 7, 7, 8, 8, 8, 8, 8, 9, 9, 10, 11, 12, 13, 14]
set_option maxRecDepth 100000 in
theorem bop_any (k : Nat) (hk : k < 19) (w : World) : Calls Try.prog 53 #[.int .i64 k] w fun e w' => e = .returned (.int .i64 (bopL.getD k 0)) ∧ w = w' := by
  have h : k = 0 ∨ k = 1 ∨ k = 2 ∨ k = 3 ∨ k = 4 ∨ k = 5 ∨ k = 6 ∨ k = 7 ∨ k = 8 ∨ k = 9 ∨ k = 10 ∨ k = 11 ∨ k = 12 ∨ k = 13 ∨ k = 14 ∨ k = 15 ∨ k = 16 ∨ k = 17 ∨ k = 18 := by omega
  clear hk
  rcases h with rfl | rfl | rfl | rfl | rfl | rfl | rfl | rfl | rfl | rfl | rfl | rfl | rfl | rfl | rfl | rfl | rfl | rfl | rfl
  all_goals
    go_enter Try.func53, Try.ntmps53
    go_wp2
    go_ret
    exact ⟨rfl, rfl⟩
def opL : List Int := [0, 0, 1, 2, 3, 4, 5, 6, 9, 10, 7, 8, 11, 12, 13, 14, 15, 16, 17, 18]
def sgL : List ByteArray := [⟨#[]⟩, ⟨#[42]⟩, ⟨#[47]⟩, ⟨#[37]⟩, ⟨#[43]⟩, ⟨#[45]⟩, ⟨#[60, 60]⟩, ⟨#[62, 62]⟩, ⟨#[60]⟩, ⟨#[60, 61]⟩, ⟨#[62]⟩, ⟨#[62, 61]⟩, ⟨#[105, 110]⟩, ⟨#[61, 61]⟩, ⟨#[33, 61]⟩, ⟨#[38]⟩, ⟨#[94]⟩, ⟨#[124]⟩, ⟨#[38, 38]⟩, ⟨#[124, 124]⟩]
theorem binaries_any (w : World) : Calls Try.prog 52 #[] w fun e w' => e = .returned (.slice (some ⟨w.heap.size, 0, none⟩) 20 20) ∧ w.alloc (.cells (opL.map fun z => Value.int .i64 z).toArray 58) = w' := by
  go_enter Try.func52, Try.ntmps52
  go_wp2
  go_ret
  exact ⟨rfl, rfl⟩
set_option maxRecDepth 100000 in
theorem binaryOp_any (x : Nat) (h0 : 1 ≤ x) (h1 : x < 20) (w : World) : Calls Try.prog 27 #[.int .i64 x] w fun e w' => e = .returned (.tuple #[.int .i64 (opL.getD x 0), .bool true]) ∧ w.alloc (.cells (opL.map fun z => Value.int .i64 z).toArray 58) = w' := by
  have hc : (w.alloc (.cells (opL.map fun z => Value.int .i64 z).toArray 58)).cell? ⟨w.heap.size, x, none⟩ = some (.int .i64 (opL.getD x 0)) := by
    rw [World.cell?_alloc_at _ _ _ _ rfl]
    have hl : x < opL.length := h1
    simp [List.getD_eq_getElem?_getD, List.getElem?_eq_getElem hl]
  have hx : (1 : Int) ≤ (x : Int) := by omega
  have hx2 : (x : Int) < 20 := by omega
  have hd1 : decide ((x : Int) < 1) = false := decide_eq_false (by omega)
  have hd2 : decide ((20 : Int) ≤ (x : Int)) = false := decide_eq_false (by omega)
  generalize opL.getD x 0 = z at hc ⊢
  generalize hC : (opL.map fun z => Value.int .i64 z).toArray = C at hc ⊢
  have HB : Hid (∀ w, Calls Try.prog 52 #[] w fun e w' => e = .returned (.slice (some ⟨w.heap.size, 0, none⟩) 20 20) ∧ w.alloc (.cells C 58) = w') := by rw [← hC]; exact Lib.hid binaries_any
  clear hC
  go_enter Try.func27, Try.ntmps27
  go_wp2_with (go_at_call 52; refine (HB.out _).mono ?_; rintro e w' ⟨rfl, rfl⟩)
  go_ret2
  exact ⟨rfl, rfl⟩
theorem opF : ∀ x : Fin 20, 0 ≤ opL.getD x.val 0 ∧ opL.getD x.val 0 < 19 := by decide
theorem opL_in (x : Nat) (h1 : x < 20) : ∃ k : Nat, k < 19 ∧ opL.getD x 0 = (k : Int) := by
  have h := opF ⟨x, h1⟩
  simp only at h
  exact ⟨(opL.getD x 0).toNat, by omega, by omega⟩
theorem bp_any (k : Nat) (hk : k < 19) (w : World) : Calls Try.prog 28 #[.int .i64 k] w fun e w' => e = .returned (.int .i64 (bopL.getD k 0)) ∧ w = w' := by
  have H := Lib.hid (bop_any k hk)
  clear hk
  generalize bopL.getD k 0 = p at H ⊢
  go_enter Try.func28, Try.ntmps28
  go_wp2_with (go_at_call 53; refine (H.out _).mono ?_; rintro e w' ⟨rfl, rfl⟩)
  go_ret
  exact ⟨rfl, rfl⟩
/-- The precedence of the operator x. -/
def prec (x : Nat) : Int := bopL.getD (opL.getD x 0).toNat 0
theorem prec_any (x : Nat) (h0 : 1 ≤ x) (h1 : x < 20) (w : World) : Calls Try.prog 11 #[.int .i64 x] w fun e w' => e = .returned (.int .i64 (prec x)) ∧ Below w.heap.size w w' := by
  obtain ⟨k, hk, hx⟩ := opL_in x h1
  have H1 := Lib.hid (fun w => binaryOp_any x h0 h1 w)
  have H2 := Lib.hid (bp_any k hk)
  have hp : prec x = bopL.getD k 0 := by unfold prec; rw [hx]; rfl
  rw [hp]
  rw [hx] at H1
  clear hk hx h0 h1 hp
  generalize bopL.getD k 0 = p at H2 ⊢
  go_enter Try.func11, Try.ntmps11
  go_wp2_with (first | (go_at_call 27; refine (H1.out _).mono ?_; rintro e w' ⟨rfl, rfl⟩) | (go_at_call 28; refine (H2.out _).mono ?_; rintro e w' ⟨rfl, rfl⟩))
  go_ret
  exact ⟨rfl, (Below.refl _ _).alloc (Nat.le_refl _) _⟩

/-- The sign of the operator x. -/
def sg (x : Nat) : ByteArray := sgL.getD x ⟨#[]⟩
set_option maxRecDepth 100000 in
theorem signs_any (x : Nat) (h1 : x < 20) (w : World) : Calls Try.prog 13 #[.int .i64 x] w fun e w' => e = .returned (.string (sg x)) ∧ Below w.heap.size w w' := by
  have hc : ((w.alloc (.cells (sgL.map fun z => Value.string z).toArray 9))).cell? ⟨w.heap.size, x, none⟩ = some (.string (sg x)) := by
    rw [World.cell?_alloc_at _ _ _ _ rfl]
    have hl : x < sgL.length := h1
    simp [sg, List.getD_eq_getElem?_getD, List.getElem?_eq_getElem hl]
  have hx2 : (x : Int) < 20 := by omega
  have hC : (sgL.map fun z => Value.string z).toArray = #[.string ⟨#[]⟩, .string ⟨#[42]⟩, .string ⟨#[47]⟩, .string ⟨#[37]⟩, .string ⟨#[43]⟩, .string ⟨#[45]⟩, .string ⟨#[60, 60]⟩, .string ⟨#[62, 62]⟩, .string ⟨#[60]⟩, .string ⟨#[60, 61]⟩, .string ⟨#[62]⟩, .string ⟨#[62, 61]⟩, .string ⟨#[105, 110]⟩, .string ⟨#[61, 61]⟩, .string ⟨#[33, 61]⟩, .string ⟨#[38]⟩, .string ⟨#[94]⟩, .string ⟨#[124]⟩, .string ⟨#[38, 38]⟩, .string ⟨#[124, 124]⟩] := rfl
  rw [hC] at hc
  clear hC
  generalize sg x = z at hc ⊢
  go_enter Try.func13, Try.ntmps13
  go_wp2
  go_ret
  exact ⟨rfl, (Below.refl _ _).alloc (Nat.le_refl _) _⟩
def levL : List Int := [3, 3, 3, 4, 4, 5, 5, 6, 6, 6, 6, 6, 7, 7, 8, 9, 10, 11, 12]
def lev (x : Nat) : Int := levL.getD (x - 1) 0
def namesC : Array Value := #[.string ⟨#[42]⟩, .string ⟨#[47]⟩, .string ⟨#[37]⟩, .string ⟨#[43]⟩, .string ⟨#[45]⟩, .string ⟨#[60, 60]⟩, .string ⟨#[62, 62]⟩, .string ⟨#[60]⟩, .string ⟨#[60, 61]⟩, .string ⟨#[62]⟩, .string ⟨#[62, 61]⟩, .string ⟨#[105, 110]⟩, .string ⟨#[61, 61]⟩, .string ⟨#[33, 61]⟩, .string ⟨#[38]⟩, .string ⟨#[94]⟩, .string ⟨#[124]⟩, .string ⟨#[38, 38]⟩, .string ⟨#[124, 124]⟩]
def levelsC : Array Value := #[.int .i64 3, .int .i64 3, .int .i64 3, .int .i64 4, .int .i64 4, .int .i64 5, .int .i64 5, .int .i64 6, .int .i64 6, .int .i64 6, .int .i64 6, .int .i64 6, .int .i64 7, .int .i64 7, .int .i64 8, .int .i64 9, .int .i64 10, .int .i64 11, .int .i64 12]
theorem names_at (k : Nat) (h : k < 19) : namesC[k]? = some (.string (sg (k + 1))) := by
  have hC : namesC = ((sgL.drop 1).map fun z => Value.string z).toArray := rfl
  rw [hC]
  have hl : k < (sgL.drop 1).length := h
  have hl2 : k + 1 < sgL.length := by simp [sgL]; omega
  have e : sg (k + 1) = (sgL.drop 1)[k] := by
    rw [List.getElem_drop]
    simp [sg, List.getD_eq_getElem?_getD, List.getElem?_eq_getElem hl2, Nat.add_comm]
  rw [e]
  simp
theorem levels_at (k : Nat) (h : k < 19) : levelsC[k]? = some (.int .i64 (lev (k + 1))) := by
  have hC : levelsC = (levL.map fun z => Value.int .i64 z).toArray := rfl
  rw [hC]
  have hl : k < levL.length := h
  simp [lev, List.getD_eq_getElem?_getD, List.getElem?_eq_getElem hl]
theorem sg_ne : ∀ a b : Fin 20, a ≠ b → (sg a.val).data ≠ (sg b.val).data := by decide +kernel

set_option maxRecDepth 100000 in
theorem binds_any (x : Nat) (h0 : 1 ≤ x) (h1 : x < 20) (w : World) : Calls Try.prog 12 #[.string (sg x)] w fun e w' => e = .returned (.tuple #[.int .i64 (lev x), .int .i64 x]) ∧ Below w.heap.size w w' := by
  have HN := Lib.hid names_at
  have HL := Lib.hid levels_at
  have hN : namesC = #[.string ⟨#[42]⟩, .string ⟨#[47]⟩, .string ⟨#[37]⟩, .string ⟨#[43]⟩, .string ⟨#[45]⟩, .string ⟨#[60, 60]⟩, .string ⟨#[62, 62]⟩, .string ⟨#[60]⟩, .string ⟨#[60, 61]⟩, .string ⟨#[62]⟩, .string ⟨#[62, 61]⟩, .string ⟨#[105, 110]⟩, .string ⟨#[61, 61]⟩, .string ⟨#[33, 61]⟩, .string ⟨#[38]⟩, .string ⟨#[94]⟩, .string ⟨#[124]⟩, .string ⟨#[38, 38]⟩, .string ⟨#[124, 124]⟩] := rfl
  have hL : levelsC = #[.int .i64 3, .int .i64 3, .int .i64 3, .int .i64 4, .int .i64 4, .int .i64 5, .int .i64 5, .int .i64 6, .int .i64 6, .int .i64 6, .int .i64 6, .int .i64 6, .int .i64 7, .int .i64 7, .int .i64 8, .int .i64 9, .int .i64 10, .int .i64 11, .int .i64 12] := rfl
  generalize namesC = N at HN hN
  generalize levelsC = L at HL hL
  generalize hs : sg x = s
  go_enter Try.func12, Try.ntmps12
  go_wp2
  rw [← hN, ← hL]
  clear hN hL
  have hcn : Hid (∀ k, k < 19 → ((w.alloc (Obj.cells N 9)).alloc (Obj.cells L 3)).cell? ⟨w.heap.size, k, none⟩ = some (.string (sg (k + 1)))) := fun k hk => by
    rw [World.cell?_alloc_past _ _ _ (by simp), World.cell?_alloc_at _ _ _ _ rfl, HN.out k hk]
  have hcl : Hid (∀ k, k < 19 → ((w.alloc (Obj.cells N 9)).alloc (Obj.cells L 3)).cell? ⟨w.heap.size + 1, k, none⟩ = some (.int .i64 (lev (k + 1)))) := fun k hk => by
    rw [World.cell?_alloc_at _ _ _ _ (by simp), HL.out k hk]
  have HB : Hid (Below w.heap.size w ((w.alloc (Obj.cells N 9)).alloc (Obj.cells L 3))) := ((Below.refl _ _).alloc (Nat.le_refl _) _).alloc (by simp) _
  generalize ((w.alloc (Obj.cells N 9)).alloc (Obj.cells L 3)) = W at hcn hcl HB ⊢
  clear HN HL
  go_loopw [2, 3, 6] (fun _ _ i wx => ∃ k : Nat, i = .int .i64 k ∧ k < x ∧ wx = W) (fun _ _ i _ => x - (intOf i).toNat)
  case atStart => exact ⟨0, rfl, by omega, rfl⟩
  case round =>
    obtain ⟨k, rfl, hk, rfl⟩ := hrel
    have c1 := hcn.out k (by omega)
    have c2 := hcl.out k (by omega)
    have hk1 : (k : Int) < 19 := by omega
    have hw : wrap64 ((k : Int) + 1) = ((k + 1 : Nat) : Int) := by unfold wrap64; omega
    by_cases e : k + 1 = x
    · rw [e, hs] at c1
      rw [e] at c2
      have HE := Lib.hid e
      have he : ((k : Int) + 1) = (x : Int) := by omega
      clear e hs
      go_wp2
      go_ret2
      exact ⟨rfl, HB.out⟩
    · have hne : (sg (k + 1)).data ≠ s.data := by
        have := sg_ne ⟨k + 1, by omega⟩ ⟨x, h1⟩ (fun h => e (by simpa using h))
        rw [hs] at this
        exact this
      generalize sg (k + 1) = t at c1 hne
      have hb : (t.toList == s.toList) = false := by
        rw [ByteArray.toList_eq, ByteArray.toList_eq]
        cases h : t.data.toList == s.data.toList
        · rfl
        · exact (hne (Array.toList_inj.1 (eq_of_beq h))).elim
      clear hs hne
      go_wp2
      exact ⟨⟨k + 1, by simp, by omega, trivial⟩, by simp [intOf]; omega⟩
end Go.Proofs.Ytincgkolpicipaa.ops
