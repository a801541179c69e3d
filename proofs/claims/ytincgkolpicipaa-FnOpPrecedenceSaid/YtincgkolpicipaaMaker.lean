/- impl.builder.made by contract: of a leaf, and of a node with kids. -/
import Derived.Test.YtincgkolpicipaaRows
import Derived.WalkKit
import Derived.WalkLawsBesides
import Derived.WalkSpells
import Derived.Lib.Hide
import Derived.Below
import Derived.Deep.RegionHeld3
import Derived.Deep.DeepCutAuto
namespace Go.Proofs.Ytincgkolpicipaa.tree
open Go.RowKit
theorem step_after {w W w' : World} (h : Below w.heap.size w W) (hb : Below W.heap.size W w') : Below w.heap.size w w' := h.trans (hb.mono h.size)
theorem hkeep {w w' : World} (hb : Below w.heap.size w w') {b : Nat} {o : Obj} (h : w.heap[b]? = some o) : w'.heap[b]? = some o := (hb.block b (Array.getElem?_eq_some_iff.1 h).1).trans h
theorem row_parts {w : World} {k : Nat} {cs : Array Value} {t : TypeId} (h : w.heap[k]? = some (.cells cs t (0, 0))) : (∀ j, w.cell? ⟨k, j, none⟩ = cs[j]?) ∧ (∀ j, w.frozen? ⟨k, j, none⟩ = false) :=
  ⟨fun j => by simp [World.cell?, h], fun j => by simp [World.frozen?, h]⟩
/-- The node i of a row of nodes. -/
def NodeAt (w : World) (g i : Nat) (k o : Int) (t : ByteArray) (m z : Int) : Prop :=
  w.cell? ⟨g, i * 5, none⟩ = some (.int .i64 k) ∧ w.cell? ⟨g, i * 5 + 1, none⟩ = some (.int .i64 o) ∧ w.cell? ⟨g, i * 5 + 2, none⟩ = some (.string t) ∧ w.cell? ⟨g, i * 5 + 3, none⟩ = some (.int .i64 m) ∧ w.cell? ⟨g, i * 5 + 4, none⟩ = some (.int .i64 z)
theorem NodeAt.later {w w' : World} {g i : Nat} {k o : Int} {t : ByteArray} {m z : Int} (h : NodeAt w g i k o t m z) (hb : Below w.heap.size w w') : NodeAt w' g i k o t m z :=
  ⟨cell_later hb h.1, cell_later hb h.2.1, cell_later hb h.2.2.1, cell_later hb h.2.2.2.1, cell_later hb h.2.2.2.2⟩
/-- A slice of places, in blocks from B on. -/
def KidsAt (B : Nat) (W : World) (v : Value) (ks : List Nat) : Prop :=
  (v = .slice none 0 0 ∧ ks = []) ∨ ∃ q cap, v = .slice (some ⟨q, 0, none⟩) ks.length cap ∧ B ≤ q ∧ q < W.heap.size ∧ ks ≠ [] ∧ ∀ j (h : j < ks.length), W.cell? ⟨q, j, none⟩ = some (.int .i64 ks[j])
theorem KidsAt.later {B : Nat} {W W' : World} {v : Value} {ks : List Nat} (h : KidsAt B W v ks) (hb : Below W.heap.size W W') : KidsAt B W' v ks := by
  rcases h with h | ⟨q, cap, h, hB, hq, hk, hc⟩
  · exact .inl h
  · exact .inr ⟨q, cap, h, hB, Nat.lt_of_lt_of_le hq hb.size, hk, fun j hj => cell_later hb (hc j hj)⟩
theorem KidsAt.mono {B B' : Nat} {W : World} {v : Value} {ks : List Nat} (h : KidsAt B W v ks) (hb : B' ≤ B) : KidsAt B' W v ks := by
  rcases h with h | ⟨q, cap, h, hB, hq, hk, hc⟩
  · exact .inl h
  · exact .inr ⟨q, cap, h, Nat.le_trans hb hB, hq, hk, hc⟩
theorem KidsAt.setCell {B : Nat} {W : World} {v : Value} {ks : List Nat} (h : KidsAt B W v ks) {a : Addr} (ha : a.block < B) (u : Value) : KidsAt B (W.setCell a u) v ks := by
  rcases h with h | ⟨q, cap, h, hB, hq, hk, hc⟩
  · exact .inl h
  · refine .inr ⟨q, cap, h, hB, by simpa using hq, hk, fun j hj => ?_⟩
    rw [World.cell?_setCell_far _ _ _ _ (by show a.block ≠ q; omega)]
    exact hc j hj

set_option maxRecDepth 100000 in
set_option maxHeartbeats 4000000 in
theorem made_leaf (b g cap L i : Nat) (k o m z : Int) (t : ByteArray) (P : Nat → Value → World → Prop) (w : World) (hi : i < L)
    (h1 : w.cell? ⟨b, 0, none⟩ = some (.slice (some ⟨g, 0, none⟩) L cap)) (hn : NodeAt w g i k o t m z)
    (hk : ∀ w', Below w.heap.size w w' → Calls Try.prog 81 #[.pointer (some ⟨b, 0, none⟩), .int .i64 i] w' fun e w'' => e = .returned (.slice none 0 0) ∧ Below w'.heap.size w' w'')
    (hl : ∀ w', Below w.heap.size w w' → Calls Try.prog 82 #[.pointer (some ⟨b, 0, none⟩), .agg #[.int .i64 k, .int .i64 o, .string t, .int .i64 m, .int .i64 z]] w' fun e w'' => ∃ T p, e = .returned (.iface T p) ∧ P T p w'') :
    Calls Try.prog 68 #[.pointer (some ⟨b, 0, none⟩), .int .i64 i] w fun e w' => ∃ T p, e = .returned (.iface T p) ∧ P T p w' := by
  have hi' : (i : Int) < (L : Int) := by omega
  have HK := Lib.hid (fun w' (hb : Below w.heap.size w w') => (hk w' hb).mono fun e w'' hh => (⟨hh.1, step_after hb hh.2, hh.2⟩ : _ ∧ Below w.heap.size w w'' ∧ _))
  have HL := Lib.hid hl
  have S1 := Lib.hid (show ∀ w', Below w.heap.size w w' → (w'.cell? ⟨b, 0, none⟩ = some (.slice (some ⟨g, 0, none⟩) L cap) ∧ w'.cell? ⟨g, i * 5, none⟩ = some (.int .i64 k) ∧ w'.cell? ⟨g, i * 5 + 1, none⟩ = some (.int .i64 o) ∧ w'.cell? ⟨g, i * 5 + 2, none⟩ = some (.string t) ∧ w'.cell? ⟨g, i * 5 + 3, none⟩ = some (.int .i64 m) ∧ w'.cell? ⟨g, i * 5 + 4, none⟩ = some (.int .i64 z)) ∧ Below w.heap.size w w' from fun w' hb => ⟨⟨cell_later hb h1, hn.later hb⟩, hb⟩)
  have SA := Lib.hid (show ∀ (w' : World) (o1 : Obj), (w'.cell? ⟨b, 0, none⟩ = some (.slice (some ⟨g, 0, none⟩) L cap) ∧ w'.cell? ⟨g, i * 5, none⟩ = some (.int .i64 k) ∧ w'.cell? ⟨g, i * 5 + 1, none⟩ = some (.int .i64 o) ∧ w'.cell? ⟨g, i * 5 + 2, none⟩ = some (.string t) ∧ w'.cell? ⟨g, i * 5 + 3, none⟩ = some (.int .i64 m) ∧ w'.cell? ⟨g, i * 5 + 4, none⟩ = some (.int .i64 z)) ∧ Below w.heap.size w w' → _ from fun w' o1 hh => S1.out (w'.alloc o1) (hh.2.alloc hh.2.size o1))
  have SB := Lib.hid (show ∀ (o1 : Obj), _ from fun o1 => S1.out (w.alloc o1).drew ((Below.refl _ _).alloc (Nat.le_refl _) o1).drew)
  obtain ⟨n0, n1, n2, n3, n4⟩ := hn
  clear hk hl hi
  go_enter Try.func68, Try.ntmps68
  go_upto_region 1 with fail
  go_cut [5, 6] (fun s5 s6 wx => ∃ q : Nat, s5 = .pointer (some ⟨q, 0, none⟩) ∧ s6 = .slice none 0 0 ∧ (wx.cell? ⟨q, 0, none⟩ = some (.int .i64 k) ∧ wx.cell? ⟨q, 1, none⟩ = some (.int .i64 o) ∧ wx.cell? ⟨q, 2, none⟩ = some (.string t) ∧ wx.cell? ⟨q, 3, none⟩ = some (.int .i64 m) ∧ wx.cell? ⟨q, 4, none⟩ = some (.int .i64 z)) ∧ Below w.heap.size w wx)
  case first =>
    go_region_held3 (fun w' => (w'.cell? ⟨b, 0, none⟩ = some (.slice (some ⟨g, 0, none⟩) L cap) ∧ w'.cell? ⟨g, i * 5, none⟩ = some (.int .i64 k) ∧ w'.cell? ⟨g, i * 5 + 1, none⟩ = some (.int .i64 o) ∧ w'.cell? ⟨g, i * 5 + 2, none⟩ = some (.string t) ∧ w'.cell? ⟨g, i * 5 + 3, none⟩ = some (.int .i64 m) ∧ w'.cell? ⟨g, i * 5 + 4, none⟩ = some (.int .i64 z)) ∧ Below w.heap.size w w')
      (first | (with_reducible exact S1.out _ ((Below.refl _ _).drew)) | (with_reducible exact SA.out _ _ (by assumption)) | (with_reducible exact S1.out _ hb) | (with_reducible exact S1.out _ (hb.alloc hzw _)) | (with_reducible exact SB.out _) | (with_reducible exact S1.out _ (((((hb.setCell (by exact Nat.le_refl _) _).setCell (by exact Nat.le_refl _) _).setCell (by exact Nat.le_refl _) _).setCell (by exact Nat.le_refl _) _).setCell (by exact Nat.le_refl _) _)))
      (first | (go_at_call 81; refine (HK.out _ (And.right (by assumption))).mono ?_; rintro e w1 ⟨rfl, hb, hb2⟩; have hzw := hb.size; try (first | (have hv := row_parts (hkeep hb2 (heap_alloc_new w _)); obtain ⟨hv1, hv2⟩ := hv) | (have hv := row_parts (hkeep hb2 (heap_alloc_new w.drew _)); obtain ⟨hv1, hv2⟩ := hv))))
    all_goals (go_wp2_with fail; go_meet)
    · exact ⟨w1.heap.size, rfl, rfl, ⟨by simp [World.cell?_alloc_new], by simp [World.cell?_alloc_new], by simp [World.cell?_alloc_new], by simp [World.cell?_alloc_new], by simp [World.cell?_alloc_new]⟩, hb.alloc hzw _⟩
    · exact ⟨w.heap.size, rfl, rfl, by simp [go_sem, hv1], (((((hb.setCell (by exact Nat.le_refl _) _).setCell (by exact Nat.le_refl _) _).setCell (by exact Nat.le_refl _) _).setCell (by exact Nat.le_refl _) _).setCell (by exact Nat.le_refl _) _)⟩
  case rest =>
    obtain ⟨q, rfl, rfl, ⟨q0, q1, q2, q3, q4⟩, hb⟩ := hcut
    have HB := Lib.hid hb
    clear hb
    go_wp2_with (go_at_call 82; refine (HL.out _ HB.out).mono ?_; rintro e w1 ⟨T, p, rfl, hp⟩; have HP := Lib.hid hp; clear hp)
    go_ret
    exact ⟨T, p, rfl, HP.out⟩
set_option maxRecDepth 100000 in
set_option maxHeartbeats 4000000 in
theorem made_both (b g cap L i : Nat) (k o m z : Int) (t : ByteArray) (ks : List Nat) (P : Nat → Value → World → Prop) (w : World) (hi : i < L)
    (h1 : w.cell? ⟨b, 0, none⟩ = some (.slice (some ⟨g, 0, none⟩) L cap)) (hn : NodeAt w g i k o t m z)
    (hk : ∀ w', Below w.heap.size w w' → Calls Try.prog 81 #[.pointer (some ⟨b, 0, none⟩), .int .i64 i] w' fun e w'' => ∃ v, e = .returned v ∧ KidsAt w'.heap.size w'' v ks ∧ Below w'.heap.size w' w'')
    (hl : ∀ w', Below w.heap.size w w' → Calls Try.prog 82 #[.pointer (some ⟨b, 0, none⟩), .agg #[.int .i64 k, .int .i64 o, .string t, .int .i64 m, .int .i64 z]] w' fun e w'' => e = .returned .nilIface ∧ Below w'.heap.size w' w'')
    (hbo : ∀ w' v, Below w.heap.size w w' → KidsAt w.heap.size w' v ks → Calls Try.prog 84 #[.pointer (some ⟨b, 0, none⟩), .agg #[.int .i64 k, .int .i64 o, .string t, .int .i64 m, .int .i64 z], v] w' fun e w'' => ∃ T p, e = .returned (.iface T p) ∧ P T p w'') :
    Calls Try.prog 68 #[.pointer (some ⟨b, 0, none⟩), .int .i64 i] w fun e w' => ∃ T p, e = .returned (.iface T p) ∧ P T p w' := by
  have hi' : (i : Int) < (L : Int) := by omega
  have HK := Lib.hid (fun w' (hb : Below w.heap.size w w') => (hk w' hb).mono fun e w'' ⟨v, he, hv, h2⟩ => (⟨v, he, hv.mono hb.size, step_after hb h2, h2, hv⟩ : ∃ v, e = Ending.returned v ∧ KidsAt w.heap.size w'' v ks ∧ Below w.heap.size w w'' ∧ Below w'.heap.size w' w'' ∧ KidsAt w'.heap.size w'' v ks))
  have HL := Lib.hid hl
  have HO := Lib.hid hbo
  have S1 := Lib.hid (show ∀ w', Below w.heap.size w w' → (w'.cell? ⟨b, 0, none⟩ = some (.slice (some ⟨g, 0, none⟩) L cap) ∧ w'.cell? ⟨g, i * 5, none⟩ = some (.int .i64 k) ∧ w'.cell? ⟨g, i * 5 + 1, none⟩ = some (.int .i64 o) ∧ w'.cell? ⟨g, i * 5 + 2, none⟩ = some (.string t) ∧ w'.cell? ⟨g, i * 5 + 3, none⟩ = some (.int .i64 m) ∧ w'.cell? ⟨g, i * 5 + 4, none⟩ = some (.int .i64 z)) ∧ Below w.heap.size w w' from fun w' hb => ⟨⟨cell_later hb h1, hn.later hb⟩, hb⟩)
  have SA := Lib.hid (show ∀ (w' : World) (o1 : Obj), (w'.cell? ⟨b, 0, none⟩ = some (.slice (some ⟨g, 0, none⟩) L cap) ∧ w'.cell? ⟨g, i * 5, none⟩ = some (.int .i64 k) ∧ w'.cell? ⟨g, i * 5 + 1, none⟩ = some (.int .i64 o) ∧ w'.cell? ⟨g, i * 5 + 2, none⟩ = some (.string t) ∧ w'.cell? ⟨g, i * 5 + 3, none⟩ = some (.int .i64 m) ∧ w'.cell? ⟨g, i * 5 + 4, none⟩ = some (.int .i64 z)) ∧ Below w.heap.size w w' → _ from fun w' o1 hh => S1.out (w'.alloc o1) (hh.2.alloc hh.2.size o1))
  have SB := Lib.hid (show ∀ (o1 : Obj), _ from fun o1 => S1.out (w.alloc o1).drew ((Below.refl _ _).alloc (Nat.le_refl _) o1).drew)
  obtain ⟨n0, n1, n2, n3, n4⟩ := hn
  clear hk hl hi hbo
  go_enter Try.func68, Try.ntmps68
  go_upto_region 1 with fail
  go_cut [5, 6] (fun s5 s6 wx => ∃ q : Nat, s5 = .pointer (some ⟨q, 0, none⟩) ∧ KidsAt w.heap.size wx s6 ks ∧ (wx.cell? ⟨q, 0, none⟩ = some (.int .i64 k) ∧ wx.cell? ⟨q, 1, none⟩ = some (.int .i64 o) ∧ wx.cell? ⟨q, 2, none⟩ = some (.string t) ∧ wx.cell? ⟨q, 3, none⟩ = some (.int .i64 m) ∧ wx.cell? ⟨q, 4, none⟩ = some (.int .i64 z)) ∧ Below w.heap.size w wx)
  case first =>
    go_region_held3 (fun w' => (w'.cell? ⟨b, 0, none⟩ = some (.slice (some ⟨g, 0, none⟩) L cap) ∧ w'.cell? ⟨g, i * 5, none⟩ = some (.int .i64 k) ∧ w'.cell? ⟨g, i * 5 + 1, none⟩ = some (.int .i64 o) ∧ w'.cell? ⟨g, i * 5 + 2, none⟩ = some (.string t) ∧ w'.cell? ⟨g, i * 5 + 3, none⟩ = some (.int .i64 m) ∧ w'.cell? ⟨g, i * 5 + 4, none⟩ = some (.int .i64 z)) ∧ Below w.heap.size w w')
      (first | (with_reducible exact S1.out _ ((Below.refl _ _).drew)) | (with_reducible exact SA.out _ _ (by assumption)) | (with_reducible exact S1.out _ hb) | (with_reducible exact S1.out _ (hb.alloc hzw _)) | (with_reducible exact SB.out _) | (with_reducible exact S1.out _ (((((hb.setCell (by exact Nat.le_refl _) _).setCell (by exact Nat.le_refl _) _).setCell (by exact Nat.le_refl _) _).setCell (by exact Nat.le_refl _) _).setCell (by exact Nat.le_refl _) _)))
      (first | (go_at_call 81; refine (HK.out _ (And.right (by assumption))).mono ?_; rintro e w1 ⟨v, rfl, hkd, hb, hb2, hkd2⟩; have HKD := Lib.hid hkd; have HKD2 := Lib.hid hkd2; clear hkd hkd2; have hzw := hb.size; try (first | (have hv := row_parts (hkeep hb2 (heap_alloc_new w _)); obtain ⟨hv1, hv2⟩ := hv) | (have hv := row_parts (hkeep hb2 (heap_alloc_new w.drew _)); obtain ⟨hv1, hv2⟩ := hv))))
    all_goals (go_wp2_with fail; go_meet)
    · exact ⟨w1.heap.size, rfl, HKD.out.later ((Below.refl _ _).alloc (Nat.le_refl _) _), ⟨by simp [World.cell?_alloc_new], by simp [World.cell?_alloc_new], by simp [World.cell?_alloc_new], by simp [World.cell?_alloc_new], by simp [World.cell?_alloc_new]⟩, hb.alloc hzw _⟩
    · exact ⟨w.heap.size, rfl, ((((((HKD2.out.setCell (by simp) _).setCell (by simp) _).setCell (by simp) _).setCell (by simp) _).setCell (by simp) _).mono (by simp)), by simp [go_sem, hv1], (((((hb.setCell (by exact Nat.le_refl _) _).setCell (by exact Nat.le_refl _) _).setCell (by exact Nat.le_refl _) _).setCell (by exact Nat.le_refl _) _).setCell (by exact Nat.le_refl _) _)⟩
  case rest =>
    obtain ⟨q, rfl, hv, ⟨q0, q1, q2, q3, q4⟩, hb⟩ := hcut
    have HB := Lib.hid hb
    have HV := Lib.hid hv
    have S2 := Lib.hid (show ∀ w', Below wc.heap.size wc w' → (w'.cell? ⟨q, 0, none⟩ = some (.int .i64 k) ∧ w'.cell? ⟨q, 1, none⟩ = some (.int .i64 o) ∧ w'.cell? ⟨q, 2, none⟩ = some (.string t) ∧ w'.cell? ⟨q, 3, none⟩ = some (.int .i64 m) ∧ w'.cell? ⟨q, 4, none⟩ = some (.int .i64 z)) from fun w' hb => ⟨cell_later hb q0, cell_later hb q1, cell_later hb q2, cell_later hb q3, cell_later hb q4⟩)
    clear hb hv
    go_wp2_with (first | (go_at_call 82; refine (HL.out _ HB.out).mono ?_; rintro e w1 ⟨rfl, hb1⟩; obtain ⟨r0, r1, r2, r3, r4⟩ := S2.out _ hb1; have HB1 := Lib.hid hb1; clear hb1) | (go_at_call 84; refine (HO.out _ _ (step_after HB.out HB1.out) (HV.out.later HB1.out)).mono ?_; rintro e w2 ⟨T, p, rfl, hp⟩; have HP := Lib.hid hp; clear hp))
    go_ret
    exact ⟨T, p, rfl, HP.out⟩
end Go.Proofs.Ytincgkolpicipaa.tree
