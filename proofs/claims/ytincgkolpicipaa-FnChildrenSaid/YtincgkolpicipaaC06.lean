/- FnChildren: spec.shaped by contract; builder.made by contract, if its parts are known; builder.kids, count, str, hides, unaryOp by contract. -/
import Derived.Test.YtincgkolpicipaaC01
import Derived.Test.YtincgkolpicipaaC03
import Derived.Test.YtincgkolpicipaaC05
import Derived.Deep.RegionHeld3
import Derived.Deep.DeepCutAuto
set_option linter.unusedVariables false
set_option linter.unusedSimpArgs false
namespace Go.Proofs.Ytincgkolpicipaa.kin
open Go.RowKit
open Go.Proofs.Ytincgkolpicipaa.stack (step_after AnyBool AnyInt add_off owns_form)
theorem hkeep {w w' : World} (hb : Below w.heap.size w w') {b : Nat} {o : Obj} (h : w.heap[b]? = some o) : w'.heap[b]? = some o := (hb.block b (Array.getElem?_eq_some_iff.1 h).1).trans h
theorem row_parts {w : World} {k : Nat} {cs : Array Value} {t : TypeId} (h : w.heap[k]? = some (.cells cs t (0, 0))) : (∀ j, w.cell? ⟨k, j, none⟩ = cs[j]?) ∧ (∀ j, w.frozen? ⟨k, j, none⟩ = false) :=
  ⟨fun j => by simp [World.cell?, h], fun j => by simp [World.frozen?, h]⟩
theorem Plc.setCell {B : Nat} {W : World} {v : Value} {ks : List Nat} (h : Plc B W v ks) {a : Addr} (ha : a.block < B) (u : Value) : Plc B (W.setCell a u) v ks := by
  obtain ⟨A, cap, hv, hc, hl, h⟩ := h
  refine ⟨A, cap, hv, hc, hl, ?_⟩
  rcases h with h | ⟨q, o, ha2, hB, hq, h⟩
  · exact .inl h
  · exact .inr ⟨q, o, ha2, hB, by simpa using hq, fun j k hj => by
      rw [World.cell?_setCell_far _ _ _ _ (by show a.block ≠ q; omega)]
      exact h j k hj⟩
theorem ek_one {ns : List Nd} {ks : List Nat} (h : ks.length = 1) (he : ∀ k ∈ ks, Ex ns k) : ∃ a, ks = [a] ∧ Ex ns a := by
  match ks, h with
  | [a], _ => exact ⟨a, rfl, he a (by simp)⟩
theorem ek_two {ns : List Nd} {ks : List Nat} (h : ks.length = 2) (he : ∀ k ∈ ks, Ex ns k) : ∃ a b, ks = [a, b] ∧ Ex ns a ∧ Ex ns b := by
  match ks, h with
  | [a, b], _ => exact ⟨a, b, rfl, he a (by simp), he b (by simp)⟩
theorem ek_three {ns : List Nd} {ks : List Nat} (h : ks.length = 3) (he : ∀ k ∈ ks, Ex ns k) : ∃ a b c, ks = [a, b, c] ∧ Ex ns a ∧ Ex ns b ∧ Ex ns c := by
  match ks, h with
  | [a, b, c], _ => exact ⟨a, b, c, rfl, he a (by simp), he b (by simp), he c (by simp)⟩
set_option maxRecDepth 100000 in
set_option maxHeartbeats 8000000 in
theorem shaped_says (q o cap : Nat) (ns : List Nd) (hL : ns.length ≤ 400) (a : Nat) (n : Nd) (hn : ns[a]? = some n) (hfit : Fits ns a n) (hbar : Bar n) (w : World) (hrow : Row w q o ns) :
    Calls Try.prog 58 #[.slice (some ⟨q, o, none⟩) ns.length cap, .int .i64 a] w fun r w' => Says r (Shp ns n (kids ns a)) ∧ Below w.heap.size w w' := by
  have hks : ∀ k ∈ kids ns a, k < ns.length := fun k hk => by have := hfit.kids.mem k hk; have := hfit.le; omega
  have hal := (List.getElem?_eq_some_iff.1 hn).1
  have hlt : (a : Int) < (ns.length : Int) := by omega
  have HK := Lib.hid (fun w' (hb : Below w.heap.size w w') => (kids_says q o cap ns hL a n hn hfit w' (hrow.later hb)).mono (R' := fun r w'' => ∃ v, r = .returned v ∧ Plc w.heap.size w'' v (kids ns a) ∧ Below w.heap.size w w'' ∧ Below w'.heap.size w' w'' ∧ Plc w'.heap.size w'' v (kids ns a)) fun r w'' ⟨⟨v, he, hv⟩, h2⟩ => ⟨v, he, hv.mono hb.size, step_after hb h2, h2, hv⟩)
  have HKS := Lib.hid hks
  have HR := Lib.hid hrow
  have HN := Lib.hid hn
  have HBAR := Lib.hid hbar
  obtain ⟨c0, c1, c2, c3, c4, -⟩ := hrow a n hn
  clear hks hal hfit hL
  generalize hkk : kids ns a = ks at HKS HK ⊢
  clear hkk
  obtain ⟨k0, o0, t0, m0, z0⟩ := n
  dsimp only at c0 c1 c2 c3 c4
  have S1 := Lib.hid (show ∀ w', Below w.heap.size w w' → (w'.cell? ⟨q, o + a * 5, none⟩ = some (.int .i64 k0) ∧ w'.cell? ⟨q, o + a * 5 + 1, none⟩ = some (.int .i64 o0) ∧ w'.cell? ⟨q, o + a * 5 + 2, none⟩ = some (.string t0) ∧ w'.cell? ⟨q, o + a * 5 + 3, none⟩ = some (.int .i64 m0) ∧ w'.cell? ⟨q, o + a * 5 + 4, none⟩ = some (.int .i64 z0)) ∧ Below w.heap.size w w' from fun w' hb => ⟨⟨cell_later hb c0, cell_later hb c1, cell_later hb c2, cell_later hb c3, cell_later hb c4⟩, hb⟩)
  have SA := Lib.hid (show ∀ (w' : World) (o1 : Obj), (w'.cell? ⟨q, o + a * 5, none⟩ = some (.int .i64 k0) ∧ w'.cell? ⟨q, o + a * 5 + 1, none⟩ = some (.int .i64 o0) ∧ w'.cell? ⟨q, o + a * 5 + 2, none⟩ = some (.string t0) ∧ w'.cell? ⟨q, o + a * 5 + 3, none⟩ = some (.int .i64 m0) ∧ w'.cell? ⟨q, o + a * 5 + 4, none⟩ = some (.int .i64 z0)) ∧ Below w.heap.size w w' → _ from fun w' o1 hh => S1.out (w'.alloc o1) (hh.2.alloc hh.2.size o1))
  have SB := Lib.hid (show ∀ (o1 : Obj), _ from fun o1 => S1.out (w.alloc o1).drew ((Below.refl _ _).alloc (Nat.le_refl _) o1).drew)
  clear hrow hn hbar
  go_enter Try.func58, Try.ntmps58
  go_upto_region 1 with fail
  go_cut [5, 6] (fun s5 s6 wx => ∃ p : Nat, s5 = .pointer (some ⟨p, 0, none⟩) ∧ Plc w.heap.size wx s6 ks ∧ Box wx p k0 o0 m0 z0 t0 ∧ Below w.heap.size w wx)
  case first =>
    go_region_held3 (fun w' => (w'.cell? ⟨q, o + a * 5, none⟩ = some (.int .i64 k0) ∧ w'.cell? ⟨q, o + a * 5 + 1, none⟩ = some (.int .i64 o0) ∧ w'.cell? ⟨q, o + a * 5 + 2, none⟩ = some (.string t0) ∧ w'.cell? ⟨q, o + a * 5 + 3, none⟩ = some (.int .i64 m0) ∧ w'.cell? ⟨q, o + a * 5 + 4, none⟩ = some (.int .i64 z0)) ∧ Below w.heap.size w w')
      (first | (with_reducible exact S1.out _ ((Below.refl _ _).drew)) | (with_reducible exact SA.out _ _ (by assumption)) | (with_reducible exact S1.out _ hb) | (with_reducible exact S1.out _ (hb.alloc hzw _)) | (with_reducible exact SB.out _) | (with_reducible exact S1.out _ (((((hb.setCell (by exact Nat.le_refl _) _).setCell (by exact Nat.le_refl _) _).setCell (by exact Nat.le_refl _) _).setCell (by exact Nat.le_refl _) _).setCell (by exact Nat.le_refl _) _)))
      (first | (go_at_call 34; refine (HK.out _ (And.right (by assumption))).mono ?_; rintro e w1 ⟨v, rfl, hkd, hb, hb2, hkd2⟩; have HKD := Lib.hid hkd; have HKD2 := Lib.hid hkd2; clear hkd hkd2; have hzw := hb.size; try (first | (have hv := row_parts (hkeep hb2 (heap_alloc_new w _)); obtain ⟨hv1, hv2⟩ := hv) | (have hv := row_parts (hkeep hb2 (heap_alloc_new w.drew _)); obtain ⟨hv1, hv2⟩ := hv))))
    all_goals (go_wp2_with fail; go_meet)
    · exact ⟨w1.heap.size, rfl, HKD.out.later ((Below.refl _ _).alloc (Nat.le_refl _) _), ⟨by simp [World.cell?_alloc_new], by simp [World.cell?_alloc_new], by simp [World.cell?_alloc_new], by simp [World.cell?_alloc_new], by simp [World.cell?_alloc_new]⟩, hb.alloc hzw _⟩
    · exact ⟨w.heap.size, rfl, ((((((HKD2.out.setCell (by simp) _).setCell (by simp) _).setCell (by simp) _).setCell (by simp) _).setCell (by simp) _).mono (by simp)), by simp [Box, go_sem, hv1], (((((hb.setCell (by exact Nat.le_refl _) _).setCell (by exact Nat.le_refl _) _).setCell (by exact Nat.le_refl _) _).setCell (by exact Nat.le_refl _) _).setCell (by exact Nat.le_refl _) _)⟩
  case rest =>
    obtain ⟨p, rfl, hv, hbox, hb⟩ := hcut
    obtain ⟨b0, b1, b2, b3, b4⟩ := hbox
    obtain ⟨A, pc, rfl, hpc, hl⟩ := hv.form
    have HB := Lib.hid hb
    have HX := Lib.hid (fun w' (hb1 : Below wc.heap.size wc w') => (exprs_says q o cap ns _ ks HKS.out w.heap.size w' ((HR.out.later hb).later hb1) (hv.later hb1)).mono (R' := fun r w'' => Says r (∀ k ∈ ks, Ex ns k) ∧ Below w.heap.size w w'') fun r w'' h => ⟨h.1, step_after hb (step_after hb1 h.2)⟩)
    have HKN := Lib.hid (fun w' cv (hb1 : Below wc.heap.size wc w') (hc : Cs w' cv [32]) => (kinds_says q o cap ns _ cv ks [32] HKS.out w.heap.size w' ((HR.out.later hb).later hb1) (hv.later hb1) hc).mono (R' := fun r w'' => Says r (Kd ns [32] ks) ∧ Below w.heap.size w w'') fun r w'' h => ⟨h.1, step_after hb (step_after hb1 h.2)⟩)
    have HG := Lib.hid ((great_says q o cap ns _ ks HKS.out w.heap.size wc (HR.out.later hb) hv a _ HN.out HBAR.out).mono (R' := fun r w'' => Says r (Shp ns ⟨k0, o0, t0, m0, z0⟩ ks) ∧ Below w.heap.size w w'') fun r w'' h => ⟨h.1, step_after hb h.2⟩)
    clear hb hv c0 c1 c2 c3 c4 S1 SA SB HK HR HKS HN
    generalize hm : ks.length = m at hpc hl HX HKN HG ⊢
    have HM := Lib.hid hm
    clear hm
    by_cases hA : k0 = 1 ∨ k0 = 2 ∨ k0 = 3 ∨ k0 = 4 ∨ k0 = 5 ∨ k0 = 6 ∨ k0 = 7 ∨ k0 = 8 ∨ k0 = 26 ∨ k0 = 27 ∨ k0 = 28 ∨ k0 = 31
    · have FIN := Lib.hid (show ((m : Int) == 0) = true → Shp ns ⟨k0, o0, t0, m0, z0⟩ ks from fun h => by
        have h0 : ks.length = 0 := by have := HM.out; simp at h; omega
        rw [List.length_eq_zero_iff.1 h0]; exact .leaf hA)
      clear HX HKN HG
      rcases hA with rfl | rfl | rfl | rfl | rfl | rfl | rfl | rfl | rfl | rfl | rfl | rfl
      all_goals
        go_wp2
        go_ret
        exact ⟨⟨_, rfl, FIN.out⟩, HB.out⟩
    by_cases h9 : k0 = 9
    · have HM0 := Lib.hid (HBAR.out.sup h9)
      have hm0 := HBAR.out.sup h9
      dsimp only at hm0
      rcases hm0 with rfl | rfl
      · by_cases h1 : m = 1
        · have t1 : ((m : Int) == 1) = true := by simp; omega
          have FIN := Lib.hid (show (∀ k ∈ ks, Ex ns k) → Shp ns ⟨k0, o0, t0, 0, z0⟩ ks from fun h => by
            obtain ⟨x, rfl, hx⟩ := ek_one (by have := HM.out; omega) h
            exact .sup0 h9 rfl hx)
          clear HKN HG h1
          subst h9
          go_wp2_with (go_at_call 73; refine (HX.out _ (by first | exact Below.refl _ _ | exact (Below.refl _ _).drew)).mono ?_; rintro r w1 ⟨⟨b, rfl, hbb⟩, hb1⟩; have HB1 := Lib.hid hb1; have HBB := Lib.hid hbb; clear hb1 hbb)
          go_ret
          exact ⟨⟨b, rfl, fun h => FIN.out (HBB.out h)⟩, HB1.out⟩
        · have t1 : ((m : Int) == 1) = false := by simp; omega
          clear HKN HG h1
          subst h9
          go_wp2
          go_ret
          exact ⟨.no, HB.out⟩
      · by_cases h1 : m = 0
        · have t1 : ((m : Int) == 0) = true := by simp; omega
          have FIN := Lib.hid (show Shp ns ⟨k0, o0, t0, 1, z0⟩ ks from by
            have h0 : ks.length = 0 := by have := HM.out; omega
            rw [List.length_eq_zero_iff.1 h0]
            exact .sup1 h9 rfl)
          clear HKN HG h1
          subst h9
          go_wp2_with (go_at_call 73; refine (HX.out _ (by first | exact Below.refl _ _ | exact (Below.refl _ _).drew)).mono ?_; rintro r w1 ⟨⟨b, rfl, hbb⟩, hb1⟩; have HB1 := Lib.hid hb1; have HBB := Lib.hid hbb; clear hb1 hbb)
          go_ret
          exact ⟨⟨b, rfl, fun _ => FIN.out⟩, HB1.out⟩
        · have t1 : ((m : Int) == 0) = false := by simp; omega
          clear HKN HG h1
          subst h9
          go_wp2
          go_ret
          exact ⟨.no, HB.out⟩
    by_cases hO : k0 = 10 ∨ k0 = 22 ∨ k0 = 24 ∨ k0 = 30 ∨ k0 = 16 ∨ k0 = 34 ∨ k0 = 38 ∨ k0 = 39
    · by_cases h1 : m = 1
      · have t1 : ((m : Int) == 1) = true := by simp; omega
        have FIN := Lib.hid (show (∀ k ∈ ks, Ex ns k) → Shp ns ⟨k0, o0, t0, m0, z0⟩ ks from fun h => by
          obtain ⟨x, rfl, hx⟩ := ek_one (by have := HM.out; omega) h
          exact .one hO hx)
        clear HKN HG h1
        rcases hO with rfl | rfl | rfl | rfl | rfl | rfl | rfl | rfl
        all_goals
          go_wp2_with (go_at_call 73; refine (HX.out _ (by first | exact Below.refl _ _ | exact (Below.refl _ _).drew)).mono ?_; rintro r w1 ⟨⟨b, rfl, hbb⟩, hb1⟩; have HB1 := Lib.hid hb1; have HBB := Lib.hid hbb; clear hb1 hbb)
          go_ret
          exact ⟨⟨b, rfl, fun h => FIN.out (HBB.out h)⟩, HB1.out⟩
      · have t1 : ((m : Int) == 1) = false := by simp; omega
        clear HKN HG h1
        rcases hO with rfl | rfl | rfl | rfl | rfl | rfl | rfl | rfl
        all_goals
          go_wp2
          go_ret
          exact ⟨.no, HB.out⟩
    by_cases h11 : k0 = 11
    · have FIN := Lib.hid (show (∀ k ∈ ks, Ex ns k) → Shp ns ⟨k0, o0, t0, m0, z0⟩ ks from fun h => .arr h11 h)
      clear HKN HG
      subst h11
      go_wp2_with (go_at_call 73; refine (HX.out _ (by first | exact Below.refl _ _ | exact (Below.refl _ _).drew)).mono ?_; rintro r w1 ⟨⟨b, rfl, hbb⟩, hb1⟩; have HB1 := Lib.hid hb1; have HBB := Lib.hid hbb; clear hb1 hbb)
      go_ret
      exact ⟨⟨b, rfl, fun h => FIN.out (HBB.out h)⟩, HB1.out⟩
    by_cases hT : k0 = 15 ∨ k0 = 23
    · by_cases h1 : m = 2
      · have t1 : ((m : Int) == 2) = true := by simp; omega
        have FIN := Lib.hid (show (∀ k ∈ ks, Ex ns k) → Shp ns ⟨k0, o0, t0, m0, z0⟩ ks from fun h => by
          obtain ⟨x, y, rfl, hx, hy⟩ := ek_two (by have := HM.out; omega) h
          exact .two hT hx hy)
        clear HKN HG h1
        rcases hT with rfl | rfl
        all_goals
          go_wp2_with (go_at_call 73; refine (HX.out _ (by first | exact Below.refl _ _ | exact (Below.refl _ _).drew)).mono ?_; rintro r w1 ⟨⟨b, rfl, hbb⟩, hb1⟩; have HB1 := Lib.hid hb1; have HBB := Lib.hid hbb; clear hb1 hbb)
          go_ret
          exact ⟨⟨b, rfl, fun h => FIN.out (HBB.out h)⟩, HB1.out⟩
      · have t1 : ((m : Int) == 2) = false := by simp; omega
        clear HKN HG h1
        rcases hT with rfl | rfl
        all_goals
          go_wp2
          go_ret
          exact ⟨.no, HB.out⟩
    by_cases h21 : k0 = 21
    · by_cases h2 : m = 2
      · have t1 : ((m : Int) == 2) = true := by simp; omega
        have FIN := Lib.hid (show (∀ k ∈ ks, Ex ns k) → Shp ns ⟨k0, o0, t0, m0, z0⟩ ks from fun h => by
          obtain ⟨x, y, rfl, hx, hy⟩ := ek_two (by have := HM.out; omega) h
          exact .cond2 h21 hx hy)
        clear HKN HG h2
        subst h21
        go_wp2_with (go_at_call 73; refine (HX.out _ (by first | exact Below.refl _ _ | exact (Below.refl _ _).drew)).mono ?_; rintro r w1 ⟨⟨b, rfl, hbb⟩, hb1⟩; have HB1 := Lib.hid hb1; have HBB := Lib.hid hbb; clear hb1 hbb)
        go_ret
        exact ⟨⟨b, rfl, fun h => FIN.out (HBB.out h)⟩, HB1.out⟩
      have t1 : ((m : Int) == 2) = false := by simp; omega
      by_cases h3 : m = 3
      · have t2 : ((m : Int) == 3) = true := by simp; omega
        have FIN := Lib.hid (show (∀ k ∈ ks, Ex ns k) → Shp ns ⟨k0, o0, t0, m0, z0⟩ ks from fun h => by
          obtain ⟨x, y, z, rfl, hx, hy, hz⟩ := ek_three (by have := HM.out; omega) h
          exact .cond3 h21 hx hy hz)
        clear HKN HG h2 h3
        subst h21
        go_wp2_with (go_at_call 73; refine (HX.out _ (by first | exact Below.refl _ _ | exact (Below.refl _ _).drew)).mono ?_; rintro r w1 ⟨⟨b, rfl, hbb⟩, hb1⟩; have HB1 := Lib.hid hb1; have HBB := Lib.hid hbb; clear hb1 hbb)
        go_ret
        exact ⟨⟨b, rfl, fun h => FIN.out (HBB.out h)⟩, HB1.out⟩
      have t2 : ((m : Int) == 3) = false := by simp; omega
      clear HKN HG h2 h3
      subst h21
      go_wp2
      go_ret
      exact ⟨.no, HB.out⟩
    by_cases h25 : k0 = 25
    · have hm0 := HBAR.out.ast h25
      dsimp only at hm0
      rcases hm0 with rfl | rfl
      · by_cases h1 : m = 2
        · have t1 : ((m : Int) == 2) = true := by simp; omega
          have FIN := Lib.hid (show (∀ k ∈ ks, Ex ns k) → Shp ns ⟨k0, o0, t0, 0, z0⟩ ks from fun h => by
            obtain ⟨x, y, rfl, hx, hy⟩ := ek_two (by have := HM.out; omega) h
            exact .assert2 h25 rfl hx hy)
          clear HKN HG h1
          subst h25
          go_wp2_with (go_at_call 73; refine (HX.out _ (by first | exact Below.refl _ _ | exact (Below.refl _ _).drew)).mono ?_; rintro r w1 ⟨⟨b, rfl, hbb⟩, hb1⟩; have HB1 := Lib.hid hb1; have HBB := Lib.hid hbb; clear hb1 hbb)
          go_ret
          exact ⟨⟨b, rfl, fun h => FIN.out (HBB.out h)⟩, HB1.out⟩
        · have t1 : ((m : Int) == 2) = false := by simp; omega
          clear HKN HG h1
          subst h25
          go_wp2
          go_ret
          exact ⟨.no, HB.out⟩
      · by_cases h1 : m = 3
        · have t1 : ((m : Int) == 3) = true := by simp; omega
          have FIN := Lib.hid (show (∀ k ∈ ks, Ex ns k) → Shp ns ⟨k0, o0, t0, 1, z0⟩ ks from fun h => by
            obtain ⟨x, y, z, rfl, hx, hy, hz⟩ := ek_three (by have := HM.out; omega) h
            exact .assert3 h25 rfl hx hy hz)
          clear HKN HG h1
          subst h25
          go_wp2_with (go_at_call 73; refine (HX.out _ (by first | exact Below.refl _ _ | exact (Below.refl _ _).drew)).mono ?_; rintro r w1 ⟨⟨b, rfl, hbb⟩, hb1⟩; have HB1 := Lib.hid hb1; have HBB := Lib.hid hbb; clear hb1 hbb)
          go_ret
          exact ⟨⟨b, rfl, fun h => FIN.out (HBB.out h)⟩, HB1.out⟩
        · have t1 : ((m : Int) == 3) = false := by simp; omega
          clear HKN HG h1
          subst h25
          go_wp2
          go_ret
          exact ⟨.no, HB.out⟩
    by_cases h37 : k0 = 37
    · have hm0 := HBAR.out.mast h37
      dsimp only at hm0
      rcases hm0 with rfl | rfl
      · by_cases h1 : m = 1
        · have t1 : ((m : Int) == 1) = true := by simp; omega
          have FIN := Lib.hid (show (∀ k ∈ ks, Ex ns k) → Shp ns ⟨k0, o0, t0, 0, z0⟩ ks from fun h => by
            obtain ⟨x, rfl, hx⟩ := ek_one (by have := HM.out; omega) h
            exact .mast1 h37 rfl hx)
          clear HKN HG h1
          subst h37
          go_wp2_with (go_at_call 73; refine (HX.out _ (by first | exact Below.refl _ _ | exact (Below.refl _ _).drew)).mono ?_; rintro r w1 ⟨⟨b, rfl, hbb⟩, hb1⟩; have HB1 := Lib.hid hb1; have HBB := Lib.hid hbb; clear hb1 hbb)
          go_ret
          exact ⟨⟨b, rfl, fun h => FIN.out (HBB.out h)⟩, HB1.out⟩
        · have t1 : ((m : Int) == 1) = false := by simp; omega
          clear HKN HG h1
          subst h37
          go_wp2
          go_ret
          exact ⟨.no, HB.out⟩
      · by_cases h1 : m = 2
        · have t1 : ((m : Int) == 2) = true := by simp; omega
          have FIN := Lib.hid (show (∀ k ∈ ks, Ex ns k) → Shp ns ⟨k0, o0, t0, 1, z0⟩ ks from fun h => by
            obtain ⟨x, y, rfl, hx, hy⟩ := ek_two (by have := HM.out; omega) h
            exact .mast2 h37 rfl hx hy)
          clear HKN HG h1
          subst h37
          go_wp2_with (go_at_call 73; refine (HX.out _ (by first | exact Below.refl _ _ | exact (Below.refl _ _).drew)).mono ?_; rintro r w1 ⟨⟨b, rfl, hbb⟩, hb1⟩; have HB1 := Lib.hid hb1; have HBB := Lib.hid hbb; clear hb1 hbb)
          go_ret
          exact ⟨⟨b, rfl, fun h => FIN.out (HBB.out h)⟩, HB1.out⟩
        · have t1 : ((m : Int) == 2) = false := by simp; omega
          clear HKN HG h1
          subst h37
          go_wp2
          go_ret
          exact ⟨.no, HB.out⟩
    by_cases h36 : k0 = 36
    · by_cases h1 : m = 1
      · have t1 : ((m : Int) == 1) = true := by simp; omega
        have FIN := Lib.hid (show Kd ns [32] ks → Shp ns ⟨k0, o0, t0, m0, z0⟩ ks from fun h => by
          have hl : ks.length = 1 := by have := HM.out; omega
          match ks, hl, h with
          | [x], _, h => exact .mlocal h36 h)
        clear HX HG h1
        subst h36
        go_wp2_with (go_at_call 74; refine (HKN.out _ _ ((Below.refl _ _).alloc (Nat.le_refl _) _) (cs_new _ [32] _ (by decide))).mono ?_; rintro r w1 ⟨⟨b, rfl, hbb⟩, hb1⟩; have HB1 := Lib.hid hb1; have HBB := Lib.hid hbb; clear hb1 hbb)
        go_ret
        exact ⟨⟨b, rfl, fun h => FIN.out (HBB.out h)⟩, HB1.out⟩
      · have t1 : ((m : Int) == 1) = false := by simp; omega
        clear HX HKN HG h1
        subst h36
        go_wp2
        go_ret
        exact ⟨.no, HB.out⟩
    by_cases h33 : k0 = 33
    · by_cases h1 : m ≤ 1
      · have t1 : decide ((m : Int) ≤ 1) = true := decide_eq_true (by omega)
        have FIN := Lib.hid (show (∀ k ∈ ks, Ex ns k) → Shp ns ⟨k0, o0, t0, m0, z0⟩ ks from fun h => by
          have hl : ks.length ≤ 1 := by have := HM.out; omega
          match ks, hl, h with
          | [], _, _ => exact .param0 h33
          | [x], _, h => exact .param1 h33 (h x (by simp)))
        clear HKN HG h1
        subst h33
        go_wp2_with (go_at_call 73; refine (HX.out _ (by first | exact Below.refl _ _ | exact (Below.refl _ _).drew)).mono ?_; rintro r w1 ⟨⟨b, rfl, hbb⟩, hb1⟩; have HB1 := Lib.hid hb1; have HBB := Lib.hid hbb; clear hb1 hbb)
        go_ret
        exact ⟨⟨b, rfl, fun h => FIN.out (HBB.out h)⟩, HB1.out⟩
      · have t1 : decide ((m : Int) ≤ 1) = false := decide_eq_false (by omega)
        clear HKN HG h1
        subst h33
        go_wp2
        go_ret
        exact ⟨.no, HB.out⟩
    have e : ∀ c : Int, k0 ≠ c → (k0 == c) = false := fun c h => by simpa using h
    have e1 := e 1 (by omega)
    have e2 := e 2 (by omega)
    have e3 := e 3 (by omega)
    have e4 := e 4 (by omega)
    have e5 := e 5 (by omega)
    have e6 := e 6 (by omega)
    have e7 := e 7 (by omega)
    have e8 := e 8 (by omega)
    have e26 := e 26 (by omega)
    have e27 := e 27 (by omega)
    have e28 := e 28 (by omega)
    have e31 := e 31 (by omega)
    have e9 := e 9 (by omega)
    have e10 := e 10 (by omega)
    have e22 := e 22 (by omega)
    have e24 := e 24 (by omega)
    have e30 := e 30 (by omega)
    have e16 := e 16 (by omega)
    have e34 := e 34 (by omega)
    have e38 := e 38 (by omega)
    have e39 := e 39 (by omega)
    have e11 := e 11 (by omega)
    have e15 := e 15 (by omega)
    have e23 := e 23 (by omega)
    have e21 := e 21 (by omega)
    have e25 := e 25 (by omega)
    have e37 := e 37 (by omega)
    have e36 := e 36 (by omega)
    have e33 := e 33 (by omega)
    clear HX HKN e hA h9 hO h11 hT h21 h25 h37 h36 h33
    go_wp2_with (go_at_call 75; refine HG.out.mono ?_; rintro r w1 ⟨⟨b, rfl, hbb⟩, hb1⟩; have HB1 := Lib.hid hb1; have HBB := Lib.hid hbb; clear hb1 hbb)
    go_ret
    exact ⟨⟨b, rfl, HBB.out⟩, HB1.out⟩
end Go.Proofs.Ytincgkolpicipaa.kin
namespace Go.Proofs.Ytincgkolpicipaa.kin
open Go.RowKit
open Go.Proofs.Ytincgkolpicipaa.stack (step_after Chg)
theorem Done.before {e : Env} {S : Nat → Prop} {w a b : World} {cs cs' : Pl} {U U' : Nat → Prop} (hb : Below w.heap.size w a) (h : Done e S a b cs cs' U U') : Done e S w b cs cs' U U' :=
  ⟨(Chg.below hb).trans h.chg, h.st, h.out, h.ex, h.up, fun B hB => (h.new B hB).imp_right fun x => Nat.le_trans hb.size x⟩
theorem Mk.before {e : Env} {i : Nat} {w a b : World} {cs : Pl} {U : Nat → Prop} {r : Ending} (hb : Below w.heap.size w a) (h : Mk e i a cs U r b) : Mk e i w cs U r b := by
  obtain ⟨cs', U', T, B, h1, h2, h3, h4, h5⟩ := h
  exact ⟨cs', U', T, B, h1, h2.before hb, h3, h4, h5⟩
abbrev ndv (n : Nd) : Value := .agg #[.int .i64 n.k, .int .i64 n.o, .string n.t, .int .i64 n.m, .int .i64 n.z]
/-- How the node is made: as a leaf; by builder.both; by builder.sugar. -/
inductive How (b : Nat) (n : Nd) (ks : List Nat) (w : World) (Q : Ending → World → Prop) : Prop
  | leaf (hk : ks = []) (h : ∀ w', Below w.heap.size w w' → Calls Try.prog 82 #[.pointer (some ⟨b, 0, none⟩), ndv n] w' fun r w'' => ∃ T p, r = .returned (.iface T p) ∧ Q (.returned (.iface T p)) w'')
  | both (h1 : ∀ w', Below w.heap.size w w' → Calls Try.prog 82 #[.pointer (some ⟨b, 0, none⟩), ndv n] w' fun r w'' => r = .returned .nilIface ∧ Below w'.heap.size w' w'')
      (h : ∀ w' v, Below w.heap.size w w' → Plc w.heap.size w' v ks → Calls Try.prog 84 #[.pointer (some ⟨b, 0, none⟩), ndv n, v] w' fun r w'' => ∃ T p, r = .returned (.iface T p) ∧ Q (.returned (.iface T p)) w'')
  | sugar (h1 : ∀ w', Below w.heap.size w w' → Calls Try.prog 82 #[.pointer (some ⟨b, 0, none⟩), ndv n] w' fun r w'' => r = .returned .nilIface ∧ Below w'.heap.size w' w'')
      (h2 : ∀ w' v, Below w.heap.size w w' → Plc w.heap.size w' v ks → Calls Try.prog 84 #[.pointer (some ⟨b, 0, none⟩), ndv n, v] w' fun r w'' => r = .returned .nilIface ∧ Below w'.heap.size w' w'')
      (h : ∀ w' v, Below w.heap.size w w' → Plc w.heap.size w' v ks → Calls Try.prog 86 #[.pointer (some ⟨b, 0, none⟩), ndv n, v] w' fun r w'' => ∃ T p, r = .returned (.iface T p) ∧ Q (.returned (.iface T p)) w'')
set_option maxRecDepth 100000 in
set_option maxHeartbeats 4000000 in
theorem made_any (b q o cap : Nat) (ns : List Nd) (i : Nat) (n : Nd) (hn : ns[i]? = some n) (ks : List Nat) (Q : Ending → World → Prop) (w : World)
    (h0 : w.cell? ⟨b, 0, none⟩ = some (.slice (some ⟨q, o, none⟩) ns.length cap)) (h1 : w.cell? ⟨b, 1, none⟩ = some (.bool false)) (hrow : Row w q o ns)
    (hk : ∀ w', Below w.heap.size w w' → Calls Try.prog 81 #[.pointer (some ⟨b, 0, none⟩), .int .i64 i] w' fun r w'' => (∃ v, r = .returned v ∧ Plc w'.heap.size w'' v ks) ∧ Below w'.heap.size w' w'')
    (how : How b n ks w Q) :
    Calls Try.prog 68 #[.pointer (some ⟨b, 0, none⟩), .int .i64 i] w Q := by
  have hil := (List.getElem?_eq_some_iff.1 hn).1
  have hi' : (i : Int) < (ns.length : Int) := by omega
  have HK := Lib.hid (fun w' (hb : Below w.heap.size w w') => (hk w' hb).mono (R' := fun r w'' => ∃ v, r = .returned v ∧ Plc w.heap.size w'' v ks ∧ Below w.heap.size w w'' ∧ Below w'.heap.size w' w'' ∧ Plc w'.heap.size w'' v ks) fun r w'' ⟨⟨v, he, hv⟩, h2⟩ => ⟨v, he, hv.mono hb.size, step_after hb h2, h2, hv⟩)
  have HOW := Lib.hid how
  obtain ⟨c0, c1, c2, c3, c4, -⟩ := hrow i n hn
  clear hk how hil hrow hn
  obtain ⟨k0, o0, t0, m0, z0⟩ := n
  dsimp only at c0 c1 c2 c3 c4
  have S1 := Lib.hid (show ∀ w', Below w.heap.size w w' → (w'.cell? ⟨b, 0, none⟩ = some (.slice (some ⟨q, o, none⟩) ns.length cap) ∧ w'.cell? ⟨q, o + i * 5, none⟩ = some (.int .i64 k0) ∧ w'.cell? ⟨q, o + i * 5 + 1, none⟩ = some (.int .i64 o0) ∧ w'.cell? ⟨q, o + i * 5 + 2, none⟩ = some (.string t0) ∧ w'.cell? ⟨q, o + i * 5 + 3, none⟩ = some (.int .i64 m0) ∧ w'.cell? ⟨q, o + i * 5 + 4, none⟩ = some (.int .i64 z0)) ∧ Below w.heap.size w w' from fun w' hb => ⟨⟨cell_later hb h0, cell_later hb c0, cell_later hb c1, cell_later hb c2, cell_later hb c3, cell_later hb c4⟩, hb⟩)
  have SA := Lib.hid (show ∀ (w' : World) (o1 : Obj), (w'.cell? ⟨b, 0, none⟩ = some (.slice (some ⟨q, o, none⟩) ns.length cap) ∧ w'.cell? ⟨q, o + i * 5, none⟩ = some (.int .i64 k0) ∧ w'.cell? ⟨q, o + i * 5 + 1, none⟩ = some (.int .i64 o0) ∧ w'.cell? ⟨q, o + i * 5 + 2, none⟩ = some (.string t0) ∧ w'.cell? ⟨q, o + i * 5 + 3, none⟩ = some (.int .i64 m0) ∧ w'.cell? ⟨q, o + i * 5 + 4, none⟩ = some (.int .i64 z0)) ∧ Below w.heap.size w w' → _ from fun w' o1 hh => S1.out (w'.alloc o1) (hh.2.alloc hh.2.size o1))
  have SB := Lib.hid (show ∀ (o1 : Obj), _ from fun o1 => S1.out (w.alloc o1).drew ((Below.refl _ _).alloc (Nat.le_refl _) o1).drew)
  have H1 := Lib.hid (fun w' (hb : Below w.heap.size w w') => cell_later hb h1)
  clear h1
  go_enter Try.func68, Try.ntmps68
  go_upto_region 1 with fail
  go_cut [5, 6] (fun s5 s6 wx => ∃ p : Nat, s5 = .pointer (some ⟨p, 0, none⟩) ∧ Plc w.heap.size wx s6 ks ∧ Box wx p k0 o0 m0 z0 t0 ∧ Below w.heap.size w wx)
  case first =>
    go_region_held3 (fun w' => (w'.cell? ⟨b, 0, none⟩ = some (.slice (some ⟨q, o, none⟩) ns.length cap) ∧ w'.cell? ⟨q, o + i * 5, none⟩ = some (.int .i64 k0) ∧ w'.cell? ⟨q, o + i * 5 + 1, none⟩ = some (.int .i64 o0) ∧ w'.cell? ⟨q, o + i * 5 + 2, none⟩ = some (.string t0) ∧ w'.cell? ⟨q, o + i * 5 + 3, none⟩ = some (.int .i64 m0) ∧ w'.cell? ⟨q, o + i * 5 + 4, none⟩ = some (.int .i64 z0)) ∧ Below w.heap.size w w')
      (first | (with_reducible exact S1.out _ ((Below.refl _ _).drew)) | (with_reducible exact SA.out _ _ (by assumption)) | (with_reducible exact S1.out _ hb) | (with_reducible exact S1.out _ (hb.alloc hzw _)) | (with_reducible exact SB.out _) | (with_reducible exact S1.out _ (((((hb.setCell (by exact Nat.le_refl _) _).setCell (by exact Nat.le_refl _) _).setCell (by exact Nat.le_refl _) _).setCell (by exact Nat.le_refl _) _).setCell (by exact Nat.le_refl _) _)))
      (first | (go_at_call 81; refine (HK.out _ (And.right (by assumption))).mono ?_; rintro e w1 ⟨v, rfl, hkd, hb, hb2, hkd2⟩; have HKD := Lib.hid hkd; have HKD2 := Lib.hid hkd2; clear hkd hkd2; have hzw := hb.size; try (first | (have hv := row_parts (hkeep hb2 (heap_alloc_new w _)); obtain ⟨hv1, hv2⟩ := hv) | (have hv := row_parts (hkeep hb2 (heap_alloc_new w.drew _)); obtain ⟨hv1, hv2⟩ := hv))))
    all_goals (go_wp2_with fail; go_meet)
    · exact ⟨w1.heap.size, rfl, HKD.out.later ((Below.refl _ _).alloc (Nat.le_refl _) _), ⟨by simp [World.cell?_alloc_new], by simp [World.cell?_alloc_new], by simp [World.cell?_alloc_new], by simp [World.cell?_alloc_new], by simp [World.cell?_alloc_new]⟩, hb.alloc hzw _⟩
    · exact ⟨w.heap.size, rfl, ((((((HKD2.out.setCell (by simp) _).setCell (by simp) _).setCell (by simp) _).setCell (by simp) _).setCell (by simp) _).mono (by simp)), by simp [Box, go_sem, hv1], (((((hb.setCell (by exact Nat.le_refl _) _).setCell (by exact Nat.le_refl _) _).setCell (by exact Nat.le_refl _) _).setCell (by exact Nat.le_refl _) _).setCell (by exact Nat.le_refl _) _)⟩
  case rest =>
    obtain ⟨p, rfl, hv, hbox, hb⟩ := hcut
    have HB := Lib.hid hb
    have HV := Lib.hid hv
    have HBX := Lib.hid (fun w' (hb : Below wc.heap.size wc w') => hbox.later hb)
    obtain ⟨b0, b1, b2, b3, b4⟩ := hbox
    have hform := hv.form
    clear hb hv c0 c1 c2 c3 c4 S1 SA SB HK h0
    rcases HOW.out with ⟨hks, hl⟩ | ⟨hl, hbo⟩ | ⟨hl, hbo, hsu⟩
    · have HL := Lib.hid (hl wc HB.out)
      obtain ⟨A, pc, rfl, -, -⟩ := hform
      subst hks
      clear hl HOW
      go_wp2_with (go_at_call 82; refine HL.out.mono ?_; rintro r w1 ⟨T, pv, rfl, hq⟩; have HQ := Lib.hid hq; clear hq)
      exact HQ.out
    · have HL := Lib.hid (hl wc HB.out)
      have HBO := Lib.hid hbo
      clear hl hbo HOW hform
      go_wp2_with (first | (go_at_call 82; refine HL.out.mono ?_; rintro r w1 ⟨rfl, hb1⟩; obtain ⟨r0, r1, r2, r3, r4⟩ := HBX.out _ hb1; have HB1 := Lib.hid hb1; clear hb1) | (go_at_call 84; refine (HBO.out _ _ (step_after HB.out HB1.out) (HV.out.later HB1.out)).mono ?_; rintro r w2 ⟨T, pv, rfl, hq⟩; have HQ := Lib.hid hq; clear hq))
      exact HQ.out
    · have HL := Lib.hid (hl wc HB.out)
      have HBO := Lib.hid hbo
      have HSU := Lib.hid hsu
      clear hl hbo hsu HOW hform
      go_wp2_with (first | (go_at_call 82; refine HL.out.mono ?_; rintro r w1 ⟨rfl, hb1⟩; obtain ⟨r0, r1, r2, r3, r4⟩ := HBX.out _ hb1; have HB1 := Lib.hid hb1; clear hb1) | (go_at_call 84; refine (HBO.out _ _ (step_after HB.out HB1.out) (HV.out.later HB1.out)).mono ?_; rintro r w2 ⟨rfl, hb2⟩; obtain ⟨s0, s1, s2, s3, s4⟩ := HBX.out _ (step_after HB1.out hb2); have hcore := H1.out _ (step_after HB.out (step_after HB1.out hb2)); have HB2 := Lib.hid hb2; clear hb2) | (go_at_call 86; refine (HSU.out _ _ (step_after HB.out (step_after HB1.out HB2.out)) (HV.out.later (step_after HB1.out HB2.out))).mono ?_; rintro r w3 ⟨T, pv, rfl, hq⟩; have HQ := Lib.hid hq; clear hq))
      exact HQ.out
end Go.Proofs.Ytincgkolpicipaa.kin
namespace Go.Proofs.Ytincgkolpicipaa.kin
open Go.RowKit
open Go.Proofs.Ytincgkolpicipaa.stack (step_after AnyBool AnyInt add_off owns_form)
set_option maxHeartbeats 2000000 in
theorem bkids_says (b q o cap : Nat) (ns : List Nd) (hL : ns.length ≤ 400) (a : Nat) (n : Nd) (hn : ns[a]? = some n) (hfit : Fits ns a n) (w : World) (hrow : Row w q o ns) (hb0 : w.cell? ⟨b, 0, none⟩ = some (.slice (some ⟨q, o, none⟩) ns.length cap)) :
    Calls Try.prog 81 #[.pointer (some ⟨b, 0, none⟩), .int .i64 a] w fun r w' => (∃ v, r = .returned v ∧ Plc w.heap.size w' v (kids ns a)) ∧ Below w.heap.size w w' := by
  obtain ⟨i0, hi, hz0, hz1, hz2⟩ := info_parts Try.info3
  have HR := Lib.hid hrow
  have HB0 := Lib.hid hb0
  obtain ⟨c0, c1, c2, c3, c4, -⟩ := hrow a n hn
  have hks := hfit.kids
  obtain ⟨s, hs⟩ : ∃ s : Nat, n.z = s := ⟨n.z.toNat, by have := hfit.one; omega⟩
  have hsn : n.z.toNat = s := by omega
  have hz := hfit.one
  have hle := hfit.le
  have hal := (List.getElem?_eq_some_iff.1 hn).1
  rw [hsn] at hks hle
  rw [hs] at c4 hz
  have hlt : (a : Int) < (ns.length : Int) := by omega
  have w2 : IntKind.i64.wrap ((a : Int) + s) = ((a + s : Nat) : Int) := by rw [IntWalk.i64_in _ (by omega)]; simp
  have w3 : IntKind.i64.wrap ((a : Int) + 1) = ((a + 1 : Nat) : Int) := by rw [IntWalk.i64_in _ (by omega)]; simp
  have HB := Lib.hid (show 1 ≤ s ∧ a + s ≤ ns.length ∧ ns.length ≤ 400 by omega)
  have HKS := Lib.hid hks
  have hown := World.ownsRow_nil w w.heap.size 3 1
  clear hs hsn hz hle hks hfit hn hal hL hrow hb0
  generalize hkk : kids ns a = ks0 at HKS ⊢
  clear hkk
  go_enter Try.func81, Try.ntmps81
  go_wp2
  go_loopw [5, 6] (fun v i wr => ∃ (k : Nat) (ks1 ks2 : List Nat), ks0 = ks1 ++ ks2 ∧ i = .int .i64 k ∧ a + 1 ≤ k ∧ k ≤ a + s ∧ Ks ns k (a + s) ks2 ∧ wr.ownsRow w.heap.size 3 1 v ks1.length (ks1.map pv) ∧ ks1.length ≤ k ∧ Below w.heap.size w wr) (fun _ i _ => a + s - (intOf i).toNat)
  case atStart => exact ⟨a + 1, [], ks0, rfl, by simp, Nat.le_refl _, by have := HB.out; omega, HKS.out, hown, Nat.zero_le _, Below.refl _ _⟩
  case round =>
    obtain ⟨k, ks1, ks2, hks0, rfl, hk1, hk2, hks2, hown1, hlen, hb⟩ := hrel
    obtain ⟨b0', c4'⟩ := (show wr.cell? ⟨b, 0, none⟩ = _ ∧ wr.cell? ⟨q, o + a * 5 + 4, none⟩ = _ from ⟨cell_later hb HB0.out, cell_later hb c4⟩)
    obtain ⟨A, vc, rfl, -⟩ := owns_form hown1
    have HBW := Lib.hid hb
    cases hks2 with
    | nil =>
      have hki : ¬ ((a + s : Nat) : Int) < (a : Int) + (s : Int) := by omega
      have HO := Lib.hid hown1
      have HE := Lib.hid hks0
      clear hb hown1 hks0 c0 c1 c2 c3 c4
      go_wp2
      go_ret
      refine ⟨⟨_, rfl, ?_⟩, HBW.out⟩
      have he := HE.out
      rw [List.append_nil] at he
      subst he
      exact .of_owns (by have := HB.out; omega) HO.out
    | @cons _ _ m ks2 hm hz hl hks2 =>
      obtain ⟨s', hs'⟩ : ∃ s' : Nat, m.z = s' := ⟨m.z.toNat, by omega⟩
      have hsn' : m.z.toNat = s' := by omega
      rw [hsn'] at hks2 hl
      have hBB := HB.out
      have hki : (k : Int) < (a : Int) + (s : Int) := by omega
      have hkl : (k : Int) < (ns.length : Int) := by omega
      have HM := Lib.hid hm
      have w4 : IntKind.i64.wrap ((k : Int) + s') = ((k + s' : Nat) : Int) := by rw [IntWalk.i64_in _ (by omega)]; simp
      have HE := Lib.hid (show ks0 = (ks1 ++ [k]) ++ ks2 ∧ a + 1 ≤ k + s' ∧ k + s' ≤ a + s ∧ Ks ns (k + s') (a + s) ks2 ∧ ks1.length + 1 ≤ k + s' ∧ ks1.length ≤ 400 ∧ k < k + s' by
        refine ⟨by simp [hks0], by omega, hl, hks2, by omega, by omega, by omega⟩)
      have HS' := Lib.hid hs'
      have HSZ := Lib.hid (show w.heap.size ≤ (wr.alloc (.cells #[pv k] 3)).heap.size from Nat.le_trans hb.size (by simp))
      clear hb hks0 hks2 hl hs' hsn' hz hm hBB c0 c1 c2 c3 c4
      go_wp2_with (at_builtin; refine wpList_append_own _ rfl _ _ 24 rfl w.heap.size 3 i0 (.int .i64 0) 1 8 Try.underlying24 hi hz0 hz1 hz2 rfl (by decide) _ ks1.length (ks1.map pv) rfl (hown1.alloc _) ⟨wr.heap.size, 0, none⟩ 1 1 [pv k] rfl rfl ?q1 ?q2 ?q3 ?q4 HSZ.out ?_)
      case q1 => intro j u hj; rcases j with _ | j <;> simp at hj; subst hj; simp [Addr.add, go_sem, pv]
      case q2 => intro u hu; simp at hu; subst hu; rfl
      case q3 => have := HE.out; simp [maxLen]; omega
      case q4 => have := HE.out; omega
      intro v2 W2 hown2 hg2 _
      have hb2 : Below w.heap.size w W2 := (HBW.out.alloc HBW.out.size _).grown hg2 HSZ.out (fun j hj => (hown1.lt j hj).1)
      obtain ⟨d0, d1, d2, d3, d4, -⟩ := (HR.out.later hb2) k m HM.out
      have e0 := cell_later hb2 HB0.out
      rw [HS'.out] at d4
      have HB2 := Lib.hid hb2
      have HO2 := Lib.hid hown2
      clear hg2 hb2 hown2 hown1
      go_wp2
      go_roundw
      case rel => exact ⟨k + s', ks1 ++ [k], ks2, HE.out.1, rfl, HE.out.2.1, HE.out.2.2.1, HE.out.2.2.2.1, by simpa [pv] using HO2.out, by simpa using HE.out.2.2.2.2.1, HB2.out⟩
      case measure => have := HE.out; simp [intOf]; omega
theorem count_ok (b : Nat) (A : Option Addr) (n c : Nat) (least most : Int) (h1 : least ≤ n) (h2 : n ≤ most) (w : World) : Calls Try.prog 96 #[.pointer (some ⟨b, 0, none⟩), .slice A n c, .int .i64 least, .int .i64 most] w fun r w' => r = .returned (.bool true) ∧ w = w' := by
  have t1 : decide ((n : Int) < least) = false := decide_eq_false (by omega)
  have t2 : decide (most < (n : Int)) = false := decide_eq_false (by omega)
  clear h1 h2
  go_enter Try.func96, Try.ntmps96
  go_wp2
  go_ret
  exact ⟨rfl, rfl⟩
theorem str_any (b : Nat) (s : ByteArray) (w : World) (h1 : w.cell? ⟨b, 1, none⟩ = some (.bool false)) : Calls Try.prog 95 #[.pointer (some ⟨b, 0, none⟩), .string s] w fun r w' => ∃ B, r = .returned (.pointer (some ⟨B, 0, none⟩)) ∧ w.heap.size ≤ B ∧ Blk w' B ∧ Below w.heap.size w w' := by
  go_enter Try.func95, Try.ntmps95
  go_wp2
  go_ret
  exact ⟨w.heap.size, rfl, Nat.le_refl _, Blk.new _ _ _, (Below.refl _ _).alloc (Nat.le_refl _) _⟩
theorem hides_ok (x : Int) (h : x = 0 ∨ x = 1 ∨ x = 2) (w : World) : Calls Try.prog 103 #[.int .i64 x] w fun r w' => (∃ y : Int, r = .returned (.tuple #[.int .i64 y, .bool true])) ∧ w = w' := by
  rcases h with rfl | rfl | rfl
  all_goals
    go_enter Try.func103, Try.ntmps103
    go_wp2
    go_ret2
    exact ⟨⟨_, rfl⟩, rfl⟩
theorem unaryOp_ok (x : Int) (h : 1 ≤ x ∧ x ≤ 4) (w : World) : Calls Try.prog 102 #[.int .i64 x] w fun r w' => (∃ y : Int, r = .returned (.tuple #[.int .i64 y, .bool true])) ∧ w = w' := by
  have h : x = 1 ∨ x = 2 ∨ x = 3 ∨ x = 4 := by omega
  rcases h with rfl | rfl | rfl | rfl
  all_goals
    go_enter Try.func102, Try.ntmps102
    go_wp2
    go_ret2
    exact ⟨⟨_, rfl⟩, rfl⟩
theorem isSpec_is (b q o cap : Nat) (ns : List Nd) (a : Nat) (n : Nd) (hn : ns[a]? = some n) (w : World) (hrow : Row w q o ns) (hb0 : w.cell? ⟨b, 0, none⟩ = some (.slice (some ⟨q, o, none⟩) ns.length cap)) :
    Calls Try.prog 113 #[.pointer (some ⟨b, 0, none⟩), .int .i64 a] w fun r w' => r = .returned (.bool (n.k == 38 || n.k == 39)) ∧ w = w' := by
  obtain ⟨c0, -⟩ := hrow a n hn
  have hal := (List.getElem?_eq_some_iff.1 hn).1
  have hlt : (a : Int) < (ns.length : Int) := by omega
  clear hrow hn hal
  cases h1 : (n.k == 38)
  · cases h2 : (n.k == 39)
    all_goals
      go_enter Try.func113, Try.ntmps113
      go_wp2
      go_ret
      exact ⟨rfl, rfl⟩
  · go_enter Try.func113, Try.ntmps113
    go_wp2
    go_ret
    exact ⟨rfl, rfl⟩
end Go.Proofs.Ytincgkolpicipaa.kin
