/- impl.elements by contract: it makes the same elements. -/
import Derived.Test.YtfdkgaipakannaaCopy
namespace Go.Proofs.Ytfdkgaipakannaa.split
open Go.RowKit
/-- What holds at the head of each round of impl.elements. -/
def ERel (B : Nat) (w : World) (es : List El) (k : Nat) (v : Value) (wr : World) : Prop := ∃ ps, ps.map (·.2) = es.take k ∧ OwnE wr w.heap.size B v ps ∧ Below w.heap.size w wr
theorem OwnE.later {W W' : World} {base B : Nat} {v : Value} {ps : List (Value × El)} (h : OwnE W base B v ps) (hb : Below W.heap.size W W') : OwnE W' base B v ps := h.chg Safe.none (Chg.below hb) fun _ _ h => h
theorem erel_step {B : Nat} {w wr w1 w2 : World} {es : List El} {k : Nat} {v v2 cv : Value} {ps : List (Value × El)} {s : El} (hB : B ≤ w.heap.size) (hb : Below w.heap.size w wr) (hown : OwnE wr w.heap.size B v ps)
    (hps : ps.map (·.2) = es.take k) (hs : es[k]? = some s) (hb1 : Below wr.heap.size wr w1) (hcm : Cmt B w1 cv s.c)
    (hown2 : w2.ownsRow w.heap.size 34 4 v2 (ps.length + 1) (rowE ps ++ [.int .i64 s.k, .int .i64 s.b, .int .i64 s.n, cv])) (hg2 : w1.grownBy w2 v.ownBlock) : ERel B w es (k + 1) v2 w2 := by
  have h1 := hown.later hb1
  have hsafe := safe_of_row h1.1 (by decide) hB
  have hx : Chg (fun k => v.ownBlock = some k) w1 w2 := (Chg.refl _ _).grown hg2 fun k hk _ => hk
  refine ⟨ps ++ [(cv, s)], ?_, ⟨?_, fun p hp => ?_⟩, ?_⟩
  · rw [List.map_append, hps, List.take_add_one, hs]; rfl
  · rw [rowE_snoc]; simpa using hown2
  · rcases List.mem_append.1 hp with h | h
    · exact (h1.2 p h).chg hsafe hx
    · obtain rfl := List.mem_singleton.1 h
      exact hcm.chg hsafe hx
  · exact (step_after hb hb1).grown hg2 (Nat.le_trans hb.size hb1.size) fun k hk => (h1.1.lt k hk).1
theorem chg_t {X : Nat → Prop} {wA : World} {b : Nat} {c0 c1 c2 c3 : Value} (h : wA.heap[b]? = some (.cells #[c0, c1, c2, c3] 55 (0, 0))) (hb : ¬ X b) (w' : World) (hx : Chg X wA w') :
    (w'.cell? ⟨b, 0, none⟩ = some c0 ∧ w'.cell? ⟨b, 1, none⟩ = some c1 ∧ w'.cell? ⟨b, 2, none⟩ = some c2 ∧ w'.cell? ⟨b, 3, none⟩ = some c3) ∧ Chg X wA w' := by
  have hc := hx.keep h hb
  exact ⟨⟨by simp [World.cell?, hc], by simp [World.cell?, hc], by simp [World.cell?, hc], by simp [World.cell?, hc]⟩, hx⟩
set_option maxRecDepth 100000 in
set_option maxHeartbeats 4000000 in
theorem elements_made (B : Nat) (v : Value) (es : List El) (w : World) (hB : B ≤ w.heap.size) (h : AEls B w v es) (hk : ∀ e ∈ es, e.c.length ≤ 1000) (hl : es.length ≤ 1000) :
    Calls Try.prog 24 #[v] w fun e w' => ∃ v', e = .returned v' ∧ ERel B w es es.length v' w' := by
  obtain ⟨i0, hi, hz0, hz1, hz2⟩ := info_parts Try.info34
  obtain ⟨A, cap, rfl, _, hc⟩ := h
  have HC := Lib.hid hc
  have HK := Lib.hid (fun k s (hs : es[k]? = some s) => hk s (List.mem_of_getElem? hs))
  clear hc hk
  generalize hn : es.length = n at hl ⊢
  have HN := Lib.hid hn
  have HBB := Lib.hid hB
  clear hn hB
  go_enter Try.func24, Try.ntmps24
  go_wp2
  go_loopw [3, 5, 8] (fun v _ i wr => ∃ k : Nat, k ≤ n ∧ i = .int .i64 k ∧ ERel B w es k v wr) (fun _ _ i _ => n - (intOf i).toNat)
  case atStart => exact ⟨0, Nat.zero_le _, rfl, [], rfl, OwnE.none_, Below.refl _ _⟩
  case round =>
    obtain ⟨k, hk, rfl, ps, hps, hown, hb⟩ := hrel
    obtain ⟨A4, cap4, hv4, -, -, -⟩ := owns_form hown.1
    subst hv4
    by_cases hlt : k < n
    · obtain ⟨s, hs⟩ : ∃ s, es[k]? = some s := ⟨_, List.getElem?_eq_getElem (by have := HN.out; omega)⟩
      obtain ⟨q, o, cv, rfl, g0, g1, g2, g3, hst0⟩ := HC.out k s hs
      have c0 := cell_later hb g0
      have c1 := cell_later hb g1
      have c2 := cell_later hb g2
      have c3 := cell_later hb g3
      have hst := hst0.1.later hb
      clear g0 g1 g2 g3 hst0
      obtain ⟨A2, cap2, rfl⟩ := hst.form
      have hki : (k : Int) < (n : Int) := by omega
      have HKI := HK.out k s hs
      have HLC := Lib.hid HKI
      have HST := Lib.hid hst
      have HB := Lib.hid hb
      have HS := Lib.hid hs
      have HOWN := Lib.hid hown
      have HPS := Lib.hid hps
      clear hs hst hb HKI hown hps
      have hX : ¬ (Value.slice A4 ps.length cap4).ownBlock = some wr.heap.size := fun h => by have := (HOWN.out.1.lt _ h).2; omega
      have hnew := heap_alloc_new wr (.cells #[.slice A2 s.c.length cap2, .int .i64 s.k, .int .i64 s.b, .int .i64 s.n] 55)
      have hbA : Below wr.heap.size wr (wr.alloc (.cells #[.slice A2 s.c.length cap2, .int .i64 s.k, .int .i64 s.b, .int .i64 s.n] 55)) := (Below.refl _ _).alloc (Nat.le_refl _) _
      have hzA : wr.heap.size + 1 = (wr.alloc (.cells #[.slice A2 s.c.length cap2, .int .i64 s.k, .int .i64 s.b, .int .i64 s.n] 55)).heap.size := by simp
      have HLP := Lib.hid (show ps.length ≤ 1000 by have := congrArg List.length HPS.out; simp at this; omega)
      have HONE := Lib.hid (show ∀ (A : Option Addr) (n c : Nat) (x y z : Int), ∀ u ∈ [Value.int .i64 x, .int .i64 y, .int .i64 z, .slice A n c], u.oneCell' = true from fun A n c x y z u hu => by
        simp only [List.mem_cons, List.mem_nil_iff, or_false] at hu
        rcases hu with rfl | rfl | rfl | rfl <;> rfl)
      have HS1 := Lib.hid (chg_t (X := fun k => (Value.slice A4 ps.length cap4).ownBlock = some k) hnew hX)
      have HBA := Lib.hid hbA
      have HZA := Lib.hid hzA
      have HI : Hid (Try.prog.info? 34 = some i0 ∧ i0.zero = some (.agg #[.int .i64 0, .int .i64 0, .int .i64 0, .slice none 0 0]) ∧ i0.size = 4 ∧ i0.bytes = 48) := ⟨hi, hz0, hz1, hz2⟩
      clear hX hnew hbA hzA hi hz0 hz1 hz2
      go_wp2_with fail
      generalize (wr.alloc (.cells #[.slice A2 s.c.length cap2, .int .i64 s.k, .int .i64 s.b, .int .i64 s.n] 55)) = wA at HS1 HBA HZA ⊢
      clear c0 c1 c2 c3
      have hSA := (HS1.out wA (Chg.refl _ _)).1
      go_region_held3 (fun w' => (w'.cell? ⟨wr.heap.size, 0, none⟩ = some (.slice A2 s.c.length cap2) ∧ w'.cell? ⟨wr.heap.size, 1, none⟩ = some (.int .i64 s.k) ∧ w'.cell? ⟨wr.heap.size, 2, none⟩ = some (.int .i64 s.b) ∧ w'.cell? ⟨wr.heap.size, 3, none⟩ = some (.int .i64 s.n)) ∧ Chg (fun k => (Value.slice A4 ps.length cap4).ownBlock = some k) wA w')
        (first | (with_reducible exact HS1.out _ ((Chg.refl _ _).drew)) | (with_reducible exact HS1.out _ (Chg.alloc (And.right (by assumption)) _)) | (with_reducible exact HS1.out _ hX1) | (with_reducible exact HS1.out _ (hX1.alloc _)) | (with_reducible exact HS1.out _ hX2))
        (first
          | (refine step_copy B rfl (.tmp 19) (.tmp 21) rfl wA.heap.size s.c _ rfl rfl (HST.out.later ((HBA.out.alloc HBA.out.size _).drew)) HLC.out (heap_alloc_new wA _) ?_
             intro A5 cap5 w1 hcm hg1
             have hb1 : Below wr.heap.size wr w1 := ((HBA.out.alloc HBA.out.size _).drew).grown hg1 (Nat.le_trans HBA.out.size (by simp)) (fun k e => by cases e; exact HBA.out.size)
             have hX1 : Chg (fun k => (Value.slice A4 ps.length cap4).ownBlock = some k) wA w1 := (((Chg.refl _ wA).alloc _).drew).grown hg1 (fun k e hk => by cases e; omega)
             have hO1 := HOWN.out.later hb1)
          | (refine step_append_lies _ rfl (.tmp 12) (.tmp 24) 28 rfl w.heap.size 34 i0 _ 4 48 Try.underlying28 HI.out.1 HI.out.2.1 HI.out.2.2.1 HI.out.2.2.2 rfl (by decide) _ ps.length (rowE ps) rfl (hO1.1.alloc _) ⟨w1.heap.size, 0, none⟩ 1 1 [.int .i64 s.k, .int .i64 s.b, .int .i64 s.n, .slice A5 s.c.length cap5] rfl rfl (World.news_of_block (heap_alloc_new w1 _)) (HONE.out _ _ _ _ _ _) (by decide) (by rw [maxLen_eq]; have := HLP.out; omega) (by have := HLP.out; omega) (Nat.le_trans HB.out.size (Nat.le_trans hb1.size (by simp))) _ rfl ?_
             intro g6 cap6 w2 hown2 hg2 hat2 hlt2
             have hX2 : Chg (fun k => (Value.slice A4 ps.length cap4).ownBlock = some k) wA w2 := (hX1.alloc _).grown hg2 (fun k e _ => e)))
      have HR := Lib.hid (erel_step HBB.out HB.out HOWN.out HPS.out HS.out (hb1.alloc hb1.size _) (hcm.later ((Below.refl _ _).alloc (Nat.le_refl _) _)) hown2 hg2)
      clear hb1 hX1 hO1 hX2 hcm hg1 hown2 hg2 hat2 hlt2
      go_wp2
      go_roundw
      case rel => exact ⟨k + 1, by omega, by go_num, HR.out⟩
      case measure => simp [intOf]; omega
    · have hki : ¬ (k : Int) < (n : Int) := by omega
      have HR : Hid (ERel B w es n (.slice A4 ps.length cap4) wr) := by
        have e : n = k := by omega
        rw [e]; exact ⟨ps, hps, hown, hb⟩
      clear hps hown hb
      go_wp2
      go_ret
      exact ⟨_, rfl, HR.out⟩
end Go.Proofs.Ytfdkgaipakannaa.split
