/- ast.FodderAppend by contract. -/
import Derived.Test.YtfdkgaipakannaaApp
namespace Go.Proofs.Ytfdkgaipakannaa.split
open Go.RowKit
theorem oneA (A : Option Addr) (n c : Nat) (x y z : Int) : ∀ u ∈ [Value.slice A n c, .int .i64 x, .int .i64 y, .int .i64 z], u.oneCell' = true := fun u hu => by
  simp only [List.mem_cons, List.mem_nil_iff, or_false] at hu
  rcases hu with rfl | rfl | rfl | rfl <;> rfl
theorem four_cells {w : World} {b : Nat} {t : TypeId} {c0 c1 c2 c3 : Value} (h : w.heap[b]? = some (.cells #[c0, c1, c2, c3] t (0, 0))) :
    w.cell? ⟨b, 0, none⟩ = some c0 ∧ w.cell? ⟨b, 1, none⟩ = some c1 ∧ w.cell? ⟨b, 2, none⟩ = some c2 ∧ w.cell? ⟨b, 3, none⟩ = some c3 :=
  ⟨by simp [World.cell?, h], by simp [World.cell?, h], by simp [World.cell?, h], by simp [World.cell?, h]⟩
set_option maxRecDepth 100000 in
set_option maxHeartbeats 4000000 in
theorem append_one (B base pb : Nat) (v : Value) (ps : List (Value × El)) (e : El) (A : Option Addr) (cap : Nat) (w : World) (hB : B ≤ base) (hpb : B ≤ pb) (hbase : base ≤ w.heap.size)
    (hslot : w.heap[pb]? = some (.cells #[v] 44 (0, 0))) (hown : OwnA w base B v ps) (hcm : Cmt B w (.slice A e.c.length cap) e.c) (hl : ps.length ≤ 1000) (hno : clean (ps.map (·.2)) = true → e.k ≠ 0) (hno2 : ¬ (clean (ps.map (·.2)) = false ∧ e.k = 2)) :
    Calls Try.prog 26 #[.pointer (some ⟨pb, 0, none⟩), .agg #[.slice A e.c.length cap, .int .i64 e.k, .int .i64 e.b, .int .i64 e.n]] w fun e' w' => e' = .returned (.tuple #[]) ∧ AppRel B base pb v (ps.map (·.2) ++ [e]) w w' := by
  obtain ⟨i0, hi, hz0, hz1, hz2⟩ := info_parts Try.info55
  have hlt : pb < w.heap.size := (Array.getElem?_eq_some_iff.1 hslot).1
  have hbA : Below w.heap.size w (w.alloc (.cells #[.slice A e.c.length cap, .int .i64 e.k, .int .i64 e.b, .int .i64 e.n] 55)) := (Below.refl _ _).alloc (Nat.le_refl _) _
  have HZA := Lib.hid (show (w.alloc (.cells #[.slice A e.c.length cap, .int .i64 e.k, .int .i64 e.b, .int .i64 e.n] 55)).heap.size = w.heap.size + 1 by simp)
  have hnew := heap_alloc_new w (.cells #[.slice A e.c.length cap, .int .i64 e.k, .int .i64 e.b, .int .i64 e.n] 55)
  have HCL := Lib.hid (fun w' (hb : Below w.heap.size w w') => clean_any B v (ps.map (·.2)) w' (hown.later hb).reads (by simp; omega))
  have HST := Lib.hid (fun W w2 g cp h1 h2 h3 h4 h5 => app_step (w := w) (W := W) (w2 := w2) (g := g) (cap := cp) (cv := .slice A e.c.length cap) (e := e) hB hpb hslot hown h1 h2 h3 h4 h5)
  have HI : Hid (Try.prog.info? 55 = some i0 ∧ i0.zero = some (.agg #[.slice none 0 0, .int .i64 0, .int .i64 0, .int .i64 0]) ∧ i0.size = 4 ∧ i0.bytes = 48) := ⟨hi, hz0, hz1, hz2⟩
  have HCM := Lib.hid (fun w' (hb : Below w.heap.size w w') => hcm.later hb)
  have HO := Lib.hid (fun w' (hb : Below w.heap.size w w') => hown.later hb)
  have HBA := Lib.hid hbA
  have HO1 := Lib.hid (show ∀ w', Below w.heap.size w w' → w'.ownsRow base 55 4 v ps.length (rowA ps) from fun w' hb => (hown.later hb).1)
  have HBS := Lib.hid hbase
  have HLP := Lib.hid hl
  have hp : (w.alloc (.cells #[.slice A e.c.length cap, .int .i64 e.k, .int .i64 e.b, .int .i64 e.n] 55)).cell? ⟨pb, 0, none⟩ = some v := cell_of_one ((hbA.block pb hlt).trans hslot)
  obtain ⟨c0, c1, c2, c3⟩ : (w.alloc (.cells #[.slice A e.c.length cap, .int .i64 e.k, .int .i64 e.b, .int .i64 e.n] 55)).cell? ⟨w.heap.size, 0, none⟩ = some (.slice A e.c.length cap) ∧ (w.alloc (.cells #[.slice A e.c.length cap, .int .i64 e.k, .int .i64 e.b, .int .i64 e.n] 55)).cell? ⟨w.heap.size, 1, none⟩ = some (.int .i64 e.k) ∧ (w.alloc (.cells #[.slice A e.c.length cap, .int .i64 e.k, .int .i64 e.b, .int .i64 e.n] 55)).cell? ⟨w.heap.size, 2, none⟩ = some (.int .i64 e.b) ∧ (w.alloc (.cells #[.slice A e.c.length cap, .int .i64 e.k, .int .i64 e.b, .int .i64 e.n] 55)).cell? ⟨w.heap.size, 3, none⟩ = some (.int .i64 e.n) :=
    four_cells hnew
  have HEND := Lib.hid (show ∀ (w2 : World) (g cp : Nat), (w2.setCell ⟨pb, 0, none⟩ (.slice (some ⟨g, 0, none⟩) (ps.length + 1) cp)).heap[pb]? = some (.cells #[.slice (some ⟨g, 0, none⟩) (ps.length + 1) cp] 44 (0, 0)) ∧
    OwnA (w2.setCell ⟨pb, 0, none⟩ (.slice (some ⟨g, 0, none⟩) (ps.length + 1) cp)) base B (.slice (some ⟨g, 0, none⟩) (ps.length + 1) cp) (ps ++ [(.slice A e.c.length cap, e)]) ∧
    (v.ownBlock = some g ∨ w.heap.size ≤ g) ∧ Chg (fun k => k = pb ∨ v.ownBlock = some k) w (w2.setCell ⟨pb, 0, none⟩ (.slice (some ⟨g, 0, none⟩) (ps.length + 1) cp)) → AppRel B base pb v (ps.map (·.2) ++ [e]) w (w2.setCell ⟨pb, 0, none⟩ (.slice (some ⟨g, 0, none⟩) (ps.length + 1) cp)) from
    fun w2 g cp ⟨h1, h2, h3, h4⟩ => ⟨⟨_, _, h1, h2, by simp, by rcases h3 with h | h; (exact .inl h.symm); (exact .inr ⟨g, rfl, h⟩)⟩, h4⟩)
  clear hnew hbA hlt hown hcm hslot hB hpb hbase hl hi hz0 hz1 hz2
  have key : (clean (ps.map (·.2)) = true ∧ (e.k == 0) = false) ∨ (clean (ps.map (·.2)) = false ∧ (e.k == 2) = false) := by
    cases hcl : clean (ps.map (·.2))
    · exact .inr ⟨rfl, by simpa using fun h => hno2 ⟨hcl, h⟩⟩
    · exact .inl ⟨rfl, by simpa using hno hcl⟩
  clear hno hno2
  generalize clean (ps.map (·.2)) = cl at *
  generalize (ps.map (·.2)) = es at *
  generalize ps.length = n at *
  rcases key with ⟨rfl, hkk⟩ | ⟨rfl, hkk⟩
  all_goals
    go_enter Try.func26, Try.ntmps26
    go_wp2_with fail
    generalize (w.alloc (.cells #[.slice A e.c.length cap, .int .i64 e.k, .int .i64 e.b, .int .i64 e.n] 55)) = wA at HZA HBA hp c0 c1 c2 c3 ⊢
    refine (HCL.out wA HBA.out).mono ?_
    rintro e' w' ⟨rfl, rfl⟩
    go_wp2_with (go_at_call 33; refine (HCL.out wA HBA.out).mono ?_; rintro e' w' ⟨rfl, rfl⟩)
    have HBW := Lib.hid (show ∀ o, Below w.heap.size w (wA.alloc o).drew from fun o => (HBA.out.alloc HBA.out.size o).drew)
    have hpa : ∀ o, (wA.alloc o).cell? ⟨pb, 0, none⟩ = some v := fun o => cell_later ((Below.refl _ _).alloc (Nat.le_refl _) o) hp
    go_region_law
      ((refine step_append_lies _ (by rfl) (.tmp 79) (.tmp 81) 44 (by rfl) base 55 i0 _ 4 48 Try.underlying44 HI.out.1 HI.out.2.1 HI.out.2.2.1 HI.out.2.2.2 rfl (by decide) v n (rowA ps) (by rfl) ((HO1.out _ (HBW.out _))) ⟨wA.heap.size, 0, none⟩ 1 1 [.slice A e.c.length cap, .int .i64 e.k, .int .i64 e.b, .int .i64 e.n] (by rfl) rfl (World.news_of_block (heap_alloc_new wA _)) (oneA _ _ _ _ _ _) (by decide) (by rw [maxLen_eq]; have := HLP.out; omega) (by have := HLP.out; omega) (Nat.le_trans HBS.out (HBW.out _).size) _ (by rfl) ?_
        intro g cp w2 hown2 hg2 hat2 hlt2
        have hst := HST.out _ w2 g cp (HBW.out _) (HCM.out _ (HBW.out _)) hown2 hg2 hat2
        obtain ⟨⟨q1, q2⟩, hq⟩ := hst
        have HQ := Lib.hid hq
        clear hq hown2 hg2 hat2 hlt2))
    all_goals
      go_end0
      exact ⟨rfl, HEND.out _ _ _ HQ.out⟩
end Go.Proofs.Ytfdkgaipakannaa.split
