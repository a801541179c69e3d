/- ast.FodderAppend by contract. -/
import Derived.Test.YtfdkgaipakannaaCopy
import Derived.Deep.RegionLaw
import Derived.Deep.DeepCutAuto
import Derived.OneCell
namespace Go.Proofs.Ytfdkgaipakannaa.split
open Go.RowKit
def clean (es : List El) : Bool := match es.getLast? with | some e => e.k != 1 | none => false
theorem clean_any (B : Nat) (v : Value) (es : List El) (w : World) (h : AEls B w v es) (hl : es.length ≤ 10000) : Calls Try.prog 33 #[v] w fun e w' => e = .returned (.bool (clean es)) ∧ w = w' := by
  obtain ⟨A, cap, rfl, _, hc⟩ := h
  rcases List.eq_nil_or_concat es with rfl | ⟨r, x, rfl⟩
  · clear hc
    have hz : clean [] = false := rfl
    rw [hz]
    have hl0 : ([] : List El).length = 0 := rfl
    rw [hl0]
    clear hz hl0 hl
    go_enter Try.func33, Try.ntmps33
    go_wp2
    go_ret
    exact ⟨rfl, rfl⟩
  · have hz : clean (r.concat x) = (x.k != 1) := by simp [clean]
    rw [hz]
    have hlen : (r.concat x).length = r.length + 1 := by simp
    obtain ⟨q, o, cv, rfl, g0, g1, _⟩ := hc r.length x (by simp)
    rw [hlen] at hl ⊢
    clear hz hlen hc g0
    generalize r.length = m at *
    generalize x.k = y at *
    have d1 : decide (0 < m + 1) = true := decide_eq_true (by omega)
    have hw : IntKind.i64.wrap (((m + 1 : Nat) : Int) - 1) = (m : Int) := by rw [IntWalk.i64_in _ (by omega)]; omega
    have hm0 : (m : Int) < ((m + 1 : Nat) : Int) := by omega
    generalize m + 1 = n at *
    go_enter Try.func33, Try.ntmps33
    go_wp2
    go_ret
    exact ⟨rfl, rfl⟩
theorem make_line (A : Option Addr) (c : Nat) (n : Int) (w : World) : Calls Try.prog 34 #[.int .i64 0, .int .i64 0, .int .i64 n, .slice A 0 c] w fun e w' => e = .returned (.agg #[.slice A 0 c, .int .i64 0, .int .i64 0, .int .i64 n]) ∧ Below w.heap.size w w' := by
  go_enter Try.func34, Try.ntmps34
  go_wp2
  exact bodyPost_ret (v := .agg #[.slice A 0 c, .int .i64 0, .int .i64 0, .int .i64 n]) (by simp [results, Try.results34, go_sem]) rfl ⟨rfl, (Below.refl _ _).alloc (Nat.le_refl _) _⟩
/-- What ast.FodderAppend makes of a list: no line's end is merged into the last one. -/
def appF (es : List El) (e : El) : List El := if clean es = false ∧ e.k = 2 then es ++ [⟨0, 0, e.n, []⟩, e] else es ++ [e]
/-- What ast.FodderAppend leaves: in block pb the row v', with the cells that appF tells. -/
structure AppRel (B base pb : Nat) (v : Value) (es : List El) (w w' : World) : Prop where
  ex : ∃ v' ps', w'.heap[pb]? = some (.cells #[v'] 44 (0, 0)) ∧ OwnA w' base B v' ps' ∧ ps'.map (·.2) = es ∧ (v'.ownBlock = v.ownBlock ∨ ∃ g, v'.ownBlock = some g ∧ w.heap.size ≤ g)
  chg : Chg (fun k => k = pb ∨ v.ownBlock = some k) w w'
theorem own_ne_slot {w : World} {base e size n pb : Nat} {v u : Value} {xs : List Value} (h : w.ownsRow base e size v n xs) (hs : w.heap[pb]? = some (.cells #[u] 44 (0, 0))) (he : e ≠ 44) : v.ownBlock ≠ some pb := by
  rcases h.2 with ⟨rfl, _⟩ | ⟨g, cap, cur, rfl, _, hh, _⟩
  · simp [Value.ownBlock]
  · intro e'
    have : g = pb := by simpa [Value.ownBlock] using e'
    subst this
    rw [hh] at hs
    injection hs with hs
    injection hs with _ ht
    exact he ht
/-- One append, and the store behind it. -/
theorem app_step {B base pb : Nat} {v cv : Value} {ps : List (Value × El)} {e : El} {w W w2 : World} {g cap : Nat} (hB : B ≤ base) (hpb : B ≤ pb) (hslot : w.heap[pb]? = some (.cells #[v] 44 (0, 0))) (hown : OwnA w base B v ps)
    (hb : Below w.heap.size w W) (hcm : Cmt B W cv e.c)
    (hown2 : w2.ownsRow base 55 4 (.slice (some ⟨g, 0, none⟩) (ps.length + 1) cap) (ps.length + 1) (rowA ps ++ [cv, .int .i64 e.k, .int .i64 e.b, .int .i64 e.n])) (hg2 : W.grownBy w2 v.ownBlock) (hat : v.ownBlock = some g ∨ g = W.heap.size) :
    (w2.cell? ⟨pb, 0, none⟩ = some v ∧ w2.frozen? ⟨pb, 0, none⟩ = false) ∧
    (w2.setCell ⟨pb, 0, none⟩ (.slice (some ⟨g, 0, none⟩) (ps.length + 1) cap)).heap[pb]? = some (.cells #[.slice (some ⟨g, 0, none⟩) (ps.length + 1) cap] 44 (0, 0)) ∧
    OwnA (w2.setCell ⟨pb, 0, none⟩ (.slice (some ⟨g, 0, none⟩) (ps.length + 1) cap)) base B (.slice (some ⟨g, 0, none⟩) (ps.length + 1) cap) (ps ++ [(cv, e)]) ∧
    (v.ownBlock = some g ∨ w.heap.size ≤ g) ∧ Chg (fun k => k = pb ∨ v.ownBlock = some k) w (w2.setCell ⟨pb, 0, none⟩ (.slice (some ⟨g, 0, none⟩) (ps.length + 1) cap)) := by
  have hne := own_ne_slot hown.1 hslot (by decide)
  have h1 := hown.later hb
  have hsafe := safe_of_row h1.1 (by decide) hB
  have hx : Chg (fun k => v.ownBlock = some k) W w2 := (Chg.refl _ _).grown hg2 fun k hk _ => hk
  have hs1 : W.heap[pb]? = some (.cells #[v] 44 (0, 0)) := (hb.block pb (Array.getElem?_eq_some_iff.1 hslot).1).trans hslot
  have hs2 : w2.heap[pb]? = some (.cells #[v] 44 (0, 0)) := hx.keep hs1 hne
  have hgp : g ≠ pb := by
    rintro rfl
    exact own_ne_slot hown2 hs2 (by decide) rfl
  have hox : OwnA w2 base B (.slice (some ⟨g, 0, none⟩) (ps.length + 1) cap) (ps ++ [(cv, e)]) := by
    refine ⟨?_, fun p hp => ?_⟩
    · rw [rowA_snoc]; simpa using hown2
    · rcases List.mem_append.1 hp with h | h
      · exact (h1.2 p h).chg hsafe hx
      · obtain rfl := List.mem_singleton.1 h
        exact hcm.chg hsafe hx
  have hset : Chg (fun k => k = pb) w2 (w2.setCell ⟨pb, 0, none⟩ (.slice (some ⟨g, 0, none⟩) (ps.length + 1) cap)) := Chg.setCell (X := fun k => k = pb) (p := ⟨pb, 0, none⟩) (Chg.refl _ _) (fun _ => rfl) _
  refine ⟨⟨cell_of_one hs2, free_of_one hs2⟩, one_setCell hs2, hox.chg (X := fun k => k = pb) (fun k hk => ?_) hset (fun k hk e1 => ?_), ?_, ?_⟩
  · subst hk
    refine ⟨hpb, fun cs fr hc => ?_⟩
    rw [hs2] at hc
    injection hc with hc
    injection hc with _ ht
    exact absurd ht (by decide)
  · subst e1
    have : g = k := by simpa [Value.ownBlock] using hk
    exact hgp this
  · rcases hat with h | h
    · exact .inl h
    · exact .inr (by rw [h]; exact hb.size)
  · have c1 : Chg (fun k => v.ownBlock = some k) w w2 := (Chg.below hb : Chg (fun k => v.ownBlock = some k) w W).trans hx
    exact (c1.weak (Y := fun k => k = pb ∨ v.ownBlock = some k) (fun _ _ h => .inr h)).step hset (fun _ _ h => .inl h)
end Go.Proofs.Ytfdkgaipakannaa.split
