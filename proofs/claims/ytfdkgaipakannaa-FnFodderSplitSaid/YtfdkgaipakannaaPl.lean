/- FnFodderSplit: the plain law. -/
import Derived.Test.YtfdkgaipakannaaImp2
import Derived.Test.YtfdkgaipakannaaSame
namespace Go.Proofs.Ytfdkgaipakannaa.split
open Go.RowKit
theorem sp_ones (es : List El) (h : ∀ e ∈ es, e.k = 1) : sp es = ⟨es, [], false⟩ := by
  revert h
  refine snoc_induction (P := fun es => (∀ e ∈ es, e.k = 1) → sp es = ⟨es, [], false⟩) (fun _ => rfl) ?_ _ es rfl
  intro l x ih h
  rw [sp_snoc, ih fun e he => h e (List.mem_append_left _ he)]
  unfold spStep
  rw [if_neg (show ¬ false = true by decide), if_pos (h x (by simp))]
def rest0 (e : El) : List El := if 0 < e.b then [⟨0, e.b, e.n, []⟩] else []
theorem sp_at (pre post : List El) (e : El) (h : ∀ x ∈ pre, x.k = 1) (he : e.k ≠ 1) : sp (pre ++ e :: post) = ⟨pre ++ [bare e], post.foldl appF (rest0 e), true⟩ := by
  have h1 : sp (pre ++ [e]) = ⟨pre ++ [bare e], rest0 e, true⟩ := by
    rw [sp_snoc, sp_ones pre h]
    unfold spStep rest0
    rw [if_neg (show ¬ false = true by decide), if_neg he]
    simp
  have h2 : ∀ (post : List El) (s : Sp), s.f = true → post.foldl spStep s = ⟨s.a, post.foldl appF s.b, true⟩ := by
    intro post
    induction post with
    | nil => intro s hs; cases s; simp at hs; subst hs; rfl
    | cons y r ih =>
      intro s hs
      rw [List.foldl_cons, List.foldl_cons]
      have : spStep s y = ⟨s.a, appF s.b y, true⟩ := by unfold spStep; rw [hs]; rfl
      rw [this, ih _ rfl]
  have e1 : pre ++ e :: post = (pre ++ [e]) ++ post := by simp
  rw [e1]
  unfold sp at h1 ⊢
  rw [List.foldl_append, h1, h2 post _ rfl]
theorem clean_snoc (l : List El) (x : El) : clean (l ++ [x]) = (x.k != 1) := by simp [clean]
theorem clean_appF (l : List El) (x : El) : clean (appF l x) = (x.k != 1) := by
  unfold appF
  split
  · have : l ++ [⟨0, 0, x.n, []⟩, x] = (l ++ [⟨0, 0, x.n, []⟩]) ++ [x] := by simp
    rw [this, clean_snoc]
  · exact clean_snoc l x
/-- A list is all comments within lines, or it has a first element that ends a line. -/
theorem split_at (es : List El) : (∀ e ∈ es, e.k = 1) ∨ ∃ pre e post, es = pre ++ e :: post ∧ (∀ x ∈ pre, x.k = 1) ∧ e.k ≠ 1 := by
  induction es with
  | nil => exact .inl fun e h => by cases h
  | cons y r ih =>
    by_cases hy : y.k = 1
    · rcases ih with h | ⟨pre, e, post, rfl, h1, h2⟩
      · exact .inl fun e he => by
          rcases List.mem_cons.1 he with rfl | he
          · exact hy
          · exact h e he
      · exact .inr ⟨y :: pre, e, post, rfl, fun x hx => by
          rcases List.mem_cons.1 hx with rfl | hx
          · exact hy
          · exact h1 x hx, h2⟩
    · exact .inr ⟨[], y, r, rfl, (fun x hx => by cases hx), hy⟩
theorem fine_of_good (es : List El) (h : Good es) : Fine es := by
  intro k x hx hf hc hk0
  have hklt : k < es.length := (List.getElem?_eq_some_iff.1 hx).1
  rcases split_at (es.take k) with h1 | ⟨pre, e, post, he, h1, h2⟩
  · rw [sp_ones _ h1] at hf; cases hf
  · rw [he, sp_at pre post e h1 h2] at hc
    have hlen : k = pre.length + (post.length + 1) := by
      have := congrArg List.length he
      simp at this; omega
    have hat : ∀ i, i < k → es[i]? = (pre ++ e :: post)[i]? := fun i hi => by rw [← he, List.getElem?_take_of_lt hi]
    rcases List.eq_nil_or_concat post with rfl | ⟨r, y, rfl⟩
    · have hl : es[k - 1]? = some e := by rw [hat _ (by omega), hlen]; simp
      have hk1 : k - 1 + 1 = k := by omega
      have := h.all.fol (k - 1) e x (by omega) hl (by rw [hk1]; exact hx)
      unfold follow at this
      rw [hk0] at this
      simp at this
      exact h2 this
    · simp only at hc
      rw [List.concat_eq_append, List.foldl_append] at hc
      simp only [List.foldl_cons, List.foldl_nil] at hc
      rw [clean_appF] at hc
      have hl : es[k - 1]? = some y := by
        rw [hat _ (by omega), hlen]
        have : pre.length + ((r.concat y).length + 1) - 1 = (pre ++ e :: r).length := by simp
        rw [this]
        have e2 : pre ++ e :: r.concat y = (pre ++ e :: r) ++ [y] := by simp
        rw [e2]; simp
      have hk1 : k - 1 + 1 = k := by omega
      have := h.all.fol (k - 1) y x (by omega) hl (by rw [hk1]; exact hx)
      unfold follow at this
      rw [hk0] at this
      simp at this
      simp [this] at hc
theorem kinds_of_good (es : List El) (h : Good es) : ∀ e ∈ es, KindOk e := by
  intro e he
  obtain ⟨i, hi⟩ := List.getElem?_of_mem he
  have hg := h.all.el i e (List.getElem?_eq_some_iff.1 hi).1 hi
  exact ⟨by have := hg.k; omega, by have := hg.k; omega, by have := hg.c; omega⟩
theorem kinds_sp (es : List El) (h : ∀ e ∈ es, KindOk e) : ∀ e ∈ (sp es).b, KindOk e :=
  (sp_kinds es KindOk h (fun e he => by unfold bare; split; (exact ⟨he.lo, he.hi, he.c⟩); (exact he)) (fun _ _ => ⟨by simp, by simp, by simp⟩)).2
theorem appF_grows (es : List El) (e : El) : es.length < (appF es e).length := by unfold appF; split <;> simp
end Go.Proofs.Ytfdkgaipakannaa.split
