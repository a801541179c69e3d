/- FnStack: what the steps do, in plain words; rows of numbers and of frames that a call owns. -/
import Derived.Test.YtincgkolpicipaaStk3
namespace Go.Proofs.Ytincgkolpicipaa.stack
open Go.RowKit
def trimAt (l : List Fr) (i : Int) : Bool := match l[i.toNat]? with | some f => f.trim | none => false
def stepS (st : List Fr) (i : Nat) (x : Sx) : List Fr :=
  if x.k = 1 then st ++ [⟨i, x.names, true, x.trim⟩]
  else if x.k = 2 then st ++ [⟨i, x.names, false, false⟩]
  else if x.k = 3 then (if (st.length : Int) = x.num then st.dropLast else st)
  else if x.k = 4 then (if 0 ≤ topTo st st.length ∧ trimAt st (topTo st st.length) = true then st.take (topTo st st.length).toNat else st)
  else st
def ansS (st : List Fr) (x : Sx) : Int := if x.k = 5 then lookTo st x.name st.length else -1
structure Rn where
  st : List Fr
  f : List Int
  n : List Int
  c : List Int
def rnStep (r : Rn) (i : Nat) (x : Sx) : Rn := ⟨stepS r.st i x, r.f ++ [ansS r.st x], r.n ++ [((stepS r.st i x).length : Int)], r.c ++ [callsTo (stepS r.st i x) (stepS r.st i x).length]⟩
def rn (es : List Sx) : Nat → Rn
  | 0 => ⟨[], [], [], []⟩
  | k + 1 => match es[k]? with
    | some x => rnStep (rn es k) k x
    | none => rn es k
theorem rn_succ {es : List Sx} {k : Nat} {x : Sx} (h : es[k]? = some x) : rn es (k + 1) = rnStep (rn es k) k x := by rw [rn, h]
theorem stepS_len (st : List Fr) (i : Nat) (x : Sx) : (stepS st i x).length ≤ st.length + 1 := by
  unfold stepS
  split
  · simp
  · split
    · simp
    · split
      · split
        · simp; omega
        · omega
      · split
        · split
          · simp; omega
          · omega
        · omega
theorem rn_len (es : List Sx) : ∀ k, k ≤ es.length → (rn es k).st.length ≤ k ∧ (rn es k).f.length = k ∧ (rn es k).n.length = k ∧ (rn es k).c.length = k
  | 0, _ => ⟨Nat.le_refl _, rfl, rfl, rfl⟩
  | k + 1, h => by
    obtain ⟨h1, h2, h3, h4⟩ := rn_len es k (by omega)
    have hx : es[k]? = some es[k] := List.getElem?_eq_getElem (by omega)
    rw [rn_succ hx]
    have := stepS_len (rn es k).st k es[k]
    exact ⟨by unfold rnStep; simp; omega, by unfold rnStep; simp [h2], by unfold rnStep; simp [h3], by unfold rnStep; simp [h4]⟩
/-- Two rows lie in two blocks. -/
def Dj (u v : Value) : Prop := ∀ g, u.ownBlock = some g → v.ownBlock ≠ some g
theorem Dj.symm {u v : Value} (h : Dj u v) : Dj v u := fun g hg hu => h g hu hg
theorem Dj.none_left {v : Value} : Dj (.slice none 0 0) v := fun g h => by cases h
theorem Dj.grow {W : World} {B e size n m : Nat} {u v : Value} {xs : List Value} {g cap : Nat} (h : Dj u v) (hu : W.ownsRow B e size u n xs) (hat : v.ownBlock = some g ∨ g = W.heap.size) : Dj u (.slice (some ⟨g, 0, none⟩) m cap) := fun g' hg' h2 => by
  have : g = g' := by simpa [Value.ownBlock] using h2
  subst this
  rcases hat with h3 | h3
  · exact h g hg' h3
  · have := (hu.lt g hg').2; omega
theorem Dj.types {W : World} {B B' e e' size size' n n' : Nat} {u v : Value} {xs ys : List Value} (hu : W.ownsRow B e size u n xs) (hv : W.ownsRow B' e' size' v n' ys) (hne : e ≠ e') : Dj u v := fun g h1 h2 => by
  rcases hu.2 with ⟨rfl, _⟩ | ⟨a, cap, cur, rfl, _, ha, _⟩
  · cases h1
  rcases hv.2 with ⟨rfl, _⟩ | ⟨b, cap', cur', rfl, _, hb, _⟩
  · cases h2
  have e1 : a = g := by simpa [Value.ownBlock] using h1
  have e2 : b = g := by simpa [Value.ownBlock] using h2
  subst e1; subst e2
  rw [ha] at hb
  injection hb with hb
  injection hb with _ ht
  exact hne ht
theorem own_type {W : World} {B e size n : Nat} {u : Value} {xs : List Value} (hu : W.ownsRow B e size u n xs) {g : Nat} (hg : u.ownBlock = some g) : ∃ cur, W.heap[g]? = some (.cells cur e (0, 0)) := by
  rcases hu.2 with ⟨rfl, _⟩ | ⟨a, cap, cur, rfl, _, ha, _⟩
  · cases hg
  · have e1 : a = g := by simpa [Value.ownBlock] using hg
    subst e1
    exact ⟨cur, ha⟩
/-- A row of numbers that the call owns. -/
def IntsO (W : World) (B : Nat) (v : Value) (xs : List Int) : Prop := W.ownsRow B 3 1 v xs.length (xs.map (Value.int .i64))
theorem IntsO.none_ {W : World} {B : Nat} : IntsO W B (.slice none 0 0) [] := World.ownsRow_nil _ _ _ _
theorem IntsO.reads {W : World} {B : Nat} {v : Value} {xs : List Int} (h : IntsO W B v xs) : Ints W v xs := by
  obtain ⟨A, cap, rfl, _, hm, hg⟩ := owns_form h
  refine ⟨A, cap, rfl, by rw [← maxLen_eq]; exact hm, fun i z hz => ?_⟩
  have hi : i < xs.length := (List.getElem?_eq_some_iff.1 hz).1
  obtain ⟨g, rfl⟩ := hg (by omega)
  refine ⟨g, 0, rfl, ?_⟩
  rw [Nat.zero_add, World.ownsRow.cellAt h i (by omega), List.getElem?_map, hz]; rfl
/-- Three rows of numbers. -/
structure R3 (B : Nat) (w : World) (v2 v3 v4 : Value) (xs ys zs : List Int) (W : World) : Prop where
  o2 : IntsO W B v2 xs
  o3 : IntsO W B v3 ys
  o4 : IntsO W B v4 zs
  d23 : Dj v2 v3
  d24 : Dj v2 v4
  d34 : Dj v3 v4
  bel : Below B w W
section
variable {B : Nat} {w W W' : World} {v2 v3 v4 : Value} {xs ys zs : List Int}
theorem R3.chg {X : Nat → Prop} (h : R3 B w v2 v3 v4 xs ys zs W) (hx : Chg X W W') (hB : B ≤ W.heap.size) (hX : ∀ k, X k → B ≤ k) (h2 : ∀ k, v2.ownBlock = some k → ¬ X k) (h3 : ∀ k, v3.ownBlock = some k → ¬ X k) (h4 : ∀ k, v4.ownBlock = some k → ¬ X k) : R3 B w v2 v3 v4 xs ys zs W' :=
  ⟨owns_chg h.o2 hx h2, owns_chg h.o3 hx h3, owns_chg h.o4 hx h4, h.d23, h.d24, h.d34, h.bel.trans (hx.toBelow hB hX)⟩
theorem R3.later (h : R3 B w v2 v3 v4 xs ys zs W) (hB : B ≤ W.heap.size) (hb : Below W.heap.size W W') : R3 B w v2 v3 v4 xs ys zs W' :=
  h.chg (X := fun _ => False) (Chg.below hb) hB (fun _ h => h.elim) (fun _ _ h => h) (fun _ _ h => h) (fun _ _ h => h)
theorem R3.app2 (h : R3 B w v2 v3 v4 xs ys zs W) (hB : B ≤ W.heap.size) {g cap : Nat} {z : Int} (ho : W'.ownsRow B 3 1 (.slice (some ⟨g, 0, none⟩) (xs.length + 1) cap) (xs.length + 1) (xs.map (Value.int .i64) ++ [.int .i64 z])) (hg : W.grownBy W' v2.ownBlock) (hat : v2.ownBlock = some g ∨ g = W.heap.size) :
    R3 B w (.slice (some ⟨g, 0, none⟩) (xs.length + 1) cap) v3 v4 (xs ++ [z]) ys zs W' := by
  have hx : Chg (fun k => v2.ownBlock = some k) W W' := (Chg.refl _ _).grown hg fun k hk _ => hk
  exact ⟨by unfold IntsO; simpa using ho, owns_chg h.o3 hx (fun k hk hX => h.d23 k hX hk), owns_chg h.o4 hx (fun k hk hX => h.d24 k hX hk), (h.d23.symm.grow h.o3 hat).symm, (h.d24.symm.grow h.o4 hat).symm, h.d34, h.bel.trans (hx.toBelow hB fun k hk => (World.ownsRow.lt h.o2 k hk).1)⟩
theorem R3.app3 (h : R3 B w v2 v3 v4 xs ys zs W) (hB : B ≤ W.heap.size) {g cap : Nat} {z : Int} (ho : W'.ownsRow B 3 1 (.slice (some ⟨g, 0, none⟩) (ys.length + 1) cap) (ys.length + 1) (ys.map (Value.int .i64) ++ [.int .i64 z])) (hg : W.grownBy W' v3.ownBlock) (hat : v3.ownBlock = some g ∨ g = W.heap.size) :
    R3 B w v2 (.slice (some ⟨g, 0, none⟩) (ys.length + 1) cap) v4 xs (ys ++ [z]) zs W' := by
  have hx : Chg (fun k => v3.ownBlock = some k) W W' := (Chg.refl _ _).grown hg fun k hk _ => hk
  exact ⟨owns_chg h.o2 hx (fun k hk hX => h.d23 k hk hX), by unfold IntsO; simpa using ho, owns_chg h.o4 hx (fun k hk hX => h.d34 k hX hk), h.d23.grow h.o2 hat, h.d24, (h.d34.symm.grow h.o4 hat).symm, h.bel.trans (hx.toBelow hB fun k hk => (World.ownsRow.lt h.o3 k hk).1)⟩
theorem R3.app4 (h : R3 B w v2 v3 v4 xs ys zs W) (hB : B ≤ W.heap.size) {g cap : Nat} {z : Int} (ho : W'.ownsRow B 3 1 (.slice (some ⟨g, 0, none⟩) (zs.length + 1) cap) (zs.length + 1) (zs.map (Value.int .i64) ++ [.int .i64 z])) (hg : W.grownBy W' v4.ownBlock) (hat : v4.ownBlock = some g ∨ g = W.heap.size) :
    R3 B w v2 v3 (.slice (some ⟨g, 0, none⟩) (zs.length + 1) cap) xs ys (zs ++ [z]) W' := by
  have hx : Chg (fun k => v4.ownBlock = some k) W W' := (Chg.refl _ _).grown hg fun k hk _ => hk
  exact ⟨owns_chg h.o2 hx (fun k hk hX => h.d24 k hk hX), owns_chg h.o3 hx (fun k hk hX => h.d34 k hk hX), by unfold IntsO; simpa using ho, h.d23, h.d24.grow h.o2 hat, h.d34.grow h.o3 hat, h.bel.trans (hx.toBelow hB fun k hk => (World.ownsRow.lt h.o4 k hk).1)⟩
end
/-- A row cut short. -/
theorem owns_take {W : World} {B e size n m cap : Nat} {A : Option Addr} {xs : List Value} (h : W.ownsRow B e size (.slice A n cap) n xs) (hm : m ≤ n) : W.ownsRow B e size (.slice A m cap) m (xs.take (m * size)) := by
  have hl : m * size ≤ n * size := Nat.mul_le_mul_right _ hm
  refine ⟨by rw [List.length_take, h.1]; omega, ?_⟩
  rcases h.2 with ⟨hv, hn⟩ | ⟨g, c, cur, hv, hB, hh, h1, h2, h3, h4⟩
  · cases hv
    have : m = 0 := by omega
    subst this
    exact .inl ⟨rfl, rfl⟩
  · cases hv
    refine .inr ⟨g, cap, cur, rfl, hB, hh, Nat.le_trans hm h1, h2, h3, ?_⟩
    rw [← h4, List.take_take]
    congr 1
    omega
/-- The cells of frames. -/
def rowF (ps : List (Value × Fr)) : List Value := ps.flatMap fun p => [.int .i64 p.2.step, p.1, .bool p.2.call, .bool p.2.trim]
theorem rowF_snoc (ps : List (Value × Fr)) (p : Value × Fr) : rowF (ps ++ [p]) = rowF ps ++ [.int .i64 p.2.step, p.1, .bool p.2.call, .bool p.2.trim] := by simp [rowF]
theorem rowF_len (ps : List (Value × Fr)) : (rowF ps).length = ps.length * 4 := by
  induction ps with
  | nil => rfl
  | cons x r ih => simp only [rowF, List.flatMap_cons, List.length_append, List.length_cons, List.length_nil] at ih ⊢; omega
theorem rowF_take : ∀ (ps : List (Value × Fr)) (m : Nat), (rowF ps).take (m * 4) = rowF (ps.take m)
  | [], m => by simp [rowF]
  | x :: r, 0 => by simp [rowF]
  | x :: r, m + 1 => by
    have e : (m + 1) * 4 = m * 4 + 4 := by omega
    rw [e]
    have h := rowF_take r m
    show (.int .i64 x.2.step :: x.1 :: .bool x.2.call :: .bool x.2.trim :: (rowF r).take (m * 4)) = _
    rw [h]
    rfl
theorem rowF_at : ∀ (ps : List (Value × Fr)) (i : Nat) (p : Value × Fr), ps[i]? = some p →
    (rowF ps)[i * 4]? = some (.int .i64 p.2.step) ∧ (rowF ps)[i * 4 + 1]? = some p.1 ∧ (rowF ps)[i * 4 + 2]? = some (.bool p.2.call) ∧ (rowF ps)[i * 4 + 3]? = some (.bool p.2.trim)
  | [], i, p, h => by simp at h
  | x :: r, 0, p, h => by
    simp at h; subst h
    exact ⟨rfl, rfl, rfl, rfl⟩
  | x :: r, i + 1, p, h => by
    have ih := rowF_at r i p (by simpa using h)
    have e : ∀ j, (rowF (x :: r))[(i + 1) * 4 + j]? = (rowF r)[i * 4 + j]? := fun j => by
      have : (i + 1) * 4 + j = i * 4 + j + 4 := by omega
      rw [this]; rfl
    exact ⟨(e 0).trans ih.1, (e 1).trans ih.2.1, (e 2).trans ih.2.2.1, (e 3).trans ih.2.2.2⟩
/-- A row of frames that the call owns; their names lie in the world w0. -/
def FrO (w0 W : World) (B : Nat) (v : Value) (ps : List (Value × Fr)) : Prop := W.ownsRow B 55 4 v ps.length (rowF ps) ∧ ∀ p ∈ ps, Strs w0 p.1 p.2.names
theorem FrO.none_ {w0 W : World} {B : Nat} : FrO w0 W B (.slice none 0 0) [] := ⟨World.ownsRow_nil _ _ _ _, fun p hp => by cases hp⟩
theorem FrO.reads {w0 W : World} {B : Nat} {v : Value} {ps : List (Value × Fr)} (h : FrO w0 W B v ps) (hb : Below w0.heap.size w0 W) (hl : ps.length ≤ 1000000) : Frs W v (ps.map (·.2)) := by
  obtain ⟨A, cap, rfl, _, hm, hg⟩ := owns_form h.1
  refine ⟨A, cap, by simp, by simpa using hl, fun i e he => ?_⟩
  rw [List.getElem?_map] at he
  obtain ⟨p, hp, rfl⟩ := Option.map_eq_some_iff.1 he
  have hi : i < ps.length := (List.getElem?_eq_some_iff.1 hp).1
  obtain ⟨g, rfl⟩ := hg (by omega)
  obtain ⟨r0, r1, r2, r3⟩ := rowF_at ps i p hp
  refine ⟨g, 0, p.1, rfl, ?_, ?_, ?_, ?_, (h.2 p (List.mem_of_getElem? hp)).later hb⟩
  · rw [Nat.zero_add, h.1.cellAt _ (by omega)]; exact r0
  · rw [Nat.zero_add, h.1.cellAt _ (by omega)]; exact r1
  · rw [Nat.zero_add, h.1.cellAt _ (by omega)]; exact r2
  · rw [Nat.zero_add, h.1.cellAt _ (by omega)]; exact r3
theorem FrO.take {w0 W : World} {B n cap : Nat} {A : Option Addr} {ps : List (Value × Fr)} (h : FrO w0 W B (.slice A n cap) ps) (hn : ps.length = n) {m : Nat} (hm : m ≤ n) : FrO w0 W B (.slice A m cap) (ps.take m) := by
  have h1 := h.1
  rw [hn] at h1
  have h2 := owns_take h1 hm
  rw [rowF_take] at h2
  refine ⟨by rw [List.length_take, hn, Nat.min_eq_left hm]; exact h2, fun p hp => h.2 p (List.mem_of_mem_take hp)⟩
theorem FrO.chg {X : Nat → Prop} {w0 W W' : World} {B : Nat} {v : Value} {ps : List (Value × Fr)} (h : FrO w0 W B v ps) (hx : Chg X W W') (hv : ∀ k, v.ownBlock = some k → ¬ X k) : FrO w0 W' B v ps := ⟨owns_chg h.1 hx hv, h.2⟩
end Go.Proofs.Ytincgkolpicipaa.stack
