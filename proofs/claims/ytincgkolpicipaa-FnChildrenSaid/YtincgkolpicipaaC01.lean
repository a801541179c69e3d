/- FnChildren: trees as lists of nodes, kids, what stands within; plain; what a right tree's nodes are, by their kinds; plain; memory, strings, and what a step leaves as it was; nodes in memory; spec.sized by contract; the builder's state, and how it goes on; no walk; nodes that are built one after the other; no walk; spec.Kids by contract; lists of places; spec.expr, exprs, kinds by contract; spec.kinds by contract; spec.specs, args, shapedComp by contract; spec.shapedComp by contract; spec.shapedGreat by contract: functions, locals, binds, braces; spec.shapedGreat by contract: objects, comprehensions, calls, braces; spec.shapedGreat by contract: slices. -/
import Derived.Test.YtincgkolpicipaaRows
import Derived.WalkKit
import Derived.WalkLawsBesides
import Derived.WalkSpells
import Derived.Lib.Hide
import Derived.Below
import Derived.LoopTactic
import Derived.BigQuiet
import Derived.Lib.QuietBelow
import Derived.Maps.AppendAt
import Derived.Deep.AppendLies
import Derived.Laws.OwnMore
import Derived.OneCell
set_option linter.unusedVariables false
set_option linter.unusedSimpArgs false
namespace Go.Proofs.Ytincgkolpicipaa.kin
/-- A node: kind, operator, text, flag, size. -/
structure Nd where
  k : Int
  o : Int
  t : ByteArray
  m : Int
  z : Int
/-- How many nodes the node at a place has with all beneath it. -/
def sz (ns : List Nd) (i : Nat) : Nat := ((ns[i]?).map (fun n => n.z.toNat)).getD 1
theorem sz_of {ns : List Nd} {i : Nat} {n : Nd} (h : ns[i]? = some n) : sz ns i = n.z.toNat := by simp [sz, h]
/-- The kids from a place on up to another one. -/
inductive Ks (ns : List Nd) : Nat → Nat → List Nat → Prop
  | nil (e : Nat) : Ks ns e e []
  | cons {k e : Nat} {n : Nd} {ks : List Nat} (hn : ns[k]? = some n) (hz : 1 ≤ n.z) (hl : k + n.z.toNat ≤ e) (h : Ks ns (k + n.z.toNat) e ks) : Ks ns k e (k :: ks)
theorem Ks.le {ns : List Nd} {k e : Nat} {ks : List Nat} (h : Ks ns k e ks) : k ≤ e := by
  induction h with
  | nil => exact Nat.le_refl _
  | cons hn hz hl h ih => omega
/-- Each kid stands in the range, and so does all beneath it. -/
theorem Ks.mem {ns : List Nd} {k e : Nat} {ks : List Nat} (h : Ks ns k e ks) : ∀ j ∈ ks, k ≤ j ∧ j < e ∧ 1 ≤ sz ns j ∧ j + sz ns j ≤ e := by
  induction h with
  | nil => simp
  | @cons k e n ks hn hz hl h ih =>
    intro j hj
    rcases List.mem_cons.1 hj with rfl | hj
    · rw [sz_of hn]; have := h.le; omega
    · have := ih j hj; omega
/-- Kids stand one behind the other. -/
theorem Ks.sorted {ns : List Nd} {k e : Nat} {ks : List Nat} (h : Ks ns k e ks) : ks.Pairwise (fun a b => a + sz ns a ≤ b) := by
  induction h with
  | nil => exact List.Pairwise.nil
  | @cons k e n ks hn hz hl h ih =>
    refine List.Pairwise.cons (fun j hj => ?_) ih
    have := h.mem j hj
    rw [sz_of hn]; omega
theorem Ks.length_le {ns : List Nd} {k e : Nat} {ks : List Nat} (h : Ks ns k e ks) : k + ks.length ≤ e := by
  induction h with
  | nil => simp
  | cons hn hz hl h ih => simp; omega
/-- What lies in the range is a kid or beneath one. -/
theorem Ks.cover {ns : List Nd} {k e : Nat} {ks : List Nat} (h : Ks ns k e ks) : ∀ i, k ≤ i → i < e → ∃ j ∈ ks, j ≤ i ∧ i < j + sz ns j := by
  induction h with
  | nil => intro i h1 h2; omega
  | @cons k e n ks hn hz hl h ih =>
    intro i h1 h2
    by_cases hi : i < k + n.z.toNat
    · exact ⟨k, by simp, h1, by rw [sz_of hn]; exact hi⟩
    · obtain ⟨j, hj, a, b⟩ := ih i (by omega) h2
      exact ⟨j, by simp [hj], a, b⟩
theorem Ks.det {ns : List Nd} {k e : Nat} {ks ls : List Nat} (h : Ks ns k e ks) (h' : Ks ns k e ls) : ks = ls := by
  induction h generalizing ls with
  | nil =>
    cases h' with
    | nil => rfl
    | cons hn hz hl h => have := h.le; omega
  | @cons k e n ks hn hz hl h ih =>
    cases h' with
    | nil => have := h.le; omega
    | cons hn' hz' hl' h' =>
      rw [hn] at hn'; cases hn'
      rw [ih h']
def kf (ns : List Nd) : Nat → Nat → Nat → List Nat
  | 0, _, _ => []
  | f + 1, k, e => if k < e then k :: kf ns f (k + sz ns k) e else []
/-- The places of a node's kids. -/
def kids (ns : List Nd) (i : Nat) : List Nat := kf ns ns.length (i + 1) (i + sz ns i)
theorem Ks.kf {ns : List Nd} {k e : Nat} {ks : List Nat} (h : Ks ns k e ks) : ∀ f, e - k ≤ f → kin.kf ns f k e = ks := by
  induction h with
  | nil => intro f _; cases f <;> simp [kin.kf]
  | @cons k e n ks hn hz hl h ih =>
    intro f hf
    have := h.le
    cases f with
    | zero => omega
    | succ f =>
      rw [kin.kf, if_pos (by omega), sz_of hn, ih f (by omega)]
/-- A node fits: it ends ahead of the end, and its kids fill it. -/
structure Fits (ns : List Nd) (i : Nat) (n : Nd) : Prop where
  one : 1 ≤ n.z
  le : i + n.z.toNat ≤ ns.length
  kids : Ks ns (i + 1) (i + n.z.toNat) (kids ns i)
theorem Fits.of {ns : List Nd} {i : Nat} {n : Nd} {ks : List Nat} (hn : ns[i]? = some n) (h1 : 1 ≤ n.z) (h2 : i + n.z.toNat ≤ ns.length) (h : Ks ns (i + 1) (i + n.z.toNat) ks) : Fits ns i n := by
  refine ⟨h1, h2, ?_⟩
  have : kin.kids ns i = ks := by unfold kin.kids; rw [sz_of hn]; exact h.kf _ (by omega)
  rw [this]; exact h
/-- All nodes fit. -/
def Fit (ns : List Nd) : Prop := ∀ i n, ns[i]? = some n → Fits ns i n
/-- The node is of an expression. -/
def Ex (ns : List Nd) (i : Nat) : Prop := ∃ n, ns[i]? = some n ∧ 1 ≤ n.k ∧ n.k ≤ 30
def ex (ns : List Nd) (i : Nat) : Bool := match ns[i]? with | some n => decide (1 ≤ n.k) && decide (n.k ≤ 30) | none => false
theorem ex_iff {ns : List Nd} {i : Nat} : ex ns i = true ↔ Ex ns i := by
  unfold ex Ex
  cases h : ns[i]? <;> simp
/-- The expressions next beneath a node. -/
def innerF (ns : List Nd) : Nat → Nat → List Nat
  | 0, _ => []
  | f + 1, i => (kids ns i).flatMap fun k => if ex ns k then [k] else innerF ns f k
def inner (ns : List Nd) (i : Nat) : List Nat := innerF ns (sz ns i) i
theorem Fit.kid {ns : List Nd} (h : Fit ns) {i j : Nat} {n : Nd} (hn : ns[i]? = some n) (hj : j ∈ kids ns i) : i < j ∧ j + sz ns j ≤ i + sz ns i ∧ 1 ≤ sz ns j ∧ sz ns j < sz ns i ∧ j < ns.length := by
  have hf := h i n hn
  have := hf.kids.mem j hj
  have := hf.le
  rw [sz_of hn]
  omega
theorem getElem?_lt {α : Type} {l : List α} {i : Nat} (h : i < l.length) : ∃ a, l[i]? = some a := ⟨_, List.getElem?_eq_getElem h⟩
theorem innerF_eq {ns : List Nd} (h : Fit ns) : ∀ (f i : Nat) (n : Nd), ns[i]? = some n → sz ns i ≤ f → innerF ns f i = inner ns i := by
  intro f
  induction f using Nat.strongRecOn with
  | _ f ih =>
    intro i n hn hf
    have hs : 1 ≤ sz ns i := by rw [sz_of hn]; have := (h i n hn).one; omega
    obtain ⟨s, hs'⟩ : ∃ s, sz ns i = s + 1 := ⟨sz ns i - 1, by omega⟩
    cases f with
    | zero => omega
    | succ f =>
      unfold inner
      rw [hs', innerF, innerF]
      have hkk : ∀ k ∈ kids ns i, innerF ns f k = innerF ns s k := by
        intro k hk
        have hkd := h.kid hn hk
        obtain ⟨m, hm⟩ := getElem?_lt hkd.2.2.2.2
        rw [ih f (by omega) k m hm (by omega)]
        by_cases hsf : s < f + 1
        · exact (ih s hsf k m hm (by omega)).symm
        · have : s = f := by omega
          subst this
          exact (ih s (by omega) k m hm (by omega)).symm
      simp only [List.flatMap]
      congr 1
      apply List.map_congr_left
      intro k hk
      rw [hkk k hk]
/-- Inner, one step. -/
theorem inner_step {ns : List Nd} (h : Fit ns) {i : Nat} {n : Nd} (hn : ns[i]? = some n) : inner ns i = (kids ns i).flatMap fun k => if ex ns k then [k] else inner ns k := by
  rw [← innerF_eq h (sz ns i + 1) i n hn (by omega), innerF]
  simp only [List.flatMap]
  congr 1
  apply List.map_congr_left
  intro k hk
  have hkd := h.kid hn hk
  obtain ⟨m, hm⟩ := getElem?_lt hkd.2.2.2.2
  rw [innerF_eq h _ k m hm (by omega)]
theorem inner_mem {ns : List Nd} (h : Fit ns) : ∀ (f i : Nat) (n : Nd), ns[i]? = some n → sz ns i ≤ f → ∀ j ∈ inner ns i, i < j ∧ j + sz ns j ≤ i + sz ns i ∧ 1 ≤ sz ns j ∧ Ex ns j := by
  intro f
  induction f with
  | zero => intro i n hn hf; rw [sz_of hn] at hf; have := (h i n hn).one; omega
  | succ f ih =>
    intro i n hn hf j hj
    rw [inner_step h hn, List.mem_flatMap] at hj
    obtain ⟨k, hk, hj⟩ := hj
    have hkd := h.kid hn hk
    obtain ⟨m, hm⟩ := getElem?_lt hkd.2.2.2.2
    by_cases he : ex ns k = true
    · rw [if_pos he] at hj
      rw [List.mem_singleton] at hj
      subst hj
      exact ⟨hkd.1, hkd.2.1, hkd.2.2.1, ex_iff.1 he⟩
    · rw [if_neg he] at hj
      have := ih k m hm (by omega) j hj
      exact ⟨by omega, by omega, this.2.2.1, this.2.2.2⟩
theorem inner_sorted {ns : List Nd} (h : Fit ns) : ∀ (f i : Nat) (n : Nd), ns[i]? = some n → sz ns i ≤ f → (inner ns i).Pairwise (· < ·) := by
  intro f
  induction f with
  | zero => intro i n hn hf; rw [sz_of hn] at hf; have := (h i n hn).one; omega
  | succ f ih =>
    intro i n hn hf
    rw [inner_step h hn]
    have hall : ∀ k ∈ kids ns i, ((if ex ns k then [k] else inner ns k).Pairwise (· < ·)) ∧ ∀ j ∈ (if ex ns k then [k] else inner ns k), k ≤ j ∧ j < k + sz ns k := by
      intro k hk
      have hkd := h.kid hn hk
      obtain ⟨m, hm⟩ := getElem?_lt hkd.2.2.2.2
      by_cases he : ex ns k = true
      · rw [if_pos he]; refine ⟨by simp, fun j hj => ?_⟩
        rw [List.mem_singleton] at hj; omega
      · rw [if_neg he]
        refine ⟨ih k m hm (by omega), fun j hj => ?_⟩
        have := inner_mem h (sz ns k) k m hm (Nat.le_refl _) j hj
        omega
    have hs := (h i n hn).kids.sorted
    generalize kids ns i = ks at hall hs
    induction ks with
    | nil => simp
    | cons a ks ihk =>
      rw [List.flatMap_cons, List.pairwise_append]
      refine ⟨(hall a (by simp)).1, ihk (fun k hk => hall k (by simp [hk])) hs.of_cons, ?_⟩
      intro x hx y hy
      rw [List.mem_flatMap] at hy
      obtain ⟨b, hb, hy⟩ := hy
      have h1 := (hall a (by simp)).2 x hx
      have h2 := (hall b (by simp [hb])).2 y hy
      have h3 := (List.pairwise_cons.1 hs).1 b hb
      omega
theorem inner_nodup {ns : List Nd} (h : Fit ns) {i : Nat} {n : Nd} (hn : ns[i]? = some n) : (inner ns i).Nodup :=
  (inner_sorted h (sz ns i) i n hn (Nat.le_refl _)).imp (fun h => Nat.ne_of_lt h)
end Go.Proofs.Ytincgkolpicipaa.kin
namespace Go.Proofs.Ytincgkolpicipaa.kin
/-- All of some places are of expressions; of some kinds. -/
def Ek (ns : List Nd) (ks : List Nat) : Prop := ∀ k ∈ ks, Ex ns k
def Kd (ns : List Nd) (cs : List Int) (ks : List Nat) : Prop := ∀ k ∈ ks, ∃ n, ns[k]? = some n ∧ n.k ∈ cs
/-- What a node's flag and operator are. -/
structure Bar (n : Nd) : Prop where
  sup : n.k = 9 → n.m = 0 ∨ n.m = 1
  ast : n.k = 25 → n.m = 0 ∨ n.m = 1
  bind : n.k = 32 → n.m = 0 ∨ n.m = 1
  mast : n.k = 37 → n.m = 0 ∨ n.m = 1
  un : n.k = 22 → 1 ≤ n.o ∧ n.o ≤ 4
  bin : n.k = 23 → 1 ≤ n.o ∧ n.o ≤ 19
  field : n.k = 35 → (n.o = 0 ∨ n.o = 1 ∨ n.o = 2) ∧ (n.m = 0 ∨ n.m = 1 ∨ n.m = 2 ∨ n.m = 4 ∨ n.m = 5 ∨ n.m = 6 ∨ n.m = 8 ∨ n.m = 9 ∨ n.m = 10)
/-- Specifications, the first one a for. -/
def Spc (ns : List Nd) (ks : List Nat) : Prop := (∃ a r n, ks = a :: r ∧ ns[a]? = some n ∧ n.k = 38) ∧ Kd ns [38, 39] ks
/-- Arguments: those without names ahead of those with names. -/
def Named (ns : List Nd) (k : Nat) : Prop := ∃ n, ns[k]? = some n ∧ n.t ≠ ⟨#[]⟩
def Args (ns : List Nd) (ks : List Nat) : Prop := Kd ns [34] ks ∧ ks.Pairwise (fun a b => Named ns a → Named ns b)
/-- What a node's kids are. -/
inductive Shp (ns : List Nd) : Nd → List Nat → Prop
  | leaf {n : Nd} (h : n.k = 1 ∨ n.k = 2 ∨ n.k = 3 ∨ n.k = 4 ∨ n.k = 5 ∨ n.k = 6 ∨ n.k = 7 ∨ n.k = 8 ∨ n.k = 26 ∨ n.k = 27 ∨ n.k = 28 ∨ n.k = 31) : Shp ns n []
  | sup0 {n : Nd} {a : Nat} (h : n.k = 9) (hm : n.m = 0) (ha : Ex ns a) : Shp ns n [a]
  | sup1 {n : Nd} (h : n.k = 9) (hm : n.m = 1) : Shp ns n []
  | one {n : Nd} {a : Nat} (h : n.k = 10 ∨ n.k = 22 ∨ n.k = 24 ∨ n.k = 30 ∨ n.k = 16 ∨ n.k = 34 ∨ n.k = 38 ∨ n.k = 39) (ha : Ex ns a) : Shp ns n [a]
  | arr {n : Nd} {ks : List Nat} (h : n.k = 11) (ha : Ek ns ks) : Shp ns n ks
  | two {n : Nd} {a b : Nat} (h : n.k = 15 ∨ n.k = 23) (ha : Ex ns a) (hb : Ex ns b) : Shp ns n [a, b]
  | cond2 {n : Nd} {a b : Nat} (h : n.k = 21) (ha : Ex ns a) (hb : Ex ns b) : Shp ns n [a, b]
  | cond3 {n : Nd} {a b c : Nat} (h : n.k = 21) (ha : Ex ns a) (hb : Ex ns b) (hc : Ex ns c) : Shp ns n [a, b, c]
  | assert2 {n : Nd} {a b : Nat} (h : n.k = 25) (hm : n.m = 0) (ha : Ex ns a) (hb : Ex ns b) : Shp ns n [a, b]
  | assert3 {n : Nd} {a b c : Nat} (h : n.k = 25) (hm : n.m = 1) (ha : Ex ns a) (hb : Ex ns b) (hc : Ex ns c) : Shp ns n [a, b, c]
  | mast1 {n : Nd} {a : Nat} (h : n.k = 37) (hm : n.m = 0) (ha : Ex ns a) : Shp ns n [a]
  | mast2 {n : Nd} {a b : Nat} (h : n.k = 37) (hm : n.m = 1) (ha : Ex ns a) (hb : Ex ns b) : Shp ns n [a, b]
  | mlocal {n : Nd} {a : Nat} (h : n.k = 36) (ha : Kd ns [32] [a]) : Shp ns n [a]
  | param0 {n : Nd} (h : n.k = 33) : Shp ns n []
  | param1 {n : Nd} {a : Nat} (h : n.k = 33) (ha : Ex ns a) : Shp ns n [a]
  | slice {n : Nd} {a b c d : Nat} (h : n.k = 17) (ha : Ex ns a) (hb : Ex ns b ∨ Kd ns [31] [b]) (hc : Ex ns c ∨ Kd ns [31] [c]) (hd : Ex ns d ∨ Kd ns [31] [d]) : Shp ns n [a, b, c, d]
  | brace {n : Nd} {a b : Nat} (h : n.k = 29) (ha : Ex ns a) (hb : Kd ns [13] [b]) : Shp ns n [a, b]
  | acomp {n : Nd} {a : Nat} {ks : List Nat} (h : n.k = 12) (ha : Ex ns a) (hs : Spc ns ks) : Shp ns n (a :: ks)
  | obj {n : Nd} {ks : List Nat} (h : n.k = 13) (ha : Kd ns [35, 36, 37] ks) : Shp ns n ks
  | ocomp {n : Nd} {l f r ks : List Nat} {a : Nat} {x : Nd} (h : n.k = 14) (hl : Kd ns [36] l) (hx : ns[a]? = some x) (hk : x.k = 35) (hm : x.m = 2) (ho : x.o = 0) (hr : Kd ns [36] r) (hs : Spc ns ks) (hf : f = l ++ a :: r) : Shp ns n (f ++ ks)
  | func {n : Nd} {ps : List Nat} {b : Nat} (h : n.k = 19) (hp : Kd ns [33] ps) (hb : Ex ns b) : Shp ns n (ps ++ [b])
  | bind0 {n : Nd} {b : Nat} (h : n.k = 32) (hm : n.m = 0) (hb : Ex ns b) : Shp ns n [b]
  | bindf {n : Nd} {ps : List Nat} {b : Nat} (h : n.k = 32) (hm : n.m = 1) (hp : Kd ns [33] ps) (hb : Ex ns b) : Shp ns n (ps ++ [b])
  | loc {n : Nd} {bs : List Nat} {b : Nat} (h : n.k = 20) (hn : bs ≠ []) (hp : Kd ns [32] bs) (hb : Ex ns b) : Shp ns n (bs ++ [b])
  | apply {n : Nd} {a : Nat} {ks : List Nat} (h : n.k = 18) (ha : Ex ns a) (hs : Args ns ks) : Shp ns n (a :: ks)
  | field0 {n : Nd} {b : Nat} (h : n.k = 35) (hm : n.m = 0 ∨ n.m = 1 ∨ n.m = 4 ∨ n.m = 5) (hb : Ex ns b) : Shp ns n [b]
  | field1 {n : Nd} {a b : Nat} (h : n.k = 35) (hm : n.m = 2 ∨ n.m = 6) (ha : Ex ns a) (hb : Ex ns b) : Shp ns n [a, b]
  | field2 {n : Nd} {ps : List Nat} {b : Nat} (h : n.k = 35) (hm : n.m = 8 ∨ n.m = 9) (hp : Kd ns [33] ps) (hb : Ex ns b) : Shp ns n (ps ++ [b])
  | field3 {n : Nd} {a : Nat} {ps : List Nat} {b : Nat} (h : n.k = 35) (hm : n.m = 10) (ha : Ex ns a) (hp : Kd ns [33] ps) (hb : Ex ns b) : Shp ns n (a :: ps ++ [b])
/-- A right tree's nodes. -/
structure Good (ns : List Nd) : Prop where
  fit : Fit ns
  bar : ∀ (i : Nat) (n : Nd), ns[i]? = some n → Bar n
  shp : ∀ (i : Nat) (n : Nd), ns[i]? = some n → Shp ns n (kids ns i)
/-- Places of which neither stands beneath the other. -/
def Apart (ns : List Nd) (a b : Nat) : Prop := a + sz ns a ≤ b ∨ b + sz ns b ≤ a
theorem inner_apart {ns : List Nd} (h : Fit ns) : ∀ (f i : Nat) (n : Nd), ns[i]? = some n → sz ns i ≤ f → (inner ns i).Pairwise (fun a b => a + sz ns a ≤ b) := by
  intro f
  induction f with
  | zero => intro i n hn hf; rw [sz_of hn] at hf; have := (h i n hn).one; omega
  | succ f ih =>
    intro i n hn hf
    rw [inner_step h hn]
    have hall : ∀ k ∈ kids ns i, ((if ex ns k then [k] else inner ns k).Pairwise (fun a b => a + sz ns a ≤ b)) ∧ ∀ j ∈ (if ex ns k then [k] else inner ns k), k ≤ j ∧ j + sz ns j ≤ k + sz ns k := by
      intro k hk
      have hkd := h.kid hn hk
      obtain ⟨m, hm⟩ := getElem?_lt hkd.2.2.2.2
      by_cases he : ex ns k = true
      · rw [if_pos he]; refine ⟨by simp, fun j hj => ?_⟩
        rw [List.mem_singleton] at hj; subst hj; omega
      · rw [if_neg he]
        refine ⟨ih k m hm (by omega), fun j hj => ?_⟩
        have := inner_mem h (sz ns k) k m hm (Nat.le_refl _) j hj
        omega
    have hs := (h i n hn).kids.sorted
    generalize kids ns i = ks at hall hs
    induction ks with
    | nil => simp
    | cons a ks ihk =>
      rw [List.flatMap_cons, List.pairwise_append]
      refine ⟨(hall a (by simp)).1, ihk (fun k hk => hall k (by simp [hk])) hs.of_cons, ?_⟩
      intro x hx y hy
      rw [List.mem_flatMap] at hy
      obtain ⟨b, hb, hy⟩ := hy
      have h1 := (hall a (by simp)).2 x hx
      have h2 := (hall b (by simp [hb])).2 y hy
      have h3 := (List.pairwise_cons.1 hs).1 b hb
      omega
/-- Each expression beneath a node stands in one next beneath it. -/
theorem inner_cover {ns : List Nd} (h : Fit ns) : ∀ (f i : Nat) (n : Nd), ns[i]? = some n → sz ns i ≤ f → ∀ j, i < j → j < i + sz ns i → Ex ns j → ∃ k ∈ inner ns i, k ≤ j ∧ j < k + sz ns k := by
  intro f
  induction f with
  | zero => intro i n hn hf; rw [sz_of hn] at hf; have := (h i n hn).one; omega
  | succ f ih =>
    intro i n hn hf j h1 h2 hj
    rw [sz_of hn] at h2
    obtain ⟨k, hk, a, b⟩ := (h i n hn).kids.cover j h1 h2
    have hkd := h.kid hn hk
    obtain ⟨m, hm⟩ := getElem?_lt hkd.2.2.2.2
    rw [inner_step h hn]
    by_cases he : ex ns k = true
    · exact ⟨k, List.mem_flatMap.2 ⟨k, hk, by rw [if_pos he]; simp⟩, a, b⟩
    · have hne : k ≠ j := by rintro rfl; exact he (ex_iff.2 hj)
      obtain ⟨x, hx, hy⟩ := ih k m hm (by omega) j (by omega) b hj
      exact ⟨x, List.mem_flatMap.2 ⟨k, hk, by rw [if_neg he]; exact hx⟩, hy⟩
end Go.Proofs.Ytincgkolpicipaa.kin
namespace Go.Proofs.Ytincgkolpicipaa.stack
open Go.RowKit
theorem step_after {w W w' : World} (h : Below w.heap.size w W) (hb : Below W.heap.size W w') : Below w.heap.size w w' := h.trans (hb.mono h.size)
theorem add_off (q o j : Nat) : (⟨q, o, none⟩ : Addr).add j = ⟨q, o + j, none⟩ := by unfold Addr.add; split <;> simp_all
/-- A slice of strings. -/
def Strs (W : World) (v : Value) (ss : List ByteArray) : Prop :=
  ∃ (A : Option Addr) (cap : Nat), v = .slice A ss.length cap ∧ ss.length ≤ 9223372036854775807 ∧ ∀ j s, ss[j]? = some s → s.size ≤ 9223372036854775807 ∧ ∃ q o, A = some ⟨q, o, none⟩ ∧ W.cell? ⟨q, o + j, none⟩ = some (.string s)
theorem Strs.later {W W' : World} {v : Value} {ss : List ByteArray} (h : Strs W v ss) (hb : Below W.heap.size W W') : Strs W' v ss := by
  obtain ⟨A, cap, hv, hl, h⟩ := h
  exact ⟨A, cap, hv, hl, fun j s hj => by
    obtain ⟨hs, q, o, ha, hc⟩ := h j s hj
    exact ⟨hs, q, o, ha, cell_later hb hc⟩⟩
theorem Strs.form {W : World} {v : Value} {ss : List ByteArray} (h : Strs W v ss) : ∃ A cap, v = .slice A ss.length cap := by
  obtain ⟨A, cap, hv, _⟩ := h
  exact ⟨A, cap, hv⟩
/-- Some number, some truth value. -/
def AnyInt (e : Ending) : Prop := ∃ n : Int, e = .returned (.int .i64 n)
def AnyBool (e : Ending) : Prop := ∃ b : Bool, e = .returned (.bool b)
theorem fits5_any (v : Value) (ss : List ByteArray) (w : World) (h : Strs w v ss) : Calls Try.prog 38 #[v] w fun e w' => AnyBool e ∧ w = w' := by
  obtain ⟨A, cap, rfl, hl, hc⟩ := h
  have HC := Lib.hid hc
  clear hc
  by_cases hbig : ss.length ≤ 2147483647
  · have hnb : decide ((2147483647 : Int) < (ss.length : Int)) = false := decide_eq_false (by omega)
    generalize hn : ss.length = n at hl hbig hnb ⊢
    have HN := Lib.hid hn
    clear hn
    go_enter Try.func38, Try.ntmps38
    go_wp2
    go_loop [4, 10] (fun _ i => ∃ k : Nat, k ≤ n ∧ i = .int .i64 k) (fun _ i => n - (intOf i).toNat)
    case atStart => exact ⟨0, Nat.zero_le _, rfl⟩
    case round =>
      obtain ⟨k, hk, rfl⟩ := hrel
      by_cases hlt : k < n
      · obtain ⟨s, hs⟩ : ∃ s, ss[k]? = some s := ⟨_, List.getElem?_eq_getElem (by have := HN.out; omega)⟩
        obtain ⟨hz, q, o, rfl, hcell⟩ := HC.out k s hs
        have hki : (k : Int) < (n : Int) := by omega
        clear hs
        by_cases h2 : s.size ≤ 2147483647
        · have hnb2 : decide ((2147483647 : Int) < (s.size : Int)) = false := decide_eq_false (by omega)
          go_wp2
          go_round
          case rel => exact ⟨k + 1, by omega, by go_num⟩
          case measure => simp [intOf]; omega
        · have hnb2 : decide ((2147483647 : Int) < (s.size : Int)) = true := decide_eq_true (by omega)
          go_wp2
          go_ret
          exact ⟨⟨_, rfl⟩, rfl⟩
      · have hki : ¬ (k : Int) < (n : Int) := by omega
        go_wp2
        go_ret
        exact ⟨⟨_, rfl⟩, rfl⟩
  · have hnb : decide ((2147483647 : Int) < (ss.length : Int)) = true := decide_eq_true (by omega)
    go_enter Try.func38, Try.ntmps38
    go_wp2
    go_ret
    exact ⟨⟨_, rfl⟩, rfl⟩
/-- But for the blocks X the world w' is as w was, with more blocks. -/
structure Chg (X : Nat → Prop) (w w' : World) : Prop where
  os : w'.os = w.os
  tape : w'.tape = w.tape
  output : w'.output = w.output
  size : w.heap.size ≤ w'.heap.size
  block : ∀ k, k < w.heap.size → ¬ X k → w'.heap[k]? = w.heap[k]?
section
variable {X Y : Nat → Prop} {a w w' : World}
theorem Chg.refl (X : Nat → Prop) (w : World) : Chg X w w := ⟨rfl, rfl, rfl, Nat.le_refl _, fun _ _ _ => rfl⟩
theorem Chg.step (h : Chg X a w) (k : Chg Y w w') (hY : ∀ i, i < a.heap.size → Y i → X i) : Chg X a w' :=
  ⟨k.os.trans h.os, k.tape.trans h.tape, k.output.trans h.output, Nat.le_trans h.size k.size, fun i hi hn => (k.block i (Nat.lt_of_lt_of_le hi h.size) (fun hy => hn (hY i hi hy))).trans (h.block i hi hn)⟩
theorem Chg.trans (h : Chg X a w) (k : Chg X w w') : Chg X a w' := h.step k fun _ _ h => h
theorem Chg.weak (h : Chg X a w) (hX : ∀ i, i < a.heap.size → X i → Y i) : Chg Y a w :=
  ⟨h.os, h.tape, h.output, h.size, fun i hi hn => h.block i hi (fun hx => hn (hX i hi hx))⟩
theorem Chg.drew (h : Chg X a w) : Chg X a w.drew := ⟨h.os, h.tape, h.output, h.size, h.block⟩
theorem Chg.alloc (h : Chg X a w) (o : Obj) : Chg X a (w.alloc o) :=
  ⟨h.os, h.tape, h.output, Nat.le_trans h.size (by simp), fun i hi hn => (Below.heap_alloc w o i (Nat.lt_of_lt_of_le hi h.size)).trans (h.block i hi hn)⟩
theorem Chg.below (h : Below w.heap.size w w') : Chg X w w' := ⟨h.os, h.tape, h.output, h.size, fun i hi _ => h.block i hi⟩
theorem Chg.grown (h : Chg X a w) {row : Option Nat} (hg : w.grownBy w' row) (hr : ∀ k, row = some k → k < a.heap.size → X k) : Chg X a w' :=
  ⟨hg.os.trans h.os, hg.tape.trans h.tape, hg.output.trans h.output, Nat.le_trans h.size hg.size, fun i hi hn => (hg.block i (Nat.lt_of_lt_of_le hi h.size) (fun e => hn (hr i e.symm hi))).trans (h.block i hi hn)⟩
theorem Chg.setCell (h : Chg X a w) {p : Addr} (hp : p.block < a.heap.size → X p.block) (u : Value) : Chg X a (w.setCell p u) :=
  ⟨h.os, h.tape, h.output, by simpa using h.size, fun i hi hn => (Below.heap_setCell w p u i (by rintro rfl; exact hn (hp hi))).trans (h.block i hi hn)⟩
theorem Chg.toBelow (h : Chg X a w) {B : Nat} (hB : B ≤ a.heap.size) (hX : ∀ i, X i → B ≤ i) : Below B a w :=
  ⟨h.os, h.tape, h.output, h.size, fun i hi => h.block i (by omega) (fun hx => by have := hX i hx; omega)⟩
theorem Chg.cell (h : Chg X a w) {p : Addr} {v : Value} (hc : a.cell? p = some v) (hn : ¬ X p.block) : w.cell? p = some v := by
  rw [World.cell?_of_block (w := a) (h.block p.block (block_lt_of_cell hc) hn)]; exact hc
theorem Chg.keep (h : Chg X a w) {k : Nat} {o : Obj} (hc : a.heap[k]? = some o) (hn : ¬ X k) : w.heap[k]? = some o :=
  (h.block k (Array.getElem?_eq_some_iff.1 hc).1 hn).trans hc
end
theorem owns_chg {X : Nat → Prop} {W W' : World} {base e size n : Nat} {v : Value} {xs : List Value} (h : W.ownsRow base e size v n xs) (hx : Chg X W W') (hv : ∀ k, v.ownBlock = some k → ¬ X k) : W'.ownsRow base e size v n xs := by
  obtain ⟨h1, h2⟩ := h
  refine ⟨h1, ?_⟩
  rcases h2 with h2 | ⟨g, cap, cur, rfl, hg, hh, r⟩
  · exact .inl h2
  · exact .inr ⟨g, cap, cur, rfl, hg, hx.keep hh (hv g rfl), r⟩
theorem owns_form {W : World} {base e size n : Nat} {v : Value} {xs : List Value} (h : W.ownsRow base e size v n xs) : ∃ A cap, v = .slice A n cap ∧ n ≤ cap ∧ n ≤ maxLen ∧ (0 < n → ∃ g, A = some ⟨g, 0, none⟩) := by
  rcases h.2 with ⟨rfl, rfl⟩ | ⟨g, cap, cur, rfl, _, _, h1, h2, _⟩
  · exact ⟨none, 0, rfl, Nat.le_refl _, by simp [maxLen], fun h => by omega⟩
  · exact ⟨_, cap, rfl, h1, Nat.le_trans h1 h2, fun _ => ⟨g, rfl⟩⟩

theorem maxLen_eq : maxLen = 9223372036854775807 := by decide
/-- A step, and a frame. -/
structure Sx where
  k : Int
  num : Int
  names : List ByteArray
  name : ByteArray
  trim : Bool
structure Fr where
  step : Int
  names : List ByteArray
  call : Bool
  trim : Bool
/-- The step e at a place: kind, names, name, number, trimmable. -/
def SxAt (W : World) (q p : Nat) (e : Sx) : Prop :=
  W.cell? ⟨q, p, none⟩ = some (.int .i64 e.k) ∧ W.cell? ⟨q, p + 2, none⟩ = some (.string e.name) ∧ W.cell? ⟨q, p + 3, none⟩ = some (.int .i64 e.num) ∧ W.cell? ⟨q, p + 4, none⟩ = some (.bool e.trim) ∧ e.name.size ≤ 9223372036854775807 ∧ ∃ cv, W.cell? ⟨q, p + 1, none⟩ = some cv ∧ Strs W cv e.names
theorem SxAt.later {W W' : World} {q p : Nat} {e : Sx} (h : SxAt W q p e) (hb : Below W.heap.size W W') : SxAt W' q p e := by
  obtain ⟨h0, h1, h2, h3, h4, cv, h5, h6⟩ := h
  exact ⟨cell_later hb h0, cell_later hb h1, cell_later hb h2, cell_later hb h3, h4, cv, cell_later hb h5, h6.later hb⟩
/-- A slice of steps. -/
def Sxs (W : World) (v : Value) (es : List Sx) : Prop :=
  ∃ (A : Option Addr) (cap : Nat), v = .slice A es.length cap ∧ es.length ≤ 9223372036854775807 ∧ ∀ i e, es[i]? = some e → ∃ q o, A = some ⟨q, o, none⟩ ∧ SxAt W q (o + i * 5) e
theorem Sxs.later {W W' : World} {v : Value} {es : List Sx} (h : Sxs W v es) (hb : Below W.heap.size W W') : Sxs W' v es := by
  obtain ⟨A, cap, hv, hl, h⟩ := h
  exact ⟨A, cap, hv, hl, fun j s hj => by
    obtain ⟨q, o, ha, hc⟩ := h j s hj
    exact ⟨q, o, ha, hc.later hb⟩⟩
theorem fits14_any (k m : Int) (nm : ByteArray) (tr : Bool) (cv : Value) (ss : List ByteArray) (w : World) (h : Strs w cv ss) : Calls Try.prog 22 #[.agg #[.int .i64 k, cv, .string nm, .int .i64 m, .bool tr]] w fun e w' => AnyBool e ∧ Below w.heap.size w w' := by
  have HF := Lib.hid (fun w' (hb : Below w.heap.size w w') => fits5_any cv ss w' (h.later hb))
  obtain ⟨A, cap, rfl, _, _⟩ := h
  go_enter Try.func22, Try.ntmps22
  go_wp2_with (go_at_call 38; refine (HF.out _ ((Below.refl _ _).alloc (Nat.le_refl _) _)).mono ?_; rintro e w' ⟨⟨b, rfl⟩, rfl⟩; cases b)
  all_goals
    go_ret
    exact ⟨⟨_, rfl⟩, (Below.refl _ _).alloc (Nat.le_refl _) _⟩
set_option maxHeartbeats 1000000 in
theorem fits13_any (v : Value) (es : List Sx) (w : World) (h : Sxs w v es) : Calls Try.prog 6 #[v] w fun e w' => AnyBool e ∧ Below w.heap.size w w' := by
  obtain ⟨A, cap, rfl, hl, hc⟩ := h
  have HC := Lib.hid hc
  clear hc
  by_cases hbig : es.length ≤ 2147483647
  · have hnb : decide ((2147483647 : Int) < (es.length : Int)) = false := decide_eq_false (by omega)
    generalize hn : es.length = n at hl hbig hnb ⊢
    have HN := Lib.hid hn
    clear hn
    go_enter Try.func6, Try.ntmps6
    go_wp2
    go_loopw [4, 10] (fun _ i wr => ∃ k : Nat, k ≤ n ∧ i = .int .i64 k ∧ Below w.heap.size w wr) (fun _ i _ => n - (intOf i).toNat)
    case atStart => exact ⟨0, Nat.zero_le _, rfl, Below.refl _ _⟩
    case round =>
      obtain ⟨k, hk, rfl, hb⟩ := hrel
      by_cases hlt : k < n
      · obtain ⟨s, hs⟩ : ∃ s, es[k]? = some s := ⟨_, List.getElem?_eq_getElem (by have := HN.out; omega)⟩
        obtain ⟨q, o, rfl, hcell⟩ := HC.out k s hs
        obtain ⟨c0, c1, c2, c3, -, cv, c4, hst⟩ := hcell.later hb
        obtain ⟨A2, cap2, rfl⟩ := hst.form
        have HB := Lib.hid hb
        have hki : (k : Int) < (n : Int) := by omega
        have HF := Lib.hid (fun w' (hb : Below wr.heap.size wr w') => fits14_any s.k s.num s.name s.trim _ s.names w' (hst.later hb))
        clear hs hst hb hcell
        go_wp2_with (go_at_call 22; refine (HF.out _ ((Below.refl _ _).alloc (Nat.le_refl _) _)).mono ?_; rintro e w' ⟨⟨b, rfl⟩, hb⟩; have HB2 := Lib.hid hb; clear hb; cases b)
        · go_ret
          exact ⟨⟨_, rfl⟩, step_after (HB.out.alloc HB.out.size _) HB2.out⟩
        · go_roundw
          case rel => exact ⟨k + 1, by omega, by go_num, step_after (HB.out.alloc HB.out.size _) HB2.out⟩
          case measure => simp [intOf]; omega
      · have hki : ¬ (k : Int) < (n : Int) := by omega
        have HB := Lib.hid hb
        clear hb
        go_wp2
        go_ret
        exact ⟨⟨_, rfl⟩, HB.out⟩
  · have hnb : decide ((2147483647 : Int) < (es.length : Int)) = true := decide_eq_true (by omega)
    go_enter Try.func6, Try.ntmps6
    go_wp2
    go_ret
    exact ⟨⟨_, rfl⟩, Below.refl _ _⟩
end Go.Proofs.Ytincgkolpicipaa.stack
namespace Go.Proofs.Ytincgkolpicipaa.kin
open Go.RowKit
open Go.Proofs.Ytincgkolpicipaa.stack (step_after AnyBool AnyInt add_off)
/-- The row of nodes from an offset on. -/
def Row (w : World) (q o : Nat) (ns : List Nd) : Prop := ∀ i n, ns[i]? = some n →
  w.cell? ⟨q, o + i * 5, none⟩ = some (.int .i64 n.k) ∧ w.cell? ⟨q, o + i * 5 + 1, none⟩ = some (.int .i64 n.o) ∧ w.cell? ⟨q, o + i * 5 + 2, none⟩ = some (.string n.t) ∧ w.cell? ⟨q, o + i * 5 + 3, none⟩ = some (.int .i64 n.m) ∧ w.cell? ⟨q, o + i * 5 + 4, none⟩ = some (.int .i64 n.z) ∧ n.t.size ≤ 9223372036854775807
theorem Row.later {w w' : World} {q o : Nat} {ns : List Nd} (h : Row w q o ns) (hb : Below w.heap.size w w') : Row w' q o ns := fun i n hn => by
  obtain ⟨a, b, c, d, e, f⟩ := h i n hn
  exact ⟨cell_later hb a, cell_later hb b, cell_later hb c, cell_later hb d, cell_later hb e, f⟩
theorem Ks.snoc {ns : List Nd} {a k : Nat} {ks : List Nat} {n : Nd} (h : Ks ns a k ks) (hn : ns[k]? = some n) (hz : 1 ≤ n.z) : Ks ns a (k + n.z.toNat) (ks ++ [k]) := by
  induction h with
  | nil e => exact .cons hn hz (Nat.le_refl _) (.nil _)
  | cons hn' hz' hl h ih => exact .cons hn' hz' (by omega) (ih hn)
/-- Some truth value; if it is true, P. -/
def Says (r : Ending) (P : Prop) : Prop := ∃ b : Bool, r = .returned (.bool b) ∧ (b = true → P)
theorem Says.no {P : Prop} : Says (.returned (.bool false)) P := ⟨false, rfl, fun h => by cases h⟩
theorem Says.yes {P : Prop} (h : P) : Says (.returned (.bool true)) P := ⟨true, rfl, fun _ => h⟩
theorem Says.imp {r : Ending} {P Q : Prop} (h : Says r P) (hpq : P → Q) : Says r Q := by
  obtain ⟨b, hb, hp⟩ := h
  exact ⟨b, hb, fun e => hpq (hp e)⟩
theorem Says.cases {r : Ending} {P : Prop} (h : Says r P) : r = .returned (.bool false) ∨ r = .returned (.bool true) ∧ P := by
  obtain ⟨b, hb, hp⟩ := h
  cases b
  · exact .inl hb
  · exact .inr ⟨hb, hp rfl⟩
theorem Says.any {r : Ending} {P : Prop} (h : Says r P) : AnyBool r := by
  obtain ⟨b, hb, hp⟩ := h
  exact ⟨b, hb⟩
/-- All nodes of the range fit, within the end. -/
def SubFit (ns : List Nd) (a e : Nat) : Prop := ∀ i n, a ≤ i → i < e → ns[i]? = some n → 1 ≤ n.z ∧ i + n.z.toNat ≤ e ∧ ∃ ks, Ks ns (i + 1) (i + n.z.toNat) ks
theorem SubFit.fit {ns : List Nd} (h : SubFit ns 0 ns.length) : Fit ns := fun i n hn => by
  obtain ⟨h1, h2, ks, h3⟩ := h i n (Nat.zero_le _) (List.getElem?_eq_some_iff.1 hn).1 hn
  exact Fits.of hn h1 h2 h3
set_option maxHeartbeats 1000000 in
theorem sized_says (q o cap : Nat) (ns : List Nd) (hL : ns.length ≤ 9223372036854775807) : ∀ (d a e : Nat), e - a ≤ d → a < e → e ≤ ns.length → ∀ w, Row w q o ns →
    Calls Try.prog 56 #[.slice (some ⟨q, o, none⟩) ns.length cap, .int .i64 a, .int .i64 e] w fun r w' => Says r (∃ n, ns[a]? = some n ∧ 1 ≤ n.z ∧ a + n.z.toNat ≤ e ∧ SubFit ns a (a + n.z.toNat)) ∧ Below w.heap.size w w' := by
  intro d
  induction d with
  | zero => intro a e h1 h2; omega
  | succ d ih =>
    intro a e hd hae hel w hrow
    obtain ⟨n, hn⟩ := getElem?_lt (show a < ns.length by omega)
    obtain ⟨c0, c1, c2, c3, c4, -⟩ := hrow a n hn
    have IH := Lib.hid ih
    have HR := Lib.hid hrow
    have HN := Lib.hid hn
    have HL := Lib.hid hL
    have HE := Lib.hid hel
    have HA := Lib.hid hae
    have HD := Lib.hid hd
    have hlt : (a : Int) < (ns.length : Int) := by omega
    by_cases h1 : n.z < 1
    · have t1 : decide (n.z < 1) = true := decide_eq_true h1
      clear hrow hn ih hd hae hel hL h1
      go_enter Try.func56, Try.ntmps56
      go_wp2
      go_ret
      exact ⟨.no, Below.refl _ _⟩
    have t1 : decide (n.z < 1) = false := decide_eq_false h1
    by_cases h2 : (e : Int) - a < n.z
    · have t2 : decide ((e : Int) - a < n.z) = true := decide_eq_true h2
      have w1 : IntKind.i64.wrap ((e : Int) - a) = (e : Int) - a := IntWalk.i64_in _ (by omega)
      clear hrow hn ih hd hae hel hL h1 h2
      go_enter Try.func56, Try.ntmps56
      go_wp2
      go_ret
      exact ⟨.no, Below.refl _ _⟩
    have t2 : decide ((e : Int) - a < n.z) = false := decide_eq_false h2
    obtain ⟨s, hs⟩ : ∃ s : Nat, n.z = s := ⟨n.z.toNat, by omega⟩
    have hsn : n.z.toNat = s := by omega
    have w1 : IntKind.i64.wrap ((e : Int) - a) = (e : Int) - a := IntWalk.i64_in _ (by omega)
    have w2 : IntKind.i64.wrap ((a : Int) + s) = ((a + s : Nat) : Int) := by rw [IntWalk.i64_in _ (by omega)]; simp
    have w3 : IntKind.i64.wrap ((a : Int) + 1) = ((a + 1 : Nat) : Int) := by rw [IntWalk.i64_in _ (by omega)]; simp
    have HS := Lib.hid (show 1 ≤ s ∧ a + s ≤ e by omega)
    have HSN := Lib.hid hsn
    rw [hs] at c4 t1 t2
    clear hrow hn ih hd hae hel hL h1 h2 hsn hs
    go_enter Try.func56, Try.ntmps56
    go_wp2
    go_loopw [8] (fun i wr => ∃ k : Nat, a + 1 ≤ k ∧ k ≤ a + s ∧ i = .int .i64 k ∧ Below w.heap.size w wr ∧ (∃ ks, Ks ns (a + 1) k ks) ∧ SubFit ns (a + 1) k) (fun i _ => a + s - (intOf i).toNat)
    case atStart => exact ⟨a + 1, Nat.le_refl _, by have := HS.out; omega, rfl, Below.refl _ _, ⟨[], .nil _⟩, fun i n h1 h2 => by omega⟩
    case round =>
      obtain ⟨k, hk1, hk2, rfl, hb, hks, hsf⟩ := hrel
      have HB := Lib.hid hb
      have HKS := Lib.hid hks
      have HSF := Lib.hid hsf
      have HK := Lib.hid (And.intro hk1 hk2)
      have hz := HS.out
      have hel := HE.out
      have hl := HL.out
      have hd := HD.out
      by_cases hlt2 : k < a + s
      · obtain ⟨m, hm⟩ := getElem?_lt (show k < ns.length by omega)
        have hki : (k : Int) < (a : Int) + (s : Int) := by omega
        have hkl : (k : Int) < (ns.length : Int) := by omega
        have HC := Lib.hid ((IH.out k (a + s) (by omega) (by omega) (by omega) wr (HR.out.later hb)).mono (R' := fun r w1 => (r = .returned (.bool false) ∧ Below w.heap.size w w1) ∨ ∃ s' : Nat, r = .returned (.bool true) ∧ Below w.heap.size w w1 ∧ w1.cell? ⟨q, o + k * 5 + 4, none⟩ = some (.int .i64 s') ∧ IntKind.i64.wrap ((k : Int) + s') = ((k + s' : Nat) : Int) ∧ 1 ≤ s' ∧ k + s' ≤ a + s ∧ (∃ ks, Ks ns (a + 1) (k + s') ks) ∧ SubFit ns (a + 1) (k + s')) (by
          rintro r w1 ⟨⟨b, rfl, hbb⟩, hb1⟩
          cases b
          · exact .inl ⟨rfl, step_after HB.out hb1⟩
          · obtain ⟨n', hn', hz1, hz2, hsub⟩ := hbb rfl
            obtain ⟨d0, d1, d2, d3, d4, -⟩ := (HR.out.later (step_after HB.out hb1)) k n' hn'
            obtain ⟨s', hs'⟩ : ∃ s' : Nat, n'.z = s' := ⟨n'.z.toNat, by omega⟩
            have hsn' : n'.z.toNat = s' := by omega
            rw [hs'] at d4
            obtain ⟨ks, hks⟩ := HKS.out
            have hks2 := hks.snoc hn' hz1
            rw [hsn'] at hks2 hz2
            refine .inr ⟨s', rfl, step_after HB.out hb1, d4, by rw [IntWalk.i64_in _ (by have := HL.out; have := HE.out; have := HS.out; omega)]; simp, by omega, hz2, ⟨_, hks2⟩, fun i n h1 h2 hin => ?_⟩
            by_cases hik : i < k
            · obtain ⟨x1, x2, x3⟩ := HSF.out i n h1 hik hin
              exact ⟨x1, by omega, x3⟩
            · rw [hsn'] at hsub
              exact hsub i n (by omega) h2 hin))
        have HLT := Lib.hid hlt2
        clear hb hks hsf hk1 hk2 hz hel hl hd hm hlt2
        go_wp2_with (go_at_call 56; refine HC.out.mono ?_; rintro r w1 (⟨rfl, hb1⟩ | ⟨s', rfl, hb1, d4, w4, hx⟩); all_goals (have HB1 := Lib.hid hb1; clear hb1); try (have HX := Lib.hid hx; clear hx))
        · go_ret
          exact ⟨.no, HB1.out⟩
        · go_roundw
          case rel => exact ⟨k + s', by have := HK.out; omega, HX.out.2.1, rfl, HB1.out, HX.out.2.2.1, HX.out.2.2.2⟩
          case measure => have := HX.out; have := HLT.out; simp [intOf]; omega
      · have hki : ¬ (k : Int) < (a : Int) + (s : Int) := by omega
        have hke : k = a + s := by omega
        have HKE := Lib.hid hke
        clear hb hks hsf hk1 hk2 hz hel hl hd hlt2 hke
        go_wp2
        go_ret
        refine ⟨.yes ?_, HB.out⟩
        obtain ⟨ks, hks⟩ := HKS.out
        have hsf := HSF.out
        have hke := HKE.out
        subst hke
        have hz := HS.out
        have hsn := HSN.out
        refine ⟨n, HN.out, by omega, by omega, fun i n' h1 h2 hin => ?_⟩
        rw [hsn] at h2 ⊢
        by_cases hi : i = a
        · subst hi
          have : n' = n := by have := HN.out; rw [this] at hin; exact (Option.some.inj hin).symm
          subst this
          exact ⟨by omega, by omega, ks, by rw [hsn]; exact hks⟩
        · exact hsf i n' (by omega) h2 hin
end Go.Proofs.Ytincgkolpicipaa.kin
namespace Go.Proofs.Ytincgkolpicipaa.kin
open Go.RowKit
open Go.Proofs.Ytincgkolpicipaa.stack (step_after Chg)
/-- What the places hold: the type and the block of the node made there. -/
abbrev Pl : Type := Nat → Option (TypeId × Nat)
def cv : Option (TypeId × Nat) → Value
  | none => .nilIface
  | some x => .iface x.1 (.pointer (some ⟨x.2, 0, none⟩))
theorem cv_one (c : Option (TypeId × Nat)) : (cv c).oneCell' = true := by cases c <;> rfl
/-- Where the builder stands: its block; the nodes' row; the places' block; the nodes. -/
structure Env where
  b : Nat
  q : Nat
  o : Nat
  cap : Nat
  N : Nat
  ns : List Nd
/-- The builder's cells, and the nodes. -/
structure Base (e : Env) (W : World) : Prop where
  c0 : W.cell? ⟨e.b, 0, none⟩ = some (.slice (some ⟨e.q, e.o, none⟩) e.ns.length e.cap)
  c1 : W.cell? ⟨e.b, 1, none⟩ = some (.bool false)
  c2 : W.cell? ⟨e.b, 2, none⟩ = some (.bool false)
  c3 : W.cell? ⟨e.b, 3, none⟩ = some (.slice (some ⟨e.N, 0, none⟩) e.ns.length e.ns.length)
  row : Row W e.q e.o e.ns
theorem Base.chg {e : Env} {X : Nat → Prop} {W W' : World} (h : Base e W) (hc : Chg X W W') (hb : ¬ X e.b) (hq : ¬ X e.q) : Base e W' :=
  ⟨hc.cell h.c0 hb, hc.cell h.c1 hb, hc.cell h.c2 hb, hc.cell h.c3 hb, fun i n hn => by
    obtain ⟨a, b, c, d, f, g⟩ := h.row i n hn
    exact ⟨hc.cell a hq, hc.cell b hq, hc.cell c hq, hc.cell d hq, hc.cell f hq, g⟩⟩
theorem Base.later {e : Env} {W W' : World} (h : Base e W) (hb : Below W.heap.size W W') : Base e W' := h.chg (X := fun _ => False) (Chg.below hb) (fun h => h) (fun h => h)
/-- Reading a cell of a block of some set. -/
def rd (W : World) (U : Nat → Prop) (a : Addr) (v : Value) : Prop := U a.block ∧ W.cell? a = some v
/-- Elements of the size z, of which each has a value at the offset d, in a row. -/
def Elems (rd : Addr → Value → Prop) (z d : Nat) (v : Value) (xs : List Value) : Prop :=
  ∃ (A : Option Addr) (cap : Nat), v = .slice A xs.length cap ∧ xs.length ≤ 400 ∧ ∀ (j : Nat) (x : Value), xs[j]? = some x → ∃ (g : Nat) (c : List Value), A = some ⟨g, 0, none⟩ ∧ c.length = z ∧ c[d]? = some x ∧ (∀ u ∈ c, u.oneCell' = true) ∧ ∀ (i : Nat) (u : Value), c[i]? = some u → rd ⟨g, j * z + i, none⟩ u
theorem Elems.imp {rd rd' : Addr → Value → Prop} {z d : Nat} {v : Value} {xs : List Value} (h : Elems rd z d v xs) (hr : ∀ a u, rd a u → rd' a u) : Elems rd' z d v xs := by
  obtain ⟨A, cap, hv, hl, h⟩ := h
  exact ⟨A, cap, hv, hl, fun j x hj => by obtain ⟨g, c, a, b1, b2, b3, b⟩ := h j x hj; exact ⟨g, c, a, b1, b2, b3, fun i u hu => hr _ _ (b i u hu)⟩⟩
/-- Members of an object: of each the name's expression, the body, the message. -/
def vo : Option Value → Value
  | none => .nilIface
  | some v => v
def Flds (rd : Addr → Value → Prop) (v : Value) (es : List (Option Value × Value × Option Value)) : Prop :=
  ∃ (A : Option Addr) (cap : Nat), v = .slice A es.length cap ∧ es.length ≤ 400 ∧ ∀ (j : Nat) (x : Option Value × Value × Option Value), es[j]? = some x → ∃ (g : Nat) (c : List Value), A = some ⟨g, 0, none⟩ ∧ c.length = 18 ∧ (c[0]? = some (.pointer none) ∧ c[6]? = some (vo x.1) ∧ c[7]? = some x.2.1 ∧ c[8]? = some (vo x.2.2)) ∧ (∀ u ∈ c, u.oneCell' = true) ∧ ∀ (i : Nat) (u : Value), c[i]? = some u → rd ⟨g, j * 18 + i, none⟩ u
theorem Flds.imp {rd rd' : Addr → Value → Prop} {v : Value} {es : List (Option Value × Value × Option Value)} (h : Flds rd v es) (hr : ∀ a u, rd a u → rd' a u) : Flds rd' v es := by
  obtain ⟨A, cap, hv, hl, h⟩ := h
  exact ⟨A, cap, hv, hl, fun j x hj => by obtain ⟨g, c, a, b1, b2, b3, b⟩ := h j x hj; exact ⟨g, c, a, b1, b2, b3, fun i u hu => hr _ _ (b i u hu)⟩⟩
def fld1 (es : List (Option Value × Value × Option Value)) : List Value := es.flatMap fun x => x.1.toList
def fld2 (es : List (Option Value × Value × Option Value)) : List Value := es.flatMap fun x => x.2.1 :: x.2.2.toList
/-- The cells of a node that is made, and the children that they tell, in this order. -/
inductive Cells (rd : Addr → Value → Prop) : TypeId → Nat → List Value → Prop
  | leaf {T : TypeId} {B : Nat} (h : T = 188 ∨ T = 189 ∨ T = 190 ∨ T = 191 ∨ T = 216 ∨ T = 179 ∨ T = 224) : Cells rd T B []
  | one {T : TypeId} {B : Nat} {x : Value} (h : T = 131 ∨ T = 144 ∨ T = 213) (hx : rd ⟨B, 0, none⟩ x) : Cells rd T B [x]
  | index {B : Nat} {x y : Value} (hx : rd ⟨B, 0, none⟩ x) (hy : rd ⟨B, 1, none⟩ y) (hz : rd ⟨B, 4, none⟩ (.pointer none)) : Cells rd 128 B [x, y]
  | binary {B : Nat} {x y : Value} (hx : rd ⟨B, 1, none⟩ x) (hy : rd ⟨B, 0, none⟩ y) : Cells rd 132 B [x, y]
  | cond2 {B : Nat} {x y : Value} (hx : rd ⟨B, 0, none⟩ x) (hy : rd ⟨B, 1, none⟩ y) (hz : rd ⟨B, 2, none⟩ .nilIface) : Cells rd 148 B [x, y]
  | cond3 {B : Nat} {x y z : Value} (hx : rd ⟨B, 0, none⟩ x) (hy : rd ⟨B, 1, none⟩ y) (hz : rd ⟨B, 2, none⟩ z) : Cells rd 148 B [x, y, z]
  | array {B : Nat} {v : Value} {xs : List Value} (hv : rd ⟨B, 0, none⟩ v) (hx : Elems rd 2 0 v xs) : Cells rd 174 B xs
  | apply {B : Nat} {x u v : Value} {xs ys : List Value} (h : rd ⟨B, 0, none⟩ x) (hu : rd ⟨B, 2, none⟩ u) (hx : Elems rd 2 0 u xs) (hv : rd ⟨B, 3, none⟩ v) (hy : Elems rd 5 3 v ys) : Cells rd 126 B (x :: xs ++ ys)
  | func {B : Nat} {x : Value} (hx : rd ⟨B, 2, none⟩ x) (hy : rd ⟨B, 3, none⟩ (.slice none 0 0)) : Cells rd 182 B [x]
  | loc {B : Nat} {x v : Value} {xs : List Value} (hv : rd ⟨B, 0, none⟩ v) (hy : Elems rd 12 1 v xs) (hx : rd ⟨B, 1, none⟩ x) : Cells rd 142 B (x :: xs)
  | obj {B : Nat} {v : Value} {es : List (Option Value × Value × Option Value)} (hv : rd ⟨B, 0, none⟩ v) (hx : Flds rd v es) : Cells rd 192 B (fld1 es ++ fld2 es)
theorem Cells.imp {rd rd' : Addr → Value → Prop} {T : TypeId} {B : Nat} {xs : List Value} (h : Cells rd T B xs) (hr : ∀ a u, rd a u → rd' a u) : Cells rd' T B xs := by
  cases h with
  | leaf h => exact .leaf h
  | one h hx => exact .one h (hr _ _ hx)
  | index hx hy hz => exact .index (hr _ _ hx) (hr _ _ hy) (hr _ _ hz)
  | binary hx hy => exact .binary (hr _ _ hx) (hr _ _ hy)
  | cond2 hx hy hz => exact .cond2 (hr _ _ hx) (hr _ _ hy) (hr _ _ hz)
  | cond3 hx hy hz => exact .cond3 (hr _ _ hx) (hr _ _ hy) (hr _ _ hz)
  | array hv hx => exact .array (hr _ _ hv) (hx.imp hr)
  | apply h hu hx hv hy => exact .apply (hr _ _ h) (hr _ _ hu) (hx.imp hr) (hr _ _ hv) (hy.imp hr)
  | func hx hy => exact .func (hr _ _ hx) (hr _ _ hy)
  | loc hv hy hx => exact .loc (hr _ _ hv) (hy.imp hr) (hr _ _ hx)
  | obj hv hx => exact .obj (hr _ _ hv) (hx.imp hr)
/-- The kinds that the law asks of. -/
def scope (k : Int) : Prop := k = 22 ∨ k = 23 ∨ k = 15 ∨ k = 11 ∨ k = 18 ∨ k = 21 ∨ k = 30 ∨ k = 24 ∨ k = 20 ∨ k = 13 ∨ k = 19 ∨ k = 8 ∨ k = 1 ∨ k = 2 ∨ k = 3 ∨ k = 4 ∨ k = 5 ∨ k = 6 ∨ k = 7
/-- What the law asks of a kid: it is not written as a function, nor a field with a string for a name. -/
def Plain (ns : List Nd) (k : Nat) : Prop := ∃ n, ns[k]? = some n ∧ n.k ≠ 33 ∧ (n.k = 32 → n.m ≠ 1) ∧ (n.k = 35 → n.m = 0 ∨ n.m = 2 ∨ n.m = 4 ∨ n.m = 6) ∧ (n.k = 36 → ∃ x, ns[k + 1]? = some x ∧ x.m ≠ 1)
def InS (ns : List Nd) (i : Nat) : Prop := (∃ n, ns[i]? = some n ∧ scope n.k) ∧ ∀ k ∈ kids ns i, Plain ns k
/-- What is known of a node that is made. -/
def NodeOk (rd : Addr → Value → Prop) (ns : List Nd) (cs : Pl) (i : Nat) (T : TypeId) (B : Nat) : Prop :=
  InS ns i → ∃ ps : List Nat, ps.Perm (inner ns i) ∧ (∀ p ∈ ps, cs p ≠ none) ∧ Cells rd T B (ps.map fun p => cv (cs p))
theorem NodeOk.imp {rd rd' : Addr → Value → Prop} {ns : List Nd} {cs cs' : Pl} {i : Nat} {T : TypeId} {B : Nat} (h : NodeOk rd ns cs i T B) (hr : ∀ a u, rd a u → rd' a u) (hc : ∀ p ∈ inner ns i, cs p ≠ none → cs' p = cs p) : NodeOk rd' ns cs' i T B := fun hs => by
  obtain ⟨ps, hp, hn, hx⟩ := h hs
  have he : ∀ p ∈ ps, cs' p = cs p := fun p hm => hc p (hp.mem_iff.1 hm) (hn p hm)
  refine ⟨ps, hp, fun p hm => by rw [he p hm]; exact hn p hm, ?_⟩
  have : ps.map (fun p => cv (cs' p)) = ps.map (fun p => cv (cs p)) := List.map_congr_left fun p hm => by rw [he p hm]
  rw [this]
  exact hx.imp hr
/-- A block of plain cells. -/
def Blk (W : World) (B : Nat) : Prop := ∃ (arr : Array Value) (E : TypeId), W.heap[B]? = some (.cells arr E (0, 0))
theorem Blk.lt {W : World} {B : Nat} (h : Blk W B) : B < W.heap.size := by
  obtain ⟨arr, E, h⟩ := h
  exact (Array.getElem?_eq_some_iff.1 h).1
theorem Blk.new (W : World) (arr : Array Value) (E : TypeId) : Blk (W.alloc (.cells arr E)) W.heap.size := ⟨arr, E, heap_alloc_new W _⟩
theorem Blk.second (W : World) (o : Obj) (arr : Array Value) (E : TypeId) : Blk ((W.alloc o).alloc (.cells arr E)) (W.heap.size + 1) := ⟨arr, E, by simpa using heap_alloc_new (W.alloc o) (.cells arr E)⟩
theorem Blk.third (W : World) (o o' : Obj) (arr : Array Value) (E : TypeId) : Blk (((W.alloc o).alloc o').alloc (.cells arr E)) (W.heap.size + 2) := ⟨arr, E, by simpa using heap_alloc_new ((W.alloc o).alloc o') (.cells arr E)⟩
theorem Blk.chg {X : Nat → Prop} {W W' : World} {B : Nat} (h : Blk W B) (hc : Chg X W W') (hn : ¬ X B) : Blk W' B := by
  obtain ⟨arr, E, h⟩ := h
  exact ⟨arr, E, hc.keep h hn⟩
theorem Blk.drew {W : World} {B : Nat} (h : Blk W B) : Blk W.drew B := h.chg (X := fun _ => False) (Chg.refl _ W).drew (fun h => h)
theorem Blk.set {W : World} {B : Nat} (h : Blk W B) (Q j : Nat) (u : Value) : Blk (W.setCell ⟨Q, j, none⟩ u) B := by
  by_cases hq : B = Q
  · subst hq
    obtain ⟨arr, E, h⟩ := h
    exact ⟨_, E, by rw [setCell_eq_setRow W B j arr E (0, 0) u h]; exact setRow_heap W B arr _ E _ h⟩
  · exact h.chg (X := (· = Q)) (Chg.setCell (X := (· = Q)) (p := ⟨Q, j, none⟩) (Chg.refl _ W) (fun _ => rfl) u) hq
/-- The types of nodes. -/
def nts : List TypeId := [188, 189, 190, 191, 216, 179, 224, 131, 144, 213, 128, 132, 148, 174, 126, 182, 142, 192, 129, 141, 143, 127, 130, 201, 210, 145, 146, 147]
def NT (T : TypeId) : Prop := T ∈ nts
/-- The builder's state: what the places hold; the blocks that stay as they are. -/
structure St (e : Env) (W : World) (cs : Pl) (U : Nat → Prop) : Prop where
  base : Base e W
  places : ∃ arr : Array Value, W.heap[e.N]? = some (.cells arr 65 (0, 0)) ∧ arr.size = e.ns.length ∧ ∀ i, i < e.ns.length → arr[i]? = some (cv (cs i))
  ub : U e.b
  uq : U e.q
  un : ¬ U e.N
  lt : ∀ B, U B → B < W.heap.size
  own : ∀ (i : Nat) (x : TypeId × Nat), cs i = some x → U x.2
  inj : ∀ i j x y, cs i = some x → cs j = some y → x.2 = y.2 → i = j
  good : ∀ (i : Nat) (x : TypeId × Nat), cs i = some x → NodeOk (rd W U) e.ns cs i x.1 x.2
  shp : ∀ (i : Nat) (x : TypeId × Nat), cs i = some x → NT x.1 ∧ Blk W x.2
theorem rd_chg {X U U' : Nat → Prop} {W W' : World} (hc : Chg X W W') (hX : ∀ B, X B → ¬ U B) (hu : ∀ B, U B → U' B) : ∀ a v, rd W U a v → rd W' U' a v :=
  fun _ _ h => ⟨hu _ h.1, hc.cell h.2 fun hx => hX _ hx h.1⟩
/-- Other blocks may turn. -/
theorem St.chg {e : Env} {W W' : World} {cs : Pl} {U X : Nat → Prop} (h : St e W cs U) (hc : Chg X W W') (hX : ∀ B, X B → ¬ U B ∧ B ≠ e.N) : St e W' cs U := by
  refine ⟨h.base.chg hc (fun hx => (hX _ hx).1 h.ub) (fun hx => (hX _ hx).1 h.uq), ?_, h.ub, h.uq, h.un, fun B hB => Nat.lt_of_lt_of_le (h.lt B hB) hc.size, h.own, h.inj, fun i x hx => (h.good i x hx).imp (rd_chg hc (fun B hB => (hX B hB).1) (fun _ hu => hu)) (fun _ _ _ => rfl), fun i x hx => ⟨(h.shp i x hx).1, (h.shp i x hx).2.chg hc fun hxx => (hX _ hxx).1 (h.own i x hx)⟩⟩
  obtain ⟨arr, h1, h2, h3⟩ := h.places
  exact ⟨arr, hc.keep h1 fun hx => (hX _ hx).2 rfl, h2, h3⟩
theorem St.use {e : Env} {W : World} {cs : Pl} {U V : Nat → Prop} (h : St e W cs U) (hu : ∀ B, U B → V B) (hn : ¬ V e.N) (hl : ∀ B, V B → B < W.heap.size) : St e W cs V :=
  ⟨h.base, h.places, hu _ h.ub, hu _ h.uq, hn, hl, fun i x hx => hu _ (h.own i x hx), h.inj, fun i x hx => (h.good i x hx).imp (fun _ _ hr => ⟨hu _ hr.1, hr.2⟩) (fun _ _ _ => rfl), h.shp⟩
/-- From one state to another one: the places of S are filled. -/
structure Done (e : Env) (S : Nat → Prop) (w w' : World) (cs cs' : Pl) (U U' : Nat → Prop) : Prop where
  chg : Chg (· = e.N) w w'
  st : St e w' cs' U'
  out : ∀ j, ¬ S j → cs' j = cs j
  ex : ∀ j, S j → Ex e.ns j → cs' j ≠ none
  up : ∀ B, U B → U' B
  new : ∀ B, U' B → U B ∨ w.heap.size ≤ B
theorem Done.refl {e : Env} {w : World} {cs : Pl} {U : Nat → Prop} (h : St e w cs U) : Done e (fun _ => False) w w cs cs U U :=
  ⟨Chg.refl _ _, h, fun _ _ => rfl, fun _ h => h.elim, fun _ h => h, fun _ h => .inl h⟩
theorem Done.trans {e : Env} {S S' : Nat → Prop} {a b c : World} {cs cs' cs'' : Pl} {U U' U'' : Nat → Prop} (h : Done e S a b cs cs' U U') (k : Done e S' b c cs' cs'' U' U'') (hs : ∀ j, S j → ¬ S' j) : Done e (fun j => S j ∨ S' j) a c cs cs'' U U'' :=
  ⟨h.chg.trans k.chg, k.st, fun j hj => (k.out j fun x => hj (.inr x)).trans (h.out j fun x => hj (.inl x)), fun j hj he => by
    rcases hj with hj | hj
    · rw [k.out j (hs j hj)]; exact h.ex j hj he
    · exact k.ex j hj he, fun B hB => k.up B (h.up B hB), fun B hB => by
    rcases k.new B hB with hB | hB
    · exact h.new B hB
    · exact .inr (Nat.le_trans h.chg.size hB)⟩
theorem Done.step {e : Env} {S X : Nat → Prop} {a b c : World} {cs cs' : Pl} {U U' : Nat → Prop} (h : Done e S a b cs cs' U U') (k : Chg X b c) (hX : ∀ B, X B → a.heap.size ≤ B ∧ ¬ U' B ∧ B ≠ e.N) : Done e S a c cs cs' U U' :=
  ⟨h.chg.step k fun i hi hx => absurd (hX i hx).1 (by omega), h.st.chg k fun B hB => (hX B hB).2, h.out, h.ex, h.up, h.new⟩
theorem Done.set {e : Env} {S S' : Nat → Prop} {a b : World} {cs cs' : Pl} {U U' : Nat → Prop} (h : Done e S a b cs cs' U U') (hs : ∀ j, S j → S' j) (hn : ∀ j, S' j → Ex e.ns j → S j) : Done e S' a b cs cs' U U' :=
  ⟨h.chg, h.st, fun j hj => h.out j fun x => hj (hs j x), fun j hj he => h.ex j (hn j hj he) he, h.up, h.new⟩
end Go.Proofs.Ytincgkolpicipaa.kin
namespace Go.Proofs.Ytincgkolpicipaa.kin
open Go.RowKit
open Go.Proofs.Ytincgkolpicipaa.stack (step_after Chg)
theorem sz_pos {ns : List Nd} (h : Fit ns) (i : Nat) : 1 ≤ sz ns i := by
  cases hi : ns[i]? with
  | none => simp [sz, hi]
  | some n => rw [sz_of hi]; have := (h i n hi).one; omega
/-- The place stands in the subtree of one of some places. -/
def Rs (ns : List Nd) (ks : List Nat) (j : Nat) : Prop := ∃ k ∈ ks, k ≤ j ∧ j < k + sz ns k
theorem Rs.nil {ns : List Nd} {j : Nat} : ¬ Rs ns [] j := fun ⟨k, hk, _⟩ => by simp at hk
theorem Rs.one {ns : List Nd} {k j : Nat} : Rs ns [k] j ↔ k ≤ j ∧ j < k + sz ns k :=
  ⟨fun ⟨x, hx, h⟩ => by rw [List.mem_singleton] at hx; subst hx; exact h, fun h => ⟨k, by simp, h⟩⟩
theorem Rs.app {ns : List Nd} {l m : List Nat} {j : Nat} : Rs ns (l ++ m) j ↔ Rs ns l j ∨ Rs ns m j := by
  constructor
  · rintro ⟨x, hx, h⟩
    rcases List.mem_append.1 hx with hx | hx
    · exact .inl ⟨x, hx, h⟩
    · exact .inr ⟨x, hx, h⟩
  · rintro (⟨x, hx, h⟩ | ⟨x, hx, h⟩)
    · exact ⟨x, List.mem_append.2 (.inl hx), h⟩
    · exact ⟨x, List.mem_append.2 (.inr hx), h⟩
theorem Rs.mem {ns : List Nd} (hf : Fit ns) {l : List Nat} {k : Nat} (h : k ∈ l) : Rs ns l k := ⟨k, h, Nat.le_refl _, by have := sz_pos hf k; omega⟩
theorem Rs.sub {ns : List Nd} {l m : List Nat} {j : Nat} (h : ∀ k ∈ l, k ∈ m) (hr : Rs ns l j) : Rs ns m j := by
  obtain ⟨k, hk, h2⟩ := hr; exact ⟨k, h k hk, h2⟩
/-- Nothing is built there. -/
def Free (ns : List Nd) (cs : Pl) (ks : List Nat) : Prop := ∀ j, Rs ns ks j → cs j = none
theorem Free.sub {ns : List Nd} {cs : Pl} {l m : List Nat} (h : Free ns cs m) (hs : ∀ k ∈ l, k ∈ m) : Free ns cs l := fun j hj => h j (hj.sub hs)
def Apt (ns : List Nd) (l m : List Nat) : Prop := ∀ a ∈ l, ∀ b ∈ m, Apart ns a b
theorem Apart.symm {ns : List Nd} {a b : Nat} (h : Apart ns a b) : Apart ns b a := Or.symm h
theorem Apt.symm {ns : List Nd} {l m : List Nat} (h : Apt ns l m) : Apt ns m l := fun a ha b hb => (h b hb a ha).symm
theorem Apt.dis {ns : List Nd} {l m : List Nat} (h : Apt ns l m) {j : Nat} (hl : Rs ns l j) : ¬ Rs ns m j := by
  rintro ⟨b, hb, h1, h2⟩
  obtain ⟨a, ha, h3, h4⟩ := hl
  rcases h a ha b hb with h | h <;> omega
theorem Apt.sub {ns : List Nd} {l m l' m' : List Nat} (h : Apt ns l m) (h1 : ∀ k ∈ l', k ∈ l) (h2 : ∀ k ∈ m', k ∈ m) : Apt ns l' m' := fun a ha b hb => h a (h1 a ha) b (h2 b hb)
/-- Places of which none stands beneath another one. -/
def Sep (ns : List Nd) (ks : List Nat) : Prop := ks.Pairwise (Apart ns)
theorem Sep.app {ns : List Nd} {l m : List Nat} (h : Sep ns (l ++ m)) : Sep ns l ∧ Sep ns m ∧ Apt ns l m := by
  have := List.pairwise_append.1 h
  exact ⟨this.1, this.2.1, this.2.2⟩
theorem sep_kids {ns : List Nd} (h : Fit ns) {i : Nat} {n : Nd} (hn : ns[i]? = some n) : Sep ns (kids ns i) := (h i n hn).kids.sorted.imp fun h => .inl h
theorem kids_rs {ns : List Nd} (h : Fit ns) {i : Nat} {n : Nd} (hn : ns[i]? = some n) (j : Nat) : Rs ns (kids ns i) j ↔ i < j ∧ j < i + sz ns i := by
  constructor
  · rintro ⟨k, hk, h1, h2⟩
    have := h.kid hn hk
    omega
  · rintro ⟨h1, h2⟩
    rw [sz_of hn] at h2
    obtain ⟨k, hk, a, b⟩ := (h i n hn).kids.cover j h1 h2
    exact ⟨k, hk, a, b⟩
theorem kids_up {ns : List Nd} (h : Fit ns) {i : Nat} {n : Nd} (hn : ns[i]? = some n) {j : Nat} (hj : Rs ns (kids ns i) j) : Rs ns [i] j := by
  have := (kids_rs h hn j).1 hj
  exact Rs.one.2 (by omega)
theorem Free.kids {ns : List Nd} {cs : Pl} {i : Nat} {n : Nd} (hf : Fit ns) (hn : ns[i]? = some n) (h : Free ns cs [i]) : Free ns cs (kids ns i) := fun j hj => h j (kids_up hf hn hj)
theorem St.nlt {e : Env} {W : World} {cs : Pl} {U : Nat → Prop} (h : St e W cs U) : e.N < W.heap.size := by
  obtain ⟨arr, h1, -⟩ := h.places
  exact (Array.getElem?_eq_some_iff.1 h1).1
theorem St.bn {e : Env} {W : World} {cs : Pl} {U : Nat → Prop} (h : St e W cs U) : e.b ≠ e.N := fun x => h.un (x ▸ h.ub)
theorem St.qn {e : Env} {W : World} {cs : Pl} {U : Nat → Prop} (h : St e W cs U) : e.q ≠ e.N := fun x => h.un (x ▸ h.uq)
theorem St.later {e : Env} {W W' : World} {cs : Pl} {U : Nat → Prop} (h : St e W cs U) (hb : Below W.heap.size W W') : St e W' cs U := h.chg (X := fun _ => False) (Chg.below hb) (fun _ h => h.elim)
/-- More blocks stay as they are. -/
theorem Done.grow {e : Env} {S : Nat → Prop} {w w' : World} {cs cs' : Pl} {U U' : Nat → Prop} (h : Done e S w w' cs cs' U U') (hN : e.N < w.heap.size) (V : Nat → Prop) (hV : ∀ B, V B → w.heap.size ≤ B ∧ B < w'.heap.size) : Done e S w w' cs cs' U (fun B => U' B ∨ V B) :=
  ⟨h.chg, h.st.use (fun _ h => .inl h) (fun x => x.elim h.st.un fun x => by have := hV _ x; omega) (fun B hB => hB.elim (h.st.lt B) fun x => (hV B x).2), h.out, h.ex, fun B hB => .inl (h.up B hB), fun B hB => hB.elim (h.new B) fun x => .inr (hV B x).1⟩
theorem Done.later {e : Env} {S : Nat → Prop} {w a b : World} {cs cs' : Pl} {U U' : Nat → Prop} (h : Done e S w a cs cs' U U') (hb : Below a.heap.size a b) : Done e S w b cs cs' U U' :=
  h.step (X := fun _ => False) (Chg.below hb) (fun _ h => h.elim)
theorem Done.none {e : Env} {w w' : World} {cs : Pl} {U : Nat → Prop} (h : St e w cs U) (hb : Below w.heap.size w w') : Done e (Rs e.ns []) w w' cs cs U U :=
  ((Done.refl h).later hb).set (fun _ h => h.elim) (fun _ h _ => Rs.nil h)
/-- A block of one's own does not stay as it is. -/
theorem Done.apart {e : Env} {S : Nat → Prop} {w w' : World} {cs cs' : Pl} {U U' : Nat → Prop} (h : Done e S w w' cs cs' U U') {B : Nat} (hB : B < w.heap.size) (hU : ¬ U B) : ¬ U' B := fun x => by
  rcases h.new B x with h | h
  · exact hU h
  · omega
/-- What builder.node does. -/
def NodeC (e : Env) (k : Nat) : Prop := ∀ (w : World) (cs : Pl) (U : Nat → Prop), St e w cs U → Free e.ns cs [k] →
  Calls Try.prog 55 #[.pointer (some ⟨e.b, 0, none⟩), .int .i64 k] w fun r w' => ∃ (cs' : Pl) (U' : Nat → Prop) (T : TypeId) (B : Nat), r = .returned (.iface T (.pointer (some ⟨B, 0, none⟩))) ∧ cs' k = some (T, B) ∧ Done e (Rs e.ns [k]) w w' cs cs' U U'
/-- After the places l are built, that of a further one. -/
def Next (e : Env) (w : World) (cs : Pl) (U : Nat → Prop) (l : List Nat) (k : Nat) (cs1 : Pl) (r : Ending) (w' : World) : Prop :=
  ∃ (cs' : Pl) (U' : Nat → Prop) (T : TypeId) (B : Nat), r = .returned (.iface T (.pointer (some ⟨B, 0, none⟩))) ∧ cs' k = some (T, B) ∧ (∀ a ∈ l, cs' a = cs1 a) ∧ Done e (Rs e.ns (l ++ [k])) w w' cs cs' U U'
theorem Done.free {e : Env} {w w' : World} {cs cs' : Pl} {U U' : Nat → Prop} {l m : List Nat} (h : Done e (Rs e.ns l) w w' cs cs' U U') (ha : Apt e.ns l m) (hf : Free e.ns cs m) : Free e.ns cs' m := fun j hj => by
  rw [h.out j (ha.symm.dis hj)]; exact hf j hj
theorem Done.keeps {e : Env} {w w' : World} {cs cs' : Pl} {U U' : Nat → Prop} {l m : List Nat} (hft : Fit e.ns) (h : Done e (Rs e.ns m) w w' cs cs' U U') (ha : Apt e.ns l m) : ∀ a ∈ l, cs' a = cs a := fun a hl => h.out a (ha.dis (Rs.mem hft hl))
theorem Done.app {e : Env} {a b c : World} {cs cs' cs'' : Pl} {U U' U'' : Nat → Prop} {l m : List Nat} (h : Done e (Rs e.ns l) a b cs cs' U U') (k : Done e (Rs e.ns m) b c cs' cs'' U' U'') (ha : Apt e.ns l m) : Done e (Rs e.ns (l ++ m)) a c cs cs'' U U'' :=
  (h.trans k (fun _ hj => ha.dis hj)).set (fun _ hj => Rs.app.2 hj) (fun _ hj _ => Rs.app.1 hj)
theorem NodeC.next {e : Env} {k : Nat} (h : NodeC e k) (hft : Fit e.ns) {w : World} {cs : Pl} {U : Nat → Prop} {l : List Nat} (hf : Free e.ns cs [k]) (ha : Apt e.ns l [k]) (W : World) (cs1 : Pl) (U1 : Nat → Prop) (hd : Done e (Rs e.ns l) w W cs cs1 U U1) :
    Calls Try.prog 55 #[.pointer (some ⟨e.b, 0, none⟩), .int .i64 k] W (Next e w cs U l k cs1) := by
  refine (h W cs1 U1 hd.st (hd.free ha hf)).mono ?_
  rintro r w' ⟨cs', U', T, B, hr, hc, hd2⟩
  exact ⟨cs', U', T, B, hr, hc, hd2.keeps hft ha, hd.app hd2 ha⟩
/-- The kids of a node that is none of an expression are built: so is the node. -/
theorem Done.upTo {e : Env} {w w' : World} {cs cs' : Pl} {U U' : Nat → Prop} {i : Nat} {n : Nd} (hf : Fit e.ns) (hn : e.ns[i]? = some n) (he : ¬ Ex e.ns i) (h : Done e (Rs e.ns (kids e.ns i)) w w' cs cs' U U') : Done e (Rs e.ns [i]) w w' cs cs' U U' :=
  h.set (fun _ hj => kids_up hf hn hj) (fun j hj hx => (kids_rs hf hn j).2 (by
    have := Rs.one.1 hj
    have hne : j ≠ i := by rintro rfl; exact he hx
    omega))
/-- What builder.made does. -/
def Mk (e : Env) (i : Nat) (w : World) (cs : Pl) (U : Nat → Prop) (r : Ending) (w' : World) : Prop :=
  ∃ (cs' : Pl) (U' : Nat → Prop) (T : TypeId) (B : Nat), r = .returned (.iface T (.pointer (some ⟨B, 0, none⟩))) ∧ Done e (Rs e.ns (kids e.ns i)) w w' cs cs' U U' ∧ (U' B ∧ NT T ∧ Blk w' B) ∧ (∀ j x, cs' j = some x → x.2 ≠ B) ∧ NodeOk (rd w' U') e.ns cs' i T B
theorem mk_fin {e : Env} {i : Nat} {w w' : World} {cs cs' : Pl} {U U' : Nat → Prop} {T : TypeId} {B : Nat} (hN : e.N < w.heap.size) (h : Done e (Rs e.ns (kids e.ns i)) w w' cs cs' U U') (h1 : w.heap.size ≤ B) (h2 : Blk w' B) (hT : NT T) (h3 : ¬ U' B)
    (hx : InS e.ns i → ∃ ps : List Nat, ps.Perm (inner e.ns i) ∧ (∀ p ∈ ps, cs' p ≠ Option.none) ∧ Cells (rd w' (fun C => U' C ∨ C = B)) T B (ps.map fun p => cv (cs' p))) : Mk e i w cs U (.returned (.iface T (.pointer (some ⟨B, 0, Option.none⟩)))) w' :=
  ⟨cs', _, T, B, rfl, h.grow hN (· = B) (fun C hC => by subst hC; exact ⟨h1, h2.lt⟩), ⟨.inr rfl, hT, h2⟩, fun j x hj hb => h3 (hb ▸ h.st.own j x hj), hx⟩
/-- All that the expressions next beneath a node are built. -/
theorem inner_done {e : Env} {i : Nat} {n : Nd} {w w' : World} {cs cs' : Pl} {U U' : Nat → Prop} (hf : Fit e.ns) (hn : e.ns[i]? = some n) (h : Done e (Rs e.ns (kids e.ns i)) w w' cs cs' U U') : ∀ p ∈ inner e.ns i, cs' p ≠ Option.none := fun p hp => by
  have := inner_mem hf (sz e.ns i) i n hn (Nat.le_refl _) p hp
  exact h.ex p ((kids_rs hf hn p).2 (by omega)) this.2.2.2
/-- The place is filled. -/
def put (cs : Pl) (i : Nat) (x : TypeId × Nat) : Pl := fun j => if j = i then some x else cs j
theorem put_at (cs : Pl) (i : Nat) (x : TypeId × Nat) : put cs i x i = some x := by simp [put]
theorem put_ne {cs : Pl} {i j : Nat} {x : TypeId × Nat} (h : j ≠ i) : put cs i x j = cs j := by simp [put, h]
theorem chg_place {N i : Nat} {w : World} (u : Value) : Chg (· = N) w (w.setCell ⟨N, i, none⟩ u) := Chg.setCell (X := (· = N)) (p := ⟨N, i, none⟩) (Chg.refl _ w) (fun _ => rfl) u
theorem St.fill {e : Env} {W : World} {cs : Pl} {U : Nat → Prop} {i : Nat} {T : TypeId} {B : Nat} {n : Nd} (hf : Fit e.ns) (hn : e.ns[i]? = some n) (h : St e W cs U) (hi : cs i = none) (hB : U B) (hb : ∀ j x, cs j = some x → x.2 ≠ B) (ho : NodeOk (rd W U) e.ns cs i T B) (hs : NT T ∧ Blk W B) : St e (W.setCell ⟨e.N, i, none⟩ (.iface T (.pointer (some ⟨B, 0, none⟩)))) (put cs i (T, B)) U := by
  have hc := chg_place (N := e.N) (i := i) (w := W) (.iface T (.pointer (some ⟨B, 0, none⟩)))
  have hr := rd_chg (U := U) (U' := U) hc (fun C hC hU => h.un (hC ▸ hU)) (fun _ h => h)
  have hil : i < e.ns.length := (List.getElem?_eq_some_iff.1 hn).1
  refine ⟨h.base.chg hc h.bn h.qn, ?_, h.ub, h.uq, h.un, fun C hC => by have := h.lt C hC; simpa using this, ?_, ?_, ?_, ?_⟩
  · obtain ⟨arr, h1, h2, h3⟩ := h.places
    refine ⟨arr.setIfInBounds i (.iface T (.pointer (some ⟨B, 0, none⟩))), ?_, by simp [h2], fun j hj => ?_⟩
    · rw [setCell_eq_setRow W e.N i arr 65 (0, 0) _ h1]
      exact setRow_heap W e.N arr _ 65 _ h1
    · by_cases hji : j = i
      · subst hji
        rw [put_at, Array.getElem?_setIfInBounds_self_of_lt (by omega)]; rfl
      · rw [put_ne hji, Array.getElem?_setIfInBounds_ne (by omega)]; exact h3 j hj
  · intro j x hx
    by_cases hji : j = i
    · subst hji; rw [put_at] at hx; cases hx; exact hB
    · rw [put_ne hji] at hx; exact h.own j x hx
  · intro a b x y hx hy hxy
    by_cases ha : a = i
    · by_cases hb2 : b = i
      · rw [ha, hb2]
      · subst ha; rw [put_at] at hx; rw [put_ne hb2] at hy; cases hx
        exact absurd hxy.symm (hb b y hy)
    · by_cases hb2 : b = i
      · subst hb2; rw [put_at] at hy; rw [put_ne ha] at hx; cases hy
        exact absurd hxy (hb a x hx)
      · rw [put_ne ha] at hx; rw [put_ne hb2] at hy; exact h.inj a b x y hx hy hxy
  · intro j x hx
    by_cases hji : j = i
    · subst hji; rw [put_at] at hx; cases hx
      exact ho.imp hr fun p _ hpn => put_ne (by rintro rfl; exact hpn hi)
    · rw [put_ne hji] at hx
      exact (h.good j x hx).imp hr fun p _ hpn => put_ne (by rintro rfl; exact hpn hi)
  · intro j x hx
    by_cases hji : j = i
    · subst hji; rw [put_at] at hx; cases hx; exact ⟨hs.1, hs.2.set _ _ _⟩
    · rw [put_ne hji] at hx; exact ⟨(h.shp j x hx).1, (h.shp j x hx).2.set _ _ _⟩
/-- builder.made, and its store: builder.node. -/
theorem Mk.fill {e : Env} {i : Nat} {w w' : World} {cs : Pl} {U : Nat → Prop} {r : Ending} {n : Nd} (hf : Fit e.ns) (hn : e.ns[i]? = some n) (hfr : Free e.ns cs [i]) (h : Mk e i w cs U r w') : ∃ (cs' : Pl) (U' : Nat → Prop) (T : TypeId) (B : Nat), r = .returned (.iface T (.pointer (some ⟨B, 0, none⟩))) ∧ cs' i = some (T, B) ∧ Done e (Rs e.ns [i]) w (w'.setCell ⟨e.N, i, none⟩ (.iface T (.pointer (some ⟨B, 0, none⟩)))) cs cs' U U' := by
  obtain ⟨cs', U', T, B, hr, hd, hB, hb, ho⟩ := h
  have hnot : ¬ Rs e.ns (kids e.ns i) i := fun x => by have := (kids_rs hf hn i).1 x; omega
  have hi : cs' i = none := by rw [hd.out i hnot]; exact hfr i (Rs.mem hf (by simp))
  refine ⟨put cs' i (T, B), U', T, B, hr, put_at _ _ _, hd.chg.trans (chg_place _), hd.st.fill hf hn hi hB.1 hb ho hB.2, fun j hj => ?_, fun j hj hx => ?_, hd.up, hd.new⟩
  · have hji : j ≠ i := by rintro rfl; exact hj (Rs.mem hf (by simp))
    rw [put_ne hji]
    exact hd.out j fun x => hj (kids_up hf hn x)
  · by_cases hji : j = i
    · subst hji; rw [put_at]; simp
    · rw [put_ne hji]
      exact hd.ex j ((kids_rs hf hn j).2 (by have := Rs.one.1 hj; omega)) hx
end Go.Proofs.Ytincgkolpicipaa.kin
namespace Go.Proofs.Ytincgkolpicipaa.kin
open Go.RowKit
open Go.Proofs.Ytincgkolpicipaa.stack (step_after AnyBool AnyInt add_off owns_form)
/-- A place as a value. -/
def pv (k : Nat) : Value := .int .i64 k
/-- A slice of places, in a block from B on. -/
def Plc (B : Nat) (W : World) (v : Value) (ks : List Nat) : Prop :=
  ∃ (A : Option Addr) (cap : Nat), v = .slice A ks.length cap ∧ ks.length ≤ cap ∧ ks.length ≤ 400 ∧ ((ks = [] ∧ A = none ∧ cap = 0) ∨ ∃ q o, A = some ⟨q, o, none⟩ ∧ B ≤ q ∧ q < W.heap.size ∧ ∀ (j k : Nat), ks[j]? = some k → W.cell? ⟨q, o + j, none⟩ = some (.int .i64 k))
theorem Plc.later {B : Nat} {W W' : World} {v : Value} {ks : List Nat} (h : Plc B W v ks) (hb : Below W.heap.size W W') : Plc B W' v ks := by
  obtain ⟨A, cap, hv, hc, hl, h⟩ := h
  refine ⟨A, cap, hv, hc, hl, ?_⟩
  rcases h with h | ⟨q, o, ha, hB, hq, h⟩
  · exact .inl h
  · exact .inr ⟨q, o, ha, hB, Nat.lt_of_lt_of_le hq hb.size, fun j k hj => cell_later hb (h j k hj)⟩
theorem Plc.mono {B B' : Nat} {W : World} {v : Value} {ks : List Nat} (h : Plc B W v ks) (hb : B' ≤ B) : Plc B' W v ks := by
  obtain ⟨A, cap, hv, hc, hl, h⟩ := h
  refine ⟨A, cap, hv, hc, hl, ?_⟩
  rcases h with h | ⟨q, o, ha, hB, hq, h⟩
  · exact .inl h
  · exact .inr ⟨q, o, ha, Nat.le_trans hb hB, hq, h⟩
theorem Plc.of_owns {B : Nat} {W : World} {v : Value} {ks : List Nat} (hl : ks.length ≤ 400) (h : W.ownsRow B 3 1 v ks.length (ks.map pv)) : Plc B W v ks := by
  have h0 := h
  rcases h.2 with ⟨rfl, h2⟩ | ⟨g, cap, cur, rfl, hg, hh, hn, hm, hcs, hcur⟩
  · exact ⟨none, 0, by rw [h2], by omega, hl, .inl ⟨List.length_eq_zero_iff.1 h2, rfl, rfl⟩⟩
  · exact ⟨_, cap, rfl, hn, hl, .inr ⟨g, 0, rfl, hg, (Array.getElem?_eq_some_iff.1 hh).1, fun j k hj => by
      have := (List.getElem?_eq_some_iff.1 hj).1
      rw [Nat.zero_add, h0.cellAt j (by omega), List.getElem?_map, hj]; rfl⟩⟩
theorem Try.info3 : (Try.prog.info? 3).map (fun i => (i.zero, i.size, i.bytes)) = some (some (.int .i64 0), 1, 8) := by kernel_rfl
set_option maxHeartbeats 1000000 in
theorem kids_says (q o cap : Nat) (ns : List Nd) (hL : ns.length ≤ 400) (a : Nat) (n : Nd) (hn : ns[a]? = some n) (hfit : Fits ns a n) (w : World) (hrow : Row w q o ns) :
    Calls Try.prog 34 #[.slice (some ⟨q, o, none⟩) ns.length cap, .int .i64 a] w fun r w' => (∃ v, r = .returned v ∧ Plc w.heap.size w' v (kids ns a)) ∧ Below w.heap.size w w' := by
  obtain ⟨i0, hi, hz0, hz1, hz2⟩ := info_parts Try.info3
  have HR := Lib.hid hrow
  obtain ⟨c0, c1, c2, c3, c4, -⟩ := hrow a n hn
  have hks := hfit.kids
  obtain ⟨s, hs⟩ : ∃ s : Nat, n.z = s := ⟨n.z.toNat, by have := hfit.one; omega⟩
  have hsn : n.z.toNat = s := by omega
  have hz := hfit.one
  have hle := hfit.le
  have hal := (List.getElem?_eq_some_iff.1 hn).1
  rw [hsn] at hks hle
  rw [hs] at c4 hz
  have hlt : (a : Int) < (ns.length : Int) := by omega
  have w2 : IntKind.i64.wrap ((a : Int) + s) = ((a + s : Nat) : Int) := by rw [IntWalk.i64_in _ (by omega)]; simp
  have w3 : IntKind.i64.wrap ((a : Int) + 1) = ((a + 1 : Nat) : Int) := by rw [IntWalk.i64_in _ (by omega)]; simp
  have HB := Lib.hid (show 1 ≤ s ∧ a + s ≤ ns.length ∧ ns.length ≤ 400 by omega)
  have HKS := Lib.hid hks
  have hown := World.ownsRow_nil w w.heap.size 3 1
  clear hs hsn hz hle hks hfit hn hal hL hrow
  generalize hkk : kids ns a = ks0 at HKS ⊢
  clear hkk
  go_enter Try.func34, Try.ntmps34
  go_wp2
  go_loopw [5, 6] (fun v i wr => ∃ (k : Nat) (ks1 ks2 : List Nat), ks0 = ks1 ++ ks2 ∧ i = .int .i64 k ∧ a + 1 ≤ k ∧ k ≤ a + s ∧ Ks ns k (a + s) ks2 ∧ wr.ownsRow w.heap.size 3 1 v ks1.length (ks1.map pv) ∧ ks1.length ≤ k ∧ Below w.heap.size w wr) (fun _ i _ => a + s - (intOf i).toNat)
  case atStart => exact ⟨a + 1, [], ks0, rfl, by simp, Nat.le_refl _, by have := HB.out; omega, HKS.out, hown, Nat.zero_le _, Below.refl _ _⟩
  case round =>
    obtain ⟨k, ks1, ks2, hks0, rfl, hk1, hk2, hks2, hown1, hlen, hb⟩ := hrel
    obtain ⟨c0', c1', c2', c3', c4', -⟩ := (show wr.cell? ⟨q, o + a * 5, none⟩ = _ ∧ wr.cell? ⟨q, o + a * 5 + 1, none⟩ = _ ∧ wr.cell? ⟨q, o + a * 5 + 2, none⟩ = _ ∧ wr.cell? ⟨q, o + a * 5 + 3, none⟩ = _ ∧ wr.cell? ⟨q, o + a * 5 + 4, none⟩ = _ ∧ True from ⟨cell_later hb c0, cell_later hb c1, cell_later hb c2, cell_later hb c3, cell_later hb c4, trivial⟩)
    obtain ⟨A, vc, rfl, -⟩ := owns_form hown1
    have HBW := Lib.hid hb
    cases hks2 with
    | nil =>
      have hki : ¬ ((a + s : Nat) : Int) < (a : Int) + (s : Int) := by omega
      have HO := Lib.hid hown1
      have HE := Lib.hid hks0
      clear hb hown1 hks0 c0 c1 c2 c3 c4
      go_wp2
      go_ret
      refine ⟨⟨_, rfl, ?_⟩, HBW.out⟩
      have he := HE.out
      rw [List.append_nil] at he
      subst he
      exact .of_owns (by have := HB.out; omega) HO.out
    | @cons _ _ m ks2 hm hz hl hks2 =>
      obtain ⟨s', hs'⟩ : ∃ s' : Nat, m.z = s' := ⟨m.z.toNat, by omega⟩
      have hsn' : m.z.toNat = s' := by omega
      rw [hsn'] at hks2 hl
      have hBB := HB.out
      have hki : (k : Int) < (a : Int) + (s : Int) := by omega
      have hkl : (k : Int) < (ns.length : Int) := by omega
      have HM := Lib.hid hm
      have w4 : IntKind.i64.wrap ((k : Int) + s') = ((k + s' : Nat) : Int) := by rw [IntWalk.i64_in _ (by omega)]; simp
      have HE := Lib.hid (show ks0 = (ks1 ++ [k]) ++ ks2 ∧ a + 1 ≤ k + s' ∧ k + s' ≤ a + s ∧ Ks ns (k + s') (a + s) ks2 ∧ ks1.length + 1 ≤ k + s' ∧ ks1.length ≤ 400 ∧ k < k + s' by
        refine ⟨by simp [hks0], by omega, hl, hks2, by omega, by omega, by omega⟩)
      have HS' := Lib.hid hs'
      have HSZ := Lib.hid (show w.heap.size ≤ (wr.alloc (.cells #[pv k] 3)).heap.size from Nat.le_trans hb.size (by simp))
      clear hb hks0 hks2 hl hs' hsn' hz hm hBB
      go_wp2_with (at_builtin; refine wpList_append_own _ rfl _ _ 24 rfl w.heap.size 3 i0 (.int .i64 0) 1 8 Try.underlying24 hi hz0 hz1 hz2 rfl (by decide) _ ks1.length (ks1.map pv) rfl (hown1.alloc _) ⟨wr.heap.size, 0, none⟩ 1 1 [pv k] rfl rfl ?q1 ?q2 ?q3 ?q4 HSZ.out ?_)
      case q1 => intro j u hj; rcases j with _ | j <;> simp at hj; subst hj; simp [Addr.add, go_sem, pv]
      case q2 => intro u hu; simp at hu; subst hu; rfl
      case q3 => have := HE.out; simp [maxLen]; omega
      case q4 => have := HE.out; omega
      intro v2 W2 hown2 hg2 _
      have hb2 : Below w.heap.size w W2 := (HBW.out.alloc HBW.out.size _).grown hg2 HSZ.out (fun j hj => (hown1.lt j hj).1)
      obtain ⟨d0, d1, d2, d3, d4, -⟩ := (HR.out.later hb2) k m HM.out
      rw [HS'.out] at d4
      have HB2 := Lib.hid hb2
      have HO2 := Lib.hid hown2
      clear hg2 hb2 hown2 hown1 c0 c1 c2 c3 c4
      go_wp2
      go_roundw
      case rel => exact ⟨k + s', ks1 ++ [k], ks2, HE.out.1, rfl, HE.out.2.1, HE.out.2.2.1, HE.out.2.2.2.1, by simpa [pv] using HO2.out, by simpa using HE.out.2.2.2.2.1, HB2.out⟩
      case measure => have := HE.out; simp [intOf]; omega
end Go.Proofs.Ytincgkolpicipaa.kin
namespace Go.Proofs.Ytincgkolpicipaa.kin
open Go.RowKit
open Go.Proofs.Ytincgkolpicipaa.stack (step_after AnyBool AnyInt add_off owns_form)
theorem expr_says (q o cap : Nat) (ns : List Nd) (a : Nat) (n : Nd) (hn : ns[a]? = some n) (w : World) (hrow : Row w q o ns) :
    Calls Try.prog 37 #[.slice (some ⟨q, o, none⟩) ns.length cap, .int .i64 a] w fun r w' => r = .returned (.bool (ex ns a)) ∧ w = w' := by
  obtain ⟨c0, c1, c2, c3, c4, -⟩ := hrow a n hn
  have hal := (List.getElem?_eq_some_iff.1 hn).1
  have hlt : (a : Int) < (ns.length : Int) := by omega
  have hex : ex ns a = (decide (1 ≤ n.k) && decide (n.k ≤ 30)) := by unfold ex; rw [hn]
  rw [hex]
  clear hrow hn hex hal c1 c2 c3 c4
  by_cases h1 : 1 ≤ n.k
  · have t1 : decide (1 ≤ n.k) = true := decide_eq_true h1
    by_cases h2 : n.k ≤ 30
    · have t2 : decide (n.k ≤ 30) = true := decide_eq_true h2
      rw [t1, t2]
      clear h1 h2
      go_enter Try.func37, Try.ntmps37
      go_wp2
      go_ret
      exact ⟨rfl, rfl⟩
    · have t2 : decide (n.k ≤ 30) = false := decide_eq_false h2
      rw [t1, t2]
      clear h1 h2
      go_enter Try.func37, Try.ntmps37
      go_wp2
      go_ret
      exact ⟨rfl, rfl⟩
  · have t1 : decide (1 ≤ n.k) = false := decide_eq_false h1
    rw [t1, Bool.false_and]
    clear h1
    go_enter Try.func37, Try.ntmps37
    go_wp2
    go_ret
    exact ⟨rfl, rfl⟩
theorem exprs_says (q o cap : Nat) (ns : List Nd) (v : Value) (ks : List Nat) (hks : ∀ k ∈ ks, k < ns.length) (B : Nat) (w : World) (hrow : Row w q o ns) (hp : Plc B w v ks) :
    Calls Try.prog 73 #[.slice (some ⟨q, o, none⟩) ns.length cap, v] w fun r w' => Says r (∀ k ∈ ks, Ex ns k) ∧ Below w.heap.size w w' := by
  obtain ⟨A, pc, rfl, -, hl, hp⟩ := hp
  have HP := Lib.hid hp
  have HR := Lib.hid hrow
  have HK := Lib.hid hks
  generalize hn : ks.length = m at hl ⊢
  have HN := Lib.hid hn
  clear hn hp hrow hks
  go_enter Try.func73, Try.ntmps73
  go_wp2
  go_loopw [5] (fun i wr => ∃ k : Nat, k ≤ m ∧ i = .int .i64 k ∧ Below w.heap.size w wr ∧ ∀ j x, j < k → ks[j]? = some x → Ex ns x) (fun i _ => m - (intOf i).toNat)
  case atStart => exact ⟨0, Nat.zero_le _, rfl, Below.refl _ _, fun j x h => by omega⟩
  case round =>
    obtain ⟨k, hk, rfl, hb, hall⟩ := hrel
    have HBW := Lib.hid hb
    have HA := Lib.hid hall
    by_cases hlt : k < m
    · obtain ⟨x, hx⟩ := getElem?_lt (show k < ks.length by have := HN.out; omega)
      obtain ⟨p, po, rfl, -, -, hc⟩ : ∃ p po, A = some ⟨p, po, none⟩ ∧ B ≤ p ∧ p < w.heap.size ∧ ∀ (j k : Nat), ks[j]? = some k → w.cell? ⟨p, po + j, none⟩ = some (.int .i64 k) := by
        rcases HP.out with ⟨h, -, -⟩ | h
        · rw [h] at hx; simp at hx
        · exact h
      have hcell := cell_later hb (hc k x hx)
      obtain ⟨n, hn⟩ := getElem?_lt (HK.out x (List.mem_of_getElem? hx))
      have HC := Lib.hid (expr_says q o cap ns x n hn wr (HR.out.later hb))
      have hki : (k : Int) < (m : Int) := by omega
      have HX := Lib.hid hx
      clear hb hall hc hx hn
      cases hex : ex ns x
      · rw [hex] at HC
        go_wp2_with (go_at_call 37; refine HC.out.mono ?_; rintro r w1 ⟨rfl, rfl⟩)
        go_ret
        exact ⟨.no, HBW.out⟩
      · rw [hex] at HC
        go_wp2_with (go_at_call 37; refine HC.out.mono ?_; rintro r w1 ⟨rfl, rfl⟩)
        go_roundw
        case rel => exact ⟨k + 1, by omega, by go_num, HBW.out, fun j y hj hy => by
          by_cases hjk : j < k
          · exact HA.out j y hjk hy
          · have : j = k := by omega
            subst this
            have := HX.out; rw [hy] at this; cases this
            exact ex_iff.1 hex⟩
        case measure => simp [intOf]; omega
    · have hki : ¬ (k : Int) < (m : Int) := by omega
      clear hb hall
      go_wp2
      go_ret
      refine ⟨.yes fun x hx => ?_, HBW.out⟩
      obtain ⟨j, hj⟩ := List.getElem?_of_mem hx
      exact HA.out j x (by have := (List.getElem?_eq_some_iff.1 hj).1; have := HN.out; omega) hj
end Go.Proofs.Ytincgkolpicipaa.kin
namespace Go.Proofs.Ytincgkolpicipaa.kin
open Go.RowKit
open Go.Proofs.Ytincgkolpicipaa.stack (step_after AnyBool AnyInt add_off owns_form)
theorem bdn {B : Nat} {w w' : World} (h : Below B w w') (n : Nat) : Below B w (w'.drewN n) := ⟨h.os, h.tape, h.output, h.size, h.block⟩
/-- A slice of kinds. -/
def Cs (W : World) (v : Value) (cs : List Int) : Prop :=
  ∃ (p : Nat) (cap : Nat), v = .slice (some ⟨p, 0, none⟩) cs.length cap ∧ cs.length ≤ 3 ∧ ∀ (j : Nat) (c : Int), cs[j]? = some c → W.cell? ⟨p, j, none⟩ = some (.int .i64 c)
theorem Cs.later {W W' : World} {v : Value} {cs : List Int} (h : Cs W v cs) (hb : Below W.heap.size W W') : Cs W' v cs := by
  obtain ⟨p, cap, hv, hl, h⟩ := h
  exact ⟨p, cap, hv, hl, fun j k hj => cell_later hb (h j k hj)⟩
set_option maxHeartbeats 1000000 in
theorem kinds_says (q o cap : Nat) (ns : List Nd) (v cv : Value) (ks : List Nat) (cs : List Int) (hks : ∀ k ∈ ks, k < ns.length) (B : Nat) (w : World) (hrow : Row w q o ns) (hp : Plc B w v ks) (hcs : Cs w cv cs) :
    Calls Try.prog 74 #[.slice (some ⟨q, o, none⟩) ns.length cap, v, cv] w fun r w' => Says r (∀ k ∈ ks, ∃ n, ns[k]? = some n ∧ n.k ∈ cs) ∧ Below w.heap.size w w' := by
  obtain ⟨A, pc, rfl, -, hl, hp⟩ := hp
  obtain ⟨g, gc, rfl, hcl, hc3⟩ := hcs
  have HP := Lib.hid hp
  have HR := Lib.hid hrow
  have HK := Lib.hid hks
  have HC := Lib.hid hc3
  generalize hn : ks.length = m at hl ⊢
  generalize hc : cs.length = mc at hcl ⊢
  have HN := Lib.hid hn
  have HCN := Lib.hid hc
  clear hn hp hrow hks hc hc3
  go_enter Try.func74, Try.ntmps74
  go_wp2
  go_loopw [7, 8, 9] (fun i _ _ wr => ∃ k : Nat, k ≤ m ∧ i = .int .i64 k ∧ Below w.heap.size w wr ∧ ∀ j x, j < k → ks[j]? = some x → ∃ n, ns[x]? = some n ∧ n.k ∈ cs) (fun i _ _ _ => m - (intOf i).toNat)
  case atStart => exact ⟨0, Nat.zero_le _, rfl, Below.refl _ _, fun j x h => by omega⟩
  case round =>
    obtain ⟨k, hk, rfl, hb, hall⟩ := hrel
    have HBW := Lib.hid hb
    have HA := Lib.hid hall
    by_cases hlt : k < m
    · obtain ⟨x, hx⟩ := getElem?_lt (show k < ks.length by have := HN.out; omega)
      obtain ⟨p, po, rfl, -, -, hc⟩ : ∃ p po, A = some ⟨p, po, none⟩ ∧ B ≤ p ∧ p < w.heap.size ∧ ∀ (j k : Nat), ks[j]? = some k → w.cell? ⟨p, po + j, none⟩ = some (.int .i64 k) := by
        rcases HP.out with ⟨h, -, -⟩ | h
        · rw [h] at hx; simp at hx
        · exact h
      obtain ⟨n, hn⟩ := getElem?_lt (HK.out x (List.mem_of_getElem? hx))
      have hki : (k : Int) < (m : Int) := by omega
      have hxl : (x : Int) < (ns.length : Int) := by have := (List.getElem?_eq_some_iff.1 hn).1; omega
      have HX := Lib.hid hx
      have HNN := Lib.hid hn
      have HCX := Lib.hid (hc k x hx)
      clear hb hall hc hx hn
      go_wp2
      rename World => wo
      go_loopw [8, 9] (fun b i wr => ∃ (is : Bool) (j : Nat), j ≤ mc ∧ b = .bool is ∧ i = .int .i64 j ∧ Below w.heap.size w wr ∧ (is = true → n.k ∈ cs)) (fun _ i _ => mc - (intOf i).toNat)
      case atStart => exact ⟨false, 0, Nat.zero_le _, rfl, rfl, HBW.out, fun h => by cases h⟩
      case round =>
        obtain ⟨is, j, hj, rfl, rfl, hb2, his⟩ := hrel
        have HB2 := Lib.hid hb2
        have HIS := Lib.hid his
        obtain ⟨c0, -⟩ := (HR.out.later hb2) x n HNN.out
        have hcx := cell_later hb2 HCX.out
        by_cases hjl : j < mc
        · obtain ⟨c, hc⟩ := getElem?_lt (show j < cs.length by have := HCN.out; omega)
          have hcc := cell_later hb2 (HC.out j c hc)
          have hji : (j : Int) < (mc : Int) := by omega
          have HM := Lib.hid (List.mem_of_getElem? hc)
          have HJ := Lib.hid hjl
          clear hb2 his hc hjl
          cases is
          · by_cases hnc : n.k = c
            · rw [hnc] at c0
              have t1 : (c == c) = true := by simp
              have HNC := Lib.hid hnc
              clear hnc
              go_wp2
              go_quiet (fail)
              go_wp2
              go_roundw
              case rel => exact ⟨true, j + 1, by omega, rfl, by go_num, bdn HB2.out _, fun _ => by rw [HNC.out]; exact HM.out⟩
              case measure => have := HJ.out; simp [intOf]; omega
            · have t1 : (n.k == c) = false := by simpa using hnc
              clear hnc
              go_wp2
              go_quiet (fail)
              go_wp2
              go_roundw
              case rel => exact ⟨false, j + 1, by omega, rfl, by go_num, bdn HB2.out _, fun h => by cases h⟩
              case measure => have := HJ.out; simp [intOf]; omega
          · go_wp2
            go_quiet (fail)
            go_wp2
            go_roundw
            case rel => exact ⟨true, j + 1, by omega, rfl, by go_num, bdn HB2.out _, fun _ => HIS.out trivial⟩
            case measure => have := HJ.out; simp [intOf]; omega
        · have hji : ¬ (j : Int) < (mc : Int) := by omega
          clear hb2 his hjl
          cases is
          · go_wp2
            go_ret
            exact ⟨.no, HB2.out⟩
          · go_wp2
            go_roundw
            case rel => exact ⟨k + 1, by omega, by go_num, HB2.out, fun i y hi hy => by
              by_cases hik : i < k
              · exact HA.out i y hik hy
              · have : i = k := by omega
                subst this
                have := HX.out; rw [hy] at this; cases this
                exact ⟨n, HNN.out, HIS.out rfl⟩⟩
            case measure => simp [intOf]; omega
    · have hki : ¬ (k : Int) < (m : Int) := by omega
      clear hb hall
      go_wp2
      go_ret
      refine ⟨.yes fun x hx => ?_, HBW.out⟩
      obtain ⟨j, hj⟩ := List.getElem?_of_mem hx
      exact HA.out j x (by have := (List.getElem?_eq_some_iff.1 hj).1; have := HN.out; omega) hj
end Go.Proofs.Ytincgkolpicipaa.kin
namespace Go.Proofs.Ytincgkolpicipaa.kin
open Go.RowKit
open Go.Proofs.Ytincgkolpicipaa.stack (step_after AnyBool AnyInt add_off owns_form)
/-- A part of a slice of places. -/
theorem Plc.drop {B : Nat} {W : World} {A : Option Addr} {n cap : Nat} {ks ls : List Nat} (h : Plc B W (.slice A n cap) (ks ++ ls)) {q o : Nat} (hA : A = some ⟨q, o, none⟩) : Plc B W (.slice (some ⟨q, o + ks.length, none⟩) ls.length (cap - ks.length)) ls := by
  obtain ⟨A', cap', hv, hc, hl, h⟩ := h
  cases hv
  rw [List.length_append] at hc hl
  refine ⟨_, _, rfl, by omega, by omega, ?_⟩
  rcases h with ⟨-, h, -⟩ | ⟨q', o', ha, hB, hq, h⟩
  · rw [hA] at h; cases h
  · rw [hA] at ha; cases ha
    exact .inr ⟨q, _, rfl, hB, hq, fun j k hj => by
      have := h (ks.length + j) k (by rw [List.getElem?_append_right (by omega)]; simpa using hj)
      rw [← this]; congr 2; omega⟩
theorem Plc.take {B : Nat} {W : World} {A : Option Addr} {n cap : Nat} {ks ls : List Nat} (h : Plc B W (.slice A n cap) (ks ++ ls)) {q o : Nat} (hA : A = some ⟨q, o, none⟩) : Plc B W (.slice (some ⟨q, o, none⟩) ks.length cap) ks := by
  obtain ⟨A', cap', hv, hc, hl, h⟩ := h
  cases hv
  rw [List.length_append] at hc hl
  refine ⟨_, _, rfl, by omega, by omega, ?_⟩
  rcases h with ⟨-, h, -⟩ | ⟨q', o', ha, hB, hq, h⟩
  · rw [hA] at h; cases h
  · rw [hA] at ha; cases ha
    exact .inr ⟨q, o, rfl, hB, hq, fun j k hj => h j k (by rw [List.getElem?_append_left (List.getElem?_eq_some_iff.1 hj).1]; exact hj)⟩
/-- Where a place of a slice lies. -/
theorem Plc.at {B : Nat} {W : World} {v : Value} {ks : List Nat} (h : Plc B W v ks) {j k : Nat} (hj : ks[j]? = some k) : ∃ q o cap, v = .slice (some ⟨q, o, none⟩) ks.length cap ∧ ks.length ≤ cap ∧ ks.length ≤ 400 ∧ B ≤ q ∧ q < W.heap.size ∧ W.cell? ⟨q, o + j, none⟩ = some (.int .i64 k) := by
  obtain ⟨A, cap, hv, hc, hl, h⟩ := h
  rcases h with ⟨rfl, -⟩ | ⟨q, o, rfl, hB, hq, h⟩
  · simp at hj
  · exact ⟨q, o, cap, hv, hc, hl, hB, hq, h j k hj⟩
theorem Plc.form {B : Nat} {W : World} {v : Value} {ks : List Nat} (h : Plc B W v ks) : ∃ A cap, v = .slice A ks.length cap ∧ ks.length ≤ cap ∧ ks.length ≤ 400 := by
  obtain ⟨A, cap, hv, hc, hl, -⟩ := h
  exact ⟨A, cap, hv, hc, hl⟩
theorem cs_new (w : World) (cs : List Int) (t : TypeId) (h : cs.length ≤ 3) : Cs (w.alloc (.cells (cs.map (Value.int .i64)).toArray t)) (.slice (some ⟨w.heap.size, 0, none⟩) cs.length cs.length) cs :=
  ⟨_, _, rfl, h, fun j c hj => by rw [World.cell?_alloc_at _ _ _ _ rfl]; simp [hj]⟩
set_option maxHeartbeats 1000000 in
theorem specs_says (q o cap : Nat) (ns : List Nd) (v : Value) (ks : List Nat) (hks : ∀ k ∈ ks, k < ns.length) (B : Nat) (w : World) (hrow : Row w q o ns) (hp : Plc B w v ks) :
    Calls Try.prog 92 #[.slice (some ⟨q, o, none⟩) ns.length cap, v] w fun r w' => Says r (Spc ns ks) ∧ Below w.heap.size w w' := by
  cases ks with
  | nil =>
    obtain ⟨A, pc, rfl, -, -⟩ := hp.form
    clear hp hrow
    go_enter Try.func92, Try.ntmps92
    go_wp2
    go_ret
    exact ⟨.no, Below.refl _ _⟩
  | cons a r =>
    obtain ⟨p, po, pc, rfl, -, -, -, -, c0⟩ := hp.at (j := 0) (k := a) rfl
    rw [Nat.add_zero] at c0
    obtain ⟨n, hn⟩ := getElem?_lt (hks a (by simp))
    obtain ⟨d0, -⟩ := hrow a n hn
    have hal : (a : Int) < (ns.length : Int) := by have := (List.getElem?_eq_some_iff.1 hn).1; omega
    have hlen : (0 : Int) < ((a :: r).length : Int) := by simp
    have HK := Lib.hid (fun w' cv (hb : Below w.heap.size w w') (hc : Cs w' cv [38, 39]) => (kinds_says q o cap ns _ cv (a :: r) [38, 39] hks B w' (hrow.later hb) (hp.later hb) hc).mono (R' := fun r' w1 => Says r' (∀ k ∈ a :: r, ∃ n, ns[k]? = some n ∧ n.k ∈ ([38, 39] : List Int)) ∧ Below w.heap.size w w1) fun r' w1 h => ⟨h.1, step_after hb h.2⟩)
    have HN := Lib.hid hn
    generalize hm : (a :: r).length = m at hlen c0 ⊢
    rw [hm] at HK
    clear hp hrow hn hm
    cases hq : (n.k == 38)
    · go_enter Try.func92, Try.ntmps92
      go_wp2
      go_ret
      exact ⟨.no, Below.refl _ _⟩
    · go_enter Try.func92, Try.ntmps92
      go_wp2_with (go_at_call 74; refine (HK.out _ _ ((Below.refl _ _).alloc (Nat.le_refl _) _) (cs_new w [38, 39] _ (by decide))).mono ?_; rintro r' w1 ⟨⟨b, rfl, hbb⟩, hb⟩; have HB := Lib.hid hb; clear hb; have HBB := Lib.hid hbb; clear hbb)
      go_ret
      exact ⟨⟨b, rfl, fun h => ⟨⟨a, r, n, rfl, HN.out, by simpa using hq⟩, HBB.out h⟩⟩, HB.out⟩
theorem em_false {t : ByteArray} : t.toList.isEmpty = false ↔ t ≠ ⟨#[]⟩ := by
  rw [ByteArray.toList_eq]
  constructor
  · rintro h rfl; cases h
  · intro h
    cases hx : t.data.toList.isEmpty with
    | false => rfl
    | true =>
      refine absurd ?_ h
      rw [List.isEmpty_iff] at hx
      cases t with
      | mk d => simp at hx; simp [hx]
theorem em_true {t : ByteArray} : t.toList.isEmpty = true ↔ t = ⟨#[]⟩ := by
  have := @em_false t
  cases h : t.toList.isEmpty
  · rw [h] at this
    exact ⟨fun h => (by cases h), fun h => absurd h (this.1 rfl)⟩
  · rw [h] at this
    exact ⟨fun _ => Decidable.byContradiction fun h => (by have := this.2 h; cases this), fun _ => rfl⟩
theorem named_pairs {ns : List Nd} {ks : List Nat} (h : ∀ (i j a b : Nat), i ≤ j → ks[i]? = some a → ks[j]? = some b → Named ns a → Named ns b) : ks.Pairwise (fun a b => Named ns a → Named ns b) := by
  rw [List.pairwise_iff_getElem]
  intro i j hi hj hij
  exact h i j _ _ (by omega) (List.getElem?_eq_getElem hi) (List.getElem?_eq_getElem hj)
set_option maxHeartbeats 1000000 in
theorem args_says (q o cap : Nat) (ns : List Nd) (v : Value) (ks : List Nat) (hks : ∀ k ∈ ks, k < ns.length) (B : Nat) (w : World) (hrow : Row w q o ns) (hp : Plc B w v ks) :
    Calls Try.prog 94 #[.slice (some ⟨q, o, none⟩) ns.length cap, v] w fun r w' => Says r (Args ns ks) ∧ Below w.heap.size w w' := by
  obtain ⟨A, pc, rfl, -, hl⟩ := hp.form
  have HP := Lib.hid hp
  have HR := Lib.hid hrow
  have HL := Lib.hid hks
  have HK := Lib.hid (fun w' cv (hb : Below w.heap.size w w') (hc : Cs w' cv [34]) => (kinds_says q o cap ns _ cv ks [34] hks B w' (hrow.later hb) (hp.later hb) hc).mono (R' := fun r' w1 => (r' = .returned (.bool false) ∨ r' = .returned (.bool true) ∧ Kd ns [34] ks) ∧ Below w.heap.size w w1) fun r' w1 h => ⟨h.1.cases, step_after hb h.2⟩)
  generalize hm : ks.length = m at hl HK ⊢
  have HM := Lib.hid hm
  clear hp hrow hks hm
  go_enter Try.func94, Try.ntmps94
  go_wp2_with (go_at_call 74; refine (HK.out _ _ ((Below.refl _ _).alloc (Nat.le_refl _) _) (cs_new w [34] _ (by decide))).mono ?_; rintro r' w1 ⟨rfl | ⟨rfl, hkd⟩, hb⟩; all_goals (have HB := Lib.hid hb; clear hb); try (have HKD := Lib.hid hkd; clear hkd))
  · go_ret
    exact ⟨.no, HB.out⟩
  go_loopw [5] (fun i wr => ∃ k : Nat, 1 ≤ k ∧ (k ≤ m ∨ k = 1) ∧ i = .int .i64 k ∧ Below w.heap.size w wr ∧ ∀ i j a b, i ≤ j → j < k → ks[i]? = some a → ks[j]? = some b → Named ns a → Named ns b) (fun i _ => m - (intOf i).toNat)
  case atStart => exact ⟨1, Nat.le_refl _, .inr rfl, rfl, HB.out, fun i j a b hij hj ha hb hn => by
    have h1 : j = 0 := by omega
    have h2 : i = 0 := by omega
    subst h1; subst h2; rw [ha] at hb; cases hb; exact hn⟩
  case round =>
    obtain ⟨k, hk1, hk, rfl, hb, hall⟩ := hrel
    have HBW := Lib.hid hb
    have HA := Lib.hid hall
    by_cases hlt : k < m
    · have hmm := HM.out
      obtain ⟨x, hx⟩ := getElem?_lt (show k < ks.length by omega)
      obtain ⟨y, hy⟩ := getElem?_lt (show k - 1 < ks.length by omega)
      obtain ⟨p, po, pc', hv, -, -, -, -, cx⟩ := (HP.out.later hb).at hx
      obtain ⟨p', po', pc'', hv', -, -, -, -, cy⟩ := (HP.out.later hb).at hy
      cases hv
      cases hv'
      obtain ⟨n, hn⟩ := getElem?_lt (HL.out x (List.mem_of_getElem? hx))
      obtain ⟨n', hn'⟩ := getElem?_lt (HL.out y (List.mem_of_getElem? hy))
      have hxl : (x : Int) < (ns.length : Int) := by have := (List.getElem?_eq_some_iff.1 hn).1; omega
      have hyl : (y : Int) < (ns.length : Int) := by have := (List.getElem?_eq_some_iff.1 hn').1; omega
      obtain ⟨-, -, dx, -⟩ := (HR.out.later hb) x n hn
      obtain ⟨-, -, dy, -⟩ := (HR.out.later hb) y n' hn'
      have w1 : IntKind.i64.wrap ((k : Int) - 1) = ((k - 1 : Nat) : Int) := by rw [IntWalk.i64_in _ (by omega)]; omega
      have hki : (k : Int) < (m : Int) := by omega
      have hkj : ((k - 1 : Nat) : Int) < (m : Int) := by omega
      have STEP := Lib.hid (show (n'.t.toList.isEmpty = true ∨ n.t.toList.isEmpty = false) → ∀ i j a b, i ≤ j → j < k + 1 → ks[i]? = some a → ks[j]? = some b → Named ns a → Named ns b from fun h i j a b hij hj ha hb hn3 => by
        by_cases hjk : j = k
        · subst hjk
          rw [hx] at hb; cases hb
          by_cases hi : i = j
          · subst hi; rw [hx] at ha; cases ha; exact hn3
          · obtain ⟨z, hz, hz2⟩ := HA.out i (j - 1) a y (by omega) (by omega) ha hy hn3
            rw [hn'] at hz; cases hz
            rcases h with h | h
            · exact absurd (em_true.1 h) hz2
            · exact ⟨n, hn, em_false.1 h⟩
        · exact HA.out i j a b hij (by omega) ha hb hn3)
      have HK1 := Lib.hid (And.intro hk1 hk)
      clear hb hall hx hy hn hn' hmm hk1 hk
      cases t1 : n'.t.toList.isEmpty
      · cases t2 : n.t.toList.isEmpty
        · go_wp2
          go_roundw
          case rel => exact ⟨k + 1, by omega, .inl (by omega), by go_num, HBW.out, STEP.out (.inr t2)⟩
          case measure => simp [intOf]; omega
        · go_wp2
          go_ret
          exact ⟨.no, HBW.out⟩
      · go_wp2
        go_roundw
        case rel => exact ⟨k + 1, by omega, .inl (by omega), by go_num, HBW.out, STEP.out (.inl t1)⟩
        case measure => simp [intOf]; omega
    · have hki : ¬ (k : Int) < (m : Int) := by omega
      clear hb hall
      go_wp2
      go_ret
      exact ⟨.yes ⟨HKD.out, named_pairs fun i j a b hij ha hb => HA.out i j a b hij (by have := (List.getElem?_eq_some_iff.1 hb).1; have := HM.out; omega) ha hb⟩, HBW.out⟩
end Go.Proofs.Ytincgkolpicipaa.kin
namespace Go.Proofs.Ytincgkolpicipaa.kin
open Go.RowKit
open Go.Proofs.Ytincgkolpicipaa.stack (step_after AnyBool AnyInt add_off owns_form)
theorem Plc.from_ {B : Nat} {W : World} {A : Option Addr} {n cap : Nat} {ks ls : List Nat} (h : Plc B W (.slice A n cap) (ks ++ ls)) {q o : Nat} (hA : A = some ⟨q, o, none⟩) : Plc B W (.slice (if cap = ks.length then some ⟨q, o, none⟩ else some ⟨q, o + ks.length, none⟩) ls.length (cap - ks.length)) ls := by
  by_cases hc : cap = ks.length
  · rw [if_pos hc]
    obtain ⟨A', cap', hv, hcp, hl, h⟩ := h
    cases hv
    rw [List.length_append] at hcp hl
    have hls : ls = [] := List.length_eq_zero_iff.1 (by omega)
    subst hls
    refine ⟨_, _, rfl, by simp, by simp, ?_⟩
    rcases h with ⟨-, h, -⟩ | ⟨q', o', ha, hB, hq, h⟩
    · rw [hA] at h; cases h
    · rw [hA] at ha; cases ha
      exact .inr ⟨q, o, rfl, hB, hq, fun j k hj => by simp at hj⟩
  · rw [if_neg hc]
    exact Plc.drop h hA
/-- Locals, and one field among them. -/
def OneF (ns : List Nd) (l : List Nat) : Prop := ∃ (a b : List Nat) (k : Nat) (x : Nd), l = a ++ k :: b ∧ Kd ns [36] a ∧ ns[k]? = some x ∧ x.k = 35 ∧ x.m = 2 ∧ x.o = 0 ∧ Kd ns [36] b
def Cnt (ns : List Nd) (f : Nat) (l : List Nat) : Prop := (f = 0 ∧ Kd ns [36] l) ∨ (f = 1 ∧ OneF ns l) ∨ 2 ≤ f
theorem Kd.snoc {ns : List Nd} {cs : List Int} {l : List Nat} (h : Kd ns cs l) {k : Nat} {n : Nd} (hn : ns[k]? = some n) (hk : n.k ∈ cs) : Kd ns cs (l ++ [k]) := fun j hj => by
  rcases List.mem_append.1 hj with hj | hj
  · exact h j hj
  · rw [List.mem_singleton] at hj; subst hj; exact ⟨n, hn, hk⟩
theorem Cnt.loc {ns : List Nd} {f : Nat} {l : List Nat} (h : Cnt ns f l) {k : Nat} {n : Nd} (hn : ns[k]? = some n) (hk : n.k = 36) : Cnt ns f (l ++ [k]) := by
  rcases h with ⟨hf, h⟩ | ⟨hf, a, b, j, x, rfl, h1, h2, h3, h4, h5, h6⟩ | h
  · exact .inl ⟨hf, h.snoc hn (by simp [hk])⟩
  · exact .inr (.inl ⟨hf, a, b ++ [k], j, x, by simp, h1, h2, h3, h4, h5, h6.snoc hn (by simp [hk])⟩)
  · exact .inr (.inr h)
theorem Cnt.fld {ns : List Nd} {f : Nat} {l : List Nat} (h : Cnt ns f l) {k : Nat} {n : Nd} (hn : ns[k]? = some n) (hk : n.k = 35) (hm : n.m = 2) (ho : n.o = 0) : Cnt ns (f + 1) (l ++ [k]) := by
  rcases h with ⟨hf, h⟩ | ⟨hf, -⟩ | h
  · subst hf; exact .inr (.inl ⟨rfl, l, [], k, n, rfl, h, hn, hk, hm, ho, fun j hj => by simp at hj⟩)
  · subst hf; exact .inr (.inr (Nat.le_refl _))
  · exact .inr (.inr (by omega))
def CompOk (ns : List Nd) (ks : List Nat) : Prop := ∃ f sp, ks = f ++ sp ∧ OneF ns f ∧ Spc ns sp
set_option maxHeartbeats 2000000 in
theorem shapedComp_says (q o cap : Nat) (ns : List Nd) (v : Value) (ks : List Nat) (hks : ∀ k ∈ ks, k < ns.length) (B : Nat) (w : World) (hrow : Row w q o ns) (hp : Plc B w v ks) :
    Calls Try.prog 93 #[.slice (some ⟨q, o, none⟩) ns.length cap, v] w fun r w' => Says r (CompOk ns ks) ∧ Below w.heap.size w w' := by
  obtain ⟨A, pc, rfl, -, hl⟩ := hp.form
  have HP := Lib.hid hp
  have HR := Lib.hid hrow
  have HL := Lib.hid hks
  generalize hm : ks.length = m at hl ⊢
  have HM := Lib.hid hm
  clear hp hrow hks hm
  go_enter Try.func93, Try.ntmps93
  go_wp2
  go_loopw [5, 6] (fun fv i wr => ∃ (k f : Nat), k ≤ m ∧ f ≤ k ∧ fv = .int .i64 f ∧ i = .int .i64 k ∧ Below w.heap.size w wr ∧ Cnt ns f (ks.take k)) (fun _ i _ => m - (intOf i).toNat)
  case atStart => exact ⟨0, 0, Nat.zero_le _, Nat.le_refl _, rfl, rfl, Below.refl _ _, .inl ⟨rfl, fun j hj => by simp at hj⟩⟩
  case round =>
    obtain ⟨k, f, hk, hf, rfl, rfl, hb, hcnt⟩ := hrel
    have HBW := Lib.hid hb
    have HC := Lib.hid hcnt
    have FIN := Lib.hid (show f = 1 → ∃ p po, A = some ⟨p, po, none⟩ ∧ Calls Try.prog 92 #[.slice (some ⟨q, o, none⟩) ns.length cap, .slice (if pc = k then some ⟨p, po, none⟩ else some ⟨p, po + k, none⟩) (m - k) (pc - k)] wr fun r w' => Says r (CompOk ns ks) ∧ Below w.heap.size w w' from fun hf1 => by
      have hc := hcnt
      rcases hc with ⟨h, -⟩ | ⟨-, h⟩ | h
      · omega
      · have hne : ∃ x, ks[0]? = some x := by
          obtain ⟨a, b, j, x, e, -⟩ := h
          cases ks with
          | nil => simp at e
          | cons y r => exact ⟨y, rfl⟩
        obtain ⟨x, hx⟩ := hne
        obtain ⟨p, po, pc', hv, -, -, -, -, -⟩ := HP.out.at hx
        cases hv
        refine ⟨p, po, rfl, ?_⟩
        have hdrop := Plc.from_ (ks := ks.take k) (ls := ks.drop k) (by rw [List.take_append_drop]; exact HP.out.later hb) rfl
        have hlt : (ks.take k).length = k := by rw [List.length_take]; have := HM.out; omega
        have hld : (ks.drop k).length = m - k := by rw [List.length_drop]; have := HM.out; omega
        rw [hlt, hld] at hdrop
        refine (specs_says q o cap ns _ (ks.drop k) (fun j hj => HL.out j (List.mem_of_mem_drop hj)) B wr (HR.out.later hb) hdrop).mono ?_
        rintro r w' ⟨hs, hb2⟩
        exact ⟨hs.imp fun hsp => ⟨ks.take k, ks.drop k, (List.take_append_drop _ _).symm, h, hsp⟩, step_after hb hb2⟩
      · omega)
    clear hb hcnt
    by_cases hlt : k < m
    · obtain ⟨x, hx⟩ := getElem?_lt (show k < ks.length by have := HM.out; omega)
      obtain ⟨p, po, pc', hv, -, -, -, -, cx⟩ := (HP.out.later HBW.out).at hx
      cases hv
      obtain ⟨n, hn⟩ := getElem?_lt (HL.out x (List.mem_of_getElem? hx))
      have hxl : (x : Int) < (ns.length : Int) := by have := (List.getElem?_eq_some_iff.1 hn).1; omega
      obtain ⟨d0, d1, -, d3, -⟩ := (HR.out.later HBW.out) x n hn
      have hki : (k : Int) < (m : Int) := by omega
      have htk : ks.take (k + 1) = ks.take k ++ [x] := by rw [List.take_add_one, hx]; rfl
      have HTK := Lib.hid htk
      have HN := Lib.hid hn
      clear htk hx hn
      cases t35 : (n.k == 35)
      · cases t36 : (n.k == 36)
        · -- the end
          by_cases hf1 : f = 1
          · subst hf1
            obtain ⟨p', po', hA, HS⟩ := FIN.out rfl
            cases hA
            have HS := Lib.hid HS
            clear FIN
            go_wp2_with (go_at_call 92; refine HS.out.mono ?_; rintro r w1 ⟨⟨b, rfl, hbb⟩, hb⟩; have HB := Lib.hid hb; clear hb; have HBB := Lib.hid hbb; clear hbb)
            all_goals
              go_ret
              exact ⟨⟨b, rfl, HBB.out⟩, HB.out⟩
          · have tf : ((f : Int) == 1) = false := by simp; omega
            clear hf1
            go_wp2
            go_ret
            exact ⟨.no, HBW.out⟩
        · have H36 := Lib.hid (show n.k = 36 by simpa using t36)
          go_wp2
          go_roundw
          case rel => exact ⟨k + 1, f, by omega, by omega, rfl, by go_num, HBW.out, by rw [HTK.out]; exact HC.out.loc HN.out H36.out⟩
          case measure => simp [intOf]; omega
      · have H35 := Lib.hid (show n.k = 35 by simpa using t35)
        cases t2 : (n.m == 2)
        · go_wp2
          go_ret
          exact ⟨.no, HBW.out⟩
        · cases t0 : (n.o == 0)
          · go_wp2
            all_goals
              go_ret
              exact ⟨.no, HBW.out⟩
          · have H2 := Lib.hid (show n.m = 2 by simpa using t2)
            have H0 := Lib.hid (show n.o = 0 by simpa using t0)
            go_wp2
            go_roundw
            case rel => exact ⟨k + 1, f + 1, by omega, by omega, by go_num, by go_num, HBW.out, by rw [HTK.out]; exact HC.out.fld HN.out H35.out H2.out H0.out⟩
            case measure => simp [intOf]; omega
    · have hki : ¬ (k : Int) < (m : Int) := by omega
      by_cases hf1 : f = 1
      · subst hf1
        obtain ⟨p', po', hA, HS⟩ := FIN.out rfl
        cases hA
        have HS := Lib.hid HS
        clear FIN
        go_wp2_with (go_at_call 92; refine HS.out.mono ?_; rintro r w1 ⟨⟨b, rfl, hbb⟩, hb⟩; have HB := Lib.hid hb; clear hb; have HBB := Lib.hid hbb; clear hbb)
        all_goals
          go_ret
          exact ⟨⟨b, rfl, HBB.out⟩, HB.out⟩
      · have tf : ((f : Int) == 1) = false := by simp; omega
        clear hf1
        go_wp2
        go_ret
        exact ⟨.no, HBW.out⟩
end Go.Proofs.Ytincgkolpicipaa.kin
namespace Go.Proofs.Ytincgkolpicipaa.kin
open Go.RowKit
open Go.Proofs.Ytincgkolpicipaa.stack (step_after AnyBool AnyInt add_off owns_form)
theorem cs_new2 (w : World) (o1 : Obj) (cs : List Int) (t : TypeId) (h : cs.length ≤ 3) : Cs ((w.alloc o1).alloc (.cells (cs.map (Value.int .i64)).toArray t)) (.slice (some ⟨w.heap.size + 1, 0, none⟩) cs.length cs.length) cs :=
  ⟨_, _, rfl, h, fun j c hj => by rw [World.cell?_alloc_at _ _ _ _ (by simp)]; simp [hj]⟩
theorem below_two (w : World) (o1 o2 : Obj) : Below w.heap.size w ((w.alloc o1).alloc o2) := ((Below.refl _ _).alloc (Nat.le_refl _) _).alloc (by simp) _
abbrev greatArg (q o cap : Nat) (ns : List Nd) (a : Nat) (v : Value) : Array Value := #[.slice (some ⟨q, o, none⟩) ns.length cap, .int .i64 a, v]
set_option maxRecDepth 100000 in
set_option maxHeartbeats 2000000 in
theorem great_29 (q o cap : Nat) (ns : List Nd) (v : Value) (ks : List Nat) (hks : ∀ k ∈ ks, k < ns.length) (B : Nat) (w : World) (hrow : Row w q o ns) (hp : Plc B w v ks) (a : Nat) (n : Nd) (hn : ns[a]? = some n) (hk : n.k = 29) :
    Calls Try.prog 75 (greatArg q o cap ns a v) w fun r w' => Says r (Shp ns n ks) ∧ Below w.heap.size w w' := by
  obtain ⟨c0, c1, c2, c3, c4, -⟩ := hrow a n hn
  have hal : (a : Int) < (ns.length : Int) := by have := (List.getElem?_eq_some_iff.1 hn).1; omega
  have HB0 := Lib.hid (fun (o1 : Obj) => (Below.refl w.heap.size w).alloc (Nat.le_refl _) o1)
  have HN := Lib.hid hk
  rw [hk] at c0
  by_cases h2 : ks.length = 2
  rotate_left
  · obtain ⟨A, pc, rfl, -, -⟩ := hp.form
    have t2 : ((ks.length : Int) == 2) = false := by simp; omega
    clear hp hrow hn hks hk h2
    go_enter Try.func75, Try.ntmps75
    go_wp2
    go_ret
    refine ⟨.no, ?_⟩
    exact HB0.out _
  match ks, h2 with
  | [x, y], _ =>
    obtain ⟨p, po, pc, rfl, hpc, hl, -, -, cx⟩ := hp.at (j := 0) (k := x) rfl
    obtain ⟨p', po', pc', hv, -, -, -, -, cy⟩ := hp.at (j := 1) (k := y) rfl
    cases hv
    rw [Nat.add_zero] at cx
    obtain ⟨nx, hnx⟩ := getElem?_lt (hks x (by simp))
    obtain ⟨ny, hny⟩ := getElem?_lt (hks y (by simp))
    have HE := Lib.hid (fun w' (hb : Below w.heap.size w w') => expr_says q o cap ns x nx hnx w' (hrow.later hb))
    obtain ⟨dy, -⟩ := hrow y ny hny
    have hyl : (y : Int) < (ns.length : Int) := by have := (List.getElem?_eq_some_iff.1 hny).1; omega
    have cx2 : ∀ o1, (w.alloc o1).cell? ⟨p, po, none⟩ = some (.int .i64 x) := fun o1 => cell_later (HB0.out o1) cx
    have cy2 : ∀ o1, (w.alloc o1).cell? ⟨p, po + 1, none⟩ = some (.int .i64 y) := fun o1 => cell_later (HB0.out o1) cy
    have dy2 : ∀ o1, (w.alloc o1).cell? ⟨q, o + y * 5, none⟩ = some (.int .i64 ny.k) := fun o1 => cell_later (HB0.out o1) dy
    have HY := Lib.hid hny
    clear hp hrow hn hks hk hnx hny
    cases hex : ex ns x
    · simp only [hex] at HE
      clear hex
      go_enter Try.func75, Try.ntmps75
      go_wp2_with (go_at_call 37; refine (HE.out _ (HB0.out _)).mono ?_; rintro r1 w1 ⟨rfl, rfl⟩)
      go_ret
      refine ⟨.no, ?_⟩
      exact HB0.out _
    · have HX := Lib.hid (ex_iff.1 hex)
      simp only [hex] at HE
      clear hex
      cases t3 : (ny.k == 13)
      · go_enter Try.func75, Try.ntmps75
        go_wp2_with (go_at_call 37; refine (HE.out _ (HB0.out _)).mono ?_; rintro r1 w1 ⟨rfl, rfl⟩)
        go_ret
        refine ⟨.no, ?_⟩
        exact HB0.out _
      · have HT := Lib.hid (show ny.k = 13 by simpa using t3)
        go_enter Try.func75, Try.ntmps75
        go_wp2_with (go_at_call 37; refine (HE.out _ (HB0.out _)).mono ?_; rintro r1 w1 ⟨rfl, rfl⟩)
        go_ret
        refine ⟨.yes (.brace HN.out HX.out ?_), ?_⟩
        · intro j hj
          rw [List.mem_singleton] at hj; subst hj
          exact ⟨ny, HY.out, by rw [HT.out]; simp⟩
        · exact HB0.out _
set_option maxRecDepth 100000 in
set_option maxHeartbeats 2000000 in
theorem great_19 (q o cap : Nat) (ns : List Nd) (v : Value) (ks : List Nat) (hks : ∀ k ∈ ks, k < ns.length) (B : Nat) (w : World) (hrow : Row w q o ns) (hp : Plc B w v ks) (a : Nat) (n : Nd) (hn : ns[a]? = some n) (hk : n.k = 19) :
    Calls Try.prog 75 (greatArg q o cap ns a v) w fun r w' => Says r (Shp ns n ks) ∧ Below w.heap.size w w' := by
  obtain ⟨c0, c1, c2, c3, c4, -⟩ := hrow a n hn
  have hal : (a : Int) < (ns.length : Int) := by have := (List.getElem?_eq_some_iff.1 hn).1; omega
  have HB0 := Lib.hid (fun (o1 : Obj) => (Below.refl w.heap.size w).alloc (Nat.le_refl _) o1)
  have HN := Lib.hid hk
  rw [hk] at c0
  rcases List.eq_nil_or_concat ks with rfl | ⟨ps, b, rfl⟩
  · obtain ⟨A, pc, rfl, -, -⟩ := hp.form
    clear hp hrow hn hks hk
    go_enter Try.func75, Try.ntmps75
    go_wp2
    go_ret
    refine ⟨.no, ?_⟩
    exact HB0.out _
  · rw [List.concat_eq_append] at hp hks ⊢
    obtain ⟨p, po, pc, rfl, hpc, hl, hBp, hpw, cb⟩ := hp.at (j := ps.length) (k := b) (by rw [List.getElem?_append_right (Nat.le_refl _)]; simp)
    obtain ⟨nb, hnb⟩ := getElem?_lt (hks b (by simp))
    have htake := hp.take rfl
    have HK := Lib.hid (fun w' cv (hb : Below w.heap.size w w') (hc : Cs w' cv [33]) => (kinds_says q o cap ns _ cv ps [33] (fun j hj => hks j (by simp [hj])) B w' (hrow.later hb) (htake.later hb) hc).mono (R' := fun r' w1 => ((r' = .returned (.bool false)) ∨ (r' = .returned (.bool true) ∧ Kd ns [33] ps)) ∧ Below w.heap.size w w1 ∧ w1.cell? ⟨p, po + ps.length, none⟩ = some (.int .i64 b)) fun r' w1 h => ⟨h.1.cases, step_after hb h.2, cell_later (step_after hb h.2) cb⟩)
    have HE := Lib.hid (fun w' (hb : Below w.heap.size w w') => expr_says q o cap ns b nb hnb w' (hrow.later hb))
    rw [List.length_append] at hpc hl ⊢
    simp only [List.length_cons, List.length_nil, Nat.zero_add] at hpc hl ⊢
    clear hp hrow hn hks hk hnb htake cb
    generalize hm : ps.length = m at hpc hl HK ⊢
    have HM := Lib.hid hm
    have w1 : IntKind.i64.wrap ((m : Int) + 1 - 1) = (m : Int) := by rw [IntWalk.i64_in _ (by omega)]; omega
    have w2 : IntKind.i64.wrap (m : Int) = (m : Int) := IntWalk.i64_in _ (by omega)
    have hml : (m : Int) < (m : Int) + 1 := by omega
    clear hm
    have t2 : decide ((1 : Int) ≤ (m : Int) + 1) = true := decide_eq_true (by omega)
    cases hex : ex ns b
    · simp only [hex] at HE
      clear hex
      go_enter Try.func75, Try.ntmps75
      go_wp2_with (first | (go_at_call 74; refine (HK.out _ _ (below_two w _ _) (cs_new2 w _ [33] 3 (by decide))).mono ?_; rintro r' w1 ⟨rfl | ⟨rfl, hkd⟩, hb, cb⟩; all_goals (have HB := Lib.hid hb; clear hb); try (have HKD := Lib.hid hkd; clear hkd)) | (go_at_call 37; refine (HE.out _ HB.out).mono ?_; rintro r1 w2 ⟨rfl, rfl⟩))
      all_goals
        go_ret
        refine ⟨.no, ?_⟩
        exact HB.out
    · have HX := Lib.hid (ex_iff.1 hex)
      simp only [hex] at HE
      clear hex
      go_enter Try.func75, Try.ntmps75
      go_wp2_with (first | (go_at_call 74; refine (HK.out _ _ (below_two w _ _) (cs_new2 w _ [33] 3 (by decide))).mono ?_; rintro r' w1 ⟨rfl | ⟨rfl, hkd⟩, hb, cb⟩; all_goals (have HB := Lib.hid hb; clear hb); try (have HKD := Lib.hid hkd; clear hkd)) | (go_at_call 37; refine (HE.out _ HB.out).mono ?_; rintro r1 w2 ⟨rfl, rfl⟩))
      · go_ret
        refine ⟨.no, ?_⟩
        exact HB.out
      · go_ret
        refine ⟨.yes ?_, ?_⟩
        · exact .func HN.out HKD.out HX.out
        · exact HB.out
set_option maxRecDepth 100000 in
set_option maxHeartbeats 2000000 in
theorem great_20 (q o cap : Nat) (ns : List Nd) (v : Value) (ks : List Nat) (hks : ∀ k ∈ ks, k < ns.length) (B : Nat) (w : World) (hrow : Row w q o ns) (hp : Plc B w v ks) (a : Nat) (n : Nd) (hn : ns[a]? = some n) (hk : n.k = 20) :
    Calls Try.prog 75 (greatArg q o cap ns a v) w fun r w' => Says r (Shp ns n ks) ∧ Below w.heap.size w w' := by
  obtain ⟨c0, c1, c2, c3, c4, -⟩ := hrow a n hn
  have hal : (a : Int) < (ns.length : Int) := by have := (List.getElem?_eq_some_iff.1 hn).1; omega
  have HB0 := Lib.hid (fun (o1 : Obj) => (Below.refl w.heap.size w).alloc (Nat.le_refl _) o1)
  have HN := Lib.hid hk
  rw [hk] at c0
  rcases List.eq_nil_or_concat ks with rfl | ⟨ps, b, rfl⟩
  · obtain ⟨A, pc, rfl, -, -⟩ := hp.form
    clear hp hrow hn hks hk
    go_enter Try.func75, Try.ntmps75
    go_wp2
    go_ret
    refine ⟨.no, ?_⟩
    exact HB0.out _
  · rw [List.concat_eq_append] at hp hks ⊢
    obtain ⟨p, po, pc, rfl, hpc, hl, hBp, hpw, cb⟩ := hp.at (j := ps.length) (k := b) (by rw [List.getElem?_append_right (Nat.le_refl _)]; simp)
    obtain ⟨nb, hnb⟩ := getElem?_lt (hks b (by simp))
    have htake := hp.take rfl
    have HK := Lib.hid (fun w' cv (hb : Below w.heap.size w w') (hc : Cs w' cv [32]) => (kinds_says q o cap ns _ cv ps [32] (fun j hj => hks j (by simp [hj])) B w' (hrow.later hb) (htake.later hb) hc).mono (R' := fun r' w1 => ((r' = .returned (.bool false)) ∨ (r' = .returned (.bool true) ∧ Kd ns [32] ps)) ∧ Below w.heap.size w w1 ∧ w1.cell? ⟨p, po + ps.length, none⟩ = some (.int .i64 b)) fun r' w1 h => ⟨h.1.cases, step_after hb h.2, cell_later (step_after hb h.2) cb⟩)
    have HE := Lib.hid (fun w' (hb : Below w.heap.size w w') => expr_says q o cap ns b nb hnb w' (hrow.later hb))
    rw [List.length_append] at hpc hl ⊢
    simp only [List.length_cons, List.length_nil, Nat.zero_add] at hpc hl ⊢
    clear hp hrow hn hks hk hnb htake cb
    generalize hm : ps.length = m at hpc hl HK ⊢
    have HM := Lib.hid hm
    have w1 : IntKind.i64.wrap ((m : Int) + 1 - 1) = (m : Int) := by rw [IntWalk.i64_in _ (by omega)]; omega
    have w2 : IntKind.i64.wrap (m : Int) = (m : Int) := IntWalk.i64_in _ (by omega)
    have hml : (m : Int) < (m : Int) + 1 := by omega
    clear hm
    by_cases h2 : 1 ≤ m
    rotate_left
    · have t2 : decide ((2 : Int) ≤ (m : Int) + 1) = false := decide_eq_false (by omega)
      go_enter Try.func75, Try.ntmps75
      go_wp2
      go_ret
      refine ⟨.no, ?_⟩
      exact HB0.out _
    have t2 : decide ((2 : Int) ≤ (m : Int) + 1) = true := decide_eq_true (by omega)
    cases hex : ex ns b
    · simp only [hex] at HE
      clear hex
      go_enter Try.func75, Try.ntmps75
      go_wp2_with (first | (go_at_call 74; refine (HK.out _ _ (below_two w _ _) (cs_new2 w _ [32] 3 (by decide))).mono ?_; rintro r' w1 ⟨rfl | ⟨rfl, hkd⟩, hb, cb⟩; all_goals (have HB := Lib.hid hb; clear hb); try (have HKD := Lib.hid hkd; clear hkd)) | (go_at_call 37; refine (HE.out _ HB.out).mono ?_; rintro r1 w2 ⟨rfl, rfl⟩))
      all_goals
        go_ret
        refine ⟨.no, ?_⟩
        exact HB.out
    · have HX := Lib.hid (ex_iff.1 hex)
      simp only [hex] at HE
      clear hex
      go_enter Try.func75, Try.ntmps75
      go_wp2_with (first | (go_at_call 74; refine (HK.out _ _ (below_two w _ _) (cs_new2 w _ [32] 3 (by decide))).mono ?_; rintro r' w1 ⟨rfl | ⟨rfl, hkd⟩, hb, cb⟩; all_goals (have HB := Lib.hid hb; clear hb); try (have HKD := Lib.hid hkd; clear hkd)) | (go_at_call 37; refine (HE.out _ HB.out).mono ?_; rintro r1 w2 ⟨rfl, rfl⟩))
      · go_ret
        refine ⟨.no, ?_⟩
        exact HB.out
      · go_ret
        refine ⟨.yes ?_, ?_⟩
        · exact .loc HN.out (fun h => by have := HM.out; rw [h] at this; simp at this; omega) HKD.out HX.out
        · exact HB.out
set_option maxRecDepth 100000 in
set_option maxHeartbeats 2000000 in
theorem great_32f (q o cap : Nat) (ns : List Nd) (v : Value) (ks : List Nat) (hks : ∀ k ∈ ks, k < ns.length) (B : Nat) (w : World) (hrow : Row w q o ns) (hp : Plc B w v ks) (a : Nat) (n : Nd) (hn : ns[a]? = some n) (hk : n.k = 32) (hm1 : n.m = 1) :
    Calls Try.prog 75 (greatArg q o cap ns a v) w fun r w' => Says r (Shp ns n ks) ∧ Below w.heap.size w w' := by
  obtain ⟨c0, c1, c2, c3, c4, -⟩ := hrow a n hn
  have hal : (a : Int) < (ns.length : Int) := by have := (List.getElem?_eq_some_iff.1 hn).1; omega
  have HB0 := Lib.hid (fun (o1 : Obj) => (Below.refl w.heap.size w).alloc (Nat.le_refl _) o1)
  have HN := Lib.hid hk
  rw [hk] at c0
  rcases List.eq_nil_or_concat ks with rfl | ⟨ps, b, rfl⟩
  · obtain ⟨A, pc, rfl, -, -⟩ := hp.form
    clear hp hrow hn hks hk
    go_enter Try.func75, Try.ntmps75
    go_wp2
    go_ret
    refine ⟨.no, ?_⟩
    exact HB0.out _
  · rw [List.concat_eq_append] at hp hks ⊢
    obtain ⟨p, po, pc, rfl, hpc, hl, hBp, hpw, cb⟩ := hp.at (j := ps.length) (k := b) (by rw [List.getElem?_append_right (Nat.le_refl _)]; simp)
    obtain ⟨nb, hnb⟩ := getElem?_lt (hks b (by simp))
    have htake := hp.take rfl
    have HK := Lib.hid (fun w' cv (hb : Below w.heap.size w w') (hc : Cs w' cv [33]) => (kinds_says q o cap ns _ cv ps [33] (fun j hj => hks j (by simp [hj])) B w' (hrow.later hb) (htake.later hb) hc).mono (R' := fun r' w1 => ((r' = .returned (.bool false)) ∨ (r' = .returned (.bool true) ∧ Kd ns [33] ps)) ∧ Below w.heap.size w w1 ∧ w1.cell? ⟨p, po + ps.length, none⟩ = some (.int .i64 b)) fun r' w1 h => ⟨h.1.cases, step_after hb h.2, cell_later (step_after hb h.2) cb⟩)
    have HE := Lib.hid (fun w' (hb : Below w.heap.size w w') => expr_says q o cap ns b nb hnb w' (hrow.later hb))
    rw [List.length_append] at hpc hl ⊢
    simp only [List.length_cons, List.length_nil, Nat.zero_add] at hpc hl ⊢
    clear hp hrow hn hks hk hnb htake cb
    generalize hm : ps.length = m at hpc hl HK ⊢
    have HM := Lib.hid hm
    have w1 : IntKind.i64.wrap ((m : Int) + 1 - 1) = (m : Int) := by rw [IntWalk.i64_in _ (by omega)]; omega
    have w2 : IntKind.i64.wrap (m : Int) = (m : Int) := IntWalk.i64_in _ (by omega)
    have hml : (m : Int) < (m : Int) + 1 := by omega
    clear hm
    have HM1 := Lib.hid hm1
    rw [hm1] at c3
    clear hm1
    have t2 : decide ((1 : Int) ≤ (m : Int) + 1) = true := decide_eq_true (by omega)
    cases hex : ex ns b
    · simp only [hex] at HE
      clear hex
      go_enter Try.func75, Try.ntmps75
      go_wp2_with (first | (go_at_call 74; refine (HK.out _ _ (below_two w _ _) (cs_new2 w _ [33] 3 (by decide))).mono ?_; rintro r' w1 ⟨rfl | ⟨rfl, hkd⟩, hb, cb⟩; all_goals (have HB := Lib.hid hb; clear hb); try (have HKD := Lib.hid hkd; clear hkd)) | (go_at_call 37; refine (HE.out _ HB.out).mono ?_; rintro r1 w2 ⟨rfl, rfl⟩))
      all_goals
        go_ret
        refine ⟨.no, ?_⟩
        exact HB.out
    · have HX := Lib.hid (ex_iff.1 hex)
      simp only [hex] at HE
      clear hex
      go_enter Try.func75, Try.ntmps75
      go_wp2_with (first | (go_at_call 74; refine (HK.out _ _ (below_two w _ _) (cs_new2 w _ [33] 3 (by decide))).mono ?_; rintro r' w1 ⟨rfl | ⟨rfl, hkd⟩, hb, cb⟩; all_goals (have HB := Lib.hid hb; clear hb); try (have HKD := Lib.hid hkd; clear hkd)) | (go_at_call 37; refine (HE.out _ HB.out).mono ?_; rintro r1 w2 ⟨rfl, rfl⟩))
      · go_ret
        refine ⟨.no, ?_⟩
        exact HB.out
      · go_ret
        refine ⟨.yes ?_, ?_⟩
        · exact .bindf HN.out HM1.out HKD.out HX.out
        · exact HB.out
set_option maxRecDepth 100000 in
set_option maxHeartbeats 2000000 in
theorem great_32p (q o cap : Nat) (ns : List Nd) (v : Value) (ks : List Nat) (hks : ∀ k ∈ ks, k < ns.length) (B : Nat) (w : World) (hrow : Row w q o ns) (hp : Plc B w v ks) (a : Nat) (n : Nd) (hn : ns[a]? = some n) (hk : n.k = 32) (hm1 : n.m = 0) :
    Calls Try.prog 75 (greatArg q o cap ns a v) w fun r w' => Says r (Shp ns n ks) ∧ Below w.heap.size w w' := by
  obtain ⟨c0, c1, c2, c3, c4, -⟩ := hrow a n hn
  have hal : (a : Int) < (ns.length : Int) := by have := (List.getElem?_eq_some_iff.1 hn).1; omega
  have HB0 := Lib.hid (fun (o1 : Obj) => (Below.refl w.heap.size w).alloc (Nat.le_refl _) o1)
  have HN := Lib.hid hk
  rw [hk] at c0
  rcases List.eq_nil_or_concat ks with rfl | ⟨ps, b, rfl⟩
  · obtain ⟨A, pc, rfl, -, -⟩ := hp.form
    clear hp hrow hn hks hk
    go_enter Try.func75, Try.ntmps75
    go_wp2
    go_ret
    refine ⟨.no, ?_⟩
    exact HB0.out _
  · rw [List.concat_eq_append] at hp hks ⊢
    obtain ⟨p, po, pc, rfl, hpc, hl, hBp, hpw, cb⟩ := hp.at (j := ps.length) (k := b) (by rw [List.getElem?_append_right (Nat.le_refl _)]; simp)
    obtain ⟨nb, hnb⟩ := getElem?_lt (hks b (by simp))
    have htake := hp.take rfl
    have HK := Lib.hid (fun w' cv (hb : Below w.heap.size w w') (hc : Cs w' cv [33]) => (kinds_says q o cap ns _ cv ps [33] (fun j hj => hks j (by simp [hj])) B w' (hrow.later hb) (htake.later hb) hc).mono (R' := fun r' w1 => ((r' = .returned (.bool false)) ∨ (r' = .returned (.bool true) ∧ Kd ns [33] ps)) ∧ Below w.heap.size w w1 ∧ w1.cell? ⟨p, po + ps.length, none⟩ = some (.int .i64 b)) fun r' w1 h => ⟨h.1.cases, step_after hb h.2, cell_later (step_after hb h.2) cb⟩)
    have HE := Lib.hid (fun w' (hb : Below w.heap.size w w') => expr_says q o cap ns b nb hnb w' (hrow.later hb))
    rw [List.length_append] at hpc hl ⊢
    simp only [List.length_cons, List.length_nil, Nat.zero_add] at hpc hl ⊢
    clear hp hrow hn hks hk hnb htake cb
    generalize hm : ps.length = m at hpc hl HK ⊢
    have HM := Lib.hid hm
    have w1 : IntKind.i64.wrap ((m : Int) + 1 - 1) = (m : Int) := by rw [IntWalk.i64_in _ (by omega)]; omega
    have w2 : IntKind.i64.wrap (m : Int) = (m : Int) := IntWalk.i64_in _ (by omega)
    have hml : (m : Int) < (m : Int) + 1 := by omega
    clear hm
    have HM1 := Lib.hid hm1
    rw [hm1] at c3
    clear hm1
    have t2 : decide ((1 : Int) ≤ (m : Int) + 1) = true := decide_eq_true (by omega)
    by_cases h0 : m = 0
    rotate_left
    · have t3 : ((m : Int) + 1 == 1) = false := by simp; omega
      go_enter Try.func75, Try.ntmps75
      go_wp2
      go_ret
      refine ⟨.no, ?_⟩
      exact HB0.out _
    have t3 : ((m : Int) + 1 == 1) = true := by simp; omega
    have HM0 := Lib.hid h0
    clear h0
    cases hex : ex ns b
    · simp only [hex] at HE
      clear hex
      go_enter Try.func75, Try.ntmps75
      go_wp2_with (first | (go_at_call 74; refine (HK.out _ _ (below_two w _ _) (cs_new2 w _ [33] 3 (by decide))).mono ?_; rintro r' w1 ⟨rfl | ⟨rfl, hkd⟩, hb, cb⟩; all_goals (have HB := Lib.hid hb; clear hb); try (have HKD := Lib.hid hkd; clear hkd)) | (go_at_call 37; refine (HE.out _ HB.out).mono ?_; rintro r1 w2 ⟨rfl, rfl⟩))
      all_goals
        go_ret
        refine ⟨.no, ?_⟩
        exact HB.out
    · have HX := Lib.hid (ex_iff.1 hex)
      simp only [hex] at HE
      clear hex
      go_enter Try.func75, Try.ntmps75
      go_wp2_with (first | (go_at_call 74; refine (HK.out _ _ (below_two w _ _) (cs_new2 w _ [33] 3 (by decide))).mono ?_; rintro r' w1 ⟨rfl | ⟨rfl, hkd⟩, hb, cb⟩; all_goals (have HB := Lib.hid hb; clear hb); try (have HKD := Lib.hid hkd; clear hkd)) | (go_at_call 37; refine (HE.out _ HB.out).mono ?_; rintro r1 w2 ⟨rfl, rfl⟩))
      · go_ret
        refine ⟨.no, ?_⟩
        exact HB.out
      · go_ret
        refine ⟨.yes ?_, ?_⟩
        · have h0 := HM.out; rw [HM0.out] at h0; rw [List.length_eq_zero_iff.1 h0]; exact .bind0 HN.out HM1.out HX.out
        · exact HB.out
end Go.Proofs.Ytincgkolpicipaa.kin
namespace Go.Proofs.Ytincgkolpicipaa.kin
open Go.RowKit
open Go.Proofs.Ytincgkolpicipaa.stack (step_after AnyBool AnyInt add_off owns_form)
abbrev greatArgs (q o cap : Nat) (ns : List Nd) (a : Nat) (v : Value) : Array Value := #[.slice (some ⟨q, o, none⟩) ns.length cap, .int .i64 a, v]
set_option maxRecDepth 100000 in
set_option maxHeartbeats 2000000 in
theorem great_other (q o cap : Nat) (ns : List Nd) (v : Value) (ks : List Nat) (hks : ∀ k ∈ ks, k < ns.length) (B : Nat) (w : World) (hrow : Row w q o ns) (hp : Plc B w v ks) (a : Nat) (n : Nd) (hn : ns[a]? = some n) (e17 : (n.k == 17) = false) (e29 : (n.k == 29) = false) (e12 : (n.k == 12) = false) (e13 : (n.k == 13) = false) (e14 : (n.k == 14) = false) (e19 : (n.k == 19) = false) (e32 : (n.k == 32) = false) (e20 : (n.k == 20) = false) (e18 : (n.k == 18) = false) (e35 : (n.k == 35) = false) :
    Calls Try.prog 75 (greatArgs q o cap ns a v) w fun r w' => Says r (Shp ns n ks) ∧ Below w.heap.size w w' := by
  obtain ⟨c0, c1, c2, c3, c4, -⟩ := hrow a n hn
  have hal : (a : Int) < (ns.length : Int) := by have := (List.getElem?_eq_some_iff.1 hn).1; omega
  have HB0 := Lib.hid (fun (o1 : Obj) => (Below.refl w.heap.size w).alloc (Nat.le_refl _) o1)
  obtain ⟨A, pc, rfl, -, -⟩ := hp.form
  clear hp hrow hn hks
  obtain ⟨k0, o0, t0, m0, z0⟩ := n
  dsimp only at *
  go_enter Try.func75, Try.ntmps75
  go_wp2
  go_ret
  refine ⟨.no, ?_⟩
  exact HB0.out _
set_option maxRecDepth 100000 in
set_option maxHeartbeats 2000000 in
theorem great_13 (q o cap : Nat) (ns : List Nd) (v : Value) (ks : List Nat) (hks : ∀ k ∈ ks, k < ns.length) (B : Nat) (w : World) (hrow : Row w q o ns) (hp : Plc B w v ks) (a : Nat) (n : Nd) (hn : ns[a]? = some n) (hk : n.k = 13) :
    Calls Try.prog 75 (greatArgs q o cap ns a v) w fun r w' => Says r (Shp ns n ks) ∧ Below w.heap.size w w' := by
  obtain ⟨c0, c1, c2, c3, c4, -⟩ := hrow a n hn
  have hal : (a : Int) < (ns.length : Int) := by have := (List.getElem?_eq_some_iff.1 hn).1; omega
  have HB0 := Lib.hid (fun (o1 : Obj) => (Below.refl w.heap.size w).alloc (Nat.le_refl _) o1)
  have HK := Lib.hid (fun w' cv (hb : Below w.heap.size w w') (hc : Cs w' cv [35, 36, 37]) => (kinds_says q o cap ns _ cv ks [35, 36, 37] hks B w' (hrow.later hb) (hp.later hb) hc).mono (R' := fun r' w1 => Says r' (Kd ns [35, 36, 37] ks) ∧ Below w.heap.size w w1) fun r' w1 h => ⟨h.1, step_after hb h.2⟩)
  obtain ⟨A, pc, rfl, -, -⟩ := hp.form
  have HN := Lib.hid hk
  rw [hk] at c0
  clear hp hrow hn hks hk
  go_enter Try.func75, Try.ntmps75
  go_wp2_with (go_at_call 74; refine (HK.out _ _ (below_two w _ _) (cs_new2 w _ [35, 36, 37] 3 (by decide))).mono ?_; rintro r' w1 ⟨⟨b, rfl, hbb⟩, hb⟩; have HB := Lib.hid hb; clear hb; have HBB := Lib.hid hbb; clear hbb)
  go_ret
  exact ⟨⟨b, rfl, fun h => .obj HN.out (HBB.out h)⟩, HB.out⟩
set_option maxRecDepth 100000 in
set_option maxHeartbeats 2000000 in
theorem great_14 (q o cap : Nat) (ns : List Nd) (v : Value) (ks : List Nat) (hks : ∀ k ∈ ks, k < ns.length) (B : Nat) (w : World) (hrow : Row w q o ns) (hp : Plc B w v ks) (a : Nat) (n : Nd) (hn : ns[a]? = some n) (hk : n.k = 14) :
    Calls Try.prog 75 (greatArgs q o cap ns a v) w fun r w' => Says r (Shp ns n ks) ∧ Below w.heap.size w w' := by
  obtain ⟨c0, c1, c2, c3, c4, -⟩ := hrow a n hn
  have hal : (a : Int) < (ns.length : Int) := by have := (List.getElem?_eq_some_iff.1 hn).1; omega
  have HB0 := Lib.hid (fun (o1 : Obj) => (Below.refl w.heap.size w).alloc (Nat.le_refl _) o1)
  have HK := Lib.hid (fun w' (hb : Below w.heap.size w w') => (shapedComp_says q o cap ns _ ks hks B w' (hrow.later hb) (hp.later hb)).mono (R' := fun r' w1 => Says r' (CompOk ns ks) ∧ Below w.heap.size w w1) fun r' w1 h => ⟨h.1, step_after hb h.2⟩)
  obtain ⟨A, pc, rfl, -, -⟩ := hp.form
  have HN := Lib.hid hk
  rw [hk] at c0
  clear hp hrow hn hks hk
  go_enter Try.func75, Try.ntmps75
  go_wp2_with (go_at_call 93; refine (HK.out _ (HB0.out _)).mono ?_; rintro r' w1 ⟨⟨b, rfl, hbb⟩, hb⟩; have HB := Lib.hid hb; clear hb; have HBB := Lib.hid hbb; clear hbb)
  go_ret
  refine ⟨⟨b, rfl, fun h => ?_⟩, HB.out⟩
  obtain ⟨f, sp, rfl, ⟨l, r, j, x, rfl, h1, h2, h3, h4, h5, h6⟩, h7⟩ := HBB.out h
  exact .ocomp HN.out h1 h2 h3 h4 h5 h6 h7 rfl
set_option maxRecDepth 100000 in
set_option maxHeartbeats 2000000 in
theorem great_12 (q o cap : Nat) (ns : List Nd) (v : Value) (ks : List Nat) (hks : ∀ k ∈ ks, k < ns.length) (B : Nat) (w : World) (hrow : Row w q o ns) (hp : Plc B w v ks) (a : Nat) (n : Nd) (hn : ns[a]? = some n) (hk : n.k = 12) :
    Calls Try.prog 75 (greatArgs q o cap ns a v) w fun r w' => Says r (Shp ns n ks) ∧ Below w.heap.size w w' := by
  obtain ⟨c0, c1, c2, c3, c4, -⟩ := hrow a n hn
  have hal : (a : Int) < (ns.length : Int) := by have := (List.getElem?_eq_some_iff.1 hn).1; omega
  have HB0 := Lib.hid (fun (o1 : Obj) => (Below.refl w.heap.size w).alloc (Nat.le_refl _) o1)
  cases ks with
  | nil =>
    obtain ⟨A, pc, rfl, -, -⟩ := hp.form
    rw [hk] at c0
    clear hp hrow hn hks hk
    go_enter Try.func75, Try.ntmps75
    go_wp2
    go_ret
    refine ⟨.no, ?_⟩
    exact HB0.out _
  | cons x r =>
    obtain ⟨p, po, pc, rfl, hpc, hl, -, -, cx⟩ := hp.at (j := 0) (k := x) rfl
    rw [Nat.add_zero] at cx
    obtain ⟨nx, hnx⟩ := getElem?_lt (hks x (by simp))
    have HE := Lib.hid (fun w' (hb : Below w.heap.size w w') => expr_says q o cap ns x nx hnx w' (hrow.later hb))
    have hfrom := Plc.from_ (ks := [x]) (ls := r) hp rfl
    simp only [List.length_cons, List.length_nil, Nat.zero_add] at hfrom
    have HK := Lib.hid (fun w' (hb : Below w.heap.size w w') => (specs_says q o cap ns _ r (fun j hj => hks j (by simp [hj])) B w' (hrow.later hb) (hfrom.later hb)).mono (R' := fun r' w1 => Says r' (Spc ns r) ∧ Below w.heap.size w w1) fun r' w1 h => ⟨h.1, step_after hb h.2⟩)
    have HN := Lib.hid hk
    rw [hk] at c0
    rw [List.length_cons] at hpc hl ⊢
    have cx2 : ∀ o1, (w.alloc o1).cell? ⟨p, po, none⟩ = some (.int .i64 x) := fun o1 => cell_later (HB0.out o1) cx
    clear hp hrow hn hks hk hnx hfrom
    generalize hm : r.length = m at hpc hl HK ⊢
    have HM := Lib.hid hm
    clear hm
    by_cases h2 : 1 ≤ m
    rotate_left
    · have t2 : decide ((2 : Int) ≤ (m : Int) + 1) = false := decide_eq_false (by omega)
      go_enter Try.func75, Try.ntmps75
      go_wp2
      go_ret
      refine ⟨.no, ?_⟩
      exact HB0.out _
    have t2 : decide ((2 : Int) ≤ (m : Int) + 1) = true := decide_eq_true (by omega)
    go_enter Try.func75, Try.ntmps75
    have hne : pc ≠ 1 := by omega
    simp only [if_neg hne] at HK
    cases hex : ex ns x
    · simp only [hex] at HE
      clear hex
      go_wp2_with (go_at_call 37; refine (HE.out _ (HB0.out _)).mono ?_; rintro r1 w1 ⟨rfl, rfl⟩)
      go_ret
      refine ⟨.no, ?_⟩
      exact HB0.out _
    · have HX := Lib.hid (ex_iff.1 hex)
      simp only [hex] at HE
      clear hex
      go_wp2_with (first | (go_at_call 37; refine (HE.out _ (HB0.out _)).mono ?_; rintro r1 w1 ⟨rfl, rfl⟩) | (go_at_call 92; refine (HK.out _ (HB0.out _)).mono ?_; rintro r' w1 ⟨⟨b, rfl, hbb⟩, hb⟩; have HB := Lib.hid hb; clear hb; have HBB := Lib.hid hbb; clear hbb))
      all_goals
        go_ret
        exact ⟨⟨b, rfl, fun h => .acomp HN.out HX.out (HBB.out h)⟩, HB.out⟩
set_option maxRecDepth 100000 in
set_option maxHeartbeats 2000000 in
theorem great_18 (q o cap : Nat) (ns : List Nd) (v : Value) (ks : List Nat) (hks : ∀ k ∈ ks, k < ns.length) (B : Nat) (w : World) (hrow : Row w q o ns) (hp : Plc B w v ks) (a : Nat) (n : Nd) (hn : ns[a]? = some n) (hk : n.k = 18) :
    Calls Try.prog 75 (greatArgs q o cap ns a v) w fun r w' => Says r (Shp ns n ks) ∧ Below w.heap.size w w' := by
  obtain ⟨c0, c1, c2, c3, c4, -⟩ := hrow a n hn
  have hal : (a : Int) < (ns.length : Int) := by have := (List.getElem?_eq_some_iff.1 hn).1; omega
  have HB0 := Lib.hid (fun (o1 : Obj) => (Below.refl w.heap.size w).alloc (Nat.le_refl _) o1)
  cases ks with
  | nil =>
    obtain ⟨A, pc, rfl, -, -⟩ := hp.form
    rw [hk] at c0
    clear hp hrow hn hks hk
    go_enter Try.func75, Try.ntmps75
    go_wp2
    go_ret
    refine ⟨.no, ?_⟩
    exact HB0.out _
  | cons x r =>
    obtain ⟨p, po, pc, rfl, hpc, hl, -, -, cx⟩ := hp.at (j := 0) (k := x) rfl
    rw [Nat.add_zero] at cx
    obtain ⟨nx, hnx⟩ := getElem?_lt (hks x (by simp))
    have HE := Lib.hid (fun w' (hb : Below w.heap.size w w') => expr_says q o cap ns x nx hnx w' (hrow.later hb))
    have hfrom := Plc.from_ (ks := [x]) (ls := r) hp rfl
    simp only [List.length_cons, List.length_nil, Nat.zero_add] at hfrom
    have HK := Lib.hid (fun w' (hb : Below w.heap.size w w') => (args_says q o cap ns _ r (fun j hj => hks j (by simp [hj])) B w' (hrow.later hb) (hfrom.later hb)).mono (R' := fun r' w1 => Says r' (Args ns r) ∧ Below w.heap.size w w1) fun r' w1 h => ⟨h.1, step_after hb h.2⟩)
    have HN := Lib.hid hk
    rw [hk] at c0
    rw [List.length_cons] at hpc hl ⊢
    have cx2 : ∀ o1, (w.alloc o1).cell? ⟨p, po, none⟩ = some (.int .i64 x) := fun o1 => cell_later (HB0.out o1) cx
    clear hp hrow hn hks hk hnx hfrom
    generalize hm : r.length = m at hpc hl HK ⊢
    have HM := Lib.hid hm
    clear hm
    by_cases hne : pc = 1
    · subst hne
      obtain rfl : m = 0 := by omega
      have HK : Hid (∀ w', Below w.heap.size w w' → Calls Try.prog 94 #[.slice (some ⟨q, o, none⟩) ns.length cap, .slice (some ⟨p, po, none⟩) 0 0] w' fun r' w1 => Says r' (Args ns r) ∧ Below w.heap.size w w1) := HK
      have t2 : decide ((1 : Int) ≤ 1) = true := decide_eq_true (by omega)
      go_enter Try.func75, Try.ntmps75
      cases hex : ex ns x
      · simp only [hex] at HE
        clear hex
        go_wp2_with (go_at_call 37; refine (HE.out _ (HB0.out _)).mono ?_; rintro r1 w1 ⟨rfl, rfl⟩)
        go_ret
        refine ⟨.no, ?_⟩
        exact HB0.out _
      · have HX := Lib.hid (ex_iff.1 hex)
        simp only [hex] at HE
        clear hex
        go_wp2_with (first | (go_at_call 37; refine (HE.out _ (HB0.out _)).mono ?_; rintro r1 w1 ⟨rfl, rfl⟩) | (go_at_call 94; refine (HK.out _ (HB0.out _)).mono ?_; rintro r' w1 ⟨⟨b, rfl, hbb⟩, hb⟩; have HB := Lib.hid hb; clear hb; have HBB := Lib.hid hbb; clear hbb))
        all_goals
          go_ret
          exact ⟨⟨b, rfl, fun h => .apply HN.out HX.out (HBB.out h)⟩, HB.out⟩
    · simp only [if_neg hne] at HK
      have t2 : decide ((1 : Int) ≤ (m : Int) + 1) = true := decide_eq_true (by omega)
      go_enter Try.func75, Try.ntmps75
      cases hex : ex ns x
      · simp only [hex] at HE
        clear hex
        go_wp2_with (go_at_call 37; refine (HE.out _ (HB0.out _)).mono ?_; rintro r1 w1 ⟨rfl, rfl⟩)
        go_ret
        refine ⟨.no, ?_⟩
        exact HB0.out _
      · have HX := Lib.hid (ex_iff.1 hex)
        simp only [hex] at HE
        clear hex
        go_wp2_with (first | (go_at_call 37; refine (HE.out _ (HB0.out _)).mono ?_; rintro r1 w1 ⟨rfl, rfl⟩) | (go_at_call 94; refine (HK.out _ (HB0.out _)).mono ?_; rintro r' w1 ⟨⟨b, rfl, hbb⟩, hb⟩; have HB := Lib.hid hb; clear hb; have HBB := Lib.hid hbb; clear hbb))
        all_goals
          go_ret
          exact ⟨⟨b, rfl, fun h => .apply HN.out HX.out (HBB.out h)⟩, HB.out⟩
end Go.Proofs.Ytincgkolpicipaa.kin
namespace Go.Proofs.Ytincgkolpicipaa.kin
open Go.RowKit
open Go.Proofs.Ytincgkolpicipaa.stack (step_after AnyBool AnyInt add_off owns_form)
set_option maxRecDepth 100000 in
set_option maxHeartbeats 2000000 in
theorem great_17 (q o cap : Nat) (ns : List Nd) (v : Value) (ks : List Nat) (hks : ∀ k ∈ ks, k < ns.length) (B : Nat) (w : World) (hrow : Row w q o ns) (hp : Plc B w v ks) (a : Nat) (n : Nd) (hn : ns[a]? = some n) (hk : n.k = 17) :
    Calls Try.prog 75 (greatArgs q o cap ns a v) w fun r w' => Says r (Shp ns n ks) ∧ Below w.heap.size w w' := by
  obtain ⟨c0, c1, c2, c3, c4, -⟩ := hrow a n hn
  have hal : (a : Int) < (ns.length : Int) := by have := (List.getElem?_eq_some_iff.1 hn).1; omega
  have HB0 := Lib.hid (fun (o1 : Obj) => (Below.refl w.heap.size w).alloc (Nat.le_refl _) o1)
  have HN := Lib.hid hk
  rw [hk] at c0
  by_cases h4 : ks.length = 4
  rotate_left
  · obtain ⟨A, pc, rfl, -, -⟩ := hp.form
    generalize ks.length = m at h4 ⊢
    have t4 : ((m : Int) != 4) = true := by simp; omega
    clear hp hrow hn hks hk h4
    go_enter Try.func75, Try.ntmps75
    go_wp2
    all_goals
      go_ret
      refine ⟨.no, ?_⟩
      exact HB0.out _
  obtain ⟨x, hx⟩ := getElem?_lt (show 0 < ks.length by omega)
  obtain ⟨p, po, pc, rfl, hpc, hl, -, -, cx⟩ := hp.at hx
  rw [Nat.add_zero] at cx
  obtain ⟨nx, hnx⟩ := getElem?_lt (hks x (List.mem_of_getElem? hx))
  have HE := Lib.hid (fun w' (hb : Below w.heap.size w w') => expr_says q o cap ns x nx hnx w' (hrow.later hb))
  have cx2 : ∀ o1, (w.alloc o1).cell? ⟨p, po, none⟩ = some (.int .i64 x) := fun o1 => cell_later (HB0.out o1) cx
  have HR := Lib.hid hrow
  have HP := Lib.hid hp
  have HL := Lib.hid hks
  have HX := Lib.hid hx
  have H4 := Lib.hid h4
  rw [h4] at hpc hl ⊢
  clear hp hrow hn hks hk hnx hx h4
  cases hex : ex ns x
  · simp only [hex] at HE
    clear hex
    go_enter Try.func75, Try.ntmps75
    go_wp2_with (go_at_call 37; refine (HE.out _ (HB0.out _)).mono ?_; rintro r1 w1 ⟨rfl, rfl⟩)
    go_ret
    refine ⟨.no, ?_⟩
    exact HB0.out _
  have HXE := Lib.hid (ex_iff.1 hex)
  simp only [hex] at HE
  clear hex
  go_enter Try.func75, Try.ntmps75
  go_wp2_with (go_at_call 37; refine (HE.out _ (HB0.out _)).mono ?_; rintro r1 w1 ⟨rfl, rfl⟩)
  go_loopw [9] (fun i wr => ∃ k : Nat, 1 ≤ k ∧ k ≤ 4 ∧ i = .int .i64 k ∧ Below w.heap.size w wr ∧ ∀ j y, 1 ≤ j → j < k → ks[j]? = some y → Ex ns y ∨ Kd ns [31] [y]) (fun i _ => 4 - (intOf i).toNat)
  case atStart => exact ⟨1, Nat.le_refl _, by omega, rfl, HB0.out _, fun j y h1 h2 => by omega⟩
  case round =>
    obtain ⟨k, hk1, hk, rfl, hb, hall⟩ := hrel
    have HBW := Lib.hid hb
    have HA := Lib.hid hall
    clear hb hall
    by_cases hlt : k < 4
    · obtain ⟨y, hy⟩ := getElem?_lt (show k < ks.length by have := H4.out; omega)
      obtain ⟨p', po', pc', hv, -, -, -, -, cy⟩ := (HP.out.later HBW.out).at hy
      have hv2 : p' = p ∧ po' = po := by cases hv; exact ⟨rfl, rfl⟩
      obtain ⟨rfl, rfl⟩ := hv2
      clear hv
      obtain ⟨ny, hny⟩ := getElem?_lt (HL.out y (List.mem_of_getElem? hy))
      obtain ⟨dy, -⟩ := (HR.out.later HBW.out) y ny hny
      have hyl : (y : Int) < (ns.length : Int) := by have := (List.getElem?_eq_some_iff.1 hny).1; omega
      have hki : (k : Int) < 4 := by omega
      have hke := Lib.hid (expr_says q o cap ns y ny hny wr (HR.out.later HBW.out))
      have STEP := Lib.hid (show (Ex ns y ∨ Kd ns [31] [y]) → ∀ j z, 1 ≤ j → j < k + 1 → ks[j]? = some z → Ex ns z ∨ Kd ns [31] [z] from fun h j z h1 h2 hz => by
        by_cases hjk : j < k
        · exact HA.out j z h1 hjk hz
        · have : j = k := by omega
          subst this; rw [hy] at hz; cases hz; exact h)
      have HNY := Lib.hid hny
      clear hy hny
      cases hex : ex ns y
      · simp only [hex] at hke
        clear hex
        cases t31 : (ny.k == 31)
        · go_wp2_with (go_at_call 37; refine hke.out.mono ?_; rintro r1 w1 ⟨rfl, rfl⟩)
          go_ret
          refine ⟨.no, ?_⟩
          exact HBW.out
        · have HT := Lib.hid (show ny.k = 31 by simpa using t31)
          go_wp2_with (go_at_call 37; refine hke.out.mono ?_; rintro r1 w1 ⟨rfl, rfl⟩)
          go_roundw
          case rel => exact ⟨k + 1, by omega, by omega, by go_num, HBW.out, STEP.out (.inr fun j hj => by
            rw [List.mem_singleton] at hj; subst hj; exact ⟨ny, HNY.out, by rw [HT.out]; simp⟩)⟩
          case measure => simp [intOf]; omega
      · have HXY := Lib.hid (ex_iff.1 hex)
        simp only [hex] at hke
        clear hex
        go_wp2_with (go_at_call 37; refine hke.out.mono ?_; rintro r1 w1 ⟨rfl, rfl⟩)
        go_roundw
        case rel => exact ⟨k + 1, by omega, by omega, by go_num, HBW.out, STEP.out (.inl HXY.out)⟩
        case measure => simp [intOf]; omega
    · have hki : ¬ (k : Int) < 4 := by omega
      go_wp2
      go_ret
      refine ⟨.yes ?_, ?_⟩
      · have h4 := H4.out
        match ks, h4, HX.out, HA.out with
        | [a', b, c, d], _, hx, hA =>
          cases hx
          exact .slice HN.out HXE.out (hA 1 b (by omega) (by omega) rfl) (hA 2 c (by omega) (by omega) rfl) (hA 3 d (by omega) (by omega) rfl)
      · exact HBW.out
end Go.Proofs.Ytincgkolpicipaa.kin
