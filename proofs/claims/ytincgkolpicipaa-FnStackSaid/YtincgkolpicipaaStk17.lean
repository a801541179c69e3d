/- FnStack: PartStack by contract. -/
import Derived.Test.YtincgkolpicipaaStk16
namespace Go.Proofs.Ytincgkolpicipaa.stack
open Go.RowKit
/-- The steps as PartStack is given them. -/
structure Good (es : List Sx) : Prop where
  len : es.length ≤ 200
  all : ∀ (i : Nat) (e : Sx), es[i]? = some e → 1 ≤ e.k ∧ e.k ≤ 5 ∧ (e.k = 3 → 1 ≤ e.num) ∧ (e.k ≠ 3 → e.num = i)
structure PRel (w : World) (B g : Nat) (es : List Sx) (st : List Fr) (xs ys zs : List Int) (m : Int) (v2 v3 v4 : Value) (wr : World) : Prop where
  ex : ∃ (x y : Option Addr) (sl : Value) (ps : List (Nat × Fr)), ps.map (·.2) = st ∧ Pt w B g x y sl (cnt st) m ps v2 v3 v4 xs ys zs wr
theorem Pt.turn {w W W' : World} {B g : Nat} {x y x' y' : Option Addr} {sl sl' : Value} {n n' m : Int} {ps ps' : List (Nat × Fr)} {u2 u3 u4 : Value} {xs ys zs : List Int} (h : Pt w B g x y sl n m ps u2 u3 u4 xs ys zs W) (hx : Chg (fun k => k = g ∨ sl.ownBlock = some k) W W') (hc : Cs W' g (.pointer x') (.pointer y') sl' n' m) (hs : StkO W' B sl' ps') :
    Pt w B g x' y' sl' n' m ps' u2 u3 u4 xs ys zs W' := by
  refine ⟨h.r3.chg hx h.hB (fun k hk => ?_) (fun k hk hX => ?_) (fun k hk hX => ?_) (fun k hk hX => ?_), hc, hs, Nat.le_trans h.hB hx.size, h.hg⟩
  · rcases hk with rfl | hk
    · exact h.hg
    · exact (h.st.own.lt k hk).1
  · rcases hX with rfl | hX
    · exact ints_cs h.r3.o2 h.cs hk
    · exact stk_ints h.r3.o2 h.st k hX hk
  · rcases hX with rfl | hX
    · exact ints_cs h.r3.o3 h.cs hk
    · exact stk_ints h.r3.o3 h.st k hX hk
  · rcases hX with rfl | hX
    · exact ints_cs h.r3.o4 h.cs hk
    · exact stk_ints h.r3.o4 h.st k hX hk
/-- What a round reads: the step in its own block. -/
structure Rd (w : World) (B g b : Nat) (sl : Value) (n m : Int) (ps : List (Nat × Fr)) (u2 u3 u4 : Value) (xs ys zs : List Int) (s : Sx) (nv : Value) (W : World) : Prop where
  pt : Pt w B g none none sl n m ps u2 u3 u4 xs ys zs W
  blk : W.heap[b]? = some (.cells #[.int .i64 s.k, nv, .string s.name, .int .i64 s.num, .bool s.trim] 51 (0, 0))
  str : Strs w nv s.names
  low : Below w.heap.size w W
theorem Rd.c {w W : World} {B g b : Nat} {sl : Value} {n m : Int} {ps : List (Nat × Fr)} {u2 u3 u4 : Value} {xs ys zs : List Int} {s : Sx} {nv : Value} (h : Rd w B g b sl n m ps u2 u3 u4 xs ys zs s nv W) : W.cell? ⟨b, 0, none⟩ = some (.int .i64 s.k) ∧ W.cell? ⟨b, 1, none⟩ = some nv ∧ W.cell? ⟨b, 2, none⟩ = some (.string s.name) ∧ W.cell? ⟨b, 3, none⟩ = some (.int .i64 s.num) ∧ W.cell? ⟨b, 4, none⟩ = some (.bool s.trim) := by
  have := h.blk
  exact ⟨by simp [World.cell?, this], by simp [World.cell?, this], by simp [World.cell?, this], by simp [World.cell?, this], by simp [World.cell?, this]⟩
theorem round_start {w W W' : World} {B g : Nat} {x y : Option Addr} {sl : Value} {n m : Int} {ps : List (Nat × Fr)} {u2 u3 u4 : Value} {xs ys zs : List Int} {s : Sx} {nv : Value} (h : Pt w B g x y sl n m ps u2 u3 u4 xs ys zs W) (hst : Strs w nv s.names) (hw : Below w.heap.size w W) (hBw : w.heap.size ≤ B)
    (k3 : Cs W' g (.pointer none) (.pointer none) sl n m) (c3 : Chg (fun k => k = g) (W.alloc (.cells #[.int .i64 s.k, nv, .string s.name, .int .i64 s.num, .bool s.trim] 51)) W') : Rd w B g W.heap.size sl n m ps u2 u3 u4 xs ys zs s nv W' := by
  have hA := h.alloc (.cells #[.int .i64 s.k, nv, .string s.name, .int .i64 s.num, .bool s.trim] 51)
  have hnew := heap_alloc_new W (.cells #[.int .i64 s.k, nv, .string s.name, .int .i64 s.num, .bool s.trim] 51)
  have hgl : g < W.heap.size := (Array.getElem?_eq_some_iff.1 h.cs).1
  refine ⟨hA.turn (c3.weak fun _ _ h => .inl h) k3 (hA.st.chg c3 (soft_cs hA.cs) (cs_off hA.cs hA.st)), c3.keep hnew (by omega), hst, ?_⟩
  exact (hw.alloc hw.size _).trans (c3.toBelow (Nat.le_trans hw.size (by simp)) fun k hk => by have := h.hg; omega)
theorem step_app2 {w W : World} {B g : Nat} {x y : Option Addr} {sl : Value} {n m : Int} {ps : List (Nat × Fr)} {u2 u3 u4 : Value} {xs ys zs : List Int} {ops : Array Oper} {o : Oper} {a : Act} {K : Act → World → Prop} {Q : Exit → Act → World → Prop} {E : Prop} (hgd : o.guard = none) (s r : Operand) (ho : o.op = .call { callee := .builtin .append, args := #[s, r], argTypes := #[24, 24] })
    (hp : Pt w B g x y sl n m ps u2 u3 u4 xs ys zs W) (hs : a.eval s = u2) {b t : Nat} {fr : Nat × Nat} {z : Int} (hx : a.eval r = .slice (some ⟨b, 0, none⟩) 1 1) (hnews : W.heap[b]? = some (.cells #[.int .i64 z] t fr)) (hlen : xs.length ≤ 1000) (N : Nat) (hN : ∀ k, u2.ownBlock = some k → k < N)
    (h : ∀ q cap w', Pt w B g x y sl n m ps (.slice (some ⟨q, 0, none⟩) (xs.length + 1) cap) u3 u4 (xs ++ [z]) ys zs w' → (∀ (k : Nat) (ob : Obj), N ≤ k → W.heap[k]? = some ob → w'.heap[k]? = some ob) → W.heap.size ≤ w'.heap.size → K (a.put o.dst (.slice (some ⟨q, 0, none⟩) (xs.length + 1) cap)) w') :
    if Region.wanted o (yielded ops a.tmps) = true then Oper.wp Try.prog o a W K Q else E := by
  obtain ⟨i3, hi, hz0, hz1, hz2⟩ := info_parts Try.info3
  refine step_append_lies _ hgd s r 24 ho B 3 i3 _ 1 8 Try.underlying24 hi hz0 hz1 hz2 rfl (by decide) u2 xs.length (xs.map (Value.int .i64)) hs hp.r3.o2 ⟨b, 0, none⟩ 1 1 [.int .i64 z] hx rfl (World.news_of_block hnews) (oneI _) (by decide) (by rw [maxLen_eq]; omega) (by omega) hp.hB _ rfl ?_
  intro q cap w' ho2 hg2 hat2 _
  refine h q cap w' (hp.app2 ho2 hg2 hat2) (fun k ob hk hob => ?_) hg2.size
  have hx : Chg (fun k => u2.ownBlock = some k) W w' := (Chg.refl _ _).grown hg2 fun k hk _ => hk
  exact hx.keep hob fun e => by have := hN k e; omega
theorem step_app3 {w W : World} {B g : Nat} {x y : Option Addr} {sl : Value} {n m : Int} {ps : List (Nat × Fr)} {u2 u3 u4 : Value} {xs ys zs : List Int} {ops : Array Oper} {o : Oper} {a : Act} {K : Act → World → Prop} {Q : Exit → Act → World → Prop} {E : Prop} (hgd : o.guard = none) (s r : Operand) (ho : o.op = .call { callee := .builtin .append, args := #[s, r], argTypes := #[24, 24] })
    (hp : Pt w B g x y sl n m ps u2 u3 u4 xs ys zs W) (hs : a.eval s = u3) {b t : Nat} {fr : Nat × Nat} {z : Int} (hx : a.eval r = .slice (some ⟨b, 0, none⟩) 1 1) (hnews : W.heap[b]? = some (.cells #[.int .i64 z] t fr)) (hlen : ys.length ≤ 1000) (N : Nat) (hN : ∀ k, u3.ownBlock = some k → k < N)
    (h : ∀ q cap w', Pt w B g x y sl n m ps u2 (.slice (some ⟨q, 0, none⟩) (ys.length + 1) cap) u4 xs (ys ++ [z]) zs w' → (∀ (k : Nat) (ob : Obj), N ≤ k → W.heap[k]? = some ob → w'.heap[k]? = some ob) → W.heap.size ≤ w'.heap.size → K (a.put o.dst (.slice (some ⟨q, 0, none⟩) (ys.length + 1) cap)) w') :
    if Region.wanted o (yielded ops a.tmps) = true then Oper.wp Try.prog o a W K Q else E := by
  obtain ⟨i3, hi, hz0, hz1, hz2⟩ := info_parts Try.info3
  refine step_append_lies _ hgd s r 24 ho B 3 i3 _ 1 8 Try.underlying24 hi hz0 hz1 hz2 rfl (by decide) u3 ys.length (ys.map (Value.int .i64)) hs hp.r3.o3 ⟨b, 0, none⟩ 1 1 [.int .i64 z] hx rfl (World.news_of_block hnews) (oneI _) (by decide) (by rw [maxLen_eq]; omega) (by omega) hp.hB _ rfl ?_
  intro q cap w' ho2 hg2 hat2 _
  refine h q cap w' (hp.app3 ho2 hg2 hat2) (fun k ob hk hob => ?_) hg2.size
  have hx : Chg (fun k => u3.ownBlock = some k) W w' := (Chg.refl _ _).grown hg2 fun k hk _ => hk
  exact hx.keep hob fun e => by have := hN k e; omega
theorem step_app4 {w W : World} {B g : Nat} {x y : Option Addr} {sl : Value} {n m : Int} {ps : List (Nat × Fr)} {u2 u3 u4 : Value} {xs ys zs : List Int} {ops : Array Oper} {o : Oper} {a : Act} {K : Act → World → Prop} {Q : Exit → Act → World → Prop} {E : Prop} (hgd : o.guard = none) (s r : Operand) (ho : o.op = .call { callee := .builtin .append, args := #[s, r], argTypes := #[24, 24] })
    (hp : Pt w B g x y sl n m ps u2 u3 u4 xs ys zs W) (hs : a.eval s = u4) {b t : Nat} {fr : Nat × Nat} {z : Int} (hx : a.eval r = .slice (some ⟨b, 0, none⟩) 1 1) (hnews : W.heap[b]? = some (.cells #[.int .i64 z] t fr)) (hlen : zs.length ≤ 1000) (N : Nat) (hN : ∀ k, u4.ownBlock = some k → k < N)
    (h : ∀ q cap w', Pt w B g x y sl n m ps u2 u3 (.slice (some ⟨q, 0, none⟩) (zs.length + 1) cap) xs ys (zs ++ [z]) w' → (∀ (k : Nat) (ob : Obj), N ≤ k → W.heap[k]? = some ob → w'.heap[k]? = some ob) → W.heap.size ≤ w'.heap.size → K (a.put o.dst (.slice (some ⟨q, 0, none⟩) (zs.length + 1) cap)) w') :
    if Region.wanted o (yielded ops a.tmps) = true then Oper.wp Try.prog o a W K Q else E := by
  obtain ⟨i3, hi, hz0, hz1, hz2⟩ := info_parts Try.info3
  refine step_append_lies _ hgd s r 24 ho B 3 i3 _ 1 8 Try.underlying24 hi hz0 hz1 hz2 rfl (by decide) u4 zs.length (zs.map (Value.int .i64)) hs hp.r3.o4 ⟨b, 0, none⟩ 1 1 [.int .i64 z] hx rfl (World.news_of_block hnews) (oneI _) (by decide) (by rw [maxLen_eq]; omega) (by omega) hp.hB _ rfl ?_
  intro q cap w' ho2 hg2 hat2 _
  refine h q cap w' (hp.app4 ho2 hg2 hat2) (fun k ob hk hob => ?_) hg2.size
  have hx : Chg (fun k => u4.ownBlock = some k) W w' := (Chg.refl _ _).grown hg2 fun k hk _ => hk
  exact hx.keep hob fun e => by have := hN k e; omega
theorem prel_next {w W : World} {B g : Nat} {x y : Option Addr} {sl : Value} {cn av m : Int} {ps : List (Nat × Fr)} {v2 v3 v4 : Value} {es : List Sx} {k : Nat} {s : Sx} (hs : es[k]? = some s) (hps : ps.map (·.2) = stepS (rn es k).st k s) (hcn : cnt (stepS (rn es k).st k s) = cn) (hav : ansS (rn es k).st s = av) (hln : (stepS (rn es k).st k s).length = ps.length)
    (h : Pt w B g x y sl cn m ps v2 v3 v4 ((rn es k).f ++ [av]) ((rn es k).n ++ [(ps.length : Int)]) ((rn es k).c ++ [cn]) W) : PRel w B g es (rn es (k + 1)).st (rn es (k + 1)).f (rn es (k + 1)).n (rn es (k + 1)).c m v2 v3 v4 W := by
  subst hcn; subst hav
  rw [← hln] at h
  rw [rn_succ hs]
  exact ⟨x, y, sl, ps, hps, h⟩
theorem ps_of {w W : World} {B g : Nat} {x y : Option Addr} {sl : Value} {n m : Int} {ps : List (Nat × Fr)} {u2 u3 u4 : Value} {xs ys zs : List Int} (h : Pt w B g x y sl n m ps u2 u3 u4 xs ys zs W) : W.cell? ⟨g, 2, none⟩ = some sl ∧ W.cell? ⟨g, 3, none⟩ = some (.int .i64 n) := ⟨h.cs.at 2, h.cs.at 3⟩
theorem ps_alloc {W : World} {a b : Addr} {u v : Value} (o : Obj) (h : W.cell? a = some u ∧ W.cell? b = some v) : (W.alloc o).cell? a = some u ∧ (W.alloc o).cell? b = some v :=
  ⟨cell_later ((Below.refl _ _).alloc (Nat.le_refl _) o) h.1, cell_later ((Below.refl _ _).alloc (Nat.le_refl _) o) h.2⟩
theorem nw1 (W : World) (o1 o2 : Obj) : ((W.alloc o1).alloc o2).heap[W.heap.size + 1]? = some o2 := by have h := heap_alloc_new (W.alloc o1) o2; rw [show (W.alloc o1).heap.size = W.heap.size + 1 by simp] at h; exact h
theorem nw2 (W : World) (o1 o2 o3 : Obj) : (((W.alloc o1).alloc o2).alloc o3).heap[W.heap.size + 2]? = some o3 := by have h := nw1 (W.alloc o1) o2 o3; rw [show (W.alloc o1).heap.size + 1 = W.heap.size + 2 by simp] at h; exact h
theorem kp1 (W : World) (o' : Obj) (k : Nat) (o : Obj) (h : W.heap[k]? = some o) : (W.alloc o').heap[k]? = some o := (Chg.below (X := fun _ => False) ((Below.refl _ _).alloc (Nat.le_refl _) o')).keep h id
theorem dk1 (W : World) (k : Nat) (o : Obj) (h : W.heap[k]? = some o) : W.drew.heap[k]? = some o := h
theorem ba1 (W : World) (o : Obj) : Below W.heap.size W (W.alloc o) := (Below.refl _ _).alloc (Nat.le_refl _) o
theorem ba2 (W : World) (o1 o2 : Obj) : Below W.heap.size W ((W.alloc o1).alloc o2) := (ba1 W o1).alloc (ba1 W o1).size _
theorem ba3 (W : World) (o1 o2 o3 : Obj) : Below W.heap.size W (((W.alloc o1).alloc o2).alloc o3) := (ba2 W o1 o2).alloc (ba2 W o1 o2).size _
theorem back_look (es : List Sx) (k : Nat) (t : ByteArray) (hk : k ≤ es.length) (h2 : k ≤ 200) : floatToIntVal .f64 (floatOfInt .f64 (lookTo (rn es k).st t (rn es k).st.length)) .i64 = some (lookTo (rn es k).st t (rn es k).st.length) := by
  rcases look_small (rn es k).st t k (steps_of k hk) (rn es k).st.length with h | h
  · rw [h]; decide +kernel
  · exact back_any _ (by omega)
theorem told_cells {W : World} {r : Int} {e : Ending} (h : Told W r e) : (e = .returned (.pointer none) ∧ r = -1) ∨ ∃ q1 q3 fl, e = .returned (.pointer (some ⟨q1, 0, none⟩)) ∧ W.cell? ⟨q1, 2, none⟩ = some (.iface 110 (.pointer (some ⟨q3, 0, none⟩))) ∧ W.cell? ⟨q3, 0, none⟩ = some (.float .f64 fl) ∧ fl = floatOfInt .f64 r := by
  rcases h with h | ⟨g, he, q, h1, h2⟩
  · exact .inl h
  · exact .inr ⟨g, q, _, he, by simp [World.cell?, h1], by simp [World.cell?, h2], rfl⟩
theorem push_done {w W W' : World} {B g : Nat} {a b x y : Option Addr} {sl sl' : Value} {m n n' : Int} {ps : List (Nat × Fr)} {u2 u3 u4 : Value} {xs ys zs : List Int} {es : List Sx} {st st' : List Fr} {f : Fr} {p : Nat} (h : Pt w B g a b sl n m ps u2 u3 u4 xs ys zs W) (hps : ps.map (·.2) = st) (hst : st' = st ++ [f])
    (he : cnt st' = n') (h1 : Cs W' g (.pointer x) (.pointer y) sl' n' m) (h2 : StkO W' B sl' (ps ++ [(p, f)])) (h3 : Chg (fun k => k = g ∨ sl.ownBlock = some k) W W') : PRel w B g es st' xs ys zs m u2 u3 u4 W' :=
  ⟨x, y, sl', ps ++ [(p, f)], by rw [hst, List.map_append, hps]; rfl, by rw [he]; exact h.turn h3 h1 h2⟩
/-- What a call's round keeps. -/
structure K1 (w : World) (B g b : Nat) (a : Addr) (sl : Value) (n m : Int) (ps : List (Nat × Fr)) (u2 u3 u4 : Value) (xs ys zs : List Int) (s : Sx) (nv : Value) (W : World) : Prop where
  pt : Pt w B g (some a) none sl n m ps u2 u3 u4 xs ys zs W
  blk : W.heap[b]? = some (.cells #[.int .i64 s.k, nv, .string s.name, .int .i64 s.num, .bool s.trim] 51 (0, 0))
section
variable {w W W' : World} {B g b : Nat} {a : Addr} {sl : Value} {n m : Int} {ps : List (Nat × Fr)} {u2 u3 u4 : Value} {xs ys zs : List Int} {s : Sx} {nv : Value}
theorem blk_cells (h : W.heap[b]? = some (.cells #[.int .i64 s.k, nv, .string s.name, .int .i64 s.num, .bool s.trim] 51 (0, 0))) : W.cell? ⟨b, 0, none⟩ = some (.int .i64 s.k) ∧ W.cell? ⟨b, 1, none⟩ = some nv ∧ W.cell? ⟨b, 2, none⟩ = some (.string s.name) ∧ W.cell? ⟨b, 3, none⟩ = some (.int .i64 s.num) ∧ W.cell? ⟨b, 4, none⟩ = some (.bool s.trim) :=
  ⟨by simp [World.cell?, h], by simp [World.cell?, h], by simp [World.cell?, h], by simp [World.cell?, h], by simp [World.cell?, h]⟩
theorem K1.c (h : K1 w B g b a sl n m ps u2 u3 u4 xs ys zs s nv W) : W.cell? ⟨b, 0, none⟩ = some (.int .i64 s.k) ∧ W.cell? ⟨b, 1, none⟩ = some nv ∧ W.cell? ⟨b, 2, none⟩ = some (.string s.name) ∧ W.cell? ⟨b, 3, none⟩ = some (.int .i64 s.num) ∧ W.cell? ⟨b, 4, none⟩ = some (.bool s.trim) := blk_cells h.blk
theorem K1.later (h : K1 w B g b a sl n m ps u2 u3 u4 xs ys zs s nv W) (hb : Below W.heap.size W W') : K1 w B g b a sl n m ps u2 u3 u4 xs ys zs s nv W' := ⟨h.pt.later hb, (Chg.below (X := fun _ => False) hb).keep h.blk id⟩
theorem K1.push (h : K1 w B g b a sl n m ps u2 u3 u4 xs ys zs s nv W) (hx : Chg (fun k => k = g ∨ sl.ownBlock = some k) W W') : W'.cell? ⟨b, 0, none⟩ = some (.int .i64 s.k) ∧ W'.cell? ⟨b, 1, none⟩ = some nv ∧ W'.cell? ⟨b, 2, none⟩ = some (.string s.name) ∧ W'.cell? ⟨b, 3, none⟩ = some (.int .i64 s.num) ∧ W'.cell? ⟨b, 4, none⟩ = some (.bool s.trim) :=
  blk_cells (hx.keep h.blk fun hk => by
    rcases hk with rfl | hk
    · have e : W.heap[b]? = _ := h.pt.cs
      have e2 := h.blk
      rw [e] at e2; cases e2
    · obtain ⟨cs, e⟩ := own_type h.pt.st.own hk
      have e2 := h.blk
      rw [e] at e2; cases e2)
theorem k1_start (h : Rd w B g b sl n m ps u2 u3 u4 xs ys zs s nv W) (k4 : Cs W' g (.pointer (some a)) (.pointer none) sl n m) (c4 : Chg (fun k => k = g) W W') : K1 w B g b a sl n m ps u2 u3 u4 xs ys zs s nv W' :=
  ⟨h.pt.turn (c4.weak fun _ _ h => .inl h) k4 (h.pt.st.chg c4 (soft_cs h.pt.cs) (cs_off h.pt.cs h.pt.st)), c4.keep h.blk fun e => by
    subst e
    have e : W.heap[b]? = _ := h.pt.cs
    have e2 := h.blk
    rw [e] at e2; cases e2⟩
end
theorem kind3_top {w W W' : World} {B g : Nat} {sl sl' : Value} {m n n' : Int} {qs : List (Nat × Fr)} {p : Nat × Fr} {u2 u3 u4 : Value} {xs ys zs : List Int} {es : List Sx} {st st' : List Fr} {x y : Option Addr} (h : Pt w B g none none sl n m (qs ++ [p]) u2 u3 u4 xs ys zs W) (hps : (qs ++ [p]).map (·.2) = st) (hst : st' = st.dropLast)
    (he : n' = if p.2.call then cnt st - 1 else cnt st) (h1 : Cs W' g (.pointer x) (.pointer y) sl' n' m) (h2 : StkO W' B sl' qs) (h3 : Chg (fun k => k = g) W W') : PRel w B g es st' xs ys zs m u2 u3 u4 W' := by
  have hd : st' = qs.map (·.2) := by rw [hst, ← hps, List.map_append]; simp
  have hn : n' = cnt st' := by
    rw [hd, he, ← hps, List.map_append]
    simp only [List.map_cons, List.map_nil]
    rw [cnt_snoc]
    split <;> omega
  exact ⟨x, y, sl', qs, hd.symm, by rw [← hn]; exact h.turn (h3.weak fun _ _ h => .inl h) h1 h2⟩
theorem kind4_any {w W W' : World} {B g : Nat} {sl : Value} {m : Int} {ps : List (Nat × Fr)} {u2 u3 u4 : Value} {xs ys zs : List Int} {es : List Sx} {k : Nat} {s : Sx} {st : List Fr} (h : Pt w B g none none sl (cnt st) m ps u2 u3 u4 xs ys zs W) (hps : ps.map (·.2) = st) (hk : s.k = 4)
    (ht : TrimD W W' B g (.pointer none) (.pointer none) (cnt st) m ps) : PRel w B g es (stepS st k s) xs ys zs m u2 u3 u4 W' := by
  obtain ⟨sl', h1, h2, h3⟩ := ht.ex
  subst hps
  have hS : stepS (ps.map (·.2)) k s = if trimTo (ps.map (·.2)) then (ps.map (·.2)).take (topTo (ps.map (·.2)) ps.length).toNat else ps.map (·.2) := by
    unfold stepS trimTo
    rw [if_neg (by omega), if_neg (by omega), if_neg (by omega), if_pos hk, List.length_map]
    simp only [Bool.and_eq_true, decide_eq_true_eq]
  rw [hS]
  cases hb : trimTo (ps.map (·.2))
  · rw [hb] at h1 h2
    exact ⟨none, none, sl', ps, rfl, h.turn (h3.weak fun _ _ h => .inl h) h1 h2⟩
  · rw [hb] at h1 h2
    have ht : 0 ≤ topTo (ps.map (·.2)) ps.length := by
      unfold trimTo at hb
      rw [List.length_map] at hb
      simp at hb; exact hb.1
    have hc : cnt ((ps.map (·.2)).take (topTo (ps.map (·.2)) ps.length).toNat) = cnt (ps.map (·.2)) - 1 := cnt_take _ _ (by rw [List.length_map]; omega)
    refine ⟨none, none, sl', ps.take (topTo (ps.map (·.2)) ps.length).toNat, by rw [List.map_take]; rfl, ?_⟩
    simp only [if_true] at h1 h2 ⊢
    rw [hc]
    exact h.turn (h3.weak fun _ _ h => .inl h) h1 h2
/-- Where the loop begins. -/
theorem start_any {w w1 w2 : World} (es : List Sx) (m : Int) (h1 : Below w.heap.size w w1) (h2 : Below (w1.alloc (.cells #[.pointer none, .pointer none, .slice none 0 0, .int .i64 0, .int .i64 m] 80)).heap.size (w1.alloc (.cells #[.pointer none, .pointer none, .slice none 0 0, .int .i64 0, .int .i64 m] 80)) w2) (o : Obj) :
    PRel w w.heap.size w1.heap.size es (rn es 0).st (rn es 0).f (rn es 0).n (rn es 0).c m (.slice none 0 0) (.slice none 0 0) (.slice none 0 0) (w2.alloc o) := by
  have hb : Below w.heap.size w (w2.alloc o) := ((h1.alloc h1.size _).trans (h2.mono (Nat.le_trans h1.size (by simp)))).alloc (Nat.le_trans h1.size (Nat.le_trans (by simp) h2.size)) _
  have hnew := heap_alloc_new w1 (.cells #[.pointer none, .pointer none, .slice none 0 0, .int .i64 0, .int .i64 m] 80)
  have c2 : Chg (fun _ => False) (w1.alloc (.cells #[.pointer none, .pointer none, .slice none 0 0, .int .i64 0, .int .i64 m] 80)) (w2.alloc o) := (Chg.below h2).alloc o
  exact ⟨none, none, .slice none 0 0, [], rfl, ⟨IntsO.none_, IntsO.none_, IntsO.none_, Dj.none_left, Dj.none_left, Dj.none_left, hb⟩, c2.keep hnew id, StkO.none_, hb.size, h1.size⟩
set_option maxRecDepth 100000 in
set_option maxHeartbeats 40000000 in
theorem partStack_any (v : Value) (es : List Sx) (w : World) (h : Sxs w v es) (hg : Good es) :
    Calls Try.prog 23 #[v] w fun e w' => ∃ v2 v3 v4, e = .returned (.tuple #[v2, v3, v4]) ∧ R3 w.heap.size w v2 v3 v4 (rn es es.length).f (rn es es.length).n (rn es es.length).c w' := by
  obtain ⟨A, cap, rfl, _, hc⟩ := h
  have HC := Lib.hid hc
  have HG := Lib.hid hg
  have HLN := Lib.hid (rn_len es)
  clear hc hg
  generalize hn : es.length = n at *
  have HN := Lib.hid hn
  clear hn
  go_enter Try.func23, Try.ntmps23
  go_wp2_with (first
    | (go_at_call 39; refine (makeCallStack_any _ _).mono ?_; rintro e w1 ⟨rfl, hb1⟩; have HB1 := Lib.hid hb1; clear hb1)
    | (go_at_call 40; refine (makeMessage_any _ _).mono ?_; rintro e w2 ⟨rfl, hb2⟩; have HB2 := Lib.hid hb2; clear hb2))
  have HP0 := Lib.hid (start_any es n HB1.out HB2.out (.cells #[.pointer none, .string { data := #[] }, .int .i64 0, .int .i64 0, .int .i64 0, .int .i64 0] 86))
  have HGB := Lib.hid (show w.heap.size ≤ w1.heap.size from HB1.out.size)
  clear HB1 HB2
  generalize w1.heap.size = g at *
  generalize w2.heap.size = q2 at *
  generalize (World.alloc w2 _) = W0 at HP0 ⊢
  go_loopw [2, 3, 4, 8, 9, 10, 17] (fun v2 v3 v4 _ _ _ i wr => ∃ k : Nat, k ≤ n ∧ i = .int .i64 k ∧ PRel w w.heap.size g es (rn es k).st (rn es k).f (rn es k).n (rn es k).c n v2 v3 v4 wr) (fun _ _ _ _ _ _ i _ => n - (intOf i).toNat)
  case atStart => exact ⟨0, Nat.zero_le _, rfl, HP0.out⟩
  case round =>
    obtain ⟨k, hk, rfl, hex⟩ := hrel
    obtain ⟨x, y, sl, ps, hps, hpt⟩ := hex.ex
    by_cases hlt : k < n
    · obtain ⟨s, hs⟩ : ∃ s, es[k]? = some s := ⟨_, List.getElem?_eq_getElem (by have := HN.out; omega)⟩
      obtain ⟨q, o, rfl, hel⟩ := HC.out k s hs
      obtain ⟨c0, c2, c3, c4, hnz, nv, c1, hst⟩ := hel
      obtain ⟨A2, cap2, rfl⟩ := hst.form
      have hki : (k : Int) < (n : Int) := by omega
      have c0 := cell_later hpt.r3.bel c0
      have c1 := cell_later hpt.r3.bel c1
      have c2 := cell_later hpt.r3.bel c2
      have c3 := cell_later hpt.r3.bel c3
      have c4 := cell_later hpt.r3.bel c4
      have HST := Lib.hid hst
      have HPT := Lib.hid hpt
      have HPS := Lib.hid hps
      have HSS := Lib.hid hs
      have HNZ := Lib.hid hnz
      have HLK := Lib.hid (HLN.out k (by omega))
      have HGS := Lib.hid (HG.out.all k s hs)
      have HN2 := Lib.hid (HG.out.len)
      have HCL := Lib.hid (clearCurrentTrace_any g _ _ _ _ _ _ (hpt.alloc (.cells #[.int .i64 s.k, .slice A2 s.names.length cap2, .string s.name, .int .i64 s.num, .bool s.trim] 51)).cs)
      have HRS := Lib.hid (fun W' k3 c3 => round_start (W' := W') hpt hst hpt.r3.bel (Nat.le_refl _) k3 c3)
      clear hst hnz hs hpt hps hex
      go_upto_block 2 with (go_at_call 41; refine HCL.out.mono ?_; rintro e w3 ⟨rfl, k3, c3⟩; have HRD := Lib.hid (HRS.out _ k3 c3); obtain ⟨e0, e1, e2, e3, e4⟩ := HRD.out.c; clear k3 c3)
      clear c0 c1 c2 c3 c4 HCL HRS
      go_cut [9, 10] (fun s9 _ wx => s9 = .int .i64 (ansS (rn es k).st s) ∧ PRel w w.heap.size g es (stepS (rn es k).st k s) (rn es k).f (rn es k).n (rn es k).c n u2 u3 u4 wx)
      case first =>
        obtain ⟨k1, k5, hp3, hpn⟩ := HGS.out
        have HP3 := Lib.hid hp3
        have HPN := Lib.hid hpn
        clear hp3 hpn
        have hpl : ps.length ≤ 200 := by have h1 := congrArg List.length HPS.out; have h2 := HLK.out.1; have h4 := HN2.out; have h5 := HN.out; simp at h1; omega
        have HPL := Lib.hid hpl
        clear hpl
        have hcb : 0 ≤ cnt (rn es k).st ∧ cnt (rn es k).st ≤ 200 := by have h1 := cnt_bounds (rn es k).st; have h2 := HLK.out.1; have h4 := HN2.out; have h5 := HN.out; omega
        have HCB := Lib.hid hcb
        clear hcb
        rcases (show s.k = 1 ∨ s.k = 2 ∨ s.k = 3 ∨ s.k = 4 ∨ s.k = 5 by omega) with kk | kk | kk | kk | kk
        · have hs1 : (s.k == 1) = true := by rw [kk]; rfl
          have HANS := Lib.hid (show ansS (rn es k).st s = -1 by unfold ansS; rw [if_neg (by omega)])
          have HSTP := Lib.hid (show stepS (rn es k).st k s = (rn es k).st ++ [⟨k, s.names, true, s.trim⟩] by unfold stepS; rw [if_pos kk])
          have HNUM := Lib.hid (HPN.out (by omega))
          have HSC := Lib.hid (setCurrentTrace_any g (some ⟨q2, 0, none⟩) none sl _ n w3 HRD.out.pt.cs)
          have HK1 := Lib.hid (fun W' k4 c4 => k1_start (W' := W') (a := ⟨q2, 0, none⟩) HRD.out k4 c4)
          clear kk k1 k5
          go_wp2_with (go_at_call 42; refine HSC.out.mono ?_; rintro e w4 ⟨rfl, k4, c4⟩; have HKA := Lib.hid (HK1.out _ k4 c4); have HKL := Lib.hid (fun W' (hb : Below w4.heap.size w4 W') => HKA.out.later hb); clear k4 c4)
          clear e0 e1 e2 e3 e4
          go_region_held3 (fun w' => w'.cell? ⟨wr.heap.size, 0, none⟩ = some (.int .i64 s.k) ∧ w'.cell? ⟨wr.heap.size, 1, none⟩ = some (.slice A2 s.names.length cap2) ∧ w'.cell? ⟨wr.heap.size, 2, none⟩ = some (.string s.name) ∧ w'.cell? ⟨wr.heap.size, 3, none⟩ = some (.int .i64 s.num) ∧ w'.cell? ⟨wr.heap.size, 4, none⟩ = some (.bool s.trim))
            (first | (with_reducible exact HC8.out) | (with_reducible exact (HKL.out _ H7.out).c) | (with_reducible exact (HKL.out _ H6.out).c) | (with_reducible exact (HKL.out _ H5.out).c) | (with_reducible exact (HKL.out _ (Below.refl _ _).drew).c))
            (first
              | (go_at_call 45; refine (bound_any _ _ _ _ _ s.names _ (HRD.out.str.later (HKL.out _ (Below.refl _ _).drew).pt.r3.bel)).mono ?_; rintro e w5 ⟨m5, rfl, hm5, hb5⟩; have H5 := Lib.hid (show Below w4.heap.size w4 w5 from (Below.refl _ _).drew.trans hb5); have HM5 := Lib.hid hm5; clear hm5 hb5)
              | (go_at_call 46; refine (makeUnbound_any _).mono ?_; rintro e w6 ⟨rfl, hb6⟩; have H6 := Lib.hid (step_after H5.out hb6); have HM6 := Lib.hid (HM5.out.chg (Chg.below hb6) soft_none); clear hb6)
              | (go_at_call 44; refine (makeEnvironment_any _ _ _).mono ?_; rintro e w7 ⟨rfl, hb7⟩; have H7 := Lib.hid (step_after H6.out hb7); have HM7 := Lib.hid (HM6.out.chg (Chg.below hb7) soft_none); have HK7 := Lib.hid (HKL.out _ H7.out); clear hb7)
              | (go_at_call 43; refine (newCall_any w.heap.size g m5 _ _ sl _ n _ s.trim ps ⟨k, s.names, true, s.trim⟩ w7 HK7.out.pt.cs HK7.out.pt.st (by have := HM7.out; rw [HNUM.out] at this; exact this) HPL.out HK7.out.pt.hB HCB.out ⟨rfl, rfl⟩).mono ?_; rintro e w8 ⟨rfl, sl8, p8, a1, a2, a3⟩; have HR := Lib.hid (push_done (es := es) HK7.out.pt HPS.out HSTP.out (by rw [HSTP.out, cnt_snoc]; rfl) a1 a2 a3); have HC8 := Lib.hid (HK7.out.push a3); clear a1 a2 a3))
          go_wp2_with fail
          go_meet
          exact ⟨by rw [HANS.out], HR.out⟩
        · have hs1 : (s.k == 1) = false := by rw [kk]; rfl
          have hs2 : (s.k == 2) = true := by rw [kk]; rfl
          have HANS := Lib.hid (show ansS (rn es k).st s = -1 by unfold ansS; rw [if_neg (by omega)])
          have HSTP := Lib.hid (show stepS (rn es k).st k s = (rn es k).st ++ [⟨k, s.names, false, false⟩] by unfold stepS; rw [if_neg (by omega), if_pos kk])
          have HNUM := Lib.hid (HPN.out (by omega))
          have HBD := Lib.hid (bound_any s.k s.num _ s.name s.trim s.names w3 (HRD.out.str.later HRD.out.low))
          clear kk k1 k5
          go_wp2_with (first
            | (go_at_call 45; refine HBD.out.mono ?_; rintro e w4 ⟨m4, rfl, hm4, hb4⟩; have HM4 := Lib.hid hm4; have HP4 := Lib.hid (HRD.out.pt.later hb4); clear hm4 hb4)
            | (go_at_call 47; refine (newLocal_any w.heap.size g m4 _ _ sl _ n ps ⟨k, s.names, false, false⟩ w4 HP4.out.cs HP4.out.st (by have := HM4.out; rw [HNUM.out] at this; exact this) HPL.out HP4.out.hB ⟨rfl, rfl⟩).mono ?_; rintro e w5 ⟨rfl, sl5, p5, a1, a2, a3⟩; have HR := Lib.hid (push_done (es := es) HP4.out HPS.out HSTP.out (by rw [HSTP.out, cnt_snoc]; rfl) a1 a2 a3); clear a1 a2 a3))
          go_meet
          exact ⟨by rw [HANS.out], HR.out⟩
        · have hs1 : (s.k == 1) = false := by rw [kk]; rfl
          have hs2 : (s.k == 2) = false := by rw [kk]; rfl
          have hs3 : (s.k == 3) = true := by rw [kk]; rfl
          have HZ := Lib.hid (HP3.out kk)
          have HSTP := Lib.hid (show stepS (rn es k).st k s = (if ((rn es k).st.length : Int) = s.num then (rn es k).st.dropLast else (rn es k).st) by unfold stepS; rw [if_neg (by omega), if_neg (by omega), if_pos kk])
          have HANS := Lib.hid (show ansS (rn es k).st s = -1 by unfold ansS; rw [if_neg (by omega)])
          have hpl2 : (rn es k).st.length = ps.length := by rw [← HPS.out]; simp
          by_cases hz : (ps.length : Int) = s.num
          · obtain ⟨qs, p, rfl⟩ : ∃ qs p, ps = qs ++ [p] := by
              have hne : ps ≠ [] := by rintro rfl; have := HZ.out; simp at hz; omega
              exact ⟨ps.dropLast, ps.getLast hne, (List.dropLast_concat_getLast hne).symm⟩
            have HPP := Lib.hid (pop_top w.heap.size g sl _ n s.num qs p w3 HRD.out.pt.cs HRD.out.pt.st (by have := HPL.out; simp at this; omega) (by have := HCB.out; omega) (fun hcl => by have := cnt_snoc (qs.map (·.2)) p.2; rw [← HPS.out, List.map_append]; simp only [List.map_cons, List.map_nil]; rw [this, hcl]; have := (cnt_bounds (qs.map (·.2))).1; simp; omega) (by simp at hz; omega))
            have HFN := Lib.hid (fun W' n' sl' x y (he : n' = if p.2.call then cnt (rn es k).st - 1 else cnt (rn es k).st) (h1 : Cs W' g (.pointer x) (.pointer y) sl' n' n) h2 h3 => kind3_top (W' := W') (es := es) (st' := stepS (rn es k).st k s) HRD.out.pt HPS.out (by rw [HSTP.out, if_pos (by rw [hpl2]; exact hz)]) he h1 h2 h3)
            clear kk k1 k5 hz hpl2
            go_wp2_with (go_at_call 48; refine HPP.out.mono ?_; rintro e w4 ⟨rfl, sl', x', y', a1, a2, a3⟩; have HR := Lib.hid (HFN.out _ _ _ _ _ rfl a1 a2 a3); clear a1 a2 a3)
            go_meet
            exact ⟨by rw [HANS.out], HR.out⟩
          · have hzb : ((ps.length : Int) == s.num) = false := by simpa using hz
            obtain ⟨A6, cap6, hv6, -, -, -⟩ := owns_form HRD.out.pt.st.own
            subst hv6
            have HPP := Lib.hid (pop_other g cap6 ps.length A6 _ _ _ n s.num w3 HRD.out.pt.cs hzb)
            have HFN := Lib.hid (show PRel w w.heap.size g es (stepS (rn es k).st k s) (rn es k).f (rn es k).n (rn es k).c n u2 u3 u4 w3 from by rw [HSTP.out, if_neg (by rw [hpl2]; exact hz)]; exact ⟨none, none, _, ps, HPS.out, HRD.out.pt⟩)
            clear kk k1 k5 hz hpl2 hzb
            go_wp2_with (go_at_call 48; refine HPP.out.mono ?_; rintro e w4 ⟨rfl, rfl⟩)
            go_meet
            exact ⟨by rw [HANS.out], HFN.out⟩
        · have hs1 : (s.k == 1) = false := by rw [kk]; rfl
          have hs2 : (s.k == 2) = false := by rw [kk]; rfl
          have hs3 : (s.k == 3) = false := by rw [kk]; rfl
          have hs4 : (s.k == 4) = true := by rw [kk]; rfl
          have HANS := Lib.hid (show ansS (rn es k).st s = -1 by unfold ansS; rw [if_neg (by omega)])
          have HTR := Lib.hid (trim_any w.heap.size g _ _ sl _ n ps w3 HRD.out.pt.cs HRD.out.pt.st HPL.out (by have := HCB.out; omega))
          have HFN := Lib.hid (fun W' (h : TrimD w3 W' w.heap.size g (.pointer none) (.pointer none) (cnt (rn es k).st) n ps) => kind4_any (es := es) (k := k) (s := s) HRD.out.pt HPS.out kk h)
          clear kk k1 k5
          go_wp2_with (go_at_call 49; refine HTR.out.mono ?_; rintro e w4 ⟨rfl, a1⟩; have HR := Lib.hid (HFN.out _ a1); clear a1)
          go_meet
          exact ⟨by rw [HANS.out], HR.out⟩
        · have hs1 : (s.k == 1) = false := by rw [kk]; rfl
          have hs2 : (s.k == 2) = false := by rw [kk]; rfl
          have hs3 : (s.k == 3) = false := by rw [kk]; rfl
          have hs4 : (s.k == 4) = false := by rw [kk]; rfl
          have hs5 : (s.k == 5) = true := by rw [kk]; rfl
          have HSTP := Lib.hid (show stepS (rn es k).st k s = (rn es k).st by unfold stepS; rw [if_neg (by omega), if_neg (by omega), if_neg (by omega), if_neg (by omega)])
          have HANS := Lib.hid (show ansS (rn es k).st s = lookTo (rn es k).st s.name (rn es k).st.length by unfold ansS; rw [if_pos kk])
          have HLU := Lib.hid (lookUp_any w.heap.size g _ _ sl _ n ps s.name w3 HRD.out.pt.cs HRD.out.pt.st HPL.out (by rw [maxLen_eq]; exact HNZ.out))
          have hlk : lookTo (ps.map (·.2)) s.name ps.length = lookTo (rn es k).st s.name (rn es k).st.length := by rw [HPS.out, ← HPS.out, List.length_map]
          rw [hlk] at HLU
          have HBK := Lib.hid (back_look es k s.name (by have h4 := HN2.out; have h5 := HN.out; omega) (by have h4 := HN2.out; have h5 := HN.out; omega))
          have HFN := Lib.hid (show PRel w w.heap.size g es (stepS (rn es k).st k s) (rn es k).f (rn es k).n (rn es k).c n u2 u3 u4 w3 from by rw [HSTP.out]; exact ⟨none, none, _, ps, HPS.out, HRD.out.pt⟩)
          have hta : ∀ (a : Addr) (W : World), (Instr.typeAssert (.iface 110 (.pointer (some a))) 113 110 false).run Try.prog W = .ok (.pointer (some a)) W := by intro a W; kernel_rfl
          clear kk k1 k5 hlk
          generalize hr : lookTo (rn es k).st s.name (rn es k).st.length = r at HLU HBK HANS
          have HR0 := Lib.hid hr
          clear hr
          have hcv : ∀ W : World, (convert 107 3 (.float .f64 (floatOfInt .f64 r))).run Try.prog W = .ok (.int .i64 r) W := fun W => run_convert_float_int W 107 3 .f64 .i64 _ r (by rw [Try.underlying107]; rfl) Try.underlying3 HBK.out
          go_wp2_with (go_at_call 50; refine HLU.out.mono ?_; rintro e w4 ⟨ht, rfl⟩; have HTD := Lib.hid ht; clear ht; rcases told_cells HTD.out with ⟨rfl, hr⟩ | ⟨q1, q3, fl, rfl, d2, d0, hfl⟩)
          · have HR1 := Lib.hid hr
            clear hr
            go_meet
            exact ⟨by rw [HANS.out, HR1.out], HFN.out⟩
          · go_meet
            exact ⟨by rw [HANS.out], HFN.out⟩
      case rest =>
        obtain ⟨rfl, hex2⟩ := hcut
        obtain ⟨x', y', sl', ps', hps', hpt'⟩ := hex2.ex
        obtain ⟨A6, cap6, hv6, -, -, -⟩ := owns_form hpt'.st.own
        subst hv6
        have hql : ps'.length ≤ 201 := by have h1 := congrArg List.length hps'; have h2 := stepS_len (rn es k).st k s; have h3 := HLK.out.1; have h4 := HN2.out; have h5 := HN.out; simp at h1; omega
        have HLN2 := Lib.hid (show (stepS (rn es k).st k s).length = ps'.length by rw [← hps']; simp)
        have HPS2 := Lib.hid hps'
        have HPL0 := Lib.hid (fun W' (hb : Below wc.heap.size wc W') => hpt'.later hb)
        have HL2 := Lib.hid (show (rn es k).f.length ≤ 1000 by have h1 := HLK.out; have h4 := HN2.out; have h5 := HN.out; omega)
        have HL3 := Lib.hid (show (rn es k).n.length ≤ 1000 by have h1 := HLK.out; have h4 := HN2.out; have h5 := HN.out; omega)
        have HL4 := Lib.hid (show (rn es k).c.length ≤ 1000 by have h1 := HLK.out; have h4 := HN2.out; have h5 := HN.out; omega)
        have HO2 := Lib.hid (fun k h => (World.ownsRow.lt hpt'.r3.o2 k h).2)
        have HO3 := Lib.hid (fun k h => (World.ownsRow.lt hpt'.r3.o3 k h).2)
        have HO4 := Lib.hid (fun k h => (World.ownsRow.lt hpt'.r3.o4 k h).2)
        have HRN := Lib.hid (rn_succ HSS.out)
        clear hps' hpt' hex2
        generalize hcn : cnt (stepS (rn es k).st k s) = cn at *
        have HCN := Lib.hid hcn
        clear hcn
        generalize hav : ansS (rn es k).st s = av at *
        have HAV := Lib.hid hav
        clear hav
        go_wp2_with fail
        go_region_held3 (fun w' => w'.cell? ⟨g, 2, none⟩ = some (.slice A6 ps'.length cap6) ∧ w'.cell? ⟨g, 3, none⟩ = some (.int .i64 cn))
          (first | (with_reducible exact ps_of (HPL3.out _ (Below.refl _ _))) | (with_reducible exact ps_of (HPL2.out _ (Below.refl _ _))) | (with_reducible exact ps_of (HPL2.out _ (ba1 _ _))) | (with_reducible exact ps_of (HPL1.out _ (Below.refl _ _))) | (with_reducible exact ps_of (HPL1.out _ (ba1 _ _))) | (with_reducible exact ps_of (HPL1.out _ (ba2 _ _ _))) | (with_reducible exact ps_of (HPL0.out _ (Below.refl _ _).drew)) | (with_reducible exact ps_of (HPL0.out _ (ba1 _ _).drew)) | (with_reducible exact ps_of (HPL0.out _ (ba2 _ _ _).drew)) | (with_reducible exact ps_of (HPL0.out _ (ba3 _ _ _ _).drew)))
          (first
            | (refine step_app2 rfl (.tmp 64) (.tmp 66) rfl (HPL0.out _ (by (with_reducible (first | exact (Below.refl _ _).drew | exact (ba1 _ _).drew | exact (ba2 _ _ _).drew | exact (ba3 _ _ _ _).drew | exact Below.refl _ _ | exact ba1 _ _ | exact ba2 _ _ _ | exact ba3 _ _ _ _)))) rfl rfl (by (repeat (first | with_reducible exact heap_alloc_new _ _ | with_reducible exact nw1 _ _ _ | with_reducible exact nw2 _ _ _ _ | with_reducible refine dk1 _ _ _ ?_ | with_reducible refine kp1 _ _ _ _ ?_))) HL2.out wc.heap.size HO2.out ?_
               intro q1 cp1 w1 hp1 hk1 hz1
               have HZ1 := Lib.hid (show wc.heap.size ≤ w1.heap.size by (try simp at hz1); omega)
               have HPL1 := Lib.hid (fun W' (hb : Below w1.heap.size w1 W') => hp1.later hb)
               have HK1 := Lib.hid hk1
               clear hp1 hk1 hz1)
            | (refine step_app3 rfl (.tmp 68) (.tmp 72) rfl (HPL1.out _ (by (with_reducible (first | exact (Below.refl _ _).drew | exact (ba1 _ _).drew | exact (ba2 _ _ _).drew | exact (ba3 _ _ _ _).drew | exact Below.refl _ _ | exact ba1 _ _ | exact ba2 _ _ _ | exact ba3 _ _ _ _)))) rfl rfl (by (repeat (first | with_reducible exact heap_alloc_new _ _ | with_reducible exact nw1 _ _ _ | with_reducible exact nw2 _ _ _ _ | with_reducible refine dk1 _ _ _ ?_ | with_reducible refine kp1 _ _ _ _ ?_ | with_reducible refine HK1.out _ _ (by first | (simp; done) | (have h1 := HZ1.out; omega)) ?_))) HL3.out wc.heap.size HO3.out ?_
               intro q2 cp2 w2 hp2 hk2 hz2
               have HZ2 := Lib.hid (show wc.heap.size ≤ w2.heap.size by have h1 := HZ1.out; (try simp at hz2); omega)
               have HPL2 := Lib.hid (fun W' (hb : Below w2.heap.size w2 W') => hp2.later hb)
               have HK2 := Lib.hid hk2
               clear hp2 hk2 hz2)
            | (refine step_app4 rfl (.tmp 74) (.tmp 77) rfl (HPL2.out _ (by (with_reducible (first | exact (Below.refl _ _).drew | exact (ba1 _ _).drew | exact (ba2 _ _ _).drew | exact (ba3 _ _ _ _).drew | exact Below.refl _ _ | exact ba1 _ _ | exact ba2 _ _ _ | exact ba3 _ _ _ _)))) rfl rfl (by (repeat (first | with_reducible exact heap_alloc_new _ _ | with_reducible exact nw1 _ _ _ | with_reducible exact nw2 _ _ _ _ | with_reducible refine dk1 _ _ _ ?_ | with_reducible refine kp1 _ _ _ _ ?_ | with_reducible refine HK1.out _ _ (by first | (simp; done) | (have h1 := HZ1.out; omega)) ?_ | with_reducible refine HK2.out _ _ (by first | (simp; done) | (have h1 := HZ1.out; omega) | (have h1 := HZ2.out; omega)) ?_))) HL4.out wc.heap.size HO4.out ?_
               intro q3 cp3 w3 hp3 hk3 hz3
               have HPL3 := Lib.hid (fun W' (hb : Below w3.heap.size w3 W') => hp3.later hb)
               clear hp3 hk3 hz3))
        all_goals
          have HFIN := Lib.hid (prel_next HSS.out HPS2.out HCN.out HAV.out HLN2.out (HPL3.out _ (Below.refl _ _)))
          go_wp2_with fail
          exact ⟨⟨k + 1, by omega, by go_num, HFIN.out⟩, by simp [intOf]; omega⟩
    · have hki : ¬ (k : Int) < (n : Int) := by omega
      have HE := Lib.hid (show n = k by omega)
      have HR := Lib.hid hpt.r3
      clear hps hpt hex
      go_wp2
      go_ret3
      exact ⟨_, _, _, rfl, by rw [HE.out]; exact HR.out⟩
end Go.Proofs.Ytincgkolpicipaa.stack
