/- FnStepsTwice: simple objects out of a step's fields. -/
import Derived.Test.YtincgkolpicipaaDoorSt3
namespace Go.Proofs.YtincgkolpicipaaDoor.twice
open Go.RowKit
theorem simV_succ {names : List (List UInt8)} {hides : List Int} {k : Nat} {t : List UInt8} {h : Int} (ht : names[k]? = some t) (hh : hides[k]? = some h) : simV names hides (k + 1) = putV (simV names hides k) t h := by
  funext s
  rw [simV, ht, hh]
  show (if some t = some s then some h else simV names hides k s) = (if s = t then some h else simV names hides k s)
  by_cases e : s = t
  · subst e; simp
  · rw [if_neg (show ¬ some t = some s from fun h => e (Option.some.inj h).symm), if_neg e]
structure SRel (w : World) (B : Array Value) (names : List (List UInt8)) (hides : List Int) (k : Nat) (W : World) : Prop where
  map : MapV fR W (w.heap.size + 1) (simV names hides k) k
  bel : Below w.heap.size w W
  row : W.heap[w.heap.size]? = some (.cells B 52 (0, 0))
theorem srel_start {w W : World} {B : Array Value} {names : List (List UInt8)} {hides : List Int} (hW : W = (w.alloc (.cells B 52)).alloc (.map #[] 0)) : SRel w B names hides 0 W := by
  subst hW
  have h := mapV_made fR (w.alloc (.cells B 52))
  rw [show (w.alloc (.cells B 52)).heap.size = w.heap.size + 1 by simp] at h
  exact ⟨h, ((Below.refl _ _).alloc (Nat.le_refl _) _).alloc (by simp) _, kp1 _ _ _ _ (heap_alloc_new _ _)⟩
theorem srel_step {w wr W' : World} {B : Array Value} {names : List (List UInt8)} {hides : List Int} {k : Nat} {t : List UInt8} {h : Int} (hr : SRel w B names hides k wr) (ht : names[k]? = some t) (hh : hides[k]? = some h) (hm : MapV fR W' (w.heap.size + 1) (putV (simV names hides k) t h) (k + 1)) (hg : wr.grownBy W' (some (w.heap.size + 1))) : SRel w B names hides (k + 1) W' := by
  have c : Chg (fun k => k = w.heap.size + 1) wr W' := (Chg.refl _ _).grown hg fun k hk _ => by injection hk with e; exact e.symm
  exact ⟨by rw [simV_succ ht hh]; exact hm, hr.bel.trans (c.toBelow hr.bel.size fun k hk => by omega), c.keep hr.row (by omega)⟩
set_option maxRecDepth 100000 in
set_option maxHeartbeats 4000000 in
theorem simple_any (s : ByteArray) (nv hv : Value) (is : Bool) (names : List (List UInt8)) (hides : List Int) (w : World) (hs : Strs w nv names) (hi : Ints w hv hides) (hl : names.length = hides.length) :
    Calls Tryd.prog 24 #[.agg #[.string s, nv, hv, .bool is]] w fun e w' => Below w.heap.size w w' ∧ ∃ g o, e = .returned (.pointer (some ⟨g, 0, none⟩)) ∧ VoAt w' g o ∧ o.view = simV names hides names.length ∧ o.cnt = names.length := by
  obtain ⟨A, cap, rfl, hl63, hc⟩ := hs
  obtain ⟨A2, cap2, rfl, -, hc2⟩ := hi
  have HC := Lib.hid hc
  have HC2 := Lib.hid hc2
  clear hc hc2
  rw [← hl]
  generalize hn : names.length = n at *
  have HN := Lib.hid hn
  have HL := Lib.hid hl
  clear hn hl
  have hmk : ∀ W : World, Sem.run Tryd.prog (Instr.makeMap 86 none) W = .ok (.map (some W.heap.size)) (W.alloc (.map #[] 0)) := fun W => run_makeMap 86 W
  go_enter Tryd.func24, Tryd.ntmps24
  go_wp2_with fail
  go_loopw [4, 5, 10] (fun _ _ x wr => ∃ k : Nat, k ≤ n ∧ x = .int .i64 k ∧ SRel w #[.string s, .slice A n cap, .slice A2 n cap2, .bool is] names hides k wr) (fun _ _ x _ => n - (intOf x).toNat)
  case atStart => exact ⟨0, Nat.zero_le _, rfl, srel_start rfl⟩
  case round =>
    obtain ⟨k, hk, rfl, hr⟩ := hrel
    by_cases hlt : k < n
    · obtain ⟨t, ht⟩ : ∃ t, names[k]? = some t := ⟨_, List.getElem?_eq_getElem (by have := HN.out; omega)⟩
      obtain ⟨h, hh⟩ : ∃ t, hides[k]? = some t := ⟨_, List.getElem?_eq_getElem (by have := HL.out; omega)⟩
      obtain ⟨hts, q, o, rfl, ct⟩ := HC.out k t ht
      obtain ⟨q2, o2, rfl, ch⟩ := HC2.out k h hh
      have c1 := cell_later hr.bel ct
      have c4 := cell_later hr.bel ch
      have c2 : wr.cell? ⟨w.heap.size, 1, none⟩ = some (.slice (some ⟨q, o, none⟩) n cap) := cell_of_row wr _ 1 _ _ _ hr.row
      have c3 : wr.cell? ⟨w.heap.size, 2, none⟩ = some (.slice (some ⟨q2, o2, none⟩) n cap2) := cell_of_row wr _ 2 _ _ _ hr.row
      have hki : (k : Int) < (n : Int) := by omega
      obtain ⟨w1, hrun, hm1, hg1⟩ := hr.map.update Tryd.underlying86 (by omega) t hts (.agg #[.nilIface, .int .i64 h]) h rfl
      have hst1 := Lib.hid (srel_step hr ht hh hm1 hg1)
      clear hr ht hh ct ch hm1 hg1
      go_wp2_with fail
      exact ⟨⟨k + 1, by omega, by go_num, hst1.out⟩, by simp [intOf]; omega⟩
    · have hki : ¬ (k : Int) < (n : Int) := by omega
      have HR := Lib.hid hr
      have HK := Lib.hid (show n = k by omega)
      have HMS := Lib.hid (mkSimple_any _ _ _ _ hr.map)
      clear hr
      go_wp2_with (go_at_call 29; refine HMS.out.mono ?_; rintro e w1 ⟨hb1, g, o, rfl, hvo, h1, h2⟩; have HX := Lib.hid (And.intro hb1 (And.intro hvo (And.intro h1 h2))); clear hb1 hvo h1 h2)
      go_returns
      obtain ⟨hb1, hvo, h1, h2⟩ := HX.out
      exact ⟨step_after HR.out.bel hb1, g, o, rfl, hvo, by rw [HK.out]; exact h1, by rw [HK.out]; exact h2⟩
end Go.Proofs.YtincgkolpicipaaDoor.twice
