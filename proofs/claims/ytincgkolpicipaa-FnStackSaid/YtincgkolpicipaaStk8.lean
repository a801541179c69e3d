/- FnStack: bound by contract. -/
import Derived.Test.YtincgkolpicipaaStk7
import Derived.StringKeys
namespace Go.Proofs.Ytincgkolpicipaa.stack
open Go.RowKit
structure BRel (w : World) (B : Array Value) (names : List ByteArray) (i : Int) (k : Nat) (W : World) : Prop where
  map : MapOk W (w.heap.size + 1) (names.take k) i
  bel : Below w.heap.size w W
  row : W.heap[w.heap.size]? = some (.cells B 51 (0, 0))
theorem brel_start {w W : World} {B : Array Value} {names : List ByteArray} {i : Int} (hW : W = (w.alloc (.cells B 51)).alloc (.map #[] 0)) : BRel w B names i 0 W := by
  subst hW
  have hb : Below w.heap.size w ((w.alloc (.cells B 51)).alloc (.map #[] 0)) := ((Below.refl _ _).alloc (Nat.le_refl _) _).alloc (by simp) _
  have hs : (w.alloc (.cells B 51)).heap.size = w.heap.size + 1 := by simp
  refine ⟨⟨.map [], ?_, fun s => rfl, fun s h => by simp [placeTo] at h⟩, hb, ?_⟩
  · have := World.ownsMap_made (w.alloc (.cells B 51)) Try.prog 104 ptrR
    rw [hs] at this
    simpa using this
  · have h1 : (w.alloc (.cells B 51)).heap[w.heap.size]? = some (.cells B 51 (0, 0)) := heap_alloc_new _ _
    have c := Chg.below (X := fun _ => False) ((Below.refl (w.alloc (.cells B 51)).heap.size (w.alloc (.cells B 51))).alloc (Nat.le_refl _) (.map #[] 0))
    exact c.keep h1 id
theorem brel_step {w wr w' : World} {B : Array Value} {names : List ByteArray} {i : Int} {k : Nat} {t : ByteArray} {D : DataW Unit} {W : World} (hr : BRel w B names i k wr) (ht : names[k]? = some t)
    (hW : W = (wr.alloc (.cells #[.float .f64 (floatOfInt .f64 i)] 109)).alloc (.cells #[.pointer none, .nilIface, .iface 110 (.pointer (some ⟨wr.heap.size, 0, none⟩)), .nilIface] 117))
    (h2 : ∀ s, Maps.has D (keyS s) = placeTo (names.take k) s) (h3 : ∀ s, placeTo (names.take k) s = true → ∃ g : Nat, (∀ z, D.atKey (keyS s) z = .lit (.int .i64 g)) ∧ ThunkAt wr g i) (h1 : wr.ownsMap Try.prog 104 ptrR (w.heap.size + 1) (names.take k).length D)
    (ho : w'.ownsMap Try.prog 104 ptrR (w.heap.size + 1) ((names.take k).length + 1) (D.put (keyS t) (.lit (.int .i64 ((wr.heap.size + 1 : Nat) : Int))))) (hg : W.grownBy w' (some (w.heap.size + 1))) : BRel w B names i (k + 1) w' := by
  have hbW : Below wr.heap.size wr W := by subst hW; exact ((Below.refl _ _).alloc (Nat.le_refl _) _).alloc (by simp) _
  have cW : Chg (fun _ => False) wr W := Chg.below hbW
  have s0 : Soft (fun _ => False) wr := fun _ h => h.elim
  have cg : Chg (fun k => k = w.heap.size + 1) W w' := (Chg.refl _ _).grown hg fun k hk _ => by injection hk with e; exact e.symm
  have hth : ThunkAt W (wr.heap.size + 1) i := by
    subst hW
    have a1 : (wr.alloc (.cells #[.float .f64 (floatOfInt .f64 i)] 109)).heap[wr.heap.size]? = some (.cells #[.float .f64 (floatOfInt .f64 i)] 109 (0, 0)) := heap_alloc_new _ _
    have a2 := heap_alloc_new (wr.alloc (.cells #[.float .f64 (floatOfInt .f64 i)] 109)) (.cells #[.pointer none, .nilIface, .iface 110 (.pointer (some ⟨wr.heap.size, 0, none⟩)), .nilIface] 117)
    have e : (wr.alloc (.cells #[.float .f64 (floatOfInt .f64 i)] 109)).heap.size = wr.heap.size + 1 := by simp
    rw [e] at a2
    refine ⟨wr.heap.size, a2, ?_⟩
    exact (Chg.below (X := fun _ => False) ((Below.refl _ _).alloc (Nat.le_refl _) _)).keep a1 id
  refine ⟨?_, ?_, ?_⟩
  · rw [List.take_add_one, ht]
    exact MapOk.put ⟨_, ownsMap_chg h1 cW s0⟩ h2 (fun s hs => by obtain ⟨g, e, h⟩ := h3 s hs; exact ⟨g, e, h.chg cW s0⟩) ho hg hth
  · exact (hr.bel.trans (hbW.mono hr.bel.size)).trans (cg.toBelow (Nat.le_trans hr.bel.size hbW.size) fun j hj => by omega)
  · exact cg.keep (cW.keep hr.row id) (by omega)
set_option maxRecDepth 100000 in
set_option maxHeartbeats 4000000 in
theorem bound_any (kd i : Int) (nv : Value) (s : ByteArray) (tr : Bool) (names : List ByteArray) (w : World) (h : Strs w nv names) :
    Calls Try.prog 45 #[.agg #[.int .i64 kd, nv, .string s, .int .i64 i, .bool tr]] w fun e w' => ∃ m, e = .returned (.map (some m)) ∧ MapOk w' m names i ∧ Below w.heap.size w w' := by
  obtain ⟨A, cap, rfl, hl63, hc⟩ := h
  have HC := Lib.hid hc
  clear hc
  generalize hn : names.length = n at *
  have HN := Lib.hid hn
  clear hn
  have hmk : ∀ W : World, Sem.run Try.prog (Instr.makeMap 91 none) W = .ok (.map (some W.heap.size)) (W.alloc (.map #[] 0)) := fun W => run_makeMap 91 W
  go_enter Try.func45, Try.ntmps45
  go_wp2_with fail
  go_loopw [10] (fun x wr => ∃ k : Nat, k ≤ n ∧ x = .int .i64 k ∧ BRel w #[.int .i64 kd, .slice A n cap, .string s, .int .i64 i, .bool tr] names i k wr) (fun x _ => n - (intOf x).toNat)
  case atStart => exact ⟨0, Nat.zero_le _, rfl, brel_start rfl⟩
  case round =>
    obtain ⟨k, hk, rfl, hr⟩ := hrel
    by_cases hlt : k < n
    · obtain ⟨t, ht⟩ : ∃ t, names[k]? = some t := ⟨_, List.getElem?_eq_getElem (by have := HN.out; omega)⟩
      obtain ⟨hts, q, o, rfl, ct⟩ := HC.out k t ht
      have c1 := cell_later hr.bel ct
      have c3 : wr.cell? ⟨w.heap.size, 3, none⟩ = some (.int .i64 i) := cell_of_row wr _ 3 _ _ _ hr.row
      have hki : (k : Int) < (n : Int) := by omega
      obtain ⟨D, d1, d2, d3⟩ := hr.map.own
      have HTL := Lib.hid (show (names.take k).length = k by have := HN.out; simp; omega)
      have ho := ownsMap_chg d1 (Chg.below (X := fun _ => False) (((Below.refl _ _).alloc (Nat.le_refl _) (.cells #[.float .f64 (floatOfInt .f64 i)] 109)).alloc (by simp) (.cells #[.pointer none, .nilIface, .iface 110 (.pointer (some ⟨wr.heap.size, 0, none⟩)), .nilIface] 117))) (fun _ h => h.elim)
      obtain ⟨w1, hrun, ho1, hg1⟩ := World.ownsMap.update ho (Maps.string_keyed Try.underlying104) Try.underlying91 (by rw [HTL.out, maxLen_eq]; omega) (key := .string t) (val := .pointer (some ⟨wr.heap.size + 1, 0, none⟩)) (WideMaps.keyOf_string_mk Try.underlying104 (by rw [maxLen_eq]; exact hts)) (show ptrR (.pointer (some ⟨wr.heap.size + 1, 0, none⟩)) = some (.lit (.int .i64 ((wr.heap.size + 1 : Nat) : Int)), []) from rfl)
      have hst1 := Lib.hid (brel_step hr ht rfl d2 d3 d1 ho1 hg1)
      clear hr ht d1 d2 d3 ct ho ho1 hg1 HTL
      go_wp2_with (first
        | (go_at_call 66; refine (intToValue_any _ _).mono ?_; rintro e w' ⟨rfl, rfl⟩)
        | (go_at_call 65; refine (readyThunk_any _ _ _).mono ?_; rintro e w' ⟨rfl, rfl⟩))
      exact ⟨⟨k + 1, by omega, by go_num, hst1.out⟩, by simp [intOf]; omega⟩
    · have hki : ¬ (k : Int) < (n : Int) := by omega
      have HR := Lib.hid hr
      have hkn : n = k := by omega
      have HK := Lib.hid (show names.take k = names by rw [← hkn, ← HN.out]; exact List.take_length)
      clear hr hkn
      go_wp2
      go_ret
      exact ⟨_, rfl, by have h := HR.out.map; rw [HK.out] at h; exact h, HR.out.bel⟩
end Go.Proofs.Ytincgkolpicipaa.stack
