/- std.splitLimit and std.splitLimitR through the thin package, by contract. -/
import Derived.Test.YtjnlgefcpmppmaaStrs
namespace Go.Proofs.Ytjnlgefcpmppmaa.split
open Go.RowKit Go.Proofs.Ytjnlgefcpmppmaa.utf Go.Proofs.Ytjnlgefcpmppmaa.joined
def Cells (w : World) (g : Nat) (ps : List ByteArray) : Prop := ∀ j, j < ps.length → w.cell? ⟨g, j, none⟩ = some (.string (ps.getD j ByteArray.empty))
def Parted (c s : ByteArray) (m : Nat) (w : World) (e : Ending) (w' : World) : Prop := (∃ g cc ps, e = .returned (.tuple #[.slice (some ⟨g, 0, none⟩) ps.length cc, .nilIface]) ∧ Cells w' g ps ∧ Parts c s ps ∧ 1 ≤ ps.length ∧ ps.length ≤ m + 1) ∧ Below w.heap.size w w'
def Texts (c s : ByteArray) (m : Nat) (w : World) (e : Ending) (w' : World) : Prop := (∃ g cc ps, e = .returned (.tuple #[.slice (some ⟨g, 0, none⟩) ps.length cc, .bool true]) ∧ Cells w' g ps ∧ Parts c s ps ∧ 1 ≤ ps.length ∧ ps.length ≤ m + 1) ∧ Below w.heap.size w w'
theorem texts_any (v : Value) (w : World) : Calls Try.prog 17 #[v, .nilIface] w fun e w' => e = .returned (.tuple #[v, .bool true]) ∧ w = w' := by
  go_enter Try.func17, Try.ntmps17
  go_wp2_with fail
  go_ret2
  exact ⟨rfl, rfl⟩
set_option maxRecDepth 100000 in
theorem part_limit (s c : ByteArray) (rs us : List Nat) (m : Nat) (w : World) (hs : Chain s 0 rs) (hc : Chain c 0 us) (hm : m < 256) (hsz : s.size ≤ 2000) (hcz : c.size ≤ 2000) (h0 : 0 < c.size) :
    Calls Try.prog 18 #[.string s, .string c, .float .f64 (floatOfInt .f64 m)] w (Parted c s m w) := by
  have hl1 := hs.length
  have hl2 := hc.length
  have H1 := Lib.hid (fun w => str_flat s rs w hs (by omega))
  have H2 := Lib.hid (fun w => str_flat c us w hc (by omega))
  have HB := Lib.hid (fun B1 B2 i p1 p2 b w h1 h2 hn => limit_any B1 B2 i p1 p2 b m s c rs us w h1 h2 hs hc hm hn hsz hcz h0)
  clear hs hc hl1 hl2
  generalize floatOfInt .f64 (m : Int) = x at *
  go_enter Try.func18, Try.ntmps18
  go_wp2_with fail
  refine (H1.out _).mono ?_
  rintro e W1 ⟨⟨v1, rfl, hf1⟩, hb1⟩
  have hf1' := hf1
  obtain ⟨q1, q2, q3, rfl, _⟩ := hf1'
  have F1 := Lib.hid hf1
  have B1 := Lib.hid (((Below.refl w.heap.size w).alloc (Nat.le_refl _) _).trans (hb1.mono (by simp)))
  clear hf1 hb1
  go_wp2_with fail
  refine (H2.out _).mono ?_
  rintro e W2 ⟨⟨v2, rfl, hf2⟩, hb2⟩
  have hf2' := hf2
  obtain ⟨r1, r2, r3, rfl, _⟩ := hf2'
  have F2 := Lib.hid hf2
  have F1' := Lib.hid (F1.out.keep (fun k _ hk => hb2.block k hk))
  have B2 := Lib.hid (B1.out.trans (hb2.mono B1.out.size))
  clear hf2 hb2 F1 B1
  go_wp2_with (go_at_call 27; refine (num_any _ _).mono ?_; rintro e w' ⟨rfl, rfl⟩)
  have HL := Lib.hid (HB.out _ _ (.pointer (some ⟨w.heap.size, 0, none⟩)) (.pointer (some ⟨q1, 0, none⟩)) (.pointer (some ⟨r1, 0, none⟩)) W2.heap.size (W2.alloc (.cells #[.float .f64 x] 120)) (F1'.out.keep (fun k _ hk => heap_alloc_old W2 _ hk)) (F2.out.keep (fun k _ hk => heap_alloc_old W2 _ hk)) (by rw [World.cell?_alloc_new]; rfl))
  refine HL.out.mono ?_
  rintro e W3 ⟨⟨v, rfl, hA⟩, hb3⟩
  have HA := Lib.hid (strs_any c s m v W3 hA hm)
  have B3 := Lib.hid ((B2.out.alloc B2.out.size _).trans (hb3.mono (by have := B2.out.size; simp; omega)))
  clear hA hb3 HL B2
  go_wp2_with fail
  refine HA.out.mono ?_
  rintro e W4 ⟨⟨v4, ps, rfl, hr, hP, n1, n2⟩, hb4⟩
  obtain ⟨g, cc, rfl, hcells⟩ := hr.cells n1
  have HC := Lib.hid hcells
  have HP := Lib.hid hP
  have B4 := Lib.hid (B3.out.trans (hb4.mono B3.out.size))
  clear hr hcells hP hb4 HA B3
  go_wp2_with fail
  go_ret2
  exact ⟨⟨g, cc, ps, rfl, HC.out, HP.out, n1, n2⟩, B4.out⟩
set_option maxRecDepth 100000 in
theorem part_limitR (s c : ByteArray) (rs us : List Nat) (m : Nat) (w : World) (hs : Chain s 0 rs) (hc : Chain c 0 us) (hm : m < 256) (hsz : s.size ≤ 2000) (hcz : c.size ≤ 2000) (h0 : 0 < c.size) :
    Calls Try.prog 19 #[.string s, .string c, .float .f64 (floatOfInt .f64 m)] w (Parted c s m w) := by
  have hl1 := hs.length
  have hl2 := hc.length
  have H1 := Lib.hid (fun w => str_flat s rs w hs (by omega))
  have H2 := Lib.hid (fun w => str_flat c us w hc (by omega))
  have HB := Lib.hid (fun B1 B2 i p1 p2 b w h1 h2 hn => limitR_any B1 B2 i p1 p2 b m s c rs us w h1 h2 hs hc hm hn hsz hcz h0)
  clear hs hc hl1 hl2
  generalize floatOfInt .f64 (m : Int) = x at *
  go_enter Try.func19, Try.ntmps19
  go_wp2_with fail
  refine (H1.out _).mono ?_
  rintro e W1 ⟨⟨v1, rfl, hf1⟩, hb1⟩
  have hf1' := hf1
  obtain ⟨q1, q2, q3, rfl, _⟩ := hf1'
  have F1 := Lib.hid hf1
  have B1 := Lib.hid (((Below.refl w.heap.size w).alloc (Nat.le_refl _) _).trans (hb1.mono (by simp)))
  clear hf1 hb1
  go_wp2_with fail
  refine (H2.out _).mono ?_
  rintro e W2 ⟨⟨v2, rfl, hf2⟩, hb2⟩
  have hf2' := hf2
  obtain ⟨r1, r2, r3, rfl, _⟩ := hf2'
  have F2 := Lib.hid hf2
  have F1' := Lib.hid (F1.out.keep (fun k _ hk => hb2.block k hk))
  have B2 := Lib.hid (B1.out.trans (hb2.mono B1.out.size))
  clear hf2 hb2 F1 B1
  go_wp2_with (go_at_call 27; refine (num_any _ _).mono ?_; rintro e w' ⟨rfl, rfl⟩)
  have HL := Lib.hid (HB.out _ _ (.pointer (some ⟨w.heap.size, 0, none⟩)) (.pointer (some ⟨q1, 0, none⟩)) (.pointer (some ⟨r1, 0, none⟩)) W2.heap.size (W2.alloc (.cells #[.float .f64 x] 120)) (F1'.out.keep (fun k _ hk => heap_alloc_old W2 _ hk)) (F2.out.keep (fun k _ hk => heap_alloc_old W2 _ hk)) (by rw [World.cell?_alloc_new]; rfl))
  refine HL.out.mono ?_
  rintro e W3 ⟨⟨v, rfl, hA⟩, hb3⟩
  have HA := Lib.hid (strs_any c s m v W3 hA hm)
  have B3 := Lib.hid ((B2.out.alloc B2.out.size _).trans (hb3.mono (by have := B2.out.size; simp; omega)))
  clear hA hb3 HL B2
  go_wp2_with fail
  refine HA.out.mono ?_
  rintro e W4 ⟨⟨v4, ps, rfl, hr, hP, n1, n2⟩, hb4⟩
  obtain ⟨g, cc, rfl, hcells⟩ := hr.cells n1
  have HC := Lib.hid hcells
  have HP := Lib.hid hP
  have B4 := Lib.hid (B3.out.trans (hb4.mono B3.out.size))
  clear hr hcells hP hb4 HA B3
  go_wp2_with fail
  go_ret2
  exact ⟨⟨g, cc, ps, rfl, HC.out, HP.out, n1, n2⟩, B4.out⟩
theorem text_limit (s c : ByteArray) (rs us : List Nat) (m : Nat) (w : World) (hs : Chain s 0 rs) (hc : Chain c 0 us) (hm : m < 256) (hsz : s.size ≤ 2000) (hcz : c.size ≤ 2000) (h0 : 0 < c.size) :
    Calls Try.prog 11 #[.string s, .string c, .float .f64 (floatOfInt .f64 m)] w (Texts c s m w) := by
  have HC := Lib.hid (part_limit s c rs us m w hs hc hm hsz hcz h0)
  clear hs hc
  generalize floatOfInt .f64 (m : Int) = x at *
  go_enter Try.func11, Try.ntmps11
  go_wp2_with fail
  refine HC.out.mono ?_
  rintro e W ⟨⟨g, cc, ps, rfl, hcells, hP, n1, n2⟩, hb⟩
  have HX := Lib.hid hcells
  have HP := Lib.hid hP
  have HB := Lib.hid hb
  clear hcells hP hb HC
  go_wp2_with (go_at_call 17; refine (texts_any _ _).mono ?_; rintro e w' ⟨rfl, rfl⟩)
  go_ret2
  exact ⟨⟨g, cc, ps, rfl, HX.out, HP.out, n1, n2⟩, HB.out⟩
theorem text_limitR (s c : ByteArray) (rs us : List Nat) (m : Nat) (w : World) (hs : Chain s 0 rs) (hc : Chain c 0 us) (hm : m < 256) (hsz : s.size ≤ 2000) (hcz : c.size ≤ 2000) (h0 : 0 < c.size) :
    Calls Try.prog 12 #[.string s, .string c, .float .f64 (floatOfInt .f64 m)] w (Texts c s m w) := by
  have HC := Lib.hid (part_limitR s c rs us m w hs hc hm hsz hcz h0)
  clear hs hc
  generalize floatOfInt .f64 (m : Int) = x at *
  go_enter Try.func12, Try.ntmps12
  go_wp2_with fail
  refine HC.out.mono ?_
  rintro e W ⟨⟨g, cc, ps, rfl, hcells, hP, n1, n2⟩, hb⟩
  have HX := Lib.hid hcells
  have HP := Lib.hid hP
  have HB := Lib.hid hb
  clear hcells hP hb HC
  go_wp2_with (go_at_call 17; refine (texts_any _ _).mono ?_; rintro e w' ⟨rfl, rfl⟩)
  go_ret2
  exact ⟨⟨g, cc, ps, rfl, HX.out, HP.out, n1, n2⟩, HB.out⟩
end Go.Proofs.Ytjnlgefcpmppmaa.split
