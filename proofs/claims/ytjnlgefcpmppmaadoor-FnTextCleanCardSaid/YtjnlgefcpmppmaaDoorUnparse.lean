/- jsonnet.unparseString: what is written is clean: between quotation marks, UTF-8, of bytes from 32 on. -/
import Derived.Test.YtjnlgefcpmppmaaDoorBufLay
import Derived.Test.YtjnlgefcpmppmaaDoorHex
import Derived.Test.YtjnlgefcpmppmaaDoorCleanLaw
import Derived.WalkLawsBesides
import Derived.WalkSpells
import Derived.Lib.RuneLoops
import Derived.Lib.BufferOld
import Derived.Laws.RangeAny
import Derived.BigCall
import Derived.Lib.Hide
namespace Go.Proofs.YtjnlgefcpmppmaaDoor.clean
open Go.RowKit Go.Shelf
theorem width_pos (s : ByteArray) (pos : Nat) (h : pos < s.size) : 1 ≤ (Utf8.decode s pos).2 := by
  by_cases ha : (s[pos]'h).toNat < 128
  · rw [decode_ascii s pos h ha]
    exact Nat.le_refl _
  · exact (decode_high s pos h (by omega)).2
/-- A text that is clean so far: a quotation mark, then clean bytes. -/
def Clean (acc : List UInt8) : Prop := Good acc ∧ ∃ x, acc = 34 :: x
theorem Clean.app {a b : List UInt8} (ha : Clean a) (hb : Good b) : Clean (a ++ b) := by
  obtain ⟨h, x, rfl⟩ := ha
  exact ⟨h.append hb, x ++ b, rfl⟩
theorem good34 : Good [34] := Good.ascii (by decide)
/-- The buffer holds acc, the iterator stands at pos; below all is as it was. -/
structure St (w : World) (K : Nat) (s : ByteArray) (pos : Nat) (acc : List UInt8) (wr : World) : Prop where
  buf : Lib.IsBuffer 105 5 w.heap.size w.heap.size (Lib.byteCells acc) wr
  iter : wr.heap[K]? = some (.stringIter s pos)
  below : Below w.heap.size w wr
  high : w.heap.size < K
theorem St.size {w : World} {K : Nat} {s : ByteArray} {pos : Nat} {acc : List UInt8} {wr : World} (h : St w K s pos acc wr) : K < wr.heap.size := (Array.getElem?_eq_some_iff.1 h.iter).1
theorem St.next {w : World} {K : Nat} {s : ByteArray} {pos : Nat} {acc : List UInt8} {wr : World} (h : St w K s pos acc wr) (p : Nat) : St w K s p acc (wr.iterAt K s p) :=
  ⟨h.buf.iterAt h.iter p, Lib.iterAt_heap wr K s pos p h.iter, Lib.below_iterAt h.below (by have := h.high; omega) s p, h.high⟩
theorem St.old {w : World} {K : Nat} {s : ByteArray} {pos : Nat} {acc : List UInt8} {wr w' : World} (h : St w K s pos acc wr) (hb : Below wr.heap.size wr w') : St w K s pos acc w' :=
  ⟨h.buf.old hb, (hb.block K h.size).trans h.iter, h.below.trans (hb.mono h.below.size), h.high⟩
theorem write_st {w : World} {K : Nat} {s : ByteArray} {pos : Nat} {acc : List UInt8} {wr : World} (h : St w K s pos acc wr) (t : ByteArray) (hl : acc.length + t.size ≤ 140737488355328) :
    Calls Tryd.prog 31 #[.pointer (some ⟨w.heap.size, 0, none⟩), .string t] wr fun e w' => e = .returned (.tuple #[.int .i64 t.size, .nilIface]) ∧ St w K s pos (acc ++ t.data.toList) w' :=
  (writeString_any w.heap.size w.heap.size _ t wr h.buf h.below.size (Lib.byteCells_one _) (by rw [Lib.byteCells_length]; exact hl)).mono (fun e w' ⟨he, hi, hb, hk⟩ =>
    ⟨he, ⟨by rw [Lib.byteCells_append]; exact hi, hk.iter h.iter (by have := h.high; omega), h.below.trans hb, h.high⟩⟩)
theorem rune_st {w : World} {K : Nat} {s : ByteArray} {pos : Nat} {acc : List UInt8} {wr : World} (h : St w K s pos acc wr) (r : Nat) (hr : r ≤ 1114111) (hl : acc.length + 4 ≤ 140737488355328) :
    Calls Tryd.prog 33 #[.pointer (some ⟨w.heap.size, 0, none⟩), .int .i32 r] wr fun e w' => e = .returned (.tuple #[.int .i64 (Lib.runeCells r).length, .nilIface]) ∧ St w K s pos (acc ++ Lib.encodeRune r) w' :=
  (writeRune_any w.heap.size w.heap.size _ r (by omega) (by omega) wr h.buf h.below.size (Lib.byteCells_one _) (by rw [Lib.byteCells_length]; exact hl)).mono (fun e w' ⟨he, hi, hb, hk⟩ =>
    ⟨he, ⟨by rw [Lib.byteCells_append, Lib.byteCells_encodeRune]; exact hi, hk.iter h.iter (by have := h.high; omega), h.below.trans hb, h.high⟩⟩)
theorem rune_len (r : Int) : (Lib.encodeRune r).length ≤ 4 := by rw [← Lib.runeCells_length]; exact (Lib.runeCells_le r).2
def Said (P : List UInt8 → Prop) (w : World) (e : Ending) (w' : World) : Prop := (∃ l, e = .returned (.string ⟨(l ++ [34]).toArray⟩) ∧ P l) ∧ Below w.heap.size w w'
theorem hex_bytes (a b c d e : UInt8) : ((⟨#[92, 117]⟩ : ByteArray) ++ (⟨#[a, b, c, d, e]⟩ : ByteArray).extract 1 5) = ⟨#[92, 117, b, c, d, e]⟩  := by
  apply ByteArray.ext
  simp
theorem hex_size (a b c d e : UInt8) : ((⟨#[92, 117]⟩ : ByteArray) ++ (⟨#[a, b, c, d, e]⟩ : ByteArray).extract 1 5).size ≤ 6 := by
  rw [hex_bytes]
  simp [ByteArray.size]
theorem good_hex (a b c d e : UInt8) (hb : 48 ≤ b.toNat ∧ b.toNat ≤ 122) (hc : 48 ≤ c.toNat ∧ c.toNat ≤ 122) (hd : 48 ≤ d.toNat ∧ d.toNat ≤ 122) (he : 48 ≤ e.toNat ∧ e.toNat ≤ 122) : Good ((⟨#[92, 117]⟩ : ByteArray) ++ (⟨#[a, b, c, d, e]⟩ : ByteArray).extract 1 5).data.toList := by
  rw [hex_bytes]
  apply Good.ascii
  intro x hx
  simp only [List.mem_cons, List.not_mem_nil, or_false] at hx
  rcases hx with rfl | rfl | rfl | rfl | rfl | rfl
  · decide
  · decide
  all_goals omega
/-- What one round does. -/
def Step (w : World) (K : Nat) (s : ByteArray) (pos : Nat) (acc : List UInt8) (w' : World) : Prop := ∃ t, St w K s pos (acc ++ t) w' ∧ Good t ∧ t.length ≤ 6
theorem write_step {w : World} {K : Nat} {s : ByteArray} {pos : Nat} {acc : List UInt8} {wr : World} (h : St w K s pos acc wr) (t : ByteArray) (hl : acc.length ≤ 100000) (hg : Good t.data.toList) (ht : t.size ≤ 6) :
    Calls Tryd.prog 31 #[.pointer (some ⟨w.heap.size, 0, none⟩), .string t] wr fun e w' => e = .returned (.tuple #[.int .i64 t.size, .nilIface]) ∧ Step w K s pos acc w' :=
  (write_st h t (by omega)).mono (fun _ _ ⟨he, hs⟩ => ⟨he, _, hs, hg, by show t.data.toList.length ≤ 6; rw [Array.length_toList]; exact ht⟩)
theorem rune_step {w : World} {K : Nat} {s : ByteArray} {pos : Nat} {acc : List UInt8} {wr : World} (h : St w K s pos acc wr) (r : Nat) (h0 : 32 ≤ r) (hs : r < 55296 ∨ (57344 ≤ r ∧ r ≤ 1114111)) (hl : acc.length ≤ 100000) :
    Calls Tryd.prog 33 #[.pointer (some ⟨w.heap.size, 0, none⟩), .int .i32 r] wr fun e w' => e = .returned (.tuple #[.int .i64 (Lib.runeCells r).length, .nilIface]) ∧ Step w K s pos acc w' :=
  (rune_st h r (by omega) (by omega)).mono (fun _ _ ⟨he, h2⟩ => ⟨he, _, h2, good_rune r h0 hs, by have := rune_len (r : Int); omega⟩)
theorem step_end {w : World} {K : Nat} {s : ByteArray} {q pos k : Nat} {acc : List UInt8} {wr W1 : World} (h1 : Step w K s q acc W1) (hC : Clean acc) (hL : acc.length ≤ 6 * k + 1) (hP : k ≤ pos) (hk : k ≤ s.size) (hp : pos < s.size) (hq : pos < q) (HM : Hid (wr.iterPos K = pos)) :
    (∃ (pos k : Nat) (acc : List UInt8), St w K s pos acc W1 ∧ Clean acc ∧ acc.length ≤ 6 * k + 1 ∧ k ≤ pos ∧ k ≤ s.size) ∧ s.size - W1.iterPos K < s.size - wr.iterPos K := by
  obtain ⟨t, hs, hg, ht⟩ := h1
  have hm : W1.iterPos K = q := by simp only [World.iterPos, hs.iter]
  refine ⟨⟨q, k + 1, acc ++ t, hs, hC.app hg, by rw [List.length_append]; omega, by omega, by omega⟩, ?_⟩
  rw [hm, HM.out]
  omega
set_option maxHeartbeats 6400000 in
set_option maxRecDepth 1000000 in
theorem unparse_any (s : ByteArray) (hs : s.size ≤ 1000) (w : World) (hT : w.cell? ⟨7, 15, none⟩ = some (.int .u8 4)) :
    Calls Tryd.prog 23 #[.string s] w (Said (fun l => Clean l ∧ l.length ≤ 6001) w) := by
  have hlt : 7 < w.heap.size := block_lt hT
  go_enter Tryd.func23, Tryd.ntmps23
  go_wp2_with fail
  refine (writeString_any w.heap.size w.heap.size [] ⟨#[34]⟩ _ (Lib.fresh_isBuffer 105 5 w) (by simp) (by simp) (by decide)).mono ?_
  rintro e W0 ⟨rfl, hI0, hB0, hK0⟩
  have hS0 : St w W0.heap.size s 0 [34] (W0.iter s 0) := by
    have hb := ((Below.refl _ w).alloc (Nat.le_refl _) (.cells #[.slice none 0 0, .int .i64 0, .int .i8 0] 105)).trans hB0
    have hz := hB0.size
    refine ⟨hI0.alloc _, ?_, hb.alloc hb.size _, ?_⟩
    · have := World.iter_heap W0 s 0
      simpa using this
    · simp at hz
      omega
  have HS0 := Lib.hid hS0
  clear hI0 hB0 hK0 hS0
  go_wp2_with fail
  go_loopw [5] (fun _ wr => ∃ (pos k : Nat) (acc : List UInt8), St w W0.heap.size s pos acc wr ∧ Clean acc ∧ acc.length ≤ 6 * k + 1 ∧ k ≤ pos ∧ k ≤ s.size) (fun _ wr => s.size - wr.iterPos W0.heap.size)
  case atStart => exact ⟨0, 0, [34], HS0.out, ⟨good34, [], rfl⟩, by simp, by omega, by omega⟩
  case round =>
    obtain ⟨pos, k, acc, hS, hC, hL, hP, hk⟩ := hrel
    clear HS0
    have hit := hS.iter
    by_cases hp : pos < s.size
    · have hnx : ∀ ty, (Instr.next (.pointer (some ⟨W0.heap.size, 0, none⟩)) true ty).run Tryd.prog wr = _ := fun ty => Lib.run_next_any_at wr W0.heap.size s pos ty hit hp
      have hwd := width_pos s pos hp
      have hsc := scalar s pos
      have hS2 := hS.next (pos + (Utf8.decode s pos).2)
      generalize hq : pos + (Utf8.decode s pos).2 = q at hS2 hnx
      have hq1 : pos < q := by omega
      have hm1 : wr.iterPos W0.heap.size = pos := by simp only [World.iterPos, hit]
      have HM := Lib.hid hm1
      have H7 := Lib.hid ((hS2.below.cell (p := ⟨7, 15, none⟩) hlt).trans hT)
      clear hS hit hwd hq hm1
      generalize hr : (Utf8.decode s pos).1 = r at hnx hsc
      clear hr
      go_wp2_with (first
        | (go_at_call 31; refine (write_step hS2 _ (by omega) (Good.ascii (by decide)) (by decide)).mono ?_; rintro e W1 ⟨rfl, h1⟩)
        | (go_at_call 33; refine (rune_step hS2 _ (by omega) hsc (by omega)).mono ?_; rintro e W1 ⟨rfl, h1⟩)
        | (go_at_call 32; refine (format_any _ _ H7.out (by omega) (by omega)).mono ?_; rintro e W1 ⟨⟨t, rfl, a, b, c, d, e, rfl, ha, hb, hc, hd, he⟩, hB⟩))
      all_goals (try (exact step_end h1 hC hL hP hk hp hq1 HM))
      all_goals
        have hg := good_hex a b c d e hb hc hd he
        have hz := hex_size a b c d e
        generalize (⟨#[92, 117]⟩ : ByteArray) ++ (⟨#[a, b, c, d, e]⟩ : ByteArray).extract 1 5 = t at hg hz ⊢
        refine (write_step (hS2.old hB) t (by omega) hg hz).mono ?_
        rintro e W2 ⟨rfl, h1⟩
        have H1 := Lib.hid h1
        clear h1 hB
        go_wp2_with fail
        exact step_end H1.out hC hL hP hk hp hq1 HM
    · have hnx : ∀ ty, (Instr.next (.pointer (some ⟨W0.heap.size, 0, none⟩)) true ty).run Tryd.prog wr = _ := fun ty => Lib.run_next_end_at wr W0.heap.size s pos ty hit hp
      go_wp2_with fail
      refine (write_st hS ⟨#[34]⟩ (by show _ + 1 ≤ _; omega)).mono ?_
      rintro e W1 ⟨rfl, h1⟩
      have H1 := Lib.hid h1
      clear h1
      go_wp2_with fail
      refine (bufString_any w.heap.size w.heap.size (acc ++ [34]) W1 H1.out.buf).mono ?_
      rintro e W2 ⟨rfl, n, rfl⟩
      go_wp2
      go_ret
      exact ⟨⟨acc, rfl, hC, by omega⟩, H1.out.below.trans ⟨rfl, rfl, rfl, Nat.le_refl _, fun _ _ => rfl⟩⟩
end Go.Proofs.YtjnlgefcpmppmaaDoor.clean
