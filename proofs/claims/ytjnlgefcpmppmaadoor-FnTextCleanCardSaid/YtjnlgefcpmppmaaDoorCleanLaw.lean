/- A text that is written rune by rune is UTF-8, of bytes from 32 on: the plain law. -/
import Derived.Lib.ValidLaws
import Derived.Lib.RuneBytes
namespace Go.Proofs.YtjnlgefcpmppmaaDoor.clean
/-- UTF-8 that ends with a character, of bytes from 32 on. -/
structure Good (l : List UInt8) : Prop where
  valid : ∀ x, Lib.validD (l ++ x) = Lib.validD x
  high : ∀ b ∈ l, 32 ≤ b.toNat
theorem Good.nil : Good [] := ⟨fun _ => rfl, fun _ h => by cases h⟩
theorem Good.append {a b : List UInt8} (ha : Good a) (hb : Good b) : Good (a ++ b) :=
  ⟨fun x => by rw [List.append_assoc, ha.valid, hb.valid], fun c hc => by (rcases List.mem_append.1 hc with h | h); (exact ha.high c h); (exact hb.high c h)⟩
theorem Good.ascii {l : List UInt8} (h : ∀ b ∈ l, 32 ≤ b.toNat ∧ b.toNat < 128) : Good l :=
  ⟨fun x => by rw [Lib.validD_ascii l.length (l ++ x) (by simpa using fun b hb => (h b hb).2)]; simp, fun b hb => (h b hb).1⟩
theorem Good.of_valid {l : List UInt8} (h : Good l) : Lib.validD l = true := by have e := h.valid []; rw [List.append_nil] at e; exact e.trans Lib.validD_nil
theorem u8 (z : Int) (n : Nat) (h : z = n) (hn : n < 256) : z.toNat.toUInt8.toNat = n := by
  subst h
  simp
  omega
theorem step (l : List UInt8) (r k : Nat) (x : List UInt8) (hk : l.length = k) (h2 : 2 ≤ k) (hd : Lib.decodeL (l ++ x) = (r, k)) : Lib.validD (l ++ x) = Lib.validD x := by
  have hne : l ++ x ≠ [] := by
    intro h
    have e := congrArg List.length h
    rw [List.length_append, List.length_nil] at e
    omega
  rw [Lib.validD_step _ hne, hd, if_neg (by rintro ⟨_, h⟩; simp at h; omega)]
  show Lib.validD ((l ++ x).drop k) = _
  rw [← hk, List.drop_left]
theorem good_rune (r : Nat) (h0 : 32 ≤ r) (hs : r < 55296 ∨ (57344 ≤ r ∧ r ≤ 1114111)) : Good (Lib.encodeRune (r : Int)) := by
  by_cases h1 : r ≤ 127
  · apply Good.ascii
    intro b hb
    rw [Lib.encodeRune, Lib.encodeRuneZ_one (by omega) (by omega)] at hb
    simp only [List.map_cons, List.map_nil, List.mem_singleton] at hb
    subst hb
    rw [u8 _ r rfl (by omega)]
    omega
  by_cases h2 : r ≤ 2047
  · have e : Lib.encodeRune (r : Int) = [(192 + (r : Int) / 64).toNat.toUInt8, (128 + (r : Int) % 64).toNat.toUInt8] := by
      rw [Lib.encodeRune, Lib.encodeRuneZ_two (by omega) (by omega)]; rfl
    have e0 := u8 (192 + (r : Int) / 64) (192 + r / 64) (by omega) (by omega)
    have e1 := u8 (128 + (r : Int) % 64) (128 + r % 64) (by omega) (by omega)
    rw [e]
    refine ⟨fun x => step _ r 2 x rfl (by omega) ?_, ?_⟩
    · rw [Lib.decodeL_N]
      simp only [List.cons_append, List.nil_append, List.getD_cons_zero, List.getD_cons_succ, e0, e1, List.length_cons]
      unfold Lib.decodeN
      rw [if_neg (by omega), if_pos (by omega), if_pos (by omega)]
      exact Prod.ext (by simp; omega) rfl
    · intro b hb
      simp only [List.mem_cons, List.not_mem_nil, or_false] at hb
      rcases hb with rfl | rfl <;> omega
  by_cases h3 : r ≤ 65535
  · have e : Lib.encodeRune (r : Int) = [(224 + (r : Int) / 4096).toNat.toUInt8, (128 + (r : Int) / 64 % 64).toNat.toUInt8, (128 + (r : Int) % 64).toNat.toUInt8] := by
      rw [Lib.encodeRune, Lib.encodeRuneZ_three (by omega)]; rfl
    have e0 := u8 (224 + (r : Int) / 4096) (224 + r / 4096) (by omega) (by omega)
    have e1 := u8 (128 + (r : Int) / 64 % 64) (128 + r / 64 % 64) (by omega) (by omega)
    have e2 := u8 (128 + (r : Int) % 64) (128 + r % 64) (by omega) (by omega)
    rw [e]
    refine ⟨fun x => step _ r 3 x rfl (by omega) ?_, ?_⟩
    · rw [Lib.decodeL_N]
      simp only [List.cons_append, List.nil_append, List.getD_cons_zero, List.getD_cons_succ, e0, e1, e2, List.length_cons]
      unfold Lib.decodeN
      rw [if_neg (by omega), if_neg (by omega), if_pos (by omega), if_pos (by omega)]
      exact Prod.ext (by simp; omega) rfl
    · intro b hb
      simp only [List.mem_cons, List.not_mem_nil, or_false] at hb
      rcases hb with rfl | rfl | rfl <;> omega
  · have e : Lib.encodeRune (r : Int) = [(240 + (r : Int) / 262144).toNat.toUInt8, (128 + (r : Int) / 4096 % 64).toNat.toUInt8, (128 + (r : Int) / 64 % 64).toNat.toUInt8, (128 + (r : Int) % 64).toNat.toUInt8] := by
      rw [Lib.encodeRune, Lib.encodeRuneZ_four (by omega) (by omega)]; rfl
    have e0 := u8 (240 + (r : Int) / 262144) (240 + r / 262144) (by omega) (by omega)
    have e1 := u8 (128 + (r : Int) / 4096 % 64) (128 + r / 4096 % 64) (by omega) (by omega)
    have e2 := u8 (128 + (r : Int) / 64 % 64) (128 + r / 64 % 64) (by omega) (by omega)
    have e3 := u8 (128 + (r : Int) % 64) (128 + r % 64) (by omega) (by omega)
    rw [e]
    refine ⟨fun x => step _ r 4 x rfl (by omega) ?_, ?_⟩
    · rw [Lib.decodeL_N]
      simp only [List.cons_append, List.nil_append, List.getD_cons_zero, List.getD_cons_succ, e0, e1, e2, e3, List.length_cons]
      unfold Lib.decodeN
      rw [if_neg (by omega), if_neg (by omega), if_neg (by omega), if_pos (by omega), if_pos (by omega)]
      exact Prod.ext (by simp; omega) rfl
    · intro b hb
      simp only [List.mem_cons, List.not_mem_nil, or_false] at hb
      rcases hb with rfl | rfl | rfl | rfl <;> omega
/-- What a range hands over is a scalar value. -/
theorem scalar (s : ByteArray) (i : Nat) : (Utf8.decode s i).1 < 55296 ∨ (57344 ≤ (Utf8.decode s i).1 ∧ (Utf8.decode s i).1 ≤ 1114111) := by
  rw [Lib.decode_at]
  have h0 := (s.get! i).toNat_lt
  unfold Lib.decodeN
  repeat' split
  all_goals (simp; try omega)
end Go.Proofs.YtjnlgefcpmppmaaDoor.clean
