/- UTF-8, plainly: what spec.point tells of bytes, and what the model's own decoding and encoding make of them. No program is named. -/
import Derived.Lib.DecodeN
import Derived.Laws.Cover4
import Derived.Laws.IdiomStrings
import Derived.Laws.Runes
namespace Go.Proofs.Ytjnlgefcpmppmaa.utf
set_option linter.unusedVariables false

def byteAt (s : ByteArray) (j : Nat) : Nat := (s.get! j).toNat
theorem byteAt_lt (s : ByteArray) (j : Nat) : byteAt s j < 256 := (s.get! j).toNat_lt

/-- The code point that begins with these bytes, n bytes being left; and how many bytes it has: (0, 0) if it is none. -/
def ptN (n b0 b1 b2 b3 : Nat) : Nat × Nat :=
  if b0 < 128 then (b0, 1)
  else if 192 ≤ b0 ∧ b0 < 224 ∧ 2 ≤ n ∧ (128 ≤ b1 ∧ b1 < 192) ∧ 128 ≤ (b0 - 192) * 64 + b1 - 128 then ((b0 - 192) * 64 + b1 - 128, 2)
  else if 224 ≤ b0 ∧ b0 < 240 ∧ 3 ≤ n ∧ (128 ≤ b1 ∧ b1 < 192) ∧ (128 ≤ b2 ∧ b2 < 192) ∧ 2048 ≤ ((b0 - 224) * 64 + b1 - 128) * 64 + b2 - 128 ∧ ¬ (55296 ≤ ((b0 - 224) * 64 + b1 - 128) * 64 + b2 - 128 ∧ ((b0 - 224) * 64 + b1 - 128) * 64 + b2 - 128 < 57344) then (((b0 - 224) * 64 + b1 - 128) * 64 + b2 - 128, 3)
  else if 240 ≤ b0 ∧ b0 < 248 ∧ 4 ≤ n ∧ (128 ≤ b1 ∧ b1 < 192) ∧ (128 ≤ b2 ∧ b2 < 192) ∧ (128 ≤ b3 ∧ b3 < 192) ∧ 65536 ≤ (((b0 - 240) * 64 + b1 - 128) * 64 + b2 - 128) * 64 + b3 - 128 ∧ (((b0 - 240) * 64 + b1 - 128) * 64 + b2 - 128) * 64 + b3 - 128 ≤ 1114111 then ((((b0 - 240) * 64 + b1 - 128) * 64 + b2 - 128) * 64 + b3 - 128, 4)
  else (0, 0)

/-- Ways of ptN that tell a code point. -/
theorem ptN_cases {n b0 b1 b2 b3 r m : Nat} (h : ptN n b0 b1 b2 b3 = (r, m)) (hm : 0 < m) :
    (b0 < 128 ∧ r = b0 ∧ m = 1) ∨
    (192 ≤ b0 ∧ b0 < 224 ∧ 2 ≤ n ∧ 128 ≤ b1 ∧ b1 < 192 ∧ 128 ≤ r ∧ r = (b0 - 192) * 64 + (b1 - 128) ∧ m = 2) ∨
    (224 ≤ b0 ∧ b0 < 240 ∧ 3 ≤ n ∧ 128 ≤ b1 ∧ b1 < 192 ∧ 128 ≤ b2 ∧ b2 < 192 ∧ 2048 ≤ r ∧ (r < 55296 ∨ 57344 ≤ r) ∧ r = (b0 - 224) * 4096 + (b1 - 128) * 64 + (b2 - 128) ∧ m = 3) ∨
    (240 ≤ b0 ∧ b0 < 248 ∧ 4 ≤ n ∧ 128 ≤ b1 ∧ b1 < 192 ∧ 128 ≤ b2 ∧ b2 < 192 ∧ 128 ≤ b3 ∧ b3 < 192 ∧ 65536 ≤ r ∧ r ≤ 1114111 ∧ r = (b0 - 240) * 262144 + (b1 - 128) * 4096 + (b2 - 128) * 64 + (b3 - 128) ∧ m = 4) := by
  unfold ptN at h
  split at h
  · rename_i c
    obtain ⟨rfl, rfl⟩ := Prod.mk.inj h
    exact .inl ⟨c, rfl, rfl⟩
  · split at h
    · rename_i _ c
      obtain ⟨e, rfl⟩ := Prod.mk.inj h
      obtain ⟨c1, c2, c3, ⟨c4, c5⟩, c6⟩ := c
      refine .inr (.inl ⟨c1, c2, c3, c4, c5, by omega, by omega, rfl⟩)
    · split at h
      · rename_i _ _ c
        obtain ⟨e, rfl⟩ := Prod.mk.inj h
        obtain ⟨c1, c2, c3, ⟨c4, c5⟩, ⟨c6, c7⟩, c8, c9⟩ := c
        rw [e] at c8 c9
        refine .inr (.inr (.inl ⟨c1, c2, c3, c4, c5, c6, c7, c8, by omega, by omega, rfl⟩))
      · split at h
        · rename_i _ _ _ c
          obtain ⟨e, rfl⟩ := Prod.mk.inj h
          obtain ⟨c1, c2, c3, ⟨c4, c5⟩, ⟨c6, c7⟩, ⟨c8, c9⟩, c10, c11⟩ := c
          rw [e] at c10 c11
          refine .inr (.inr (.inr ⟨c1, c2, c3, c4, c5, c6, c7, c8, c9, c10, c11, by omega, rfl⟩))
        · obtain ⟨_, rfl⟩ := Prod.mk.inj h
          exact (Nat.lt_irrefl _ hm).elim

theorem ptN_le {n b0 b1 b2 b3 r m : Nat} (h : ptN n b0 b1 b2 b3 = (r, m)) (hn : 0 < n) : m ≤ n := by
  rcases Nat.eq_zero_or_pos m with rfl | hm
  · omega
  · rcases ptN_cases h hm with h | h | h | h <;> omega

/-- Where point tells a code point, the model's decoding does, too: the same. -/
theorem ptN_decode {n b0 b1 b2 b3 r m : Nat} (h : ptN n b0 b1 b2 b3 = (r, m)) (hm : 0 < m) (l0 : b0 < 256) : Lib.decodeN n b0 b1 b2 b3 = (r, m) := by
  unfold Lib.decodeN
  rcases ptN_cases h hm with h | h | h | h
  · rw [if_pos h.1, h.2.1, h.2.2]
  · have e : b0 % 32 * 64 + b1 % 64 = r := by omega
    rw [if_neg (by omega), if_pos (by omega), e, if_pos (by omega), h.2.2.2.2.2.2.2]
  · have e : b0 % 16 * 4096 + b1 % 64 * 64 + b2 % 64 = r := by omega
    rw [if_neg (by omega), if_neg (by omega), if_pos (by omega), e, if_pos (by omega), h.2.2.2.2.2.2.2.2.2.2]
  · have e : b0 % 8 * 262144 + b1 % 64 * 4096 + b2 % 64 * 64 + b3 % 64 = r := by omega
    rw [if_neg (by omega), if_neg (by omega), if_neg (by omega), if_pos (by omega), e, if_pos (by omega), h.2.2.2.2.2.2.2.2.2.2.2.2]

/-- Where point tells none, the model's decoding tells U+FFFD, one byte long. -/
theorem ptN_none {n b0 b1 b2 b3 r : Nat} (h : ptN n b0 b1 b2 b3 = (r, 0)) (l0 : b0 < 256) (l1 : b1 < 256) (l2 : b2 < 256) (l3 : b3 < 256) : Lib.decodeN n b0 b1 b2 b3 = (65533, 1) := by
  unfold ptN at h
  split at h
  · simp only [Prod.mk.injEq] at h; omega
  · split at h
    · simp only [Prod.mk.injEq] at h; omega
    · split at h
      · simp only [Prod.mk.injEq] at h; omega
      · split at h
        · simp only [Prod.mk.injEq] at h; omega
        · rename_i c0 c1 c2 c3
          clear h
          unfold Lib.decodeN
          rw [if_neg c0]
          by_cases d1 : b0 / 32 = 6 ∧ (1 < n ∧ b1 / 64 = 2)
          · rw [if_pos d1, if_neg (by omega)]
          · rw [if_neg d1]
            by_cases d2 : b0 / 16 = 14 ∧ (1 < n ∧ b1 / 64 = 2) ∧ (2 < n ∧ b2 / 64 = 2)
            · rw [if_pos d2, if_neg (by omega)]
            · rw [if_neg d2]
              by_cases d3 : b0 / 8 = 30 ∧ (1 < n ∧ b1 / 64 = 2) ∧ (2 < n ∧ b2 / 64 = 2) ∧ (3 < n ∧ b3 / 64 = 2)
              · rw [if_pos d3, if_neg (by omega)]
              · rw [if_neg d3]

/-- The code points that can be written. -/
def Scalar (r : Nat) : Prop := r < 55296 ∨ (57344 ≤ r ∧ r ≤ 1114111)
theorem ptN_scalar {n b0 b1 b2 b3 r m : Nat} (h : ptN n b0 b1 b2 b3 = (r, m)) (hm : 0 < m) : Scalar r := by
  unfold Scalar
  rcases ptN_cases h hm with h | h | h | h <;> omega
theorem valid_scalar {c : Nat} (h : Scalar c) : Utf8.valid (c : Int) = true := by
  unfold Scalar at h
  rw [validRune_eq]; simp only [validRune, decide_eq_true_eq]; omega

theorem encode_nat (c : Nat) (h : Scalar c) : (Utf8.encode (c : Int)).data.toList =
    if c < 128 then [UInt8.ofNat c] else if c < 2048 then [UInt8.ofNat (192 + c / 64), UInt8.ofNat (128 + c % 64)]
    else if c < 65536 then [UInt8.ofNat (224 + c / 4096), UInt8.ofNat (128 + c / 64 % 64), UInt8.ofNat (128 + c % 64)]
    else [UInt8.ofNat (240 + c / 262144), UInt8.ofNat (128 + c / 4096 % 64), UInt8.ofNat (128 + c / 64 % 64), UInt8.ofNat (128 + c % 64)] := by
  have hv := valid_scalar h
  unfold Utf8.encode
  simp only [hv, if_true, Int.toNat_natCast]
  split
  · rfl
  · split
    · rfl
    · split <;> rfl

/-- A code point's bytes. -/
def encL (c : Nat) : List UInt8 :=
    if c < 128 then [UInt8.ofNat c] else if c < 2048 then [UInt8.ofNat (192 + c / 64), UInt8.ofNat (128 + c % 64)]
    else if c < 65536 then [UInt8.ofNat (224 + c / 4096), UInt8.ofNat (128 + c / 64 % 64), UInt8.ofNat (128 + c % 64)]
    else [UInt8.ofNat (240 + c / 262144), UInt8.ofNat (128 + c / 4096 % 64), UInt8.ofNat (128 + c / 64 % 64), UInt8.ofNat (128 + c % 64)]
theorem encode_encL (c : Nat) (h : Scalar c) : (Utf8.encode (c : Int)).data.toList = encL c := by
  rw [encode_nat c h, encL]

/-- Encoding gives the bytes back. -/
theorem ptN_encode {n b0 b1 b2 b3 r m : Nat} (h : ptN n b0 b1 b2 b3 = (r, m)) (hm : 0 < m) :
    encL r = ([b0, b1, b2, b3].take m).map UInt8.ofNat := by
  unfold encL
  rcases ptN_cases h hm with h | h | h | h
  · obtain ⟨h1, rfl, rfl⟩ := h
    rw [if_pos (by omega)]
    rfl
  · obtain ⟨h1, h2, h3, h4, h5, h6, h7, rfl⟩ := h
    rw [if_neg (by omega), if_pos (by omega), show 192 + r / 64 = b0 by omega, show 128 + r % 64 = b1 by omega]
    rfl
  · obtain ⟨h1, h2, h3, h4, h5, h6, h6', h7, h8, h9, rfl⟩ := h
    rw [if_neg (by omega), if_neg (by omega), if_pos (by omega), show 224 + r / 4096 = b0 by omega, show 128 + r / 64 % 64 = b1 by omega, show 128 + r % 64 = b2 by omega]
    rfl
  · obtain ⟨h1, h2, h3, h4, h5, h6, h6', h7, h8, h9, h10, h11, rfl⟩ := h
    rw [if_neg (by omega), if_neg (by omega), if_neg (by omega), show 240 + r / 262144 = b0 by omega, show 128 + r / 4096 % 64 = b1 by omega, show 128 + r / 64 % 64 = b2 by omega, show 128 + r % 64 = b3 by omega]
    rfl

/-- What point tells at a place of a string. -/
def ptAt (s : ByteArray) (i : Nat) : Nat × Nat := ptN (s.size - i) (byteAt s i) (byteAt s (i + 1)) (byteAt s (i + 2)) (byteAt s (i + 3))

theorem decode_at (s : ByteArray) (i : Nat) : Utf8.decode s i = Lib.decodeN (s.size - i) (byteAt s i) (byteAt s (i + 1)) (byteAt s (i + 2)) (byteAt s (i + 3)) := Lib.decode_at s i

/-- The code points of a string from a place on: each is one, to the end. -/
inductive Chain (s : ByteArray) : Nat → List Nat → Prop
  | done : Chain s s.size []
  | step {i r m : Nat} {rs : List Nat} (hi : i < s.size) (hp : ptAt s i = (r, m)) (hm : 0 < m) (hc : Chain s (i + m) rs) : Chain s i (r :: rs)

theorem Chain.le {s : ByteArray} {i : Nat} {rs : List Nat} (h : Chain s i rs) : i ≤ s.size := by
  cases h with
  | done => exact Nat.le_refl _
  | step hi _ _ _ => omega

theorem Chain.length {s : ByteArray} {i : Nat} {rs : List Nat} (h : Chain s i rs) : rs.length ≤ s.size - i := by
  induction h with
  | done => simp
  | step hi hp hm hc ih => have := hc.le; simp only [List.length_cons]; omega

/-- The model's runes of such a string. -/
theorem Chain.runesFrom {s : ByteArray} {i : Nat} {rs : List Nat} (h : Chain s i rs) : ∀ (bound : Nat) (acc : Array Value), rs.length ≤ bound →
    Conv.runesFrom s bound i acc = acc ++ (rs.map fun r : Nat => Value.int .i32 (r : Int)).toArray := by
  induction h with
  | done =>
    intro bound acc _
    cases bound with
    | zero => simp [Conv.runesFrom]
    | succ b => unfold Conv.runesFrom; rw [if_neg (by omega)]; simp
  | @step i r m rs hi hp hm hc ih =>
    intro bound acc hb
    cases bound with
    | zero => simp at hb
    | succ b =>
      have hd : Utf8.decode s i = (r, m) := by rw [decode_at]; exact ptN_decode hp hm (byteAt_lt _ _)
      unfold Conv.runesFrom
      rw [if_pos hi, hd]
      simp only
      rw [ih b _ (by simpa using hb)]
      simp

theorem drop_byte (s : ByteArray) (i : Nat) (h : i < s.size) : s.data.toList.drop i = UInt8.ofNat (byteAt s i) :: s.data.toList.drop (i + 1) := by
  have hl : i < s.data.toList.length := by simpa using h
  rw [List.drop_eq_getElem_cons hl]
  congr 1
  have hd : i < s.data.size := h
  have e : s.get! i = s.data[i] := by
    show s.data[i]! = s.data[i]
    rw [getElem!_pos s.data i hd]
  unfold byteAt
  rw [e]
  simp

theorem drop_bytes (s : ByteArray) (i m : Nat) (h : i + m ≤ s.size) (hm : m ≤ 4) :
    s.data.toList.drop i = (([byteAt s i, byteAt s (i + 1), byteAt s (i + 2), byteAt s (i + 3)].take m).map UInt8.ofNat) ++ s.data.toList.drop (i + m) := by
  match m, hm with
  | 0, _ => simp
  | 1, _ => rw [drop_byte s i (by omega)]; rfl
  | 2, _ => rw [drop_byte s i (by omega), drop_byte s (i + 1) (by omega)]; rfl
  | 3, _ => rw [drop_byte s i (by omega), drop_byte s (i + 1) (by omega), drop_byte s (i + 1 + 1) (by omega)]; rfl
  | 4, _ => rw [drop_byte s i (by omega), drop_byte s (i + 1) (by omega), drop_byte s (i + 1 + 1) (by omega), drop_byte s (i + 1 + 1 + 1) (by omega)]; rfl

/-- The bytes of such a string are the code points' own. -/
theorem Chain.bytes {s : ByteArray} {i : Nat} {rs : List Nat} (h : Chain s i rs) : s.data.toList.drop i = rs.flatMap encL := by
  induction h with
  | done => simp
  | @step i r m rs hi hp hm hc ih =>
    have hmn : m ≤ s.size - i := ptN_le hp (by omega)
    have hm4 : m ≤ 4 := by rcases ptN_cases hp hm with h | h | h | h <;> omega
    rw [drop_bytes s i m (by omega) hm4, ih, ← ptN_encode hp hm]
    rfl

theorem Chain.scalar {s : ByteArray} {i : Nat} {rs : List Nat} (h : Chain s i rs) : ∀ r ∈ rs, Scalar r := by
  induction h with
  | done => simp
  | step hi hp hm hc ih =>
    intro r hr
    rcases List.mem_cons.1 hr with rfl | hr
    · exact ptN_scalar hp hm
    · exact ih r hr

/-- A code point's bytes: itself, or bytes from 128 on. -/
theorem encL_ascii {r : Nat} (h : r < 128) : encL r = [UInt8.ofNat r] := by
  rw [encL, if_pos h]
theorem encL_high {r : Nat} (h : 128 ≤ r) (hr : Scalar r) : encL r ≠ [] ∧ ∀ b ∈ encL r, 128 ≤ b.toNat := by
  have e : ∀ n : Nat, n < 256 → (UInt8.ofNat n).toNat = n := fun n hn => by simp; omega
  have hle : r ≤ 1114111 := by unfold Scalar at hr; omega
  rw [encL, if_neg (by omega)]
  clear hr
  split
  · refine ⟨by simp, ?_⟩
    simp only [List.mem_cons, List.not_mem_nil, or_false, forall_eq_or_imp, forall_eq]
    rw [e _ (by omega), e _ (by omega)]
    omega
  · split
    · refine ⟨by simp, ?_⟩
      simp only [List.mem_cons, List.not_mem_nil, or_false, forall_eq_or_imp, forall_eq]
      rw [e _ (by omega), e _ (by omega), e _ (by omega)]
      omega
    · refine ⟨by simp, ?_⟩
      simp only [List.mem_cons, List.not_mem_nil, or_false, forall_eq_or_imp, forall_eq]
      rw [e _ (by omega), e _ (by omega), e _ (by omega), e _ (by omega)]
      omega
end Go.Proofs.Ytjnlgefcpmppmaa.utf
