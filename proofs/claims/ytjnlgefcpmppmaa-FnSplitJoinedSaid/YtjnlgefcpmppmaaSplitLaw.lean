/- UTF-8 in parts: what stands before, behind a text of whole code points in one of whole code points has whole code points. The plain law; no program is named but in the word for a chain of code points. -/
import Derived.Test.YtjnlgefcpmppmaaUtf
namespace Go.Proofs.Ytjnlgefcpmppmaa.utf
/-- Whole code points. -/
def Uni (l : List UInt8) : Prop := ∃ rs : List Nat, (∀ r ∈ rs, Scalar r) ∧ l = rs.flatMap encL
theorem uni_nil : Uni [] := ⟨[], by simp, rfl⟩
theorem uni_cons {r : Nat} {l : List UInt8} (hr : Scalar r) (h : Uni l) : Uni (encL r ++ l) := by
  obtain ⟨rs, hs, rfl⟩ := h
  exact ⟨r :: rs, by intro x hx; rcases List.mem_cons.1 hx with rfl | hx; · exact hr
                     · exact hs x hx, by simp⟩
def cont (b : UInt8) : Prop := 128 ≤ b.toNat ∧ b.toNat < 192
theorem ofNat_toNat (n : Nat) (h : n < 256) : (UInt8.ofNat n).toNat = n := by rw [UInt8.toNat_ofNat']; omega
theorem enc_form (r : Nat) (h : Scalar r) : ∃ b t, encL r = b :: t ∧ ¬ cont b ∧ ∀ x ∈ t, cont x := by
  unfold Scalar at h
  unfold encL cont
  by_cases h1 : r < 128
  · rw [if_pos h1]
    refine ⟨_, _, rfl, ?_, by simp⟩
    rw [ofNat_toNat _ (by omega)]; omega
  rw [if_neg h1]
  by_cases h2 : r < 2048
  · rw [if_pos h2]
    refine ⟨_, _, rfl, ?_, ?_⟩
    · rw [ofNat_toNat _ (by omega)]; omega
    · intro x hx
      simp only [List.mem_cons, List.not_mem_nil, or_false] at hx
      subst hx
      rw [ofNat_toNat _ (by omega)]; omega
  rw [if_neg h2]
  by_cases h3 : r < 65536
  · rw [if_pos h3]
    refine ⟨_, _, rfl, ?_, ?_⟩
    · rw [ofNat_toNat _ (by omega)]; omega
    · intro x hx
      simp only [List.mem_cons, List.not_mem_nil, or_false] at hx
      rcases hx with rfl | rfl
      · rw [ofNat_toNat _ (by omega)]; omega
      · rw [ofNat_toNat _ (by omega)]; omega
  rw [if_neg h3]
  refine ⟨_, _, rfl, ?_, ?_⟩
  · rw [ofNat_toNat _ (by omega)]; omega
  · intro x hx
    simp only [List.mem_cons, List.not_mem_nil, or_false] at hx
    rcases hx with rfl | rfl | rfl
    · rw [ofNat_toNat _ (by omega)]; omega
    · rw [ofNat_toNat _ (by omega)]; omega
    · rw [ofNat_toNat _ (by omega)]; omega
/-- A cut ahead of a byte that begins a code point is one between code points. -/
theorem uni_cut : ∀ (rs : List Nat) (a d : List UInt8), (∀ r ∈ rs, Scalar r) → rs.flatMap encL = a ++ d → (d = [] ∨ ∃ b t, d = b :: t ∧ ¬ cont b) → Uni a ∧ Uni d
  | [], a, d, _, h, _ => by
    obtain ⟨rfl, rfl⟩ := List.append_eq_nil_iff.1 h.symm
    exact ⟨uni_nil, uni_nil⟩
  | r :: rs, a, d, hs, h, hd => by
    have hr := hs r (by simp)
    have hrs : ∀ x ∈ rs, Scalar x := fun x hx => hs x (by simp [hx])
    by_cases ha : a = []
    · subst ha
      exact ⟨uni_nil, ⟨r :: rs, hs, h.symm⟩⟩
    rw [List.flatMap_cons] at h
    rcases List.append_eq_append_iff.1 h with ⟨a', e1, e2⟩ | ⟨c', e1, e2⟩
    · obtain ⟨h1, h2⟩ := uni_cut rs a' d hrs e2 hd
      exact ⟨e1 ▸ uni_cons hr h1, h2⟩
    · by_cases hc : c' = []
      · subst hc
        rw [List.append_nil] at e1
        rw [List.nil_append] at e2
        refine ⟨?_, ⟨rs, hrs, e2⟩⟩
        have := uni_cons hr uni_nil
        rw [List.append_nil, e1] at this
        exact this
      · exfalso
        obtain ⟨b, t, eb, _, ht⟩ := enc_form r hr
        obtain ⟨x, c2, rfl⟩ := List.exists_cons_of_ne_nil hc
        obtain ⟨y, a2, rfl⟩ := List.exists_cons_of_ne_nil ha
        have hx : cont x := by
          rw [eb, List.cons_append] at e1
          obtain ⟨_, e3⟩ := List.cons.inj e1
          exact ht x (by rw [e3]; simp)
        rcases hd with rfl | ⟨b', t', rfl, hb'⟩
        · simp at e2
        · obtain ⟨rfl, _⟩ := List.cons.inj e2
          exact hb' hx
/-- What a code point's bytes are read as. -/
def dec (l : List UInt8) : Nat :=
  let b := fun i => (l.getD i 0).toNat
  if b 0 < 128 then b 0 else if b 0 < 224 then (b 0 - 192) * 64 + (b 1 - 128) else if b 0 < 240 then (b 0 - 224) * 4096 + (b 1 - 128) * 64 + (b 2 - 128)
  else (b 0 - 240) * 262144 + (b 1 - 128) * 4096 + (b 2 - 128) * 64 + (b 3 - 128)
theorem dec_enc (r : Nat) (h : Scalar r) (x : List UInt8) : dec (encL r ++ x) = r := by
  unfold Scalar at h
  unfold encL dec
  by_cases h1 : r < 128
  · rw [if_pos h1]
    simp only [List.cons_append, List.nil_append, List.getD_cons_zero, ofNat_toNat r (by omega)]
    rw [if_pos h1]
  rw [if_neg h1]
  by_cases h2 : r < 2048
  · rw [if_pos h2]
    simp only [List.cons_append, List.nil_append, List.getD_cons_zero, List.getD_cons_succ, ofNat_toNat (192 + r / 64) (by omega), ofNat_toNat (128 + r % 64) (by omega)]
    rw [if_neg (by omega), if_pos (by omega)]
    omega
  rw [if_neg h2]
  by_cases h3 : r < 65536
  · rw [if_pos h3]
    simp only [List.cons_append, List.nil_append, List.getD_cons_zero, List.getD_cons_succ, ofNat_toNat (224 + r / 4096) (by omega), ofNat_toNat (128 + r / 64 % 64) (by omega), ofNat_toNat (128 + r % 64) (by omega)]
    rw [if_neg (by omega), if_neg (by omega), if_pos (by omega)]
    omega
  rw [if_neg h3]
  simp only [List.cons_append, List.nil_append, List.getD_cons_zero, List.getD_cons_succ, ofNat_toNat (240 + r / 262144) (by omega), ofNat_toNat (128 + r / 4096 % 64) (by omega), ofNat_toNat (128 + r / 64 % 64) (by omega), ofNat_toNat (128 + r % 64) (by omega)]
  rw [if_neg (by omega), if_neg (by omega), if_neg (by omega)]
  omega
theorem enc_ne (r : Nat) (h : Scalar r) : encL r ≠ [] := by
  obtain ⟨b, t, e, _⟩ := enc_form r h
  rw [e]
  simp
/-- What stands behind whole code points in whole code points has whole code points. -/
theorem uni_after : ∀ (cs rs : List Nat) (b : List UInt8), (∀ r ∈ cs, Scalar r) → (∀ r ∈ rs, Scalar r) → rs.flatMap encL = cs.flatMap encL ++ b → Uni b
  | [], rs, b, _, hr, h => ⟨rs, hr, h.symm⟩
  | c :: cs, [], b, hc, _, h => by
    have := enc_ne c (hc c (by simp))
    simp at h
    exact absurd h.1 this
  | c :: cs, r :: rs, b, hc, hr, h => by
    rw [List.flatMap_cons, List.flatMap_cons, List.append_assoc] at h
    have e : r = c := by rw [← dec_enc r (hr r (by simp)) (rs.flatMap encL), h, dec_enc c (hc c (by simp))]
    subst e
    exact uni_after cs rs b (fun x hx => hc x (by simp [hx])) (fun x hx => hr x (by simp [hx])) (List.append_cancel_left h)
theorem uni_split {a c b : List UInt8} (h : Uni (a ++ c ++ b)) (hc : Uni c) (h0 : c ≠ []) : Uni a ∧ Uni b := by
  obtain ⟨rs, hs, e⟩ := h
  obtain ⟨cs, hcs, rfl⟩ := hc
  have hd : ∃ x t, cs.flatMap encL ++ b = x :: t ∧ ¬ cont x := by
    cases cs with
    | nil => simp at h0
    | cons c cs =>
      obtain ⟨x, t, e2, hx, _⟩ := enc_form c (hcs c (by simp))
      exact ⟨x, t ++ cs.flatMap encL ++ b, by rw [List.flatMap_cons, e2]; simp, hx⟩
  obtain ⟨h1, rs2, h2, e2⟩ := uni_cut rs a (cs.flatMap encL ++ b) hs (by rw [← List.append_assoc]; exact e.symm) (.inr hd)
  exact ⟨h1, uni_after cs rs2 b hcs h2 e2.symm⟩
theorem peel (s : ByteArray) (i b : Nat) (t : List UInt8) (h : s.data.toList.drop i = UInt8.ofNat b :: t) (hb : b < 256) : i < s.size ∧ byteAt s i = b ∧ s.data.toList.drop (i + 1) = t := by
  have hi : i < s.size := by
    by_cases hi : i < s.size
    · exact hi
    · rw [List.drop_of_length_le (by simpa using (show s.data.size ≤ i from Nat.le_of_not_lt hi))] at h
      cases h
  rw [drop_byte s i hi] at h
  obtain ⟨e1, e2⟩ := List.cons.inj h
  refine ⟨hi, ?_, e2⟩
  have := congrArg UInt8.toNat e1
  rwa [ofNat_toNat _ (byteAt_lt s i), ofNat_toNat _ hb] at this
theorem chain_of (s : ByteArray) : ∀ (rs : List Nat) (i : Nat), (∀ r ∈ rs, Scalar r) → s.data.toList.drop i = rs.flatMap encL → i ≤ s.size → Chain s i rs
  | [], i, _, h, hi => by
    have : s.data.toList.length ≤ i := by simpa using h
    have hz : s.data.toList.length = s.size := by rw [Array.length_toList]; rfl
    obtain rfl : i = s.size := by omega
    exact .done
  | r :: rs, i, hs, h, hi => by
    have hr := hs r (by simp)
    have hrs : ∀ x ∈ rs, Scalar x := fun x hx => hs x (by simp [hx])
    rw [List.flatMap_cons] at h
    unfold Scalar at hr
    unfold encL at h
    by_cases h1 : r < 128
    · rw [if_pos h1] at h
      obtain ⟨l0, e0, d0⟩ := peel s i r _ h (by omega)
      refine .step l0 (m := 1) ?_ (by omega) (chain_of s rs (i + 1) hrs d0 (by omega))
      unfold ptAt ptN
      rw [e0, if_pos h1]
    rw [if_neg h1] at h
    by_cases h2 : r < 2048
    · rw [if_pos h2] at h
      obtain ⟨l0, e0, d0⟩ := peel s i _ _ h (by omega)
      obtain ⟨l1, e1, d1⟩ := peel s (i + 1) _ _ d0 (by omega)
      refine .step l0 (m := 2) ?_ (by omega) (chain_of s rs (i + 2) hrs d1 (by omega))
      unfold ptAt ptN
      rw [e0, e1, if_neg (by omega), if_pos (by omega)]
      exact Prod.ext (by simp; omega) rfl
    rw [if_neg h2] at h
    by_cases h3 : r < 65536
    · rw [if_pos h3] at h
      obtain ⟨l0, e0, d0⟩ := peel s i _ _ h (by omega)
      obtain ⟨l1, e1, d1⟩ := peel s (i + 1) _ _ d0 (by omega)
      obtain ⟨l2, e2, d2⟩ := peel s (i + 1 + 1) _ _ d1 (by omega)
      refine .step l0 (m := 3) ?_ (by omega) (chain_of s rs (i + 3) hrs d2 (by omega))
      unfold ptAt ptN
      rw [e0, e1, e2, if_neg (by omega), if_neg (by omega), if_pos (by omega)]
      exact Prod.ext (by simp; omega) rfl
    rw [if_neg h3] at h
    obtain ⟨l0, e0, d0⟩ := peel s i _ _ h (by omega)
    obtain ⟨l1, e1, d1⟩ := peel s (i + 1) _ _ d0 (by omega)
    obtain ⟨l2, e2, d2⟩ := peel s (i + 1 + 1) _ _ d1 (by omega)
    obtain ⟨l3, e3, d3⟩ := peel s (i + 1 + 1 + 1) _ _ d2 (by omega)
    refine .step l0 (m := 4) ?_ (by omega) (chain_of s rs (i + 4) hrs d3 (by omega))
    unfold ptAt ptN
    rw [e0, e1, e2, e3, if_neg (by omega), if_neg (by omega), if_neg (by omega), if_pos (by omega)]
    exact Prod.ext (by simp; omega) rfl
end Go.Proofs.Ytjnlgefcpmppmaa.utf
