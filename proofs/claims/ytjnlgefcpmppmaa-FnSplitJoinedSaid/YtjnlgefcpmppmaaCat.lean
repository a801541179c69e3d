/- Strings of the evaluator put together, told, flattened. -/
import Derived.Test.YtjnlgefcpmppmaaStr
import Derived.Lib.Hide
import Derived.OwnWalk
namespace Go.Proofs.Ytjnlgefcpmppmaa.joined
open Go.RowKit Go.Proofs.Ytjnlgefcpmppmaa.utf
/-- A row of the call's own, as a place with its runes. -/
def Form (w : World) (n : Nat) (us : List Value) (v : Value) : Prop := ∃ o k c, v = .slice o k c ∧ k = n ∧ ∃ a, o = some a ∧ ∀ j u, us[j]? = some u → w.cell? (a.add j) = some u
theorem row_form {w : World} {B n : Nat} {v : Value} {us : List Value} (h : w.ownsRow B 21 1 v n us) (h0 : n ≠ 0) : Form w n us v := by
  rcases h.2 with ⟨_, h1⟩ | ⟨g, cap, cur, rfl, _, hg, _, _, _, ht⟩
  · exact absurd h1 h0
  · refine ⟨_, _, _, rfl, rfl, ⟨g, 0, none⟩, rfl, fun j u hu => ?_⟩
    rw [Addr.add_lit, Nat.zero_add, cell_of_row w g j _ _ _ hg]
    rw [← ht] at hu
    have hj := (List.getElem?_eq_some_iff.1 hu).1
    rw [List.length_take] at hj
    rw [List.getElem?_take_of_lt (by omega)] at hu
    simpa using hu
set_option maxRecDepth 100000 in
theorem concat_short (B : Nat) (a b : Value) (us vs : List Nat) (w : World) (ha : Str B w a us) (hb : Str B w b vs) (h0 : us ≠ []) (h1 : vs ≠ []) (h30 : us.length + vs.length < 30) : Calls Try.prog 30 #[a, b] w (Makes B w (us ++ vs)) := by
  obtain ⟨i0, hi, hi0, hi1, hi2⟩ := info_parts Try.info21
  obtain ⟨b1, o1, c1, rfl, e1, r1⟩ := ha.short (by omega)
  obtain ⟨b2, o2, c2, rfl, e2, r2⟩ := hb.short (by omega)
  have g0 : us.length ≠ 0 := by simpa using h0
  have g1 : vs.length ≠ 0 := by simpa using h1
  obtain ⟨a1, rfl, s1⟩ := r1.resolve_left h0
  obtain ⟨a2, rfl, s2⟩ := r2.resolve_left h1
  have HW := Lib.hid ha.le
  have hm1 := meth_flat
  have hm2 := meth_runes
  have C1 : w.cell? ⟨b1, 0, none⟩ = some (.slice (some a1) us.length c1) := by rw [cell_of_row w b1 0 _ _ _ e1]; rfl
  have C2 : w.cell? ⟨b2, 0, none⟩ = some (.slice (some a2) vs.length c2) := by rw [cell_of_row w b2 0 _ _ _ e2]; rfl
  have L1 : (us.map rv).length = us.length * 1 := by simp
  have L2 : (vs.map rv).length = vs.length * 1 := by simp
  have O1 : ∀ u ∈ us.map rv, u.oneCell' = true := by intro u hu; obtain ⟨x, _, rfl⟩ := List.mem_map.1 hu; rfl
  have O2 : ∀ u ∈ vs.map rv, u.oneCell' = true := by intro u hu; obtain ⟨x, _, rfl⟩ := List.mem_map.1 hu; rfl
  have HN := Lib.hid (show (us ++ vs).map rv = us.map rv ++ vs.map rv by simp)
  have HL := Lib.hid (show (us ++ vs).length = us.length + vs.length by simp)
  generalize us.length = n at *
  generalize vs.length = m at *
  have hz : ((m : Int) == 0) = false := by simp; omega
  have hz1 : ((n : Int) == 0) = false := by simp; omega
  have hz2 : decide ((n : Int) + m < 30) = true := by simp; omega
  have HS1 := Lib.hid s1
  have HS2 := Lib.hid s2
  have HO1 := Lib.hid O1
  have HO2 := Lib.hid O2
  have HL1 := Lib.hid L1
  have HL2 := Lib.hid L2
  clear ha hb h0 h1 s1 s2 O1 O2 L1 L2 r1 r2
  go_enter Try.func30, Try.ntmps30
  go_wp2_with (first | (go_at_call 74; refine (len_flat _ _ _ _ _ (by assumption)).mono ?_; rintro e w' ⟨rfl, rfl⟩) | (go_at_call 71; refine (runes_flat _ _ _ _ _ (by assumption)).mono ?_; rintro e w' ⟨rfl, rfl⟩) | (at_make; refine wpList_make_own _ rfl _ _ 85 rfl w.heap.size 21 i0 (.int .i32 0) 1 Try.underlying85 hi hi0 hi1 .i64 .i64 _ (n + m) rfl rfl ?q1 ?q2 ?q3 ?q4 ?_))
  case q1 => omega
  case q2 => rw [hi2]; omega
  case q3 => simp only [maxLen]; omega
  case q4 => exact Nat.le_refl _
  intro w1 hown1 hgr1
  have HB1 := Lib.hid ((Below.refl w.heap.size w).grown hgr1 (Nat.le_refl _) (by intro k h; cases h))
  clear hgr1
  go_wp2_with (first | (at_builtin; refine wpList_append_own _ rfl _ _ 85 rfl w.heap.size 21 i0 (.int .i32 0) 1 4 Try.underlying85 hi hi0 hi1 hi2 rfl (by decide) _ _ _ rfl hown1 a1 n c1 (us.map rv) rfl HL1.out (fun j u h => keep HB1.out (HS1.out j u h)) HO1.out ?q1 ?q2 ?q3 ?_))
  case q1 => simp only [maxLen]; omega
  case q2 => omega
  case q3 => exact HB1.out.size
  intro v2 w2 hown2 hgr2 _
  try simp only [Nat.zero_add, List.nil_append] at hown2
  have HB2 := Lib.hid (HB1.out.grown hgr2 HB1.out.size (fun k h => (hown1.lt k h).1))
  clear hgr2 hown1 HB1
  go_wp2_with (first | (at_builtin; refine wpList_append_own _ rfl _ _ 85 rfl w.heap.size 21 i0 (.int .i32 0) 1 4 Try.underlying85 hi hi0 hi1 hi2 rfl (by decide) _ _ _ rfl hown2 a2 m c2 (vs.map rv) rfl HL2.out (fun j u h => keep HB2.out (HS2.out j u h)) HO2.out ?q1 ?q2 ?q3 ?_))
  case q1 => simp only [maxLen]; omega
  case q2 => omega
  case q3 => exact HB2.out.size
  intro v3 w3 hown3 hgr3 hv3
  have HB3 := Lib.hid (HB2.out.grown hgr3 HB2.out.size (fun k h => (hown2.lt k h).1))
  have hf := row_form hown3 (by omega)
  rw [← HN.out] at hf
  have HF := Lib.hid hf
  clear hgr3 hown2 HB2 hv3 hown3 hf
  obtain ⟨o3, n3, k3, rfl, hn3, hr3⟩ := HF.out
  go_wp2_with (first | (go_at_call 40; refine (of_runes _ _ _ _).mono ?_; rintro e w' ⟨rfl, rfl⟩))
  go_ret
  exact ⟨⟨_, rfl, flat_new B _ (Nat.le_trans HW.out HB3.out.size) _ _ _ _ HL.out.symm (.inr hr3)⟩, HB3.out.alloc HB3.out.size _⟩
/-- concatStrings. -/
theorem concat_any (B : Nat) (a b : Value) (us vs : List Nat) (w : World) (ha : Str B w a us) (hb : Str B w b vs) (hmax : us.length + vs.length ≤ 1000000) : Calls Try.prog 30 #[a, b] w (Makes B w (us ++ vs)) := by
  by_cases h0 : us = []
  · subst h0
    exact concat_left B a b vs w ha hb
  by_cases h1 : vs = []
  · subst h1
    rw [List.append_nil]
    exact concat_right B a b us w ha hb h0
  by_cases h30 : us.length + vs.length < 30
  · exact concat_short B a b us vs w ha hb h0 h1 h30
  · exact concat_long B a b us vs w ha hb h0 h1 (by omega) hmax
end Go.Proofs.Ytjnlgefcpmppmaa.joined
