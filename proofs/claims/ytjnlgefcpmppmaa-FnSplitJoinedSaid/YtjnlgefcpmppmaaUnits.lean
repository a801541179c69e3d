/- spec.Units by contract: the code points of a string, or that it is not UTF-8. -/
import Derived.Test.YtjnlgefcpmppmaaRows
import Derived.Test.YtjnlgefcpmppmaaPoint
import Derived.WalkKit
import Derived.WalkLawsBesides
import Derived.WalkSpells
import Derived.Lib.Hide
import Derived.Below
namespace Go.Proofs.Ytjnlgefcpmppmaa.utf
open Go.RowKit

theorem Try.info3 : (Try.prog.info? 3).map (fun i => (i.zero, i.size, i.bytes)) = some (some (.int .i64 0), 1, 8) := by kernel_rfl
def uv (r : Nat) : Value := .int .i64 (r : Int)
/-- Either it is not UTF-8, or here are its code points. -/
def UPost (s : ByteArray) (w : World) (e : Ending) (w' : World) : Prop :=
  Below w.heap.size w w' ∧ (e = .returned (.tuple #[.slice none 0 0, .bool false]) ∨ ∃ v rs, e = .returned (.tuple #[v, .bool true]) ∧ Chain s 0 rs ∧ w'.ownsRow w.heap.size 3 1 v rs.length (rs.map uv))
/-- What is so far. -/
def USofar (s : ByteArray) (w : World) (k : Nat) (rs : List Nat) (v : Value) (wr : World) : Prop :=
  (∀ tl, Chain s k tl → Chain s 0 (rs ++ tl)) ∧ rs.length ≤ k ∧ wr.ownsRow w.heap.size 3 1 v rs.length (rs.map uv) ∧ Below w.heap.size w wr
theorem sofar_step {s : ByteArray} {w : World} {k r m : Nat} {rs : List Nat} {v v' : Value} {wr w' : World} {o : Obj} (h : USofar s w k rs v wr) (hk : k < s.size) (hp : ptAt s k = (r, m)) (hm : 0 < m)
    (hown : w'.ownsRow w.heap.size 3 1 v' (rs.length + 1) (rs.map uv ++ [uv r])) (hg : (wr.alloc o).grownBy w' v.ownBlock) : USofar s w (k + m) (rs ++ [r]) v' w' := by
  obtain ⟨h1, h2, h3, h4⟩ := h
  refine ⟨fun tl ht => ?_, ?_, ?_, ?_⟩
  · rw [List.append_assoc]
    exact h1 _ (.step hk hp hm ht)
  · simp; omega
  · simpa using hown
  · exact (h4.alloc h4.size o).grown hg (by have := h4.size; simp; omega) (fun j hj => (h3.lt j hj).1)

set_option maxRecDepth 100000 in
theorem units_any (s : ByteArray) (w : World) (hs : s.size ≤ 1000000) :
    Calls Try.prog 16 #[.string s] w (UPost s w) := by
  obtain ⟨i0, hi, hz0, hz1, hz2⟩ := info_parts Try.info3
  go_enter Try.func16, Try.ntmps16
  go_wp2
  go_loopw [4, 5] (fun v i wr => ∃ (k : Nat) (rs : List Nat), i = .int .i64 k ∧ k ≤ s.size ∧ USofar s w k rs v wr) (fun _ i _ => s.size - (intOf i).toNat)
  case atStart => exact ⟨0, [], rfl, by omega, fun tl ht => by simpa using ht, by simp, World.ownsRow_made w #[] 0 (Nat.le_refl _) (by decide) rfl, (Below.refl _ _).alloc (Nat.le_refl _) _⟩
  case round =>
    obtain ⟨k, rs, rfl, hk, hU⟩ := hrel
    have HU := Lib.hid hU
    have hlen := hU.2.1
    by_cases hlt : k < s.size
    · have hp := point_any s k (s.size - k) wr (by omega) (by omega) (by omega)
      obtain ⟨⟨r, m⟩, hpt⟩ : ∃ p, ptAt s k = p := ⟨_, rfl⟩
      have hp' : Calls Try.prog 23 #[.string s, .int .i64 k] wr fun e w' => e = .returned (.tuple #[.int .i64 r, .int .i64 m]) ∧ wr = w' := by
        refine hp.mono fun e w' h => ?_
        have h1 : ptN (s.size - k) (byteAt s k) (byteAt s (k + 1)) (byteAt s (k + 2)) (byteAt s (k + 3)) = (r, m) := hpt
        unfold PtPost at h
        rw [h1] at h
        exact h
      have hm : m ≤ s.size - k := ptN_le hpt (by omega)
      have HP := Lib.hid hp'
      have HPT := Lib.hid hpt
      have hown := hU.2.2.1
      have hsz := hU.2.2.2.size
      clear hp hp' hpt hU
      by_cases h0 : m = 0
      · subst h0
        go_wp2_with (go_at_call 23; refine (HP.out).mono ?_; rintro e w' ⟨rfl, rfl⟩)
        go_ret2
        exact ⟨HU.out.2.2.2, .inl rfl⟩
      · have hm0 : ((m : Int) == 0) = false := by simp; omega
        have hw : wrap64 ((k : Int) + m) = ((k + m : Nat) : Int) := by unfold wrap64; omega
        go_wp2_with (first | (go_at_call 23; refine (HP.out).mono ?_; rintro e w' ⟨rfl, rfl⟩) | (at_builtin; refine wpList_append_own _ rfl _ _ 24 rfl w.heap.size 3 i0 (.int .i64 0) 1 8 Try.underlying24 hi hz0 hz1 hz2 rfl (by decide) _ _ _ rfl (hown.alloc _) ⟨wr.heap.size, 0, none⟩ 1 1 [.int .i64 (r : Int)] rfl rfl ?c1 ?c2 ?c3 ?c4 ?c5 ?_))
        case c1 => intro j u hj; rcases j with _ | j <;> simp at hj; subst hj; simp [Addr.add, go_sem]
        case c2 => intro u hu; simp at hu; subst hu; rfl
        case c3 => simp only [maxLen]; omega
        case c4 => omega
        case c5 => simp; omega
        intro v' w' hown' hgrow _
        have hnext := sofar_step HU.out hlt HPT.out (by omega) hown' hgrow
        clear HU HP HPT hown hown' hgrow
        have HN := Lib.hid hnext
        clear hnext
        go_wp2
        go_roundw
        case rel => exact ⟨k + m, rs ++ [r], rfl, by omega, HN.out⟩
        case measure => simp [intOf]; omega
    · have hend : k = s.size := by omega
      have hc : Chain s 0 rs := by
        have := hU.1 [] (by rw [hend]; exact .done)
        simpa using this
      have HC := Lib.hid hc
      clear hU hc
      go_wp2
      go_ret2
      exact ⟨HU.out.2.2.2, .inr ⟨_, rs, rfl, HC.out, HU.out.2.2.1⟩⟩
end Go.Proofs.Ytjnlgefcpmppmaa.utf
