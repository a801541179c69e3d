/- zzSplitN by contract. -/
import Derived.Test.YtjnlgefcpmppmaaLast
import Derived.Lib.Hide
namespace Go.Proofs.Ytjnlgefcpmppmaa.split
open Go.RowKit Go.Proofs.Ytjnlgefcpmppmaa.utf
theorem Try.info9 : (Try.prog.info? 9).map (fun i => (i.zero, i.size, i.bytes)) = some (some (.string ⟨#[]⟩), 1, 16) := by kernel_rfl
/-- A row of strings of the call's own. -/
def Row (B : Nat) (v : Value) (ps : List ByteArray) (w : World) : Prop := w.ownsRow B 9 1 v ps.length (ps.map Value.string)
theorem Row.slice {B : Nat} {v : Value} {ps : List ByteArray} {w : World} (h : Row B v ps w) : ∃ o c, v = .slice o ps.length c := by
  rcases h.2 with ⟨h1, h2⟩ | ⟨g, cap, cur, rfl, _⟩
  · rw [h2]; exact ⟨none, 0, h1⟩
  · exact ⟨_, _, rfl⟩
def Made (c s : ByteArray) (n : Nat) (w : World) (e : Ending) (w' : World) : Prop := (∃ v ps, e = .returned v ∧ Row w.heap.size v ps w' ∧ Parts c s ps ∧ 1 ≤ ps.length ∧ ps.length ≤ n) ∧ Below w.heap.size w w'
def SInv (c s : ByteArray) (w : World) (m : Nat) (v : Value) (x : ByteArray) (wr : World) : Prop := ∃ ps, m = ps.length ∧ SoFar c s ps x ∧ Row w.heap.size v ps wr ∧ Below w.heap.size w wr
theorem sinv_done {c s x : ByteArray} {w wr w' : World} {v v' : Value} {o : Obj} {ps : List ByteArray} {n : Nat} (hs : SoFar c s ps x) (hr : Row w.heap.size v ps wr) (hb : Below w.heap.size w wr) (hn : ps.length + 1 ≤ n)
    (hown : w'.ownsRow w.heap.size 9 1 v' (ps.length + 1) (ps.map Value.string ++ [.string x])) (hg : (wr.alloc o).grownBy w' v.ownBlock) : Made c s n w (.returned v') w' := by
  refine ⟨⟨v', ps ++ [x], rfl, ?_, hs.done, by simp, by rw [List.length_append]; exact hn⟩, (hb.alloc hb.size o).grown hg (by have := hb.size; simp; omega) (fun j hj => (hr.lt j hj).1)⟩
  unfold Row
  rw [List.length_append, List.map_append]
  exact hown
theorem sinv_step {c s x : ByteArray} {w wr w' : World} {v v' : Value} {o : Obj} {ps : List ByteArray} {i : Nat} (hs : SoFar c s ps x) (hr : Row w.heap.size v ps wr) (hb : Below w.heap.size w wr) (hc : Uni (L c)) (h0 : L c ≠ []) (hh : Hit x c i)
    (hown : w'.ownsRow w.heap.size 9 1 v' (ps.length + 1) (ps.map Value.string ++ [.string (x.extract 0 i)])) (hg : (wr.alloc o).grownBy w' v.ownBlock) : SInv c s w (ps.length + 1) v' (x.extract (i + c.size) x.size) w' := by
  refine ⟨ps ++ [x.extract 0 i], by simp, hs.step hc h0 hh, ?_, (hb.alloc hb.size o).grown hg (by have := hb.size; simp; omega) (fun j hj => (hr.lt j hj).1)⟩
  unfold Row
  rw [List.length_append, List.map_append]
  exact hown
def slen : Value → Nat
  | .slice _ n _ => n
  | _ => 0
theorem sinv_len {c s x : ByteArray} {w wr : World} {m : Nat} {v : Value} (h : SInv c s w m v x wr) : slen v = m := by
  obtain ⟨ps, rfl, _, hr, _⟩ := h
  obtain ⟨o, cc, rfl⟩ := hr.slice
  rfl
set_option maxRecDepth 100000 in
theorem split_any (s c : ByteArray) (n : Nat) (w : World) (hs : s.size ≤ 2000) (hcz : c.size ≤ 2000) (h0 : 0 < c.size) (hu : Uni (L s)) (hc : Uni (L c)) (hn1 : 1 ≤ n) (hn2 : n ≤ 256) :
    Calls Try.prog 34 #[.string s, .string c, .int .i64 n] w (Made c s n w) := by
  obtain ⟨i0, hi, hi0, hi1, hi2⟩ := info_parts Try.info9
  have HC := Lib.hid hc
  have hc0 : L c ≠ [] := by intro h; have := congrArg List.length h; rw [L_length, List.length_nil] at this; omega
  have H0 := Lib.hid hc0
  have HU := Lib.hid hu
  have hd0 : decide ((n : Int) < 0) = false := decide_eq_false (by omega)
  clear hu hc hc0
  go_enter Try.func34, Try.ntmps34
  go_wp2_with fail
  go_loopw [0, 7] (fun sv v wr => ∃ (x : ByteArray) (m : Nat), sv = .string x ∧ x.size ≤ s.size ∧ m + 1 ≤ n ∧ SInv c s w m v x wr) (fun _ v _ => n - slen v)
  case atStart => exact ⟨s, 0, rfl, Nat.le_refl _, by omega, [], rfl, ⟨by simp, by simp, HU.out, by simp, Nat.le_refl _⟩, World.ownsRow_nil _ _ _ _, Below.refl _ _⟩
  case round =>
    obtain ⟨x, m, rfl, hx, hm, hI⟩ := hrel
    obtain ⟨ps, rfl, hso, hrow, hb⟩ := hI
    obtain ⟨o, cc, hv⟩ := hrow.slice
    subst hv
    have hown : wr.ownsRow w.heap.size 9 1 (.slice o ps.length cc) ps.length (ps.map Value.string) := hrow
    have hsz := hb.size
    have HX := Lib.hid (fun w' v' o2 (h1 : World.ownsRow w' w.heap.size 9 1 v' (ps.length + 1) (ps.map Value.string ++ [.string x])) h2 => sinv_done (o := o2) hso hrow hb hm h1 h2)
    have HY := Lib.hid (fun w' v' o2 i hh (h1 : World.ownsRow w' w.heap.size 9 1 v' (ps.length + 1) (ps.map Value.string ++ [.string (x.extract 0 i)])) h2 => sinv_step (o := o2) hso hrow hb HC.out H0.out hh h1 h2)
    generalize ps.map Value.string = xs at *
    generalize ps.length = m at *
    clear hso hrow hb
    by_cases hlt : m + 1 < n
    · have hd : decide ((m : Int) < (n : Int) - 1) = true := decide_eq_true (by omega)
      have HF := Lib.hid (index_any x c wr (by omega) (by omega))
      go_wp2_with fail
      refine HF.out.mono ?_
      rintro e w1 ⟨rfl, rfl | ⟨i, rfl, hh⟩⟩
      · go_wp2_with (at_builtin; refine wpList_append_own _ rfl _ _ 22 rfl w.heap.size 9 i0 (.string ⟨#[]⟩) 1 16 Try.underlying22 hi hi0 hi1 hi2 rfl (by decide) _ m xs rfl (hown.alloc _) ⟨wr.heap.size, 0, none⟩ 1 1 [.string x] rfl rfl ?q0 ?q1 ?q2 ?q3 ?q4 ?_)
        case q0 => intro j u hj; rcases j with _ | j <;> simp at hj; subst hj; simp [Addr.add, go_sem]
        case q1 => intro u hu; simp at hu; subst hu; rfl
        case q2 => simp only [maxLen]; omega
        case q3 => omega
        case q4 => simp; omega
        intro v' w2 h1 h2 _
        have HM := Lib.hid (HX.out w2 v' _ h1 h2)
        clear h1 h2 HX HY
        go_wp2_with fail
        go_ret
        exact HM.out
      · have hh1 := hh.1
        have hi1' : i ≤ x.size := by omega
        go_wp2_with (at_builtin; refine wpList_append_own _ rfl _ _ 22 rfl w.heap.size 9 i0 (.string ⟨#[]⟩) 1 16 Try.underlying22 hi hi0 hi1 hi2 rfl (by decide) _ m xs rfl (hown.alloc _) ⟨wr.heap.size, 0, none⟩ 1 1 [.string (x.extract 0 i)] rfl rfl ?q0 ?q1 ?q2 ?q3 ?q4 ?_)
        case q0 => intro j u hj; rcases j with _ | j <;> simp at hj; subst hj; simp [Addr.add, go_sem]
        case q1 => intro u hu; simp at hu; subst hu; rfl
        case q2 => simp only [maxLen]; omega
        case q3 => omega
        case q4 => simp; omega
        intro v' w2 h1 h2 _
        have HM := Lib.hid (HY.out w2 v' _ i hh h1 h2)
        clear h1 h2 HX HY hh
        have hle : (x.extract (i + c.size) x.size).size ≤ s.size := by rw [← L_length, L_drop, List.length_drop, L_length]; omega
        have HZ := Lib.hid (show slen v' = m + 1 from sinv_len HM.out)
        have HE := Lib.hid hle
        clear hle
        go_wp2_with fail
        refine ⟨⟨_, m + 1, rfl, HE.out, by omega, HM.out⟩, ?_⟩
        rw [HZ.out]
        show n - (m + 1) < n - m
        omega
    · have hd : decide ((m : Int) < (n : Int) - 1) = false := decide_eq_false (by omega)
      go_wp2_with (at_builtin; refine wpList_append_own _ rfl _ _ 22 rfl w.heap.size 9 i0 (.string ⟨#[]⟩) 1 16 Try.underlying22 hi hi0 hi1 hi2 rfl (by decide) _ m xs rfl (hown.alloc _) ⟨wr.heap.size, 0, none⟩ 1 1 [.string x] rfl rfl ?q0 ?q1 ?q2 ?q3 ?q4 ?_)
      case q0 => intro j u hj; rcases j with _ | j <;> simp at hj; subst hj; simp [Addr.add, go_sem]
      case q1 => intro u hu; simp at hu; subst hu; rfl
      case q2 => simp only [maxLen]; omega
      case q3 => omega
      case q4 => simp; omega
      intro v' w2 h1 h2 _
      have HM := Lib.hid (HX.out w2 v' _ h1 h2)
      clear h1 h2 HX HY
      go_wp2_with fail
      go_ret
      exact HM.out
end Go.Proofs.Ytjnlgefcpmppmaa.split
