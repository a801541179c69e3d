/- The parts that std.splitLimit and std.splitLimitR tell, by contract. -/
import Derived.Test.YtjnlgefcpmppmaaBuiltR
namespace Go.Proofs.Ytjnlgefcpmppmaa.split
open Go.RowKit Go.Proofs.Ytjnlgefcpmppmaa.utf Go.Proofs.Ytjnlgefcpmppmaa.joined
theorem Filled.keep {G n k : Nat} {ps : List ByteArray} {w w' : World} (h : Filled G n k ps w) (hb : Below w.heap.size w w') : Filled G n k ps w' := by
  obtain ⟨cur, h0, hz, ht⟩ := h
  exact ⟨cur, hkeep hb h0, hz, fun j x hj hx => (ht j x hj hx).keep (fun i _ hi => hb.block i hi)⟩
/-- A row of strings, the parts. -/
def Told (c s : ByteArray) (m : Nat) (w : World) (e : Ending) (w' : World) : Prop := (∃ v ps, e = .returned (.tuple #[v, .nilIface]) ∧ Row w.heap.size v ps w' ∧ Parts c s ps ∧ 1 ≤ ps.length ∧ ps.length ≤ m + 1) ∧ Below w.heap.size w w'
def TInv (w : World) (ps : List ByteArray) (k : Nat) (v : Value) (wr : World) : Prop := Row w.heap.size v (ps.take k) wr ∧ Below w.heap.size w wr
theorem take_parts (ps : List ByteArray) (k : Nat) (h : k < ps.length) : ps.take (k + 1) = ps.take k ++ [ps.getD k ByteArray.empty] := by
  rw [List.take_succ_eq_append_getElem h, show ps.getD k ByteArray.empty = ps[k] by simp [List.getD, List.getElem?_eq_getElem h]]
theorem tinv_step {w wr w' : World} {ps : List ByteArray} {k : Nat} {v v' : Value} {o : Obj} (h : TInv w ps k v wr) (hk : k < ps.length)
    (hown : w'.ownsRow w.heap.size 9 1 v' (k + 1) ((ps.take k).map Value.string ++ [.string (ps.getD k ByteArray.empty)])) (hg : (wr.alloc o).grownBy w' v.ownBlock) : TInv w ps (k + 1) v' w' := by
  refine ⟨?_, (h.2.alloc h.2.size o).grown hg (by have := h.2.size; simp; omega) (fun j hj => (h.1.lt j hj).1)⟩
  unfold Row
  rw [take_parts ps k hk, List.length_append, List.map_append, List.length_take, Nat.min_eq_left (Nat.le_of_lt hk)]
  exact hown
set_option maxRecDepth 100000 in
set_option maxHeartbeats 1000000 in
theorem strs_any (c s : ByteArray) (m : Nat) (v : Value) (w : World) (hA : Arr c s m w v) (hm : m < 256) : Calls Try.prog 24 #[v, .nilIface] w (Told c s m w) := by
  obtain ⟨i9, j0, j1, j2, j3⟩ := info_parts Try.info9
  obtain ⟨q, G, ps, rfl, hq, hF, hP, h1, h2⟩ := hA
  have HF := Lib.hid hF
  have HP := Lib.hid hP
  have ha := as_arr1
  have hs1 := as_str1
  have hg := meth_go
  clear hF hP
  generalize hn : ps.length = n at *
  have HN := Lib.hid hn
  clear hn
  go_enter Try.func24, Try.ntmps24
  go_wp2_with fail
  go_loopw [6, 18] (fun v iv wr => ∃ k : Nat, iv = .int .i64 k ∧ k ≤ n ∧ TInv w ps k v wr) (fun _ iv _ => n - (intOf iv).toNat)
  case atStart => exact ⟨0, rfl, Nat.zero_le _, World.ownsRow_nil _ _ _ _, Below.refl _ _⟩
  case round =>
    obtain ⟨k, rfl, hk, hI⟩ := hrel
    have HI := Lib.hid hI
    by_cases hlt : k < n
    · obtain ⟨cur, h0, hz, ht⟩ := HF.out.keep hI.2
      have hcu : cur[k]? = some (cur[k]'(by omega)) := Array.getElem?_eq_getElem (by omega)
      obtain ⟨p, tv, rs, e, hp, hb, hf, hch⟩ := ht k _ hlt hcu
      rw [e] at hcu
      have hcell : wr.cell? ⟨G, k, none⟩ = some (.pointer (some ⟨p, 0, none⟩)) := by rw [cell_of_row wr G k _ _ _ h0]; exact hcu
      have hcp : wr.cell? ⟨p, 2, none⟩ = some tv := by rw [cell_of_row wr p 2 _ _ _ hb]; rfl
      obtain ⟨vb, vo, vc, rfl, hvv⟩ := hf
      have HGO := Lib.hid (goes (p := .pointer (some ⟨vb, 0, none⟩)) ⟨vb, vo, vc, rfl, hvv⟩ hch)
      obtain ⟨o, cc, hsl⟩ := hI.1.slice
      have hlen : (ps.take k).length = k := by rw [List.length_take, HN.out]; omega
      rw [hlen] at hsl
      subst hsl
      have hown : wr.ownsRow w.heap.size 9 1 (.slice o k cc) k ((ps.take k).map Value.string) := by
        have := hI.1
        unfold Row at this
        rwa [hlen] at this
      have hsz := hI.2.size
      have HX := Lib.hid (fun w' v' o2 h1 h2 => tinv_step (o := o2) (w' := w') (v' := v') HI.out (by rw [HN.out]; exact hlt) h1 h2)
      generalize ps.getD k ByteArray.empty = x at hch HGO HX
      generalize (ps.take k).map Value.string = xs at hown HX
      clear h0 hz ht hcu e hb hvv hch hlen hI HI
      go_wp2_with (first
        | (go_at_call 70; refine HGO.out.mono ?_; rintro e w' ⟨rfl, rfl⟩)
        | (at_builtin; refine wpList_append_own _ rfl _ _ 22 rfl w.heap.size 9 i9 (.string ⟨#[]⟩) 1 16 Try.underlying22 j0 j1 j2 j3 rfl (by decide) _ k xs rfl (hown.alloc _) ⟨wr.heap.size, 0, none⟩ 1 1 [.string x] rfl rfl ?q0 ?q1 ?q2 ?q3 ?q4 ?_))
      case q0 => intro j u hj; rcases j with _ | j <;> simp at hj; subst hj; simp [Addr.add, go_sem]
      case q1 => intro u hu; simp at hu; subst hu; rfl
      case q2 => simp only [maxLen]; omega
      case q3 => omega
      case q4 => simp; omega
      intro v' w2 h1 h2 _
      have HM := Lib.hid (HX.out w2 v' _ h1 h2)
      clear h1 h2 HX hown
      go_wp2_with fail
      go_roundw
      case rel => exact ⟨k + 1, by go_num, by omega, HM.out⟩
      case measure => simp [intOf]; omega
    · have hk2 : k = n := by omega
      have HE := Lib.hid (show Row w.heap.size u6 ps wr by
        have := hI.1
        rwa [List.take_of_length_le (by rw [HN.out]; omega)] at this)
      have HB := Lib.hid hI.2
      clear hI HI
      go_wp2_with fail
      go_ret2
      exact ⟨⟨_, ps, rfl, HE.out, HP.out, by rw [HN.out]; exact h1, by rw [HN.out]; exact h2⟩, HB.out⟩
end Go.Proofs.Ytjnlgefcpmppmaa.split
