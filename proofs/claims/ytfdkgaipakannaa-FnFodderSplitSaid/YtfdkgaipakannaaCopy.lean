/- A comment is copied by an append onto an empty list. -/
import Derived.Test.YtfdkgaipakannaaOwn
import Derived.Deep.RegionHeld3
namespace Go.Proofs.Ytfdkgaipakannaa.split
open Go.RowKit
theorem Try.info9 : (Try.prog.info? 9).map (fun i => (i.zero, i.size, i.bytes)) = some (some (.string .empty), 1, 16) := by kernel_rfl
theorem Try.info55 : (Try.prog.info? 55).map (fun i => (i.zero, i.size, i.bytes)) = some (some (.agg #[.slice none 0 0, .int .i64 0, .int .i64 0, .int .i64 0]), 4, 48) := by kernel_rfl
theorem Try.info34 : (Try.prog.info? 34).map (fun i => (i.zero, i.size, i.bytes)) = some (some (.agg #[.int .i64 0, .int .i64 0, .int .i64 0, .slice none 0 0]), 4, 48) := by kernel_rfl
/-- append([]string{}, c...): a comment of its own. -/
theorem run_copy (B h : Nat) (ty : TypeId) (w : World) (v : Value) (ss : List ByteArray) (hs : Strs w v ss) (hl : ss.length ≤ 1000) (hh : w.heap[h]? = some (.cells #[] 9 (0, 0))) :
    ∃ v' w', (Builtin.append_ #[32, 32] ty #[.slice (some ⟨h, 0, none⟩) 0 0, v]).run Try.prog w = .ok v' w' ∧ Cmt B w' v' ss ∧ w.grownBy w' (some h) := by
  obtain ⟨i0, hi, hz0, hz1, hz2⟩ := info_parts Try.info9
  have hlt := (Array.getElem?_eq_some_iff.1 hh).1
  have hown : w.ownsRow 0 9 1 (.slice (some ⟨h, 0, none⟩) 0 0) 0 [] := ⟨rfl, .inr ⟨h, 0, #[], rfl, Nat.zero_le _, hh, Nat.le_refl _, Nat.zero_le _, rfl, rfl⟩⟩
  obtain ⟨A, cap, rfl, _, hc⟩ := hs
  have hcmt : ∀ v' w', w'.ownsRow 0 9 1 v' (0 + ss.length) ([] ++ ss.map Value.string) → w.grownBy w' (some h) → (v' = .slice none 0 0 → False) → Cmt B w' v' ss := fun v' w' ho hg hne => by
    rw [Nat.zero_add, List.nil_append] at ho
    rcases ho.2 with ⟨rfl, _⟩ | ⟨g, cp, cur, rfl, _, hg2, _⟩
    · exact (hne rfl).elim
    · refine ⟨⟨_, cp, rfl, by omega, fun j s hj => ⟨(hc j s hj).1, g, 0, rfl, ?_⟩⟩, fun q o n c e _ => .inr ?_⟩
      · have hjl := (List.getElem?_eq_some_iff.1 hj).1
        rw [Nat.zero_add, ho.cellAt j (by omega), List.getElem?_map, hj]; rfl
      · cases e; exact ⟨cur, _, hg2⟩
  have big : maxLen = 9223372036854775807 := maxLen_eq
  rcases A with _ | ad
  · have h0 : ss = [] := by
      cases ss with
      | nil => rfl
      | cons s r => obtain ⟨_, q, o, h, _⟩ := hc 0 s rfl; cases h
    subst h0
    have hrun : (Builtin.append_ #[32, 32] ty #[.slice (some ⟨h, 0, none⟩) 0 0, .slice none 0 cap]).run Try.prog w = .ok (.slice (some ⟨h, 0, none⟩) 0 0) w := by
      simp [Builtin.append_, run_underlying Try.underlying32, sizeOf, typeInfo, hi, Builtin.lenOf, Builtin.firstCells, storeCells]
    exact ⟨_, w, hrun, hcmt _ _ (by simpa using hown) (World.grownBy.refl _ _) (by simp), World.grownBy.refl _ _⟩
  · obtain ⟨v', w', hrun, h2, h3, h4, _⟩ := run_append_own_at (P := Try.prog) w 0 32 ty 9 i0 (.string .empty) 1 16 Try.underlying32 hi hz0 hz1 hz2 rfl (by decide) _ 0 [] hown ad ss.length cap (ss.map Value.string) (by simp)
      (fun j u hu => by
        rw [List.getElem?_map] at hu
        obtain ⟨s, hs, rfl⟩ := Option.map_eq_some_iff.1 hu
        obtain ⟨_, q, o, ha, hcell⟩ := hc j s hs
        cases ha
        have e : (⟨q, o, none⟩ : Addr).add j = ⟨q, o + j, none⟩ := by unfold Addr.add; split <;> simp_all
        rw [e]; exact hcell) (fun u hu => by obtain ⟨s, _, rfl⟩ := List.mem_map.1 hu; rfl) (by omega) (by omega) (Nat.zero_le _)
    exact ⟨v', w', hrun, hcmt v' w' h2 h3 (fun e => by have := (h4.1 e).1; cases this), h3⟩
/-- The same at a step of a region that draws its order. -/
theorem step_copy {ops : Array Oper} {o : Oper} {a : Act} {w : World} {K : Act → World → Prop} {Q : Exit → Act → World → Prop} {E : Prop} (B : Nat) (hgd : o.guard = none) (s x : Operand)
    (ho : o.op = .call { callee := .builtin .append, args := #[s, x], argTypes := #[32, 32] }) (h : Nat) (ss : List ByteArray) (v : Value) (hsv : a.eval s = .slice (some ⟨h, 0, none⟩) 0 0) (hxv : a.eval x = v)
    (hs : Strs w v ss) (hl : ss.length ≤ 1000) (hh : w.heap[h]? = some (.cells #[] 9 (0, 0)))
    (hK : ∀ A cap w', Cmt B w' (.slice A ss.length cap) ss → w.grownBy w' (some h) → K (a.put o.dst (.slice A ss.length cap)) w') :
    if Region.wanted o (yielded ops a.tmps) = true then Oper.wp Try.prog o a w K Q else E := by
  have hw : Region.wanted o (yielded ops a.tmps) = true := by simp [Region.wanted, hgd]
  rw [if_pos hw]
  obtain ⟨v', w', hr, h2, h3⟩ := run_copy B h o.type w v ss hs hl hh
  obtain ⟨A, cap, rfl⟩ := h2.1.form
  unfold Oper.wp execOp
  simp only [ho, resolve, invoke, builtin, Sem.run_bind, Sem.run_pure, Result.andThen_ok, List.map_toArray, List.map_cons, List.map_nil, hsv, hxv, hr]
  exact hK A cap w' h2 h3
end Go.Proofs.Ytfdkgaipakannaa.split
