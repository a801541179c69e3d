/- FnStack: the frames of the specification, and what is asked of them, by contract. -/
import Derived.Test.YtincgkolpicipaaStk2
namespace Go.Proofs.Ytincgkolpicipaa.stack
open Go.RowKit
def topTo (l : List Fr) : Nat → Int
  | 0 => -1
  | n + 1 => match l[n]? with
    | some f => if f.call then (n : Int) else topTo l n
    | none => -1
def lookTo (l : List Fr) (s : ByteArray) : Nat → Int
  | 0 => -1
  | n + 1 => match l[n]? with
    | some f => if placeTo f.names s then f.step else if f.call then -1 else lookTo l s n
    | none => -1
def callsTo (l : List Fr) : Nat → Int
  | 0 => 0
  | n + 1 => match l[n]? with
    | some f => if f.call then callsTo l n + 1 else callsTo l n
    | none => callsTo l n
theorem topTo_lt (l : List Fr) : ∀ n, -1 ≤ topTo l n ∧ topTo l n < n
  | 0 => ⟨by simp [topTo], by simp [topTo]⟩
  | n + 1 => by
    have ih := topTo_lt l n
    unfold topTo
    split
    · split
      · omega
      · omega
    · omega
theorem callsTo_le (l : List Fr) : ∀ n, 0 ≤ callsTo l n ∧ callsTo l n ≤ n
  | 0 => ⟨by simp [callsTo], by simp [callsTo]⟩
  | n + 1 => by
    have ih := callsTo_le l n
    unfold callsTo
    split
    · split <;> omega
    · omega
/-- Frames, to be read: step, names, call, trimmable. -/
def Frs (W : World) (v : Value) (l : List Fr) : Prop :=
  ∃ (A : Option Addr) (cap : Nat), v = .slice A l.length cap ∧ l.length ≤ 1000000 ∧ ∀ i f, l[i]? = some f → ∃ q o nv, A = some ⟨q, o, none⟩ ∧
    W.cell? ⟨q, o + i * 4, none⟩ = some (.int .i64 f.step) ∧ W.cell? ⟨q, o + i * 4 + 1, none⟩ = some nv ∧ W.cell? ⟨q, o + i * 4 + 2, none⟩ = some (.bool f.call) ∧ W.cell? ⟨q, o + i * 4 + 3, none⟩ = some (.bool f.trim) ∧ Strs W nv f.names
set_option maxHeartbeats 1000000 in
theorem top_any (v : Value) (l : List Fr) (w : World) (h : Frs w v l) : Calls Try.prog 24 #[v] w fun e w' => e = .returned (.int .i64 (topTo l l.length)) ∧ w = w' := by
  obtain ⟨A, cap, rfl, hl, hc⟩ := h
  have HC := Lib.hid hc
  clear hc
  generalize hz : topTo l l.length = z
  have HZ := Lib.hid hz
  clear hz
  generalize hn : l.length = n at *
  have HN := Lib.hid hn
  clear hn
  go_enter Try.func24, Try.ntmps24
  go_wp2
  go_loop [3] (fun i => ∃ k : Nat, k ≤ n ∧ i = .int .i64 ((k : Int) - 1) ∧ Hid (topTo l k = z)) (fun i => (intOf i + 1).toNat)
  case atStart => exact ⟨n, Nat.le_refl _, rfl, HZ.out⟩
  case round =>
    obtain ⟨k, hk, rfl, hz⟩ := hrel
    rcases k with _ | k
    · have HR := Lib.hid (show (-1 : Int) = z from hz.out)
      go_wp2
      go_ret
      exact ⟨by rw [← HR.out]; rfl, rfl⟩
    · obtain ⟨f, hf⟩ : ∃ f, l[k]? = some f := ⟨_, List.getElem?_eq_getElem (by have := HN.out; omega)⟩
      obtain ⟨q, o, nv, rfl, -, -, c2, -, -⟩ := HC.out k f hf
      have hki : (k : Int) < (n : Int) := by omega
      have hk1 : (((k + 1 : Nat) : Int) - 1) = (k : Int) := by omega
      rw [hk1]
      have HZ1 := Lib.hid (show (if f.call then (k : Int) else topTo l k) = z by have := hz.out; unfold topTo at this; rw [hf] at this; exact this)
      clear hf hz hk1
      generalize f.call = b at c2 HZ1
      cases b
      · go_wp2
        go_round
        case rel => exact ⟨k, by omega, rfl, HZ1.out⟩
        case measure => simp [intOf]
      · go_wp2
        go_ret
        exact ⟨by rw [← HZ1.out]; rfl, rfl⟩
set_option maxHeartbeats 1000000 in
theorem look_any (v : Value) (l : List Fr) (s : ByteArray) (w : World) (h : Frs w v l) : Calls Try.prog 25 #[v, .string s] w fun e w' => e = .returned (.int .i64 (lookTo l s l.length)) ∧ w = w' := by
  obtain ⟨A, cap, rfl, hl, hc⟩ := h
  have HC := Lib.hid hc
  clear hc
  generalize hz : lookTo l s l.length = z
  have HZ := Lib.hid hz
  clear hz
  generalize hn : l.length = n at *
  have HN := Lib.hid hn
  clear hn
  go_enter Try.func25, Try.ntmps25
  go_wp2
  go_loop [5] (fun i => ∃ k : Nat, k ≤ n ∧ i = .int .i64 ((k : Int) - 1) ∧ Hid (lookTo l s k = z)) (fun i => (intOf i + 1).toNat)
  case atStart => exact ⟨n, Nat.le_refl _, rfl, HZ.out⟩
  case round =>
    obtain ⟨k, hk, rfl, hz⟩ := hrel
    rcases k with _ | k
    · have HR := Lib.hid (show (-1 : Int) = z from hz.out)
      go_wp2
      go_ret
      exact ⟨by rw [← HR.out]; rfl, rfl⟩
    · obtain ⟨f, hf⟩ : ∃ f, l[k]? = some f := ⟨_, List.getElem?_eq_getElem (by have := HN.out; omega)⟩
      obtain ⟨q, o, nv, rfl, c0, c1, c2, -, hst⟩ := HC.out k f hf
      obtain ⟨A2, cap2, rfl⟩ := hst.form
      have hki : (k : Int) < (n : Int) := by omega
      have hk1 : (((k + 1 : Nat) : Int) - 1) = (k : Int) := by omega
      rw [hk1]
      have HZ1 := Lib.hid (show (if placeTo f.names s then f.step else if f.call then -1 else lookTo l s k) = z by have := hz.out; unfold lookTo at this; rw [hf] at this; exact this)
      have HP := Lib.hid (place_any _ f.names s w hst)
      clear hf hz hk1 hst
      generalize placeTo f.names s = p at HZ1 HP
      generalize f.call = b at c2 HZ1
      cases p
      · have HZ2 := Lib.hid (show (if b = true then -1 else lookTo l s k) = z from HZ1.out)
        cases b
        · go_wp2_with (go_at_call 51; refine HP.out.mono ?_; rintro e w' ⟨⟨z1, rfl, hz1⟩, rfl⟩)
          go_round
          case rel => exact ⟨k, by omega, rfl, HZ2.out⟩
          case measure => simp [intOf]
        · go_wp2_with (go_at_call 51; refine HP.out.mono ?_; rintro e w' ⟨⟨z1, rfl, hz1⟩, rfl⟩)
          go_ret
          exact ⟨by rw [← HZ2.out]; rfl, rfl⟩
      · go_wp2_with (go_at_call 51; refine HP.out.mono ?_; rintro e w' ⟨⟨z1, rfl, hz1⟩, rfl⟩)
        go_ret
        exact ⟨by rw [← HZ1.out]; rfl, rfl⟩
set_option maxHeartbeats 1000000 in
theorem calls_any (v : Value) (l : List Fr) (w : World) (h : Frs w v l) : Calls Try.prog 26 #[v] w fun e w' => e = .returned (.int .i64 (callsTo l l.length)) ∧ w = w' := by
  obtain ⟨A, cap, rfl, hl, hc⟩ := h
  have HC := Lib.hid hc
  have HLE := Lib.hid (callsTo_le l)
  clear hc
  go_enter Try.func26, Try.ntmps26
  go_wp2
  go_loop [3, 4] (fun c i => ∃ k : Nat, k ≤ l.length ∧ i = .int .i64 k ∧ c = .int .i64 (callsTo l k)) (fun _ i => l.length - (intOf i).toNat)
  case atStart => exact ⟨0, Nat.zero_le _, rfl, rfl⟩
  case round =>
    obtain ⟨k, hk, rfl, rfl⟩ := hrel
    by_cases hlt : k < l.length
    · obtain ⟨f, hf⟩ : ∃ f, l[k]? = some f := ⟨_, List.getElem?_eq_getElem hlt⟩
      obtain ⟨q, o, nv, rfl, -, -, c2, -, -⟩ := HC.out k f hf
      have hki : (k : Int) < (l.length : Int) := by omega
      have HN := Lib.hid (show callsTo l (k + 1) = if f.call then callsTo l k + 1 else callsTo l k by rw [callsTo, hf])
      have hb0 := (HLE.out k).1
      have hb1 := (HLE.out k).2
      clear hf
      generalize callsTo l k = c at *
      generalize f.call = b at c2 HN
      cases b
      · go_wp2
        exact ⟨⟨k + 1, by omega, by go_num, by rw [HN.out]; rfl⟩, by simp [intOf]; omega⟩
      · go_wp2
        exact ⟨⟨k + 1, by omega, by go_num, by rw [HN.out]; rfl⟩, by simp [intOf]; omega⟩
    · obtain rfl : k = l.length := by omega
      have hki : ¬ ((l.length : Int) < (l.length : Int)) := by omega
      clear hlt
      go_wp2
      go_ret
      exact ⟨rfl, rfl⟩
end Go.Proofs.Ytincgkolpicipaa.stack
