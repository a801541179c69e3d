/- FnJoinedExact: strings added one after the other, from the left or from the right, are their code points one behind the other, and have as many. -/
import Derived.Test.YtjnlgefcpmppmaaOfU
import Derived.Deep.QuietTactic
import Derived.BigQuiet
namespace Go.Proofs.Ytjnlgefcpmppmaa.joined
open Go.RowKit Go.Proofs.Ytjnlgefcpmppmaa.utf
theorem chain_a : Chain ⟨#[97]⟩ 0 [97] := .step (by decide) (show ptAt ⟨#[97]⟩ 0 = (97, 1) by kernel_rfl) (by decide) .done
def Just (v : Value) (w : World) (e : Ending) (w' : World) : Prop := e = .returned v ∧ Below w.heap.size w w'
set_option maxRecDepth 100000 in
theorem eq_flat (b1 b2 c1 c2 : Nat) (a1 a2 : Nat) (o1 o2 : Nat) (w : World) (h1 : w.cell? ⟨b1, 0, none⟩ = some (.slice (some ⟨a1, o1, none⟩) 1 c1)) (h2 : w.cell? ⟨b2, 0, none⟩ = some (.slice (some ⟨a2, o2, none⟩) 1 c2))
    (r1 : w.cell? ⟨a1, o1, none⟩ = some (.int .i32 97)) (r2 : w.cell? ⟨a2, o2, none⟩ = some (.int .i32 97)) :
    Calls Try.prog 21 #[.iface 82 (.pointer (some ⟨b1, 0, none⟩)), .iface 82 (.pointer (some ⟨b2, 0, none⟩))] w (Just (.bool true) w) := by
  have hm := meth_runes
  go_enter Try.func21, Try.ntmps21
  go_wp2_with (go_at_call 71; refine (runes_flat _ _ _ _ _ (by assumption)).mono ?_; rintro e w' ⟨rfl, rfl⟩)
  refine wp_loop_rounds 2 ?_
  rw [rounds_succ]
  go_wp2_with fail
  go_quiet (fail)
  go_wp2_with fail
  rw [rounds_succ]
  go_wp2_with fail
  go_ret
  exact ⟨rfl, ⟨rfl, rfl, rfl, Nat.le_refl _, fun _ _ => rfl⟩⟩
theorem short_one {B : Nat} {w : World} {v : Value} (h : Str B w v [97]) : ∃ b a o c, v = .iface 82 (.pointer (some ⟨b, 0, none⟩)) ∧ w.cell? ⟨b, 0, none⟩ = some (.slice (some ⟨a, o, none⟩) 1 c) ∧ w.cell? ⟨a, o, none⟩ = some (.int .i32 97) := by
  obtain ⟨b, o, c, rfl, hb, hr⟩ := h.short (by simp)
  obtain ⟨⟨a, k, spot⟩, rfl, hc⟩ := hr.resolve_left (by simp)
  have h0 := hc 0 (rv 97) rfl
  have hs : spot = none := by simpa [Addr.add] using World.cell?_spot h0
  subst hs
  refine ⟨b, a, k, c, rfl, by rw [cell_of_row w b 0 _ _ _ hb]; rfl, ?_⟩
  simpa [Addr.add, rv] using h0
theorem part_eq (w : World) : Calls Try.prog 15 #[.string ⟨#[97]⟩, .string ⟨#[97]⟩] w (Just (.bool true) w) := by
  have HC := Lib.hid (fun w' (h : w.heap.size ≤ w'.heap.size) => make_any w.heap.size ⟨#[97]⟩ [97] w' h chain_a (by simp))
  go_enter Try.func15, Try.ntmps15
  go_wp2_with fail
  refine (HC.out w (Nat.le_refl _)).mono ?_
  rintro e w1 ⟨⟨v1, rfl, hv1⟩, hb1⟩
  have HV1 := Lib.hid hv1
  have HB1 := Lib.hid hb1
  clear hv1 hb1
  go_wp2_with fail
  refine (HC.out w1 HB1.out.size).mono ?_
  rintro e w2 ⟨⟨v2, rfl, hv2⟩, hb2⟩
  obtain ⟨b1, a1, o1, c1, rfl, x1, y1⟩ := short_one (HV1.out.keep hb2)
  obtain ⟨b2, a2, o2, c2, rfl, x2, y2⟩ := short_one hv2
  have HE := Lib.hid (eq_flat b1 b2 c1 c2 a1 a2 o1 o2 w2 x1 x2 y1 y2)
  have HB2 := Lib.hid (HB1.out.trans (hb2.mono HB1.out.size))
  clear hv2 hb2 x1 y1 x2 y2 HV1 HB1
  go_wp2_with fail
  refine HE.out.mono ?_
  rintro e w3 ⟨rfl, hb3⟩
  have HB3 := Lib.hid (HB2.out.trans (hb3.mono HB2.out.size))
  clear hb3
  go_wp2_with fail
  go_ret
  exact ⟨rfl, HB3.out⟩
theorem text_eq (w : World) : Calls Try.prog 9 #[.string ⟨#[97]⟩, .string ⟨#[97]⟩] w (Just (.bool true) w) := by
  have HC := Lib.hid (part_eq w)
  go_enter Try.func9, Try.ntmps9
  go_wp2_with fail
  refine HC.out.mono ?_
  rintro e w3 ⟨rfl, hb3⟩
  have HB3 := Lib.hid hb3
  clear hb3
  go_wp2_with fail
  go_ret
  exact ⟨rfl, HB3.out⟩
/-- The sizes are looked at. -/
def Looked (w : World) (e : Ending) (w' : World) : Prop := (∃ b, e = .returned (.bool b)) ∧ w = w'
theorem fits_some (b off n c : Nat) (ss : List ByteArray) (w : World) (hn : n = ss.length) (hS : Strs w b off ss) (hz : ∀ j, j < ss.length → (ss.getD j ByteArray.empty).size ≤ 9223372036854775807) (hn2 : n ≤ 9223372036854775807) :
    Calls Try.prog 5 #[.slice (some ⟨b, off, none⟩) n c] w (Looked w) := by
  by_cases hbig : n ≤ 2147483647
  · have HS := Lib.hid hS
    have HN := Lib.hid hn
    have HZ := Lib.hid hz
    have hd : decide ((2147483647 : Int) < (n : Int)) = false := decide_eq_false (by omega)
    clear hS hn hz
    go_enter Try.func5, Try.ntmps5
    go_wp2_with fail
    go_loop [10] (fun i => ∃ k : Nat, i = .int .i64 k ∧ k ≤ n) (fun i => n - (intOf i).toNat)
    case atStart => exact ⟨0, rfl, by omega⟩
    case round =>
      obtain ⟨k, rfl, hk⟩ := hrel
      by_cases hlt : k < n
      · have hks : k < ss.length := by rw [← HN.out]; exact hlt
        have hcell := HS.out k hks
        have hzs := HZ.out k hks
        generalize ss.getD k ByteArray.empty = s at *
        clear hks
        by_cases hsz : s.size ≤ 2147483647
        · have hds : decide ((2147483647 : Int) < (s.size : Int)) = false := decide_eq_false (by omega)
          go_wp2_with fail
          go_round
          case rel => exact ⟨k + 1, by go_num, by omega⟩
          case measure => simp [intOf]; omega
        · have hds : decide ((2147483647 : Int) < (s.size : Int)) = true := decide_eq_true (by omega)
          go_wp2_with fail
          go_ret
          exact ⟨⟨_, rfl⟩, rfl⟩
      · go_wp2_with fail
        go_ret
        exact ⟨⟨_, rfl⟩, rfl⟩
  · have hd : decide ((2147483647 : Int) < (n : Int)) = true := decide_eq_true (by omega)
    clear hS hn hz
    go_enter Try.func5, Try.ntmps5
    go_wp2_with fail
    go_ret
    exact ⟨⟨_, rfl⟩, rfl⟩
theorem fits_none (o : Option Addr) (c : Nat) (w : World) : Calls Try.prog 5 #[.slice o 0 c] w (Looked w) := by
  go_enter Try.func5, Try.ntmps5
  go_wp2_with fail
  refine wp_loop_rounds 1 ?_
  rw [rounds_succ]
  go_wp2_with fail
  go_ret
  exact ⟨⟨_, rfl⟩, rfl⟩
theorem joined_none (o : Option Addr) (c : Nat) (right : Bool) (w : World) : Calls Try.prog 20 #[.slice o 0 c, .bool right] w (Makes w.heap.size w []) := by
  go_enter Try.func20, Try.ntmps20
  go_wp2_with (go_at_call 29; refine (empty_any _).mono ?_; rintro e w' ⟨rfl, rfl⟩)
  refine wp_loop_rounds 1 ?_
  rw [rounds_succ]
  go_wp2_with fail
  go_ret
  exact ⟨⟨_, rfl, flat_new w.heap.size w (Nat.le_refl _) none 0 0 [] rfl (.inl rfl)⟩, (Below.refl _ _).alloc (Nat.le_refl _) _⟩
end Go.Proofs.Ytjnlgefcpmppmaa.joined
