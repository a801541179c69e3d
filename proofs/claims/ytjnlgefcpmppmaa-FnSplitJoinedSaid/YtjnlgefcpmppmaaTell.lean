/- What a string of the evaluator is told as; strings put together and told. -/
import Derived.Test.YtjnlgefcpmppmaaFlat
namespace Go.Proofs.Ytjnlgefcpmppmaa.joined
open Go.RowKit Go.Proofs.Ytjnlgefcpmppmaa.utf
/-- The text of code points. -/
def txt (us : List Nat) : ByteArray := ⟨(us.flatMap encL).toArray⟩
theorem fold_txt : ∀ (us : List Nat) (s : ByteArray), (∀ r ∈ us, Scalar r) → (us.map fun r : Nat => (r : Int)).foldl (fun r n => r ++ Utf8.encode n) s = ⟨(s.data.toList ++ us.flatMap encL).toArray⟩
  | [], s, _ => by simp
  | r :: us, s, h => by
    rw [List.map_cons, List.foldl_cons, fold_txt us _ (fun x hx => h x (by simp [hx]))]
    have e := encode_encL r (h r (by simp))
    apply congrArg
    simp [e]
theorem runes_txt (us : List Nat) (h : ∀ r ∈ us, Scalar r) : runesBytes (us.map fun r : Nat => (r : Int)) = txt us := by
  unfold runesBytes
  rw [fold_txt us _ h]
  simp [txt]
theorem conv_txt (w : World) (o : Option Addr) (n c : Nat) (us : List Nat) (hn : n = us.length) (hr : Runes w o us) (h : ∀ r ∈ us, Scalar r) : (convert 85 9 (.slice o n c)).run Try.prog w = .ok (.string (txt us)) w := by
  subst hn
  cases o with
  | none =>
    rcases hr with rfl | ⟨a, ha, _⟩
    · exact run_convert_runes_nil w 85 9 21 _ _ Try.underlying85 Try.underlying21 Try.underlying9
    · cases ha
  | some a =>
    have e := run_convert_runes (P := Try.prog) w 85 9 21 a us.length c (us.map fun r : Nat => (r : Int)) (by simp) Try.underlying85 Try.underlying21 Try.underlying9 (fun j hj => by
      have hj' : j < us.length := by simpa using hj
      rcases hr with rfl | ⟨a', ha, hc⟩
      · cases hj'
      · cases ha
        have := hc j (rv us[j]) (by simp [List.getElem?_eq_getElem hj'])
        rw [this]
        simp [rv, List.getElem?_eq_getElem hj'])
    rw [e, List.take_of_length_le (by simp), runes_txt us h]
theorem go_flat (b n c : Nat) (o : Option Addr) (us : List Nat) (w : World) (hn : n = us.length) (hc : w.cell? ⟨b, 0, none⟩ = some (.slice o n c)) (hr : Runes w o us) (h : ∀ r ∈ us, Scalar r) :
    Calls Try.prog 70 #[.pointer (some ⟨b, 0, none⟩)] w fun e w' => e = .returned (.string (txt us)) ∧ w = w' := by
  have hcv := conv_txt w o n c us hn hr h
  have HN := Lib.hid hn
  clear hn hr h
  go_enter Try.func70, Try.ntmps70
  go_wp2
  go_ret
  exact ⟨rfl, rfl⟩
theorem meth_go (p : Value) (w : World) : (method 321 82 p "given.example/pub-rondel/pub/jsonnet.getGoString").run Try.prog w = .ok (70, p) w := by kernel_rfl
theorem meth_go2 (p : Value) (w : World) : (method 321 113 p "given.example/pub-rondel/pub/jsonnet.getGoString").run Try.prog w = .ok (80, p) w := by kernel_rfl
theorem enter70 (args : Array Value) (W : World) : (callFunc 70 args).run Try.prog W = .ok (.enter 70 args) W := by kernel_rfl
theorem enter80 (args : Array Value) (W : World) : (callFunc 80 args).run Try.prog W = .ok (.enter 80 args) W := by kernel_rfl
theorem go_tree (B b : Nat) (us : List Nat) (w : World) (hs : Str B w (.iface 113 (.pointer (some ⟨b, 0, none⟩))) us) (hmax : us.length ≤ 1000000) (h : ∀ r ∈ us, Scalar r) :
    Calls Try.prog 80 #[.pointer (some ⟨b, 0, none⟩)] w fun e w' => e = .returned (.string (txt us)) ∧ Below B w w' := by
  have HF := Lib.hid (flatten_any B b us w hs hmax)
  have HS := Lib.hid h
  have hm := meth_go
  clear hs hmax h
  go_enter Try.func80, Try.ntmps80
  go_wp2_with fail
  refine HF.out.mono ?_
  rintro e w1 ⟨rfl, ⟨v, hv, b1, o, c, rfl, hc, hr⟩, hb⟩
  have HB := Lib.hid hb
  have HR := Lib.hid hr
  clear hb hr
  go_wp2_with (go_at_call 70; refine (go_flat b1 _ c o us _ rfl hc HR.out HS.out).mono ?_; rintro e w' ⟨rfl, rfl⟩)
  go_ret
  exact ⟨rfl, HB.out⟩
theorem Str.tells {B : Nat} {w : World} {v : Value} {us : List Nat} (hs : Str B w v us) (hmax : us.length ≤ 1000000) (h : ∀ r ∈ us, Scalar r) :
    ∃ T p f, v = .iface T p ∧ (∀ W, (method 321 T p "given.example/pub-rondel/pub/jsonnet.getGoString").run Try.prog W = .ok (f, p) W) ∧ (∀ args W, (callFunc f args).run Try.prog W = .ok (.enter f args) W) ∧ Calls Try.prog f #[p] w fun e w' => e = .returned (.string (txt us)) ∧ Below B w w' := by
  have hs' := hs
  cases hs with
  | flat b o n c rs hn h0 hr hB =>
    exact ⟨82, _, 70, rfl, fun W => meth_go _ W, enter70, (go_flat b n c o us w hn (by rw [cell_of_row w b 0 _ _ _ h0]; rfl) hr h).mono (fun e w' ⟨he, hw⟩ => ⟨he, hw ▸ Below.refl _ _⟩)⟩
  | tree b n l r ls rs hl hr h0 hn h30 e0 e1 hB =>
    exact ⟨113, _, 80, rfl, fun W => meth_go2 _ W, enter80, go_tree B b _ w hs' hmax h⟩
def Tells (us : List Nat) (w : World) (e : Ending) (w' : World) : Prop := e = .returned (.tuple #[.string (txt us), .int .i64 us.length]) ∧ Below w.heap.size w w'
set_option maxRecDepth 100000 in
theorem part_any (arg : Value) (right : Bool) (us : List Nat) (w : World) (hj : Calls Try.prog 20 #[arg, .bool right] w (Makes w.heap.size w us)) (hmax : us.length ≤ 1000000) (h : ∀ r ∈ us, Scalar r) :
    Calls Try.prog 13 #[arg, .bool right] w (Tells us w) := by
  have HJ := Lib.hid hj
  have HS := Lib.hid h
  clear hj h
  go_enter Try.func13, Try.ntmps13
  go_wp2_with fail
  refine HJ.out.mono ?_
  rintro e w1 ⟨⟨v, rfl, hv⟩, hb⟩
  obtain ⟨T1, p1, f1, e1, m1, q1, k1⟩ := hv.lens
  obtain ⟨T2, p2, f2, e2, m2, q2, k2⟩ := hv.tells hmax HS.out
  subst e1
  cases e2
  have K1 := Lib.hid k1
  have K2 := Lib.hid k2
  have HB := Lib.hid hb
  clear hv k1 k2 hb
  go_wp2_with fail
  refine K1.out.mono ?_
  rintro e w' ⟨rfl, rfl⟩
  go_wp2_with fail
  refine K2.out.mono ?_
  rintro e w2 ⟨rfl, hb2⟩
  have HB2 := Lib.hid (HB.out.trans hb2)
  clear hb2
  go_wp2_with fail
  go_ret2
  exact ⟨rfl, HB2.out⟩
theorem text_any (arg : Value) (right : Bool) (us : List Nat) (w : World) (hj : Calls Try.prog 20 #[arg, .bool right] w (Makes w.heap.size w us)) (hmax : us.length ≤ 1000000) (h : ∀ r ∈ us, Scalar r) :
    Calls Try.prog 7 #[arg, .bool right] w (Tells us w) := by
  have HJ := Lib.hid (part_any arg right us w hj hmax h)
  clear hj h
  go_enter Try.func7, Try.ntmps7
  go_wp2_with fail
  refine HJ.out.mono ?_
  rintro e w1 ⟨rfl, hb⟩
  have HB := Lib.hid hb
  clear hb
  go_wp2_with fail
  go_ret2
  exact ⟨rfl, HB.out⟩
end Go.Proofs.Ytjnlgefcpmppmaa.joined
