/- The common end of a law's proof: from a contract 'the call returns true and below the old heap nothing has turned' to the given statement, for arguments of whatever types. No program of this seat is named. -/
import Derived.ProofKit
import Derived.WalkKit
import Derived.SizedLaws
import Derived.Below
import Derived.ChangeSame
import Derived.Carry
import Derived.KernelRfl
namespace Go.Proofs.Ytincgkolpicipaa.LawKit
open Go.RowKit Go.WideShapes Go.ChangeShapes

section
variable {H : Type} {enc : TypeId × Value → H} {P : Program}

theorem trodAll_below (hl : laidOutB P = true) {W W' : World} (hb : Below W.heap.size W W') {sp : Nat → Bool} :
    ∀ {ts : List TypeId} {vs : List Value} {ds : List (DataW H)} {ps : List MemPlace}, (ts.all fun t => P.readableRec t && decide (t < P.types.size)) = true →
      DataW.TrodAll enc P W 0 (fun _ => true) true ts vs ds ps → (∀ x ∈ ps, x.block < W.heap.size) → (∀ x ∈ ps, sp x.block = true) → DataW.TrodAll enc P W' 0 sp true ts vs ds ps
  | [], [], [], _, _, h, _, _ => h
  | [], [], _ :: _, _, _, h, _, _ => h.elim
  | [], _ :: _, _, _, _, h, _, _ => h.elim
  | _ :: _, [], _, _, _, h, _, _ => h.elim
  | _ :: _, _ :: _, [], _, _, h, _, _ => h.elim
  | t :: ts, v :: vs, d :: ds, ps, hr, h, hlt, hsp => by
    obtain ⟨p, q, h1, h2, e⟩ := h
    simp only [List.all_cons, Bool.and_eq_true, decide_eq_true_eq] at hr
    have hp : ∀ x ∈ p, x ∈ ps := fun x hx => by rw [e]; simp [hx]
    have hq : ∀ x ∈ q, x ∈ ps := fun x hx => by rw [e]; simp [hx]
    exact ⟨p, q, WideElems.Trod_stays hl hr.1.1 hr.1.2 h1 (fun x hx => hb.same (hlt x (hp x hx))) (fun x hx => hsp x (hp x hx)),
      trodAll_below hl hb hr.2 h2 (fun x hx => hlt x (hq x hx)) (fun x hx => hsp x (hq x hx)), e⟩

theorem post_of_below {f : Func} {s : ChangeSpec} {apart fresh handsOn again : Bool} {W W' : World} {args : Array Value} {v : Value} {ds gs : List (DataW H)} {before pa pv : List MemPlace}
    (hW : DataW.Whole enc P f.params.toList s.vars apart W args.toList ds gs before)
    (hres : ∀ (b : Nat) (sp : Nat → Bool) (hd : Bool), DataW.TrodAll enc P W' b sp hd f.resultTypes.toList (v.resultList f.resultTypes.size) (s.fn H (ds ++ gs)).results [])
    (hargs : ∀ sp : Nat → Bool, (∀ p ∈ before, sp p.block = true) → DataW.TrodAll enc P W' 0 sp true f.params.toList args.toList (s.fn H (ds ++ gs)).args pa)
    (hvars : ∀ sp : Nat → Bool, (∀ p ∈ before, sp p.block = true) → DataW.TrodVars enc P W' sp s.vars (s.fn H (ds ++ gs)).vars pv)
    (hps : before = pa ++ pv) (hb : Below W.heap.size W W')
    (hok : ∀ (j : Nat) (t : TypeId) (r : Value), f.resultTypes[j]? = some t → (v.resultList f.resultTypes.size)[j]? = some r → Value.okWide P W' .any 0 t r) :
    s.post enc P f apart fresh handsOn again W args v W' := by
  have hlt : ∀ p ∈ before, p.block < W.heap.size := fun p hp => hW.lt p hp
  have hold : ∀ p ∈ before, (fun b => decide (b < W.heap.size)) p.block = true := fun p hp => by simpa using hlt p hp
  refine ⟨ds, gs, before, [], pa, pv, hW, hres _ _ _, hargs _ hold, hvars _ hold, World.keptBut_mono (fun p hp => ⟨hp, ?_⟩) (hb.frame (· ∈ before)), fun _ => ?_⟩
  · rw [hps, List.mem_append] at hp
    exact Or.inr hp
  · obtain ⟨_, _, _, _, _, hz, hn⟩ := hW
    refine ⟨hok, _, _, ([] ++ pa) ++ pv, ⟨[] ++ pa, pv, trodAll_append (hargs _ (fun _ _ => rfl)) (hres _ _ _), hvars _ (fun _ _ => rfl), rfl, ?_, ?_⟩, ?_⟩
    · intro b off hp
      have hin : MemPlace.cell b off ∈ before := by rw [hps]; simpa using hp
      rw [hb.frozen (hlt _ hin)]
      exact hz b off hin
    · intro ha
      have := hn ha
      rw [hps] at this
      simpa using this
    · intro p hp _
      rw [hps]
      simpa using hp

theorem law_post {f : Func} {s : ChangeSpec} {apart fresh handsOn again : Bool} {W W' : World} {args : Array Value} {ds gs : List (DataW H)} {before : List MemPlace} {tb : TypeId}
    (hl : laidOutB P = true) (hr : (f.params.toList.all fun t => P.readableRec t && decide (t < P.types.size)) = true) (hv : s.vars = []) (ht : f.resultTypes = #[tb]) (hbool : P.underlying tb = some .bool)
    (hs : ∀ ds : List (DataW H), ds.length = f.params.toList.length → (s.fn H ds).results = [.lit (.bool true)] ∧ (s.fn H ds).args = ds ∧ (s.fn H ds).vars = [])
    (hW : DataW.Whole enc P f.params.toList s.vars apart W args.toList ds gs before) (hb : Below W.heap.size W W') :
    s.post enc P f apart fresh handsOn again W args (.bool true) W' := by
  have hW' := hW
  obtain ⟨p, q, hA, hV, rfl, hfz, hnd⟩ := hW
  rw [hv] at hV
  obtain ⟨rfl, rfl⟩ := trodVars_none hV
  have hlen : ∀ {ts : List TypeId} {vs : List Value} {ds : List (DataW H)} {ps : List MemPlace}, DataW.TrodAll enc P W 0 (fun _ => true) true ts vs ds ps → ds.length = ts.length := by
    intro ts
    induction ts with
    | nil => intro vs ds ps h; cases vs <;> cases ds <;> simp_all [DataW.TrodAll]
    | cons t ts ih =>
      intro vs ds ps h
      cases vs with
      | nil => cases ds <;> exact h.elim
      | cons v vs =>
        cases ds with
        | nil => exact h.elim
        | cons d ds =>
          obtain ⟨p, q, _, h2, _⟩ := h
          simp [ih h2]
  obtain ⟨e1, e2, e3⟩ := hs ds (hlen hA)
  have e1' : (s.fn H (ds ++ [])).results = [.lit (.bool true)] := by rw [List.append_nil]; exact e1
  have e2' : (s.fn H (ds ++ [])).args = ds := by rw [List.append_nil]; exact e2
  have e3' : (s.fn H (ds ++ [])).vars = [] := by rw [List.append_nil]; exact e3
  refine post_of_below (pa := p) (pv := []) hW' ?_ ?_ ?_ rfl hb ?_
  · intro b sp hd
    rw [e1', ht]
    exact trodAll_mk1 (shut_bool hbool true)
  · intro sp hsp
    rw [e2']
    exact trodAll_below hl hb hr hA (fun x hx => hW'.lt x (by simp [hx])) (fun x hx => hsp x (by simp [hx]))
  · intro sp hsp
    rw [e3', hv]
    rfl
  · exact ok_one ht rfl (okWide_bool_mk hbool true)

/-- FROM THE CONTRACT TO THE LIFTED LAW: the walk is given the arguments' readings, their outer forms, their sizes. -/
theorem law_lifted {a : Assume} {C : Checked} {os : Os} {f : FuncId} {fn : Func} {s : ChangeSpec} {apart fresh handsOn again : Bool} {tb : TypeId}
    (own : ownKnob C.prog.godebug = none) (started : os.Started) (noInit : C.prog.inits.idxOf? f = none) (hfn : C.prog.funcs[f]? = some fn)
    (witness : ∃ (w : World) (tape : Tape) (i : Input), w.os = os ∧ (w.forCall tape i).Shaped C.prog ∧ i.vars = [] ∧ Input.okWide C.prog (w.forCall tape i) .any w.heap.size f i ∧
      s.pre6 enc C.prog fn [] apart (w.forCall tape i).memory i.args ∧ a.holds C.prog (lone (Frame.enter C.prog f i.args .normal) [] (w.forCall tape i)))
    (hl : laidOutB C.prog = true) (hr : (fn.params.toList.all fun t => C.prog.readableRec t && decide (t < C.prog.types.size)) = true) (hv : s.vars = []) (ht : fn.resultTypes = #[tb]) (hbool : C.prog.underlying tb = some .bool)
    (hs : ∀ ds : List (DataW H), ds.length = fn.params.toList.length → (s.fn H ds).results = [.lit (.bool true)] ∧ (s.fn H ds).args = ds ∧ (s.fn H ds).vars = [])
    (walk : ∀ (W : World) (base : Nat) (args : Array Value) (ds : List (DataW H)) (before : List MemPlace),
      (∀ (j : Nat) t v, fn.params[j]? = some t → args[j]? = some v → Value.okWide C.prog W .any base t v) →
      DataW.TrodAll enc C.prog W 0 (fun _ => true) true fn.params.toList args.toList ds before →
      (∀ p ∈ before, p.block < W.heap.size) →
      (DataW.weightsEach C.prog fn.params.toList ds).all (· ≤ reachBytes) = true →
      Calls C.prog f args W fun e W' => e = .returned (.bool true) ∧ Below W.heap.size W W') :
    ReturnsInHanded a C os f .any (s.pre6 enc C.prog fn [] apart) (s.post enc C.prog fn apart fresh handsOn again) := by
  refine returnsInHanded_of_change_sized own started noInit hfn witness ?_
  intro W base args ds gs before hval hW _ hsz _
  have hW' := hW
  obtain ⟨p, q, hA, hV, rfl, hfz, hnd⟩ := hW
  rw [hv] at hV
  obtain ⟨rfl, rfl⟩ := trodVars_none hV
  have hvt : s.plain.varTypes C.prog = [] := by
    have h0 : s.plain.vars = [] := hv
    simp [DataSpec.varTypes, h0]
  rw [hvt, List.append_nil, List.append_nil] at hsz
  refine (walk W base args ds p hval hA (fun x hx => hW'.lt x (by simp [hx])) hsz).mono fun e W' ⟨he, hb⟩ => ?_
  exact ⟨_, he, law_post hl hr hv ht hbool hs hW' hb⟩

end
end Go.Proofs.Ytincgkolpicipaa.LawKit
