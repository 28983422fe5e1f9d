/- The card of 'FnInARow' at inputs of bounded bulk: it returns true and its input reads as it did. -/
import Derived.Test.YtokmkkkanphihaaGreatRDoorWorld
import Derived.Test.YtokmkkkanphihaaGreatRDoorCards
import Derived.Carry
namespace Go.Proofs.YtokmkkkanphihaaGreatRDoor
open Go.RowKit Go.Sort Go.ChangeShapes Go.WideShapes Go.ChangeAt

theorem Kp.below {w w' : World} (h : Kp (fun _ => False) w w') : Below w.heap.size w w' :=
  ⟨h.os, h.tape, h.output, h.size, fun k hk => h.block k hk (fun x => x)⟩

section
variable {H : Type} {enc : TypeId × Value → H} {P : Program}
/-- As 'post_of_same', with the blocks that the call made left free. -/
theorem post_of_low {f : Func} {s : ChangeSpec} {apart fresh handsOn again : Bool} {W W' : World} {args : Array Value} {v : Value} {ds gs : List (DataW H)} {before pa pv : List MemPlace}
    (hW : DataW.Whole enc P f.params.toList s.vars apart W args.toList ds gs before)
    (hres : ∀ (b : Nat) (sp : Nat → Bool) (hd : Bool), DataW.TrodAll enc P W' b sp hd f.resultTypes.toList (v.resultList f.resultTypes.size) (s.fn H (ds ++ gs)).results [])
    (hargs : ∀ sp : Nat → Bool, (∀ p ∈ before, sp p.block = true) → DataW.TrodAll enc P W' 0 sp true f.params.toList args.toList (s.fn H (ds ++ gs)).args pa)
    (hvars : ∀ sp : Nat → Bool, (∀ p ∈ before, sp p.block = true) → DataW.TrodVars enc P W' sp s.vars (s.fn H (ds ++ gs)).vars pv)
    (hps : before = pa ++ pv) (hk : W.keptBut W' (· ∈ before)) (hfz : ∀ a, a.block < W.heap.size → W'.frozen? a = W.frozen? a)
    (hok : ∀ (j : Nat) (t : TypeId) (r : Value), f.resultTypes[j]? = some t → (v.resultList f.resultTypes.size)[j]? = some r → Value.okWide P W' .any 0 t r) :
    s.post enc P f apart fresh handsOn again W args v W' := by
  have hold : ∀ p ∈ before, (fun b => decide (b < W.heap.size)) p.block = true := fun p hp => by simpa using hW.lt p hp
  refine ⟨ds, gs, before, [], pa, pv, hW, hres _ _ _, hargs _ hold, hvars _ hold, World.keptBut_mono (fun p hp => ⟨hp, ?_⟩) hk, fun _ => ?_⟩
  · rw [hps, List.mem_append] at hp
    exact Or.inr hp
  · have hlt := hW.lt
    obtain ⟨_, _, _, _, _, hz, hn⟩ := hW
    refine ⟨hok, _, _, ([] ++ pa) ++ pv, ⟨[] ++ pa, pv, trodAll_append (hargs _ (fun _ _ => rfl)) (hres _ _ _), hvars _ (fun _ _ => rfl), rfl, ?_, ?_⟩, ?_⟩
    · intro b off hp
      have hp' : MemPlace.cell b off ∈ before := by rw [hps]; simpa using hp
      rw [hfz _ (hlt _ hp')]
      exact hz b off hp'
    · intro ha
      have := hn ha
      rw [hps] at this
      simpa using this
    · intro p hp _
      rw [hps]
      simpa using hp
end

theorem par6 : Tryz.f6.params = #[23] := by kernel_rfl

theorem par60 : Tryz.f6.params[0]? = some 23 := by rw [par6]; rfl
theorem laidOut : laidOutB Tryz.prog = true := by kernel_rfl
theorem rec23 : Tryz.prog.readableRec 23 = true := by kernel_rfl
theorem row23 : 23 < Tryz.prog.types.size := of_decide_eq_true (by kernel_rfl)

/-- What comes in, out of how it reads. -/
theorem read_arg {H : Type} {enc : TypeId × Value → H} {W : World} {sp : Nat → Bool} {held : Bool} {v : Value} {d : DataW H} {ps : List MemPlace}
    (hv : ∃ a l c, v = .slice a l c) (h : DataW.Trod enc Tryz.prog W 0 sp held 23 v d ps) (hb : Rows.uptoBulk d ≤ 1048576) :
    ∃ ao c, ∃ vs : List Val, v = .slice ao vs.length c ∧ (vs = [] ∨ ∃ b2 o2, ao = some ⟨b2, o2, none⟩ ∧ PList W.heap.size W vs b2 o2) ∧ WfL vs ∧ costL vs + 3000 ≤ lim ∧ vs.length ≤ 2147483647 := by
  obtain ⟨fuel, h1⟩ := h
  obtain ⟨xa, xl, xc, rfl⟩ := hv
  rcases DataW.trod_slice Tryz.underlying23 h1 with ⟨h2, h3⟩ | ⟨a, len, cap, elems, rest, m, hm, h2, h3, _, _, _, hlen, hel, _⟩
  · have hv : Value.slice xa xl xc = .slice none 0 0 := (List.cons.inj h2).1
    exact ⟨none, 0, [], hv, .inl rfl, by simp [WfL], by simp [costL, lim], by simp⟩
  · have hv : Value.slice xa xl xc = .slice (some a) len cap := (List.cons.inj h2).1
    have hd : d = .slice (elems.map (·.1)) (rest.map (·.1)) := congrArg Prod.fst h3
    subst hd
    obtain ⟨l, l1, l2, l3⟩ := read_list (fun cs x h => read_val m cs x h) hlen hel
    have hbl := bulk_len (elems.map (·.1))
    have hbl2 : (elems.map (·.1)).length = len := by simpa using hlen
    simp only [Rows.uptoBulk] at hb
    have h5 := l3.2
    refine ⟨some a, cap, l, by rw [l1]; exact hv, l2, l3.1 (by omega), ?_, by omega⟩
    unfold lim
    omega

theorem arg_ok {P : Program} {W : World} {base : Nat} {v0 : Value} {ps : Array TypeId} {t0 : TypeId} (hp : ps[0]? = some t0) (hval : ∀ (j : Nat) t v, ps[j]? = some t → (#[v0] : Array Value)[j]? = some v → Value.okWide P W .any base t v) : Value.okWide P W .any base t0 v0 :=
  hval 0 t0 v0 hp rfl
theorem slice_ok {P : Program} {W : World} {base : Nat} {v0 : Value} {t e : TypeId} (ht : P.underlying t = some (.slice e)) (h : Value.okWide P W .any base t v0) : ∃ a l c, v0 = .slice a l c := okWide_slice ht h
set_option maxRecDepth 100000 in
theorem contract (H : Type) (enc : TypeId × Value → H) (W : World) (base : Nat) (args : Array Value) (ds gs : List (DataW H)) (before : List MemPlace)
    (hW : DataW.Whole enc Tryz.prog Tryz.f6.params.toList Rows.fnInARowSpec.vars false W args.toList ds gs before) (hL : laidMetH Tryz.prog Rows.fnInARowRow.laid W)
    (hcond : Rows.uptoBulkAll ds ≤ 1048576) (hval : ∀ (j : Nat) t v, Tryz.f6.params[j]? = some t → args[j]? = some v → Value.okWide Tryz.prog W .any base t v) :
    Calls Tryz.prog 6 args W fun e W' => ∃ v, e = .returned v ∧ Rows.fnInARowSpec.post enc Tryz.prog Tryz.f6 false true false false W args v W' := by
  have hW' := hW
  obtain ⟨p, q, hA0, hV, rfl, hfz, hnd⟩ := hW
  have hA : DataW.TrodAll enc Tryz.prog W 0 (fun _ => true) true Tryz.f6.params.toList args.toList ds p := hA0
  rw [par6] at hA
  obtain ⟨v0, vs0, d0, ds0, p0, q0, hargs, rfl, rfl, h0, r0⟩ := trodAll_cons hA
  obtain ⟨rfl, rfl, rfl⟩ := trodAll_nil r0
  obtain rfl : args = #[v0] := by cases args; simp_all
  obtain ⟨rfl, rfl⟩ := trodVars_none hV
  clear hA0
  simp only [List.append_nil] at hW'
  have hlt : ∀ x ∈ p0, x.block < W.heap.size := fun x hx => hW'.lt x hx
  have hb : Rows.uptoBulk d0 ≤ 1048576 := by
    simp only [Rows.uptoBulkAll] at hcond
    omega
  have hsl := slice_ok Tryz.underlying23 (arg_ok par60 hval)
  have h0' : DataW.Trod enc Tryz.prog W 0 (fun _ => true) true 23 v0 d0 p0 := h0
  have hra := read_arg hsl h0' hb
  obtain ⟨ao, c, vs, rfl, hl, hWf, hroom, hsmall⟩ := hra
  refine (FnInARow_any (laid_tabs hL) hl hWf hroom hsmall).mono fun e W' ⟨he, hk⟩ => ?_
  subst he
  have hB := hk.below
  exact ⟨_, rfl, post_of_low (pa := p0) (pv := []) hW' (fun _ _ _ => trodAll_cons_mk (shut_bool Tryz.underlying4 _) trodAll_mk0)
    (fun sp hsp => by
      rw [par6]
      have h := trodAll_cons_mk (WideElems.Trod_stays laidOut rec23 row23 h0 (fun x hx => hB.same (hlt x hx)) (fun x hx => by simpa using hsp x hx)) trodAll_mk0
      rw [List.append_nil] at h
      exact h) (fun _ _ => rfl) (by simp)
    (hB.frame _) (fun a ha => hB.frozen ha) (ok_one (by kernel_rfl) rfl (okWide_bool_mk Tryz.underlying4 _))⟩
end Go.Proofs.YtokmkkkanphihaaGreatRDoor
