import PyProof.Rows.All
import Wide.All
import OpenK.AllK
import Wide.FinOn
import PySem.Challenge.RW_in0113_01
open PySem PySem.W PyProof.Rows
set_option Elab.async false
set_option compiler.extract_closed false
set_option maxRecDepth 100000
set_option maxHeartbeats 8000000
open_top hd for PySem.Challenge.rw_in0113_01
open PySem.Spec PySem.Calls
set_option rowWalk.seconds 0

/- part F0 -/
namespace Mine
noncomputable abbrev pr : Program := PySem.Challenge.pw_in0113_01
def KeptIn (rest : List (Addr × Obj)) (h : Heap) : Prop := ∀ p ∈ rest, h.get? p.1 = some p.2
def WithRest (rest : List (Addr × Obj)) (R : Result → Shared → Prop) : Result → Shared → Prop := fun r s' => KeptIn rest s'.heap → R r s'
section
variable {prog : Program} {w : World} {A₀ A : Around} {s : Shared} {base h₀ : Heap} {outer : List Env} {L : Addr} {m mg mb : Str → Option Value} {env : Env} {mine rest : List (Addr × Obj)} {K : Frag} {p : Program} {loose : List Str} {mean : ExcName → Option Value}
  {R : Result → Shared → Prop} {name qual : Str} {params : Arguments} {body : List Stmt} {scope : Scope} {cl : List (Str × Addr)} {dV kV doc pm cdv ct oc : Value} {an od : Option Addr} {osl : Array (Option Value)} {f : Addr} {args : Args} {binds : List (Str × Value)}
theorem groundR (B : Below A₀ base outer h₀) (F : Fr h₀ L s.heap m) (N : News h₀ L s.heap mine) (NR : News h₀ L s.heap rest) (hdis : ∀ q ∈ rest, q.1 ∉ mine.map (·.1)) (hA : A.frames = some (env :: outer)) (hf : env.frame = some L) (hke : env.scope.kind = .function) :
    Fr h₀ L (hideAll s.heap (mine.map (·.1))) m ∧ Below A base (env :: outer) (hideAll s.heap (mine.map (·.1))) ∧ h₀.StaysIn (hideAll s.heap (mine.map (·.1))) ∧
      (∀ v s', LeaveK h₀ L m (hideAll s.heap (mine.map (·.1))) (WithRest rest R) v s' → R (.ok (.ret v)) s') ∧ KeptIn rest (hideAll s.heap (mine.map (·.1))) := by
  obtain ⟨FG, BG, st, lv⟩ := groundX (R := WithRest rest R) B F N hA hf hke
  have kr : KeptIn rest (hideAll s.heap (mine.map (·.1))) := fun q hq => hideAll_get _ (NR q hq).1 (hdis q hq)
  refine ⟨FG, BG, st, fun v s' hl => lv v s' hl fun q hq => ?_, kr⟩
  obtain ⟨L', m', news', F', N', k⟩ := hl
  exact F'.keep _ _ (kr q hq)
theorem frame_plain (B : Below A₀ base outer h₀) (F : Fr h₀ L s.heap m) (X₀ : K.In h₀) (N : News h₀ L s.heap mine) (NR : News h₀ L s.heap rest) (hdis : ∀ q ∈ rest, q.1 ∉ mine.map (·.1)) (T : Top p loose mean mg mb h₀) (hA : A.frames = some (env :: outer)) (hf : env.frame = some L) (hke : env.scope.kind = .function)
    (ho : K.lookup f = some ⟨oc, od, .func (fnOf name qual params body scope dV kV doc pm an cdv ct), osl⟩) (hcd : codeIn K cdv qual = true) (hroom : A.depth < recursionLimit)
    (hbind : BindsTo s (fnOf name qual params body scope dV kV doc pm an cdv ct) args binds) (hloc : ∀ y ∈ binds, scope.names.lookup y.1 = some .local)
    (h : ∀ g L' h₁, Fr h₀ L g m → Fr g L' h₁ (fun y => binds.reverse.lookup y) → News g L' h₁ mine → Below A base (env :: outer) g → K.In g → Top p loose mean mg mb g → (∀ q ∈ mine, q.1 < L') → KeptIn rest g → (∀ q ∈ rest, q.1 < L') →
      wpAny (model prog w) (A.deeper (envOf qual scope L' f cdv)) (execs body (envOf qual scope L' f cdv))
        (fun fl s' => LeaveK h₀ L m g (WithRest rest R) (match fl with | .ret v => v | _ => .none) s')
        (fun e s' => wpAny (model prog w) (A.deeper (envOf qual scope L' f cdv)) (leaving (envOf qual scope L' f cdv) e) (fun _ s'' => R (.error e) s'') (fun e' s'' => R (.error e') s'') s')
        { s with heap := h₁, toks := s.toks + binds.length })
    (hco : scope.isCoroutine = false) (hgen : scope.isGenerator = false) (hk : scope.kind = .function)
    (hcell : ∀ x ∈ scope.names, x.2 ≠ .cell) : codeAny (model prog w) A (.call (.ref f) args) R s := by
  obtain ⟨FG, BG, st, lv, kr⟩ := groundR (R := R) B F N NR hdis hA hf hke
  refine codeAny_call_def (fd := fnOf name qual params body scope dV kV doc pm an cdv ct) (body := body) (binds := binds) hroom ((X₀.keeps F.keep) _ _ ho) rfl (T.nolimit.keeps F.keep) (codeRec_of (X₀.keeps F.keep) hcd) rfl hbind hcell hloc (fun h₁ hns hk₁ => ?_) hco hgen hk
  exact wpAny_mono (h _ s.heap.objs.size h₁ FG ⟨hns, fun b o e => hk₁ b o (of_hideAll _ e), Nat.le_of_eq (hideAll_size _ _)⟩
    (fun q hq => ⟨hk₁ _ _ (N q hq).1, Nat.ne_of_lt (Heap.lt_size (N q hq).1), hideAll_none _ (List.mem_map_of_mem hq)⟩) BG (X₀.keeps st) (T.keeps st) (fun q hq => Heap.lt_size (N q hq).1) kr (fun q hq => Heap.lt_size (NR q hq).1)) (fun fl s' hl => lv _ _ hl) fun _ _ y => y
theorem frame_cells (B : Below A₀ base outer h₀) (F : Fr h₀ L s.heap m) (X₀ : K.In h₀) (N : News h₀ L s.heap mine) (NR : News h₀ L s.heap rest) (hdis : ∀ q ∈ rest, q.1 ∉ mine.map (·.1)) (T : Top p loose mean mg mb h₀) (hA : A.frames = some (env :: outer)) (hf : env.frame = some L) (hke : env.scope.kind = .function)
    (ho : K.lookup f = some ⟨oc, od, .func (fnOf name qual params body scope dV kV doc pm an cdv ct), osl⟩) (hcd : codeIn K cdv qual = true) (hroom : A.depth < recursionLimit)
    (hbind : BindsTo s (fnOf name qual params body scope dV kV doc pm an cdv ct) args binds) (hkind : (binds.all fun y => scope.names.lookup y.1 == some .local || scope.names.lookup y.1 == some .cell) = true)
    (hnd : ((cellsFrom 0 scope.names []).map (·.1)).Nodup)
    (h : ∀ g L' h₁ tk cells, Fr h₀ L g m → Fr g L' h₁ (bindL (envOfC qual scope L' f cdv).kindOf binds fun _ => none) → News g L' h₁ (cells ++ mine) →
      CellsAre (bindC (envOfC qual scope L' f cdv).kindOf binds fun _ => none) (cellsFrom (L' + 1) scope.names []) cells → Below A base (env :: outer) g → K.In g → Top p loose mean mg mb g → (∀ q ∈ mine, q.1 < L') → KeptIn rest g → (∀ q ∈ rest, q.1 < L') →
      wpAny (model prog w) (A.deeper (envOfC qual scope L' f cdv)) (execs body (envOfC qual scope L' f cdv))
        (fun fl s' => LeaveK h₀ L m g (WithRest rest R) (match fl with | .ret v => v | _ => .none) s')
        (fun e s' => wpAny (model prog w) (A.deeper (envOfC qual scope L' f cdv)) (leaving (envOfC qual scope L' f cdv) e) (fun _ s'' => R (.error e) s'') (fun e' s'' => R (.error e') s'') s')
        { s with heap := h₁, toks := tk })
    (hco : scope.isCoroutine = false) (hgen : scope.isGenerator = false) (hk : scope.kind = .function) : codeAny (model prog w) A (.call (.ref f) args) R s := by
  obtain ⟨FG, BG, st, lv, kr⟩ := groundR (R := R) B F N NR hdis hA hf hke
  refine codeAny_call_function hroom ((X₀.keeps F.keep) _ _ ho) rfl hco hgen rfl (codeRec_of (X₀.keeps F.keep) hcd) (hbind _ _ _ _ ?_)
  refine wpAny_newFunctionEnv_cells hk (kindsX hkind _) fun env' he s' x => ?_
  subst he
  refine ⟨(T.nolimit.keeps F.keep).keeps x.toInCall.keep, codeAny_func ?_⟩
  obtain ⟨h₁, tk, rfl, _⟩ := x.done
  have hk₁ := x.toInCall.keep
  obtain ⟨cells, NC, Y⟩ := Cl.news (h₀ := s.heap) (Nat.le_refl _) fun n c hm => ⟨x.cell n c (lookup_of_mem_nodup (cellsFrom_names scope.names 0 (s.heap.objs.size + 1) [] [] rfl ▸ hnd) hm), x.above n c hm⟩
  refine wpAny_mono (h _ s.heap.objs.size h₁ tk cells FG ⟨x.toInCall.ns, fun b o e => hk₁ b o (of_hideAll _ e), Nat.le_of_eq (hideAll_size _ _)⟩ (fun q hp => ?_) Y BG (X₀.keeps st) (T.keeps st) (fun q hp => Heap.lt_size (N q hp).1) kr (fun q hq => Heap.lt_size (NR q hq).1)) (fun fl s' hl => lv _ _ hl) fun _ _ y => y
  rcases List.mem_append.mp hp with hp | hp
  · refine ⟨(NC q hp).1, (NC q hp).2.1, ?_⟩
    cases e : (hideAll s.heap (mine.map (·.1))).get? q.1 with
    | none => rfl
    | some o => have := of_hideAll _ e; rw [(NC q hp).2.2] at this; cases this
  · exact ⟨hk₁ _ _ (N q hp).1, Nat.ne_of_lt (Heap.lt_size (N q hp).1), hideAll_none _ (List.mem_map_of_mem hp)⟩
theorem frame_nest {ctv : Value} {c' : Addr} (B : Below A₀ base outer h₀) (F : Fr h₀ L s.heap m) (X₀ : K.In h₀) (N : News h₀ L s.heap mine) (NR : News h₀ L s.heap rest) (hdis : ∀ q ∈ rest, q.1 ∉ mine.map (·.1)) (T : Top p loose mean mg mb h₀) (hA : A.frames = some (env :: outer)) (hf : env.frame = some L) (hke : env.scope.kind = .function)
    (ho : (f, fnMade name qual params body scope cl doc pm c' ctv) ∈ mine) (hcd : s.heap.CodeRec (.ref c') qual) (hroom : A.depth < recursionLimit)
    (hbind : BindsTo s (fnX name qual params body scope cl .none .none doc pm none (.ref c') ctv) args binds) (hloc : ∀ y ∈ binds, scope.names.lookup y.1 = some .local)
    (h : ∀ g L' h₁, Fr h₀ L g m → Fr g L' h₁ (fun y => binds.reverse.lookup y) → News g L' h₁ mine → Below A base (env :: outer) g → K.In g → Top p loose mean mg mb g → (∀ q ∈ mine, q.1 < L') → KeptIn rest g → (∀ q ∈ rest, q.1 < L') →
      wpAny (model prog w) (A.deeper (envX qual scope L' f (.ref c') cl)) (execs body (envX qual scope L' f (.ref c') cl))
        (fun fl s' => LeaveK h₀ L m g (WithRest rest R) (match fl with | .ret v => v | _ => .none) s')
        (fun e s' => wpAny (model prog w) (A.deeper (envX qual scope L' f (.ref c') cl)) (leaving (envX qual scope L' f (.ref c') cl) e) (fun _ s'' => R (.error e) s'') (fun e' s'' => R (.error e') s'') s')
        { s with heap := h₁, toks := s.toks + binds.length })
    (hco : scope.isCoroutine = false) (hgen : scope.isGenerator = false) (hk : scope.kind = .function)
    (hcell : ∀ x ∈ scope.names, x.2 ≠ .cell) : codeAny (model prog w) A (.call (.ref f) args) R s := by
  obtain ⟨FG, BG, st, lv, kr⟩ := groundR (R := R) B F N NR hdis hA hf hke
  refine codeAny_call_def (fd := fnX name qual params body scope cl .none .none doc pm none (.ref c') ctv) (body := body) (binds := binds) hroom (N _ ho).1 rfl (T.nolimit.keeps F.keep) hcd rfl hbind hcell hloc (fun h₁ hns hk₁ => ?_) hco hgen hk
  exact wpAny_mono (h _ s.heap.objs.size h₁ FG ⟨hns, fun b o e => hk₁ b o (of_hideAll _ e), Nat.le_of_eq (hideAll_size _ _)⟩
    (fun q hq => ⟨hk₁ _ _ (N q hq).1, Nat.ne_of_lt (Heap.lt_size (N q hq).1), hideAll_none _ (List.mem_map_of_mem hq)⟩) BG (X₀.keeps st) (T.keeps st) (fun q hq => Heap.lt_size (N q hq).1) kr (fun q hq => Heap.lt_size (NR q hq).1)) (fun fl s' hl => lv _ _ hl) fun _ _ y => y
end
theorem back_news {h₀ h h' : Heap} {L : Addr} {rest : List (Addr × Obj)} (N : News h₀ L h rest) (k : KeptIn rest h') : News h₀ L h' rest := fun q hq => ⟨k q hq, (N q hq).2⟩
theorem news_app {h₀ h : Heap} {L : Addr} {a b : List (Addr × Obj)} (N : News h₀ L h a) (N' : News h₀ L h b) : News h₀ L h (a ++ b) := fun q hq => (List.mem_append.mp hq).elim (N q) (N' q)
theorem wpAny_same {α : Type} {M : Model} {A : Around} {t : Sem α} {Q : α → Shared → Prop} {E : Value → Shared → Prop} {s : Shared} (h : wpAny M A t Q E s) : wpAny M A t Q E s := h
theorem news_tail {h₀ h : Heap} {L : Addr} {a : Addr × Obj} {b : List (Addr × Obj)} (N : News h₀ L h (a :: b)) : News h₀ L h b := fun p hp => N p (.tail _ hp)
theorem nil_dis {rest : List (Addr × Obj)} : ∀ q ∈ rest, q.1 ∉ ([] : List (Addr × Obj)).map (·.1) := fun _ _ h => nomatch h
theorem drop1 {h₀ h : Heap} {L : Addr} {a b : List (Addr × Obj)} (N : News h₀ L h (a ++ b)) : News h₀ L h b := fun p hp => N p (List.mem_append_right _ hp)
end Mine

/- part F1 -/
namespace Mine
theorem ktx_mem {env : Env} {L b : Addr} {outer : List Env} (hf : env.frame = some L) (hm : b ∈ (env :: outer).filterMap (·.frame)) : b = L ∨ b ∈ outer.filterMap (·.frame) := by
  obtain ⟨e, he, hf'⟩ := List.mem_filterMap.mp hm
  rcases List.mem_cons.mp he with rfl | he
  · exact .inl (Option.some.inj (hf'.symm.trans hf))
  · exact .inr (List.mem_filterMap.mpr ⟨e, he, hf'⟩)
section
variable {prog : Program} {w : World} {A₀ A : Around} {s : Shared} {base h₀ : Heap} {outer : List Env} {L : Addr} {m : Str → Option Value} {env : Env} {mine rest : List (Addr × Obj)} {K : Frag} {p : Program} {loose : List Str} {mean : ExcName → Option Value} {mg mb : Str → Option Value}
    {R : Result → Shared → Prop} {name qual : Str} {params : Arguments} {body : List Stmt} {scope : Scope} {dV kV doc pm cdv ct oc : Value} {an od : Option Addr} {osl : Array (Option Value)} {f : Addr} {args : Args} {binds : List (Str × Value)}
theorem ktx_enter (B : Below A₀ base outer h₀) (F : Fr h₀ L s.heap m) (N : News h₀ L s.heap mine) (hA : A.frames = some (env :: outer)) (hf : env.frame = some L) (hke : env.scope.kind = .function) :
    ∃ oL es ep, (hideAll s.heap (mine.map (·.1))).get? L = some oL ∧ oL.data = .dict es ep ∧ (∀ h', h'.get? L = some oL → Heap.Ns h' L m) ∧ (∀ (sl : Array (Option Value)) h', h'.get? L = some { oL with slots := sl } → Heap.Ns h' L m) ∧
      h₀.StaysIn (hideAll s.heap (mine.map (·.1))) ∧ Below A base (env :: outer) (hideAll s.heap (mine.map (·.1))) := by
  obtain ⟨FG, BG, st, _⟩ := groundX (R := fun _ _ => True) B F N hA hf hke
  obtain ⟨oL, es, ep, hL, hLd, hLk, hLf⟩ := FG.ns
  exact ⟨oL, es, ep, hL, hLd, fun h' e => ⟨oL, es, ep, e, hLd, hLk, hLf⟩, fun sl h' e => ⟨_, es, ep, e, hLd, hLk, hLf⟩, st, BG⟩
/-- what a caller gets back from a function that may have caught: the ground may have turned in the slots of the frames under it -/
theorem back_S {g : Heap} {v : Value} {s' : Shared} (B : Below A₀ base outer h₀) (F : Fr h₀ L s.heap m) (X₀ : K.In h₀) (N : News h₀ L s.heap mine) (NR : News h₀ L s.heap rest) (hdis : ∀ q ∈ rest, q.1 ∉ mine.map (·.1)) (XB : K.In base) (TB : Top p loose mean mg mb base) (D : KtsDicts (outer.filterMap (·.frame)) h₀)
    (hA : A.frames = some (env :: outer)) (hf : env.frame = some L) (hke : env.scope.kind = .function) (eg : g = hideAll s.heap (mine.map (·.1)))
    (hl : LeaveS ((env :: outer).filterMap (·.frame)) A₀ base outer K p loose mean mg mb h₀ h₀ L m g (WithRest rest R) v s') : R (.ok (.ret v)) s' := by
  subst eg
  obtain ⟨oL, es, ep, hLg, hLd, hN, hNs, st, B₂⟩ := ktx_enter B F N hA hf hke
  have kr : KeptIn rest (hideAll s.heap (mine.map (·.1))) := fun q hq => hideAll_get _ (NR q hq).1 (hdis q hq)
  have nL₀ : h₀.get? L = none := kts_self F
  have nf : ∀ q ∈ rest, q.1 ∉ (env :: outer).filterMap (·.frame) := fun q hq z => by
    rcases ktx_mem hf z with z | z
    · exact (NR q hq).2.1 z
    · obtain ⟨_, o, ho', _⟩ := B.frames.mem z
      rw [(NR q hq).2.2] at ho'
      cases ho'
  rcases hl with ⟨L', m', news', F', N', k⟩ | ⟨g', L', m', news', T', F', N', k⟩
  · refine k ⟨hN _ (F'.keep _ _ hLg), fun b o e => F'.keep b o (st b o e), F.above⟩ (fun q hq => ⟨(N' q hq).1, fun z => ?_, ?_⟩) (fun q hq => F'.keep _ _ (kr q hq))
    · have := (N' q hq).2.2; rw [z, hLg] at this; cases this
    · cases z : h₀.get? q.1 with
      | none => rfl
      | some o => have := (N' q hq).2.2; rw [st _ _ z] at this; cases this
  obtain ⟨sl, hs⟩ := T'.up hLg
  obtain ⟨T₁, S₁⟩ := kts_turn_at (h := s'.heap) (fs := outer.filterMap (·.frame)) (g := h₀)
    (fun b hb => by
      obtain ⟨_, o, ho', _⟩ := B.frames.mem hb
      exact ⟨o, ho'⟩)
    (fun b o e nmem => F'.keep b o (T'.other b o (st b o e) (fun q => by
      rcases ktx_mem hf q with z | z
      · rw [z, nL₀] at e
        cases e
      · exact nmem z)))
    (fun b o e hm => by
      obtain ⟨sl', hs'⟩ := T'.up (st b o e)
      exact ⟨sl', F'.keep _ _ hs'⟩)
  have B₃ : Below A₀ base outer (ktsHeap s'.heap (outer.filterMap (·.frame)) h₀) := ⟨B.stack, fun b o e => T₁.other b o (B.stays b o e) (fun hm => by
    rw [(B.frames.mem hm).1] at e
    cases e), B.frames.of_keeps fun b o e _ => by
    obtain ⟨sl', hs'⟩ := T₁.up e
    exact ⟨_, hs', rfl⟩⟩
  refine k _ T₁ ⟨hNs sl _ (F'.keep _ _ hs), S₁, by rw [T₁.size]; exact F.above⟩ (fun q hq => ⟨(N' q hq).1, fun z => ?_, ?_⟩) B₃ (XB.keeps B₃.stays) (TB.keeps B₃.stays) (D.turn T₁) (fun q hq => F'.keep _ _ (T'.other _ _ (kr q hq) (nf q hq)))
  · have := (N' q hq).2.2; rw [z, hs] at this; cases this
  · refine T₁.none_ _ ?_
    cases z : h₀.get? q.1 with
    | none => rfl
    | some o =>
      obtain ⟨sl', hs'⟩ := T'.up (st _ _ z)
      have := (N' q hq).2.2
      rw [hs'] at this
      cases this
theorem ground_S (B : Below A₀ base outer h₀) (F : Fr h₀ L s.heap m) (X₀ : K.In h₀) (N : News h₀ L s.heap mine) (T : Top p loose mean mg mb h₀) (D : KtsDicts (outer.filterMap (·.frame)) h₀)
    (hA : A.frames = some (env :: outer)) (hf : env.frame = some L) (hke : env.scope.kind = .function) :
    Fr h₀ L (hideAll s.heap (mine.map (·.1))) m ∧ Below A base (env :: outer) (hideAll s.heap (mine.map (·.1))) ∧ K.In (hideAll s.heap (mine.map (·.1))) ∧ Top p loose mean mg mb (hideAll s.heap (mine.map (·.1))) ∧ KtsDicts ((env :: outer).filterMap (·.frame)) (hideAll s.heap (mine.map (·.1))) := by
  obtain ⟨oL, es, ep, hLg, hLd, hN, hNs, st, B₂⟩ := ktx_enter B F N hA hf hke
  refine ⟨⟨hN _ hLg, st, F.above⟩, B₂, X₀.keeps st, T.keeps st, fun b hb => ?_⟩
  rcases ktx_mem hf hb with rfl | hb
  · exact ⟨oL, es, ep, hLg, hLd⟩
  · obtain ⟨o, es', n', ho', hd'⟩ := D b hb
    exact ⟨o, es', n', st b o ho', hd'⟩
/-- the frame rule for a function that may catch -/
theorem frame_S (B : Below A₀ base outer h₀) (F : Fr h₀ L s.heap m) (X₀ : K.In h₀) (N : News h₀ L s.heap mine) (NR : News h₀ L s.heap rest) (hdis : ∀ q ∈ rest, q.1 ∉ mine.map (·.1)) (T : Top p loose mean mg mb h₀) (XB : K.In base) (TB : Top p loose mean mg mb base) (D : KtsDicts (outer.filterMap (·.frame)) h₀)
    (hA : A.frames = some (env :: outer)) (hf : env.frame = some L) (hke : env.scope.kind = .function)
    (ho : K.lookup f = some ⟨oc, od, .func (fnOf name qual params body scope dV kV doc pm an cdv ct), osl⟩) (hcd : codeIn K cdv qual = true) (hroom : A.depth < recursionLimit)
    (hbind : BindsTo s (fnOf name qual params body scope dV kV doc pm an cdv ct) args binds) (hloc : ∀ y ∈ binds, scope.names.lookup y.1 = some .local)
    (h : ∀ g L' h₁, Fr h₀ L g m → Fr g L' h₁ (fun y => binds.reverse.lookup y) → News g L' h₁ mine → Below A base (env :: outer) g → K.In g → Top p loose mean mg mb g → KtsDicts ((env :: outer).filterMap (·.frame)) g → (∀ q ∈ mine, q.1 < L') →
      wpAny (model prog w) (A.deeper (envOf qual scope L' f cdv)) (execs body (envOf qual scope L' f cdv))
        (fun fl s' => LeaveS ((env :: outer).filterMap (·.frame)) A₀ base outer K p loose mean mg mb h₀ h₀ L m g (WithRest rest R) (match fl with | .ret v => v | _ => .none) s')
        (fun e s' => wpAny (model prog w) (A.deeper (envOf qual scope L' f cdv)) (leaving (envOf qual scope L' f cdv) e) (fun _ s'' => R (.error e) s'') (fun e' s'' => R (.error e') s'') s')
        { s with heap := h₁, toks := s.toks + binds.length })
    (hco : scope.isCoroutine = false) (hgen : scope.isGenerator = false) (hk : scope.kind = .function)
    (hcell : ∀ x ∈ scope.names, x.2 ≠ .cell) : codeAny (model prog w) A (.call (.ref f) args) R s := by
  have X := X₀.keeps F.keep
  obtain ⟨FG, BG, XG, TG, DG⟩ := ground_S B F X₀ N T D hA hf hke
  refine codeAny_call_def (fd := fnOf name qual params body scope dV kV doc pm an cdv ct) (body := body) (binds := binds) hroom (X _ _ ho) rfl (T.nolimit.keeps F.keep) (codeRec_of X hcd) rfl hbind hcell hloc (fun h₁ hns hk₁ => ?_) hco hgen hk
  exact wpAny_mono (h _ s.heap.objs.size h₁ FG ⟨hns, fun b o e => hk₁ b o (of_hideAll _ e), Nat.le_of_eq (hideAll_size _ _)⟩
    (fun q hq => ⟨hk₁ _ _ (N q hq).1, Nat.ne_of_lt (Heap.lt_size (N q hq).1), hideAll_none _ (List.mem_map_of_mem hq)⟩) BG XG TG DG (fun q hq => Heap.lt_size (N q hq).1))
    (fun fl s' hl => back_S B F X₀ N NR hdis XB TB D hA hf hke rfl hl) fun _ _ y => y
theorem frame_SC (B : Below A₀ base outer h₀) (F : Fr h₀ L s.heap m) (X₀ : K.In h₀) (N : News h₀ L s.heap mine) (NR : News h₀ L s.heap rest) (hdis : ∀ q ∈ rest, q.1 ∉ mine.map (·.1)) (T : Top p loose mean mg mb h₀) (XB : K.In base) (TB : Top p loose mean mg mb base) (D : KtsDicts (outer.filterMap (·.frame)) h₀)
    (hA : A.frames = some (env :: outer)) (hf : env.frame = some L) (hke : env.scope.kind = .function)
    (ho : K.lookup f = some ⟨oc, od, .func (fnOf name qual params body scope dV kV doc pm an cdv ct), osl⟩) (hcd : codeIn K cdv qual = true) (hroom : A.depth < recursionLimit)
    (hbind : BindsTo s (fnOf name qual params body scope dV kV doc pm an cdv ct) args binds) (hkind : (binds.all fun y => scope.names.lookup y.1 == some .local || scope.names.lookup y.1 == some .cell) = true)
    (hnd : ((cellsFrom 0 scope.names []).map (·.1)).Nodup)
    (h : ∀ g L' h₁ tk cells, Fr h₀ L g m → Fr g L' h₁ (bindL (envOfC qual scope L' f cdv).kindOf binds fun _ => none) → News g L' h₁ (cells ++ mine) →
      CellsAre (bindC (envOfC qual scope L' f cdv).kindOf binds fun _ => none) (cellsFrom (L' + 1) scope.names []) cells → Below A base (env :: outer) g → K.In g → Top p loose mean mg mb g → KtsDicts ((env :: outer).filterMap (·.frame)) g → (∀ q ∈ mine, q.1 < L') → (∀ q ∈ rest, q.1 < L') →
      wpAny (model prog w) (A.deeper (envOfC qual scope L' f cdv)) (execs body (envOfC qual scope L' f cdv))
        (fun fl s' => LeaveS ((env :: outer).filterMap (·.frame)) A₀ base outer K p loose mean mg mb h₀ h₀ L m g (WithRest rest R) (match fl with | .ret v => v | _ => .none) s')
        (fun e s' => wpAny (model prog w) (A.deeper (envOfC qual scope L' f cdv)) (leaving (envOfC qual scope L' f cdv) e) (fun _ s'' => R (.error e) s'') (fun e' s'' => R (.error e') s'') s')
        { s with heap := h₁, toks := tk })
    (hco : scope.isCoroutine = false) (hgen : scope.isGenerator = false) (hk : scope.kind = .function) : codeAny (model prog w) A (.call (.ref f) args) R s := by
  obtain ⟨FG, BG, XG, TG, DG⟩ := ground_S B F X₀ N T D hA hf hke
  refine codeAny_call_function hroom ((X₀.keeps F.keep) _ _ ho) rfl hco hgen rfl (codeRec_of (X₀.keeps F.keep) hcd) (hbind _ _ _ _ ?_)
  refine wpAny_newFunctionEnv_cells hk (kindsX hkind _) fun env' he s' x => ?_
  subst he
  refine ⟨(T.nolimit.keeps F.keep).keeps x.toInCall.keep, codeAny_func ?_⟩
  obtain ⟨h₁, tk, rfl, _⟩ := x.done
  have hk₁ := x.toInCall.keep
  obtain ⟨cells, NC, Y⟩ := Cl.news (h₀ := s.heap) (Nat.le_refl _) fun n c hm => ⟨x.cell n c (lookup_of_mem_nodup (cellsFrom_names scope.names 0 (s.heap.objs.size + 1) [] [] rfl ▸ hnd) hm), x.above n c hm⟩
  refine wpAny_mono (h _ s.heap.objs.size h₁ tk cells FG ⟨x.toInCall.ns, fun b o e => hk₁ b o (of_hideAll _ e), Nat.le_of_eq (hideAll_size _ _)⟩ (fun q hp => ?_) Y BG XG TG DG (fun q hp => Heap.lt_size (N q hp).1) (fun q hp => Heap.lt_size (NR q hp).1))
    (fun fl s' hl => back_S B F X₀ N NR hdis XB TB D hA hf hke rfl hl) fun _ _ y => y
  rcases List.mem_append.mp hp with hp | hp
  · refine ⟨(NC q hp).1, (NC q hp).2.1, ?_⟩
    cases e : (hideAll s.heap (mine.map (·.1))).get? q.1 with
    | none => rfl
    | some o => have := of_hideAll _ e; rw [(NC q hp).2.2] at this; cases this
  · exact ⟨hk₁ _ _ (N q hp).1, Nat.ne_of_lt (Heap.lt_size (N q hp).1), hideAll_none _ (List.mem_map_of_mem hp)⟩
end
theorem back_newsT {h₀ h₀' h h' : Heap} {L : Addr} {fs : List Addr} {rest : List (Addr × Obj)} (N : News h₀ L h rest) (T : KtsTurn fs h₀ h₀') (k : KeptIn rest h') : News h₀' L h' rest := fun q hq => ⟨k q hq, (N q hq).2.1, T.none_ _ (N q hq).2.2⟩
end Mine

/- part O1 -/
namespace Mine
def octL (n : Int) (k : Nat) : List UInt8 := (List.range k).map fun i => ((n / 256 ^ i) % 256).toNat.toUInt8
theorem octL_length (n : Int) (k : Nat) : (octL n k).length = k := by simp [octL]
theorem octets_of (n c : Int) : byteArr (List.map (fun k' : Int => (n / 256 ^ k'.toNat).fmod 256) (rangeKs 0 (c - 0).toNat)) = (octL n c.toNat).toArray := by
  unfold byteArr octL rangeKs
  rw [Int.sub_zero, List.map_map, List.map_map]
  congr 1
  apply List.map_congr_left
  intro i _
  simp only [Function.comp]
  rw [Int.fmod_eq_emod_of_nonneg _ (by decide)]
  rw [show (0 + (i : Int)).toNat = i by omega]
theorem noPylong_of_small {n : Int} (h0 : 0 ≤ n) (h1 : n < 2 ^ 62) (b : Int) : Builtin.divisionGoesByPylong n b = false := by
  have key : (if n == 0 then 0 else n.natAbs.log2 / 30 + 1) ≤ 3 := by
    by_cases hn : n = 0
    · simp [hn]
    · have : n.natAbs.log2 < 62 := (Nat.log2_lt (by omega)).mpr (by omega)
      rw [if_neg (by simpa using hn)]; omega
  show (decide ((if b == 0 then 0 else b.natAbs.log2 / 30 + 1) > 300) && decide ((if n == 0 then 0 else n.natAbs.log2 / 30 + 1) > (if b == 0 then 0 else b.natAbs.log2 / 30 + 1) + 150)) = false
  rw [show decide ((if n == 0 then 0 else n.natAbs.log2 / 30 + 1) > (if b == 0 then 0 else b.natAbs.log2 / 30 + 1) + 150) = false from decide_eq_false (by omega), Bool.and_false]
theorem fdiv_pow {prog : Program} {w : World} {A : Around} {E : Value → Shared → Prop} {s : Shared} {Q : Value → Shared → Prop} {n : Int} {t u : Tok} {b : Int} {j : Nat} (hb : 0 < b) (h0 : 0 ≤ n) (h1 : n < 2 ^ 62) (h : Q (.int (n / b ^ j) s.toks) { s with toks := s.toks + 1 }) :
    wpAny (model prog w) A (binaryOp .FloorDiv (.int n t) (.int (b ^ j) u)) Q E s := by
  have hp : (0 : Int) < b ^ j := Int.pow_pos hb
  refine floordiv_int (Int.ne_of_gt hp) ?_ (.inl (noPylong_of_small h0 h1 _))
  rw [Int.fdiv_eq_ediv_of_nonneg _ (Int.le_of_lt hp)]
  exact h
local macro_rules | `(tactic| walk_at "binaryOp FloorDiv int int") => `(tactic| (k_here; (with_reducible show wpAny _ _ (binaryOp Operator.FloorDiv (Value.int _ _) (Value.int (256 ^ _) _)) _ _ _); k_dflt (refine' fdiv_pow ?hb ?h0 ?h1 ?_; (case hb => decide); (case h0 => assumption); (case h1 => assumption); k_whole)))
theorem octets_at {w : World} {loose : List Str} {mean : ExcName → Option Value} {mg mb : Str → Option Value} (k : Nat) (n c : Int) (t1 t2 : Tok) (hc : c = (k : Int)) (h0 : 0 ≤ n) (h1 : n < 2 ^ 62) (c1 : c ≤ 8) :
  ∀ (dp un : Nat) (gd : Option (List Code)) (cn : Str) (cs : Scope) (a : Addr) (ccd : Value) (cl : List (Str × Addr)) (outer : List Env) (A₀ : Around) (base h₀ : Heap) (L : Addr) (m : Str → Option Value) (news : List (Addr × Obj)) (s : Shared)
    (Q E : Value → Shared → Prop),
    Below A₀ base outer h₀ → Fr h₀ L s.heap m → (hd.heap_39 w.params).In h₀ → News h₀ L s.heap news → Top topProg loose mean mg mb h₀ → cs.kind = .function → dp + 3 < recursionLimit → un + 20 < cLine →
    (∀ t h' tk', Fr h₀ L h' m → News h₀ L h' news → Q (.bytes (octL n k).toArray t) { s with heap := h', toks := tk' }) →
    wpAny (model pr w) (ktrTop dp un gd cn cs L a ccd cl outer) (call (.ref 116) [.int n t1, .int c t2]) Q E s := by
  w_top off
  intro dp un gd cn cs a ccd cl outer A₀ base h₀ L m news s Q E B F X N T hk hd hu hret
  have c0 : 0 ≤ c := by omega
  refine wpAny_call ?_
  refine' frame_cells B F X News.nil N nil_dis T rfl rfl hk ?k6 ?k7 ?k8 ?k9 ?kB ?kD ?_ ?c2 ?c3 ?c4
  (case k6 => k_dflt k_is); (case k7 => k_dflt k_is); (case k8 => ktr_room); (case k9 => k_dflt exact BindsTo.of_eq rfl); (case kB => exact rfl); (case kD => decide +kernel); (case c2 => exact rfl); (case c3 => exact rfl); (case c4 => exact rfl)
  intro g' L' h' tk' cells' FG' F' N' Y' B' X' T' l1 kr9 l9
  clear l1 kr9 l9
  have hY := CellsAre.one Y'
  obtain ⟨o', hE', d1⟩ := hY
  subst hE'
  have d1' : o'.data = .cell (some (.int n t1)) := d1
  clear d1 Y'
  simp only [List.cons_append, List.nil_append] at N'
  dsimp only
  refine wpAny_same ?_
  k_fold
  k_steps
  intro hR
  rw [octets_of, show c.toNat = k by omega]
  exact hret _ _ _ (by assumption) (back_news N hR)
end Mine

/- part C0 -/
namespace Mine
@[irreducible] def dg (n i : Int) : Int := n / 10 ^ i.toNat % 10
theorem dg_in (n i : Int) : 0 ≤ dg n i ∧ dg n i < 10 := by unfold dg; omega
theorem noI_bytes_add : typeLookup (.type "bytes") (dunderI "add") = pure none := by rw [typeLookup_type, builtinLookup_eq_fast]; kernel_rfl
def lenA (n : Int) : Int := dg n 0
def lenF (n : Int) : Int := dg n 1 % 5
def lenM (n : Int) : Int := dg n 2 % 7
@[irreducible] def toldV (n : Int) : Int := [dg n 0 + dg n 1 % 5, dg n 0 + dg n 1 % 5, dg n 0 + dg n 1 % 5, dg n 0 + dg n 1 % 5, dg n 1 % 5, dg n 1 % 5, dg n 1 % 5, dg n 0 + dg n 1 % 5 + dg n 2 % 7, dg n 0 + dg n 1 % 5 + dg n 2 % 7 + 1, 1099511627776].getD (dg n 3).toNat 0
@[irreducible] def sizeV (n : Int) : Int := [44 + dg n 2 % 7, 44, 45 + dg n 2 % 7, 300].getD (if 0 > dg n 4 - 6 then 0 else dg n 4 - 6).toNat 0
@[irreducible] def awayV (n : Int) : Int := [(0 : Int), 0, 0, 0, 0, 0, 0, 0, 65536, 1].getD (dg n 7).toNat 0
@[irreducible] def disksV (n : Int) : Int := [(0 : Int), 1, 1, 1, 1, 1, 0, 1, 2, 16777216].getD (dg n 8).toNat 0
theorem told_cases (n : Int) : toldV n = dg n 0 + dg n 1 % 5 ∨ toldV n = dg n 1 % 5 ∨ toldV n = dg n 0 + dg n 1 % 5 + dg n 2 % 7 ∨ toldV n = dg n 0 + dg n 1 % 5 + dg n 2 % 7 + 1 ∨ toldV n = 1099511627776 := by
  have h := dg_in n 3
  unfold toldV
  generalize hk : (dg n 3).toNat = k
  have : k < 10 := by omega
  rcases k with _ | _ | _ | _ | _ | _ | _ | _ | _ | _ | k <;> simp
  omega
theorem size_in (n : Int) : 0 ≤ sizeV n ∧ sizeV n ≤ 300 := by
  have h := dg_in n 4
  have h2 := dg_in n 2
  unfold sizeV
  generalize hk : (if 0 > dg n 4 - 6 then 0 else dg n 4 - 6).toNat = k
  have : k < 4 := by
    rw [← hk]; split <;> omega
  rcases k with _ | _ | _ | _ | k <;> simp <;> omega
theorem away_in (n : Int) : awayV n = 0 ∨ awayV n = 1 ∨ awayV n = 65536 := by
  have h := dg_in n 7
  unfold awayV
  generalize hk : (dg n 7).toNat = k
  have : k < 10 := by omega
  rcases k with _ | _ | _ | _ | _ | _ | _ | _ | _ | _ | k <;> simp
theorem disks_in (n : Int) : disksV n = 0 ∨ disksV n = 1 ∨ disksV n = 2 ∨ disksV n = 16777216 := by
  have h := dg_in n 8
  unfold disksV
  generalize hk : (dg n 8).toNat = k
  have : k < 10 := by omega
  rcases k with _ | _ | _ | _ | _ | _ | _ | _ | _ | _ | k <;> simp
theorem told_eq (n : Int) : [dg n 0 + dg n 1 % 5, dg n 0 + dg n 1 % 5, dg n 0 + dg n 1 % 5, dg n 0 + dg n 1 % 5, dg n 1 % 5, dg n 1 % 5, dg n 1 % 5, dg n 0 + dg n 1 % 5 + dg n 2 % 7, dg n 0 + dg n 1 % 5 + dg n 2 % 7 + 1, 1099511627776].getD (dg n 3).toNat 0 = toldV n := by unfold toldV; rfl
theorem size_eq (n : Int) : [44 + dg n 2 % 7, 44, 45 + dg n 2 % 7, 300].getD (if 0 > dg n 4 - 6 then 0 else dg n 4 - 6).toNat 0 = sizeV n := by unfold sizeV; rfl
theorem away_eq (n : Int) : [(0 : Int), 0, 0, 0, 0, 0, 0, 0, 65536, 1].getD (dg n 7).toNat 0 = awayV n := by unfold awayV; rfl
theorem disks_eq (n : Int) : [(0 : Int), 1, 1, 1, 1, 1, 0, 1, 2, 16777216].getD (dg n 8).toNat 0 = disksV n := by unfold disksV; rfl
theorem slot_bytes_join : Slot "bytes" "join" "bytes.join" :=
  .of (owner := "bytes") (n := "join") (by rw [typeLookup_type, builtinLookup_eq_fast]; kernel_rfl) (by decide +kernel) (by decide +kernel) (by decide +kernel)
    (by first | exact .inl (by decide +kernel) | exact .inr (by decide +kernel)) (by rw [isSubtype_type]; kernel_rfl)
theorem type_bytes_join : typeOf (.builtin "bytes.join") = pure (.type "method_descriptor") := by show builtinType _ = _; rw [builtinType_eq_fast]; kernel_rfl
theorem entry_bytes_join : entryFor table "bytes.join" = some Builtin.«bytes.join» := entryFor_of_tree (by kernel_rfl)
theorem args_bytes_join (a b : Value) : argsOk "bytes.join" ⟨[a, b], []⟩ := by
  unfold argsOk; rw [signature?_of (id := "bytes.join") (n := ['n', 'i', 'o', 'j']) (o := ['s', 'e', 't', 'y', 'b']) (by kernel_rfl) FB.owner_bytes]; kernel_rfl
theorem method_join {M : Model} {A : Around} {E : Value → Shared → Prop} {s : Shared} {b : Array UInt8} {t : Tok} {pl : Sem Bool} {Q : Value × List Value → Shared → Prop} (h : Q (.builtin "bytes.join", [.bytes b t]) s) : wpAny M A (getMethod (.bytes b t) "join" pl) Q E s := by
  with_reducible exact KBd.method_of (.bytes b t) (typeIs_bytes _ _ _) slot_bytes_join type_bytes_join KBd.noRef h
section
variable {prog : Program} {w : World} {A : Around} {E : Value → Shared → Prop} {s : Shared} {Q : Value → Shared → Prop} {n : Int} {t u : Tok} {h₀ : Heap} {L : Addr} {m : PySem.Str → Option Value} {news : List (Addr × Obj)} {value slice : PySem.Expr}
theorem fdiv_lit {b : Int} (hb : 0 < b) (h0 : 0 ≤ n) (h1 : n < 2 ^ 62) (h : Q (.int (n / b) s.toks) { s with toks := s.toks + 1 }) :
    wpAny (model prog w) A (binaryOp .FloorDiv (.int n t) (.int b u)) Q E s := by
  refine floordiv_int (Int.ne_of_gt hb) ?_ (.inl (noPylong_of_small h0 h1 _))
  rw [Int.fdiv_eq_ediv_of_nonneg _ (Int.le_of_lt hb)]
  exact h
theorem mod_lit {b : Int} (hb : 0 < b) (h : Q (.int (n % b) s.toks) { s with toks := s.toks + 1 }) :
    wpAny (model prog w) A (binaryOp .Mod (.int n t) (.int b u)) Q E s := by
  refine mod_int' (Int.ne_of_gt hb) ?_
  rw [Int.fmod_eq_emod_of_nonneg _ (Int.le_of_lt hb)]
  exact h
theorem digit_item {D : Addr} {ys : List Value} {i : Int} (hN : News h₀ L s.heap news) (hm : (D, LCg.lst ys) ∈ news) (hI : IntsAre ys (List.map (fun k' : Int => (n / 10 ^ k'.toNat).fmod 10) (rangeKs 0 (12 - 0 : Int).toNat))) (hi0 : 0 ≤ i) (hi : i < 12)
    (h : ∀ t, Q (.int (dg n i) t) s)
    (hs : subscripted slice false (.ref D) (.int i u) = operate [.ref D, .int i u] (getItem (.ref D) (.int i u)) := by with_unfolding_all rfl) :
    wpAny (model prog w) A (subscriptTail value slice (.ref D) (.int i u)) Q E s := by
  have hl : s.heap.IsList D ys.toArray := ⟨_, (hN _ hm).1, rfl, _, rfl⟩
  have hlen := hI.length
  rw [List.length_map, rangeKs_length] at hlen
  obtain ⟨t, hx⟩ := hI.get (i := i.toNat) (n := dg n i) (by
    unfold dg
    simp only [List.getElem?_map, rangeKs, List.getElem?_range (show i.toNat < (12 - 0 : Int).toNat by omega), Option.map_some]
    rw [Int.fmod_eq_emod_of_nonneg _ (by decide), show (0 + (i.toNat : Int)).toNat = i.toNat by omega])
  exact tail_any hl.typeIs slot_list_getitem.lookup (wpAny_getItem_list hl hi0 (by omega) (by simpa using hx) (h t)) hs
theorem list_item {D : Addr} {vs : List Value} {ns : List Int} {i v : Int} (hl : s.heap.IsList D vs.toArray) (hI : IntsAre vs ns) (hi0 : 0 ≤ i) (hi : i < 64) (hx : ns[i.toNat]? = some v)
    (h : ∀ t, Q (.int v t) s)
    (hs : subscripted slice false (.ref D) (.int i u) = operate [.ref D, .int i u] (getItem (.ref D) (.int i u)) := by with_unfolding_all rfl) :
    wpAny (model prog w) A (subscriptTail value slice (.ref D) (.int i u)) Q E s := by
  obtain ⟨t, hx⟩ := hI.get _ _ hx
  exact tail_any hl.typeIs slot_list_getitem.lookup (wpAny_getItem_list hl hi0 (by omega) (by simpa using hx) (h t)) hs
theorem slice_take {l : List UInt8} {k : Int} (hF : Fr h₀ L s.heap m) (hN : News h₀ L s.heap news) (h0 : 0 ≤ k) (hz : l.length ≤ 16777216)
    (h : ∀ h' t' k', Fr h₀ L h' m → News h₀ L h' news → Q (.bytes (l.take k.toNat).toArray t') { s with heap := h', toks := k' })
    (hs : subscripted slice false (.bytes l.toArray t) (.ref s.heap.objs.size) = operate [.ref s.heap.objs.size, .bytes l.toArray t] (getItem (.bytes l.toArray t) (.ref s.heap.objs.size)) := by with_unfolding_all rfl)
    (ht : ∀ r, letTemporaryGo value (.bytes l.toArray t) r = pure () := by intro _; with_unfolding_all rfl) :
    wpAny (model prog w) A (subscriptTail value slice (.bytes l.toArray t) (.ref s.heap.objs.size)) Q E { s with heap := s.heap.push { cls := .type "slice", data := .fields #[.none, .int k u, .none] } } := by
  refine KBc.slice_K (lo := none) (hi := some k) hF hN rfl .none (.int k u) (by rw [KBw.ints_length]; simpa using hz) (fun h' t' k' F N _ => ?_) hs ht
  have e : KBy.picked l.toArray none (some k) = (l.take k.toNat).toArray := by
    rw [KBc.picked_eq]
    obtain ⟨j, rfl⟩ : ∃ j : Nat, k = j := ⟨k.toNat, by omega⟩
    simp only [Option.elim, clipAt_nat, List.drop_zero, Nat.sub_zero, Int.toNat_natCast, List.size_toArray]
    congr 1
    rw [List.take_eq_take_iff]
    omega
  rw [e]
  exact h h' t' k' F N
theorem pow_lit {a b c : Int} (hn : 0 ≤ b) (hn2 : b ≤ 1000000) (ha : a.natAbs < 2 ^ 64) (e : a ^ b.toNat = c) (h : Q (.int c s.toks) { s with toks := s.toks + 1 }) : wpAny (model prog w) A (binaryOp .Pow (.int a t) (.int b u)) Q E s :=
  pow_int_small hn hn2 ha (by rw [e]; exact h)
theorem menu_item {l : Addr} {vs : List Value} {ns : List Int} {k v : Int} (ht : IsTup s.heap l vs.toArray) (hi : IntsAre vs ns)
    (h0 : 0 ≤ k) (h1 : k < ns.length) (hfit : k < 2 ^ 63) (e : ns.getD k.toNat 0 = v) (h : ∀ t, Q (.int v t) s)
    (hs : subscripted slice false (.ref l) (.int k u) = operate [.ref l, .int k u] (getItem (.ref l) (.int k u)) := by with_unfolding_all rfl) :
    wpAny (model prog w) A (subscriptTail value slice (.ref l) (.int k u)) Q E s := item_anyT ht hi h0 h1 hfit (by rw [e]; exact h) hs
theorem len_take {l : List UInt8} {k : Int} (h0 : 0 ≤ k) (h1 : k ≤ l.length) (hsz : l.length ≤ 16777216) (h : ∀ t' k', Q (.int k t') { s with toks := k' }) : wpAny (model prog w) A (call (.builtin "len") [.bytes (l.take k.toNat).toArray t]) Q E s :=
  len_bytes (by simp; omega) (by
    have e : (((l.take k.toNat).toArray : Array UInt8).size : Int) = k := by simp; omega
    rw [e]; exact h _ _)
structure NMark (n : Int) : Prop where
@[irreducible] def OneI (s : Shared) (i : Int) (v : Value) (s' : Shared) : Prop := ∃ t tk', v = .int i t ∧ s' = { s with toks := tk' }
@[irreducible] def OneB (s : Shared) (l : List UInt8) (v : Value) (s' : Shared) : Prop := ∃ t tk', v = .bytes l.toArray t ∧ s' = { s with toks := tk' }
theorem OneI.intro {i j : Int} {tk : Nat} (e : i = j) : OneI s j (.int i t) { s with toks := tk } := by unfold OneI; exact ⟨t, tk, by rw [e], rfl⟩
theorem OneB.intro {i j : List UInt8} {tk : Nat} (e : i = j) : OneB s j (.bytes i.toArray t) { s with toks := tk } := by unfold OneB; exact ⟨t, tk, by rw [e], rfl⟩
theorem cut_I {M : Model} {tr : Sem Value} {i : Int} (h1 : wpAny M A tr (OneI s i) E s) (h : ∀ t tk, Q (.int i t) { s with toks := tk }) : wpAny M A tr Q E s :=
  wpAny_mono h1 (fun v s' hv => by unfold OneI at hv; obtain ⟨t, tk, rfl, rfl⟩ := hv; exact h t tk) fun _ _ x => x
theorem cut_B {M : Model} {tr : Sem Value} {l : List UInt8} (h1 : wpAny M A tr (OneB s l) E s) (h : ∀ t tk, Q (.bytes l.toArray t) { s with toks := tk }) : wpAny M A tr Q E s :=
  wpAny_mono h1 (fun v s' hv => by unfold OneB at hv; obtain ⟨t, tk, rfl, rfl⟩ := hv; exact h t tk) fun _ _ x => x
@[irreducible] def slipV (n : Int) : Int := if dg n 5 = 9 then 1 else 0
@[irreducible] def sig1 (n : Int) : List UInt8 := if dg n 6 = 9 then [80, 75, 6, 8] else [80, 75, 6, 6]
@[irreducible] def sig2 (n : Int) : List UInt8 := if dg n 9 = 9 then [80, 75, 6, 8] else [80, 75, 6, 7]
theorem slip_in (n : Int) : slipV n = 0 ∨ slipV n = 1 := by unfold slipV; split <;> simp
theorem sig1_length (n : Int) : (sig1 n).length = 4 := by unfold sig1; split <;> rfl
theorem sig2_length (n : Int) : (sig2 n).length = 4 := by unfold sig2; split <;> rfl
theorem slip_cut {M : Model} {test body orelse : PySem.Expr} {pos : Pos} {env : Env} (_ : NMark n) (h1 : wpAny M A (isTrue test env (eval test env)) (fun c s₂ => if c then wpAny M A (eval body env) (OneI s (slipV n)) E s₂ else wpAny M A (eval orelse env) (OneI s (slipV n)) E s₂) E s)
    (h : ∀ t tk, Q (.int (slipV n) t) { s with toks := tk }) : wpAny M A (eval (.IfExp test body orelse pos) env) Q E s := cut_I (IfExp_ h1) h
theorem sig1_cut {M : Model} {test body orelse : PySem.Expr} {pos : Pos} {env : Env} (_ : NMark n) (h1 : wpAny M A (isTrue test env (eval test env)) (fun c s₂ => if c then wpAny M A (eval body env) (OneB s (sig1 n)) E s₂ else wpAny M A (eval orelse env) (OneB s (sig1 n)) E s₂) E s)
    (h : ∀ t tk, Q (.bytes (sig1 n).toArray t) { s with toks := tk }) : wpAny M A (eval (.IfExp test body orelse pos) env) Q E s := cut_B (IfExp_ h1) h
theorem sig2_cut {M : Model} {test body orelse : PySem.Expr} {pos : Pos} {env : Env} (_ : NMark n) (h1 : wpAny M A (isTrue test env (eval test env)) (fun c s₂ => if c then wpAny M A (eval body env) (OneB s (sig2 n)) E s₂ else wpAny M A (eval orelse env) (OneB s (sig2 n)) E s₂) E s)
    (h : ∀ t tk, Q (.bytes (sig2 n).toArray t) { s with toks := tk }) : wpAny M A (eval (.IfExp test body orelse pos) env) Q E s := cut_B (IfExp_ h1) h
theorem add_L {l r : List UInt8} (hsz : l.length + r.length ≤ 16777216) (h : ∀ t' k, Q (.bytes (l ++ r).toArray t') { s with toks := k }) : wpAny (model prog w) A (binaryOp .Add (.bytes l.toArray t) (.bytes r.toArray u)) Q E s :=
  KBy.add_bytes (by simpa using hsz) fun t' k => by rw [List.append_toArray]; exact h t' k
theorem iadd_L {l r : List UInt8} (hsz : l.length + r.length ≤ 16777216) (h : ∀ t' k, Q (.bytes (l ++ r).toArray t') { s with toks := k }) : wpAny (model prog w) A (inplaceOp .Add (.bytes l.toArray t) (.bytes r.toArray u)) Q E s := by
  have hsz' : (l.toArray : Array UInt8).size + (r.toArray : Array UInt8).size ≤ 16777216 := by simpa using hsz
  have h' : ∀ t' k, Q (.bytes (l.toArray ++ r.toArray) t') { s with toks := k } := fun t' k => by rw [List.append_toArray]; exact h t' k
  generalize (l.toArray : Array UInt8) = b at *
  generalize (r.toArray : Array UInt8) = c at *
  refine iconcat_gives (typeIs_bytes s b t) (typeIs_bytes s c u) noI_bytes_add KBy.noFill_bytes_add KBy.seq_bytes_add FB.slot_bytes_add FB.entry_bytes_add (FB.args_bytes_add_2 _ _) (KBy.gives_bytes_add (KBy.tooLong_not hsz')) ?_
  by_cases hb : b.isEmpty = true
  · rw [if_pos hb]
    have e : b = #[] := Array.isEmpty_iff.1 hb
    have h' := h' u s.toks
    rw [e, Array.empty_append] at h'
    exact h'
  · rw [if_neg hb]
    by_cases hc : c.isEmpty = true
    · rw [if_pos hc]
      have e : c = #[] := Array.isEmpty_iff.1 hc
      have h' := h' t s.toks
      rw [e, Array.append_empty] at h'
      exact h'
    · rw [if_neg hc]
      exact ⟨by rw [Array.size_append, sizeLine_eq]; exact hsz', h' s.toks (s.toks + 1)⟩
theorem len_L {l : List UInt8} (hsz : l.length ≤ 16777216) (h : ∀ t' k, Q (.int l.length t') { s with toks := k }) : wpAny (model prog w) A (call (.builtin "len") [.bytes l.toArray t]) Q E s :=
  len_bytes (by simp; omega) (by simpa using h _ _)
end
def word1 : Str := Str.ofString "zipfiles that span multiple disks are not supported"
def word2 : Str := Str.ofString "Corrupt zip64 end of central directory locator"
def word3 : Str := Str.ofString "Zip64 end of central directory record not found"
def word4 : Str := Str.ofString "Corrupt zip64 end of central directory record"
@[irreducible] def wordsV (n : Int) : Str :=
  if awayV n ≠ 0 ∨ disksV n > 1 then Str.ofString "zipfiles that span multiple disks are not supported"
  else if toldV n > dg n 0 + dg n 1 % 5 + dg n 2 % 7 then Str.ofString "Corrupt zip64 end of central directory locator"
  else if dg n 6 = 9 ∨ (dg n 0 + dg n 1 % 5 ≠ toldV n ∧ dg n 0 + dg n 1 % 5 ≠ dg n 0 + dg n 1 % 5 + dg n 2 % 7) then Str.ofString "Zip64 end of central directory record not found"
  else if slipV n ≠ 0 ∨ sizeV n ≠ 44 + dg n 2 % 7 then Str.ofString "Corrupt zip64 end of central directory record"
  else Str.ofString ""
section
variable {n : Int}
theorem words_a (h : awayV n ≠ 0) : wordsV n = Str.ofString "zipfiles that span multiple disks are not supported" := by
  unfold wordsV; rw [if_pos (Or.inl h)]
theorem words_b (_ : awayV n = 0) (h : 1 < disksV n) : wordsV n = Str.ofString "zipfiles that span multiple disks are not supported" := by
  unfold wordsV; rw [if_pos (Or.inr h)]
theorem words_0 (h0 : awayV n = 0) (h1 : ¬ 1 < disksV n) : ¬ (awayV n ≠ 0 ∨ disksV n > 1) := by omega
theorem words_c (h0 : awayV n = 0) (h1 : ¬ 1 < disksV n) (h : dg n 0 + dg n 1 % 5 + dg n 2 % 7 < toldV n) : wordsV n = Str.ofString "Corrupt zip64 end of central directory locator" := by
  unfold wordsV; rw [if_neg (words_0 h0 h1), if_pos h]
theorem words_d (h0 : awayV n = 0) (h1 : ¬ 1 < disksV n) (h2 : ¬ dg n 0 + dg n 1 % 5 + dg n 2 % 7 < toldV n) (h : dg n 6 = 9) : wordsV n = Str.ofString "Zip64 end of central directory record not found" := by
  unfold wordsV; rw [if_neg (words_0 h0 h1), if_neg h2, if_pos (Or.inl h)]
theorem any_iff : ([toldV n, dg n 0 + dg n 1 % 5 + dg n 2 % 7].any fun x => x == dg n 0 + dg n 1 % 5) = true ↔ ¬ (dg n 0 + dg n 1 % 5 ≠ toldV n ∧ dg n 0 + dg n 1 % 5 ≠ dg n 0 + dg n 1 % 5 + dg n 2 % 7) := by
  simp only [List.any_cons, List.any_nil, Bool.or_false, Bool.or_eq_true, beq_iff_eq]
  omega
theorem words_e (h0 : awayV n = 0) (h1 : ¬ 1 < disksV n) (h2 : ¬ dg n 0 + dg n 1 % 5 + dg n 2 % 7 < toldV n) (_ : dg n 6 ≠ 9) (h : ¬ ([toldV n, dg n 0 + dg n 1 % 5 + dg n 2 % 7].any fun x => x == dg n 0 + dg n 1 % 5) = true) : wordsV n = Str.ofString "Zip64 end of central directory record not found" := by
  unfold wordsV; rw [if_neg (words_0 h0 h1), if_neg h2, if_pos (Or.inr (Classical.not_not.mp (fun q => h (any_iff.mpr q))))]
theorem words_i (h0 : awayV n = 0) (h1 : ¬ 1 < disksV n) (h2 : ¬ dg n 0 + dg n 1 % 5 + dg n 2 % 7 < toldV n) (h3 : dg n 6 ≠ 9) (h : ([toldV n, dg n 0 + dg n 1 % 5 + dg n 2 % 7].any fun x => x == dg n 0 + dg n 1 % 5) = false) : wordsV n = Str.ofString "Zip64 end of central directory record not found" :=
  words_e h0 h1 h2 h3 (by rw [h]; exact Bool.false_ne_true)
theorem words_f (h0 : awayV n = 0) (h1 : ¬ 1 < disksV n) (h2 : ¬ dg n 0 + dg n 1 % 5 + dg n 2 % 7 < toldV n) (h3 : dg n 6 ≠ 9) (h4 : ([toldV n, dg n 0 + dg n 1 % 5 + dg n 2 % 7].any fun x => x == dg n 0 + dg n 1 % 5) = true) (h : slipV n ≠ 0) : wordsV n = Str.ofString "Corrupt zip64 end of central directory record" := by
  unfold wordsV; rw [if_neg (words_0 h0 h1), if_neg h2, if_neg (fun q => q.elim h3 (any_iff.mp h4)), if_pos (Or.inl h)]
theorem words_g (h0 : awayV n = 0) (h1 : ¬ 1 < disksV n) (h2 : ¬ dg n 0 + dg n 1 % 5 + dg n 2 % 7 < toldV n) (h3 : dg n 6 ≠ 9) (h4 : ([toldV n, dg n 0 + dg n 1 % 5 + dg n 2 % 7].any fun x => x == dg n 0 + dg n 1 % 5) = true) (_ : slipV n = 0) (h : sizeV n ≠ 44 + dg n 2 % 7) : wordsV n = Str.ofString "Corrupt zip64 end of central directory record" := by
  unfold wordsV; rw [if_neg (words_0 h0 h1), if_neg h2, if_neg (fun q => q.elim h3 (any_iff.mp h4)), if_pos (Or.inr h)]
theorem words_h (h0 : awayV n = 0) (h1 : ¬ 1 < disksV n) (h2 : ¬ dg n 0 + dg n 1 % 5 + dg n 2 % 7 < toldV n) (h3 : dg n 6 ≠ 9) (h4 : ([toldV n, dg n 0 + dg n 1 % 5 + dg n 2 % 7].any fun x => x == dg n 0 + dg n 1 % 5) = true) (h5 : slipV n = 0) (h : sizeV n = 44 + dg n 2 % 7) : wordsV n = Str.ofString "" := by
  unfold wordsV; rw [if_neg (words_0 h0 h1), if_neg h2, if_neg (fun q => q.elim h3 (any_iff.mp h4)), if_neg (fun q => q.elim (fun z => z h5) (fun z => z h))]
end
@[irreducible] def spotV (n : Int) : Int := if dg n 9 = 9 then -1 else dg n 0 + dg n 1 % 5 + dg n 2 % 7 + 76
theorem spot_cut {M : Model} {A : Around} {E : Value → Shared → Prop} {s : Shared} {Q : Value → Shared → Prop} {n : Int} {test body orelse : PySem.Expr} {pos : Pos} {env : Env} (_ : NMark n) (h1 : wpAny M A (isTrue test env (eval test env)) (fun c s₂ => if c then wpAny M A (eval body env) (OneI s (spotV n)) E s₂ else wpAny M A (eval orelse env) (OneI s (spotV n)) E s₂) E s)
    (h : ∀ t tk, Q (.int (spotV n) t) { s with toks := tk }) : wpAny M A (eval (.IfExp test body orelse pos) env) Q E s := cut_I (IfExp_ h1) h
@[irreducible] def WordsEnd (g : Heap) (L : Addr) (m : Str → Option Value) (news : List (Addr × Obj)) (s : Shared) (n : Int) (fl : Flow) (s' : Shared) : Prop :=
  fl = .next ∧ ∃ t h' tk', s' = { s with heap := h', toks := tk' } ∧ Fr g L h' (fun y => if y = Str.ofString "words" then some (.str (wordsV n) t) else m y) ∧ News g L h' news
theorem WordsEnd.intro {g h' : Heap} {L : Addr} {m : Str → Option Value} {news : List (Addr × Obj)} {s : Shared} {n : Int} {tk : Nat} {t : Tok} {x : Str} (F : Fr g L h' (fun y => if y = Str.ofString "words" then some (.str x t) else m y)) (N : News g L h' news) (e : wordsV n = x) :
    WordsEnd g L m news s n .next { s with heap := h', toks := tk } := by
  unfold WordsEnd
  exact ⟨rfl, t, h', tk, rfl, by rw [e]; exact F, N⟩
theorem WordsEnd.same {g h' : Heap} {L : Addr} {m : Str → Option Value} {news : List (Addr × Obj)} {s : Shared} {n : Int} {tk : Nat} {t : Tok} {x : Str} (F : Fr g L h' (fun y => if y = Str.ofString "words" then some (.str x t) else m y)) (N : News g L h' news) (e : wordsV n = x) :
    WordsEnd g L (fun y => if y = Str.ofString "words" then some (.str x t) else m y) news s n .next { s with heap := h', toks := tk } := by
  unfold WordsEnd
  refine ⟨rfl, t, h', tk, rfl, ?_, N⟩
  have em : (fun y => if y = Str.ofString "words" then some (Value.str (wordsV n) t) else (fun y => if y = Str.ofString "words" then some (.str x t) else m y) y) = (fun y => if y = Str.ofString "words" then some (.str x t) else m y) := by
    funext y
    by_cases h : y = Str.ofString "words"
    · simp only [if_pos h, e]
    · simp only [if_neg h]
  rw [em]; exact F
theorem words_cut {M : Model} {A : Around} {E : Value → Shared → Prop} {s : Shared} {Q : Flow → Shared → Prop} {n : Int} {g : Heap} {L : Addr} {m : Str → Option Value} {news : List (Addr × Obj)} {test : PySem.Expr} {body orelse : List Stmt} {pos : Pos} {env : Env} (_ : NMark n) (_F : Fr g L s.heap m) (_N : News g L s.heap news)
    (h1 : wpAny M A (isTrue test env (eval test env)) (fun b s₂ => if b then wpAny M A (execs body env) (WordsEnd g L m news s n) E s₂ else wpAny M A (execs orelse env) (WordsEnd g L m news s n) E s₂) E s)
    (h : ∀ t h' tk, Fr g L h' (fun y => if y = Str.ofString "words" then some (.str (wordsV n) t) else m y) → News g L h' news → Q .next { s with heap := h', toks := tk }) : wpAny M A (exec (.If test body orelse pos) env) Q E s :=
  wpAny_mono (wpAny_If h1) (fun v s' hv => by unfold WordsEnd at hv; obtain ⟨rfl, t, h', tk, rfl, F, N⟩ := hv; exact h t h' tk F N) fun _ _ x => x
@[irreducible] def caseL (n : Int) : List UInt8 := List.take (dg n 0).toNat [97, 98, 99, 100, 101, 102, 103, 104, 105] ++ List.take (dg n 1 % 5).toNat [100, 105, 114, 115] ++ sig1 n ++ (octL (sizeV n) 8 ++ octL (45 * 65537) 4) ++
  (octL (n % 65536) 4 ++ octL (n / 3 % 65536) 4) ++ (octL (n / 5 % 65536 + n / 7 % 65536 * 4294967296) 8 ++ octL (n / 11 % 65536) 8 ++ octL (dg n 1 % 5) 8 ++ octL (toldV n - dg n 1 % 5 + slipV n) 8 ++ List.take (dg n 2 % 7).toNat [101, 120, 116, 114, 97, 115]) ++
  (sig2 n ++ octL (awayV n) 4) ++ (octL (toldV n) 8 ++ octL (disksV n) 4 ++ List.take (dg n 10 % 7).toNat [98, 101, 104, 105, 110, 100])
abbrev caseTup (n : Int) (Li : Addr) (a1 a2 a3 a5 : Tok) : Obj := { cls := .type "tuple", data := .seq #[Value.bytes (caseL n).toArray a1, Value.int (spotV n) a2, Value.str (wordsV n) a3, Value.ref Li, Value.int (dg n 0 + dg n 1 % 5) a5] }
abbrev caseLst (n : Int) (b0 b1 b2 b3 b4 b5 b6 : Tok) (e : Nat) : Obj := W.listOf #[Value.bytes #[80, 75, 6, 6] b0, Value.int (n % 65536) b1, Value.int (n / 3 % 65536) b2, Value.int (n / 5 % 65536 + n / 7 % 65536 * 4294967296) b3, Value.int (n / 11 % 65536) b4, Value.int (dg n 1 % 5) b5, Value.int (toldV n - dg n 1 % 5 + slipV n) b6] e
theorem caseL_eq (n : Int) : List.take (dg n 0).toNat [97, 98, 99, 100, 101, 102, 103, 104, 105] ++ List.take (dg n 1 % 5).toNat [100, 105, 114, 115] ++ sig1 n ++ (octL (sizeV n) 8 ++ octL (45 * 65537) 4) ++
  (octL (n % 65536) 4 ++ octL (n / 3 % 65536) 4) ++ (octL (n / 5 % 65536 + n / 7 % 65536 * 4294967296) 8 ++ octL (n / 11 % 65536) 8 ++ octL (dg n 1 % 5) 8 ++ octL (toldV n - dg n 1 % 5 + slipV n) 8 ++ List.take (dg n 2 % 7).toNat [101, 120, 116, 114, 97, 115]) ++
  (sig2 n ++ octL (awayV n) 4) ++ (octL (toldV n) 8 ++ octL (disksV n) 4 ++ List.take (dg n 10 % 7).toNat [98, 101, 104, 105, 110, 100]) = caseL n := by unfold caseL; rfl
theorem case_back {h₀ h' : Heap} {L : Addr} {news : List (Addr × Obj)} {n : Int} {T Li : Addr} {a1 a2 a3 a5 b0 b1 b2 b3 b4 b5 b6 : Tok} {e : Nat} {l : List UInt8} {more : List (Addr × Obj)}
    (N : News h₀ L h' ((T, ({ cls := .type "tuple", data := .seq #[Value.bytes l.toArray a1, Value.int (spotV n) a2, Value.str (wordsV n) a3, Value.ref Li, Value.int (dg n 0 + dg n 1 % 5) a5] } : Obj)) ::
      (Li, W.listOf #[Value.bytes #[80, 75, 6, 6] b0, Value.int (n % 65536) b1, Value.int (n / 3 % 65536) b2, Value.int (n / 5 % 65536 + n / 7 % 65536 * 4294967296) b3, Value.int (n / 11 % 65536) b4, Value.int (dg n 1 % 5) b5, Value.int (toldV n - dg n 1 % 5 + slipV n) b6] e) :: more))
    (el : l = caseL n) (N' : News h₀ L h' news) : News h₀ L h' ((T, caseTup n Li a1 a2 a3 a5) :: (Li, caseLst n b0 b1 b2 b3 b4 b5 b6 e) :: news) := fun q hq => by
  subst el
  rcases List.mem_cons.mp hq with rfl | hq
  · exact N _ (.head _)
  · rcases List.mem_cons.mp hq with rfl | hq
    · exact N _ (.tail _ (.head _))
    · exact N' q hq
theorem sz_app {l r : List UInt8} {a b : Nat} (h1 : l.length ≤ a) (h2 : r.length ≤ b) : (l ++ r).length ≤ a + b := by
  rw [List.length_append]; exact Nat.add_le_add h1 h2
theorem sz_sum {l r : List UInt8} {c : Nat} (h : (l ++ r).length ≤ c) (hc : c ≤ 16777216) : l.length + r.length ≤ 16777216 := by
  rw [List.length_append] at h; exact Nat.le_trans h hc
theorem sz_oct (n : Int) (k : Nat) : (octL n k).length ≤ k := Nat.le_of_eq (octL_length n k)
theorem sz_take (k : Nat) (l : List UInt8) : (List.take k l).length ≤ l.length := by
  rw [List.length_take]; exact Nat.min_le_right _ _
theorem sz_s1 (n : Int) : (sig1 n).length ≤ 4 := Nat.le_of_eq (sig1_length n)
theorem sz_s2 (n : Int) : (sig2 n).length ≤ 4 := Nat.le_of_eq (sig2_length n)
theorem in_0 (n : Int) : 0 ≤ n % 65536 ∧ n % 65536 < 2 ^ 62 := by omega
theorem in_2 (n m : Int) : 0 ≤ n % 65536 + m % 65536 * 4294967296 ∧ n % 65536 + m % 65536 * 4294967296 < 2 ^ 62 := by omega
theorem in_4 (n : Int) : 0 ≤ n % 5 ∧ n % 5 < 2 ^ 62 := by omega
theorem in_told (n : Int) : 0 ≤ toldV n ∧ toldV n < 2 ^ 61 := by
  have h0 := dg_in n 0
  rcases told_cases n with e | e | e | e | e <;> omega
theorem in_place (n : Int) : 0 ≤ toldV n - dg n 1 % 5 + slipV n ∧ toldV n - dg n 1 % 5 + slipV n < 2 ^ 62 := by
  have h0 := dg_in n 0
  have h1 : dg n 1 % 5 ≤ toldV n := by rcases told_cases n with e | e | e | e | e <;> omega
  have h2 := in_told n
  have h3 : 0 ≤ slipV n ∧ slipV n ≤ 1 := by rcases slip_in n with e | e <;> omega
  generalize toldV n = a at *
  generalize slipV n = b at *
  clear h0
  omega
theorem in_size (n : Int) : 0 ≤ sizeV n ∧ sizeV n < 2 ^ 62 := by have := size_in n; omega
theorem in_away (n : Int) : 0 ≤ awayV n ∧ awayV n < 2 ^ 62 := by rcases away_in n with e | e | e <;> omega
theorem in_disks (n : Int) : 0 ≤ disksV n ∧ disksV n < 2 ^ 62 := by rcases disks_in n with e | e | e | e <;> omega
theorem hc_8 : (8 : Int) = ((8 : Nat) : Int) := rfl
theorem hc_4 : (4 : Int) = ((4 : Nat) : Int) := rfl
theorem pow_40 {prog : Program} {w : World} {A : Around} {E : Value → Shared → Prop} {s : Shared} {Q : Value → Shared → Prop} {t u : Tok} (h : Q (.int 1099511627776 s.toks) { s with toks := s.toks + 1 }) : wpAny (model prog w) A (binaryOp .Pow (.int 2 t) (.int 40 u)) Q E s :=
  pow_lit (c := 1099511627776) (by decide) (by decide) (by decide) (by decide) h
theorem pow_24 {prog : Program} {w : World} {A : Around} {E : Value → Shared → Prop} {s : Shared} {Q : Value → Shared → Prop} {t u : Tok} (h : Q (.int 16777216 s.toks) { s with toks := s.toks + 1 }) : wpAny (model prog w) A (binaryOp .Pow (.int 2 t) (.int 24 u)) Q E s :=
  pow_lit (c := 16777216) (by decide) (by decide) (by decide) (by decide) h
theorem pow_32 {prog : Program} {w : World} {A : Around} {E : Value → Shared → Prop} {s : Shared} {Q : Value → Shared → Prop} {t u : Tok} (h : Q (.int 4294967296 s.toks) { s with toks := s.toks + 1 }) : wpAny (model prog w) A (binaryOp .Pow (.int 2 t) (.int 32 u)) Q E s :=
  pow_lit (c := 4294967296) (by decide) (by decide) (by decide) (by decide) h
end Mine

/- part J0 -/
section
open PySem.Builtin PySem.Builtin.Bytes
namespace Mine
theorem take_eq {id : String} {b : Array UInt8} {t : Tok} : takeBufferQuiet? id (.bytes b t) 0 = pure (some (b, none)) := by
  unfold takeBufferQuiet? takeBuffer?
  rw [KBy.special_eq KBy.look_buffer, KBy.own_buffer]
  have e : buffer? id (.bytes b t) (full := ((0 : Int) == fullReadOnly)) = pure (some b) := KBy.buffer_eq
  simp only [pure_bind, e]
  rfl
theorem letgo_eq {v : Value} {l : List Value} {M : Model} {A : Around} {E : Value → Shared → Prop} {s : Shared} {Q : Unit → Shared → Prop} (q : Q () s) : wpAny M A (letGo [v] l) Q E s := by
  unfold letGo
  refine wpAny_bind (wpAny_holding (wpAny_point ?_))
  unfold letGo
  exact wpAny_pure q
theorem meets_join4 (b0 b1 b2 b3 : Array UInt8) (t t0 t1 t2 t3 : Tok) (a : Addr) (hz : b0.size + b1.size + b2.size + b3.size ≤ 16777216) :
    Meets («bytes.join» ⟨[.bytes #[] t, .ref a], []⟩) (fun _ R s => s.heap.IsList a [Value.bytes b0 t0, .bytes b1 t1, .bytes b2 t2, .bytes b3 t3].toArray ∧ R (.ok (.ret (.bytes (b0 ++ b1 ++ b2 ++ b3) s.toks))) { s with toks := s.toks + 1 }) := by
  refine .of_wp fun prog w A R s hS => ?_
  obtain ⟨hl, h⟩ := hS
  unfold «bytes.join» joinM
  refine wpAny_bind (wpAny_of_eq (a := (Value.bytes #[] t, Value.ref a)) rfl ?_)
  dsimp only
  refine wpAny_bind ?_
  show wpAny _ _ (joinItems (Value.ref a)) _ _ s
  unfold joinItems
  refine wpAny_bind (wpAny_typeOf hl.typeIs ?_)
  refine wpAny_ite ?_
  rw [if_pos (by rfl)]
  refine wpAny_pure ?_
  obtain ⟨o, ho, hc, n, hd⟩ := hl
  have seq : ∀ {Q : Option (Array Value) → Shared → Prop} {E : Value → Shared → Prop} {s' : Shared} , s'.heap = s.heap → Q (some [Value.bytes b0 t0, .bytes b1 t1, .bytes b2 t2, .bytes b3 t3].toArray) s' → wpAny (model prog w) A.in1 (seqItems? (.ref a)) Q E s' := by
    intro Q E s' he hq
    unfold seqItems?
    refine wpAny_bind (wpAny_load (o := o) (by rw [he]; exact ho) ?_)
    rw [hd]
    exact wpAny_pure hq
  refine wpAny_bind (seq rfl ?_)
  dsimp only
  refine wpAny_ite ?_
  rw [if_pos (by rfl)]
  rw [Std.Legacy.Range.forIn_eq_forIn_range', show (List.range' ([:#[Value.bytes b0 t0, Value.bytes b1 t1, Value.bytes b2 t2, Value.bytes b3 t3].size] : Std.Legacy.Range).start ([:#[Value.bytes b0 t0, Value.bytes b1 t1, Value.bytes b2 t2, Value.bytes b3 t3].size] : Std.Legacy.Range).size 1) = [0, 1, 2, 3] from by simp [Std.Legacy.Range.size, List.range']]
  refine wpAny_bind ?_
  rw [List.forIn_cons]
  refine wpAny_bind (wpAny_bind (seq rfl ?_))
  dsimp only
  refine wpAny_ite (KBy.ite_no Bool.false_ne_true ?_)
  refine wpAny_bind (wpAny_holding (wpAny_of_eq (a := some (b0, none)) (take_eq (b := b0) (t := t0)) ?_))
  dsimp only
  refine wpAny_bind (seq rfl ?_)
  dsimp only
  refine wpAny_ite (KBy.ite_no (by simp) ?_)
  refine wpAny_pure ?_
  dsimp only
  rw [List.forIn_cons]
  refine wpAny_bind (wpAny_bind (seq rfl ?_))
  dsimp only
  refine wpAny_ite (KBy.ite_no Bool.false_ne_true ?_)
  refine wpAny_bind (wpAny_holding (wpAny_of_eq (a := some (b1, none)) (take_eq (b := b1) (t := t1)) ?_))
  dsimp only
  refine wpAny_bind (seq rfl ?_)
  dsimp only
  refine wpAny_ite (KBy.ite_no (by simp) ?_)
  refine wpAny_pure ?_
  dsimp only
  rw [List.forIn_cons]
  refine wpAny_bind (wpAny_bind (seq rfl ?_))
  dsimp only
  refine wpAny_ite (KBy.ite_no Bool.false_ne_true ?_)
  refine wpAny_bind (wpAny_holding (wpAny_of_eq (a := some (b2, none)) (take_eq (b := b2) (t := t2)) ?_))
  dsimp only
  refine wpAny_bind (seq rfl ?_)
  dsimp only
  refine wpAny_ite (KBy.ite_no (by simp) ?_)
  refine wpAny_pure ?_
  dsimp only
  rw [List.forIn_cons]
  refine wpAny_bind (wpAny_bind (seq rfl ?_))
  dsimp only
  refine wpAny_ite (KBy.ite_no Bool.false_ne_true ?_)
  refine wpAny_bind (wpAny_holding (wpAny_of_eq (a := some (b3, none)) (take_eq (b := b3) (t := t3)) ?_))
  dsimp only
  refine wpAny_bind (seq rfl ?_)
  dsimp only
  refine wpAny_ite (KBy.ite_no (by simp) ?_)
  refine wpAny_pure ?_
  dsimp only
  rw [List.forIn_nil]
  refine wpAny_pure ?_
  refine wpAny_bind (wpAny_of_eq (a := #[]) rfl ?_)
  refine wpAny_ite (KBy.ite_no ?_ ?_)
  · rw [KBy.tooLong_not (by simpa using hz)]
    exact Bool.false_ne_true
  have ej : joined #[] ((((#[].push b0).push b1).push b2).push b3).toList = b0 ++ b1 ++ b2 ++ b3 := by simp [joined]
  rw [ej]
  refine wpAny_bind (wpAny_mkBytes ?_ (by rw [sizeLine_eq, Array.size_append, Array.size_append, Array.size_append]; exact hz))
  refine wpAny_bind (wpAny_holding (wpAny_point ?_))
  refine wpAny_bind ?_
  have lg : ∀ {v : Value} {l : List Value} {Q : Unit → Shared → Prop} {E : Value → Shared → Prop} {s' : Shared}, Q () s' → wpAny (model prog w) A.in1 (letGo [v] l) Q E s' := fun {v l Q E s'} q => letgo_eq (v := v) q
  iterate 4
    unfold joinLetGo
    refine wpAny_bind (lg ?_)
  unfold joinLetGo
  refine wpAny_pure ?_
  exact wpAny_pure ⟨_, rfl, h⟩
theorem join4 {prog : Program} {w : World} {A : Around} {E : Value → Shared → Prop} {s : Shared} {h₀ : Heap} {L D : Addr} {news : List (Addr × Obj)} {Q : Value → Shared → Prop} {b0 b1 b2 b3 : List UInt8} {t t0 t1 t2 t3 : Tok} (hN : News h₀ L s.heap news)
    (hm : (D, LCg.lst [Value.bytes b0.toArray t0, .bytes b1.toArray t1, .bytes b2.toArray t2, .bytes b3.toArray t3]) ∈ news) (hz : b0.length + b1.length + b2.length + b3.length ≤ 16777216)
    (h : ∀ t' k, Q (.bytes (b0 ++ b1 ++ b2 ++ b3).toArray t') { s with toks := k }) : wpAny (model prog w) A (call (.builtin "bytes.join") [.bytes #[] t, .ref D]) Q E s :=
  call_meets slot_bytes_join (typeIs_bytes _ _ _) entry_bytes_join (args_bytes_join _ _) (meets_join4 b0.toArray b1.toArray b2.toArray b3.toArray t t0 t1 t2 t3 D (by simpa [Nat.add_assoc] using hz))
    ⟨⟨_, (hN _ hm).1, rfl, _, rfl⟩, by simpa using h s.toks (s.toks + 1)⟩
end Mine
end

/- part C1 -/
namespace Mine
local macro_rules | `(tactic| walk_at "binaryOp FloorDiv int int") => `(tactic| (k_here; (with_reducible show wpAny _ _ (binaryOp Operator.FloorDiv (Value.int _ _) (Value.int _ _)) _ _ _); k_dflt (first
  | (refine' fdiv_lit (by decide) (by assumption) (by assumption) ?_; k_whole)
  | (refine' fdiv_pow (by decide) (by assumption) (by assumption) ?_; k_whole))))
local macro_rules | `(tactic| walk_at "binaryOp Mod int int") => `(tactic| (k_here; (fail_if_success (rename KPfMark => kpm9)); (with_reducible show wpAny _ _ (binaryOp Operator.Mod (Value.int _ _) (Value.int _ _)) _ _ _); k_dflt (refine' mod_lit (by decide) ?_; k_whole)))
local macro_rules | `(tactic| walk_at "call ref") => `(tactic| (k_here; (with_reducible show wpAny _ _ (call (Value.ref 116) _) _ _ _); k_dflt (refine' octets_at _ _ _ _ _ (by first | exact hc_8 | exact hc_4) (by first | with_reducible assumption | decide) (by first | with_reducible assumption | decide) (by decide) _ _ _ _ _ _ _ _ _ _ _ _ _ _ _ _ _ _ (by k_asm) (by k_asm) (by k_asm) (by k_asm) (by k_asm) (by exact rfl) (by ktr_room) (by ktr_units) ?_); intro t9 h9 tk9 F9 N9; (try dsimp only); (try k_fold)))
local macro_rules | `(tactic| walk_at "subscriptTail Name Constant ref int") => `(tactic| (k_here; (with_reducible show wpAny _ _ (subscriptTail (Expr.Name _ _) _ (Value.ref _) (Value.int _ _)) _ _ _); k_dflt (refine' list_item (by is_list) (by l_ints) (by decide) (by decide) (by exact rfl) ?_; intro t9)))
local macro_rules | `(tactic| walk_at "subscriptTail Name Constant ref int") => `(tactic| (k_here; (with_reducible show wpAny _ _ (subscriptTail (Expr.Name _ _) _ (Value.ref _) (Value.int _ _)) _ _ _); k_dflt (refine' digit_item ?N ?m ?I ?i ?j ?_; (case I => with_reducible assumption); (case i => decide); (case N => k_asm); (case m => k_mem); (case j => decide); intro t9)))
local macro_rules | `(tactic| walk_at "subscriptTail") => `(tactic| (k_here; (with_reducible show wpAny _ _ (subscriptTail _ (Expr.Slice none _ none _) (Value.bytes _ _) (Value.ref _)) _ _ _); (with_reducible rename Fr _ _ _ _ => F'); (with_reducible rename News _ _ _ _ => N'); k_dflt (refine slice_take (s := ⟨_, _, _, _, _⟩) F' N' (by omega) (by simp) ?_); intro _ _ _ _ _; (try dsimp only)))
local macro_rules | `(tactic| walk_at "subscriptTail") => `(tactic| (k_here; (with_reducible show wpAny _ _ (subscriptTail (Expr.Tuple _ _ _) _ (Value.ref _) (Value.int _ _)) _ _ _); k_dflt (refine' menu_item (by exact News.isTup (by k_asm) (by k_mem)) (by l_ints) (by omega) (by ((try simp only [List.length_cons, List.length_nil]); omega)) (by omega) (by with_reducible first | exact told_eq _ | exact size_eq _ | exact away_eq _ | exact disks_eq _) ?_; k_whole); intro _; (with_reducible rename News _ _ _ _ => kN9); (replace kN9 := news_tail kN9); (try dsimp only)))
local macro_rules | `(tactic| walk_at "binaryOp Pow int int") => `(tactic| (k_here; (with_reducible first | refine pow_40 ?_ | refine pow_24 ?_ | refine pow_32 ?_)))
local macro_rules | `(tactic| walk_at "eval IfExp") => `(tactic| (k_here; (with_reducible show wpAny _ _ (eval (Expr.IfExp _ (Expr.Constant (Const.int 1) _ _) (Expr.Constant (Const.int 0) _ _) _) _) _ _ _); k_dflt (refine slip_cut (by with_reducible assumption) ?_ ?_); (focus (k_steps; all_goals (refine OneI.intro ?_; unfold slipV; first | (rw [if_pos (by assumption)]) | (rw [if_neg (by assumption)])))); intro _ _; (try dsimp only)))
local macro_rules | `(tactic| walk_at "eval IfExp") => `(tactic| (k_here; (with_reducible show wpAny _ _ (eval (Expr.IfExp _ (Expr.Constant (Const.bytes [80, 75, 6, 8]) _ _) (Expr.Constant (Const.bytes [80, 75, 6, 6]) _ _) _) _) _ _ _); k_dflt (refine sig1_cut (by with_reducible assumption) ?_ ?_); (focus (k_steps; all_goals (refine OneB.intro ?_; unfold sig1; first | (rw [if_pos (by assumption)]) | (rw [if_neg (by assumption)])))); intro _ _; (try dsimp only)))
local macro_rules | `(tactic| walk_at "eval IfExp") => `(tactic| (k_here; (with_reducible show wpAny _ _ (eval (Expr.IfExp _ (Expr.Constant (Const.bytes [80, 75, 6, 8]) _ _) (Expr.Constant (Const.bytes [80, 75, 6, 7]) _ _) _) _) _ _ _); k_dflt (refine sig2_cut (by with_reducible assumption) ?_ ?_); (focus (k_steps; all_goals (refine OneB.intro ?_; unfold sig2; first | (rw [if_pos (by assumption)]) | (rw [if_neg (by assumption)])))); intro _ _; (try dsimp only)))
local macro_rules | `(tactic| walk_at "call builtin:len") => `(tactic| (k_here; (with_reducible show wpAny _ _ (call (Value.builtin "len") [Value.bytes _ _]) _ _ _); k_dflt (refine len_take (by omega) (by (simp only [List.length_cons, List.length_nil]; omega)) (by decide) ?_); intro _ _; (try dsimp only)))
local macro_rules | `(tactic| walk_at "binaryOp Add bytes bytes") => `(tactic| (k_here; (with_reducible show wpAny _ _ (binaryOp Operator.Add (Value.bytes _ _) (Value.bytes _ _)) _ _ _); k_dflt (refine add_L (sz_sum (by repeat' (first | exact sz_oct _ _ | exact sz_take _ _ | exact sz_s1 _ | exact sz_s2 _ | refine' sz_app ?_ ?_ | exact Nat.le_refl _)) (by decide)) ?_); intro _ _; (try dsimp only)))
local macro_rules | `(tactic| walk_at "inplaceOp Add bytes bytes") => `(tactic| (k_here; (with_reducible show wpAny _ _ (inplaceOp Operator.Add (Value.bytes _ _) (Value.bytes _ _)) _ _ _); k_dflt (refine iadd_L (sz_sum (by repeat' (first | exact sz_oct _ _ | exact sz_take _ _ | exact sz_s1 _ | exact sz_s2 _ | refine' sz_app ?_ ?_ | exact Nat.le_refl _)) (by decide)) ?_); intro _ _; (try dsimp only)))
local macro_rules | `(tactic| walk_at "getMethod bytes") => `(tactic| (k_here; (with_reducible refine method_join ?_)))
local macro_rules | `(tactic| walk_at "call builtin:bytes.join") => `(tactic| (k_here; (with_reducible show wpAny _ _ (call (Value.builtin "bytes.join") [Value.bytes _ _, Value.ref _]) _ _ _); k_dflt (refine' join4 (by k_asm) (by k_mem) (by (simp only [octL_length]; omega)) ?_); intro _ _; (try dsimp only)))
local macro_rules | `(tactic| walk_at "exec If") => `(tactic| (k_here; (with_reducible show wpAny _ _ (exec (Stmt.If (Expr.BoolOp _ [Expr.Name _ _, Expr.Compare _ [CmpOp.Gt] _ _] _) _ _ _) _) _ _ _); k_dflt (refine words_cut (by with_reducible assumption) (by k_asm) (by k_asm) ?_ ?_)))
local macro_rules | `(tactic| walk_at "eval IfExp") => `(tactic| (k_here; (with_reducible show wpAny _ _ (eval (Expr.IfExp _ (Expr.UnaryOp _ _ _) (Expr.BinOp _ _ _ _) _) _) _ _ _); k_dflt (refine spot_cut (by with_reducible assumption) ?_ ?_); (focus (k_steps; all_goals (refine OneI.intro ?_; unfold spotV; first | (rw [if_pos (by assumption)]; done) | (rw [if_pos (by assumption)]; rfl) | (rw [if_neg (by assumption)])))); intro _ _; (try dsimp only)))
theorem case_at {w : World} {loose : List Str} {mean : ExcName → Option Value} {mg mb : Str → Option Value} (n : Int) (t1 : Tok) (h0 : 0 ≤ n) (h1 : n < 2 ^ 62)  :
  ∀ (dp un : Nat) (gd : Option (List Code)) (cn : Str) (cs : Scope) (a : Addr) (ccd : Value) (cl : List (Str × Addr)) (outer : List Env) (A₀ : Around) (base h₀ : Heap) (L : Addr) (m : Str → Option Value) (news : List (Addr × Obj)) (s : Shared)
    (Q E : Value → Shared → Prop),
    Below A₀ base outer h₀ → Fr h₀ L s.heap m → (hd.heap_39 w.params).In h₀ → News h₀ L s.heap news → Top topProg loose mean mg mb h₀ → cs.kind = .function → dp + 5 < recursionLimit → un + 40 < cLine →
    (∀ (T Li : Addr) (a1 a2 a3 a5 b0 b1 b2 b3 b4 b5 b6 : Tok) (e : Nat) h' tk', Fr h₀ L h' m → News h₀ L h' ((T, caseTup n Li a1 a2 a3 a5) :: (Li, caseLst n b0 b1 b2 b3 b4 b5 b6 e) :: news) → Li < T → Q (.ref T) { s with heap := h', toks := tk' }) →
    wpAny (model pr w) (ktrTop dp un gd cn cs L a ccd cl outer) (call (.ref 128) [.int n t1]) Q E s := by
  w_top off
  intro dp un gd cn cs a ccd cl outer A₀ base h₀ L m news s Q E B F X N T hk hd hu hret
  have hd0 := dg_in n 0
  have hd1 := dg_in n 1
  have hd2 := dg_in n 2
  have hd3 := dg_in n 3
  have hd4 := dg_in n 4
  have hd7 := dg_in n 7
  have hd8 := dg_in n 8
  have hd10 := dg_in n 10
  have hM : NMark n := NMark.mk
  obtain ⟨hb0, hc0⟩ := in_0 n
  obtain ⟨hb1, hc1⟩ := in_0 (n / 3)
  obtain ⟨hb2, hc2⟩ := in_2 (n / 5) (n / 7)
  obtain ⟨hb3, hc3⟩ := in_0 (n / 11)
  obtain ⟨hb4, hc4⟩ := in_4 (dg n 1)
  obtain ⟨hb5, hc5⟩ := in_place n
  obtain ⟨hb6, hc6⟩ := in_size n
  obtain ⟨hb7, hc7⟩ := in_away n
  obtain ⟨hb8, hc8⟩ := in_disks n
  obtain ⟨hb9, hc9⟩ := in_told n
  replace hc9 : toldV n < 2 ^ 62 := Int.lt_trans hc9 (by decide)
  refine wpAny_call ?_
  refine' frame_cells B F X News.nil N nil_dis T rfl rfl hk ?k6 ?k7 ?k8 ?k9 ?kB ?kD ?_ ?c2 ?c3 ?c4
  (case k6 => k_dflt k_is); (case k7 => k_dflt k_is); (case k8 => ktr_room); (case k9 => k_dflt exact BindsTo.of_eq rfl); (case kB => exact rfl); (case kD => decide +kernel); (case c2 => exact rfl); (case c3 => exact rfl); (case c4 => exact rfl)
  intro g' L' h' tk' cells' FG' F' N' Y' B' X' T' l1 kr9 l9
  clear l1 kr9 l9
  have hY := CellsAre.one Y'
  obtain ⟨o', hE', d1⟩ := hY
  subst hE'
  have d1' : o'.data = .cell (some (.int n t1)) := d1
  clear d1 Y'
  simp only [List.cons_append, List.nil_append] at N'
  generalize bindL _ _ _ = m0 at F'
  dsimp only
  refine wpAny_same ?_
  k_fold
  k_steps
  all_goals try (k_dflt (first | refine WordsEnd.intro (by k_asm) (by first | k_asm | exact news_tail (by k_asm)) ?_ | refine WordsEnd.same (by k_asm) (by first | k_asm | exact news_tail (by k_asm)) ?_); with_reducible first
      | exact words_a (by assumption)
      | exact words_b (by assumption) (by assumption)
      | exact words_c (by assumption) (by assumption) (by assumption)
      | exact words_d (by assumption) (by assumption) (by assumption) (by assumption)
      | exact words_e (by assumption) (by assumption) (by assumption) (by assumption) (by assumption)
      | exact words_i (by assumption) (by assumption) (by assumption) (by assumption) (by assumption)
      | exact words_f (by assumption) (by assumption) (by assumption) (by assumption) (by assumption) (by assumption)
      | exact words_g (by assumption) (by assumption) (by assumption) (by assumption) (by assumption) (by assumption) (by assumption)
      | exact words_h (by assumption) (by assumption) (by assumption) (by assumption) (by assumption) (by assumption) (by assumption))
  intro hR
  (with_reducible rename News _ _ _ _ => kN)
  (with_reducible rename Fr _ _ _ _ => kF)
  have N2 := case_back kN (caseL_eq n) (back_news N hR)
  exact hret _ _ _ _ _ _ _ _ _ _ _ _ _ _ _ _ kF N2 (by (rename _ ∧ _ => hl9); exact hl9.1)
end Mine

/- part D0 -/
namespace Mine
structure Disk where
  x : Addr
  d : Addr
  f1 : Addr
  f2 : Addr
  c1 : Addr
  c2 : Addr
  k1 : Addr
  k2 : Addr
  oS : Obj
  oR : Obj
  oc1 : Obj
  oc2 : Obj
  ok1 : Obj
  ok2 : Obj
  q1 : Tok
  q2 : Tok
  q3 : Tok
  q4 : Tok
noncomputable abbrev dskDict (P : Params) (q1 q2 q3 q4 : Tok) (f1 f2 : Addr) (o : Int) (t : Tok) : Obj :=
  dictOf [⟨PyData.keyHash P (Str.ofString "fp"), Value.str (Str.ofString "fp") q1, Value.none⟩, ⟨PyData.keyHash P (Str.ofString "offset"), Value.str (Str.ofString "offset") q2, Value.int o t⟩, ⟨PyData.keyHash P (Str.ofString "seek"), Value.str (Str.ofString "seek") q3, Value.ref f1⟩, ⟨PyData.keyHash P (Str.ofString "read"), Value.str (Str.ofString "read") q4, Value.ref f2⟩] 4
noncomputable abbrev Disk.led (D : Disk) (P : Params) (o : Int) (t : Tok) : List (Addr × Obj) :=
  [(D.f2, D.oR), (D.c2, D.oc2), (D.f1, D.oS), (D.c1, D.oc1), (D.x, instObj 107 D.d), (D.d, dskDict P D.q1 D.q2 D.q3 D.q4 D.f1 D.f2 o t), (D.k2, D.ok2), (D.k1, D.ok1)]
def Disk.Apart (D : Disk) : Prop := (@Ne Nat D.f2 D.d) ∧ (@Ne Nat D.c2 D.d) ∧ (@Ne Nat D.f1 D.d) ∧ (@Ne Nat D.c1 D.d) ∧ (@Ne Nat D.x D.d) ∧ (@Ne Nat D.k2 D.d) ∧ (@Ne Nat D.k1 D.d)
def IsFn (o : Obj) : Prop := ∃ oc od fd sl, o = ⟨oc, od, .func fd, sl⟩
theorem IsFn.at {o : Obj} {h₀ h : Heap} {L q : Addr} {news : List (Addr × Obj)} (f : IsFn o) (N : News h₀ L h news) (hm : (q, o) ∈ news) : FnAt q h := by
  obtain ⟨oc, od, fd, sl, rfl⟩ := f
  exact ⟨oc, od, fd, sl, (N _ hm).1⟩
/-- what a call of an object of the ledger does, for every state in which the ledger stands -/
def CallSpec (w : World) (loose : List Str) (mean : ExcName → Option Value) (mg mb : Str → Option Value) (f : Addr) (args : List Value) (mine : List (Addr × Obj)) (dd uu : Nat) (Post : Value → List (Addr × Obj) → Prop) : Prop :=
  ∀ (dp un : Nat) (gd : Option (List Code)) (cn : Str) (cs : Scope) (a : Addr) (ccd : Value) (cl : List (Str × Addr)) (outer : List Env) (A₀ : Around) (base h₀ : Heap) (L : Addr) (m : Str → Option Value) (rest : List (Addr × Obj)) (s : Shared)
    (Q E : Value → Shared → Prop),
    Below A₀ base outer h₀ → Fr h₀ L s.heap m → (hd.heap_39 w.params).In h₀ → News h₀ L s.heap mine → News h₀ L s.heap rest → (∀ q ∈ rest, q.1 ∉ mine.map (·.1)) → Top topProg loose mean mg mb h₀ → cs.kind = .function → dp + dd < recursionLimit → un + uu < cLine →
    (∀ v mine' h' tk', Post v mine' → Fr h₀ L h' m → News h₀ L h' mine' → News h₀ L h' rest → Q v { s with heap := h', toks := tk' }) →
    wpAny (model pr w) (ktrTop dp un gd cn cs L a ccd cl outer) (call (.ref f) args) Q E s
def SeekSpec (w : World) (loose : List Str) (mean : ExcName → Option Value) (mg mb : Str → Option Value) (D : Disk) : Prop :=
  ∀ (o n : Int) (t tn : Tok), 0 ≤ n → CallSpec w loose mean mg mb D.f1 [.int n tn] (D.led w.params o t) 3 20 fun v mine' => v = .none ∧ ∃ t', mine' = D.led w.params n t'
def ReadSpec (w : World) (loose : List Str) (mean : ExcName → Option Value) (mg mb : Str → Option Value) (D : Disk) (b : List UInt8) : Prop :=
  ∀ (o n : Int) (t tn : Tok), 0 ≤ o → 0 ≤ n → CallSpec w loose mean mg mb D.f2 [.int n tn] (D.led w.params o t) 3 20 fun v mine' => (∃ t', v = .bytes ((b.drop o.toNat).take n.toNat).toArray t') ∧ ∃ t', mine' = D.led w.params (o + ((b.drop o.toNat).take n.toNat).length) t'
/-- the table of _law_disk's code: untouched, or with the two codes of its defs -/
def CodeOk (oc : Obj) (q : Str) : Prop := ∃ vs t, oc.data = .fields vs ∧ vs[1]? = some (.str q t)
inductive TabSt : List (Addr × Obj) → Prop
  | cold : TabSt [(118, tabObj #[])]
  | warm (c1 c2 : Addr) (oc1 oc2 : Obj) (h1 : CodeOk oc1 (Str.ofString "_law_disk.<locals>.seek")) (h2 : CodeOk oc2 (Str.ofString "_law_disk.<locals>.read")) :
    TabSt [(118, tabObj #[rawInt 85, rawInt 4, .ref c1, rawInt 90, rawInt 4, .ref c2]), (c1, oc1), (c2, oc2)]
end Mine

/- part D1 -/
namespace Mine
def NoSeq (o : Obj) : Prop := ∀ a n, o.data ≠ .seq a n
theorem noSeq_cell {o : Obj} {v : Option Value} (h : o.data = .cell v) : NoSeq o := fun a n e => by rw [h] at e; cases e
noncomputable abbrev Disk.tabE (D : Disk) : Addr × Obj := (118, tabObj #[rawInt 85, rawInt 4, .ref D.c1, rawInt 90, rawInt 4, .ref D.c2])
theorem code_as {oc : Obj} {vs : Array Value} {q q' : Str} {t : Tok} (h1 : oc.data = .fields vs) (h2 : vs[1]? = some (.str q t)) (e : q = q') : CodeOk oc q' := ⟨vs, t, h1, by rw [h2, e]⟩
theorem code_rec {h₀ h : Heap} {L c : Addr} {oc : Obj} {q q' : Str} {news : List (Addr × Obj)} (N : News h₀ L h news) (hm : (c, oc) ∈ news) (k : CodeOk oc q) (e : q' = q) : h.CodeRec (.ref c) q' := by
  obtain ⟨vs, t, h1, h2⟩ := k
  exact codeRec_news N hm h1 (by rw [h2, e])
theorem led_dis {D : Disk} {P : Params} {o : Int} {t : Tok} {q : Addr × Obj} (h1 : @Ne Nat q.1 D.f2) (h2 : @Ne Nat q.1 D.c2) (h3 : @Ne Nat q.1 D.f1) (h4 : @Ne Nat q.1 D.c1) (h5 : @Ne Nat q.1 D.x) (h6 : @Ne Nat q.1 D.d) (h7 : @Ne Nat q.1 D.k2) (h8 : @Ne Nat q.1 D.k1) : q.1 ∉ (D.led P o t).map (·.1) := by
  intro hm
  simp only [Disk.led, List.map_cons, List.map_nil, List.mem_cons, List.not_mem_nil, or_false] at hm
  rcases hm with h | h | h | h | h | h | h | h <;> contradiction
def GtAll (D : Disk) (K : Nat) : Prop := @LT.lt Nat _ K D.f2 ∧ @LT.lt Nat _ K D.c2 ∧ @LT.lt Nat _ K D.f1 ∧ @LT.lt Nat _ K D.c1 ∧ @LT.lt Nat _ K D.x ∧ @LT.lt Nat _ K D.d ∧ @LT.lt Nat _ K D.k2 ∧ @LT.lt Nat _ K D.k1
theorem lt_ne {x K c : Nat} (h : x ≤ K) (k : K < c) : x ≠ c := Nat.ne_of_lt (Nat.lt_of_le_of_lt h k)
theorem led_gt {D : Disk} {K : Nat} (h : GtAll D K) {x : Nat} (hx : x ≤ K) (P : Params) (o : Int) (t : Tok) : x ∉ (D.led P o t).map (·.1) := by
  obtain ⟨h1, h2, h3, h4, h5, h6, h7, h8⟩ := h
  intro hm
  simp only [Disk.led, List.map_cons, List.map_nil, List.mem_cons, List.not_mem_nil, or_false] at hm
  rcases hm with e | e | e | e | e | e | e | e
  · exact lt_ne hx h1 e
  · exact lt_ne hx h2 e
  · exact lt_ne hx h3 e
  · exact lt_ne hx h4 e
  · exact lt_ne hx h5 e
  · exact lt_ne hx h6 e
  · exact lt_ne hx h7 e
  · exact lt_ne hx h8 e
theorem gt8_of {g h : Heap} {L : Addr} {D : Disk} {P : Params} {o : Int} {t : Tok} (K : Nat) (_ : News g L h (D.led P o t)) (k : GtAll D K) : GtAll D K := k
theorem gt6_of {g h : Heap} {L : Addr} {D : Disk} {P : Params} {o : Int} {t : Tok} (K : Nat) (_ : News g L h (D.led P o t)) (k : @LT.lt Nat _ K D.f2 ∧ @LT.lt Nat _ K D.f1 ∧ @LT.lt Nat _ K D.x ∧ @LT.lt Nat _ K D.d ∧ @LT.lt Nat _ K D.k2 ∧ @LT.lt Nat _ K D.k1) :
    @LT.lt Nat _ K D.f2 ∧ @LT.lt Nat _ K D.f1 ∧ @LT.lt Nat _ K D.x ∧ @LT.lt Nat _ K D.d ∧ @LT.lt Nat _ K D.k2 ∧ @LT.lt Nat _ K D.k1 := k
theorem led_118 {D : Disk} (h1 : @Ne Nat 118 D.f2) (h2 : @Ne Nat 118 D.c2) (h3 : @Ne Nat 118 D.f1) (h4 : @Ne Nat 118 D.c1) (h5 : @Ne Nat 118 D.x) (h6 : @Ne Nat 118 D.d) (h7 : @Ne Nat 118 D.k2) (h8 : @Ne Nat 118 D.k1) : ∀ P o t, 118 ∉ (D.led P o t).map (·.1) := by
  intro P o t hm
  simp only [Disk.led, List.map_cons, List.map_nil, List.mem_cons, List.not_mem_nil, or_false] at hm
  rcases hm with h | h | h | h | h | h | h | h <;> contradiction
theorem tab_ne {h₀ h : Heap} {L c : Addr} {oc : Obj} {x y z : Value} {str : Str} {l : List (Addr × Obj)} {a b : Value} (N : News h₀ L h ((118, tabObj #[a, rawInt 4, x, y, z, b]) :: l)) (hm : (c, oc) ∈ (118, tabObj #[a, rawInt 4, x, y, z, b]) :: l) (k : CodeOk oc str) : @Ne Nat 118 c := by
  intro e
  have e1 := (N _ (.head _)).1
  have e2 := (N _ hm).1
  dsimp only at e1 e2
  rw [← e, e1] at e2
  obtain ⟨vs, t, h1, h2⟩ := k
  cases e2
  dsimp only at h1
  injection h1 with h1
  subst h1
  simp [rawInt] at h2
theorem led_all {h₀ h : Heap} {L : Addr} {D : Disk} {P : Params} {o : Int} {t : Tok} {news : List (Addr × Obj)} {e1 e2 : Addr × Obj} (N1 : News h₀ L h (D.led P o t)) (N2 : News h₀ L h [D.tabE, e1, e2]) (N3 : News h₀ L h news) :
    News h₀ L h ((D.f2, D.oR) :: (D.c2, D.oc2) :: (D.f1, D.oS) :: (D.c1, D.oc1) :: (D.x, instObj 107 D.d) :: (D.d, dskDict P D.q1 D.q2 D.q3 D.q4 D.f1 D.f2 o t) :: (D.k2, D.ok2) :: (D.k1, D.ok1) :: D.tabE :: news) :=
  news_app (a := D.led P o t) N1 (news_app (a := [D.tabE]) (fun q hq => N2 q (by rw [List.mem_singleton.mp hq]; exact .head _)) N3)
theorem led_cold {h₀ h : Heap} {L : Addr} {P : Params} {f2 c2 f1 c1 x d k2 k1 : Addr} {oR oc2 oS oc1 ok2 ok1 ot : Obj} {q1 q2 q3 q4 t : Tok} {o : Int}
    (N : News h₀ L h [(f2, oR), (c2, oc2), (f1, oS), (c1, oc1), (x, instObj 107 d), (d, dskDict P q1 q2 q3 q4 f1 f2 o t), (k2, ok2), (k1, ok1), (118, ot)]) :
    News h₀ L h (Disk.led ⟨x, d, f1, f2, c1, c2, k1, k2, oS, oR, oc1, oc2, ok1, ok2, q1, q2, q3, q4⟩ P o t) ∧ News h₀ L h [(118, ot), (c1, oc1), (c2, oc2)] :=
  ⟨fun q hq => N q (by simp only [List.mem_cons, List.not_mem_nil, or_false] at hq ⊢; rcases hq with h | h | h | h | h | h | h | h <;> simp [h]), fun q hq => N q (by simp only [List.mem_cons, List.not_mem_nil, or_false] at hq ⊢; rcases hq with h | h | h <;> simp [h])⟩
theorem led_warm {h₀ h : Heap} {L : Addr} {P : Params} {f2 c2 f1 c1 x d k2 k1 : Addr} {oR oc2 oS oc1 ok2 ok1 ot : Obj} {q1 q2 q3 q4 t : Tok} {o : Int}
    (N : News h₀ L h [(f2, oR), (f1, oS), (x, instObj 107 d), (d, dskDict P q1 q2 q3 q4 f1 f2 o t), (k2, ok2), (k1, ok1), (118, ot), (c1, oc1), (c2, oc2)]) :
    News h₀ L h (Disk.led ⟨x, d, f1, f2, c1, c2, k1, k2, oS, oR, oc1, oc2, ok1, ok2, q1, q2, q3, q4⟩ P o t) ∧ News h₀ L h [(118, ot), (c1, oc1), (c2, oc2)] :=
  ⟨fun q hq => N q (by simp only [List.mem_cons, List.not_mem_nil, or_false] at hq ⊢; rcases hq with h | h | h | h | h | h | h | h <;> simp [h]), fun q hq => N q (by simp only [List.mem_cons, List.not_mem_nil, or_false] at hq ⊢; rcases hq with h | h | h <;> simp [h])⟩
section
variable {prog : Program} {w : World} {A : Around} {E : Value → Shared → Prop} {s : Shared} {Q : Value → Shared → Prop} {t u u2 : Tok} {h₀ : Heap} {L : Addr} {m : PySem.Str → Option Value} {news : List (Addr × Obj)} {value slice : PySem.Expr}
theorem slice_mid {l : List UInt8} {o n : Int} (hF : Fr h₀ L s.heap m) (hN : News h₀ L s.heap news) (h0 : 0 ≤ o) (h1 : 0 ≤ n) (hz : l.length ≤ 16777216)
    (h : ∀ h' t' k', Fr h₀ L h' m → News h₀ L h' news → Q (.bytes ((l.drop o.toNat).take n.toNat).toArray t') { s with heap := h', toks := k' })
    (hs : subscripted slice false (.bytes l.toArray t) (.ref s.heap.objs.size) = operate [.ref s.heap.objs.size, .bytes l.toArray t] (getItem (.bytes l.toArray t) (.ref s.heap.objs.size)) := by with_unfolding_all rfl)
    (ht : ∀ r, letTemporaryGo value (.bytes l.toArray t) r = pure () := by intro _; with_unfolding_all rfl) :
    wpAny (model prog w) A (subscriptTail value slice (.bytes l.toArray t) (.ref s.heap.objs.size)) Q E { s with heap := s.heap.push { cls := .type "slice", data := .fields #[.int o u, .int (o + n) u2, .none] } } := by
  refine KBc.slice_K (lo := some o) (hi := some (o + n)) hF hN rfl (.int o u) (.int (o + n) u2) (by rw [KBw.ints_length]; simpa using hz) (fun h' t' k' F N _ => ?_) hs ht
  have e : KBy.picked l.toArray (some o) (some (o + n)) = ((l.drop o.toNat).take n.toNat).toArray := by
    rw [KBc.picked_eq]
    obtain ⟨j, rfl⟩ : ∃ j : Nat, o = j := ⟨o.toNat, by omega⟩
    obtain ⟨i, rfl⟩ : ∃ i : Nat, n = i := ⟨n.toNat, by omega⟩
    rw [show (j : Int) + (i : Int) = ((j + i : Nat) : Int) by omega]
    simp only [Option.elim, clipAt_nat, Int.toNat_natCast, List.size_toArray]
    congr 1
    by_cases hj : j ≤ l.length
    · rw [Nat.min_eq_left hj, List.take_eq_take_iff, List.length_drop]
      omega
    · rw [Nat.min_eq_right (show l.length ≤ j by omega), List.drop_of_length_le (Nat.le_refl l.length), List.drop_of_length_le (show l.length ≤ j by omega)]
      simp
  rw [e]
  exact h h' t' k' F N
end
local macro_rules | `(tactic| walk_at "subscriptTail Name Slice bytes ref") => `(tactic| (k_here; (with_reducible show wpAny _ _ (subscriptTail _ (Expr.Slice (some _) (some _) none _) (Value.bytes _ _) (Value.ref _)) _ _ _); (with_reducible rename Fr _ _ _ _ => F'); (with_reducible rename News _ _ _ _ => N'); k_dflt (refine slice_mid (s := ⟨_, _, _, _, _⟩) F' N' (by assumption) (by assumption) (by assumption) ?_); intro _ _ _ _ _; (try dsimp only)))
local macro_rules | `(tactic| walk_at "call builtin:len") => `(tactic| (k_here; (with_reducible show wpAny _ _ (call (Value.builtin "len") [Value.bytes _ _]) _ _ _); k_dflt (refine len_L (by (simp only [List.length_take, List.length_drop]; omega)) ?_); intro _ _; (try dsimp only)))
local macro_rules | `(tactic| k_room) => `(tactic| ktr_room)
theorem disk_at {w : World} {loose : List Str} {mean : ExcName → Option Value} {mg mb : Str → Option Value} (b : List UInt8) (t1 : Tok) (tab : List (Addr × Obj)) (hTab : TabSt tab) (hb : b.length ≤ 16777216) :
  ∀ (dp un : Nat) (gd : Option (List Code)) (cn : Str) (cs : Scope) (a : Addr) (ccd : Value) (cl : List (Str × Addr)) (outer : List Env) (A₀ : Around) (base h₀ : Heap) (L : Addr) (m : Str → Option Value) (news : List (Addr × Obj)) (s : Shared)
    (Q E : Value → Shared → Prop),
    Below A₀ base outer h₀ → Fr h₀ L s.heap m → (hd.heap_39 w.params).In h₀ → News h₀ L s.heap tab → News h₀ L s.heap news → (∀ q ∈ news, q.1 ∉ tab.map (·.1)) → Top topProg loose mean mg mb h₀ → CodeHd h₀ 122 118 → cs.kind = .function → dp + 5 < recursionLimit → un + 40 < cLine →
    (∀ (D : Disk) t h' tk', CodeOk D.oc1 (Str.ofString "_law_disk.<locals>.seek") → CodeOk D.oc2 (Str.ofString "_law_disk.<locals>.read") → (D.c1 ∈ tab.map (·.1) ∨ @LT.lt Nat _ L D.c1) → (D.c2 ∈ tab.map (·.1) ∨ @LT.lt Nat _ L D.c2) → IsFn D.oS → IsFn D.oR → NoSeq D.ok1 → NoSeq D.ok2 → SeekSpec w loose mean mg mb D → ReadSpec w loose mean mg mb D b → (∀ q ∈ news, q.1 ∉ (D.led w.params 0 t).map (·.1)) → (∀ P o t, 118 ∉ (D.led P o t).map (·.1)) → Fr h₀ L h' m →
      News h₀ L h' ((D.f2, D.oR) :: (D.c2, D.oc2) :: (D.f1, D.oS) :: (D.c1, D.oc1) :: (D.x, instObj 107 D.d) :: (D.d, dskDict w.params D.q1 D.q2 D.q3 D.q4 D.f1 D.f2 0 t) :: (D.k2, D.ok2) :: (D.k1, D.ok1) :: D.tabE :: news) → Q (.ref D.x) { s with heap := h', toks := tk' }) →
    wpAny (model pr w) (ktrTop dp un gd cn cs L a ccd cl outer) (call (.ref 123) [.bytes b.toArray t1]) Q E s := by
  w_top off
  intro dp un gd cn cs a ccd cl outer A₀ base h₀ L m news s Q E B F X NT N hdis T CH hk hd hu hret
  cases hTab
  all_goals (
    refine wpAny_call ?_
    refine' frame_cells B F X NT N hdis T rfl rfl hk ?k6 ?k7 ?k8 ?k9 ?kB ?kD ?_ ?c2 ?c3 ?c4
    (case k6 => k_dflt k_is); (case k7 => k_dflt k_is); (case k8 => ktr_room); (case k9 => k_dflt exact BindsTo.of_eq rfl); (case kB => exact rfl); (case kD => decide +kernel); (case c2 => exact rfl); (case c3 => exact rfl); (case c4 => exact rfl)
    intro g' L' h' tk' cells' FG' F' N' Y' B' X' T' l1 kr9 l9
    k_lt l1
    have hY := CellsAre.two Y'
    obtain ⟨o', o2', hE', d1', d2'⟩ := hY
    subst hE'
    have e1 : o'.data = .cell none := d1'
    have e2 : o2'.data = .cell (some (.bytes b.toArray t1)) := d2'
    clear Y' d1' d2'
    simp only [List.cons_append, List.nil_append] at N'
    generalize bindL _ _ _ = m0 at F'
    have hLL : @LT.lt Nat _ L L' := Nat.lt_of_lt_of_le FG'.ns.lt F'.above
    have CH' : CodeHd g' 122 118 := CH.keeps FG'.keep
    dsimp only
    refine wpAny_same ?_
    k_fold
    k_steps
    intro hR
    (with_reducible rename News _ _ _ _ => kN)
    (with_reducible rename Fr _ _ _ _ => kF))
  · rename (_ = some (Value.str (qualnameIn _ _ (Str.ofString "seek")) _)) => hv1
    rename (_ = some (Value.str (qualnameIn _ _ (Str.ofString "read")) _)) => hv2
    have hc1 := code_as (q' := Str.ofString "_law_disk.<locals>.seek") (by assumption) hv1 (by kernel_rfl)
    have hc2 := code_as (q' := Str.ofString "_law_disk.<locals>.read") (by assumption) hv2 (by kernel_rfl)
    obtain ⟨N1, N2⟩ := led_cold kN
    have h118 : (118 : Nat) ≤ L' := by omega
    have hG := gt8_of L' N1 ⟨by dsimp only; omega, by dsimp only; omega, by dsimp only; omega, by dsimp only; omega, by dsimp only; omega, by dsimp only; omega, by dsimp only; omega, by dsimp only; omega⟩
    refine hret ⟨_, _, _, _, _, _, _, _, _, _, _, _, _, _, _, _, _, _⟩ _ _ _ hc1 hc2 ?_ ?_ ⟨_, _, _, _, rfl⟩ ⟨_, _, _, _, rfl⟩ (by first | exact noSeq_cell rfl | exact noSeq_cell (by assumption)) (by first | exact noSeq_cell rfl | exact noSeq_cell (by assumption)) ?_ ?_ ?_ ?_ kF (led_all N1 N2 (back_news N hR))
    · exact .inr (Nat.lt_trans hLL hG.2.2.2.1)
    · exact .inr (Nat.lt_trans hLL hG.2.1)
    · intro o n t tn hn
      intro dp2 un2 gd2 cn2 cs2 a2 ccd2 cl2 outer2 A2 base2 h2 L2 m2 rest2 s2 Q2 E2 B2 F2 X2 N2 NR2 hdis2 T2 hk2 hd2 hu2 hret2
      refine wpAny_call ?_
      refine' frame_nest B2 F2 X2 N2 NR2 hdis2 T2 rfl rfl hk2 (List.Mem.tail _ (List.Mem.tail _ (List.Mem.head _))) (code_rec N2 (List.Mem.tail _ (List.Mem.tail _ (List.Mem.tail _ (List.Mem.head _)))) hc1 (by kernel_rfl)) ?k8 ?k9 ?kB ?_ ?c2 ?c3 ?c4 ?c5
      (case k8 => ktr_room); (case k9 => k_dflt exact BindsTo.of_eq rfl); (case kB => exact locs rfl); (case c2 => exact rfl); (case c3 => exact rfl); (case c4 => exact rfl); (case c5 => decide)
      intro g2 L3 h3 FG2 F3 N3 B3 X3 T3 l3 kr3 l93
      k_lt l3
      dsimp only
      refine wpAny_same ?_
      k_fold
      k_steps
      intro hR2
      (with_reducible rename News _ _ _ _ => kN)
      (with_reducible rename Fr _ _ _ _ => kF)
      exact hret2 _ _ _ _ ⟨rfl, _, rfl⟩ kF (fun q hq => kN q hq) (back_news NR2 hR2)
    · intro o n t tn ho0 hn
      intro dp2 un2 gd2 cn2 cs2 a2 ccd2 cl2 outer2 A2 base2 h2 L2 m2 rest2 s2 Q2 E2 B2 F2 X2 N2 NR2 hdis2 T2 hk2 hd2 hu2 hret2
      refine wpAny_call ?_
      refine' frame_nest B2 F2 X2 N2 NR2 hdis2 T2 rfl rfl hk2 (List.Mem.head _) (code_rec N2 (List.Mem.tail _ (List.Mem.head _)) hc2 (by kernel_rfl)) ?k8 ?k9 ?kB ?_ ?c2 ?c3 ?c4 ?c5
      (case k8 => ktr_room); (case k9 => k_dflt exact BindsTo.of_eq rfl); (case kB => exact locs rfl); (case c2 => exact rfl); (case c3 => exact rfl); (case c4 => exact rfl); (case c5 => decide)
      intro g2 L3 h3 FG2 F3 N3 B3 X3 T3 l3 kr3 l93
      k_lt l3
      dsimp only
      refine wpAny_same ?_
      k_fold
      k_steps
      intro hR2
      (with_reducible rename News _ _ _ _ => kN)
      (with_reducible rename Fr _ _ _ _ => kF)
      exact hret2 _ _ _ _ ⟨⟨_, rfl⟩, _, rfl⟩ kF (fun q hq => kN q hq) (back_news NR2 hR2)
    · exact fun q hq => led_gt hG (Nat.le_of_lt (l9 q hq)) _ _ _
    · exact led_gt hG h118
  · rename CodeOk _ (Str.ofString "_law_disk.<locals>.seek") => hc1
    rename CodeOk _ (Str.ofString "_law_disk.<locals>.read") => hc2
    obtain ⟨N1, N2⟩ := led_warm kN
    have h118 : (118 : Nat) ≤ L' := by omega
    obtain ⟨g1, g2, g3, g4, g5, g6⟩ := gt6_of L' N1 ⟨by dsimp only; omega, by dsimp only; omega, by dsimp only; omega, by dsimp only; omega, by dsimp only; omega, by dsimp only; omega⟩
    refine hret ⟨_, _, _, _, _, _, _, _, _, _, _, _, _, _, _, _, _, _⟩ _ _ _ hc1 hc2 ?_ ?_ ⟨_, _, _, _, rfl⟩ ⟨_, _, _, _, rfl⟩ (by first | exact noSeq_cell rfl | exact noSeq_cell (by assumption)) (by first | exact noSeq_cell rfl | exact noSeq_cell (by assumption)) ?_ ?_ ?_ ?_ kF (led_all N1 N2 (back_news N hR))
    · exact .inl (.tail _ (.head _))
    · exact .inl (.tail _ (.tail _ (.head _)))
    · intro o n t tn hn
      intro dp2 un2 gd2 cn2 cs2 a2 ccd2 cl2 outer2 A2 base2 h2 L2 m2 rest2 s2 Q2 E2 B2 F2 X2 N2 NR2 hdis2 T2 hk2 hd2 hu2 hret2
      refine wpAny_call ?_
      refine' frame_nest B2 F2 X2 N2 NR2 hdis2 T2 rfl rfl hk2 (List.Mem.tail _ (List.Mem.tail _ (List.Mem.head _))) (code_rec N2 (List.Mem.tail _ (List.Mem.tail _ (List.Mem.tail _ (List.Mem.head _)))) hc1 (by kernel_rfl)) ?k8 ?k9 ?kB ?_ ?c2 ?c3 ?c4 ?c5
      (case k8 => ktr_room); (case k9 => k_dflt exact BindsTo.of_eq rfl); (case kB => exact locs rfl); (case c2 => exact rfl); (case c3 => exact rfl); (case c4 => exact rfl); (case c5 => decide)
      intro g2 L3 h3 FG2 F3 N3 B3 X3 T3 l3 kr3 l93
      k_lt l3
      dsimp only
      refine wpAny_same ?_
      k_fold
      k_steps
      intro hR2
      (with_reducible rename News _ _ _ _ => kN)
      (with_reducible rename Fr _ _ _ _ => kF)
      exact hret2 _ _ _ _ ⟨rfl, _, rfl⟩ kF (fun q hq => kN q hq) (back_news NR2 hR2)
    · intro o n t tn ho0 hn
      intro dp2 un2 gd2 cn2 cs2 a2 ccd2 cl2 outer2 A2 base2 h2 L2 m2 rest2 s2 Q2 E2 B2 F2 X2 N2 NR2 hdis2 T2 hk2 hd2 hu2 hret2
      refine wpAny_call ?_
      refine' frame_nest B2 F2 X2 N2 NR2 hdis2 T2 rfl rfl hk2 (List.Mem.head _) (code_rec N2 (List.Mem.tail _ (List.Mem.head _)) hc2 (by kernel_rfl)) ?k8 ?k9 ?kB ?_ ?c2 ?c3 ?c4 ?c5
      (case k8 => ktr_room); (case k9 => k_dflt exact BindsTo.of_eq rfl); (case kB => exact locs rfl); (case c2 => exact rfl); (case c3 => exact rfl); (case c4 => exact rfl); (case c5 => decide)
      intro g2 L3 h3 FG2 F3 N3 B3 X3 T3 l3 kr3 l93
      k_lt l3
      dsimp only
      refine wpAny_same ?_
      k_fold
      k_steps
      intro hR2
      (with_reducible rename News _ _ _ _ => kN)
      (with_reducible rename Fr _ _ _ _ => kF)
      exact hret2 _ _ _ _ ⟨⟨_, rfl⟩, _, rfl⟩ kF (fun q hq => kN q hq) (back_news NR2 hR2)
    · intro q hq
      have hq9 : @LT.lt Nat _ q.1 L' := l9 q hq
      have hq8 := hdis q hq
      simp only [List.map_cons, List.map_nil, List.mem_cons, List.not_mem_nil, or_false, not_or] at hq8
      obtain ⟨hq5, hq6, hq7⟩ := hq8
      exact led_dis (lt_ne (Nat.le_of_lt hq9) g1) hq7 (lt_ne (Nat.le_of_lt hq9) g2) hq6 (lt_ne (Nat.le_of_lt hq9) g3) (lt_ne (Nat.le_of_lt hq9) g4) (lt_ne (Nat.le_of_lt hq9) g5) (lt_ne (Nat.le_of_lt hq9) g6)
    · exact led_118 (lt_ne h118 g1) (tab_ne N2 (.tail _ (.tail _ (.head _))) hc2) (lt_ne h118 g2) (tab_ne N2 (.tail _ (.head _)) hc1) (lt_ne h118 g3) (lt_ne h118 g4) (lt_ne h118 g5) (lt_ne h118 g6)
end Mine

/- part E0 -/
section
open PySem.Builtin
namespace Mine
theorem os_notType : (Value.type "OSError" == Value.type "type") = false := by decide
theorem os_canNew : (((Manifest.find? "OSError").bind (·.mro.findSome? fun (t : String) => (Manifest.find? t).bind fun b => if b.noNew then some true else if b.attrs.any (·.1 == "__new__") then some false else none)).getD false) = false := by decide +kernel
theorem os_typeCall (rest : List Value) : checkTypeCall "OSError" ⟨rest, []⟩ = pure () := by kernel_rfl
theorem os_mroFast : (fastBuiltinMro "OSError").map (·.isEmpty) = some false := by kernel_rfl
theorem os_mro : ∃ l, mroOf (.type "OSError") = pure l ∧ l.isEmpty = false := by
  have h := os_mroFast
  rw [mroOf_type]
  cases hm : fastBuiltinMro "OSError" with
  | none => rw [hm] at h; cases h
  | some l => rw [hm] at h; exact ⟨l, rfl, by simpa using h⟩
theorem os_madeBy : Bind.madeBy (.type "OSError") = pure (some "OSError.__new__") := by kernel_rfl
theorem os_newCheck (x : Str) (t : Tok) : checkBuiltinCall "OSError.__new__" ⟨[.type "OSError", .str x t], []⟩ = pure () := by kernel_rfl
theorem os_newEntry : entryFor table "OSError.__new__" = some Builtin.«OSError.__new__» := entryFor_of_tree (by kernel_rfl)
theorem os_newPlain : plainId "OSError.__new__" = true := by decide +kernel
theorem os_self : isSubtype (.type "OSError") (.type "OSError") = pure true := by rw [isSubtype_type]; kernel_rfl
theorem os_base : isSubtype (.type "OSError") (.type "BaseException") = pure true := by rw [isSubtype_type]; kernel_rfl
theorem os_init : Slot "OSError" "__init__" "OSError.__init__" := .of (owner := "OSError") (n := "__init__") (by rw [typeLookup_type, builtinLookup_eq_fast]; kernel_rfl) (by decide +kernel) (by decide +kernel) (by decide +kernel)
    (by first | exact .inl (by decide +kernel) | exact .inr (by decide +kernel)) (by rw [isSubtype_type]; kernel_rfl)
theorem os_initEntry : entryFor table "OSError.__init__" = some Builtin.«OSError.__init__» := entryFor_of_tree (by kernel_rfl)
theorem os_initKind : builtinKind "OSError.__init__" = some .slot := by decide +kernel
theorem os_initSplit : splitId "OSError.__init__" = some ("OSError", "__init__") := by decide +kernel
theorem os_initSig : Manifest.signature? "OSError.__init__" = some ⟨.any, "OSError", "OSError", .self, [⟨"args", .varPos, false⟩, ⟨"kwargs", .varKw, false⟩]⟩ := by kernel_rfl
theorem os_metaType : (Value.type ((Manifest.find? "OSError").elim "type" (·.metatype)) == Value.type "type") = true := by decide +kernel
theorem os_reads : OSError.osReadsInInit (.type "OSError") = pure false := by kernel_rfl
theorem os_isType : isType (.type "OSError") = pure true := rfl
section
variable {prog : Program} {w : World} {A : Around} {E : Value → Shared → Prop} {s : Shared} {x : Str} {t : Tok}
abbrev osFields (a : Value) : Array Value := #[a, .none, .none, .none, .bool false, .none, OSError.osUnset, OSError.osUnset, OSError.osUnset, OSError.osUnset, rawInt (-1)]
theorem new_os {Q : Value → Shared → Prop}
    (h : ∀ h' e t2, (∀ b o, s.heap.get? b = some o → h'.get? b = some o) → s.heap.get? e = none → s.heap.get? t2 = none → h'.get? e = some { cls := .type "OSError", data := .fields (osFields (.ref t2)) } → h'.get? t2 = some { cls := .type "tuple", data := .seq [Value.str x t].toArray } → Q (.ref e) { s with heap := h' }) :
    wpAny (model prog w) A (call (.builtin "OSError.__new__") [.type "OSError", .str x t]) Q E s := by
  obtain ⟨hp, g, d, tk, os⟩ := s
  have f1 := os_self
  have f2 := os_reads
  have f3 := os_isType
  refine call_builtin_at os_newPlain os_newEntry (os_newCheck x t) ?_
  unfold Builtin.«OSError.__new__»
  refine wpAt_of_any ?_
  dsimp only
  wp_walk
  have ez : (hp.push { cls := Value.type "tuple", data := Data.seq #[] }).objs.size = hp.objs.size + 1 := Heap.size_push _ _
  refine ⟨_, rfl, h _ _ (hp.objs.size + 2) (fun b o hb => ?_) (Heap.get?_none_of_le (by rw [ez]; exact Nat.le_succ _)) (Heap.get?_none_of_le (by show hp.objs.size ≤ _; omega)) ?_ ?_⟩
  · have hlt := Heap.lt_size hb
    have hne : b ≠ hp.objs.size + 1 := Nat.ne_of_lt (Nat.lt_succ_of_lt hlt)
    rw [ez]
    refine (Heap.get?_update_other _ _ (Ne.symm hne)).trans (Heap.get?_push_of_some _ ((Heap.get?_update_other _ _ (Ne.symm hne)).trans ((Heap.get?_update_other _ _ (Ne.symm hne)).trans (Heap.get?_push_of_some _ (Heap.get?_push_of_some _ hb)))))
  · rw [ez]
    have g0 : ((hp.push { cls := Value.type "tuple", data := Data.seq #[] }).push { cls := Value.type "OSError", data := Data.fields (#[Value.ref hp.objs.size, Value.none, Value.none, Value.none, Value.bool false, Value.none] ++ OSError.osNothingGiven) }).get? (hp.objs.size + 1) = some { cls := Value.type "OSError", data := Data.fields (#[Value.ref hp.objs.size, Value.none, Value.none, Value.none, Value.bool false, Value.none] ++ OSError.osNothingGiven) } := Heap.get?_push_at ez.symm rfl
    refine (Heap.get?_update_self _ (Heap.get?_push_of_some _ (Heap.get?_update_self _ (Heap.get?_update_self _ g0 rfl) rfl)) rfl).trans ?_
    simp only [Heap.size_push, Heap.size_update, Obj.mapFields]
    rfl
  · refine (Heap.get?_update_other _ _ (by rw [ez]; exact Nat.ne_of_lt (Nat.lt_succ_self _))).trans (Heap.get?_push_at ?_ rfl)
    simp only [Heap.size_push, Heap.size_update]
theorem check_init_os {M : Model} {e : Addr} {ob : Obj} {Q : Unit → Shared → Prop} (he : s.heap.get? e = some ob) (hc : ob.cls = .type "OSError") (hQ : Q () s) :
    wpAny M A (checkBuiltinCall "OSError.__init__" ⟨[.ref e, .str x t], []⟩) Q E s := by
  have hT : s.TypeIs (.ref e) "OSError" := ⟨ob, he, hc⟩
  simp only [checkBuiltinCall, os_initKind, os_initSplit, os_initSig]
  refine wpAny_bind (wpAny_isInstance hT os_self ?_)
  simp only [Bool.not_true, Bool.false_eq_true, if_false]
  exact wpAny_of_eq (by kernel_rfl) hQ
theorem init_os {e : Addr} {ob : Obj} {Q : Value → Shared → Prop} (he : s.heap.get? e = some ob) (hc : ob.cls = .type "OSError") (h : Q .none s) :
    wpAny (model prog w) A (call (.builtin "OSError.__init__") [.ref e, .str x t]) Q E s := by
  have hT : s.TypeIs (.ref e) "OSError" := ⟨ob, he, hc⟩
  have f2 := os_reads
  refine wpAny_call (codeAny_call_builtin os_init.plain os_initEntry (check_init_os he hc ?_))
  unfold Builtin.«OSError.__init__»
  dsimp only
  wp_walk
  exact h
theorem call_os {Q : Value → Shared → Prop}
    (h : ∀ h' e t2, (∀ b o, s.heap.get? b = some o → h'.get? b = some o) → s.heap.get? e = none → s.heap.get? t2 = none → h'.get? e = some { cls := .type "OSError", data := .fields (osFields (.ref t2)) } → h'.get? t2 = some { cls := .type "tuple", data := .seq [Value.str x t].toArray } → Q (.ref e) { s with heap := h' }) :
    wpAny (model prog w) A (call (.type "OSError") [.str x t]) Q E s := by
  refine wpAny_call (codeAny_of_tree ?_)
  show wpAny _ _ (callAny (.type "OSError") ⟨[.str x t], []⟩) _ _ s
  simp only [callAny]
  refine wpAny_pure ⟨Code.quiet_builtin _ (by decide +kernel), codeAny_builtin entry_type_call ?_⟩
  rw [Around.under_plain (weight_type_call "OSError" _ _) (by first | rfl | kernel_rfl | decide +kernel)]
  unfold Builtin.«type.__call__»
  dsimp only
  rw [if_neg (by rw [os_notType]; exact Bool.false_ne_true), if_neg (by rw [os_canNew]; exact Bool.false_ne_true)]
  obtain ⟨l, hl, hle⟩ := os_mro
  refine wpAny_bind (wpAny_of_eq (os_typeCall _) (wpAny_bind (wpAny_of_eq hl ?_)))
  rw [if_neg (by rw [hle]; exact Bool.false_ne_true)]
  refine wpAny_bind (wpAny_of_eq os_madeBy ?_)
  dsimp only
  refine wpAny_bind (wpAny_pure (wpAny_bind (wpAny_holding (new_os fun h' e t2 k n1 n2 he ht => ?_))))
  refine wpAny_bind (wpAny_isInstance (T := "OSError") ⟨_, he, rfl⟩ os_self ?_)
  simp only [Bool.not_true, Bool.false_eq_true, if_false]
  refine wpAny_bind (wpAny_holding (wpAny_callSpecial?_slot (name := Str.ofString "__init__") (T := "OSError") ⟨_, he, rfl⟩ os_init
    (init_os he rfl ?_)))
  dsimp only
  rw [if_neg (by simp)]
  exact wpAny_pure (h _ _ _ k n1 n2 he ht)
end
section
variable {M : Model} {A : Around} {E : Value → Shared → Prop} {s : Shared} {env : Env}
/-- an OSError made of one text -/
structure MadeOs (h h' : Heap) (e t2 : Addr) (v : Value) : Prop where
  keeps : ∀ b o, h.get? b = some o → h'.get? b = some o
  new : h.get? e = none
  new2 : h.get? t2 = none
  there : h'.get? e = some { cls := .type "OSError", data := .fields (osFields (.ref t2)) }
  args : h'.get? t2 = some { cls := .type "tuple", data := .seq [v].toArray }
def RaisableOs (E : Value → Shared → Prop) (v : Value) (s₁ : Shared) : Prop :=
  ∃ a t2, v = .ref a ∧ s₁.heap.get? a = some { cls := .type "OSError", data := .fields (osFields (.ref t2)) } ∧ E (.ref a) s₁
theorem call_os_raise {prog : Program} {w : World} {x : Str} {t : Tok} (h : ∀ h' e t2, MadeOs s.heap h' e t2 (.str x t) → E (.ref e) { s with heap := h' }) :
    wpAny (model prog w) A (call (.type "OSError") [.str x t]) (RaisableOs E) E s :=
  call_os fun h' e t2 k n1 n2 he ht => ⟨e, t2, rfl, he, h h' e t2 ⟨k, n1, n2, he, ht⟩⟩
theorem Raise_os {e : PySem.Expr} {pos : Pos} {Q : Flow → Shared → Prop} (hh : A.handled = none)
    (h : wpAny M A (eval e env) (RaisableOs E) E s) : wpAny M A (exec (.Raise (some e) none pos) env) Q E s := by
  show wpAny M A (do standAt pos; raiseStmt env (some (do let v ← eval e env; standAt pos; pure v)) none) Q E s
  refine wpAny_bind (wpAny_standAt ?_)
  unfold raiseStmt
  dsimp only
  refine wpAny_bind (wpAny_bind (wpAny_mono h (fun v s₁ h₁ => wpAny_bind (wpAny_standAt (wpAny_pure ?_))) fun _ _ x => x))
  obtain ⟨a, t2, rfl, ha, hE⟩ := h₁
  have hT : s₁.TypeIs (.ref a) "OSError" := ⟨_, ha, rfl⟩
  have hnt : ∀ {Q' : Bool → Shared → Prop}, Q' false s₁ → wpAny M A (isType (.ref a)) Q' E s₁ := by
    intro Q' hq
    simp only [isType, loadHead]
    exact wpAny_bind (wpAny_loadPart ha (wpAny_pure hq))
  refine wpAny_bind (wpAny_pure ?_)
  dsimp only
  refine wpAny_bind (wpAny_holding ?_)
  unfold excFromValue isExcClass
  refine wpAny_bind (wpAny_bind (hnt ?_))
  simp only [Bool.false_eq_true, if_false]
  refine wpAny_pure ?_
  simp only [Bool.false_eq_true, if_false]
  refine wpAny_bind (wpAny_isInstance hT os_base ?_)
  simp only [if_true]
  refine wpAny_pure ?_
  refine wpAny_bind (hnt ?_)
  simp only [Bool.false_eq_true, if_false]
  unfold raisedInstance
  refine wpAny_bind (wpAny_bind (wpAny_typeOf hT (wpAny_bind (m := typeOf (.type "OSError")) (wpAny_pure ?_))))
  rw [if_pos os_metaType]
  refine wpAny_pure ?_
  unfold setFlight raiseNew
  refine wpAny_bind (wpAny_bind (wpAny_field (x := Value.none) ha rfl rfl ?_))
  rw [if_neg (show ¬ (Value.none != Value.none) = true by decide)]
  refine wpAny_pure (wpAny_bind (wpAny_handled ?_))
  rw [hh]
  first
    | exact wpAny_throw hE
    | exact wpAny_bind (wpAny_pure (wpAny_throw hE))
end
end Mine
end

/- part E2 -/
section
open PySem.Builtin
namespace Mine
/-- the fields of an OSError made of one text, with its traceback -/
abbrev osF (t : Addr) (x : Value) : Array Value := #[.ref t, x, .none, .none, .bool false, .none, OSError.osUnset, OSError.osUnset, OSError.osUnset, OSError.osUnset, rawInt (-1)]
theorem osF_set (t : Addr) (x y : Value) : (osF t x).setIfInBounds 1 y = osF t y := rfl
/-- such an exception in flight -/
def OsFl (base : Heap) (e t : Addr) (fl : Value) (h : Heap) : Prop :=
  ∃ oe T oT ts, h.get? e = some oe ∧ oe.cls = .type "OSError" ∧ oe.data = .fields (osF t (.ref T)) ∧ base.get? T = none ∧ T ≠ e ∧ h.get? T = some oT ∧ oT.data = .fields ts ∧ ts[3]? = some fl
theorem OsFl.traced {base h : Heap} {e t : Addr} {fl : Value} (x : OsFl base e t fl h) : h.TracedAtW base e (.type "OSError") (.ref t) fl := by
  obtain ⟨oe, T, oT, ts, he, hc, hd, hn, hne, hT, hdT, h3⟩ := x
  exact ⟨oe, _, T, oT, ts, he, ⟨hc, rfl⟩, hd, rfl, hn, hne, hT, hdT, h3⟩
theorem OsFl.keeps {base h h' : Heap} {e t : Addr} {fl : Value} (x : OsFl base e t fl h) (k : ∀ b o, h.get? b = some o → h'.get? b = some o) : OsFl base e t fl h' := by
  obtain ⟨oe, T, oT, ts, he, hc, hd, hn, hne, hT, hdT, h3⟩ := x
  exact ⟨oe, T, oT, ts, k _ _ he, hc, hd, hn, hne, k _ _ hT, hdT, h3⟩
section
variable {M : Model} {A : Around} {E : Value → Shared → Prop} {s : Shared}
theorem os_entry {base : Heap} {env : Env} {outer : List Env} {L e t : Addr} {oe : Obj} {x head : Value} {hadNext : Bool} {Q : Unit → Shared → Prop}
    (hfr : A.frames = some (env :: outer)) (hl : s.heap.FunFrames base (env :: outer)) (hf : env.frame = some L)
    (he : s.heap.get? e = some oe) (hkb : base.StaysIn s.heap) (hen : base.get? e = none) (hc : oe.cls = .type "OSError") (hd : oe.data = .fields (osF t x))
    (h : ∀ h', base.StaysIn h' → h'.FunFrames base (env :: outer) → OsFl base e t (rawInt L) h' → s.heap.UpToSlots h' → Q () { s with heap := h' }) :
    wpAny M A (do let a ← frameOf env; let pl ← entryPlaceOf L hadNext; let b ← EntryCells.newEntry head a .none (rawInt L) .none pl; setField (.ref e) 1 b) Q E s := by
  have hene : e ∉ (env :: outer).filterMap (·.frame) := fun hm => by
    obtain ⟨_, o, ho, hnf⟩ := hl.mem hm
    rw [he] at ho; injection ho with ho; subst ho; exact hnf _ hd
  refine wpAny_bind (wpAny_frameOf_fun hfr hl hf fun h₁ hs₁ => ?_)
  refine wpAny_bind (wpAny_entryPlaceOf fun pl hpl => ?_)
  unfold EntryCells.newEntry newFields
  refine wpAny_bind (wpAny_newObj_type ?_ (hpl.sizeOk5 _ _ _ _ _))
  have he₁ : h₁.get? e = some oe := (hs₁.2.1 e hene).trans he
  have kb₁ : base.StaysIn h₁ := fun b o hbo => (hs₁.2.1 b fun hm => by rw [(hl.mem hm).1] at hbo; cases hbo).trans (hkb b o hbo)
  have he₂ := Heap.get?_push_of_some (h := h₁) { cls := .type "traceback", dict := none, data := .fields ([head, .ref L, .none, rawInt L, .none] ++ (if pl.isEmpty then List.replicate 6 Value.none else pl)).toArray } he₁
  have hTe : h₁.objs.size ≠ e := Nat.ne_of_gt (Heap.lt_size he₁)
  have hd₃ := Obj.data_mapFields hd (·.setIfInBounds 1 (Value.ref h₁.objs.size))
  have he₃ := Heap.get?_update_self (Obj.mapFields (·.setIfInBounds 1 (Value.ref h₁.objs.size))) he₂ (Obj.isFreed_of_fields hd₃)
  have keep : ∀ b o, b ≠ e → h₁.get? b = some o →
      ((h₁.push { cls := .type "traceback", dict := none, data := .fields ([head, .ref L, .none, rawInt L, .none] ++ (if pl.isEmpty then List.replicate 6 Value.none else pl)).toArray }).update e (Obj.mapFields (·.setIfInBounds 1 (Value.ref h₁.objs.size)))).get? b = some o :=
    fun b o hbe hb => by
      rw [Heap.get?_update_other _ _ (Ne.symm hbe)]
      exact Heap.get?_push_of_some _ hb
  have noRecord : ∀ b o, s.heap.get? b = some o → (∀ vs, o.data ≠ .fields vs) → b ≠ e := fun b o hb hnf q => by
    rw [q, he] at hb; injection hb with hb; subst hb; exact hnf _ hd
  refine wpAny_setField he₂ hd (show 1 < 11 by decide) (h _ ?_ ?_ ?_ ?_)
  · exact fun b o hbo => keep b o (fun q => by rw [q, hen] at hbo; cases hbo) (kb₁ b o hbo)
  · refine hl.of_keeps fun b o hb hnf => ?_
    obtain ⟨sl, hs⟩ := hs₁.2.2 b o hb
    exact ⟨_, keep b _ (noRecord b o hb hnf) hs, rfl⟩
  · have hT₃ := (Heap.get?_update_other (h₁.push { cls := .type "traceback", dict := none, data := .fields ([head, .ref L, .none, rawInt L, .none] ++ (if pl.isEmpty then List.replicate 6 Value.none else pl)).toArray })
      (Obj.mapFields (·.setIfInBounds 1 (Value.ref h₁.objs.size))) (Ne.symm hTe)).trans (Heap.get?_push_size h₁ rfl)
    exact ⟨_, h₁.objs.size, _, _, he₃, (Obj.cls_mapFields _ _).trans hc, hd₃, kb₁.fresh, hTe, hT₃, rfl, by first | (simp; done) | (rcases hpl with rfl | ⟨_, _, _, _, _, _, _, rfl⟩ <;> simp)⟩
  · intro b o hb hnf
    obtain ⟨sl, hs⟩ := hs₁.2.2 b o hb
    exact ⟨sl, keep b _ (noRecord b o hb hnf) hs⟩
theorem os_note1 {base : Heap} {env : Env} {outer : List Env} {L e t : Addr} {oe : Obj} {Q : Unit → Shared → Prop}
    (hfr : A.frames = some (env :: outer)) (hl : s.heap.FunFrames base (env :: outer)) (hf : env.frame = some L)
    (he : s.heap.get? e = some oe) (hkb : base.StaysIn s.heap) (hen : base.get? e = none) (hc : oe.cls = .type "OSError") (hd : oe.data = .fields (osF t .none))
    (h : ∀ h', base.StaysIn h' → h'.FunFrames base (env :: outer) → OsFl base e t (rawInt L) h' → s.heap.UpToSlots h' → Q () { s with heap := h' }) : wpAny M A (noteFrame (.ref e) env) Q E s := by
  unfold noteFrame
  simp only [hf]
  refine wpAny_bind (wpAny_field (x := .none) he hd rfl ?_)
  rw [if_neg (by decide)]
  exact os_entry hfr hl hf he hkb hen hc hd h
theorem os_note {base : Heap} {env : Env} {outer : List Env} {L e t : Addr} {Q : Unit → Shared → Prop}
    (hfr : A.frames = some (env :: outer)) (hl : s.heap.FunFrames base (env :: outer)) (hf : env.frame = some L) (ht : OsFl base e t .none s.heap) (hkb : base.StaysIn s.heap) (hen : base.get? e = none)
    (h : ∀ h', base.StaysIn h' → h'.FunFrames base (env :: outer) → OsFl base e t (rawInt L) h' → s.heap.UpToSlots h' → Q () { s with heap := h' }) : wpAny M A (noteFrame (.ref e) env) Q E s := by
  obtain ⟨oe, T, oT, ts, he, hc, hd, hnT, hTe, hT, hdT, h3⟩ := ht
  unfold noteFrame
  simp only [hf]
  refine wpAny_bind (wpAny_field (x := .ref T) he hd rfl ?_)
  rw [if_pos (show (Value.ref T != Value.none) = true from by simp)]
  refine wpAny_bind (wpAny_field hT hdT h3 ?_)
  rw [if_neg (show ¬ ((Value.none == rawInt L) = true) from by simp [rawInt])]
  refine wpAny_bind (wpAny_setField hT hdT (Array.getElem?_eq_some_iff.mp h3).1 ?_)
  have other : ∀ b, b ≠ T → (s.heap.update T (Obj.mapFields (·.setIfInBounds 3 Value.none))).get? b = s.heap.get? b := fun b hb => Heap.get?_update_other _ _ (Ne.symm hb)
  have noRecord : ∀ b o, s.heap.get? b = some o → (∀ vs, o.data ≠ .fields vs) → b ≠ T := fun b o hb hnf q => by
    rw [q, hT] at hb; injection hb with hb; subst hb; exact hnf ts hdT
  refine os_entry hfr (hl.of_keeps fun b o hb hnf => ⟨o, (other b (noRecord b o hb hnf)).trans hb, rfl⟩) hf ((other e (Ne.symm hTe)).trans he)
    (fun b o hbo => (other b fun q => by rw [q, hnT] at hbo; cases hbo).trans (hkb b o hbo)) hen hc hd
    fun h' x1 x2 x3 x4 => h h' x1 x2 x3 fun b o hb hnf => x4 b o ((other b (noRecord b o hb hnf)).trans hb) hnf
theorem os_set {base : Heap} {l : List Env} {e t : Addr} {fl : Value} {Q : Unit → Shared → Prop}
    (hkb : base.StaysIn s.heap) (hl : s.heap.FunFrames base l) (ht : OsFl base e t fl s.heap)
    (h : ∀ h', base.StaysIn h' → h'.FunFrames base l → OsFl base e t .none h' → s.heap.UpToSlots h' → Q () { s with heap := h' }) :
    wpAny M A (setFlight (.ref e) none) Q E s := by
  obtain ⟨oe, T, oT, ts, he, hc, hd, hnT, hTe, hT, hdT, h3⟩ := ht
  have hsz3 : 3 < ts.size := (Array.getElem?_eq_some_iff.mp h3).1
  have other : ∀ b, b ≠ T → (s.heap.update T (Obj.mapFields (·.setIfInBounds 3 ((none : Option Addr).elim Value.none fun f => rawInt f)))).get? b = s.heap.get? b :=
    fun b hb => Heap.get?_update_other _ _ (Ne.symm hb)
  have noRecord : ∀ b o, s.heap.get? b = some o → (∀ vs, o.data ≠ .fields vs) → b ≠ T := fun b o hb hnf q => by
    rw [q, hT] at hb; injection hb with hb; subst hb; exact hnf ts hdT
  unfold setFlight
  refine wpAny_bind (wpAny_field (x := .ref T) he hd rfl ?_)
  rw [if_pos (show (Value.ref T != Value.none) = true from by simp)]
  refine wpAny_setField hT hdT hsz3 (h _ (fun b o hbo => (other b fun q => by rw [q, hnT] at hbo; cases hbo).trans (hkb b o hbo))
    (hl.of_keeps fun b o hb hnf => ⟨o, (other b (noRecord b o hb hnf)).trans hb, rfl⟩) ?_ fun b o hb hnf => ⟨o.slots, (other b (noRecord b o hb hnf)).trans hb⟩)
  exact ⟨oe, T, _, _, (other e (Ne.symm hTe)).trans he, hc, hd, hnT, hTe, Heap.get?_update_self _ hT (Obj.isFreed_of_fields (Obj.data_mapFields hdT _)), Obj.data_mapFields hdT _, by simp [hsz3]⟩
end
/-- an OSError that has left the frames ahead of l -/
def RaisedOs (base G : Heap) (l : List Env) (e t : Addr) (vs : List Value) (news : List (Addr × Obj)) (h : Heap) : Prop :=
  (∃ B, base.StaysIn B ∧ (∀ b o, G.get? b = some o → b ∉ l.filterMap (·.frame) → B.get? b = some o) ∧ (∀ q ∈ news, B.get? q.1 = some q.2 ∧ G.get? q.1 = none ∧ base.get? q.1 = none) ∧
    (B.StaysIn h ∧ B.get? e = none ∧ h.FunFrames B l ∧ OsFl B e t .none h) ∧ B.get? t = none) ∧ h.TupAt t vs
theorem RaisedOs.toS {base G h : Heap} {l : List Env} {e t : Addr} {vs : List Value} {news : List (Addr × Obj)} (R : RaisedOs base G l e t vs news h) : RaisedS base G l e (.type "OSError") t vs news h := by
  obtain ⟨⟨B, hB, hBG, hl, ⟨f1, f2, f3, f4⟩, hnew⟩, htup⟩ := R
  exact ⟨⟨B, hB, hBG, hl, ⟨f1, f2, f3, f4.traced⟩, hnew⟩, htup⟩
theorem RaisedOs.keeps {base G h h' : Heap} {l : List Env} {e t : Addr} {vs : List Value} {news : List (Addr × Obj)} (R : RaisedOs base G l e t vs news h) (k : ∀ b o, h.get? b = some o → h'.get? b = some o) : RaisedOs base G l e t vs news h' := by
  obtain ⟨⟨B, hB, hBG, hl, ⟨f1, f2, f3, f4⟩, hnew⟩, htup⟩ := R
  exact ⟨⟨B, hB, hBG, hl, ⟨fun b o q => k b o (f1 b o q), f2, f3.of_keeps fun b o q _ => ⟨o, k b o q, rfl⟩, f4.keeps k⟩, hnew⟩, htup.of_slots (Heap.UpToSlots.of_keeps k)⟩
section
variable {M : Model} {A : Around} {E : Value → Shared → Prop} {s' : Shared} {base g g₂ h : Heap} {outer : List Env} {L a e t : Addr} {m : Str → Option Value} {name : Str} {scope : Scope} {cd : Value} {Q : Unit → Shared → Prop} {news : List (Addr × Obj)}
theorem leave_os {v : Value} (K : Below A base outer g) (hx : MadeOs h s'.heap e t v) (F : Fr g L h m) (N : News g L h news)
    (hQ : ∀ h', RaisedOs base g outer e t [v] news h' → g.UpToSlots h' → Q () { s' with heap := h' }) (hk : scope.kind = .function := by rfl) :
    wpAny M (A.deeper (envOf name scope L a cd)) (leaving (envOf name scope L a cd) (.ref e)) Q E s' := by
  have K' := K.push (name := name) (a := a) (cd := cd) F hk
  have hin : ∀ env ∈ (envOf name scope L a cd :: outer), ∀ b, env.frame = some b → b ∈ (envOf name scope L a cd :: outer).filterMap (·.frame) := fun env he b hb => List.mem_filterMap.mpr ⟨env, he, hb⟩
  have st : base.StaysIn (hideAll h ((envOf name scope L a cd :: outer).filterMap (·.frame))) := fun b o q => hideAll_get _ (K'.stays b o q) fun hm => by
    rw [(K'.frames.mem hm).1] at q; cases q
  have sg : ∀ b o, g.get? b = some o → b ∉ outer.filterMap (·.frame) → (hideAll h ((envOf name scope L a cd :: outer).filterMap (·.frame))).get? b = some o := fun b o q nm => hideAll_get _ (F.keep b o q) fun hm => by
    rcases kts_mem hm with z | z
    · rw [z, kts_self F] at q
      cases q
    · exact nm z
  have hl : ∀ q ∈ news, (hideAll h ((envOf name scope L a cd :: outer).filterMap (·.frame))).get? q.1 = some q.2 ∧ g.get? q.1 = none ∧ base.get? q.1 = none := fun q hq => by
    refine ⟨hideAll_get _ (N q hq).1 fun hm => ?_, (N q hq).2.2, fresh_of_stays K.stays (N q hq).2.2⟩
    obtain ⟨env, he, hf⟩ := List.mem_filterMap.mp hm
    rcases List.mem_cons.mp he with rfl | he
    · exact (N q hq).2.1 (Option.some.inj hf).symm
    · obtain ⟨o, ho, _⟩ := (K.frames.mem (List.mem_filterMap.mpr ⟨env, he, hf⟩)).2
      rw [(N q hq).2.2] at ho; cases ho
  have fresh : ∀ b, h.get? b = none → (hideAll h ((envOf name scope L a cd :: outer).filterMap (·.frame))).get? b = none := fun b hb => by
    cases q : (hideAll h ((envOf name scope L a cd :: outer).filterMap (·.frame))).get? b with
    | none => rfl
    | some o => have := of_hideAll _ q; rw [hb] at this; cases this
  unfold leaving
  refine wpAny_bind (os_note1 K'.stack ((funFrames_hide K'.frames hin).of_keeps fun b o hb _ => ⟨o, hx.keeps b o hb, rfl⟩) rfl hx.there (fun b o hb => hx.keeps b o (of_hideAll _ hb)) (fresh e hx.new) rfl rfl fun h₁ x1 x2 x3 x4 => ?_)
  refine os_set x1 x2 x3 fun h₂ y1 y2 y3 y4 => ?_
  have u2 := x4.trans y4
  exact hQ h₂ ⟨⟨_, st, sg, hl, ⟨y1, fresh e hx.new, y2.2.2, y3⟩, fresh t hx.new2⟩, Heap.TupAt.of_slots ⟨_, _, hx.args, rfl, rfl⟩ u2⟩ (((Heap.UpToSlots.of_keeps F.keep).trans (Heap.UpToSlots.of_keeps hx.keeps)).trans u2)
end
/-- what the clause finds: the exception and its arguments -/
def GotOs (news : List (Addr × Obj)) (e t : Addr) (v : Value) : Prop :=
  ∃ oe ot nt T, (e, oe) ∈ news ∧ (t, ot) ∈ news ∧ oe.cls = .type "OSError" ∧ oe.data = .fields (osF t (.ref T)) ∧ ot.cls = .type "tuple" ∧ ot.data = .seq [v].toArray nt
section
variable {prog : Program} {w : World} {A₀ : Around} {E : Value → Shared → Prop} {s' : Shared} {base g g₀ G : Heap} {outer : List Env} {L a e t : Addr} {m : Str → Option Value} {name : Str} {scope : Scope} {cd : Value}
  {v : Value} {vs : List Value} {n : Str} {b₀ : Stmt} {suite : List Stmt} {pos : Pos} {rest hs : List ExceptHandler} {Q : Flow → Shared → Prop} {news : List (Addr × Obj)} {KF : Frag} {tt : Expr} {nm : Option Str} {body : List Stmt}
  {p : Program} {loose : List Str} {mean : ExcName → Option Value} {mg mb : Str → Option Value}
theorem look_os (R : RaisedOs base G (envOf name scope L a cd :: outer) e t vs news s'.heap) (K : Below A₀ base outer g) (hsm : G.UpToSlots s'.heap)
    (k : ∀ h', RaisedOs base G (envOf name scope L a cd :: outer) e t vs news h' → G.UpToSlots h' → wpAny (model prog w) (A₀.deeper (envOf name scope L a cd)) (handleBy (.ref e) (envOf name scope L a cd) hs) Q E { s' with heap := h' }) :
    wpAny (model prog w) (A₀.deeper (envOf name scope L a cd)) (noteFrame (.ref e) (envOf name scope L a cd))
      (fun _ s₂ => wpAny (model prog w) (A₀.deeper (envOf name scope L a cd)) (setFlight (.ref e) none) (fun _ s₃ =>
        wpAny (model prog w) (A₀.deeper (envOf name scope L a cd)) (handleBy (.ref e) (envOf name scope L a cd) hs) Q E s₃) E s₂) E s' := by
  obtain ⟨⟨B, hB, hBG, hl, ⟨f1, f2, f3, f4⟩, hnew⟩, htup⟩ := R
  refine os_note (Around.frames_deeper K.stack) f3 rfl f4 f1 f2 fun h₁ x1 x2 x3 x4 => ?_
  refine os_set x1 x2 x3 fun h₂ y1 y2 y3 y4 => ?_
  have u2 := x4.trans y4
  exact k h₂ ⟨⟨B, hB, hBG, hl, ⟨y1, f2, y2, y3⟩, hnew⟩, htup.of_slots u2⟩ (hsm.trans u2)
theorem hit_os (R : RaisedOs base G (envOf name scope L a cd :: outer) e t [v] news s'.heap) (F : Fr g L G m) (K : Below A₀ base outer g) (hsm : G.UpToSlots s'.heap) (XB : KF.In base) (TB : Top p loose mean mg mb base)
    (D : KtsDicts (outer.filterMap (·.frame)) g) (T0 : KtsTurn (outer.filterMap (·.frame)) g₀ g) (T : KtsTest prog w KF p loose mg mb name scope L a cd (.type "OSError") tt true)
    (k : ∀ h' g' news₂ tk, KtsTurn (outer.filterMap (·.frame)) g₀ g' → Fr g' L h' (fun y => if y = n then some (.ref e) else m y) → News g' L h' news₂ → GotOs news₂ e t v → News g' L h' news → Below A₀ base outer g' → KF.In g' → Top p loose mean mg mb g' → KtsDicts (outer.filterMap (·.frame)) g' →
      wpAny (model prog w) ((A₀.deeper (envOf name scope L a cd)).mark (some (.ref e))) (execs (b₀ :: suite) (envOf name scope L a cd))
        (fun f s₄ => wpAny (model prog w) (A₀.deeper (envOf name scope L a cd)) (do bindName (envOf name scope L a cd) n .none; unbindBehindTheSuite (envOf name scope L a cd) n pos) (fun _ s₅ => Q f s₅) E s₄)
        (AsSuiteRaised (model prog w) ((A₀.deeper (envOf name scope L a cd)).mark (some (.ref e))) (envOf name scope L a cd) n pos (notedBy (model prog w) ((A₀.deeper (envOf name scope L a cd)).mark (some (.ref e))) (envOf name scope L a cd) (cameBackBy (model prog w) (A₀.deeper (envOf name scope L a cd)) (envOf name scope L a cd) E)))
        { s' with heap := h', toks := tk })
    (hk : scope.kind = .function := by rfl) (hlo : (envOf name scope L a cd).kindOf n = some .local := by rfl) :
    wpAny (model prog w) (A₀.deeper (envOf name scope L a cd)) (handleBy (.ref e) (envOf name scope L a cd) (.ExceptHandler (some tt) (some n) (b₀ :: suite) pos :: rest)) Q E s' := by
  have R' := R.toS
  obtain ⟨⟨B₁, _, hBG₁, _, hfl₁, _⟩, _⟩ := R'
  obtain ⟨g₅, T₅, F₅, K₅⟩ := kts_ground K F hBG₁ hfl₁.1 hsm
  refine wpAny_handleBy_cons (codeAny_handlers_test (T _ _ _ _ g₅ e m F₅ (XB.keeps K₅.stays) (topRead_of (TB.keeps K₅.stays)) R.toS.toSN.ty fun h₅ kp => ?_)) (by intro q; cases q)
  have hsm₅ : G.UpToSlots h₅ := hsm.trans (Heap.UpToSlots.of_keeps kp)
  obtain ⟨⟨B, hB, hBG, hl, ⟨f1, f2, f3, f4⟩, hnew⟩, htup⟩ := R.keeps kp
  have hL : B.get? L = none := by
    obtain ⟨_, ⟨L', _, hf, hn', _⟩, _⟩ := f3
    obtain rfl : L = L' := Option.some.inj hf
    exact hn'
  refine codeAny_handlers_suite_as ?_
  refine os_set f1 f3 f4 fun h₆ y1 y2 y3 hsm₆ => ?_
  obtain ⟨g₆, T₆, F₆, K₆⟩ := kts_ground K F hBG y1 (hsm₅.trans hsm₆)
  obtain ⟨oe, T', oT, ts, hoe, hoec, hoed, _⟩ := y3
  obtain ⟨ot, nt, hot, hotc, hotd⟩ := htup.of_slots hsm₆
  have ne₆ : g₆.get? e = none := T₆.none_ _ (kts_fresh F hBG f2 fun o ho m => by
    obtain ⟨_, o', ho', hd⟩ := K.frames.mem m
    rw [ho] at ho'
    cases ho'
    obtain ⟨sl, hs⟩ := (hsm₅.trans hsm₆) _ _ (F.keep _ _ ho) hd
    rw [hoe] at hs
    cases hs
    exact hd _ hoed)
  have nt₆ : g₆.get? t = none := T₆.none_ _ (kts_fresh F hBG hnew fun o ho m => by
    obtain ⟨o', es, n', ho', hd⟩ := D _ m
    rw [ho] at ho'
    cases ho'
    obtain ⟨sl, hs⟩ := (hsm₅.trans hsm₆) _ _ (F.keep _ _ ho) (fun vs q => by rw [hd] at q; cases q)
    rw [hot] at hs
    cases hs
    have z := hd.symm.trans hotd
    cases z)
  have N₆ := News.more F₆ (News.more F₆ News.nil hot (fun es n q => by rw [hotd] at q; cases q) nt₆) hoe (fun es n q => by rw [hoed] at q; cases q) ne₆
  have Nl : News g₆ L h₆ news := fun q hq => ⟨y1 _ _ (hl q hq).1, (fun z => by have := (hl q hq).1; rw [z, hL] at this; cases this), T₆.none_ _ (kts_none F.keep (hl q hq).2.1)⟩
  have X₆ : KF.In g₆ := XB.keeps K₆.stays
  have P₆ : Top p loose mean mg mb g₆ := TB.keeps K₆.stays
  have D₆ : KtsDicts (outer.filterMap (·.frame)) g₆ := D.turn T₆
  refine stN F₆ (news := _ ++ news) (fun q hq => (List.mem_append.mp hq).elim (N₆ q) (Nl q)) (fun h₇ F₇ N₇ => ?_) hk hlo
  exact k h₇ g₆ _ _ (T0.trans T₆) F₇ (fun q hq => N₇ q (List.mem_append_left _ hq)) ⟨oe, ot, nt, T', .head _, .tail _ (.head _), hoec, hoed, hotc, hotd⟩ (fun q hq => N₇ q (List.mem_append_right _ hq)) K₆ X₆ P₆ D₆
end
end Mine
end

/- part E3 -/
section
open PySem.Builtin PySem.Builtin.Str PySem.Builtin.BaseException PySem.Builtin.Exceptions
namespace Mine
theorem os_str : Slot "OSError" "__str__" "OSError.__str__" := .of (owner := "OSError") (n := "__str__") (by rw [typeLookup_type, builtinLookup_eq_fast]; kernel_rfl) (by decide +kernel) (by decide +kernel) (by decide +kernel)
    (by first | exact .inl (by decide +kernel) | exact .inr (by decide +kernel)) (by rw [isSubtype_type]; kernel_rfl)
theorem os_strEntry : entryFor table "OSError.__str__" = some Builtin.«OSError.__str__» := entryFor_of_tree (by kernel_rfl)
theorem os_strArgs (a : Value) : argsOk "OSError.__str__" ⟨[a], []⟩ := by unfold argsOk; kernel_rfl
theorem bx_kind : builtinKind "BaseException.__str__" = some .slot := by decide +kernel
theorem bx_split : splitId "BaseException.__str__" = some ("BaseException", "__str__") := by decide +kernel
theorem bx_plain : plainId "BaseException.__str__" = true := by decide +kernel
section
variable {prog : Program} {w : World} {A : Around} {E : Value → Shared → Prop} {s : Shared} {e t : Addr} {m : Str} {tk : Tok}
theorem bexc_str {o : Obj} {vs : Array Value} {Q : Fin → Shared → Prop} (he : s.heap.get? e = some o) (hd : o.data = .fields vs) (h0 : vs[0]? = some (.ref t)) (ht : s.heap.TupAt t [.str m tk]) (hq : Q (.done (.ret (.str m tk))) s) :
    wpAny (model prog w) A (Builtin.«BaseException.__str__» ⟨[.ref e], []⟩) Q E s := by
  obtain ⟨ot, k, hto, _, htd⟩ := ht
  have hb : ∀ {M : Model} {A : Around} {Q' : Value × List Value → Shared → Prop}, Q' (.ref t, [.str m tk]) s → wpAny M A (bexcArgs (.ref e)) Q' E s := by
    intro M A Q' h
    unfold bexcArgs
    refine wpAny_bind (wpAny_field he hd h0 (wpAny_bind (wpAny_seqItems hto htd ?_)))
    show wpAny _ _ (pure (Value.ref t, [Value.str m tk])) _ _ _
    exact wpAny_pure h
  unfold Builtin.«BaseException.__str__»
  repeat (first | with_reducible refine hb ?_ | wp_step)
  exact hq
theorem os_str_entry {o : Obj} {x : Value} {Q : Value → Shared → Prop} (he : s.heap.get? e = some o) (hd : o.data = .fields (osF t x)) (ht : s.heap.TupAt t [.str m tk]) (hq : Q (.str m tk) s) (hc : o.cls = .type "OSError") :
    wpAny (model prog w) A (call (.builtin "OSError.__str__") [.ref e]) Q E s := by
  have hT : s.TypeIs (.ref e) "OSError" := ⟨o, he, hc⟩
  refine wpAny_call (codeAny_call_builtin os_str.plain os_strEntry (os_str.check _ _ _ _ _ _ _ _ hT (os_strArgs _) ?_))
  unfold Builtin.«OSError.__str__»
  dsimp only
  have hx : (osF t x).extract 6 = #[OSError.osUnset, OSError.osUnset, OSError.osUnset, OSError.osUnset, rawInt (-1)] := rfl
  have h0 : (osF t x)[0]? = some (.ref t) := rfl
  refine wpAny_bind (m := slotArgs _ _ _) (wpAny_pure ?_)
  dsimp only
  refine wpAny_bind (m := OSError.osOwn _ _) ?_
  unfold OSError.osOwn
  refine wpAny_bind (wpAny_fieldsOf he hd ?_)
  rw [if_pos (show ((osF t x).size == 11) = true from rfl)]
  refine wpAny_pure ?_
  rw [hx]
  refine wpAny_holding (vs := [OSError.osUnset, OSError.osUnset, OSError.osUnset, OSError.osUnset]) (m := if (!OSError.osIsUnset OSError.osUnset) = true then _ else _) ?_
  rw [if_neg (by decide), if_neg (by decide)]
  refine wpAny_bind (wpAny_rule ?_)
  refine wpAny_pure ⟨plainId_quiet bx_plain _, codeAny_builtin F.entry_bexc_str ?_⟩
  rw [Around.under_plainId bx_plain _]
  exact bexc_str he hd h0 ht hq
/-- the text of an own exception class that binds no text of its own -/
theorem check_bx {M : Model} {K : Frag} {C : Addr} {o : Obj} {Q : Unit → Shared → Prop} (X : K.In s.heap) (he : s.heap.get? e = some o) (hc : o.cls = .ref C) (hb : subIn K (.ref C) (.type "BaseException") = some true) (hQ : Q () s) :
    wpAny M A (checkBuiltinCall "BaseException.__str__" ⟨[.ref e], []⟩) Q E s := by
  have hi : Looks M s.heap (isInstance (.ref e) (.type "BaseException")) true := by
    refine ((Looks.ld he).andThen .now).andThen ?_
    rw [hc]
    exact looks_subIn X hb
  simp only [checkBuiltinCall, bx_kind, bx_split]
  refine wpAny_bind (hi.here ?_)
  simp only [Bool.not_true, Bool.false_eq_true, if_false]
  exact wpAny_of_eq (by kernel_rfl) hQ
theorem strOf_own {K : Frag} {C : Addr} {o : Obj} {vs : Array Value} {Q : Value → Shared → Prop} (hu : A.units < cLine) (X : K.In s.heap) (he : s.heap.get? e = some o) (hc : o.cls = .ref C) (hd : o.data = .fields vs) (h0 : vs[0]? = some (.ref t)) (ht : s.heap.TupAt t [.str m tk])
    (hb : subIn K (.ref C) (.type "BaseException") = some true) (hs : findIn K (.ref C) "__str__" = some (some (.builtin "BaseException.__str__"))) (hq : Q (.str m tk) s) :
    wpAny (model prog w) A (PySem.Builtin.Str.strOf (.ref e)) Q E s := by
  have hty : Looks (model prog w) s.heap (typeOf (.ref e)) (.ref C) := by
    refine (Looks.ld he).andThen ?_
    rw [hc]
    exact .now
  unfold PySem.Builtin.Str.strOf
  rw [show isExactStr (.ref e) = false from rfl]
  refine wpAny_bind (m := cRoomFor _ _) (wpAny_cRoomFor hu ?_)
  refine wpAny_bind (m := callSpecial? (.ref e) (Str.ofString "__str__")) ?_
  refine wpAny_bind (wpAny_bind (hty.here ((looks_findIn X hs).here ?_)))
  dsimp only
  refine wpAny_holding (wpAny_bind (wpAny_of_eq (a := (.builtin "BaseException.__str__", [.ref e])) ?_ ?_))
  · kernel_rfl
  refine wpAny_bind (wpAny_mono (Q := fun v s' => v = .str m tk ∧ s' = s) (E := E) (wpAny_call (codeAny_call_builtin bx_plain F.entry_bexc_str (check_bx X he hc hb (bexc_str he hd h0 ht ⟨rfl, rfl⟩)))) ?_ fun _ _ y => y)
  rintro _ _ ⟨rfl, rfl⟩
  refine wpAny_pure ?_
  dsimp only
  exact wpAny_bind (m := asStr? (.str m tk)) (wpAny_pure (wpAny_pure hq))
theorem strOf_os {o : Obj} {x : Value} {Q : Value → Shared → Prop} (hu : A.units < cLine) (he : s.heap.get? e = some o) (hd : o.data = .fields (osF t x)) (ht : s.heap.TupAt t [.str m tk]) (hq : Q (.str m tk) s) (hc : o.cls = .type "OSError") :
    wpAny (model prog w) A (PySem.Builtin.Str.strOf (.ref e)) Q E s := by
  have hT : s.TypeIs (.ref e) "OSError" := ⟨o, he, hc⟩
  unfold PySem.Builtin.Str.strOf
  rw [show isExactStr (.ref e) = false from rfl]
  refine wpAny_bind (m := cRoomFor _ _) (wpAny_cRoomFor hu ?_)
  refine wpAny_bind (m := callSpecial? (.ref e) (Str.ofString "__str__")) (wpAny_callSpecial?_slot (name := Str.ofString "__str__") hT os_str (os_str_entry he hd ht ?_ hc))
  dsimp only
  exact wpAny_bind (m := asStr? (.str m tk)) (wpAny_pure (wpAny_pure hq))
theorem str_os {o : Obj} {x : Value} {Q : Value → Shared → Prop} (hu : A.units + 2 < cLine) (he : s.heap.get? e = some o) (hd : o.data = .fields (osF t x)) (ht : s.heap.TupAt t [.str m tk]) (hc : o.cls = .type "OSError") (h : Q (.str m tk) s) :
    wpAny (model prog w) A (call (.type "str") [.ref e]) Q E s :=
  callType_new F.called_str (by decide) (F.typeCall_str_1 _) (F.newCall_str_1 _) (fun obj => F.args_object_init_2 obj _) F.entry_str_new
    (meets_str_new (S := fun A' R s' => A'.units + 1 < cLine ∧ s'.heap.get? e = some o ∧ s'.heap.TupAt t [.str m tk] ∧ R (.ok (.ret (.str m tk))) s')
      fun _ _ A' _ _ hq => strOf_os (A := A'.in1) hq.1 hq.2.1 hd hq.2.2.1 hq.2.2.2 hc)
    ⟨(show A.units + 1 + 1 < cLine from hu), he, ht, typeIs_str _ _ _, h⟩
theorem str_own {K : Frag} {C : Addr} {o : Obj} {vs : Array Value} {Q : Value → Shared → Prop} (hu : A.units + 2 < cLine) (X : K.In s.heap) (he : s.heap.get? e = some o) (hc : o.cls = .ref C) (hd : o.data = .fields vs) (h0 : vs[0]? = some (.ref t)) (ht : s.heap.TupAt t [.str m tk])
    (hb : subIn K (.ref C) (.type "BaseException") = some true) (hs : findIn K (.ref C) "__str__" = some (some (.builtin "BaseException.__str__"))) (h : Q (.str m tk) s) :
    wpAny (model prog w) A (call (.type "str") [.ref e]) Q E s :=
  callType_new F.called_str (by decide) (F.typeCall_str_1 _) (F.newCall_str_1 _) (fun obj => F.args_object_init_2 obj _) F.entry_str_new
    (meets_str_new (S := fun A' R s' => A'.units + 1 < cLine ∧ K.In s'.heap ∧ s'.heap.get? e = some o ∧ s'.heap.TupAt t [.str m tk] ∧ R (.ok (.ret (.str m tk))) s')
      fun _ _ A' _ _ hq => strOf_own (A := A'.in1) hq.1 hq.2.1 hq.2.2.1 hc hd h0 hq.2.2.2.1 hb hs hq.2.2.2.2)
    ⟨(show A.units + 1 + 1 < cLine from hu), X, he, ht, typeIs_str _ _ _, h⟩
end
section
variable {prog : Program} {w : World} {A : Around} {E : Value → Shared → Prop} {h₀ h : Heap} {g : Array GenState} {d : Drawn} {tk : Nat} {os : OsState} {L e t : Addr} {news : List (Addr × Obj)} {m : Str} {u : Tok}
theorem str_gotOs {Q : Value → Shared → Prop} (N : News h₀ L h news) (G : GotOs news e t (.str m u)) (hu : A.units + 2 < cLine) (hq : Q (.str m u) ⟨h, g, d, tk, os⟩) : wpAny (model prog w) A (call (.type "str") [.ref e]) Q E ⟨h, g, d, tk, os⟩ := by
  obtain ⟨oe, ot, nt, T, h1, h2, hc, hd, htc, htd⟩ := G
  exact str_os hu (N.get h1) hd ⟨ot, nt, N.get h2, htc, htd⟩ hc hq
theorem str_gotOwn {K : Frag} {C : Addr} {mm : Str → Option Value} {Q : Value → Shared → Prop} (F : Fr h₀ L h mm) (X : K.In h₀) (N : News h₀ L h news) (G : Got news e t (.ref C) [.str m u]) (hu : A.units + 2 < cLine) (hb : subIn K (.ref C) (.type "BaseException") = some true) (hs : findIn K (.ref C) "__str__" = some (some (.builtin "BaseException.__str__"))) (hq : Q (.str m u) ⟨h, g, d, tk, os⟩) :
    wpAny (model prog w) A (call (.type "str") [.ref e]) Q E ⟨h, g, d, tk, os⟩ := by
  obtain ⟨oe, ot, ws, nt, h1, h2, hc, hd, h0, htc, htd⟩ := G
  exact str_own hu (X.keeps F.keep) (N.get h1) hc hd h0 ⟨ot, nt, N.get h2, htc, htd⟩ hb hs hq
end
end Mine
end

/- part S0 -/
section
open PySem.Builtin
namespace Mine
/-- the number that octets spell, the least first -/
def leN (l : List UInt8) : Nat := l.foldr (fun c n => n * 256 + c.toNat) 0
theorem le_arr (l : List UInt8) : Struct.natOf false l.toArray = leN l := by
  unfold Struct.natOf Memoryview.littleEndian leN
  rw [if_neg Bool.false_ne_true, ← Array.foldr_toList]
theorem map_of {l : List UInt8} {n : Nat} (hl : l.length = n) : (List.range n).map (fun i => l.getD i 0) = l := by
  apply List.ext_getElem
  · simp [hl]
  · intro i h1 h2
    simp [h2]
theorem as_map {l : List UInt8} {n : Nat} (hl : l.length = n) : ∃ f, l = (List.range n).map f := ⟨_, (map_of hl).symm⟩
abbrev fmtA : Struct.Format := { bigEndian := false, native := false, codes := [⟨'s', 4, 0, 1⟩, ⟨'L', 1, 4, 4⟩, ⟨'Q', 1, 8, 8⟩, ⟨'L', 1, 16, 4⟩], size := 20, items := 4 }
theorem fmtA_eq (t : Tok) : Struct.moduleFormat (.str "<4sLQL" t) = pure fmtA := by kernel_rfl
abbrev fmtB : Struct.Format := { bigEndian := false, native := false, codes := [⟨'s', 4, 0, 1⟩, ⟨'Q', 1, 4, 8⟩, ⟨'H', 2, 12, 2⟩, ⟨'L', 2, 16, 4⟩, ⟨'Q', 4, 24, 8⟩], size := 56, items := 10 }
theorem fmtB_eq (t : Tok) : Struct.moduleFormat (.str "<4sQ2H2L4Q" t) = pure fmtB := by kernel_rfl
theorem unpA (f : Nat → UInt8) (id : String) : Struct.unpacked id fmtA ((List.range 20).map f).toArray 0 = (do
    let v0 ← mkBytes (((List.range 20).map f).take 4).toArray
    let v1 ← mkInt (Int.ofNat (Struct.natOf false ((((List.range 20).map f).drop 4).take 4).toArray))
    let v2 ← mkInt (Int.ofNat (Struct.natOf false ((((List.range 20).map f).drop 8).take 8).toArray))
    let v3 ← mkInt (Int.ofNat (Struct.natOf false ((((List.range 20).map f).drop 16).take 4).toArray))
    newTuple [v0, v1, v2, v3]) := by kernel_rfl
theorem cutA {l : List UInt8} (hl : l.length = 20) (id : String) : Struct.unpacked id fmtA l.toArray 0 = (do
    let v0 ← mkBytes (l.take 4).toArray
    let v1 ← mkInt (Int.ofNat (Struct.natOf false ((l.drop 4).take 4).toArray))
    let v2 ← mkInt (Int.ofNat (Struct.natOf false ((l.drop 8).take 8).toArray))
    let v3 ← mkInt (Int.ofNat (Struct.natOf false ((l.drop 16).take 4).toArray))
    newTuple [v0, v1, v2, v3]) := by
  obtain ⟨f, rfl⟩ := as_map hl
  exact unpA f id
theorem unpB (f : Nat → UInt8) (id : String) : Struct.unpacked id fmtB ((List.range 56).map f).toArray 0 = (do
    let v0 ← mkBytes (((List.range 56).map f).take 4).toArray
    let v1 ← mkInt (Int.ofNat (Struct.natOf false ((((List.range 56).map f).drop 4).take 8).toArray))
    let v2 ← mkInt (Int.ofNat (Struct.natOf false ((((List.range 56).map f).drop 12).take 2).toArray))
    let v3 ← mkInt (Int.ofNat (Struct.natOf false ((((List.range 56).map f).drop 14).take 2).toArray))
    let v4 ← mkInt (Int.ofNat (Struct.natOf false ((((List.range 56).map f).drop 16).take 4).toArray))
    let v5 ← mkInt (Int.ofNat (Struct.natOf false ((((List.range 56).map f).drop 20).take 4).toArray))
    let v6 ← mkInt (Int.ofNat (Struct.natOf false ((((List.range 56).map f).drop 24).take 8).toArray))
    let v7 ← mkInt (Int.ofNat (Struct.natOf false ((((List.range 56).map f).drop 32).take 8).toArray))
    let v8 ← mkInt (Int.ofNat (Struct.natOf false ((((List.range 56).map f).drop 40).take 8).toArray))
    let v9 ← mkInt (Int.ofNat (Struct.natOf false ((((List.range 56).map f).drop 48).take 8).toArray))
    newTuple [v0, v1, v2, v3, v4, v5, v6, v7, v8, v9]) := by kernel_rfl
theorem cutB {l : List UInt8} (hl : l.length = 56) (id : String) : Struct.unpacked id fmtB l.toArray 0 = (do
    let v0 ← mkBytes (l.take 4).toArray
    let v1 ← mkInt (Int.ofNat (Struct.natOf false ((l.drop 4).take 8).toArray))
    let v2 ← mkInt (Int.ofNat (Struct.natOf false ((l.drop 12).take 2).toArray))
    let v3 ← mkInt (Int.ofNat (Struct.natOf false ((l.drop 14).take 2).toArray))
    let v4 ← mkInt (Int.ofNat (Struct.natOf false ((l.drop 16).take 4).toArray))
    let v5 ← mkInt (Int.ofNat (Struct.natOf false ((l.drop 20).take 4).toArray))
    let v6 ← mkInt (Int.ofNat (Struct.natOf false ((l.drop 24).take 8).toArray))
    let v7 ← mkInt (Int.ofNat (Struct.natOf false ((l.drop 32).take 8).toArray))
    let v8 ← mkInt (Int.ofNat (Struct.natOf false ((l.drop 40).take 8).toArray))
    let v9 ← mkInt (Int.ofNat (Struct.natOf false ((l.drop 48).take 8).toArray))
    newTuple [v0, v1, v2, v3, v4, v5, v6, v7, v8, v9]) := by
  obtain ⟨f, rfl⟩ := as_map hl
  exact unpB f id
theorem up_plain : plainId "_struct.unpack" = true := by decide +kernel
theorem up_entry : entryFor table "_struct.unpack" = some Builtin.«_struct.unpack» := entryFor_of_tree (by kernel_rfl)
theorem up_check (x y : Value) : checkBuiltinCall "_struct.unpack" ⟨[x, y], []⟩ = pure () := by kernel_rfl
theorem bytes_like (b : Array UInt8) (t : Tok) (id : String) : Bytes.bytesLike id (.bytes b t) = pure b := PySem.W.KBd.like_eq
section
variable {prog : Program} {w : World} {A : Around} {E : Value → Shared → Prop} {s : Shared} {h₀ : Heap} {L : Addr} {m : Str → Option Value} {news : List (Addr × Obj)}
theorem unpack_A {l : List UInt8} {u t : Tok} {Q : Value → Shared → Prop} (hl : l.length = 20) (F : Fr h₀ L s.heap m) (N : News h₀ L s.heap news)
    (h : ∀ h', Fr h₀ L h' m → News h₀ L h' ((s.heap.objs.size, { cls := .type "tuple", data := .seq [.bytes (l.take 4).toArray s.toks, .int ((leN ((l.drop 4).take 4) : Nat) : Int) (s.toks + 1), .int ((leN ((l.drop 8).take 8) : Nat) : Int) (s.toks + 2), .int ((leN ((l.drop 16).take 4) : Nat) : Int) (s.toks + 3)].toArray }) :: news) → Q (.ref s.heap.objs.size) { s with heap := h', toks := s.toks + 4 }) :
    wpAny (model prog w) A (call (.builtin "_struct.unpack") [.str "<4sLQL" u, .bytes l.toArray t]) Q E s := by
  refine wpAny_call (codeAny_call_builtin up_plain up_entry (wpAny_of_eq (up_check _ _) ?_))
  unfold Builtin.«_struct.unpack»
  dsimp only
  refine wpAny_bind (m := noKeywords _ _) (wpAny_pure (wpAny_bind (m := checkCount _ _ _ _) (wpAny_of_eq (a := ()) (by kernel_rfl) (wpAny_bind (wpAny_of_eq (fmtA_eq u) ?_)))))
  refine wpAny_bind (m := Bytes.bytesLike _ _) (wpAny_of_eq (bytes_like _ _ _) ?_)
  refine wpAny_bind (m := pure _) (wpAny_pure ?_)
  have e0 : ¬ ((l.toArray.size != fmtA.size) = true) := by
    rw [List.size_toArray, hl]; exact Bool.false_ne_true
  rw [if_neg e0]
  rw [cutA hl]
  simp only [le_arr]
  have e1 : ¬ ((List.take 4 l).toArray.size > sizeLine) := by
    rw [List.size_toArray, List.length_take, hl, sizeLine_eq]; decide
  refine wpAny_bind ?_
  unfold mkBytes
  rw [if_neg e1]
  wp_walk
  exact (h _ (F.push _) (N.push F _))
theorem unpack_B {l : List UInt8} {u t : Tok} {Q : Value → Shared → Prop} (hl : l.length = 56) (F : Fr h₀ L s.heap m) (N : News h₀ L s.heap news)
    (h : ∀ h', Fr h₀ L h' m → News h₀ L h' ((s.heap.objs.size, { cls := .type "tuple", data := .seq [.bytes (l.take 4).toArray s.toks, .int ((leN ((l.drop 4).take 8) : Nat) : Int) (s.toks + 1), .int ((leN ((l.drop 12).take 2) : Nat) : Int) (s.toks + 2), .int ((leN ((l.drop 14).take 2) : Nat) : Int) (s.toks + 3), .int ((leN ((l.drop 16).take 4) : Nat) : Int) (s.toks + 4), .int ((leN ((l.drop 20).take 4) : Nat) : Int) (s.toks + 5), .int ((leN ((l.drop 24).take 8) : Nat) : Int) (s.toks + 6), .int ((leN ((l.drop 32).take 8) : Nat) : Int) (s.toks + 7), .int ((leN ((l.drop 40).take 8) : Nat) : Int) (s.toks + 8), .int ((leN ((l.drop 48).take 8) : Nat) : Int) (s.toks + 9)].toArray }) :: news) → Q (.ref s.heap.objs.size) { s with heap := h', toks := s.toks + 10 }) :
    wpAny (model prog w) A (call (.builtin "_struct.unpack") [.str "<4sQ2H2L4Q" u, .bytes l.toArray t]) Q E s := by
  refine wpAny_call (codeAny_call_builtin up_plain up_entry (wpAny_of_eq (up_check _ _) ?_))
  unfold Builtin.«_struct.unpack»
  dsimp only
  refine wpAny_bind (m := noKeywords _ _) (wpAny_pure (wpAny_bind (m := checkCount _ _ _ _) (wpAny_of_eq (a := ()) (by kernel_rfl) (wpAny_bind (wpAny_of_eq (fmtB_eq u) ?_)))))
  refine wpAny_bind (m := Bytes.bytesLike _ _) (wpAny_of_eq (bytes_like _ _ _) ?_)
  refine wpAny_bind (m := pure _) (wpAny_pure ?_)
  have e0 : ¬ ((l.toArray.size != fmtB.size) = true) := by
    rw [List.size_toArray, hl]; exact Bool.false_ne_true
  rw [if_neg e0]
  rw [cutB hl]
  simp only [le_arr]
  have e1 : ¬ ((List.take 4 l).toArray.size > sizeLine) := by
    rw [List.size_toArray, List.length_take, hl, sizeLine_eq]; decide
  refine wpAny_bind ?_
  unfold mkBytes
  rw [if_neg e1]
  wp_walk
  exact (h _ (F.push _) (N.push F _))
end
end Mine
end

/- part K0 -/
section
open PySem.Builtin PySem.Builtin.Bytes
namespace Mine
theorem slot_bytes_starts : Slot "bytes" "startswith" "bytes.startswith" :=
  .of (owner := "bytes") (n := "startswith") (by rw [typeLookup_type, builtinLookup_eq_fast]; kernel_rfl) (by decide +kernel) (by decide +kernel) (by decide +kernel)
    (by first | exact .inl (by decide +kernel) | exact .inr (by decide +kernel)) (by rw [isSubtype_type]; kernel_rfl)
theorem type_bytes_starts : typeOf (.builtin "bytes.startswith") = pure (.type "method_descriptor") := by show builtinType _ = _; rw [builtinType_eq_fast]; kernel_rfl
theorem entry_bytes_starts : entryFor table "bytes.startswith" = some Builtin.«bytes.startswith» := entryFor_of_tree (by kernel_rfl)
theorem args_bytes_starts (a b : Value) : argsOk "bytes.startswith" ⟨[a, b], []⟩ := by
  unfold argsOk; rw [signature?_of (id := "bytes.startswith") (n := ['h', 't', 'i', 'w', 's', 't', 'r', 'a', 't', 's']) (o := ['s', 'e', 't', 'y', 'b']) (by kernel_rfl) FB.owner_bytes]; kernel_rfl
theorem method_starts {M : Model} {A : Around} {E : Value → Shared → Prop} {s : Shared} {b : Array UInt8} {t : Tok} {pl : Sem Bool} {Q : Value × List Value → Shared → Prop} (h : Q (.builtin "bytes.startswith", [.bytes b t]) s) : wpAny M A (getMethod (.bytes b t) "startswith" pl) Q E s := by
  with_reducible exact KBd.method_of (.bytes b t) (typeIs_bytes _ _ _) slot_bytes_starts type_bytes_starts KBd.noRef h
theorem bytes_notTuple : isSubtype (.type "bytes") (.type "tuple") = pure false := by rw [isSubtype_type]; kernel_rfl
def startsB (b c : Array UInt8) : Bool :=
  if (window b.size none none).snd - (window b.size none none).fst < c.size then false else b.extract (window b.size none none).fst.toNat ((window b.size none none).fst.toNat + c.size) == c
theorem meets_starts (b c : Array UInt8) (t u : Tok) :
    Meets («bytes.startswith» ⟨[.bytes b t, .bytes c u], []⟩) (fun _ R s => R (.ok (.ret (.bool (startsB b c)))) s) := by
  refine Meets.of_wp fun prog w A R s h => ?_
  unfold «bytes.startswith» tailMatchM
  dsimp only
  wp_walk
  refine wpAny_of_eq bytes_notTuple ?_
  rw [if_neg Bool.false_ne_true]
  refine wpAny_bind (wpAny_of_eq KBy.buffer_eq ?_)
  exact wpAny_pure ⟨_, rfl, h⟩
theorem starts_val (x c : List UInt8) : startsB x.toArray c.toArray = decide (x.take c.length = c) := by
  unfold startsB
  have e : window x.toArray.size none none = (0, (x.length : Int)) := by
    simp only [window, List.size_toArray, Option.getD_none, Prod.mk.injEq]
    constructor
    · exact if_neg (by omega)
    · split <;> omega
  rw [e]
  simp only [Int.sub_zero, Int.toNat_zero, Nat.zero_add]
  split
  · rename_i hlt
    have : x.take c.length ≠ c := fun h => by
      have := congrArg List.length h
      rw [List.length_take] at this
      simp only [List.size_toArray] at hlt
      omega
    simp [this]
  · rw [List.size_toArray, List.extract_toArray]
    rw [List.extract_eq_take_drop, List.drop_zero, Nat.sub_zero]
    by_cases h : x.take c.length = c
    · rw [h]; simp
    · rw [decide_eq_false h]
      exact beq_eq_false_iff_ne.mpr fun z => h (congrArg Array.toList z)
theorem starts_L {prog : Program} {w : World} {A : Around} {E : Value → Shared → Prop} {s : Shared} {x c : List UInt8} {t u : Tok} {Q : Value → Shared → Prop} (h : Q (.bool (decide (x.take c.length = c))) s) :
    wpAny (model prog w) A (call (.builtin "bytes.startswith") [.bytes x.toArray t, .bytes c.toArray u]) Q E s :=
  call_meets slot_bytes_starts (typeIs_bytes _ _ _) entry_bytes_starts (args_bytes_starts _ _) (meets_starts x.toArray c.toArray t u) (by rw [starts_val]; exact h)
end Mine
end

/- part A0 -/
namespace Mine
abbrev n4 (x : List UInt8) (i : Nat) : Int := ((leN (List.take 4 (List.drop i x)) : Nat) : Int)
abbrev n8 (x : List UInt8) (i : Nat) : Int := ((leN (List.take 8 (List.drop i x)) : Nat) : Int)
/-- a locator is read at p - 20, and points ahead of itself -/
structure Loc (b : List UInt8) (p : Int) (x : List UInt8) : Prop where
  h0 : ¬p - 20 < 0
  hx : List.take (Int.toNat 20) (List.drop (p - 20).toNat b) = x
  h1 : (x.length : Int) = 20
  h2 : (List.take 4 x != [80, 75, 6, 7]) = false
  h3 : n4 x 4 = 0
  h4 : ¬1 < n4 x 16
  h5 : ¬p - 20 - 56 < n8 x 8
/-- the record that the locator leads to, and what lies between -/
inductive Rec (b : List UInt8) (p : Int) (x : List UInt8) : List UInt8 → Int → Prop
  | fst (y : List UInt8) (hy : List.take (Int.toNat 56) (List.drop (n8 x 8).toNat b) = y) (h1 : (y.length : Int) = 56) (h2 : List.take [(80 : UInt8), 75, 6, 6].length y = [80, 75, 6, 6]) : Rec b p x y (p - 20 - 56 - n8 x 8)
  | snd (y z : List UInt8) (hy : List.take (Int.toNat 56) (List.drop (n8 x 8).toNat b) = y) (h1 : (y.length : Int) = 56) (h2 : ¬List.take [(80 : UInt8), 75, 6, 6].length y = [80, 75, 6, 6]) (h3 : n8 x 8 ≠ p - 20 - 56)
      (hz : List.take (Int.toNat 56) (List.drop (p - 20 - 56).toNat b) = z) (h4 : (z.length : Int) = 56) (h5 : List.take [(80 : UInt8), 75, 6, 6].length z = [80, 75, 6, 6]) : Rec b p x z 0
/-- what _law_asked says at a place, and the record that it writes into the row -/
inductive AskEnd (b : List UInt8) (p : Int) : PySem.Str → Option (List UInt8 × Int) → Prop
  | short (h : p - 20 < 0) : AskEnd b p "the very list" none
  | io1 (x : List UInt8) (h0 : ¬p - 20 < 0) (hx : List.take (Int.toNat 20) (List.drop (p - 20).toNat b) = x) (h1 : (x.length : Int) ≠ 20) : AskEnd b p "Unknown I/O error" none
  | nosig (x : List UInt8) (h0 : ¬p - 20 < 0) (hx : List.take (Int.toNat 20) (List.drop (p - 20).toNat b) = x) (h1 : (x.length : Int) = 20) (h2 : (List.take 4 x != [80, 75, 6, 7]) = true) : AskEnd b p "the very list" none
  | span1 (x : List UInt8) (h0 : ¬p - 20 < 0) (hx : List.take (Int.toNat 20) (List.drop (p - 20).toNat b) = x) (h1 : (x.length : Int) = 20) (h2 : (List.take 4 x != [80, 75, 6, 7]) = false) (h3 : n4 x 4 ≠ 0) : AskEnd b p "zipfiles that span multiple disks are not supported" none
  | span2 (x : List UInt8) (h0 : ¬p - 20 < 0) (hx : List.take (Int.toNat 20) (List.drop (p - 20).toNat b) = x) (h1 : (x.length : Int) = 20) (h2 : (List.take 4 x != [80, 75, 6, 7]) = false) (h3 : n4 x 4 = 0) (h4 : 1 < n4 x 16) : AskEnd b p "zipfiles that span multiple disks are not supported" none
  | far (x : List UInt8) (h0 : ¬p - 20 < 0) (hx : List.take (Int.toNat 20) (List.drop (p - 20).toNat b) = x) (h1 : (x.length : Int) = 20) (h2 : (List.take 4 x != [80, 75, 6, 7]) = false) (h3 : n4 x 4 = 0) (h4 : ¬1 < n4 x 16) (h5 : p - 20 - 56 < n8 x 8) : AskEnd b p "Corrupt zip64 end of central directory locator" none
  | io2 (x y : List UInt8) (l : Loc b p x) (hy : List.take (Int.toNat 56) (List.drop (n8 x 8).toNat b) = y) (h1 : (y.length : Int) ≠ 56) : AskEnd b p "Unknown I/O error" none
  | lost (x y : List UInt8) (l : Loc b p x) (hy : List.take (Int.toNat 56) (List.drop (n8 x 8).toNat b) = y) (h1 : (y.length : Int) = 56) (h2 : ¬List.take [(80 : UInt8), 75, 6, 6].length y = [80, 75, 6, 6]) (h3 : n8 x 8 = p - 20 - 56) : AskEnd b p "Zip64 end of central directory record not found" none
  | io3 (x y z : List UInt8) (l : Loc b p x) (hy : List.take (Int.toNat 56) (List.drop (n8 x 8).toNat b) = y) (h1 : (y.length : Int) = 56) (h2 : ¬List.take [(80 : UInt8), 75, 6, 6].length y = [80, 75, 6, 6]) (h3 : n8 x 8 ≠ p - 20 - 56)
      (hz : List.take (Int.toNat 56) (List.drop (p - 20 - 56).toNat b) = z) (h4 : (z.length : Int) ≠ 56) : AskEnd b p "Unknown I/O error" none
  | lost2 (x y z : List UInt8) (l : Loc b p x) (hy : List.take (Int.toNat 56) (List.drop (n8 x 8).toNat b) = y) (h1 : (y.length : Int) = 56) (h2 : ¬List.take [(80 : UInt8), 75, 6, 6].length y = [80, 75, 6, 6]) (h3 : n8 x 8 ≠ p - 20 - 56)
      (hz : List.take (Int.toNat 56) (List.drop (p - 20 - 56).toNat b) = z) (h4 : (z.length : Int) = 56) (h5 : ¬List.take [(80 : UInt8), 75, 6, 6].length z = [80, 75, 6, 6]) : AskEnd b p "Zip64 end of central directory record not found" none
  | bad1 (x y : List UInt8) (e : Int) (l : Loc b p x) (r : Rec b p x y e) (h1 : n8 y 48 + n8 y 40 ≠ n8 x 8) : AskEnd b p "Corrupt zip64 end of central directory record" none
  | bad2 (x y : List UInt8) (e : Int) (l : Loc b p x) (r : Rec b p x y e) (h1 : n8 y 48 + n8 y 40 = n8 x 8) (h2 : n8 y 4 + 12 ≠ 56 + e) : AskEnd b p "Corrupt zip64 end of central directory record" none
  | done (x y : List UInt8) (e : Int) (l : Loc b p x) (r : Rec b p x y e) (h1 : n8 y 48 + n8 y 40 = n8 x 8) (h2 : n8 y 4 + 12 = 56 + e) : AskEnd b p "the very list" (some (y, p - 20 - 56 - e))
/-- the row as it is left -/
def RowIs (v0 v1 v2 v3 v4 v5 v6 v7 v8 v9 : Value) (tl : List Value) : Option (List UInt8 × Int) → List Value → Prop
  | none, r => r = v0 :: v1 :: v2 :: v3 :: v4 :: v5 :: v6 :: v7 :: v8 :: v9 :: tl
  | some (y, loc), r => ∃ t0 t1 t2 t3 t4 t5 t6 t9 : Tok, r = .bytes (List.take 4 y).toArray t0 :: .int (n4 y 16) t1 :: .int (n4 y 20) t2 :: .int (n8 y 24) t3 :: .int (n8 y 32) t4 :: .int (n8 y 40) t5 :: .int (n8 y 48) t6 :: v7 :: v8 :: .int loc t9 :: tl
theorem led_T {h₀ h : Heap} {L T : Addr} {D : Disk} {P : Params} {o : Int} {t : Tok} {ob : Obj} {e : Addr × Obj} (N : News h₀ L h [(T, ob), (D.f2, D.oR), (D.c2, D.oc2), (D.f1, D.oS), (D.c1, D.oc1), (D.x, instObj 107 D.d), (D.d, dskDict P D.q1 D.q2 D.q3 D.q4 D.f1 D.f2 o t), (D.k2, D.ok2), (D.k1, D.ok1), e]) :
    News h₀ L h ((T, ob) :: (D.led P o t ++ [e])) := N
theorem upd_led {D : Disk} {P : Params} {o : Int} {t : Tok} {r : Addr} {ob ob' : Obj} (h : ∀ P o t, r ∉ (D.led P o t).map (·.1)) :
    Upd r ob ob' [(D.f2, D.oR), (D.c2, D.oc2), (D.f1, D.oS), (D.c1, D.oc1), (D.x, instObj 107 D.d), (D.d, dskDict P D.q1 D.q2 D.q3 D.q4 D.f1 D.f2 o t), (D.k2, D.ok2), (D.k1, D.ok1), (r, ob)]
      [(D.f2, D.oR), (D.c2, D.oc2), (D.f1, D.oS), (D.c1, D.oc1), (D.x, instObj 107 D.d), (D.d, dskDict P D.q1 D.q2 D.q3 D.q4 D.f1 D.f2 o t), (D.k2, D.ok2), (D.k1, D.ok1), (r, ob')] := by
  have h' := h P o t
  simp only [Disk.led, List.map_cons, List.map_nil, List.mem_cons, List.not_mem_nil, or_false, not_or] at h'
  obtain ⟨a1, a2, a3, a4, a5, a6, a7, a8⟩ := h'
  exact .tail (Ne.symm a1) (.tail (Ne.symm a2) (.tail (Ne.symm a3) (.tail (Ne.symm a4) (.tail (Ne.symm a5) (.tail (Ne.symm a6) (.tail (Ne.symm a7) (.tail (Ne.symm a8) (.head fun p hp => nomatch hp))))))))
end Mine

/- part P0 -/
namespace Mine
/-- four octets that stand at a place -/
def Hit (a b c d : UInt8) (l : List UInt8) (q : Nat) : Prop := List.take 4 (List.drop q l) = [a, b, c, d]
theorem Hit.skip {a b c d : UInt8} {pre l : List UInt8} {q : Nat} (hp : ∀ x ∈ pre, x ≠ a) (h : Hit a b c d (pre ++ l) q) : pre.length ≤ q ∧ Hit a b c d l (q - pre.length) := by
  by_cases hq : pre.length ≤ q
  · refine ⟨hq, ?_⟩
    unfold Hit at h ⊢
    rw [List.drop_append, List.drop_eq_nil_of_le hq, List.nil_append] at h
    exact h
  · exfalso
    unfold Hit at h
    have hlt : q < pre.length := by omega
    have e : List.drop q pre = pre[q] :: List.drop (q + 1) pre := List.drop_eq_getElem_cons hlt
    rw [List.drop_append, e, List.cons_append, List.take_succ_cons] at h
    exact hp _ (List.getElem_mem hlt) (List.cons.inj h).1
theorem Hit.two {d x y : UInt8} {l : List UInt8} {q : Nat} (h : Hit 80 75 6 d ([x, y, 0, 0] ++ l) q) : 4 ≤ q ∧ Hit 80 75 6 d l (q - 4) := by
  rcases q with _ | _ | _ | _ | q
  · simp [Hit] at h
  · simp [Hit] at h
  · simp [Hit] at h
  · simp [Hit] at h
  · exact ⟨by omega, h⟩
theorem Hit.sig {c d : UInt8} {l : List UInt8} {q : Nat} (hc : c ≠ d) (hc' : c ≠ 80) (h : Hit 80 75 6 d ([80, 75, 6, c] ++ l) q) : 4 ≤ q ∧ Hit 80 75 6 d l (q - 4) := by
  rcases q with _ | _ | _ | _ | q
  · simp [Hit] at h; exact absurd h hc
  · simp [Hit] at h
  · simp [Hit] at h
  · simp [Hit, hc'] at h
  · exact ⟨by omega, h⟩
theorem Hit.sig' {d : UInt8} {l : List UInt8} {q : Nat} (hc' : d ≠ 80) (h : Hit 80 75 6 d ([80, 75, 6, d] ++ l) q) : q = 0 ∨ 4 ≤ q ∧ Hit 80 75 6 d l (q - 4) := by
  rcases q with _ | _ | _ | _ | q
  · exact .inl rfl
  · simp [Hit] at h
  · simp [Hit] at h
  · simp [Hit, hc'] at h
  · exact .inr ⟨by omega, h⟩
/-- the octet of a number at a place -/
def ok (k : Int) (i : Nat) : UInt8 := ((k / 256 ^ i) % 256).toNat.toUInt8
theorem octL4 (k : Int) : octL k 4 = [ok k 0, ok k 1, ok k 2, ok k 3] := rfl
theorem octL8 (k : Int) : octL k 8 = [ok k 0, ok k 1, ok k 2, ok k 3, ok k 4, ok k 5, ok k 6, ok k 7] := rfl
theorem ok_zero {k : Int} {i : Nat} (h0 : 0 ≤ k) (h1 : k < 256 ^ i) : ok k i = 0 := by
  unfold ok
  rw [Int.ediv_eq_zero_of_lt h0 h1]
  rfl
theorem small_pow {k : Int} {i : Nat} (h1 : k < 65536) (hi : 2 ≤ i) : k < 256 ^ i := by
  obtain ⟨j, rfl⟩ : ∃ j, i = 2 + j := ⟨i - 2, by omega⟩
  have e : (0 : Int) < 256 ^ j := Int.pow_pos (by decide)
  rw [Int.pow_add]
  generalize (256 : Int) ^ j = z at e ⊢
  omega
theorem octL4s {k : Int} (h0 : 0 ≤ k) (h1 : k < 65536) : octL k 4 = [ok k 0, ok k 1, 0, 0] := by
  rw [octL4, ok_zero h0 (small_pow h1 (i := 2) (by decide)), ok_zero h0 (small_pow h1 (i := 3) (by decide))]
theorem octL8s {k : Int} (h0 : 0 ≤ k) (h1 : k < 65536) : octL k 8 = [ok k 0, ok k 1, 0, 0] ++ ([0, 0, 0, 0] : List UInt8) := by
  rw [octL8, ok_zero h0 (small_pow h1 (i := 2) (by decide)), ok_zero h0 (small_pow h1 (i := 3) (by decide)), ok_zero h0 (small_pow h1 (i := 4) (by decide)), ok_zero h0 (small_pow h1 (i := 5) (by decide)), ok_zero h0 (small_pow h1 (i := 6) (by decide)), ok_zero h0 (small_pow h1 (i := 7) (by decide))]
  rfl
theorem octL8w {j k : Int} (h0 : 0 ≤ j) (h1 : j < 65536) (k0 : 0 ≤ k) (k1 : k < 65536) : ∃ a b c d, octL (j + k * 4294967296) 8 = [a, b, 0, 0] ++ ([c, d, 0, 0] : List UInt8) := by
  refine ⟨ok (j + k * 4294967296) 0, ok (j + k * 4294967296) 1, ok (j + k * 4294967296) 4, ok (j + k * 4294967296) 5, ?_⟩
  rw [octL8]
  have e2 : ok (j + k * 4294967296) 2 = 0 := by
    unfold ok
    have : (j + k * 4294967296) / 256 ^ 2 % 256 = 0 := by omega
    rw [this]; rfl
  have e3 : ok (j + k * 4294967296) 3 = 0 := by
    unfold ok
    have : (j + k * 4294967296) / 256 ^ 3 % 256 = 0 := by omega
    rw [this]; rfl
  have e6 : ok (j + k * 4294967296) 6 = 0 := by
    unfold ok
    have : (j + k * 4294967296) / 256 ^ 6 % 256 = 0 := by omega
    rw [this]; rfl
  have e7 : ok (j + k * 4294967296) 7 = 0 := by
    unfold ok
    have : (j + k * 4294967296) / 256 ^ 7 % 256 = 0 := by omega
    rw [this]; rfl
  rw [e2, e3, e6, e7]; rfl
theorem Hit.s4 {d : UInt8} {k : Int} {l : List UInt8} {q : Nat} (h0 : 0 ≤ k) (h1 : k < 65536) (h : Hit 80 75 6 d (octL k 4 ++ l) q) : 4 ≤ q ∧ Hit 80 75 6 d l (q - 4) := by
  rw [octL4s h0 h1] at h
  exact h.two
theorem Hit.s8 {d : UInt8} {k : Int} {l : List UInt8} {q : Nat} (h0 : 0 ≤ k) (h1 : k < 65536) (h : Hit 80 75 6 d (octL k 8 ++ l) q) : 8 ≤ q ∧ Hit 80 75 6 d l (q - 8) := by
  rw [octL8s h0 h1, List.append_assoc] at h
  obtain ⟨a, h⟩ := h.two
  obtain ⟨b, h⟩ := h.two
  exact ⟨by omega, by rw [show q - 8 = q - 4 - 4 by omega]; exact h⟩
theorem Hit.w8 {d : UInt8} {j k : Int} {l : List UInt8} {q : Nat} (h0 : 0 ≤ j) (h1 : j < 65536) (k0 : 0 ≤ k) (k1 : k < 65536) (h : Hit 80 75 6 d (octL (j + k * 4294967296) 8 ++ l) q) : 8 ≤ q ∧ Hit 80 75 6 d l (q - 8) := by
  obtain ⟨a, b, c, e, E⟩ := octL8w h0 h1 k0 k1
  rw [E, List.append_assoc] at h
  obtain ⟨a, h⟩ := h.two
  obtain ⟨b, h⟩ := h.two
  exact ⟨by omega, by rw [show q - 8 = q - 4 - 4 by omega]; exact h⟩
theorem Hit.far8 {d : UInt8} {i : Int} {l : List UInt8} {q : Nat} (h0 : -4 ≤ i) (h1 : i ≤ 1) (h : Hit 80 75 6 d (octL (1099511627776 + i) 8 ++ l) q) : 8 ≤ q ∧ Hit 80 75 6 d l (q - 8) := by
  have e : ∀ x ∈ octL (1099511627776 + i) 8, x ≠ 80 := by
    have : i = -4 ∨ i = -3 ∨ i = -2 ∨ i = -1 ∨ i = 0 ∨ i = 1 := by omega
    rcases this with rfl | rfl | rfl | rfl | rfl | rfl <;> decide +kernel
  have := h.skip e
  rwa [octL_length] at this
theorem octL_succ (k : Int) (c : Nat) : octL k (c + 1) = ok k 0 :: octL (k / 256) c := by
  unfold octL ok
  rw [List.range_succ_eq_map, List.map_cons, List.map_map]
  congr 1
  apply List.map_congr_left
  intro i _
  simp only [Function.comp]
  rw [Int.pow_succ', Int.ediv_ediv_of_nonneg (by decide)]
theorem ok_toNat (k : Int) : ((ok k 0).toNat : Int) = k % 256 := by
  unfold ok
  rw [Int.pow_zero, Int.ediv_one]
  have h : (k % 256).toNat < 256 := by omega
  have : ((k % 256).toNat.toUInt8).toNat = (k % 256).toNat := by
    simp only [Nat.toUInt8_eq, UInt8.toNat_ofNat']
    omega
  rw [this]; omega
theorem leN_octL (c : Nat) : ∀ k : Int, 0 ≤ k → k < 256 ^ c → ((leN (octL k c) : Nat) : Int) = k := by
  induction c with
  | zero => intro k h0 h1; rw [Int.pow_zero] at h1; have : k = 0 := by omega
            subst this; rfl
  | succ c ih =>
    intro k h0 h1
    rw [octL_succ]
    have h := ih (k / 256) (by omega) (by rw [Int.pow_succ] at h1; omega)
    show (((leN (octL (k / 256) c)) * 256 + (ok k 0).toNat : Nat) : Int) = k
    rw [Int.natCast_add, Int.natCast_mul, h, ok_toNat]
    show k / 256 * 256 + k % 256 = k
    omega
end Mine

/- part P1 -/
namespace Mine
def aheadL (n : Int) : List UInt8 := List.take (dg n 0).toNat [97, 98, 99, 100, 101, 102, 103, 104, 105]
def foldL (n : Int) : List UInt8 := List.take (dg n 1 % 5).toNat [100, 105, 114, 115]
def moreL (n : Int) : List UInt8 := List.take (dg n 2 % 7).toNat [101, 120, 116, 114, 97, 115]
def tailL (n : Int) : List UInt8 := List.take (dg n 10 % 7).toNat [98, 101, 104, 105, 110, 100]
def recL (n : Int) : List UInt8 := sig1 n ++ (octL (sizeV n) 8 ++ (octL 2949165 4 ++ (octL (n % 65536) 4 ++ (octL (n / 3 % 65536) 4 ++ (octL (n / 5 % 65536 + n / 7 % 65536 * 4294967296) 8 ++ (octL (n / 11 % 65536) 8 ++ (octL (dg n 1 % 5) 8 ++ octL (toldV n - dg n 1 % 5 + slipV n) 8)))))))
def locL (n : Int) : List UInt8 := sig2 n ++ (octL (awayV n) 4 ++ (octL (toldV n) 8 ++ octL (disksV n) 4))
theorem caseL_parts (n : Int) : caseL n = aheadL n ++ (foldL n ++ (recL n ++ (moreL n ++ (locL n ++ tailL n)))) := by
  unfold caseL aheadL foldL moreL tailL recL locL
  simp only [List.append_assoc]
  rfl
theorem ahead_len (n : Int) : ((aheadL n).length : Int) = dg n 0 := by
  have := dg_in n 0
  unfold aheadL; simp only [List.length_take, List.length_cons, List.length_nil]; omega
theorem fold_len (n : Int) : ((foldL n).length : Int) = dg n 1 % 5 := by
  unfold foldL; simp only [List.length_take, List.length_cons, List.length_nil]; omega
theorem more_len (n : Int) : ((moreL n).length : Int) = dg n 2 % 7 := by
  unfold moreL; simp only [List.length_take, List.length_cons, List.length_nil]; omega
theorem tail_len (n : Int) : ((tailL n).length : Int) = dg n 10 % 7 := by
  unfold tailL; simp only [List.length_take, List.length_cons, List.length_nil]; omega
theorem rec_len (n : Int) : (recL n).length = 56 := by
  unfold recL; simp only [List.length_append, sig1_length, octL_length]
theorem loc_len (n : Int) : (locL n).length = 20 := by
  unfold locL; simp only [List.length_append, sig2_length, octL_length]
theorem case_len (n : Int) : ((caseL n).length : Int) = dg n 0 + dg n 1 % 5 + dg n 2 % 7 + 76 + dg n 10 % 7 := by
  rw [caseL_parts]
  simp only [List.length_append, rec_len, loc_len]
  have := ahead_len n
  have := fold_len n
  have := more_len n
  have := tail_len n
  omega
theorem take_ne {l : List UInt8} {a : UInt8} (h : ∀ x ∈ l, x ≠ a) (k : Nat) : ∀ x ∈ l.take k, x ≠ a := fun x hx => h x (List.mem_of_mem_take hx)
theorem ahead_ne (n : Int) : ∀ x ∈ aheadL n, x ≠ 80 := take_ne (by decide) _
theorem fold_ne (n : Int) : ∀ x ∈ foldL n, x ≠ 80 := take_ne (by decide) _
theorem more_ne (n : Int) : ∀ x ∈ moreL n, x ≠ 80 := take_ne (by decide) _
theorem tail_ne (n : Int) : ∀ x ∈ tailL n, x ≠ 80 := take_ne (by decide) _
theorem away_ne (n : Int) : ∀ x ∈ octL (awayV n) 4, x ≠ 80 := by
  rcases away_in n with h | h | h <;> rw [h] <;> decide +kernel
theorem disks_ne (n : Int) : ∀ x ∈ octL (disksV n) 4, x ≠ 80 := by
  rcases disks_in n with h | h | h | h <;> rw [h] <;> decide +kernel
theorem hit_nil {a b c d : UInt8} {q : Nat} (h : Hit a b c d [] q) : False := by
  unfold Hit at h; simp at h
theorem told_small {n : Int} (h : toldV n ≠ 1099511627776) : toldV n < 100 := by
  have h0 := dg_in n 0
  rcases told_cases n with e | e | e | e | e
  · rw [e]; omega
  · rw [e]; omega
  · rw [e]; omega
  · rw [e]; omega
  · exact absurd e h
theorem slip_01 (n : Int) : 0 ≤ slipV n ∧ slipV n ≤ 1 := by rcases slip_in n with e | e <;> rw [e] <;> decide
theorem small_place {n a b c : Int} (h : a < 100) (h1 : 0 ≤ c) (h2 : b ≤ 1) : a - c + b < 65536 := by omega
theorem far_place {a c : Int} (h : 0 ≤ a ∧ a ≤ 1) (h1 : 0 ≤ c) (h2 : c < 5) : -4 ≤ a - c ∧ a - c ≤ 1 := by omega
theorem Hit.told {n : Int} {l : List UInt8} {q : Nat} (h : Hit 80 75 6 7 (octL (toldV n) 8 ++ l) q) : 8 ≤ q ∧ Hit 80 75 6 7 l (q - 8) := by
  by_cases hf : toldV n = 1099511627776
  · rw [hf] at h
    exact Hit.far8 (i := 0) (by decide) (by decide) h
  · exact Hit.s8 (in_told n).1 (Int.lt_trans (told_small hf) (by decide)) h
theorem Hit.place {n : Int} {l : List UInt8} {q : Nat} (h : Hit 80 75 6 7 (octL (toldV n - dg n 1 % 5 + slipV n) 8 ++ l) q) : 8 ≤ q ∧ Hit 80 75 6 7 l (q - 8) := by
  have h1 := Int.emod_nonneg (dg n 1) (b := 5) (by decide)
  have h2 := Int.emod_lt_of_pos (dg n 1) (b := 5) (by decide)
  by_cases hf : toldV n = 1099511627776
  · have k := far_place (slip_01 n) h1 h2
    rw [hf, show (1099511627776 : Int) - dg n 1 % 5 + slipV n = 1099511627776 + (slipV n - dg n 1 % 5) by omega] at h
    exact Hit.far8 k.1 k.2 h
  · exact Hit.s8 (in_place n).1 (small_place (n := n) (told_small hf) h1 (slip_01 n).2) h
/-- the locator's signature stands at one place alone -/
theorem hit_loc {n : Int} {q : Nat} (h : Hit 80 75 6 7 (caseL n) q) : (q : Int) = dg n 0 + dg n 1 % 5 + dg n 2 % 7 + 56 ∧ dg n 9 ≠ 9 := by
  have i0 := dg_in n 0
  have i1 := dg_in n 1
  have i2 := dg_in n 2
  have l0 := ahead_len n
  have l1 := fold_len n
  have l2 := more_len n
  have hs := size_in n
  rw [caseL_parts] at h
  obtain ⟨a0, h⟩ := Hit.skip (ahead_ne n) h
  obtain ⟨a1, h⟩ := Hit.skip (fold_ne n) h
  unfold recL at h
  simp only [List.append_assoc] at h
  have : 4 ≤ q - (aheadL n).length - (foldL n).length ∧ Hit 80 75 6 7 (octL (sizeV n) 8 ++ (octL 2949165 4 ++ (octL (n % 65536) 4 ++ (octL (n / 3 % 65536) 4 ++ (octL (n / 5 % 65536 + n / 7 % 65536 * 4294967296) 8 ++ (octL (n / 11 % 65536) 8 ++ (octL (dg n 1 % 5) 8 ++ (octL (toldV n - dg n 1 % 5 + slipV n) 8 ++ (moreL n ++ (locL n ++ tailL n)))))))))) (q - (aheadL n).length - (foldL n).length - 4) := by
    unfold sig1 at h
    split at h
    · exact Hit.sig (by decide) (by decide) h
    · exact Hit.sig (by decide) (by decide) h
  clear h
  obtain ⟨a2, h⟩ := this
  obtain ⟨a3, h⟩ := Hit.s8 (by omega) (by omega) h
  obtain ⟨a4, h⟩ := Hit.skip (pre := octL 2949165 4) (by decide +kernel) h
  rw [octL_length] at a4 h
  obtain ⟨a5, h⟩ := Hit.s4 (by omega) (by omega) h
  obtain ⟨a6, h⟩ := Hit.s4 (by omega) (by omega) h
  obtain ⟨a7, h⟩ := Hit.w8 (by omega) (by omega) (by omega) (by omega) h
  obtain ⟨a8, h⟩ := Hit.s8 (by omega) (by omega) h
  obtain ⟨a9, h⟩ := Hit.s8 (by omega) (by omega) h
  obtain ⟨a10, h⟩ := Hit.place h
  obtain ⟨a11, h⟩ := Hit.skip (more_ne n) h
  have rest : ∀ k, ¬ Hit 80 75 6 7 (octL (awayV n) 4 ++ (octL (toldV n) 8 ++ (octL (disksV n) 4 ++ tailL n))) k := fun k h => by
    obtain ⟨b0, h⟩ := Hit.skip (away_ne n) h
    obtain ⟨b1, h⟩ := Hit.told h
    obtain ⟨b2, h⟩ := Hit.skip (disks_ne n) h
    rw [← List.append_nil (tailL n)] at h
    obtain ⟨b3, h⟩ := Hit.skip (tail_ne n) h
    exact hit_nil h
  unfold locL at h
  simp only [List.append_assoc] at h
  unfold sig2 at h
  split at h
  · exact absurd (Hit.sig (by decide) (by decide) h).2 (rest _)
  · rename_i h9
    rcases Hit.sig' (by decide) h with e | ⟨_, e⟩
    · exact ⟨by omega, h9⟩
    · exact absurd e (rest _)
theorem drop_to {pre l : List UInt8} {k : Nat} (h : pre.length = k) : List.drop k (pre ++ l) = l := List.drop_left' h
theorem case_at_rec (n : Int) : List.take 56 (List.drop (dg n 0 + dg n 1 % 5).toNat (caseL n)) = recL n := by
  have i0 := dg_in n 0
  have l0 := ahead_len n
  have l1 := fold_len n
  rw [caseL_parts, ← List.append_assoc, List.drop_left' (by simp only [List.length_append]; omega), List.take_left' (rec_len n)]
theorem case_at_loc (n : Int) : List.take 20 (List.drop (dg n 0 + dg n 1 % 5 + dg n 2 % 7 + 56).toNat (caseL n)) = locL n := by
  have i0 := dg_in n 0
  have l0 := ahead_len n
  have l1 := fold_len n
  have l2 := more_len n
  have l3 := rec_len n
  rw [caseL_parts, ← List.append_assoc, ← List.append_assoc, ← List.append_assoc, List.drop_left' (by simp only [List.length_append]; omega), List.take_left' (loc_len n)]
/-- the record's signature, among the places that a locator may tell -/
theorem hit_rec {n : Int} {q : Nat} (hq : (q : Int) ≤ dg n 0 + dg n 1 % 5 + dg n 2 % 7) (h : Hit 80 75 6 6 (caseL n) q) : (q : Int) = dg n 0 + dg n 1 % 5 ∧ dg n 6 ≠ 9 := by
  have i0 := dg_in n 0
  have i1 := dg_in n 1
  have l0 := ahead_len n
  have l1 := fold_len n
  have hs := size_in n
  rw [caseL_parts] at h
  obtain ⟨a0, h⟩ := Hit.skip (ahead_ne n) h
  obtain ⟨a1, h⟩ := Hit.skip (fold_ne n) h
  unfold recL at h
  simp only [List.append_assoc] at h
  unfold sig1 at h
  split at h
  · obtain ⟨a2, h⟩ := Hit.sig (by decide) (by decide) h
    obtain ⟨a3, h⟩ := Hit.s8 (by omega) (by omega) h
    omega
  · rename_i h6
    rcases Hit.sig' (by decide) h with e | ⟨a2, e⟩
    · exact ⟨by omega, h6⟩
    · obtain ⟨a3, h⟩ := Hit.s8 (by omega) (by omega) e
      omega
theorem rec_sig {n : Int} (h6 : dg n 6 ≠ 9) : List.take 4 (recL n) = [80, 75, 6, 6] := by
  unfold recL sig1
  rw [if_neg h6]; rfl
theorem hit_at {n : Int} (h6 : dg n 6 ≠ 9) : List.take 4 (List.drop (dg n 0 + dg n 1 % 5).toNat (caseL n)) = [80, 75, 6, 6] := by
  have h := congrArg (List.take 4) (case_at_rec n)
  rw [List.take_take, rec_sig h6] at h
  exact h
theorem loc_away {n : Int} : n4 (locL n) 4 = awayV n := by
  unfold n4 locL
  rw [List.drop_left' (sig2_length n), List.take_left' (octL_length _ _)]
  exact leN_octL 4 _ (by rcases away_in n with e | e | e <;> omega) (by rcases away_in n with e | e | e <;> omega)
theorem told_0 (n : Int) : 0 ≤ toldV n ∧ toldV n ≤ 1099511627776 := by
  have i0 := dg_in n 0
  rcases told_cases n with e | e | e | e | e <;> omega
theorem loc_told {n : Int} : n8 (locL n) 8 = toldV n := by
  unfold n8 locL
  rw [← List.append_assoc, List.drop_left' (by simp only [List.length_append, sig2_length, octL_length]), List.take_left' (octL_length _ _)]
  have := told_0 n
  exact leN_octL 8 _ (by omega) (by omega)
theorem loc_disks {n : Int} : n4 (locL n) 16 = disksV n := by
  unfold n4 locL
  rw [← List.append_assoc, ← List.append_assoc, List.drop_left' (by simp only [List.length_append, sig2_length, octL_length]), List.take_of_length_le (by rw [octL_length]; exact Nat.le_refl _)]
  exact leN_octL 4 _ (by rcases disks_in n with e | e | e | e <;> omega) (by rcases disks_in n with e | e | e | e <;> omega)
section
variable {n : Int}
theorem cut_at {a b : List UInt8} {i j k : Nat} (ha : a.length = i) : List.take k (List.drop (i + j) (a ++ b)) = List.take k (List.drop j b) := by
  subst ha; rw [List.drop_append, List.drop_eq_nil_of_le (Nat.le_add_right _ _), List.nil_append, Nat.add_sub_cancel_left]
theorem cut_here {x b : List UInt8} {k : Nat} (hx : x.length = k) : List.take k (List.drop 0 (x ++ b)) = x := List.take_left' hx
theorem cut_last {x : List UInt8} {k : Nat} (hx : x.length = k) : List.take k (List.drop 0 x) = x := List.take_of_length_le (Nat.le_of_eq hx)
theorem leN_cut {l : List UInt8} {i k : Nat} {v : Int} (h : List.take k (List.drop i l) = octL v k) (h0 : 0 ≤ v) (h1 : v < 256 ^ k) : ((leN (List.take k (List.drop i l)) : Nat) : Int) = v := by
  rw [h]; exact leN_octL k v h0 h1
theorem lt_8 {v : Int} (h : v < 2 ^ 62) : v < 256 ^ 8 := Int.lt_trans h (by decide)
theorem mod_0 (n : Int) : 0 ≤ n % 65536 := Int.emod_nonneg _ (by decide)
theorem mod_4 (n : Int) : n % 65536 < 256 ^ 4 := Int.lt_trans (Int.emod_lt_of_pos n (b := 65536) (by decide)) (by decide)
theorem rec_size : n8 (recL n) 4 = sizeV n :=
  leN_cut ((cut_at (i := 4) (j := 0) (sig1_length n)).trans (cut_here (octL_length _ _))) (in_size n).1 (lt_8 (in_size n).2)
theorem rec_16 (k j : Nat) : List.take k (List.drop (4 + (8 + (4 + j))) (recL n)) = List.take k (List.drop j (octL (n % 65536) 4 ++ (octL (n / 3 % 65536) 4 ++ (octL (n / 5 % 65536 + n / 7 % 65536 * 4294967296) 8 ++ (octL (n / 11 % 65536) 8 ++ (octL (dg n 1 % 5) 8 ++ octL (toldV n - dg n 1 % 5 + slipV n) 8)))))) :=
  (cut_at (sig1_length n)).trans ((cut_at (octL_length _ _)).trans (cut_at (octL_length _ _)))
theorem rec_24 (k j : Nat) : List.take k (List.drop (4 + (8 + (4 + (4 + (4 + j))))) (recL n)) = List.take k (List.drop j (octL (n / 5 % 65536 + n / 7 % 65536 * 4294967296) 8 ++ (octL (n / 11 % 65536) 8 ++ (octL (dg n 1 % 5) 8 ++ octL (toldV n - dg n 1 % 5 + slipV n) 8)))) :=
  (rec_16 k (4 + (4 + j))).trans ((cut_at (octL_length _ _)).trans (cut_at (octL_length _ _)))
theorem rec_n0 : n4 (recL n) 16 = n % 65536 := leN_cut ((rec_16 4 0).trans (cut_here (octL_length _ _))) (mod_0 _) (mod_4 _)
theorem rec_n1 : n4 (recL n) 20 = n / 3 % 65536 := leN_cut ((rec_16 4 (4 + 0)).trans ((cut_at (octL_length _ _)).trans (cut_here (octL_length _ _)))) (mod_0 _) (mod_4 _)
theorem rec_n2 : n8 (recL n) 24 = n / 5 % 65536 + n / 7 % 65536 * 4294967296 := leN_cut ((rec_24 8 0).trans (cut_here (octL_length _ _))) (in_2 _ _).1 (lt_8 (in_2 _ _).2)
theorem rec_n3 : n8 (recL n) 32 = n / 11 % 65536 := leN_cut ((rec_24 8 (8 + 0)).trans ((cut_at (octL_length _ _)).trans (cut_here (octL_length _ _)))) (mod_0 _) (Int.lt_trans (mod_4 _) (by decide))
theorem rec_n4 : n8 (recL n) 40 = dg n 1 % 5 := leN_cut ((rec_24 8 (8 + (8 + 0))).trans ((cut_at (octL_length _ _)).trans ((cut_at (octL_length _ _)).trans (cut_here (octL_length _ _))))) (in_4 _).1 (lt_8 (in_4 _).2)
theorem rec_n5 : n8 (recL n) 48 = toldV n - dg n 1 % 5 + slipV n := leN_cut ((rec_24 8 (8 + (8 + (8 + 0)))).trans ((cut_at (octL_length _ _)).trans ((cut_at (octL_length _ _)).trans ((cut_at (octL_length _ _)).trans (cut_last (octL_length _ _)))))) (in_place n).1 (lt_8 (in_place n).2)
end
end Mine

/- part P2 -/
namespace Mine
theorem hit_of {a b c d : UInt8} {l x : List UInt8} {q k : Nat} (hx : List.take k (List.drop q l) = x) (h : List.take 4 x = [a, b, c, d]) (hk : 4 ≤ k) : Hit a b c d l q := by
  unfold Hit
  rw [← hx, List.take_take, Nat.min_eq_left hk] at h
  exact h
theorem of_hit {a b c d : UInt8} {l x : List UInt8} {q k : Nat} (hx : List.take k (List.drop q l) = x) (h : Hit a b c d l q) (hk : 4 ≤ k) : List.take 4 x = [a, b, c, d] := by
  unfold Hit at h
  rw [← hx, List.take_take, Nat.min_eq_left hk]
  exact h
theorem cut_20 {l x : List UInt8} {q : Nat} (hx : List.take (Int.toNat 20) (List.drop q l) = x) : ((x.length : Int) = 20 ↔ q + 20 ≤ l.length) := by
  rw [← hx, List.length_take, List.length_drop]
  show (((min 20 (l.length - q) : Nat) : Int) = 20 ↔ _)
  omega
theorem cut_56 {l x : List UInt8} {q : Nat} (hx : List.take (Int.toNat 56) (List.drop q l) = x) (h : q + 56 ≤ l.length) : ((x.length : Int) = 56) := by
  rw [← hx, List.length_take, List.length_drop]
  show ((min 56 (l.length - q) : Nat) : Int) = 56
  omega
section
variable {n p : Int}
theorem spot_of (h9 : dg n 9 ≠ 9) : spotV n = dg n 0 + dg n 1 % 5 + dg n 2 % 7 + 76 := by unfold spotV; rw [if_neg h9]
theorem spot_no (h9 : dg n 9 = 9) : spotV n = -1 := by unfold spotV; rw [if_pos h9]
/-- a locator's signature: the place is the spot, and what is read is the locator -/
theorem at_spot {x : List UInt8} (h0 : ¬p - 20 < 0) (hx : List.take (Int.toNat 20) (List.drop (p - 20).toNat (caseL n)) = x) (h2 : (List.take 4 x != [80, 75, 6, 7]) = false) :
    p = spotV n ∧ p = dg n 0 + dg n 1 % 5 + dg n 2 % 7 + 76 ∧ x = locL n := by
  have hh := hit_loc (hit_of hx (bne_eq_false_iff_eq.mp h2) (by decide))
  have e : p = dg n 0 + dg n 1 % 5 + dg n 2 % 7 + 76 := by omega
  refine ⟨by rw [spot_of hh.2]; exact e, e, ?_⟩
  rw [← hx, show (p - 20).toNat = (dg n 0 + dg n 1 % 5 + dg n 2 % 7 + 56).toNat by omega]
  exact case_at_loc n
theorem off_spot {x : List UInt8} (h0 : ¬p - 20 < 0) (hx : List.take (Int.toNat 20) (List.drop (p - 20).toNat (caseL n)) = x) (h2 : (List.take 4 x != [80, 75, 6, 7]) = true) : p ≠ spotV n := by
  intro e
  by_cases h9 : dg n 9 = 9
  · rw [spot_no h9] at e; omega
  · rw [spot_of h9] at e
    have := case_at_loc n
    rw [show (p - 20).toNat = (dg n 0 + dg n 1 % 5 + dg n 2 % 7 + 56).toNat by omega] at hx
    have hl : x = locL n := hx.symm.trans this
    rw [hl] at h2
    have e4 : List.take 4 (locL n) = [80, 75, 6, 7] := by
      unfold locL sig2; rw [if_neg h9]; rfl
    rw [e4] at h2
    exact absurd h2 (by decide)
theorem told_place (h : toldV n ≤ dg n 0 + dg n 1 % 5 + dg n 2 % 7) : 0 ≤ toldV n := (told_0 n).1
theorem rec_at {y : List UInt8} {e : Int} (hp : p = dg n 0 + dg n 1 % 5 + dg n 2 % 7 + 76) (ht : toldV n ≤ dg n 0 + dg n 1 % 5 + dg n 2 % 7) (r : Rec (caseL n) p (locL n) y e) :
    y = recL n ∧ e = dg n 2 % 7 ∧ dg n 6 ≠ 9 ∧ (toldV n = dg n 0 + dg n 1 % 5 ∨ dg n 0 + dg n 1 % 5 = dg n 0 + dg n 1 % 5 + dg n 2 % 7) := by
  have t0 := told_0 n
  have i0 := dg_in n 0
  cases r with
  | fst _ hy h1 h2 =>
    rw [loc_told] at hy ⊢
    have hh := hit_rec (q := (toldV n).toNat) (by omega) (hit_of hy h2 (by decide))
    refine ⟨?_, by omega, hh.2, .inl (by omega)⟩
    rw [← hy, show (toldV n).toNat = (dg n 0 + dg n 1 % 5).toNat by omega]
    exact case_at_rec n
  | snd y' z hy h1 h2 h3 hz h4 h5 =>
    have hh := hit_rec (q := (p - 20 - 56).toNat) (by omega) (hit_of hz h5 (by decide))
    refine ⟨?_, by omega, hh.2, .inr (by omega)⟩
    rw [← hz, show (p - 20 - 56).toNat = (dg n 0 + dg n 1 % 5).toNat by omega]
    exact case_at_rec n
/-- what _law_right holds every answer against -/
structure Says (n p : Int) (ms : PySem.Str) (res : Option (List UInt8 × Int)) : Prop where
  out : ((caseL n).length : Int) < p → ms = Str.ofString "Unknown I/O error" ∧ res = none
  bad : p ≤ ((caseL n).length : Int) → p = spotV n → wordsV n ≠ Str.ofString "" → ms = wordsV n ∧ res = none
  good : p ≤ ((caseL n).length : Int) → p = spotV n → wordsV n = Str.ofString "" → ms = Str.ofString "the very list" ∧ res = some (recL n, dg n 0 + dg n 1 % 5) ∧ dg n 6 ≠ 9
  off : p ≤ ((caseL n).length : Int) → p ≠ spotV n → ms = Str.ofString "the very list" ∧ res = none
theorem says_off {ms : PySem.Str} {res : Option (List UInt8 × Int)} (h : p ≠ spotV n) (hl : p ≤ ((caseL n).length : Int)) (e : ms = Str.ofString "the very list" ∧ res = none) : Says n p ms res :=
  ⟨fun q => by omega, fun _ q => absurd q h, fun _ q => absurd q h, fun _ _ => e⟩
theorem says_bad {ms : PySem.Str} {res : Option (List UInt8 × Int)} (h : p = spotV n) (hl : p ≤ ((caseL n).length : Int)) (hw : wordsV n = ms) (hn : ms ≠ Str.ofString "") (hr : res = none) : Says n p ms res :=
  ⟨fun q => by omega, fun _ _ _ => ⟨hw.symm, hr⟩, fun _ _ q => absurd (hw.symm.trans q) hn, fun _ q => absurd h q⟩
theorem says_out {ms : PySem.Str} {res : Option (List UInt8 × Int)} (hl : ((caseL n).length : Int) < p) (e : ms = Str.ofString "Unknown I/O error" ∧ res = none) : Says n p ms res :=
  ⟨fun _ => e, fun q => by omega, fun q => by omega, fun q => by omega⟩
theorem spot_len (h : p = dg n 0 + dg n 1 % 5 + dg n 2 % 7 + 76) : p ≤ ((caseL n).length : Int) := by
  have := case_len n
  omega
theorem none_sig {y : List UInt8} {k : Int} (hy : List.take (Int.toNat 56) (List.drop k.toNat (caseL n)) = y) (hk : k = dg n 0 + dg n 1 % 5) (h : ¬List.take [(80 : UInt8), 75, 6, 6].length y = [80, 75, 6, 6]) : dg n 6 = 9 := by
  by_cases h6 : dg n 6 = 9
  · exact h6
  · exfalso
    subst hk
    exact h (of_hit hy (hit_at h6) (by decide))
theorem words_lost (h0 : awayV n = 0) (h1 : ¬ 1 < disksV n) (h2 : ¬ dg n 0 + dg n 1 % 5 + dg n 2 % 7 < toldV n) (h : dg n 6 = 9 ∨ (dg n 0 + dg n 1 % 5 ≠ toldV n ∧ dg n 0 + dg n 1 % 5 ≠ dg n 0 + dg n 1 % 5 + dg n 2 % 7)) : wordsV n = Str.ofString "Zip64 end of central directory record not found" := by
  unfold wordsV; rw [if_neg (words_0 h0 h1), if_neg h2, if_pos h]
theorem words_corrupt (h0 : awayV n = 0) (h1 : ¬ 1 < disksV n) (h2 : ¬ dg n 0 + dg n 1 % 5 + dg n 2 % 7 < toldV n) (h3 : ¬(dg n 6 = 9 ∨ (dg n 0 + dg n 1 % 5 ≠ toldV n ∧ dg n 0 + dg n 1 % 5 ≠ dg n 0 + dg n 1 % 5 + dg n 2 % 7))) (h : slipV n ≠ 0 ∨ sizeV n ≠ 44 + dg n 2 % 7) : wordsV n = Str.ofString "Corrupt zip64 end of central directory record" := by
  unfold wordsV; rw [if_neg (words_0 h0 h1), if_neg h2, if_neg h3, if_pos h]
theorem words_none (h0 : awayV n = 0) (h1 : ¬ 1 < disksV n) (h2 : ¬ dg n 0 + dg n 1 % 5 + dg n 2 % 7 < toldV n) (h3 : ¬(dg n 6 = 9 ∨ (dg n 0 + dg n 1 % 5 ≠ toldV n ∧ dg n 0 + dg n 1 % 5 ≠ dg n 0 + dg n 1 % 5 + dg n 2 % 7))) (h : ¬(slipV n ≠ 0 ∨ sizeV n ≠ 44 + dg n 2 % 7)) : wordsV n = Str.ofString "" := by
  unfold wordsV; rw [if_neg (words_0 h0 h1), if_neg h2, if_neg h3, if_neg h]
theorem loc_is {x : List UInt8} (l : Loc (caseL n) p x) : p = spotV n ∧ p = dg n 0 + dg n 1 % 5 + dg n 2 % 7 + 76 ∧ x = locL n ∧ awayV n = 0 ∧ ¬ 1 < disksV n ∧ ¬ dg n 0 + dg n 1 % 5 + dg n 2 % 7 < toldV n := by
  obtain ⟨a, b, c⟩ := at_spot l.h0 l.hx l.h2
  subst c
  have h3 := l.h3
  have h4 := l.h4
  have h5 := l.h5
  rw [loc_away] at h3
  rw [loc_disks] at h4
  rw [loc_told] at h5
  exact ⟨a, b, rfl, h3, h4, by omega⟩
theorem room_0 (n : Int) : 0 ≤ dg n 0 + dg n 1 % 5 + dg n 2 % 7 := Int.add_nonneg (Int.add_nonneg (dg_in n 0).1 (Int.emod_nonneg _ (by decide))) (Int.emod_nonneg _ (by decide))
theorem room_len (n : Int) : dg n 0 + dg n 1 % 5 + dg n 2 % 7 + 76 ≤ ((caseL n).length : Int) := by
  rw [case_len]; exact Int.le_add_of_nonneg_right (Int.emod_nonneg _ (by decide))
theorem len_76 (n : Int) : 76 ≤ ((caseL n).length : Int) := Int.le_trans (Int.le_add_of_nonneg_left (room_0 n)) (room_len n)
theorem fit_56 {r k : Int} {m : Nat} (h : ¬ r < k) (h0 : 0 ≤ k) (hm : r + 76 ≤ (m : Int)) : k.toNat + 56 ≤ m := by omega
theorem fit_at {r q : Int} {m : Nat} (h : q = r + 76) (h0 : 0 ≤ r) (hm : r + 76 ≤ (m : Int)) : (q - 20 - 56).toNat + 56 ≤ m := by omega
theorem at_room {a b q : Int} (h : a = q - 20 - 56) (e : q = b + 76) : a = b := by omega
theorem neg_no {q r : Int} (h : q - 20 < 0) (e : q = r + 76) (h0 : 0 ≤ r) : False := by omega
theorem neg_one {q : Int} (h : 0 ≤ q) (e : q = -1) : False := by omega
theorem le_of_cut {q : Int} {m : Nat} (h0 : ¬ q - 20 < 0) (h : (q - 20).toNat + 20 ≤ m) : q ≤ (m : Int) := by omega
theorem lt_of_cut {q : Int} {m : Nat} (h : ¬ (q - 20).toNat + 20 ≤ m) (h20 : 20 ≤ m) : (m : Int) < q := by omega
theorem far_lt {q r k : Int} (h : q - 20 - 56 < k) (e : q = r + 76) : r < k := by omega
theorem slip_of {a c b : Int} (h : a - c + b + c ≠ a) : b ≠ 0 := by omega
theorem slip_0 {a c b : Int} (h : a - c + b + c = a) : b = 0 := by omega
theorem size_of_ne {a e m : Int} (h : a + 12 ≠ 56 + e) (he : e = m) : a ≠ 44 + m := by omega
theorem size_of_eq {a e m : Int} (h : a + 12 = 56 + e) (he : e = m) : a = 44 + m := by omega
theorem not_lost {d t u v : Int} (h : d ≠ 9) (k : t = u ∨ u = v) : ¬(d = 9 ∨ (u ≠ t ∧ u ≠ v)) := by omega
theorem loc_at {q e r w m : Int} (h : q = w + m + 76) (he : e = m) : q - 20 - 56 - e = w := by omega
theorem ask_says {ms : PySem.Str} {res : Option (List UInt8 × Int)} (hp : 0 ≤ p) (h : AskEnd (caseL n) p ms res) : Says n p ms res := by
  cases h with
  | short h =>
    have l := len_76 n
    refine says_off ?_ (by clear hp; omega) ⟨rfl, rfl⟩
    intro e
    by_cases h9 : dg n 9 = 9
    · rw [spot_no h9] at e; exact neg_one hp e
    · rw [spot_of h9] at e; exact neg_no h e (room_0 n)
  | io1 x h0 hx h1 =>
    have := cut_20 hx
    have l : 20 ≤ (caseL n).length := by have := len_76 n; clear hp h0; omega
    exact says_out (lt_of_cut (fun q => h1 (this.mpr q)) l) ⟨rfl, rfl⟩
  | nosig x h0 hx h1 h2 => exact says_off (off_spot h0 hx h2) (le_of_cut h0 ((cut_20 hx).mp h1)) ⟨rfl, rfl⟩
  | span1 x h0 hx h1 h2 h3 =>
    obtain ⟨a, b, c⟩ := at_spot h0 hx h2
    subst c
    rw [loc_away] at h3
    exact says_bad a (spot_len b) (words_a h3) (by decide) rfl
  | span2 x h0 hx h1 h2 h3 h4 =>
    obtain ⟨a, b, c⟩ := at_spot h0 hx h2
    subst c
    rw [loc_away] at h3
    rw [loc_disks] at h4
    exact says_bad a (spot_len b) (words_b h3 h4) (by decide) rfl
  | far x h0 hx h1 h2 h3 h4 h5 =>
    obtain ⟨a, b, c⟩ := at_spot h0 hx h2
    subst c
    rw [loc_away] at h3
    rw [loc_disks] at h4
    rw [loc_told] at h5
    exact says_bad a (spot_len b) (words_c h3 h4 (far_lt h5 b)) (by decide) rfl
  | io2 x y l hy h1 =>
    obtain ⟨a, b, c, d, e, f⟩ := loc_is l
    subst c
    rw [loc_told] at hy
    exact absurd (cut_56 hy (fit_56 f (told_0 n).1 (room_len n))) h1
  | lost x y l hy h1 h2 h3 =>
    obtain ⟨a, b, c, d, e, f⟩ := loc_is l
    subst c
    rw [loc_told] at hy h3
    refine says_bad a (spot_len b) (words_lost d e f ?_) (by decide) rfl
    by_cases hW : dg n 0 + dg n 1 % 5 = toldV n
    · exact .inl (none_sig hy hW.symm h2)
    · exact .inr ⟨hW, fun q => hW (q.trans (at_room h3 b).symm)⟩
  | io3 x y z l hy h1 h2 h3 hz h4 =>
    obtain ⟨a, b, c, d, e, f⟩ := loc_is l
    exact absurd (cut_56 hz (fit_at b (room_0 n) (room_len n))) h4
  | lost2 x y z l hy h1 h2 h3 hz h4 h5 =>
    obtain ⟨a, b, c, d, e, f⟩ := loc_is l
    subst c
    rw [loc_told] at hy h3
    refine says_bad a (spot_len b) (words_lost d e f ?_) (by decide) rfl
    by_cases hW : dg n 0 + dg n 1 % 5 = toldV n
    · exact .inl (none_sig hy hW.symm h2)
    · by_cases hR : dg n 0 + dg n 1 % 5 = dg n 0 + dg n 1 % 5 + dg n 2 % 7
      · exact .inl (none_sig hz ((at_room rfl b).trans hR.symm) h5)
      · exact .inr ⟨hW, hR⟩
  | bad1 x y ex l r h1 =>
    obtain ⟨a, b, c, d, e, f⟩ := loc_is l
    subst c
    obtain ⟨ry, re, r6, rp⟩ := rec_at b (Int.not_lt.mp f) r
    subst ry
    rw [rec_n5, rec_n4, loc_told] at h1
    exact says_bad a (spot_len b) (words_corrupt d e f (not_lost r6 rp) (.inl (slip_of h1))) (by decide) rfl
  | bad2 x y ex l r h1 h2 =>
    obtain ⟨a, b, c, d, e, f⟩ := loc_is l
    subst c
    obtain ⟨ry, re, r6, rp⟩ := rec_at b (Int.not_lt.mp f) r
    subst ry
    rw [rec_size] at h2
    exact says_bad a (spot_len b) (words_corrupt d e f (not_lost r6 rp) (.inr (size_of_ne h2 re))) (by decide) rfl
  | done x y ex l r h1 h2 =>
    obtain ⟨a, b, c, d, e, f⟩ := loc_is l
    subst c
    obtain ⟨ry, re, r6, rp⟩ := rec_at b (Int.not_lt.mp f) r
    subst ry
    rw [rec_n5, rec_n4, loc_told] at h1
    rw [rec_size] at h2
    have hw := words_none d e f (not_lost r6 rp) (fun q => q.elim (fun z => z (slip_0 h1)) (fun z => z (size_of_eq h2 re)))
    refine ⟨fun q => absurd (spot_len b) (Int.not_le.mpr q), fun _ _ q => absurd hw q, fun _ _ _ => ⟨rfl, ?_, r6⟩, fun _ q => absurd a q⟩
    rw [loc_at (r := 0) b re]
end
end Mine

/- part V0 -/
section
open PySem.SeqAt
namespace Mine
/-- two values that hold the same int or the same octets -/
inductive SameV : Value → Value → Prop
  | int (i : Int) (t u : Tok) : SameV (.int i t) (.int i u)
  | bytes (x : Array UInt8) (t u : Tok) : SameV (.bytes x t) (.bytes x u)
inductive SameL : List Value → List Value → Prop
  | nil : SameL [] []
  | cons {a b : Value} {l r : List Value} : SameV a b → SameL l r → SameL (a :: l) (b :: r)
theorem SameL.length {l r : List Value} (h : SameL l r) : l.length = r.length := by
  induction h with
  | nil => rfl
  | cons _ _ ih => simp [ih]
theorem SameL.get {l r : List Value} (h : SameL l r) : ∀ (j : Nat) (h1 : j < l.length) (h2 : j < r.length), SameV l[j] r[j] := by
  induction h with
  | nil => intro j h1; simp at h1
  | cons h _ ih =>
    intro j h1 h2
    cases j with
    | zero => exact h
    | succ j => simpa using ih j (by simpa using h1) (by simpa using h2)
theorem SameL.append {a b c d : List Value} (h : SameL a b) (k : SameL c d) : SameL (a ++ c) (b ++ d) := by
  induction h with
  | nil => exact k
  | cons h _ ih => exact .cons h ih
theorem SameL.ints {a : List Value} {ns : List Int} (h : IntsAre a ns) : ∀ {b : List Value}, IntsAre b ns → SameL a b := by
  induction h with
  | nil => intro b hb; cases hb; exact .nil
  | cons n t _ ih => intro b hb; cases hb with | cons _ u hb => exact .cons (.int n t u) (ih hb)
section
variable {A : Around} {s : Shared}
theorem eqAt_bytes (x : Array UInt8) (t u : Tok) : EqAt A s (.bytes x t) (.bytes x u) true := fun prog w E Q h => by
  unfold eqBool
  refine wpAny_holding ?_
  refine wpAny_ite_split (fun _ => wpAny_bind (wpAny_rule (wpAny_pure h))) (fun _ => ?_)
  exact wpAny_bind (eq_bytes (by rw [beq_self_eq_true]; exact wpAny_truthy_bool h))
theorem eqAt_same {a b : Value} (h : SameV a b) : EqAt A s a b true := by
  cases h with
  | int i t u => have := EqAt.int_int (A := A) (s := s) i t i u; rwa [beq_self_eq_true] at this
  | bytes x t u => exact eqAt_bytes x t u
theorem eqAt_text (x : PySem.Str) (t u : Tok) : EqAt A s (.str x t) (.str x u) true := by
  have := EqAt.str_str (A := A) (s := s) x t x u; rwa [beq_self_eq_true] at this
theorem eqAt_lists {r r' : Addr} {xs ys : List Value} (h : s.heap.IsList r xs.toArray) (h' : s.heap.IsList r' ys.toArray) (e : SameL xs ys) (hu : A.units < cLine) : EqAt A s (.ref r) (.ref r') true := by
  by_cases hr : r = r'
  · subst hr; exact EqAt.same _
  · refine EqAt.of_refs hr ?_
    have l := e.length
    have k := RcAt.lists (e := fun _ => true) h h' (by simpa using l) hu fun j h1 h2 => by
      simpa using eqAt_same (e.get j (by simpa using h1) (by simpa using h2))
    have e' : ((List.range xs.toArray.size).all fun _ => true) = true := by simp
    rwa [e'] at k
/-- what is said, with the very row: != answers False -/
theorem told_same {prog : Program} {w : World} {E : Value → Shared → Prop} {Q : Value → Shared → Prop} {T T' r r' : Addr} {x y : PySem.Str} {t u : Tok} {xs ys : List Value}
    (hT : s.heap.IsTuple T [.str x t, .ref r].toArray) (hT' : s.heap.IsTuple T' [.str y u, .ref r'].toArray) (h : s.heap.IsList r xs.toArray) (h' : s.heap.IsList r' ys.toArray) (ex : x = y) (e : SameL xs ys) (hu : A.units + 10 < cLine)
    (hQ : Q (.bool false) s) : wpAny (model prog w) A (compareOp .NotEq (.ref T) (.ref T')) Q E s := by
  subst ex
  have k := RcNeAt.tuples (A := A) (e := fun _ => true) hT hT' (by omega) fun j h1 h2 => by
    rcases j with _ | _ | j
    · exact eqAt_text x t u
    · exact eqAt_lists h h' e (by show A.units + 1 < cLine; omega)
    · simp at h1; omega
  exact k prog w E Q hQ
end
end Mine
end

/- part L0 -/
namespace Mine
def IterObj (l : Addr) (i : Nat) (o : Obj) : Prop := o.cls = .type "list_iterator" ∧ o.data = .fields #[.ref l, .int i 0]
/-- a loop over a list, with an invariant of its own over the heap -/
def LoopS (prog : Program) (w : World) (A : Around) (env : Env) (x : Str) (body : List Stmt) (Q : Flow → Shared → Prop) (xv : Value) (s : Shared) : Prop :=
  ∃ (l : Addr) (vs : List Value) (J : Nat → Heap → Nat → Prop), xv = .ref l ∧ s.heap.IsList l vs.toArray ∧ J 0 (s.heap.push { cls := .type "list_iterator", data := .fields #[.ref l, .int 0 0] }) s.toks ∧
    (∀ i h tk, J i h tk → h.IsListIter s.heap.objs.size l i ∧ h.IsList l vs.toArray) ∧
    (∀ i v h tk h', vs[i]? = some v → J i h tk → h'.IsListIter s.heap.objs.size l (i + 1) → Heap.SameBut s.heap.objs.size h h' →
      wpAny (model prog w) A (storeName env x v) (fun _ s₂ => wpAny (model prog w) A (execs body env) (fun f s₃ => match f with
        | .next | .cont => ∃ h₃ tk₃, s₃ = { s with heap := h₃, toks := tk₃ } ∧ J (i + 1) h₃ tk₃
        | .brk => Q .next s₃
        | .ret v => Q (.ret v) s₃) (fun _ _ => False) s₂) (fun _ _ => False) { s with heap := h', toks := tk }) ∧
    ∀ h tk h', J vs.length h tk → Heap.ExtBut s.heap.objs.size h h' → Q .next { s with heap := h', toks := tk }
section
variable {prog : Program} {w : World} {A : Around} {s : Shared} {env : Env} {E : Value → Shared → Prop} {Q : Flow → Shared → Prop} {x : Str} {px pos : Pos} {iter : Expr} {body : List Stmt}
theorem for_S (hh : A.handled = none)
    (h : wpAny (model prog w) A (eval iter env) (fun xv s₁ => LoopS prog w A env x body Q xv s₁) E s)
    (hs : ∀ x, foldedSetIterable iter env x = pure x := by intro _; rfl) :
    wpAny (model prog w) A (exec (.For (.Name x px) iter body [] pos) env) Q E s := by
  refine wpAny_For (wpAny_mono h (fun xv s₁ h₁ => ?_) fun _ _ e => e) hs
  obtain ⟨l, vs, J, rfl, hl, h0, hJ, turn, done⟩ := h₁
  refine wpAny_pyIter_list hl ?_
  refine codeAny_forLoop (fun k s' => ∃ i h tk, s' = { s₁ with heap := h, toks := tk } ∧ J i h tk ∧ i ≤ vs.length ∧ k = vs.length - i) ?_ vs.length ⟨0, _, _, rfl, h0, Nat.zero_le _, rfl⟩
  rintro k s' ⟨i, h, tk, rfl, hj, hi, rfl⟩
  obtain ⟨it, il⟩ := hJ i h tk hj
  by_cases hlt : i < vs.length
  · refine wpAny_pyNext_list_item it il (x := vs[i]) (by simp [hlt]) fun h' it' sb => ?_
    refine wpAny_noRaise (wpAny_assign_Name (wpAny_mono (turn i vs[i] h tk h' (by simp [hlt]) hj it' sb) (fun _ s₂ h₂ => wpAny_noRaise (wpAny_mono h₂ (fun f s₃ h₃ => ?_) fun _ _ e => e)) fun _ _ e => e))
    cases f with
    | ret v => exact h₃
    | brk => exact h₃
    | cont =>
      obtain ⟨h₃', tk₃, rfl, hj₃⟩ := h₃
      exact ⟨vs.length - (i + 1), by omega, i + 1, h₃', tk₃, rfl, hj₃, hlt, rfl⟩
    | next =>
      obtain ⟨h₃', tk₃, rfl, hj₃⟩ := h₃
      exact ⟨vs.length - (i + 1), by omega, i + 1, h₃', tk₃, rfl, hj₃, hlt, rfl⟩
  · have hin : i = vs.length := by omega
    subst hin
    exact wpAny_pyNext_list_end hh it il (by simp) fun h' he => wpAny_execs_nil (done h tk h' hj he)
end
end Mine

/- part L1 -/
namespace Mine
theorem ext_but {g h h' : Heap} {L I : Addr} {m : PySem.Str → Option Value} {rest : List (Addr × Obj)} (F : Fr g L h m) (N : News g L h rest) (hLI : L < I) (hne : ∀ q ∈ rest, q.1 < I) (sb : Heap.ExtBut I h h') : Fr g L h' m ∧ News g L h' rest :=
  ⟨⟨F.ns.at' fun o e => sb L o (Nat.ne_of_lt hLI) e, fun b o e => sb b o (Nat.ne_of_lt (Nat.lt_of_lt_of_le (Heap.lt_size e) (Nat.le_of_lt (Nat.lt_of_le_of_lt F.above hLI)))) (F.keep b o e), F.above⟩,
    fun q hq => ⟨sb _ _ (Nat.ne_of_lt (hne q hq)) (N q hq).1, (N q hq).2⟩⟩
/-- what a turn of the loop leaves -/
structure TurnEnd (w : World) (loose : List Str) (mean : ExcName → Option Value) (mg mb : Str → Option Value) (A₀ : Around) (base : Heap) (outer : List Env) (g₀ : Heap) (L I : Addr) (oI : Obj) (M : Str → Option Value) (D : Disk) (l : Addr) (lobj : Obj) (fixed : List (Addr × Obj)) (s : Shared) (f : Flow) (s₃ : Shared) : Prop where
  go : f = .next ∧ ∃ g m o t h tk, s₃ = { s with heap := h, toks := tk } ∧ KtsTurn (outer.filterMap (·.frame)) g₀ g ∧ Fr g L h m ∧ (∀ y, y ≠ Str.ofString "told" → y ≠ Str.ofString "place" → m y = M y) ∧ News g L h ((I, oI) :: (l, lobj) :: (D.led w.params o t ++ fixed)) ∧
    Below A₀ base outer g ∧ (hd.heap_39 w.params).In g ∧ Top topProg loose mean mg mb g ∧ KtsDicts (outer.filterMap (·.frame)) g
theorem loop_go {w : World} {loose : List Str} {mean : ExcName → Option Value} {mg mb : Str → Option Value} {A A₀ : Around} {base g₀ : Heap} {outer : List Env} {env : Env} {body : List Stmt} {Q : Flow → Shared → Prop} {s : Shared} {L l : Addr} {us : List Value} {ks : List Int} {M : Str → Option Value} (D : Disk) {lobj : Obj} {fixed : List (Addr × Obj)} {o₀ : Int} {t₀ : Tok} {nl : Nat}
    (F : Fr g₀ L s.heap M) (N : News g₀ L s.heap ((l, lobj) :: (D.led w.params o₀ t₀ ++ fixed))) (B : Below A₀ base outer g₀) (X : (hd.heap_39 w.params).In g₀) (T : Top topProg loose mean mg mb g₀) (KD : KtsDicts (outer.filterMap (·.frame)) g₀)
    (hc : lobj.cls = .type "list") (hd' : lobj.data = .seq us.toArray nl) (hi : IntsAre us ks) (hk : ∀ k ∈ ks, 0 ≤ k)
    (turn : ∀ g I oI o t u1 u2 p tp h tk, L < I → (∀ o t, ∀ q ∈ (l, lobj) :: (D.led w.params o t ++ fixed), q.1 < I) → 0 ≤ p → KtsTurn (outer.filterMap (·.frame)) g₀ g → Fr g L h (fun y => if y = Str.ofString "told" then u1 else if y = Str.ofString "place" then u2 else M y) → News g L h ((I, oI) :: (l, lobj) :: (D.led w.params o t ++ fixed)) →
      Below A₀ base outer g → (hd.heap_39 w.params).In g → Top topProg loose mean mg mb g → KtsDicts (outer.filterMap (·.frame)) g →
      wpAny (model pr w) A (storeName env (Str.ofString "place") (.int p tp)) (fun _ s₂ => wpAny (model pr w) A (execs body env) (TurnEnd w loose mean mg mb A₀ base outer g₀ L I oI M D l lobj fixed s) (fun _ _ => False) s₂) (fun _ _ => False) { s with heap := h, toks := tk })
    (done : ∀ g m o t h tk, KtsTurn (outer.filterMap (·.frame)) g₀ g → Fr g L h m → News g L h (D.led w.params o t ++ fixed) → Below A₀ base outer g → (hd.heap_39 w.params).In g → Top topProg loose mean mg mb g → KtsDicts (outer.filterMap (·.frame)) g → Q .next { s with heap := h, toks := tk }) :
    LoopS pr w A env (Str.ofString "place") body Q (.ref l) s := by
  have hLI : L < s.heap.objs.size := F.ns.lt
  have hI : ∀ o t, ∀ q ∈ (l, lobj) :: (D.led w.params o t ++ fixed), q.1 < s.heap.objs.size := fun o t q hq => by
    have e : ((l, lobj) :: (D.led w.params o t ++ fixed)).map (·.1) = ((l, lobj) :: (D.led w.params o₀ t₀ ++ fixed)).map (·.1) := rfl
    have hm : q.1 ∈ ((l, lobj) :: (D.led w.params o₀ t₀ ++ fixed)).map (·.1) := e ▸ List.mem_map_of_mem hq
    obtain ⟨q', hq', e'⟩ := List.mem_map.mp hm
    rw [← e']
    exact Heap.lt_size (N q' hq').1
  refine ⟨l, us, fun i h _ => ∃ g m o t oI, KtsTurn (outer.filterMap (·.frame)) g₀ g ∧ Fr g L h m ∧ (∀ y, y ≠ Str.ofString "told" → y ≠ Str.ofString "place" → m y = M y) ∧ IterObj l i oI ∧ News g L h ((s.heap.objs.size, oI) :: (l, lobj) :: (D.led w.params o t ++ fixed)) ∧
    Below A₀ base outer g ∧ (hd.heap_39 w.params).In g ∧ Top topProg loose mean mg mb g ∧ KtsDicts (outer.filterMap (·.frame)) g, rfl, ⟨_, (N _ (.head _)).1, hc, _, hd'⟩, ?_, ?_, ?_, ?_⟩
  · exact ⟨g₀, M, o₀, t₀, _, KtsTurn.refl, F.push _, fun _ _ _ => rfl, ⟨rfl, rfl⟩, N.push F _, B, X, T, KD⟩
  · rintro i h tk ⟨g, m, o, t, oI, Tn, F', hm, it, N', _⟩
    exact ⟨⟨_, (N' _ (.head _)).1, it.1, it.2⟩, ⟨_, (N' _ (.tail _ (.head _))).1, hc, _, hd'⟩⟩
  · rintro i v h tk h' hv ⟨g, m, o, t, oI, Tn, F', hm, it, N', B', X', T', D'⟩ ⟨oI', hi1, hi2, hi3⟩ sb
    obtain ⟨F₂, N₂⟩ := ext_but F' (fun q hq => N' q (.tail _ hq)) hLI (hI o t) sb.extBut
    have N₃ : News g L h' ((s.heap.objs.size, oI') :: (l, lobj) :: (D.led w.params o t ++ fixed)) := fun q hq => by
      rcases List.mem_cons.mp hq with rfl | hq
      · exact ⟨hi1, (N' _ (.head _)).2⟩
      · exact N₂ q hq
    obtain ⟨k, tp, hkk, rfl⟩ : ∃ k tp, ks[i]? = some k ∧ v = .int k tp := by
      have hl := hi.length
      have hlt : i < us.length := (List.getElem?_eq_some_iff.mp hv).1
      have hlt' : i < ks.length := by omega
      obtain ⟨tp, e⟩ := hi.get i ks[i] (by simp [hlt'])
      rw [hv] at e
      exact ⟨ks[i], tp, by simp [hlt'], Option.some.inj e⟩
    have em : (fun y => if y = Str.ofString "told" then m (Str.ofString "told") else if y = Str.ofString "place" then m (Str.ofString "place") else M y) = m := by
      funext y
      by_cases e1 : y = Str.ofString "told"
      · rw [if_pos e1, e1]
      · by_cases e2 : y = Str.ofString "place"
        · rw [if_neg e1, if_pos e2, e2]
        · rw [if_neg e1, if_neg e2, hm y e1 e2]
    refine wpAny_mono (turn g s.heap.objs.size oI' o t (m (Str.ofString "told")) (m (Str.ofString "place")) k tp h' tk hLI hI (hk k (List.mem_of_getElem? hkk)) Tn (by rw [em]; exact F₂) N₃ B' X' T' D') (fun _ s₂ h₂ => wpAny_mono h₂ (fun f s₃ hf => ?_) fun _ _ e => e) fun _ _ e => e
    obtain ⟨rfl, g, m, o, t, h, tk, rfl, Tn, F', hm, N', B', X', T', D'⟩ := hf.go
    exact ⟨h, tk, rfl, g, m, o, t, oI', Tn, F', hm, ⟨hi2, hi3⟩, N', B', X', T', D'⟩
  · rintro h tk h' ⟨g, m, o, t, oI, Tn, F', hm, it, N', B', X', T', D'⟩ sb
    obtain ⟨F₂, N₂⟩ := ext_but F' (fun q hq => N' q (.tail _ hq)) hLI (hI o t) sb
    exact done g m o t h' tk Tn F₂ (fun q hq => N₂ q (.tail _ hq)) B' X' T' D'
end Mine

/- part A1 -/
namespace Mine
theorem led_l {h₀ h : Heap} {L : Addr} {D : Disk} {P : Params} {o : Int} {t : Tok} {e : Addr × Obj} (N : News h₀ L h [(D.f2, D.oR), (D.c2, D.oc2), (D.f1, D.oS), (D.c1, D.oc1), (D.x, instObj 107 D.d), (D.d, dskDict P D.q1 D.q2 D.q3 D.q4 D.f1 D.f2 o t), (D.k2, D.ok2), (D.k1, D.ok1), e]) :
    News h₀ L h (D.led P o t) ∧ News h₀ L h [e] :=
  ⟨fun q hq => N q (List.mem_append_left [e] hq), fun q hq => N q (List.mem_append_right (D.led P o t) hq)⟩
theorem one_dis {D : Disk} {P : Params} {o : Int} {t : Tok} {r : Addr} {ob : Obj} (h : ∀ P o t, r ∉ (D.led P o t).map (·.1)) : ∀ q ∈ [(r, ob)], q.1 ∉ (D.led P o t).map (·.1) := fun q hq => by
  rw [List.mem_singleton.mp hq]; exact h P o t
theorem led_j {h₀ h : Heap} {L : Addr} {D : Disk} {P : Params} {o : Int} {t : Tok} {e : Addr × Obj} (N : News h₀ L h (D.led P o t)) (N' : News h₀ L h [e]) :
    News h₀ L h [(D.f2, D.oR), (D.c2, D.oc2), (D.f1, D.oS), (D.c1, D.oc1), (D.x, instObj 107 D.d), (D.d, dskDict P D.q1 D.q2 D.q3 D.q4 D.f1 D.f2 o t), (D.k2, D.ok2), (D.k1, D.ok1), e] := news_app (a := D.led P o t) (b := [e]) N N'
theorem cut_len {b x : List UInt8} {i j n : Nat} (hb : b.length ≤ n) (h : List.take i (List.drop j b) = x) : x.length ≤ n := by
  rw [← h, List.length_take, List.length_drop]; omega
local macro_rules | `(tactic| walk_at "call ref") => `(tactic| (k_here; (with_reducible show wpAny _ _ (call (Value.ref (Disk.f1 _)) [Value.int _ _]) _ _ _); (with_reducible rename SeekSpec _ _ _ _ _ _ => hS9); (with_reducible rename News _ _ _ _ => kN9); (have kL9 := led_l kN9); k_dflt (refine' hS9 _ _ _ _ (by omega) _ _ _ _ _ _ _ _ _ _ _ _ _ _ _ _ _ _ (by k_asm) (by k_asm) (by k_asm) kL9.1 kL9.2 (by exact one_dis (by with_reducible assumption)) (by k_asm) (by exact rfl) (by ktr_room) (by ktr_units) ?_); clear kL9; intro v9 m9 h9 tk9 hp9 F9 N9 NR9; (obtain ⟨hv9, t9, hm9⟩ := hp9); subst hv9 hm9; (have kN8 := led_j N9 NR9); clear N9 NR9; (try dsimp only); (try k_fold)))
local macro_rules | `(tactic| walk_at "call ref") => `(tactic| (k_here; (with_reducible show wpAny _ _ (call (Value.ref (Disk.f2 _)) [Value.int _ _]) _ _ _); (with_reducible rename ReadSpec _ _ _ _ _ _ _ => hRd9); (with_reducible rename News _ _ _ _ => kN9); (have kL9 := led_l kN9); k_dflt (refine' hRd9 _ _ _ _ (by omega) (by omega) _ _ _ _ _ _ _ _ _ _ _ _ _ _ _ _ _ _ (by k_asm) (by k_asm) (by k_asm) kL9.1 kL9.2 (by exact one_dis (by with_reducible assumption)) (by k_asm) (by exact rfl) (by ktr_room) (by ktr_units) ?_); clear kL9; intro v9 m9 h9 tk9 hp9 F9 N9 NR9; (obtain ⟨⟨tv9, hv9⟩, t9, hm9⟩ := hp9); (generalize hx9 : List.take _ (List.drop _ _) = x9 at hv9 hm9); (have hx8 := cut_len (by assumption) hx9); subst hv9 hm9; (have kN8 := led_j N9 NR9); clear N9 NR9; (try dsimp only); (try k_fold)))
local macro_rules | `(tactic| walk_at "callWith ref nil nil") => `(tactic| (k_here; k_dflt (refine' callWith_F (by first | ((with_reducible rename IsFn (Disk.oS _) => hf9); exact IsFn.at hf9 (by k_asm) (List.Mem.tail _ (List.Mem.tail _ (List.Mem.head _)))) | ((with_reducible rename IsFn (Disk.oR _) => hf9); exact IsFn.at hf9 (by k_asm) (List.Mem.head _))) ?_; k_whole); (try dsimp only)))
local macro_rules | `(tactic| walk_at "FnAt") => `(tactic| (k_dflt first | ((with_reducible rename IsFn (Disk.oS _) => hf9); exact IsFn.at hf9 (by k_asm) (List.Mem.tail _ (List.Mem.tail _ (List.Mem.head _)))) | ((with_reducible rename IsFn (Disk.oR _) => hf9); exact IsFn.at hf9 (by k_asm) (List.Mem.head _))))
local macro_rules | `(tactic| walk_at "call builtin:len cons nil") => `(tactic| (k_here; (with_reducible show wpAny _ _ (call (Value.builtin "len") [Value.bytes _ _]) _ _ _); k_dflt (refine len_L (by assumption) ?_); intro _ _; (try dsimp only)))
local macro_rules | `(tactic| k_room) => `(tactic| ktr_room)
local macro_rules | `(tactic| walk_at "exec Raise some none") => `(tactic| (k_here; k_dflt (with_reducible show wpAny _ _ (exec (Stmt.Raise (some (Expr.Call (Expr.Name ("OSError" : Str) _) _ _ _)) none _) _) _ _ _; refine Raise_os rfl ?_); (try dsimp only)))
local macro_rules | `(tactic| walk_at "call type:OSError") => `(tactic| (k_here; k_dflt (refine call_os_raise ?_); intro h9 e9 t9 hm9; (try dsimp only)))
local macro_rules | `(tactic| walk_at "leaving ref") => `(tactic| (k_here; (with_reducible rename MadeOs _ _ _ _ _ => hm9); k_dflt (refine' leave_os (by assumption) hm9 (by assumption) (by k_asm) ?_; k_whole); clear hm9; intro h' R' U'; (try dsimp only at R' U' ⊢)))
local macro_rules | `(tactic| walk_at "noteFrame ref") => `(tactic| (k_here; (with_reducible rename RaisedOs _ _ _ _ _ _ _ _ => rsX); k_dflt (refine' look_os rsX (by assumption) (by assumption) ?_; k_whole); intro h' R' U'; (try dsimp only at R' U' ⊢)))
local macro_rules | `(tactic| walk_at "handleBy ref") => `(tactic| (k_here; (with_reducible rename RaisedOs _ _ _ _ _ _ _ _ => rsX); k_dflt (refine' hit_os rsX (by assumption) (by assumption) (by assumption) (by assumption) (by assumption) (by assumption) (by first | assumption | exact KtsTurn.refl) (by kts_test) ?_; k_whole); intro h' g' n₂ tk' T' F' N₂ G' N' K' X' P' D'; (try k_lift K'); (try k_sweep)))
local macro_rules | `(tactic| walk_at "call type:str") => `(tactic| (k_here; first
  | (k_dflt (refine' str_gotOs ?N ?G ?U ?_; (case G => assumption); (case N => assumption); (case U => ktr_units); k_whole))
  | (k_dflt (refine' str_gotOwn ?F ?X ?N ?G ?U ?hb ?hs ?_; (case G => assumption); (case F => k_asm); (case X => k_asm); (case N => assumption); (case U => ktr_units); (case hb => k_is); (case hs => k_is); k_whole))))
local macro_rules | `(tactic| walk_at "getMethod ref") => `(tactic| (k_here; (with_reducible show wpAny _ _ (getMethod (Value.ref (Disk.x _)) _ _) _ _ _); k_dflt (refine' kmu_own (by k_asm) (by k_asm) (by k_inst) (by k_is) (by k_is) ?_; k_whole)))
theorem len_of {l : List UInt8} {n : Nat} (h : (l.length : Int) = n) : l.length = n := Int.ofNat_inj.mp h
local macro_rules | `(tactic| walk_at "call builtin:_struct.unpack cons nil") => `(tactic| (k_here; k_dflt (first
  | (refine' unpack_A (by exact len_of (n := 20) (by assumption)) (by k_asm) (by k_asm) ?_; k_whole)
  | (refine' unpack_B (by exact len_of (n := 56) (by assumption)) (by k_asm) (by k_asm) ?_; k_whole)); intro h9 F9 N9; (try dsimp only); (try k_fold)))
local macro_rules | `(tactic| walk_at "execs cons If cons") => `(tactic| (k_here; (with_reducible rename News _ _ _ (_ :: (Disk.f2 _, _) :: _) => n9); replace n9 := news_tail n9))
local macro_rules | `(tactic| walk_at "execs cons Expr cons") => `(tactic| (k_here; (with_reducible rename News _ _ _ (_ :: (Disk.f2 _, _) :: _) => n9); replace n9 := news_tail n9))
local macro_rules | `(tactic| walk_at "getMethod bytes") => `(tactic| (k_here; (with_reducible refine method_starts ?_)))
local macro_rules | `(tactic| walk_at "call builtin:bytes.startswith") => `(tactic| (k_here; k_dflt (refine starts_L (c := [80, 75, 6, 6]) ?_); (try dsimp only)))
local macro_rules | `(tactic| walk_at "setItem ref int") => `(tactic| (k_here; k_dflt (refine' ki_set (by k_asm) (by k_asm) (by decide) (by decide) (by rfl) (upd_led (by assumption)) ?_); intro h8 F8 N8; (try dsimp only at N8); (try k_sweep)))
theorem asked_at {w : World} {loose : List Str} {mean : ExcName → Option Value} {mg mb : Str → Option Value} (D : Disk) (b : List UInt8) (hb : b.length ≤ 16777216) (hS : SeekSpec w loose mean mg mb D) (hR : ReadSpec w loose mean mg mb D b) (hF1 : IsFn D.oS) (hF2 : IsFn D.oR)
   (p o : Int) (t tp : Tok) (r : Addr) (v0 v1 v2 v3 v4 v5 v6 v7 v8 v9 : Value) (tl : List Value) (e : Nat) (hp : 0 ≤ p) (hrd : ∀ P o t, r ∉ (D.led P o t).map (·.1)) :
  ∀ (dp un : Nat) (gd : Option (List Code)) (cn : Str) (cs : Scope) (a : Addr) (ccd : Value) (cl : List (Str × Addr)) (outer : List Env) (A₀ : Around) (base h₀ : Heap) (L : Addr) (m : Str → Option Value) (news : List (Addr × Obj)) (s : Shared)
    (Q E : Value → Shared → Prop),
    Below A₀ base outer h₀ → Fr h₀ L s.heap m → (hd.heap_39 w.params).In h₀ → News h₀ L s.heap (D.led w.params o t ++ [(r, W.listOf (v0 :: v1 :: v2 :: v3 :: v4 :: v5 :: v6 :: v7 :: v8 :: v9 :: tl).toArray e)]) → News h₀ L s.heap news → (∀ q ∈ news, q.1 ∉ (D.led w.params o t ++ [(r, W.listOf (v0 :: v1 :: v2 :: v3 :: v4 :: v5 :: v6 :: v7 :: v8 :: v9 :: tl).toArray e)]).map (·.1)) → Top topProg loose mean mg mb h₀ →
    (hd.heap_39 w.params).In base → Top topProg loose mean mg mb base → KtsDicts (outer.filterMap (·.frame)) h₀ → cs.kind = .function → dp + 9 < recursionLimit → un + 80 < cLine →
    (∀ (T : Addr) (ms : PySem.Str) (u : Tok) (res : Option (List UInt8 × Int)) (row' : List Value) (o' : Int) (t' : Tok) (h' : Heap) (tk' : Nat) (g' : Heap), AskEnd b p ms res → RowIs v0 v1 v2 v3 v4 v5 v6 v7 v8 v9 tl res row' →
      KtsTurn (outer.filterMap (·.frame)) h₀ g' → Fr g' L h' m → News g' L h' ((T, { cls := .type "tuple", data := .seq [Value.str ms u, .ref r].toArray }) :: (D.led w.params o' t' ++ [(r, W.listOf row'.toArray e)])) → News g' L h' news →
      Below A₀ base outer g' → (hd.heap_39 w.params).In g' → Top topProg loose mean mg mb g' → KtsDicts (outer.filterMap (·.frame)) g' → Q (.ref T) { s with heap := h', toks := tk' }) →
    wpAny (model pr w) (ktrTop dp un gd cn cs L a ccd cl outer) (call (.ref 135) [.ref D.x, .int p tp, .ref r]) Q E s := by
  w_top off
  intro dp un gd cn cs a ccd cl outer A₀ base h₀ L m news s Q E B F X N NR hdis T XB TB KD hk hd hu hret
  refine wpAny_call ?_
  refine' frame_S B F X N NR hdis T XB TB KD rfl rfl hk ?k6 ?k7 ?k8 ?k9 ?kB ?_ ?c2 ?c3 ?c4 ?c5
  (case k6 => k_dflt k_is); (case k7 => k_dflt k_is); (case k8 => ktr_room); (case k9 => k_dflt exact BindsTo.of_eq rfl); (case kB => exact locs rfl); (case c2 => exact rfl); (case c3 => exact rfl); (case c4 => exact rfl); (case c5 => decide)
  intro g' L' h' FG' F' N' B' X' T' D' l1
  dsimp only [Disk.led, List.cons_append, List.nil_append] at N' l1
  k_lt l1
  dsimp only
  refine wpAny_same ?_
  k_fold
  k_steps
  all_goals
    (intro krX
     refine' hret _ _ _ _ _ _ _ _ _ _ ?ask ?row ?turn ?F ?N ?NR ?B ?X ?T ?D
     (case F => (with_reducible assumption))
     (case N => exact led_T (by (with_reducible assumption)))
     (case turn => first | (with_reducible assumption) | exact KtsTurn.refl)
     (case NR => first | (with_reducible exact back_news NR krX) | ((with_reducible rename KtsTurn _ _ _ => kT9); with_reducible exact back_newsT NR kT9 krX))
     (case B => (with_reducible assumption))
     (case X => (with_reducible assumption))
     (case T => (with_reducible assumption))
     (case D => (with_reducible assumption))
     (case ask => (first | exact .short (by (with_reducible assumption)) | exact .io3 _ _ _ (by (exact ⟨by (with_reducible assumption), by (with_reducible assumption), by (with_reducible assumption), by assumption, by (with_reducible assumption), by (with_reducible assumption), by (with_reducible assumption)⟩)) (by (with_reducible assumption)) (by (with_reducible assumption)) (by (with_reducible assumption)) (by (with_reducible assumption)) (by (with_reducible assumption)) (by (with_reducible assumption)) | exact .lost2 _ _ _ (by (exact ⟨by (with_reducible assumption), by (with_reducible assumption), by (with_reducible assumption), by assumption, by (with_reducible assumption), by (with_reducible assumption), by (with_reducible assumption)⟩)) (by (with_reducible assumption)) (by (with_reducible assumption)) (by (with_reducible assumption)) (by (with_reducible assumption)) (by (with_reducible assumption)) (by (with_reducible assumption)) (by (with_reducible assumption)) | exact .bad1 _ _ _ (by (exact ⟨by (with_reducible assumption), by (with_reducible assumption), by (with_reducible assumption), by assumption, by (with_reducible assumption), by (with_reducible assumption), by (with_reducible assumption)⟩)) (by (first | exact .snd _ _ (by (with_reducible assumption)) (by (with_reducible assumption)) (by (with_reducible assumption)) (by (with_reducible assumption)) (by (with_reducible assumption)) (by (with_reducible assumption)) (by (with_reducible assumption)) | exact .fst _ (by (with_reducible assumption)) (by (with_reducible assumption)) (by (with_reducible assumption)))) (by (with_reducible assumption)) | exact .bad2 _ _ _ (by (exact ⟨by (with_reducible assumption), by (with_reducible assumption), by (with_reducible assumption), by assumption, by (with_reducible assumption), by (with_reducible assumption), by (with_reducible assumption)⟩)) (by (first | exact .snd _ _ (by (with_reducible assumption)) (by (with_reducible assumption)) (by (with_reducible assumption)) (by (with_reducible assumption)) (by (with_reducible assumption)) (by (with_reducible assumption)) (by (with_reducible assumption)) | exact .fst _ (by (with_reducible assumption)) (by (with_reducible assumption)) (by (with_reducible assumption)))) (by (with_reducible assumption)) (by (with_reducible assumption)) | exact .done _ _ _ (by (exact ⟨by (with_reducible assumption), by (with_reducible assumption), by (with_reducible assumption), by assumption, by (with_reducible assumption), by (with_reducible assumption), by (with_reducible assumption)⟩)) (by (first | exact .snd _ _ (by (with_reducible assumption)) (by (with_reducible assumption)) (by (with_reducible assumption)) (by (with_reducible assumption)) (by (with_reducible assumption)) (by (with_reducible assumption)) (by (with_reducible assumption)) | exact .fst _ (by (with_reducible assumption)) (by (with_reducible assumption)) (by (with_reducible assumption)))) (by (with_reducible assumption)) (by (with_reducible assumption)) | exact .lost _ _ (by (exact ⟨by (with_reducible assumption), by (with_reducible assumption), by (with_reducible assumption), by assumption, by (with_reducible assumption), by (with_reducible assumption), by (with_reducible assumption)⟩)) (by (with_reducible assumption)) (by (with_reducible assumption)) (by (with_reducible assumption)) (by (with_reducible assumption)) | exact .io2 _ _ (by (exact ⟨by (with_reducible assumption), by (with_reducible assumption), by (with_reducible assumption), by assumption, by (with_reducible assumption), by (with_reducible assumption), by (with_reducible assumption)⟩)) (by (with_reducible assumption)) (by (with_reducible assumption)) | exact .far _ (by (with_reducible assumption)) (by (with_reducible assumption)) (by (with_reducible assumption)) (by (with_reducible assumption)) (by (with_reducible assumption)) (by (with_reducible assumption)) (by (with_reducible assumption)) | exact .span2 _ (by (with_reducible assumption)) (by (with_reducible assumption)) (by (with_reducible assumption)) (by (with_reducible assumption)) (by (with_reducible assumption)) (by (with_reducible assumption)) | exact .span1 _ (by (with_reducible assumption)) (by (with_reducible assumption)) (by (with_reducible assumption)) (by (with_reducible assumption)) (by (with_reducible assumption)) | exact .nosig _ (by (with_reducible assumption)) (by (with_reducible assumption)) (by (with_reducible assumption)) (by assumption) | exact .io1 _ (by (with_reducible assumption)) (by (with_reducible assumption)) (by (with_reducible assumption))))
     (case row => (first | exact rfl | exact ⟨_, _, _, _, _, _, _, _, rfl⟩)))
end Mine

/- part R0 -/
namespace Mine
def NoFields (o : Obj) : Prop := ∀ vs, o.data ≠ .fields vs
theorem off_tab {g h : Heap} {L : Addr} {tab rest : List (Addr × Obj)} (hT : TabSt tab) (N : News g L h tab) (NR : News g L h rest) (hk : ∀ q ∈ rest, NoFields q.2) : ∀ q ∈ rest, q.1 ∉ tab.map (·.1) := by
  intro q hq hm
  obtain ⟨p, hp, e⟩ := List.mem_map.mp hm
  have e1 := (NR q hq).1
  have e2 := (N p hp).1
  rw [e, e1] at e2
  have e3 : q.2 = p.2 := Option.some.inj e2
  have hf : ∃ vs, p.2.data = .fields vs := by
    cases hT with
    | cold => rw [List.mem_singleton.mp hp]; exact ⟨_, rfl⟩
    | warm c1 c2 oc1 oc2 h1 h2 =>
      simp only [List.mem_cons, List.not_mem_nil, or_false] at hp
      rcases hp with rfl | rfl | rfl
      · exact ⟨_, rfl⟩
      · obtain ⟨vs, _, h, _⟩ := h1; exact ⟨vs, h⟩
      · obtain ⟨vs, _, h, _⟩ := h2; exact ⟨vs, h⟩
  obtain ⟨vs, hv⟩ := hf
  exact hk q hq vs (by rw [e3]; exact hv)
theorem cut4 {g h : Heap} {L : Addr} {a b c d : Addr × Obj} {tab : List (Addr × Obj)} (N : News g L h (a :: b :: c :: d :: tab)) : News g L h tab ∧ News g L h [a, b, c, d] :=
  ⟨fun q hq => N q (.tail _ (.tail _ (.tail _ (.tail _ hq)))), fun q hq => N q (List.mem_append_left tab hq)⟩
theorem nof4 {a b c d : Addr × Obj} (h1 : NoFields a.2) (h2 : NoFields b.2) (h3 : NoFields c.2) (h4 : NoFields d.2) : ∀ q ∈ [a, b, c, d], NoFields q.2 := by
  intro q hq
  simp only [List.mem_cons, List.not_mem_nil, or_false] at hq
  rcases hq with rfl | rfl | rfl | rfl <;> assumption
theorem nof_seq {o : Obj} {a : Array Value} {n : Nat} (h : o.data = .seq a n) : NoFields o := fun vs e => by rw [h] at e; cases e
theorem nof_cell {o : Obj} {v : Option Value} (h : o.data = .cell v) : NoFields o := fun vs e => by rw [h] at e; cases e
theorem ints_of : ∀ (vs : List Value) (ks : List Int), vs.length = ks.length → (∀ (j : Nat) (v : Value), vs[j]? = some v → ∃ k t, ks[j]? = some k ∧ v = .int k t) → IntsAre vs ks
  | [], ks, e, _ => by
    have : ks = [] := List.eq_nil_of_length_eq_zero e.symm
    subst this
    exact IntsAre.nil
  | v :: r, [], e, _ => by simp at e
  | v :: r, k :: ks, e, h => by
    obtain ⟨k', t, h1, h2⟩ := h 0 v rfl
    cases h1
    subst h2
    exact IntsAre.cons _ _ (ints_of r ks (by simpa using e) fun j v hj => h (j + 1) v hj)
theorem ten_of {ys : List Value} {ns : List Int} (h : IntsAre ys ns) (hn : 10 ≤ ns.length) : ∃ v0 v1 v2 v3 v4 v5 v6 v7 v8 v9 tl, ys = v0 :: v1 :: v2 :: v3 :: v4 :: v5 :: v6 :: v7 :: v8 :: v9 :: tl := by
  have hl := h.length
  rcases ys with _ | ⟨v0, _ | ⟨v1, _ | ⟨v2, _ | ⟨v3, _ | ⟨v4, _ | ⟨v5, _ | ⟨v6, _ | ⟨v7, _ | ⟨v8, _ | ⟨v9, tl⟩⟩⟩⟩⟩⟩⟩⟩⟩⟩
  all_goals first
    | exact ⟨_, _, _, _, _, _, _, _, _, _, _, rfl⟩
    | (simp only [List.length_cons, List.length_nil] at hl; omega)
def SeqObj (o : Obj) : Prop := ∃ a n, o.data = .seq a n
def seqB (o : Obj) : Bool := match o.data with | .seq _ _ => true | _ => false
theorem allSeq {pre : List (Addr × Obj)} (h : (pre.all fun q => seqB q.2) = true) : ∀ q ∈ pre, SeqObj q.2 := fun q hq => by
  have h' := List.all_eq_true.mp h q hq
  unfold seqB at h'
  split at h'
  · exact ⟨_, _, by assumption⟩
  · cases h'
structure DOk (D : Disk) : Prop where
  c1 : ∃ q, CodeOk D.oc1 q
  c2 : ∃ q, CodeOk D.oc2 q
  f1 : IsFn D.oS
  f2 : IsFn D.oR
  k1 : NoSeq D.ok1
  k2 : NoSeq D.ok2
theorem noSeq_code {o : Obj} (h : ∃ q, CodeOk o q) : NoSeq o := fun a n e => by
  obtain ⟨q, vs, t, h1, _⟩ := h
  rw [h1] at e; cases e
theorem noSeq_fn {o : Obj} (h : IsFn o) : NoSeq o := fun a n e => by
  obtain ⟨oc, od, fd, sl, rfl⟩ := h
  cases e
theorem led_noSeq {D : Disk} (d : DOk D) (P : Params) (o : Int) (t : Tok) : ∀ q ∈ D.led P o t, NoSeq q.2 := by
  intro q hq
  simp only [Disk.led, List.mem_cons, List.not_mem_nil, or_false] at hq
  rcases hq with rfl | rfl | rfl | rfl | rfl | rfl | rfl | rfl
  · exact noSeq_fn d.f2
  · exact noSeq_code d.c2
  · exact noSeq_fn d.f1
  · exact noSeq_code d.c1
  · exact fun a n e => by cases e
  · exact fun a n e => by cases e
  · exact d.k2
  · exact d.k1
theorem led_off {g h : Heap} {L : Addr} {D : Disk} (d : DOk D) {P : Params} {o : Int} {t : Tok} {q : Addr × Obj} (N : News g L h (D.led P o t)) (hq : h.get? q.1 = some q.2) (hs : SeqObj q.2) : q.1 ∉ (D.led P o t).map (·.1) := by
  intro hm
  obtain ⟨p, hp, e⟩ := List.mem_map.mp hm
  have e1 := (N p hp).1
  rw [e, hq] at e1
  obtain ⟨a, n, ha⟩ := hs
  exact led_noSeq d P o t p hp a n (by rw [← Option.some.inj e1]; exact ha)
structure AskCtx (D : Disk) (P : Params) (I l : Addr) (lobj : Obj) (a b c e : Addr × Obj) (t₀ : Tok) : Prop where
  d : DOk D
  hI : ∀ o t, ∀ q ∈ (l, lobj) :: (D.led P o t ++ [D.tabE, a, b, c, e]), q.1 < I
  hl : SeqObj lobj
  h118 : ∀ P o t, 118 ∉ (D.led P o t).map (·.1)
  hdd : ∀ q ∈ [a, b, c, e], q.1 ∉ (D.led P 0 t₀).map (·.1)
theorem ask_cut (pre : List (Addr × Obj)) {g h : Heap} {L I l r : Addr} {D : Disk} {P : Params} {o : Int} {t t₀ : Tok} {ob oI lobj : Obj} {a b c e : Addr × Obj} (C : AskCtx D P I l lobj a b c e t₀)
    (N : News g L h ((r, ob) :: (pre ++ (I, oI) :: (l, lobj) :: (D.led P o t ++ [D.tabE, a, b, c, e])))) (hr : ∀ q ∈ pre ++ (I, oI) :: (l, lobj) :: (D.led P o t ++ [D.tabE, a, b, c, e]), q.1 < r) (hpre : ∀ q ∈ pre, SeqObj q.2) :
    News g L h (D.led P o t ++ [(r, ob)]) ∧ News g L h (pre ++ (I, oI) :: (l, lobj) :: [D.tabE, a, b, c, e]) ∧ (∀ q ∈ pre ++ (I, oI) :: (l, lobj) :: [D.tabE, a, b, c, e], q.1 ∉ (D.led P o t ++ [(r, ob)]).map (·.1)) ∧ (∀ P o t, r ∉ (D.led P o t).map (·.1)) := by
  obtain ⟨d, hI, hl, h118, hdd⟩ := C
  have ND : News g L h (D.led P o t) := fun q hq => N q (.tail _ (List.mem_append_right _ (.tail _ (.tail _ (List.mem_append_left _ hq)))))
  have sub : ∀ q ∈ pre ++ (I, oI) :: (l, lobj) :: [D.tabE, a, b, c, e], q ∈ pre ++ (I, oI) :: (l, lobj) :: (D.led P o t ++ [D.tabE, a, b, c, e]) := fun q hq => by
    rcases List.mem_append.mp hq with hq | hq
    · exact List.mem_append_left _ hq
    · refine List.mem_append_right _ ?_
      rcases List.mem_cons.mp hq with rfl | hq
      · exact .head _
      · rcases List.mem_cons.mp hq with rfl | hq
        · exact .tail _ (.head _)
        · exact .tail _ (.tail _ (List.mem_append_right _ hq))
  have NR : News g L h (pre ++ (I, oI) :: (l, lobj) :: [D.tabE, a, b, c, e]) := fun q hq => N q (.tail _ (sub q hq))
  refine ⟨fun q hq => ?_, NR, fun q hq => ?_, fun P' o' t' hm => ?_⟩
  · rcases List.mem_append.mp hq with hq | hq
    · exact ND q hq
    · rw [List.mem_singleton.mp hq]; exact N _ (.head _)
  · rw [List.map_append, List.mem_append]
    rintro (hm | hm)
    · rcases List.mem_append.mp hq with hq' | hq'
      · exact led_off d ND (NR q hq).1 (hpre q hq') hm
      · rcases List.mem_cons.mp hq' with rfl | hq'
        · obtain ⟨p, hp, ep⟩ := List.mem_map.mp hm
          exact absurd (hI o t p (.tail _ (List.mem_append_left _ hp))) (by rw [ep]; exact Nat.lt_irrefl _)
        · rcases List.mem_cons.mp hq' with rfl | hq'
          · exact led_off d ND (NR _ hq).1 hl hm
          · rcases List.mem_cons.mp hq' with rfl | hq'
            · exact h118 P o t hm
            · exact hdd q hq' hm
    · rw [List.map_cons, List.map_nil, List.mem_singleton] at hm
      exact absurd (hr q (sub q hq)) (by rw [hm]; exact Nat.lt_irrefl _)
  · obtain ⟨p, hp, ep⟩ := List.mem_map.mp (show r ∈ (D.led P o t).map (·.1) from hm)
    exact absurd (hr p (List.mem_append_right _ (.tail _ (.tail _ (List.mem_append_left _ hp))))) (by rw [ep]; exact Nat.lt_irrefl _)
theorem ask_join (pre : List (Addr × Obj)) {g h : Heap} {L : Addr} {x y T R a b c e : Addr × Obj} {D : Disk} {P : Params} {o : Int} {t : Tok} (N : News g L h (T :: (D.led P o t ++ [R]))) (NR : News g L h (pre ++ x :: y :: [D.tabE, a, b, c, e])) :
    News g L h (T :: R :: (pre ++ x :: y :: (D.led P o t ++ [D.tabE, a, b, c, e]))) := fun q hq => by
  rcases List.mem_cons.mp hq with rfl | hq
  · exact N _ (.head _)
  rcases List.mem_cons.mp hq with rfl | hq
  · exact N _ (.tail _ (List.mem_append_right _ (.head _)))
  rcases List.mem_append.mp hq with hq | hq
  · exact NR q (List.mem_append_left _ hq)
  rcases List.mem_cons.mp hq with rfl | hq
  · exact NR _ (List.mem_append_right _ (.head _))
  rcases List.mem_cons.mp hq with rfl | hq
  · exact NR _ (List.mem_append_right _ (.tail _ (.head _)))
  rcases List.mem_append.mp hq with hq | hq
  · exact N q (.tail _ (List.mem_append_left _ hq))
  · exact NR q (List.mem_append_right _ (.tail _ (.tail _ hq)))
theorem drop_pre (pre : List (Addr × Obj)) {g h : Heap} {L : Addr} {F : List (Addr × Obj)} (N : News g L h (pre ++ F)) : News g L h F := fun q hq => N q (List.mem_append_right _ hq)
theorem TurnEnd.intro {w : World} {loose : List Str} {mean : ExcName → Option Value} {mg mb : Str → Option Value} {A₀ : Around} {base : Heap} {outer : List Env} {g₀ g₁ g : Heap} {L I : Addr} {oI : Obj} {M m : Str → Option Value} {D : Disk} {l : Addr} {lobj : Obj} {fixed : List (Addr × Obj)} {s : Shared} {h : Heap} {tk : Nat} {o : Int} {t : Tok}
    (F : Fr g L h m) (hm : ∀ y, y ≠ Str.ofString "told" → y ≠ Str.ofString "place" → m y = M y) (N : News g L h ((I, oI) :: (l, lobj) :: (D.led w.params o t ++ fixed))) (T1 : KtsTurn (outer.filterMap (·.frame)) g₀ g₁) (T2 : KtsTurn (outer.filterMap (·.frame)) g₁ g)
    (B : Below A₀ base outer g) (X : (hd.heap_39 w.params).In g) (T : Top topProg loose mean mg mb g) (K : KtsDicts (outer.filterMap (·.frame)) g) : TurnEnd w loose mean mg mb A₀ base outer g₀ L I oI M D l lobj fixed s .next { s with heap := h, toks := tk } :=
  ⟨⟨rfl, g, m, o, t, h, tk, rfl, T1.trans T2, F, hm, N, B, X, T, K⟩⟩
theorem dis_tab {tab news : List (Addr × Obj)} {D : Disk} {L' : Addr} (hT : TabSt tab) (hdis : ∀ q ∈ news, q.1 ∉ tab.map (·.1)) (hl : ∀ q ∈ news, q.1 < L') (n1 : D.c1 ∈ tab.map (·.1) ∨ @LT.lt Nat _ L' D.c1) (n2 : D.c2 ∈ tab.map (·.1) ∨ @LT.lt Nat _ L' D.c2) :
    ∀ q ∈ news, q.1 ∉ [D.tabE, (D.c1, D.oc1), (D.c2, D.oc2)].map (·.1) := by
  intro q hq hm
  have h118 : 118 ∈ tab.map (·.1) := by cases hT <;> exact .head _
  have hlt : @LT.lt Nat _ q.1 L' := hl q hq
  simp only [List.map_cons, List.map_nil, List.mem_cons, List.not_mem_nil, or_false] at hm
  rcases hm with hm | hm | hm
  · exact hdis q hq (by rw [hm]; exact h118)
  · rcases n1 with n1 | n1
    · exact hdis q hq (by rw [hm]; exact n1)
    · rw [← hm] at n1
      exact absurd hlt (Nat.lt_asymm n1)
  · rcases n2 with n2 | n2
    · exact hdis q hq (by rw [hm]; exact n2)
    · rw [← hm] at n2
      exact absurd hlt (Nat.lt_asymm n2)
theorem led_tab {g h : Heap} {L : Addr} {D : Disk} {P : Params} {o : Int} {t : Tok} {rest : List (Addr × Obj)} (N : News g L h ((D.f2, D.oR) :: (D.c2, D.oc2) :: (D.f1, D.oS) :: (D.c1, D.oc1) :: (D.x, instObj 107 D.d) :: (D.d, dskDict P D.q1 D.q2 D.q3 D.q4 D.f1 D.f2 o t) :: (D.k2, D.ok2) :: (D.k1, D.ok1) :: D.tabE :: rest)) :
    News g L h [D.tabE, (D.c1, D.oc1), (D.c2, D.oc2)] := fun q hq => N q (by
  simp only [List.mem_cons, List.not_mem_nil, or_false] at hq ⊢
  rcases hq with h | h | h <;> simp [h])
theorem drop23 {g h : Heap} {L : Addr} {a b c : Addr × Obj} {l : List (Addr × Obj)} (N : News g L h (a :: b :: c :: l)) : News g L h (a :: l) := fun q hq => N q (by
  rcases List.mem_cons.mp hq with rfl | hq
  · exact .head _
  · exact .tail _ (.tail _ (.tail _ hq)))
section
variable {v0 v1 v2 v3 v4 v5 v6 v7 v8 v9 : Value} {tl : List Value}
theorem pick_all (l : List Value) : kms_pick l none none = l := by
  unfold kms_pick kms_lo kms_hi
  simp
theorem pick_allA (l : List Value) : kms_pick l.toArray.toList none none = l := pick_all l
theorem pick_79 : kms_pick (v0 :: v1 :: v2 :: v3 :: v4 :: v5 :: v6 :: v7 :: v8 :: v9 :: tl) (some 7) (some 9) = [v7, v8] := by
  have e1 : kms_lo (some 7) (v0 :: v1 :: v2 :: v3 :: v4 :: v5 :: v6 :: v7 :: v8 :: v9 :: tl).length = 7 := by
    simp only [kms_lo, List.length_cons]; rw [if_neg (by decide)]; omega
  have e2 : kms_hi (some 9) (v0 :: v1 :: v2 :: v3 :: v4 :: v5 :: v6 :: v7 :: v8 :: v9 :: tl).length = 9 := by
    simp only [kms_hi, List.length_cons]; rw [if_neg (by decide)]; omega
  unfold kms_pick
  rw [e1, e2]; rfl
theorem pick_79A : kms_pick (v0 :: v1 :: v2 :: v3 :: v4 :: v5 :: v6 :: v7 :: v8 :: v9 :: tl).toArray.toList (some 7) (some 9) = [v7, v8] := pick_79
theorem pick_10 : kms_pick (v0 :: v1 :: v2 :: v3 :: v4 :: v5 :: v6 :: v7 :: v8 :: v9 :: tl) (some 10) none = tl := by
  have e1 : kms_lo (some 10) (v0 :: v1 :: v2 :: v3 :: v4 :: v5 :: v6 :: v7 :: v8 :: v9 :: tl).length = 10 := by
    simp only [kms_lo, List.length_cons]; rw [if_neg (by decide)]; omega
  have e2 : kms_hi none (v0 :: v1 :: v2 :: v3 :: v4 :: v5 :: v6 :: v7 :: v8 :: v9 :: tl).length - 10 = tl.length := by
    simp only [kms_hi, List.length_cons]; omega
  unfold kms_pick
  rw [e1, e2]
  exact List.take_of_length_le (Nat.le_refl _)
theorem pick_10A : kms_pick (v0 :: v1 :: v2 :: v3 :: v4 :: v5 :: v6 :: v7 :: v8 :: v9 :: tl).toArray.toList (some 10) none = tl := pick_10
theorem same_int {i j : Int} {t u : Tok} (e : i = j) : SameV (.int i t) (.int j u) := by subst e; exact .int _ _ _
theorem same_ints_v {l : List Value} {ns : List Int} (h : IntsAre l ns) : SameL l l := SameL.ints h h
theorem SameL.tail {a b : Value} {l r : List Value} (h : SameL (a :: l) (b :: r)) : SameL l r := by cases h; assumption
theorem SameL.head {a b : Value} {l r : List Value} (h : SameL (a :: l) (b :: r)) : SameV a b := by cases h; assumption
theorem good_same {n : Int} {ns : List Int} {t0 t1 t2 t3 t4 t5 t6 t9 b0 b1 b2 b3 b4 b5 b6 b9 : Tok} (h6 : dg n 6 ≠ 9) (hI : IntsAre (v0 :: v1 :: v2 :: v3 :: v4 :: v5 :: v6 :: v7 :: v8 :: v9 :: tl) ns) :
    SameL (.bytes (List.take 4 (recL n)).toArray t0 :: .int (n4 (recL n) 16) t1 :: .int (n4 (recL n) 20) t2 :: .int (n8 (recL n) 24) t3 :: .int (n8 (recL n) 32) t4 :: .int (n8 (recL n) 40) t5 :: .int (n8 (recL n) 48) t6 :: v7 :: v8 :: .int (dg n 0 + dg n 1 % 5) t9 :: tl)
      (.bytes #[80, 75, 6, 6] b0 :: .int (n % 65536) b1 :: .int (n / 3 % 65536) b2 :: .int (n / 5 % 65536 + n / 7 % 65536 * 4294967296) b3 :: .int (n / 11 % 65536) b4 :: .int (dg n 1 % 5) b5 :: .int (toldV n - dg n 1 % 5 + slipV n) b6 :: v7 :: v8 :: .int (dg n 0 + dg n 1 % 5) b9 :: tl) := by
  have s := (SameL.ints hI hI).tail.tail.tail.tail.tail.tail.tail
  rw [rec_sig h6]
  exact .cons (.bytes _ _ _) (.cons (same_int rec_n0) (.cons (same_int rec_n1) (.cons (same_int rec_n2) (.cons (same_int rec_n3) (.cons (same_int rec_n4) (.cons (same_int rec_n5) (.cons s.head (.cons s.tail.head (.cons (same_int rfl) s.tail.tail.tail)))))))))
end
theorem words_cases (n : Int) : wordsV n = Str.ofString "zipfiles that span multiple disks are not supported" ∨ wordsV n = Str.ofString "Corrupt zip64 end of central directory locator" ∨ wordsV n = Str.ofString "Zip64 end of central directory record not found" ∨ wordsV n = Str.ofString "Corrupt zip64 end of central directory record" ∨ wordsV n = Str.ofString "" := by
  unfold wordsV
  split
  · exact .inl rfl
  split
  · exact .inr (.inl rfl)
  split
  · exact .inr (.inr (.inl rfl))
  split
  · exact .inr (.inr (.inr (.inl rfl)))
  · exact .inr (.inr (.inr (.inr rfl)))
theorem truthy_words {prog : Program} {w : World} {A : Around} {E : Value → Shared → Prop} {s : Shared} {Q : Bool → Shared → Prop} {n : Int} {t : Tok} (h1 : wordsV n ≠ Str.ofString "" → ∀ k, Q true { s with toks := k }) (h2 : wordsV n = Str.ofString "" → ∀ k, Q false { s with toks := k }) :
    wpAny (model prog w) A (truthy (.str (wordsV n) t)) Q E s := by
  rcases words_cases n with e | e | e | e | e <;> rw [e] at h1 h2 ⊢
  · exact KXt.truthy (b := true) (by decide +kernel) (by decide +kernel) (h1 (by decide +kernel))
  · exact KXt.truthy (b := true) (by decide +kernel) (by decide +kernel) (h1 (by decide +kernel))
  · exact KXt.truthy (b := true) (by decide +kernel) (by decide +kernel) (h1 (by decide +kernel))
  · exact KXt.truthy (b := true) (by decide +kernel) (by decide +kernel) (h1 (by decide +kernel))
  · exact KXt.truthy (b := false) (by decide +kernel) (by decide +kernel) (h2 rfl)
section
variable {prog : Program} {w : World} {A : Around} {E : Value → Shared → Prop} {s : Shared} {h₀ : Heap} {L r : Addr} {m : PySem.Str → Option Value} {news : List (Addr × Obj)} {a b : Int} {t₀ u₀ v₀ : Tok} {Q : Value → Shared → Prop}
theorem list_range10 (hh : A.handled = none) (F : Fr h₀ L s.heap m) (N : News h₀ L s.heap news) (hr : IsRange s.heap r a b 10 t₀ u₀ v₀) (a0 : 0 ≤ a) (a1 : a ≤ 1000) (b0 : 0 ≤ b) (b1 : b ≤ 1000)
    (h : ∀ D us c h' tk ks, Fr h₀ L h' m → News h₀ L h' ((D, listOf (List.toArray us) c) :: news) → (∀ p ∈ news, p.1 < D) → IntsAre us ks → (∀ k ∈ ks, 0 ≤ k) → us.length ≤ 1000 → Q (.ref D) { s with heap := h', toks := tk }) :
    wpAny (model prog w) A (call (.type "list") [.ref r]) Q E s := by
  have n0 : 0 ≤ Builtin.Range.rangeSize a b 10 ∧ Builtin.Range.rangeSize a b 10 ≤ 1000 := by
    unfold Builtin.Range.rangeSize
    rw [if_pos (by decide)]
    split <;> omega
  obtain ⟨n, hn⟩ : ∃ n : Nat, Builtin.Range.rangeSize a b 10 = n := ⟨(Builtin.Range.rangeSize a b 10).toNat, by omega⟩
  have hsmall : Builtin.Range.small a b 10 = true := by
    unfold Builtin.Range.small
    simp only [Builtin.Range.rangeFitsLong, Bool.and_eq_true, Bool.or_eq_true, decide_eq_true_eq, beq_iff_eq, show (10 : Int) > 0 by decide, if_true]
    rw [hn] at n0 ⊢
    omega
  refine call_list_range hh hr hsmall hn (by omega) fun h' tk acc c hk hD hI => ?_
  have hD' : h'.get? s.heap.objs.size = some (listOf (List.toArray acc.toList) c) := by
    rw [Array.toArray_toList]
    exact hD
  refine h _ acc.toList c h' tk ((List.range n).map fun i : Nat => a + (i : Int) * 10) (F.keeps hk) (news_pushed F N hk hD' rfl) (fun p hp => Heap.lt_size (N p hp).1) (ints_of _ _ (by rw [Array.length_toList, List.length_map, List.length_range]; exact hI.1) fun j v hj => ?_) (fun k hk => ?_) (by rw [Array.length_toList, hI.1]; omega)
  · have hj' : acc[j]? = some v := by rw [← hj, Array.getElem?_toList]
    obtain ⟨t, ht⟩ := hI.2 j v hj'
    have hlt : j < n := by
      have := (Array.getElem?_eq_some_iff.mp hj').1
      rw [hI.1] at this; exact this
    exact ⟨_, t, by rw [List.getElem?_map, List.getElem?_range hlt]; rfl, ht⟩
  · obtain ⟨i, _, rfl⟩ := List.mem_map.mp hk
    omega
end
end Mine

/- part R1 -/
namespace Mine
local macro_rules | `(tactic| walk_at "binaryOp FloorDiv int int") => `(tactic| (k_here; (with_reducible show wpAny _ _ (binaryOp Operator.FloorDiv (Value.int _ _) (Value.int _ _)) _ _ _); k_dflt (first
  | (refine' fdiv_lit (by decide) (by assumption) (by assumption) ?_; k_whole))))
local macro_rules | `(tactic| walk_at "binaryOp Mod int int") => `(tactic| (k_here; (with_reducible show wpAny _ _ (binaryOp Operator.Mod (Value.int _ _) (Value.int _ _)) _ _ _); k_dflt (refine' mod_lit (by decide) ?_; k_whole)))
local macro_rules | `(tactic| walk_at "exec For Name BinOp cons nil") => `(tactic| (k_here; k_dflt (refine for_S (by rfl) ?_)))
local macro_rules | `(tactic| walk_at "call builtin:len cons nil") => `(tactic| (k_here; (with_reducible show wpAny _ _ (call (Value.builtin "len") [Value.bytes _ _]) _ _ _); k_dflt (refine len_L (by assumption) ?_); intro _ _; (try dsimp only)))
local macro_rules | `(tactic| walk_at "subscriptTail Name Slice ref ref") => `(tactic| (k_here; (with_reducible show wpAny _ _ (subscriptTail _ (PySem.Expr.Slice _ _ none _) (Value.ref _) (Value.ref _)) _ _ _); k_dflt (refine' kms_slice_lit (by k_asm) (by k_asm) (by is_list) (by kmk_part) (by kmk_part) (by first | exact pick_allA _ | exact pick_79A | exact pick_10A) ?_ (by with_unfolding_all rfl) (by kmk_pure) (by ((simp only [List.size_toArray, List.length_cons]); rw [sizeLine_eq]; omega)); k_whole); intro rs9 hs9 Fs9 Ns9 ls9; (try dsimp only); (try k_sweep)))
local macro_rules | `(tactic| walk_at "call ref") => `(tactic| (k_here; (with_reducible show wpAny _ _ (call (Value.ref 135) _) _ _ _); (with_reducible rename News _ _ _ _ => kN9); (with_reducible rename AskCtx _ _ _ _ _ _ _ _ _ _ => hC9); (rename ∀ p : Addr × Obj, p ∈ _ → p.1 < _ => ls8); (first
  | (have kC9 := ask_cut [_] hC9 kN9 ls8 (allSeq rfl))
  | (have kC9 := ask_cut [_, _] hC9 kN9 ls8 (allSeq rfl))
  | (have kC9 := ask_cut [_, _, _, _, _, _, _, _] hC9 kN9 ls8 (allSeq rfl))); k_dflt (refine' asked_at _ _ (by assumption) (by assumption) (by assumption) (by assumption) (by assumption) _ _ _ _ _ _ _ _ _ _ _ _ _ _ _ _ _ (by assumption) (by exact kC9.2.2.2) _ _ _ _ _ _ _ _ _ _ _ _ _ _ _ _ _ _ (by k_asm) (by k_asm) (by k_asm) kC9.1 kC9.2.1 kC9.2.2.1 (by k_asm) (by assumption) (by assumption) (by assumption) (by exact rfl) (by ktr_room) (by ktr_units) ?_; k_whole); intro T9 ms9 u9 res9 row9 o9 t9 h9 tk9 g9 hA9 hW9 Tn9 F9 N9 NR9 B9 X9 T9' D9; (have hy9 := ask_says (by assumption) hA9); clear kC9 hA9; (first
  | (have ex9 := hy9.out (by omega); obtain ⟨e19, e29⟩ := ex9; subst e19 e29; replace hW9 : row9 = _ := hW9; subst hW9)
  | (have ex9 := hy9.off (by omega) (by first | assumption | omega); obtain ⟨e19, e29⟩ := ex9; subst e19 e29; replace hW9 : row9 = _ := hW9; subst hW9)
  | (have ex9 := hy9.bad (by omega) (by assumption) (by assumption); obtain ⟨e19, e29⟩ := ex9; subst e19 e29; replace hW9 : row9 = _ := hW9; subst hW9)
  | (have ex9 := hy9.good (by omega) (by assumption) (by assumption); obtain ⟨e19, e29, e39⟩ := ex9; subst e19 e29; obtain ⟨r09, r19, r29, r39, r49, r59, r69, r79, hW8⟩ := hW9; subst hW8)); clear hy9; (first | (have kJ9 := ask_join [_] N9 NR9) | (have kJ9 := ask_join [_, _] N9 NR9) | (have kJ9 := ask_join [_, _, _] N9 NR9) | (have kJ9 := ask_join [_, _, _, _] N9 NR9) | (have kJ9 := ask_join [_, _, _, _, _, _, _, _] N9 NR9)); clear N9 NR9; (dsimp only [Disk.led, List.cons_append, List.nil_append] at kJ9); (try dsimp only); (try k_fold)))
local macro_rules | `(tactic| walk_at "call ref") => `(tactic| (k_here; (with_reducible show wpAny _ _ (call (Value.ref 135) _) _ _ _); exfalso; omega))
local macro_rules | `(tactic| walk_at "truthy str") => `(tactic| (k_here; (with_reducible refine truthy_words (fun hw9 kw9 => ?_) (fun hw9 kw9 => ?_))))
local macro_rules | `(tactic| walk_at "compareOp NotEq ref ref") => `(tactic| (k_here; k_dflt (refine' told_same (by exact ⟨_, News.get (by k_asm) (by k_mem), rfl, _, rfl⟩) (by exact ⟨_, News.get (by k_asm) (by k_mem), rfl, _, rfl⟩) (by exact ⟨_, News.get (by k_asm) (by k_mem), rfl, _, rfl⟩) (by exact ⟨_, News.get (by k_asm) (by k_mem), rfl, _, rfl⟩) (by exact rfl) (by first | exact same_ints_v (by assumption) | exact good_same (by assumption) (by assumption)) (by ktr_units) ?_; k_whole)))
theorem right_at {w : World} {loose : List Str} {mean : ExcName → Option Value} {mg mb : Str → Option Value} (n : Int) (t1 : Tok) (h0 : 0 ≤ n) (h1 : n < 10000000000000) (tab : List (Addr × Obj)) (hTab : TabSt tab) :
  ∀ (dp un : Nat) (gd : Option (List Code)) (cn : Str) (cs : Scope) (a : Addr) (ccd : Value) (cl : List (Str × Addr)) (outer : List Env) (A₀ : Around) (base h₀ : Heap) (L : Addr) (m : Str → Option Value) (news : List (Addr × Obj)) (s : Shared)
    (Q E : Value → Shared → Prop),
    Below A₀ base outer h₀ → Fr h₀ L s.heap m → (hd.heap_39 w.params).In h₀ → News h₀ L s.heap tab → News h₀ L s.heap news → (∀ q ∈ news, q.1 ∉ tab.map (·.1)) → Top topProg loose mean mg mb h₀ →
    (hd.heap_39 w.params).In base → Top topProg loose mean mg mb base → KtsDicts (outer.filterMap (·.frame)) h₀ → CodeHd base 122 118 → cs.kind = .function → dp + 15 < recursionLimit → un + 200 < cLine →
    (∀ tab' h' tk' g', TabSt tab' → (∀ q ∈ news, q.1 ∉ tab'.map (·.1)) → KtsTurn (outer.filterMap (·.frame)) h₀ g' → Fr g' L h' m → News g' L h' tab' → News g' L h' news → Below A₀ base outer g' → (hd.heap_39 w.params).In g' → Top topProg loose mean mg mb g' → KtsDicts (outer.filterMap (·.frame)) g' → Q (.bool true) { s with heap := h', toks := tk' }) →
    wpAny (model pr w) (ktrTop dp un gd cn cs L a ccd cl outer) (call (.ref 140) [.int n t1]) Q E s := by
  w_top off
  intro dp un gd cn cs a ccd cl outer A₀ base h₀ L m news s Q E B F X NT N hdis T XB TB KD CHB hk hd hu hret
  have h2 : n < 2 ^ 62 := by omega
  have hlen := case_len n
  have e12 : (10 : Int) ^ Int.toNat 12 = 1000000000000 := by decide
  have e11 : (10 : Int) ^ Int.toNat 11 = 100000000000 := by decide
  have q12 : 0 ≤ n / 10 ^ Int.toNat 12 ∧ n / 10 ^ Int.toNat 12 ≤ 9 := by rw [e12]; omega
  have q11 : 0 ≤ n / 10 ^ Int.toNat 11 % 3 ∧ n / 10 ^ Int.toNat 11 % 3 ≤ 2 := by rw [e11]; omega
  have i0 := dg_in n 0
  have hb9 : (caseL n).length ≤ 16777216 := by omega
  refine wpAny_call ?_
  refine' frame_SC B F X NT N hdis T XB TB KD rfl rfl hk ?k6 ?k7 ?k8 ?k9 ?kB ?kD ?_ ?c2 ?c3 ?c4
  (case k6 => k_dflt k_is); (case k7 => k_dflt k_is); (case k8 => ktr_room); (case k9 => k_dflt exact BindsTo.of_eq rfl); (case kB => exact rfl); (case kD => decide +kernel); (case c2 => exact rfl); (case c3 => exact rfl); (case c4 => exact rfl)
  intro g' L' h' tk' cells' FG' F' N' Y' B' X' T' D' l1 l9
  have hY := CellsAre.one Y'
  obtain ⟨o', hE', d1⟩ := hY
  subst hE'
  have d1' : o'.data = .cell (some (.int n t1)) := d1
  clear d1 Y'
  simp only [List.cons_append, List.nil_append] at N'
  have CH' : CodeHd g' 122 118 := CHB.keeps B'.stays
  generalize bindL _ _ _ = m0 at F'
  dsimp only
  refine wpAny_same ?_
  refine wpAny_noRaise ?_
  k_fold
  repeat' (first
    | (k_here; (with_reducible show wpAny _ _ (call (Value.ref 128) _) _ _ _); k_dflt (refine' case_at _ _ ?h0 ?h1 _ _ _ _ _ _ _ _ _ _ _ _ _ _ _ _ _ _ ?B ?F ?X ?N ?T ?k ?d ?u ?_; (case h0 => with_reducible assumption); (case h1 => with_reducible assumption); (case B => k_asm); (case F => k_asm); (case X => k_asm); (case N => k_asm); (case T => k_asm); (case k => exact rfl); (case d => ktr_room); (case u => ktr_units)); intro cT cLi ca1 ca2 ca3 ca5 cb0 cb1 cb2 cb3 cb4 cb5 cb6 ce hc9 tkc9 Fc9 Nc9 cl9; (try dsimp only); (try k_fold))
    | (k_here; (with_reducible show wpAny _ _ (call (Value.ref 123) _) _ _ _); (with_reducible rename News _ _ _ _ => kN9); (with_reducible rename IntsAre _ (List.map _ (rangeKs 0 _)) => hI9); (obtain ⟨v0, v1, v2, v3, v4, v5, v6, v7, v8, v9, tl9, ey9⟩ := ten_of hI9 (by (simp only [List.length_map, rangeKs_length]; omega))); subst ey9; (have ht9 := hI9.length); (simp only [List.length_cons, List.length_map, rangeKs_length] at ht9); (have kL9 := cut4 kN9); k_dflt (refine' disk_at _ _ _ (by assumption) ?hb _ _ _ _ _ _ _ _ _ _ _ _ _ _ _ _ _ _ ?B ?F ?X kL9.1 kL9.2 ?dis ?T ?CH ?k ?d ?u ?_; (case hb => assumption); (case B => k_asm); (case F => k_asm); (case X => k_asm); (case dis => exact off_tab (by assumption) kL9.1 kL9.2 (nof4 (nof_seq rfl) (nof_seq rfl) (nof_seq rfl) (nof_cell (by assumption)))); (case T => k_asm); (case CH => assumption); (case k => exact rfl); (case d => ktr_room); (case u => ktr_units)); clear kL9; intro D td9 hd9 tkd9 hc19 hc29 nc19 nc29 hf19 hf29 hk19 hk29 hS9 hR9 hdd9 h1189 Fd9 Nd9; (try dsimp only); (try k_fold))
    | (k_here; (with_reducible show wpAny _ _ (call (Value.type "list") [Value.ref _]) _ _ _); (with_reducible rename IsRange _ _ _ _ 10 _ _ _ => rg9); k_dflt (refine' list_range10 ?hh ?F ?N rg9 ?a0 ?a1 ?b0 ?b1 ?_; (case hh => rfl); (case F => k_asm); (case N => k_asm); (case a0 => omega); (case a1 => omega); (case b0 => omega); (case b1 => omega); k_whole); intro Dr9 us9 cr9 hr9 tkr9 ks9 Fr9 Nr9 lr9 Ir9 pr9 ur9; (try k_sweep))
    | (k_unfold; (try dsimp only)) | (k_end; wrow_close) | walk1 | (dsimp only; walk1) | (leave1; walk_say "STEP leave1"; try dsimp only) | fail "no step")
  (with_reducible rename News _ _ _ _ => kN)
  (with_reducible rename Fr _ _ _ _ => kF)
  (with_reducible rename IntsAre _ (List.map _ (rangeKs 0 _)) => kI)
  (with_reducible rename IntsAre _ _ => kJ)
  (rename ∀ k ∈ _, (0 : Int) ≤ k => kP)
  refine loop_go _ kF (drop23 kN) B' X' T' D' rfl rfl (IntsAre.cons _ _ kJ) (List.forall_mem_cons.mpr ⟨by omega, kP⟩) ?turn ?done
  case turn =>
    intro g I oI o t u1 u2 p tp h tk hLI hI hp Tn F9 N9 B9 X9 T9 D9
    dsimp only [Disk.led, List.cons_append, List.nil_append] at N9
    dsimp only at F9
    clear kN kF kJ kP
    (have hC : AskCtx _ _ _ _ _ _ _ _ _ _ := ⟨⟨⟨_, by assumption⟩, ⟨_, by assumption⟩, by assumption, by assumption, by assumption, by assumption⟩, hI, ⟨_, _, rfl⟩, by assumption, by assumption⟩)
    clear hI
    dsimp only
    k_steps
    all_goals ((with_reducible rename KtsTurn _ _ _ => kt9); (with_reducible rename News _ _ _ _ => kn9); k_dflt (refine' TurnEnd.intro ?F ?m ?N ?T1 ?T2 ?B ?X ?T ?D; (case F => with_reducible assumption); (case m => (intro y9 hy19 hy29; simp only [if_neg hy19, if_neg hy29])); (case N => first | exact drop_pre [_, _, _] kn9 | exact drop_pre [_, _, _, _] kn9 | exact drop_pre [_, _, _, _, _] kn9 | exact drop_pre [_, _, _, _, _, _] kn9 | exact drop_pre [_, _, _, _, _, _, _, _, _, _] kn9); (case T2 => with_reducible exact kt9); (case T1 => with_reducible assumption); (case B => with_reducible assumption); (case X => with_reducible assumption); (case T => with_reducible assumption); (case D => with_reducible assumption)))
  case done =>
    intro g m o t h tk Tn F9 N9 B9 X9 T9 D9
    dsimp only [Disk.led, List.cons_append, List.nil_append] at N9
    clear kN kF kJ kP
    dsimp only
    k_steps
    intro krX
    (with_reducible rename News _ _ _ _ => kN2)
    (with_reducible rename KtsTurn _ _ _ => kT2)
    (rename CodeOk _ (Str.ofString "_law_disk.<locals>.seek") => hc1)
    (rename CodeOk _ (Str.ofString "_law_disk.<locals>.read") => hc2)
    (rename _ ∨ @LT.lt Nat _ _ (Disk.c1 _) => hn1)
    (rename _ ∨ @LT.lt Nat _ _ (Disk.c2 _) => hn2)
    exact hret _ _ _ _ (TabSt.warm _ _ _ _ hc1 hc2) (dis_tab hTab hdis l9 hn1 hn2) kT2 (by with_reducible assumption) (led_tab kN2) (back_newsT N kT2 krX) (by with_reducible assumption) (by with_reducible assumption) (by with_reducible assumption) (by with_reducible assumption)
end Mine

/- part W2 -/
namespace Mine
theorem right_0 {w : World} {loose : List Str} {mean : ExcName → Option Value} {mg mb : Str → Option Value} (n : Int) (t1 : Tok) (h0 : 0 ≤ n) (h1 : n < 10000000000000) (tab : List (Addr × Obj)) (hTab : TabSt tab) :
  ∀ (dp un : Nat) (gd : Option (List Code)) (cn : Str) (cs : Scope) (a : Addr) (ccd : Value) (cl : List (Str × Addr)) (A₀ : Around) (base h₀ : Heap) (L : Addr) (m : Str → Option Value) (news : List (Addr × Obj)) (s : Shared)
    (Q E : Value → Shared → Prop),
    Below A₀ base [] h₀ → Fr h₀ L s.heap m → (hd.heap_39 w.params).In h₀ → News h₀ L s.heap tab → News h₀ L s.heap news → (∀ q ∈ news, q.1 ∉ tab.map (·.1)) → Top topProg loose mean mg mb h₀ →
    (hd.heap_39 w.params).In base → Top topProg loose mean mg mb base → CodeHd base 122 118 → cs.kind = .function → dp + 15 < recursionLimit → un + 200 < cLine →
    (∀ tab' h' tk', TabSt tab' → (∀ q ∈ news, q.1 ∉ tab'.map (·.1)) → Fr h₀ L h' m → News h₀ L h' tab' → News h₀ L h' news → Q (.bool true) { s with heap := h', toks := tk' }) →
    wpAny (model pr w) (ktrTop dp un gd cn cs L a ccd cl []) (call (.ref 140) [.int n t1]) Q E s := by
  intro dp un gd cn cs a ccd cl A₀ base h₀ L m news s Q E B F X NT N hdis T XB TB CHB hk hd hu hret
  refine right_at n t1 h0 h1 tab hTab dp un gd cn cs a ccd cl [] A₀ base h₀ L m news s Q E B F X NT N hdis T XB TB ktsDicts_nil CHB hk hd hu fun tab' h' tk' g' hT' hd' Tn F' NT' N' _ _ _ _ => ?_
  have back : ∀ b, g'.get? b = none → h₀.get? b = none := fun b e => by
    cases z : h₀.get? b with
    | none => rfl
    | some o => have := Tn.other b o z (fun h => nomatch h); rw [e] at this; cases this
  exact hret tab' h' tk' hT' hd' ⟨F'.ns, fun b o e => F'.keep b o (Tn.other b o e (fun h => nomatch h)), by rw [← Tn.size]; exact F'.above⟩ (fun q hq => ⟨(NT' q hq).1, (NT' q hq).2.1, back _ (NT' q hq).2.2⟩) (fun q hq => ⟨(N' q hq).1, (N' q hq).2.1, back _ (N' q hq).2.2⟩)
section
variable {prog : Program} {w : World} {A : Around} {E : Value → Shared → Prop} {s : Shared} {h₀ : Heap} {L : Addr} {m : Str → Option Value} {env : Env}
/-- where a comprehension's list is found: left to be shown by hand -/
def MySrc (prog : Program) (w : World) (A : Around) (h₀ : Heap) (L : Addr) (m : Str → Option Value) (env : Env) (elt : Expr) (x : Str) (scope : Scope) (cl : List (Str × Addr)) (Q : Value → Shared → Prop) (xv : Value) (s₁ : Shared) : Prop :=
  LCg.CompSrc prog w A h₀ L m env elt x scope cl (fun s₂ => LCg.FinE h₀ L m s₂ Q) xv s₁
theorem comp_M {elt iter : Expr} {x : Str} {px : Pos} {scope : Scope} {cl : List (Str × Addr)} {pos : Pos} {Q : Value → Shared → Prop} (F₀ : Fr h₀ L s.heap m)
    (hclos : closureFor scope env = pure cl) (hcell : ∀ y ∈ scope.names, y.2 ≠ .cell) (hkind : scope.kind = .function)
    (hnames : ∀ y ∈ scope.names, y.2 = .local → scope.names.lookup y.1 = some .local) (hx : scope.names.lookup x = some .local)
    (h : wpAny (model prog w) A (eval iter env) (MySrc prog w A h₀ L m env elt x scope cl Q) E s)
    (hs : ∀ x, foldedSetIterable iter env x = pure x := by intro _; rfl) :
    wpAny (model prog w) A (eval (.ListComp elt [⟨.Name x px, iter, [], 0⟩] scope pos) env) Q E s := LCg.ListComp_U F₀ hclos hcell hkind hnames hx h hs
theorem bools_snoc : ∀ {ys : List Value} {i : Nat}, LSm.BoolsAre ys (List.replicate i true) → LSm.BoolsAre (ys ++ [.bool true]) (List.replicate (i + 1) true)
  | [], 0, _ => .cons true .nil
  | [], i + 1, h => by cases h
  | y :: ys, 0, h => by cases h
  | y :: ys, i + 1, h => by
    cases h with
    | cons b h => exact .cons true (bools_snoc h)
/-- what a turn of the comprehension answers -/
def ElEnd (h₀ : Heap) (L : Addr) (m : Str → Option Value) (s : Shared) (keep : List (Addr × Obj)) (others : List (Addr × Obj)) (y : Value) (s' : Shared) : Prop :=
  y = .bool true ∧ ∃ tab' h' tk', s' = { s with heap := h', toks := tk' } ∧ TabSt tab' ∧ Fr h₀ L h' m ∧ News h₀ L h' (keep ++ (others ++ tab')) ∧ ∀ q ∈ keep ++ others, q.1 ∉ tab'.map (·.1)
theorem ElEnd.intro {keep others tab' : List (Addr × Obj)} {h' : Heap} {tk' : Nat} (hT : TabSt tab') (F : Fr h₀ L h' m) (NT : News h₀ L h' tab') (N : News h₀ L h' (keep ++ others)) (hd : ∀ q ∈ keep ++ others, q.1 ∉ tab'.map (·.1)) :
    ElEnd h₀ L m s keep others (.bool true) { s with heap := h', toks := tk' } := ⟨rfl, tab', h', tk', rfl, hT, F, by rw [← List.append_assoc]; exact news_app N NT, hd⟩
theorem tab_head {tab : List (Addr × Obj)} (h : TabSt tab) : ∃ ps rest, tab = (118, tabObj ps) :: rest := by cases h <;> exact ⟨_, _, rfl⟩
def ElOk (prog : Program) (w : World) (A : Around) (h₀ : Heap) (L : Addr) (m : Str → Option Value) (env : Env) (elt : Expr) (x : Str) (scope : Scope) (cl : List (Str × Addr)) (others : List (Addr × Obj)) (s : Shared) : Prop :=
  ∀ tab n t I oI C oC D oD m₂ h tk (E' : Value → Shared → Prop), TabSt tab → 0 ≤ n → n < 10000000000000 → LCg.NsObj oC m₂ → m₂ x = some (.int n t) → Fr h₀ L h m → News h₀ L h ((I, oI) :: (C, oC) :: (D, oD) :: (others ++ tab)) → (∀ q ∈ [(I, oI), (C, oC), (D, oD)] ++ others, q.1 ∉ tab.map (·.1)) →
    wpAny (model prog w) A (eval elt (compEnvC scope cl C env)) (ElEnd h₀ L m { s with heap := h, toks := tk } [(I, oI), (C, oC), (D, oD)] others) E' { s with heap := h, toks := tk }
theorem rest_all {elt : Expr} {x : Str} {scope : Scope} {cl : List (Str × Addr)} {others : List (Addr × Obj)} {its : List Value} {l : Addr} {oL : Obj} {k : Nat} {Fin : List Value → List (Addr × Obj) → Prop}
    (hm : (l, oL) ∈ others) (hc : oL.cls = .type "list") (hd' : oL.data = .seq its.toArray k) (hno : ∀ q ∈ others, NoFields q.2) (hits : ∀ v ∈ its, ∃ n t, v = .int n t ∧ 0 ≤ n ∧ n < 10000000000000) (el : ElOk prog w A h₀ L m env elt x scope cl others s)
    (fin : ∀ ys tab, TabSt tab → LSm.BoolsAre ys (List.replicate its.length true) → Fin ys (others ++ tab)) :
    ∀ (k i : Nat) (ys : List Value) (tab : List (Addr × Obj)), i + k = its.length → TabSt tab → LSm.BoolsAre ys (List.replicate i true) →
      LCg.CompRest prog w A h₀ L m env elt x scope cl s (LCg.SrcAt h₀ l its.toArray) (fun i v => its.toArray[i]? = some v) Fin k i ys (others ++ tab) := by
  intro k
  induction k with
  | zero =>
    intro i ys tab hi hT hb
    exact LCg.CompRest.zero (fin ys tab hT (by rw [← hi]; exact hb))
  | succ k ih =>
    intro i ys tab hi hT hb
    refine LCg.CompRest.succ fun v I oI C oC D m₂ h tk E' hP hC hx F N off ne => ?_
    have hv : v ∈ its := by
      have : its[i]? = some v := by simpa using hP
      exact List.mem_of_getElem? this
    obtain ⟨n, t, rfl, n0, n1⟩ := hits v hv
    have offm := off.mem
    have Nt : News h₀ L h tab := fun q hq => N q (.tail _ (.tail _ (.tail _ (List.mem_append_right _ hq))))
    have No : News h₀ L h others := fun q hq => N q (.tail _ (.tail _ (.tail _ (List.mem_append_left _ hq))))
    refine wpAny_mono (el tab n t I oI C oC D (LCg.lst ys) m₂ h tk E' hT n0 n1 hC hx F N fun q hq => ?_) (fun y s₂ hy => ?_) fun _ _ e => e
    · rcases List.mem_append.mp hq with hq | hq
      · intro hm'
        obtain ⟨p, hp, e⟩ := List.mem_map.mp hm'
        have o := offm p (List.mem_append_right _ hp)
        simp only [List.mem_cons, List.not_mem_nil, or_false] at hq
        rcases hq with rfl | rfl | rfl
        · exact o.1 e
        · exact o.2.1 e
        · exact o.2.2 e
      · exact off_tab hT Nt No hno q hq
    · obtain ⟨rfl, tab', h', tk', rfl, hT', F', N', d'⟩ := hy
      refine ⟨h', tk', others ++ tab', rfl, F', N', LCg.Off3.of fun p hp => ?_, .inr ⟨oL, List.mem_append_left _ hm, hc, _, hd'⟩, ?_⟩
      · rcases List.mem_append.mp hp with hp | hp
        · exact offm p (List.mem_append_left _ hp)
        · have z : ∀ q ∈ [(I, oI), (C, oC), (D, LCg.lst ys)], p.1 ≠ q.1 := fun q hq e => d' q (List.mem_append_left _ hq) (by rw [← e]; exact List.mem_map_of_mem hp)
          exact ⟨z _ (.head _), z _ (.tail _ (.head _)), z _ (.tail _ (.tail _ (.head _)))⟩
      · exact ih (i + 1) _ tab' (by omega) hT' (bools_snoc hb)
theorem src_all {elt : Expr} {x : Str} {scope : Scope} {cl : List (Str × Addr)} {others tab : List (Addr × Obj)} {its : List Value} {l : Addr} {oL : Obj} {k : Nat} {Q : Value → Shared → Prop}
    (hh : A.handled = none) (F : Fr h₀ L s.heap m) (N : News h₀ L s.heap (others ++ tab)) (hT : TabSt tab)
    (hm : (l, oL) ∈ others) (hc : oL.cls = .type "list") (hd' : oL.data = .seq its.toArray k) (hno : ∀ q ∈ others, NoFields q.2) (hits : ∀ v ∈ its, ∃ n t, v = .int n t ∧ 0 ≤ n ∧ n < 10000000000000) (hsz : its.length ≤ 1000)
    (el : ∀ g, ElOk prog w A h₀ L m env elt x scope cl others { s with heap := g })
    (fin : ∀ D ys tab h tk, TabSt tab → Fr h₀ L h m → News h₀ L h ((D, LCg.lst ys) :: (others ++ tab)) → LSm.BoolsAre ys (List.replicate its.length true) → Q (.ref D) { s with heap := h, toks := tk }) :
    MySrc prog w A h₀ L m env elt x scope cl Q (.ref l) s :=
  .inl ⟨l, its.toArray, others ++ tab, rfl, hh, F, N, .inr ⟨oL, List.mem_append_left _ hm, hc, _, hd'⟩, by rw [List.size_toArray, sizeLine_eq]; omega, by
    rintro s₂ ⟨g, rfl⟩
    have r := rest_all (Fin := fun ys news => LCg.FinE h₀ L m { s with heap := g } Q ys news) hm hc hd' hno hits (el g) (fun ys tab' hT' hb D h tk F' N' _ => fin D ys tab' h tk hT' F' N' hb) its.length 0 [] tab (by omega) hT .nil
    simpa using r⟩
end
end Mine
namespace Mine
theorem cut7 {g h : Heap} {L : Addr} {a b c d e f i : Addr × Obj} {tab : List (Addr × Obj)} (N : News g L h (a :: b :: c :: d :: e :: f :: i :: tab)) : News g L h tab ∧ News g L h [a, b, c, d, e, f, i] :=
  ⟨fun q hq => N q (.tail _ (.tail _ (.tail _ (.tail _ (.tail _ (.tail _ (.tail _ hq))))))), fun q hq => N q (List.mem_append_left tab hq)⟩
theorem all_rep (n : Nat) : (List.replicate n true).all id = true := by
  rw [List.all_eq_true]
  intro x hx
  rw [(List.mem_replicate.mp hx).2]; rfl
theorem noF_all {l : List (Addr × Obj)} (h : (l.all fun q => seqB q.2) = true) : ∀ q ∈ l, NoFields q.2 := fun q hq => by
  obtain ⟨a, n, e⟩ := allSeq h q hq
  exact nof_seq e
theorem mem_ints {vs : List Value} {ks : List Int} (h : IntsAre vs ks) : ∀ v ∈ vs, ∃ k t, v = .int k t ∧ k ∈ ks := by
  induction h with
  | nil => intro v hv; cases hv
  | cons n t _ ih =>
    intro v hv
    rcases List.mem_cons.mp hv with rfl | hv
    · exact ⟨n, t, rfl, .head _⟩
    · obtain ⟨k, t', e, hk⟩ := ih v hv
      exact ⟨k, t', e, .tail _ hk⟩
theorem hits_of {vs : List Value} {ns : List Int} (h : IntsAre vs (List.map (fun k' : Int => k'.fmod (10 ^ Int.toNat 13)) ns ++ [120100004023])) : ∀ v ∈ vs, ∃ n t, v = .int n t ∧ 0 ≤ n ∧ n < 10000000000000 := by
  intro v hv
  obtain ⟨k, t', rfl, hk⟩ := mem_ints h v hv
  rcases List.mem_append.mp hk with hk | hk
  · obtain ⟨j, _, rfl⟩ := List.mem_map.mp hk
    have e13 : (10 : Int) ^ Int.toNat 13 = 10000000000000 := by decide
    rw [e13, Int.fmod_eq_emod_of_nonneg _ (by decide)]
    exact ⟨_, _, rfl, by omega, by omega⟩
  · rw [List.mem_singleton.mp hk]
    exact ⟨_, _, rfl, by decide, by decide⟩
theorem size_of {vs : List Value} {ns : List Int} {f : Int → Int} {c : Int} (h : IntsAre vs (List.map f (List.take 3 ns) ++ [c])) : vs.length ≤ 1000 := by
  have := h.length
  rw [List.length_append, List.length_map, List.length_take, List.length_singleton] at this
  omega
end Mine

/- the law -/
local macro_rules | `(tactic| walk_at "eval ListComp Call cons") => `(tactic| (k_here; k_dflt (refine Mine.comp_M (F₀ := by k_asm) (by with_unfolding_all rfl) (by decide) (by rfl) (by decide) (by rfl) ?_)))
local macro_rules | `(tactic| walk_at "call builtin:all cons nil") => `(tactic| (k_here; (with_reducible show wpAny _ _ (call (Value.builtin "all") [Value.ref _]) _ _ _); k_dflt (refine LSm.all_bools (by k_asm) (by k_asm) (by rfl) (by lsm_list) (by assumption) ?_); intro h9 tk9 F9 N9; rw [Mine.all_rep]; (try dsimp only)))
local macro_rules | `(tactic| walk_at "call ref") => `(tactic| (k_here; (with_reducible show wpAny _ _ (call (Value.ref 140) _) _ _ _); (with_reducible rename News _ _ _ _ => kN9); (have kL9 := Mine.cut7 kN9); k_dflt (refine' Mine.right_0 _ _ (by assumption) (by assumption) _ (by assumption) _ _ _ _ _ _ _ _ _ _ _ _ _ _ _ _ _ (by k_asm) (by k_asm) (by k_asm) kL9.1 kL9.2 (by assumption) (by k_asm) (by assumption) (by assumption) (by assumption) (by exact rfl) (by ktr_room) (by ktr_units) ?_); clear kL9; intro tab9 h9 tk9 hT9 hd9 F9 NT9 N9; (try dsimp only); (try k_fold)))
theorem PySem.Challenge.cw_in0113_01_holds : PySem.Challenge.rw_in0113_01.Holds := by
  exact hd (by
    k_go0
    all_goals (try k_fold)
    k_steps
    (with_reducible rename News _ _ _ _ => kN)
    (with_reducible rename Fr _ _ _ _ => kF)
    (with_reducible rename IntsAre _ (_ ++ [120100004023]) => kI)
    refine Mine.src_all (others := [_, _, _, _]) (tab := [(118, tabObj #[])]) rfl kF kN Mine.TabSt.cold (.head _) rfl rfl (Mine.noF_all rfl) (Mine.hits_of kI) (Mine.size_of kI) ?el ?fin
    case el =>
      intro g
      unfold Mine.ElOk
      intro tab n t I oI C oC D oD m₂ h tk E' hT n0 n1 hC hx F9 N9 hd9
      dsimp only [List.cons_append, List.nil_append] at N9
      clear kN kF kI
      dsimp only
      k_steps
      refine' Mine.ElEnd.intro ?hT ?F ?NT ?N ?hd
      (case hT => assumption)
      (case F => with_reducible assumption)
      (case NT => with_reducible assumption)
      (case N => assumption)
      (case hd => assumption)
    case fin =>
      intro D ys tab h tk hT9 F9 N9 hb9
      obtain ⟨ps, rest, et9⟩ := Mine.tab_head hT9
      subst et9
      dsimp only [List.cons_append, List.nil_append] at N9
      clear kN kF kI
      dsimp only
      k_steps)
