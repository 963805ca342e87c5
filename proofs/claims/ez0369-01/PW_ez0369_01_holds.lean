import PyProof.Rows.All
import Wide.All
import OpenK.AllK
import Wide.FinOn
import PySem.Challenge.RW_ez0369_01
set_option Elab.async false
set_option maxRecDepth 100000
set_option maxHeartbeats 8000000
set_option linter.all false

section
open PySem PySem.W PyProof.Rows
namespace Mine
open_top hd for PySem.Challenge.rw_ez0369_01
end Mine
end

section
open PySem PySem.W PySem.Calls PyProof.Rows
theorem Mine.off_Base {M : Model} {A : Around} {E : Value → Shared → Prop} {s : Shared} {Q : Flow → Shared → Prop} {env : Env} (h : Q .next s) : wpAny M A (execs [] env) Q E s := by
  w_top off
  try walk1
  first
    | exact h
    | exact wpAny_execs_nil h
end
section
open PySem PySem.W PySem.Calls PyProof.Rows
namespace Mine

abbrev At (dp un : Nat) (envs : List Env) : Around := { handled := none, depth := dp, frames := some envs, guards := none, units := un }

theorem codeAny_deepen {M : Model} {A A' : Around} {c : Code} {R : Result → Shared → Prop} {s : Shared} (h : codeAny M A' c R s)
    (h1 : A'.handled = A.handled) (h2 : A.depth ≤ A'.depth) (h3 : A'.frames = A.frames) (h4 : A'.guards = none) (h5 : A.units ≤ A'.units) : codeAny M A c R s := by
  intro Γ p hc hB
  refine h Γ p hc ⟨hB.1.trans h1.symm, Nat.le_trans hB.2.1 h2, ?_, ?_, Nat.le_trans hB.2.2.2.2 h5⟩
  · intro l hl; exact hB.2.2.1 l (h3 ▸ hl)
  · intro l hl; rw [h4] at hl; cases hl

def Small (g h : Heap) (small : List (Addr × Obj)) : Prop := ∀ p ∈ small, h.get? p.1 = some p.2 ∧ g.get? p.1 = none

abbrev TopG (mean : ExcName → Option Value) (mg mb : Str → Option Value) (h : Heap) : Prop := Top hd.view_39 (looseW hd.view_39 [Str.ofString "TextXObject"]) mean mg mb h

def Con (dp un : Nat) (w : World) (mean : ExcName → Option Value) (mg mb : Str → Option Value) (f : Addr) (args : List Value) (small : List (Addr × Obj)) (Post : Value → List (Addr × Obj) → Prop) : Prop :=
  ∀ (envs : List Env) (base g : Heap) (s : Shared) (R : Result → Shared → Prop),
    Below (At dp un envs) base envs g → (∀ b o, g.get? b = some o → s.heap.get? b = some o) → g.objs.size ≤ s.heap.objs.size → Small g s.heap small →
    (hd.heap_39 w.params).In g → Top hd.view_39 (looseW hd.view_39 [Str.ofString "TextXObject"]) mean mg mb g →
    (∀ v small' h' tk', Post v small' → (∀ b o, g.get? b = some o → h'.get? b = some o) → Small g h' small' → R (.ok (.ret v)) { s with heap := h', toks := tk' }) →
    codeAny (model PySem.Challenge.rw_ez0369_01.row.prog w) (At dp un envs) (.call (.ref f) ⟨args, []⟩) R s

section
variable {prog : Program} {w : World} {A : Around} {s : Shared} {base g : Heap} {envs : List Env} {small : List (Addr × Obj)} {K : Frag} {mean : ExcName → Option Value} {mg mb : Str → Option Value} {p : Program} {loose : List Str}
  {R : Result → Shared → Prop} {name qual : Str} {params : Arguments} {body : List Stmt} {scope : Scope} {dV kV doc pm cdv ct oc : Value} {an od : Option Addr} {osl : Array (Option Value)} {f : Addr} {args : Args} {binds : List (Str × Value)}

theorem enterP (hk : ∀ b o, g.get? b = some o → s.heap.get? b = some o) (hz : g.objs.size ≤ s.heap.objs.size) (N : Small g s.heap small) (X : K.In g) (T : Top p loose mean mg mb g)
    (ho : K.lookup f = some ⟨oc, od, .func (fnOf name qual params body scope dV kV doc pm an cdv ct), osl⟩) (hcd : codeIn K cdv qual = true) (hroom : A.depth < recursionLimit)
    (hbind : BindsTo s (fnOf name qual params body scope dV kV doc pm an cdv ct) args binds) (hloc : ∀ y ∈ binds, scope.names.lookup y.1 = some .local)
    (h : ∀ L' h₁, Fr g L' h₁ (fun y => binds.reverse.lookup y) → News g L' h₁ small →
      wpAny (model prog w) (A.deeper (envOf qual scope L' f cdv)) (execs body (envOf qual scope L' f cdv))
        (fun fl s' => R (.ok (.ret (match fl with | .ret v => v | _ => .none))) s')
        (fun e s' => wpAny (model prog w) (A.deeper (envOf qual scope L' f cdv)) (leaving (envOf qual scope L' f cdv) e) (fun _ s'' => R (.error e) s'') (fun e' s'' => R (.error e') s'') s')
        { s with heap := h₁, toks := s.toks + binds.length })
    (hco : scope.isCoroutine = false) (hgen : scope.isGenerator = false) (hkd : scope.kind = .function)
    (hcell : ∀ x ∈ scope.names, x.2 ≠ .cell) : codeAny (model prog w) A (.call (.ref f) args) R s := by
  refine codeAny_call_def (fd := fnX name qual params body scope [] dV kV doc pm an cdv ct) (body := body) (binds := binds) hroom ((X.keeps hk) _ _ ho) rfl (T.nolimit.keeps hk) (codeRec_of (X.keeps hk) hcd) rfl hbind hcell hloc (fun h₁ hns hk₁ => ?_) hco hgen hkd
  exact h s.heap.objs.size h₁ ⟨hns, fun b o e => hk₁ b o (hk b o e), hz⟩ (fun q hq => ⟨hk₁ _ _ (N q hq).1, Nat.ne_of_lt (Heap.lt_size (N q hq).1), (N q hq).2⟩)

theorem enterC (hk : ∀ b o, g.get? b = some o → s.heap.get? b = some o) (hz : g.objs.size ≤ s.heap.objs.size) (N : Small g s.heap small) (X : K.In g) (T : Top p loose mean mg mb g)
    (ho : K.lookup f = some ⟨oc, od, .func (fnOf name qual params body scope dV kV doc pm an cdv ct), osl⟩) (hcd : codeIn K cdv qual = true) (hroom : A.depth < recursionLimit)
    (hbind : BindsTo s (fnOf name qual params body scope dV kV doc pm an cdv ct) args binds) (hkind : (binds.all fun y => scope.names.lookup y.1 == some .local || scope.names.lookup y.1 == some .cell) = true)
    (hnd : ((cellsFrom 0 scope.names []).map (·.1)).Nodup)
    (h : ∀ L' h₁ tk cells, Fr g L' h₁ (bindL (envOfC qual scope L' f cdv).kindOf binds fun _ => none) → News g L' h₁ (cells ++ small) →
      CellsAre (bindC (envOfC qual scope L' f cdv).kindOf binds fun _ => none) (cellsFrom (L' + 1) scope.names []) cells → (∀ q ∈ small, q.1 < L') →
      wpAny (model prog w) (A.deeper (envOfC qual scope L' f cdv)) (execs body (envOfC qual scope L' f cdv))
        (fun fl s' => R (.ok (.ret (match fl with | .ret v => v | _ => .none))) s')
        (fun e s' => wpAny (model prog w) (A.deeper (envOfC qual scope L' f cdv)) (leaving (envOfC qual scope L' f cdv) e) (fun _ s'' => R (.error e) s'') (fun e' s'' => R (.error e') s'') s')
        { s with heap := h₁, toks := tk })
    (hco : scope.isCoroutine = false) (hgen : scope.isGenerator = false) (hkd : scope.kind = .function) : codeAny (model prog w) A (.call (.ref f) args) R s := by
  refine codeAny_call_function hroom ((X.keeps hk) _ _ ho) rfl hco hgen rfl (codeRec_of (X.keeps hk) hcd) (hbind _ _ _ _ ?_)
  refine wpAny_newFunctionEnv_cells hkd (kindsX hkind _) fun env' he s' x => ?_
  subst he
  refine ⟨(T.nolimit.keeps hk).keeps x.toInCall.keep, codeAny_func ?_⟩
  obtain ⟨h₁, tk, rfl, _⟩ := x.done
  have hk₁ := x.toInCall.keep
  obtain ⟨cells, NC, Y⟩ := Cl.news (h₀ := s.heap) (Nat.le_refl _) fun n c hm => ⟨x.cell n c (lookup_of_mem_nodup (cellsFrom_names scope.names 0 (s.heap.objs.size + 1) [] [] rfl ▸ hnd) hm), x.above n c hm⟩
  refine h s.heap.objs.size h₁ tk cells ⟨x.toInCall.ns, fun b o e => hk₁ b o (hk b o e), hz⟩ (fun q hq => ?_) Y (fun q hq => Heap.lt_size (N q hq).1)
  rcases List.mem_append.mp hq with hq | hq
  · refine ⟨(NC q hq).1, (NC q hq).2.1, ?_⟩
    cases e : g.get? q.1 with
    | none => rfl
    | some o => have := hk _ _ e; rw [(NC q hq).2.2] at this; cases this
  · exact ⟨hk₁ _ _ (N q hq).1, Nat.ne_of_lt (Heap.lt_size (N q hq).1), (N q hq).2⟩
end

section
variable {w : World} {A A₀ : Around} {E : Value → Shared → Prop} {s : Shared} {base h₀ : Heap} {L : Addr} {m : Str → Option Value} {outer : List Env} {env : Env} {small news : List (Addr × Obj)} {mean : ExcName → Option Value} {mg mb : Str → Option Value}
  {f : Addr} {args : List Value} {Post : Value → List (Addr × Obj) → Prop} {dp un : Nat} {Q : Value → Shared → Prop}

theorem Con.useR {R : Result → Shared → Prop} (C : Con dp un w mean mg mb f args small Post) (B : Below A₀ base outer h₀) (F : Fr h₀ L s.heap m) (X : (hd.heap_39 w.params).In h₀) (N : News h₀ L s.heap small)
    (T : Top hd.view_39 (looseW hd.view_39 [Str.ofString "TextXObject"]) mean mg mb h₀)
    (hA : A.frames = some (env :: outer)) (hf : env.frame = some L) (hke : env.scope.kind = .function) (hh : A.handled = none) (hdp : A.depth ≤ dp) (hun : A.units ≤ un)
    (ret : ∀ v small' h' tk', Post v small' → Fr h₀ L h' m → News h₀ L h' small' → (∀ b o, b ∉ small.map (·.1) → s.heap.get? b = some o → h'.get? b = some o) →
      (∀ q ∈ small', q.1 ∉ small.map (·.1) → s.heap.get? q.1 = none) → R (.ok (.ret v)) { s with heap := h', toks := tk' }) :
    codeAny (model PySem.Challenge.rw_ez0369_01.row.prog w) A (.call (.ref f) ⟨args, []⟩) R s := by
  obtain ⟨FG, BG, st, -⟩ := groundX (R := fun _ _ => True) B F N hA hf hke
  have BG' : Below (At dp un (env :: outer)) base (env :: outer) (hideAll s.heap (small.map (·.1))) := ⟨rfl, BG.stays, BG.frames⟩
  refine codeAny_deepen (C (env :: outer) base _ s R BG' (fun b o e => of_hideAll _ e) (Nat.le_of_eq (hideAll_size _ _)) (fun q hq => ⟨(N q hq).1, hideAll_none _ (List.mem_map_of_mem hq)⟩) (X.keeps st) (T.keeps st) ?_) hh.symm hdp hA.symm rfl hun
  intro v small' h' tk' hp hk' hs'
  have nL : L ∉ small.map (·.1) := fun q => by
    obtain ⟨p, hp, e⟩ := List.mem_map.mp q
    exact (N p hp).2.1 e
  have keep : ∀ b o, b ∉ small.map (·.1) → s.heap.get? b = some o → h'.get? b = some o := fun b o hb e => hk' b o (hideAll_get _ e hb)
  obtain ⟨oL, es, ep, hL, hLd, hLk, hLf⟩ := F.ns
  have hfr : ∀ q ∈ small', q.1 ∉ small.map (·.1) → s.heap.get? q.1 = none := fun q hq hn => by
    cases e : s.heap.get? q.1 with
    | none => rfl
    | some o => have := hideAll_get (small.map (·.1)) e hn; rw [(hs' q hq).2] at this; cases this
  refine ret v small' h' tk' hp ⟨⟨oL, es, ep, keep _ _ nL hL, hLd, hLk, hLf⟩, fun b o e => hk' b o (st b o e), F.above⟩ (fun q hq => ⟨(hs' q hq).1, ?_, ?_⟩) keep hfr
  · intro e
    have := (hs' q hq).2
    rw [e, hideAll_get (small.map (·.1)) hL nL] at this
    cases this
  · cases e : h₀.get? q.1 with
    | none => rfl
    | some o => have := (hs' q hq).2; rw [st _ _ e] at this; cases this

theorem Con.use (C : Con dp un w mean mg mb f args small Post) (B : Below A₀ base outer h₀) (F : Fr h₀ L s.heap m) (X : (hd.heap_39 w.params).In h₀) (N : News h₀ L s.heap news)
    (T : Top hd.view_39 (looseW hd.view_39 [Str.ofString "TextXObject"]) mean mg mb h₀)
    (hA : A.frames = some (env :: outer)) (hf : env.frame = some L) (hke : env.scope.kind = .function) (hh : A.handled = none) (hdp : A.depth ≤ dp) (hun : A.units ≤ un)
    (hs : ∀ q ∈ small, q ∈ news)
    (ret : ∀ v small' h' tk', Post v small' → Fr h₀ L h' m → News h₀ L h' small' → (∀ b o, b ∉ small.map (·.1) → s.heap.get? b = some o → h'.get? b = some o) →
      (∀ q ∈ small', q.1 ∉ small.map (·.1) → s.heap.get? q.1 = none) → Q v { s with heap := h', toks := tk' }) :
    wpAny (model PySem.Challenge.rw_ez0369_01.row.prog w) A (call (.ref f) args) Q E s :=
  wpAny_call (Con.useR C B F X (fun q hq => N q (hs q hq)) T hA hf hke hh hdp hun ret)

end
end Mine
end

section
open PySem PySem.W PySem.Calls PyProof.Rows
theorem Mine.off_C1 {M : Model} {A : Around} {E : Value → Shared → Prop} {s : Shared} {Q : Flow → Shared → Prop} {env : Env} (h : Q .next s) : wpAny M A (execs [] env) Q E s := by
  w_top off
  try walk1
  first
    | exact h
    | exact wpAny_execs_nil h
end
section
open PySem PySem.W PySem.Calls PyProof.Rows Builtin Builtin.ObjectAttr
namespace Mine

section
variable {prog : Program} {w : World} {A : Around} {E : Value → Shared → Prop} {s : Shared} {K : Frag} {x C L : Addr} {h₀ : Heap} {m : Str → Option Value} {ox : Obj} {od : Obj} {es : List DictEntry} {n : Nat} {name : Str} {v : Value} {expr : Bool} {Q : Value → Shared → Prop}
theorem get_ownH {attr : Option Value} (F : Fr h₀ L s.heap m) (X₀ : K.In h₀) (I : InstAt s.heap x ox C (some (dictOf es n))) (hg : findIn K (.ref C) "__getattribute__" = some (some (.builtin "object.__getattribute__"))) (hh : hasDictIn K C = true)
    (ha : findIn K (.ref C) name = some attr) (hn : noGet K attr = true) (hl : getL name es = some (some v)) (hv : handedIn v = true) (h : Q v { s with toks := s.toks + 1 }) :
    wpAny (model prog w) A (getAttr (.ref x) name expr) Q E s :=
  get_value (X₀.keeps F.keep) I hg (findObj_own hh ha hn hl) hv h

theorem findObj_missing (hh : hasDictIn K C = true) (ha : findIn K (.ref C) name = some none) (hc : copiedNames.contains name = false) (hl : lookIn name od = some none) : findObj K C (some od) name = some .missing := by
  obtain ⟨cd, hc', hd⟩ := any_some hh
  unfold findObj
  have ho : W.ownOf cd (some od) name = some none := by unfold W.ownOf; rw [if_pos hd]; exact hl
  rw [hc', Option.bind_some, ha, Option.bind_some]
  simp only [Option.bind_some, ho, hc, Bool.false_and, Bool.false_eq_true, if_false]

theorem get_hook {f : Addr} (X : K.In s.heap) (I : InstAt s.heap x ox C (some od)) (hga : findIn K (.ref C) "__getattribute__" = some (some (.builtin "object.__getattribute__")))
    (hf : findObj K C (some od) name = some .missing) (hk : findIn K (.ref C) "__getattr__" = some (some (.ref f))) (ht : isFn K (.ref f) = true)
    (h : wpAny (model prog w) A.in1 (call (.ref f) [.ref x, .str name s.toks]) (fun v s' => wpAny (model prog w) A (handedOut v) Q E s')
      (fun e s' => wpAny (model prog w) A (noteIf true (.ref x) (.str name s.toks) e) (fun _ s'' => E e s'') E s') { s with toks := s.toks + 1 }) :
    wpAny (model prog w) A (getAttr (.ref x) name expr) Q E s := by
  refine get_open X I hga ?_
  obtain ⟨hh', gg, d, t, os⟩ := s
  have L0 := I.type (M := model prog w)
  have L1 := looks_find (M := model prog w) X I hf
  have L2 := looks_findIn (M := model prog w) X hk
  have L3 := bind_fn (M := model prog w) X (.ref x) (beq_iff_eq.mp ht)
  refine wpAny_bind (wpAny_pure (wpAny_bind (L0.at (wpAny_bind (L1.at (wpAny_bind (L2.at ?_)))))))
  show wpAny _ _ (byHook (.ref x) (.str name t) (.ref f)) _ _ _
  refine wpAny_bind (L3.at ?_)
  exact wpAny_bind (wpAny_mono h (fun v s' z => wpAny_bind (wpAny_rule (wpAny_pure z))) fun _ _ z => z)
end

/-- a model's object: its class, its table -/
abbrev txEs (w : World) (kd MF : Addr) (t1 t2 : Tok) : List DictEntry :=
  [⟨PyData.keyHash w.params (Str.ofString "_tx_class"), .str (Str.ofString "_tx_class") t1, .ref kd⟩, ⟨PyData.keyHash w.params (Str.ofString "_tx_fields"), .str (Str.ofString "_tx_fields") t2, .ref MF⟩]

local macro_rules | `(tactic| walk_at "getAttr ref") => `(tactic| (k_here; k_dflt (refine' get_ownH ?k1 ?k2 ?k3 ?k4 ?k5 ?k6 ?k7 ?k8 ?k9 ?_; (case k1 => k_asm); (case k2 => k_asm); (case k3 => k_inst); (case k4 => k_is); (case k5 => k_is); (case k6 => k_is); (case k7 => k_is); (case k8 => k_get); (case k9 => k_handed); k_whole)))

theorem con_getattr (w : World) (mean : ExcName → Option Value) (mg mb : Str → Option Value) (M MD MF kd : Addr) (t1 t2 tk : Tok) (oF : Obj) (kvs : List (Str × Value)) (x : Str) (v : Value)
    (hF : oF.IsDictOf (PySem.strKind PySem.Challenge.rw_ez0369_01.row.prog w) kvs) (hv : valueAt kvs x = some v) (lo : (MF == sysModules) = false) :
    Con 600 2000 w mean mg mb 77 [.ref M, .str x tk] [(M, instObj 80 MD), (MD, dictOf (txEs w kd MF t1 t2) 2), (MF, oF)] (fun r sm => r = v ∧ sm = [(M, instObj 80 MD), (MD, dictOf (txEs w kd MF t1 t2) 2), (MF, oF)]) := by
  unfold Con
  k_fill
  intro envs base g s R B hk hz N X T hret
  refine enterP hk hz N X T (by k_is) (by k_is) (Nat.le_of_ble_eq_true rfl) (BindsTo.of_eq rfl) (locs rfl) (fun L' h₁ F' N' => ?_) rfl rfl rfl (by decide)
  k_steps
  refine kda_in (knd := PySem.strKind _ _) (by k_asm) (by k_mem) hF lo (strKind_is _ _ _ _) true (by rw [hv]; rfl) ?_
  k_steps
  refine kdt_getItem (knd := PySem.strKind _ _) (by k_asm) (by k_mem) hF (strKind_is _ _ _ _) hv ?_
  k_steps
  exact hret _ _ _ _ ⟨rfl, rfl⟩ (Fr.keep (by k_asm)) (fun q hq => ⟨(N' q hq).1, (N' q hq).2.2⟩)
end Mine
end

section
open PySem PySem.W PySem.Calls PyProof.Rows
theorem Mine.off_C2 {M : Model} {A : Around} {E : Value → Shared → Prop} {s : Shared} {Q : Flow → Shared → Prop} {env : Env} (h : Q .next s) : wpAny M A (execs [] env) Q E s := by
  w_top off
  try walk1
  first
    | exact h
    | exact wpAny_execs_nil h
end
section
open PySem PySem.W PySem.Calls PyProof.Rows Builtin Builtin.ObjectAttr
namespace Mine

local macro_rules | `(tactic| k_room) => `(tactic| exact Nat.le_of_ble_eq_true rfl)

abbrev repEs (w : World) (c : Int) (tc : Tok) (D : Addr) (t1 t2 : Tok) : List DictEntry :=
  [⟨PyData.keyHash w.params (Str.ofString "name_idx"), .str (Str.ofString "name_idx") t1, .int c tc⟩, ⟨PyData.keyHash w.params (Str.ofString "filename_to_model"), .str (Str.ofString "filename_to_model") t2, .ref D⟩]

abbrev repL (w : World) (R RD D : Addr) (c : Int) (tc t1 t2 : Tok) (oD : Obj) : List (Addr × Obj) := [(R, instObj 157 RD), (RD, dictOf (repEs w c tc D t1 t2) 2), (D, oD)]

theorem newsSmall {g h : Heap} {L : Addr} {news : List (Addr × Obj)} (N : News g L h news) : Small g h news := fun q hq => ⟨(N q hq).1, (N q hq).2.2⟩

abbrev SK (w : World) := PySem.strKind PySem.Challenge.rw_ez0369_01.row.prog w

section
variable (w : World) (mean : ExcName → Option Value) (mg mb : Str → Option Value) (R RD D : Addr) (c : Int) (tc t1 t2 tk : Tok) (oD : Obj) (kvs : List (Str × Value)) (x : Str)

theorem con_has (hD : oD.IsDictOf (SK w) kvs) (lo : (D == sysModules) = false) :
    Con 590 1900 w mean mg mb 105 [.ref R, .str x tk] (repL w R RD D c tc t1 t2 oD) (fun r sm => r = .bool (valueAt kvs x).isSome ∧ sm = repL w R RD D c tc t1 t2 oD) := by
  unfold Con repL
  k_fill
  intro envs base g s Rs B hk hz N X T hret
  refine enterP hk hz N X T (by k_is) (by k_is) (Nat.le_of_ble_eq_true rfl) (BindsTo.of_eq rfl) (locs rfl) (fun L' h₁ F' N' => ?_) rfl rfl rfl (by decide)
  k_steps
  refine kda_in (knd := PySem.strKind _ _) (by k_asm) (by k_mem) hD lo (strKind_is _ _ _ _) _ rfl ?_
  k_steps
  exact hret _ _ _ _ ⟨rfl, rfl⟩ (Fr.keep (by k_asm)) (newsSmall (by k_asm))

theorem con_contains (hD : oD.IsDictOf (SK w) kvs) (lo : (D == sysModules) = false) :
    Con 580 1800 w mean mg mb 126 [.ref R, .str x tk] (repL w R RD D c tc t1 t2 oD) (fun r sm => r = .bool (valueAt kvs x).isSome ∧ sm = repL w R RD D c tc t1 t2 oD) := by
  unfold Con repL
  k_fill
  intro envs base g s Rs B hk hz N X T hret
  refine enterP hk hz N X T (by k_is) (by k_is) (Nat.le_of_ble_eq_true rfl) (BindsTo.of_eq rfl) (locs rfl) (fun L' h₁ F' N' => ?_) rfl rfl rfl (by decide)
  k_steps
  refine kda_in (knd := PySem.strKind _ _) (by k_asm) (by k_mem) hD lo (strKind_is _ _ _ _) _ rfl ?_
  k_steps
  exact hret _ _ _ _ ⟨rfl, rfl⟩ (Fr.keep (by k_asm)) (newsSmall (by k_asm))

theorem con_len (hD : oD.IsDictOf (SK w) kvs) (lo : (D == sysModules) = false) (hlen : kvs.length ≤ 16777216) :
    Con 590 1900 w mean mg mb 140 [.ref R] (repL w R RD D c tc t1 t2 oD) (fun r sm => (∃ t, r = .int kvs.length t) ∧ sm = repL w R RD D c tc t1 t2 oD) := by
  unfold Con repL
  k_fill
  intro envs base g s Rs B hk hz N X T hret
  refine enterP hk hz N X T (by k_is) (by k_is) (Nat.le_of_ble_eq_true rfl) (BindsTo.of_eq rfl) (locs rfl) (fun L' h₁ F' N' => ?_) rfl rfl rfl (by decide)
  k_steps
  refine kda_len (knd := PySem.strKind _ _) (by k_asm) (by k_mem) hD lo hlen ?_
  k_steps
  exact hret _ _ _ _ ⟨⟨_, rfl⟩, rfl⟩ (Fr.keep (by k_asm)) (newsSmall (by k_asm))

theorem con_getitem (hD : oD.IsDictOf (SK w) kvs) {v : Value} (hv : valueAt kvs x = some v) :
    Con 590 1900 w mean mg mb 147 [.ref R, .str x tk] (repL w R RD D c tc t1 t2 oD) (fun r sm => r = v ∧ sm = repL w R RD D c tc t1 t2 oD) := by
  unfold Con repL
  k_fill
  intro envs base g s Rs B hk hz N X T hret
  refine enterP hk hz N X T (by k_is) (by k_is) (Nat.le_of_ble_eq_true rfl) (BindsTo.of_eq rfl) (locs rfl) (fun L' h₁ F' N' => ?_) rfl rfl rfl (by decide)
  k_steps
  refine kdt_getItem (knd := PySem.strKind _ _) (by k_asm) (by k_mem) hD (strKind_is _ _ _ _) hv ?_
  k_steps
  exact hret _ _ _ _ ⟨rfl, rfl⟩ (Fr.keep (by k_asm)) (newsSmall (by k_asm))

theorem con_setitem (hD : oD.IsDictOf (SK w) kvs) (v : Value) (hlen : kvs.length ≤ 16777216) (h1 : @Ne Nat R D) (h2 : @Ne Nat RD D) :
    Con 590 1900 w mean mg mb 154 [.ref R, .str x tk, v] (repL w R RD D c tc t1 t2 oD) (fun r sm => r = .none ∧ ∃ oD', oD'.IsDictOf (SK w) (stored kvs x v) ∧ sm = repL w R RD D c tc t1 t2 oD') := by
  unfold Con repL
  k_fill
  intro envs base g s Rs B hk hz N X T hret
  refine enterP hk hz N X T (by k_is) (by k_is) (Nat.le_of_ble_eq_true rfl) (BindsTo.of_eq rfl) (locs rfl) (fun L' h₁ F' N' => ?_) rfl rfl rfl (by decide)
  k_steps
  refine kda_set (knd := PySem.strKind _ _) (by k_asm) (by k_asm) (by k_updF) hD (strKind_is _ _ _ _) (by rw [sizeLine_eq]; omega) ?_
  intro h' o' F' N' hd'
  (try dsimp only at N')
  k_steps
  exact hret _ _ _ _ ⟨rfl, _, hd', rfl⟩ (Fr.keep (by k_asm)) (newsSmall (by k_asm))
end
end Mine
end

section
open PySem PySem.W PySem.Calls PyProof.Rows
theorem Mine.off_C3 {M : Model} {A : Around} {E : Value → Shared → Prop} {s : Shared} {Q : Flow → Shared → Prop} {env : Env} (h : Q .next s) : wpAny M A (execs [] env) Q E s := by
  w_top off
  try walk1
  first
    | exact h
    | exact wpAny_execs_nil h
end
section
open PySem PySem.W PySem.Calls PyProof.Rows Builtin Builtin.ObjectAttr
namespace Mine

local macro_rules | `(tactic| k_room) => `(tactic| exact Nat.le_of_ble_eq_true rfl)

section
variable {w : World} {A A₀ : Around} {E : Value → Shared → Prop} {s : Shared} {base h₀ : Heap} {L : Addr} {m : Str → Option Value} {outer : List Env} {env : Env} {small news : List (Addr × Obj)} {mean : ExcName → Option Value} {mg mb : Str → Option Value}
  {f : Addr} {args : List Value} {P : Value → Prop} {dp un : Nat} {Q : Value → Shared → Prop}

theorem Con.useRO (C : Con dp un w mean mg mb f args small (fun v sm => P v ∧ sm = small)) (B : Below A₀ base outer h₀) (F : Fr h₀ L s.heap m) (X : (hd.heap_39 w.params).In h₀) (N : News h₀ L s.heap news)
    (T : Top hd.view_39 (looseW hd.view_39 [Str.ofString "TextXObject"]) mean mg mb h₀)
    (hA : A.frames = some (env :: outer)) (hf : env.frame = some L) (hke : env.scope.kind = .function) (hh : A.handled = none) (hdp : A.depth ≤ dp) (hun : A.units ≤ un)
    (hs : ∀ q ∈ small, q ∈ news)
    (ret : ∀ v h' tk', P v → Fr h₀ L h' m → News h₀ L h' news → (∀ b o, s.heap.get? b = some o → h'.get? b = some o) → Q v { s with heap := h', toks := tk' }) :
    wpAny (model PySem.Challenge.rw_ez0369_01.row.prog w) A (call (.ref f) args) Q E s := by
  refine Con.use C B F X N T hA hf hke hh hdp hun hs ?_
  rintro v small' h' tk' ⟨hP, rfl⟩ F' N' hk _
  have hall : ∀ b o, s.heap.get? b = some o → h'.get? b = some o := by
    intro b o e
    by_cases hb : b ∈ small'.map (·.1)
    · obtain ⟨p, hp, rfl⟩ := List.mem_map.mp hb
      have h1 := (N p (hs p hp)).1
      rw [e] at h1; cases h1
      exact (N' p hp).1
    · exact hk b o hb e
  exact ret v h' tk' hP F' (fun p hp => ⟨hall _ _ (N p hp).1, (N p hp).2⟩) hall

theorem attr_hit {M MD MF kd : Addr} {t1 t2 : Tok} {oF : Obj} {kvs : List (Str × Value)} {x : Str} {v : Value} {expr : Bool}
    (B : Below A₀ base outer h₀) (F : Fr h₀ L s.heap m) (X : (hd.heap_39 w.params).In h₀) (N : News h₀ L s.heap news)
    (T : Top hd.view_39 (looseW hd.view_39 [Str.ofString "TextXObject"]) mean mg mb h₀)
    (hA : A.frames = some (env :: outer)) (hf : env.frame = some L) (hke : env.scope.kind = .function) (hh : A.handled = none) (hdp : A.depth ≤ 600) (hun : A.units + 1 ≤ 2000)
    (m1 : (M, instObj 80 MD) ∈ news) (m2 : (MD, dictOf (txEs w kd MF t1 t2) 2) ∈ news) (m3 : (MF, oF) ∈ news)
    (hF : oF.IsDictOf (PySem.strKind PySem.Challenge.rw_ez0369_01.row.prog w) kvs) (hv : valueAt kvs x = some v) (lo : (MF == sysModules) = false)
    (hga : findIn (hd.heap_39 w.params) (.ref 80) "__getattribute__" = some (some (.builtin "object.__getattribute__")))
    (hk : findIn (hd.heap_39 w.params) (.ref 80) "__getattr__" = some (some (.ref 77))) (ht : isFn (hd.heap_39 w.params) (.ref 77) = true) (hdc : hasDictIn (hd.heap_39 w.params) 80 = true)
    (ha : findIn (hd.heap_39 w.params) (.ref 80) x = some none) (hc : copiedNames.contains x = false) (hl : getL x (txEs w kd MF t1 t2) = some none) (hh' : handedIn v = true)
    (ret : ∀ h' tk', Fr h₀ L h' m → News h₀ L h' news → (∀ b o, s.heap.get? b = some o → h'.get? b = some o) → Q v { s with heap := h', toks := tk' }) :
    wpAny (model PySem.Challenge.rw_ez0369_01.row.prog w) A (getAttr (.ref M) x expr) Q E s := by
  refine get_hook (X.keeps F.keep) (InstAt.of_news N m1 m2) hga (findObj_missing hdc ha hc hl) hk ht ?_
  refine Con.useRO (A := A.in1) (s := { s with toks := s.toks + 1 }) (con_getattr w mean mg mb M MD MF kd t1 t2 s.toks oF kvs x v hF hv lo) B F X N T hA hf hke hh hdp hun ?_ ?_
  · intro q hq
    simp only [List.mem_cons, List.not_mem_nil, or_false] at hq
    rcases hq with rfl | rfl | rfl <;> assumption
  · rintro v' h' tk' rfl F' N' hall
    exact handed_on hh' (ret h' tk' F' N' hall)
end

local macro_rules | `(tactic| walk_at "getAttr ref") => `(tactic| (k_here; k_dflt (refine' attr_hit ?B ?F ?X ?N ?T ?hA ?hf ?hke ?hh ?hdp ?hun ?m1 ?m2 ?m3 ?hF ?hv ?lo ?hga ?hk ?ht ?hdc ?ha ?hc ?hl ?hh2 ?_; (case hA => exact rfl); (case hf => exact rfl); (case hke => exact rfl); (case hh => exact rfl); (case hdp => exact Nat.le_of_ble_eq_true rfl); (case hun => exact Nat.le_of_ble_eq_true rfl); (case B => k_asm); (case F => k_asm); (case X => k_asm); (case N => k_asm); (case T => k_asm); (case m1 => k_mem); (case m2 => k_mem); (case m3 => k_mem); (case hF => assumption); (case hv => assumption); (case lo => assumption); (case hga => k_is); (case hk => k_is); (case ht => k_is); (case hdc => k_is); (case ha => k_is); (case hc => decide +kernel); (case hl => k_get); (case hh2 => k_handed); k_whole); intro h' tk' F' N' keep'; (try dsimp only at keep'); (try dsimp only); (try k_sweep)))

local macro_rules | `(tactic| walk_at "truthy str") => `(tactic| (k_here; (refine' KXt.truthy_pos (K := 1000) ?k1 ?k2 ?k3 ?_; (case k1 => assumption); (case k2 => assumption); (case k3 => decide)); intro _))

abbrev modL (w : World) (M MD MF kd : Addr) (t1 t2 : Tok) (oF : Obj) : List (Addr × Obj) := [(M, instObj 80 MD), (MD, dictOf (txEs w kd MF t1 t2) 2), (MF, oF)]

abbrev modKvs (fv : Value) (i : Int) (ti : Tok) : List (Str × Value) := [(Str.ofString "_tx_filename", fv), (Str.ofString "at", .int i ti)]

section
variable (w : World) (mean : ExcName → Option Value) (mg mb : Str → Option Value) (R RD D : Addr) (c : Int) (tc t1 t2 tk : Tok) (oD : Obj) (kvs : List (Str × Value)) (x : Str) (M MD MF kd : Addr) (t3 t4 : Tok) (oF : Obj) (fv : Value) (i : Int) (ti : Tok)

theorem con_add (hD : oD.IsDictOf (SK w) kvs) (hlen : kvs.length ≤ 16777216) (h1 : @Ne Nat R D) (h2 : @Ne Nat RD D) (h3 : @Ne Nat M D) (h4 : @Ne Nat MD D) (h5 : @Ne Nat MF D) 
    (hF : oF.IsDictOf (SK w) (modKvs (.str x tk) i ti)) (hx : 1 ≤ x.length) (hx2 : x.length ≤ 1000) (lo : (MF == sysModules) = false) :
    Con 590 1900 w mean mg mb 112 [.ref R, .ref M] (repL w R RD D c tc t1 t2 oD ++ modL w M MD MF kd t3 t4 oF)
      (fun r sm => r = .none ∧ ∃ oD', oD'.IsDictOf (SK w) (stored kvs x (.ref M)) ∧ sm = repL w R RD D c tc t1 t2 oD' ++ modL w M MD MF kd t3 t4 oF) := by
  unfold Con repL
  k_fill
  intro envs base g s Rs B hk hz N X T hret
  have hv : valueAt (modKvs (.str x tk) i ti) (Str.ofString "_tx_filename") = some (.str x tk) := rfl
  refine enterP hk hz N X T (by k_is) (by k_is) (Nat.le_of_ble_eq_true rfl) (BindsTo.of_eq rfl) (locs rfl) (fun L' h₁ F' N' => ?_) rfl rfl rfl (by decide)
  dsimp only [modL, List.cons_append, List.nil_append] at N' hret
  k_steps
  refine kda_set (knd := PySem.strKind _ _) (by k_asm) (by k_asm) (by k_updF) hD (strKind_is _ _ _ _) (by rw [sizeLine_eq]; omega) ?_
  intro h' o' F' N' hd'
  (try dsimp only at N')
  k_steps
  exact hret _ _ _ _ ⟨rfl, _, hd', rfl⟩ (Fr.keep (by k_asm)) (newsSmall (by k_asm))

theorem con_addN (hD : oD.IsDictOf (SK w) kvs) (hlen : kvs.length ≤ 16777216) (h1 : @Ne Nat R D) (h2 : @Ne Nat RD D) (h3 : @Ne Nat M D) (h4 : @Ne Nat MD D) (h5 : @Ne Nat MF D) (h6 : @Ne Nat R RD) (h7 : @Ne Nat M RD) (h8 : @Ne Nat MD RD) (h9 : @Ne Nat MF RD)
    (hc : 0 ≤ c) (hc2 : c ≤ 1000)
    (hF : oF.IsDictOf (SK w) (modKvs .none i ti)) (lo : (MF == sysModules) = false) :
    Con 590 1900 w mean mg mb 112 [.ref R, .ref M] (repL w R RD D c tc t1 t2 oD ++ modL w M MD MF kd t3 t4 oF)
      (fun r sm => r = .none ∧ ∃ oD' tc', oD'.IsDictOf (SK w) (stored kvs (Str.ofString "builtin_model_" ++ Str.ofString (toString c)) (.ref M)) ∧ sm = repL w R RD D (c + 1) tc' t1 t2 oD' ++ modL w M MD MF kd t3 t4 oF) := by
  unfold Con repL
  k_fill
  intro envs base g s Rs B hk hz N X T hret
  have hv : valueAt (modKvs .none i ti) (Str.ofString "_tx_filename") = some .none := rfl
  refine enterP hk hz N X T (by k_is) (by k_is) (Nat.le_of_ble_eq_true rfl) (BindsTo.of_eq rfl) (locs rfl) (fun L' h₁ F' N' => ?_) rfl rfl rfl (by decide)
  dsimp only [modL, List.cons_append, List.nil_append] at N' hret
  k_steps
  refine kda_set (knd := PySem.strKind _ _) (by k_asm) (by k_asm) (by k_updF) hD (strKind_is _ _ _ _) (by rw [sizeLine_eq]; omega) ?_
  intro h' o' F' N' hd'
  (try dsimp only at N')
  k_steps
  exact hret _ _ _ _ ⟨rfl, _, _, hd', rfl⟩ (Fr.keep (by k_asm)) (newsSmall (by k_asm))
end
end Mine
end

section
open PySem PySem.W PySem.Calls PyProof.Rows
theorem Mine.off_C4 {M : Model} {A : Around} {E : Value → Shared → Prop} {s : Shared} {Q : Flow → Shared → Prop} {env : Env} (h : Q .next s) : wpAny M A (execs [] env) Q E s := by
  w_top off
  try walk1
  first
    | exact h
    | exact wpAny_execs_nil h
end
section
open PySem PySem.W PySem.Calls PyProof.Rows Builtin Builtin.ObjectAttr
namespace Mine

local macro_rules | `(tactic| k_room) => `(tactic| exact Nat.le_of_ble_eq_true rfl)

theorem strKeys_of {P : Params} {es : Array DictEntry} (h : KeysLit P es.toList) : StrKeys es := fun e he => by
  obtain ⟨x, t, e1, _⟩ := h.all e (Array.mem_toList_iff.mpr he)
  exact ⟨x, t, e1⟩

theorem fill_it (h : PySem.Challenge.rw_ez0369_01 = PySem.Challenge.rw_ez0369_01 ∧ hd.heap_39 = hd.heap_39) : PySem.Challenge.rw_ez0369_01 = PySem.Challenge.rw_ez0369_01 ∧ hd.heap_39 = hd.heap_39 := by
  k_fill
  exact h

theorem tx_cmp {w : World} {h : Heap} {x dx : Addr} (X : (hd.heap_39 w.params).In h) (hx : h.get? x = some (instObj 80 dx)) : h.CmpInst x 80 [.type "object"] := by
  have h79 : ∃ mN, h.Ns 79 mN ∧ mN "__eq__" = none ∧ mN "__ne__" = none := by
    refine ⟨_, ⟨_, _, _, X 79 _ (by k_is), rfl, strKeys_of (P := w.params) (by k_keys), fun _ => rfl⟩, ?_, ?_⟩
    · rfl
    · rfl
  obtain ⟨mN, hn, e1, e2⟩ := h79
  exact ⟨_, _, _, 79, _, _, _, _, _, _, _, _, _, _, _, _, _, mN, hx, rfl, X 80 _ (by k_is), hn, e1, e2⟩
end Mine
end

section
open PySem PySem.W PySem.Calls PyProof.Rows
theorem Mine.off_C5 {M : Model} {A : Around} {E : Value → Shared → Prop} {s : Shared} {Q : Flow → Shared → Prop} {env : Env} (h : Q .next s) : wpAny M A (execs [] env) Q E s := by
  w_top off
  try walk1
  first
    | exact h
    | exact wpAny_execs_nil h
end
section
open PySem PySem.W PySem.Calls PyProof.Rows Builtin Builtin.ObjectAttr
namespace Mine

local macro_rules | `(tactic| k_room) => `(tactic| exact Nat.le_of_ble_eq_true rfl)

def lastKey (kvs : List (Str × Value)) (v : Value) : Option Str := (kvs.filter (fun p => p.2 = v)).getLast?.map (·.1)
theorem lastKey_succ {kvs : List (Str × Value)} {v : Value} {i : Nat} {k : Str} {x : Value} (h : kvs[i]? = some (k, x)) : lastKey (kvs.take (i + 1)) v = if x = v then some k else lastKey (kvs.take i) v := by
  unfold lastKey
  rw [List.take_add_one, h, List.filter_append]
  by_cases e : x = v
  · rw [if_pos e]; simp [e]
  · rw [if_neg e]; simp [e]
def removed (kvs : List (Str × Value)) (v : Value) : List (Str × Value) := match lastKey kvs v with
  | some k => without kvs k
  | none => kvs
def KeyVal : Option Str → Value → Prop
  | none, v => v = .none
  | some k, v => ∃ t, v = .str k t

section
variable {prog : Program} {w : World} {K : Type} [DecidableEq K] {knd : KeyKind prog w K} {A : Around} {E : Value → Shared → Prop} {s : Shared} {h₀ : Heap} {L : Addr} {m : Str → Option Value} {news : List (Addr × Obj)} {d vw : Addr} {o : Obj} {kvs : List (K × Value)} {env : Env}
theorem call_items {Q : Value → Shared → Prop} (F : Fr h₀ L s.heap m) (N : News h₀ L s.heap news) (hp : (d, o) ∈ news) (hd : o.IsDictOf knd kvs) (lo : (d == sysModules) = false)
    (h : ∀ vw h' ov, ov.cls = .type "dict_items" → ov.data = .fields #[.ref d] → Fr h₀ L h' m → News h₀ L h' ((vw, ov) :: news) → Q (.ref vw) { s with heap := h' }) : wpAny (model prog w) A (call (.builtin "dict.items") [.ref d]) Q E s := by
  have hD := kda_dict N hp hd
  exact call_meetsIn PySem.F.slot_dict_items hD.typeIs PySem.F.entry_dict_items (PySem.F.args_dict_items_1 _) (meets_dict_items knd d lo)
    ⟨⟨kvs, hD⟩, h _ _ _ rfl rfl (F.push _) (News.push F N _)⟩

theorem iter_items {xk xv : Str} {body : List Stmt} {ov : Obj} {Q : Flow → Shared → Prop} (hh : A.handled = none) (hxk : env.kindOf xk = some .local) (hxv : env.kindOf xv = some .local)
    (hpp : (env.scope.kind == .class || (env.scope.kind == .module && env.locals != env.globals)) = false)
    (F : Fr h₀ env.locals s.heap m) (N : News h₀ env.locals s.heap news) (hv : (vw, ov) ∈ news) (hc : ov.cls = .type "dict_items") (hdat : ov.data = .fields #[.ref d]) (hp : (d, o) ∈ news) (hd : o.IsDictOf knd kvs)
    (J : Nat → (Str → Option Value) → Prop) (h0 : J 0 m)
    (step : ∀ i k v key m₁ s₁ own, kvs[i]? = some (k, v) → knd.is k key = true → J i m₁ →
      Fr h₀ env.locals s₁.heap (fun y => if y = xv then some v else if y = xk then some key else m₁ y) → News h₀ env.locals s₁.heap (own ++ news) →
      wpAny (model prog w) A (execs body env) (LoopStep h₀ env.locals (own ++ news) (J (i + 1)) s₁) E s₁)
    (done : ∀ h' tk m', Fr h₀ env.locals h' m' → News h₀ env.locals h' news → J kvs.length m' → Q .next { s with heap := h', toks := tk })
    (hE : PassesOwn (model prog w) A env E := by passes_own) :
    wpAny (model prog w) A (pyIter (.ref vw)) (fun it s₂ => PairLoopAt prog w A h₀ env xk xv body Q E it s₂) E s := by
  obtain ⟨ep, hat⟩ := (kda_dict N hp hd).dictAt
  refine wpAny_pyIter_items (knd := knd) (d := d) (kvs := kvs) (ep := ep) ⟨ov, (N _ hv).1, hc, hdat⟩ hat ?_
  intro pk pv pt x1
  have hne : d ≠ s.heap.objs.size := Nat.ne_of_lt hat.lt_size
  refine codeAny_forLoop_items_fr (knd := knd) (h₀ := h₀) (news := news) hh hxk hxv hpp (Nat.ne_of_gt F.ns.lt) (N _ hp).2.1 hne (next_is_new F)
    (fun p hp => Nat.ne_of_lt (Heap.lt_size (N p hp).1)) (Heap.get?_push_size _ rfl) (hat.push _) (F.push _) (fun p hp => ⟨Heap.get?_push_of_some _ (N p hp).1, (N p hp).2⟩) J h0 ?_ done
  intro i k v key m₁ s₁ own hx hkey hJ hat₁ F₁ N₁
  exact wpAny_passesOwn hE (step i k v key m₁ s₁ own hx hkey hJ F₁ N₁)

theorem iter_items_acc {xk xv y : Str} {body : List Stmt} {ov : Obj} {Q : Flow → Shared → Prop} (P : Nat → Value → Prop) {fv₀ : Value} (hh : A.handled = none) (hxk : env.kindOf xk = some .local) (hxv : env.kindOf xv = some .local)
    (hpp : (env.scope.kind == .class || (env.scope.kind == .module && env.locals != env.globals)) = false)
    (F : Fr h₀ env.locals s.heap m) (N : News h₀ env.locals s.heap news) (hv : (vw, ov) ∈ news) (hc : ov.cls = .type "dict_items") (hdat : ov.data = .fields #[.ref d]) (hp : (d, o) ∈ news) (hd : o.IsDictOf knd kvs)
    (hy : m y = some fv₀) (hP : P 0 fv₀) (n1 : y ≠ xv) (n2 : y ≠ xk)
    (step : ∀ i k v key fv s₁ own, kvs[i]? = some (k, v) → knd.is k key = true → P i fv →
      Fr h₀ env.locals s₁.heap (fun z => if z = xv then some v else if z = xk then some key else if z = y then some fv else m z) → News h₀ env.locals s₁.heap (own ++ news) →
      wpAny (model prog w) A (execs body env) (LoopStep h₀ env.locals (own ++ news) (fun m' => ∃ fv', P (i + 1) fv' ∧ m' y = some fv' ∧ ∀ z, z ≠ xv → z ≠ xk → z ≠ y → m' z = m z) s₁) E s₁)
    (done : ∀ h' tk fv u u', P kvs.length fv → Fr h₀ env.locals h' (fun z => if z = xv then u else if z = xk then u' else if z = y then some fv else m z) → News h₀ env.locals h' news → Q .next { s with heap := h', toks := tk })
    (hE : PassesOwn (model prog w) A env E := by passes_own) :
    wpAny (model prog w) A (pyIter (.ref vw)) (fun it s₂ => PairLoopAt prog w A h₀ env xk xv body Q E it s₂) E s := by
  refine iter_items (knd := knd) (o := o) (kvs := kvs) hh hxk hxv hpp F N hv hc hdat hp hd (fun i m₁ => ∃ fv, P i fv ∧ m₁ y = some fv ∧ ∀ z, z ≠ xv → z ≠ xk → z ≠ y → m₁ z = m z) ⟨fv₀, hP, hy, fun _ _ _ _ => rfl⟩ ?_ ?_ hE
  · rintro i k v key m₁ s₁ own hx hkey ⟨fv, hPi, hfv, hm⟩ F₁ N₁
    refine step i k v key fv s₁ own hx hkey hPi ?_ N₁
    have e : (fun z => if z = xv then some v else if z = xk then some key else m₁ z) = fun z => if z = xv then some v else if z = xk then some key else if z = y then some fv else m z := by
      funext z
      by_cases e1 : z = xv
      · simp [e1]
      · by_cases e2 : z = xk
        · simp [e2]
        · by_cases e3 : z = y
          · simp [e3, hfv]
          · simp [e1, e2, e3, hm z e1 e2 e3]
    exact e ▸ F₁
  · rintro h' tk m' F₁ N₁ ⟨fv, hPi, hfv, hm⟩
    refine done h' tk fv (m' xv) (m' xk) hPi ?_ N₁
    have e : m' = fun z => if z = xv then m' xv else if z = xk then m' xk else if z = y then some fv else m z := by
      funext z
      by_cases e1 : z = xv
      · simp [e1]
      · by_cases e2 : z = xk
        · subst e2; simp [e1]
        · by_cases e3 : z = y
          · simp [e3, hfv, n1, n2]
          · simp [e1, e2, e3, hm z e1 e2 e3]
    exact e ▸ F₁
end

theorem newsTail {g h : Heap} {L : Addr} {p : Addr × Obj} {news : List (Addr × Obj)} (N : News g L h (p :: news)) : News g L h news := fun q hq => N q (List.mem_cons_of_mem _ hq)

theorem lastKey_mem {kvs : List (Str × Value)} {v : Value} {k : Str} (h : lastKey kvs v = some k) : ∃ p ∈ kvs, p.1 = k ∧ p.2 = v := by
  unfold lastKey at h
  obtain ⟨p, hp, rfl⟩ := Option.map_eq_some_iff.mp h
  have := List.mem_of_getLast? hp
  rw [List.mem_filter] at this
  exact ⟨p, this.1, rfl, by simpa using this.2⟩

theorem valueAt_isSome {kvs : List (Str × Value)} {p : Str × Value} (h : p ∈ kvs) : (valueAt kvs p.1).isSome = true := by
  unfold valueAt
  rw [Option.isSome_map, List.find?_isSome]
  exact ⟨p, h, by simp⟩

theorem strKey {prog : Program} {w : World} {k : Str} {key : Value} (h : (PySem.strKind prog w).is k key = true) : ∃ t, key = .str k t := Value.isStrOf_shape h

abbrev msL (ms : List (Addr × Addr)) : List (Addr × Obj) := ms.map fun p => (p.1, instObj 80 p.2)

theorem cmp_tx {w : World} {A : Around} {E : Value → Shared → Prop} {s : Shared} {x y dx dy : Addr} {Q : Value → Shared → Prop} (X : (hd.heap_39 w.params).In s.heap) (hx : s.heap.get? x = some (instObj 80 dx)) (hy : s.heap.get? y = some (instObj 80 dy))
    (hu : A.units < cLine) (h : Q (.bool (decide (x = y))) s) : wpAny (model PySem.Challenge.rw_ez0369_01.row.prog w) A (compareOp .Eq (.ref x) (.ref y)) Q E s := by
  obtain ⟨hp, g, d, t, os⟩ := s
  refine cmp_ofEq ?_
  by_cases e : x = y
  · subst e
    refine richCompare_eq_same F.cmp_object (tx_cmp X hx) hu ?_
    simpa using h
  · refine richCompare_eq_other F.cmp_object F.cmp_object (tx_cmp X hx) (tx_cmp X hy) e hu ?_
    simpa [e] using h

local macro_rules | `(tactic| walk_at "truthy str") => `(tactic| (k_here; (refine' KXt.truthy_pos (K := 1000) ?k1 ?k2 ?k3 ?_; (case k1 => assumption); (case k2 => assumption); (case k3 => decide)); intro _))
local macro_rules | `(tactic| k_all) => `(tactic| assumption)

section
variable (w : World) (mean : ExcName → Option Value) (mg mb : Str → Option Value) (R RD D : Addr) (c : Int) (tc t1 t2 tk : Tok) (oD : Obj) (kvs : List (Str × Value)) (M : Addr) (ms : List (Addr × Addr))

theorem con_remove (hD : oD.IsDictOf (SK w) kvs) (hlen : kvs.length ≤ 16777216) (h1 : @Ne Nat R D) (h2 : @Ne Nat RD D) (h3 : ∀ p ∈ ms, @Ne Nat p.1 D) (lo : (D == sysModules) = false)
    (hvals : ∀ p ∈ kvs, ∃ a da, p.2 = .ref a ∧ (a, da) ∈ ms) (hkeys : ∀ p ∈ kvs, 1 ≤ p.1.length ∧ p.1.length ≤ 1000) (hM : ∃ MD, (M, MD) ∈ ms) :
    Con 590 1900 w mean mg mb 119 [.ref R, .ref M] (repL w R RD D c tc t1 t2 oD ++ msL ms)
      (fun r sm => r = .none ∧ ∃ oD', oD'.IsDictOf (SK w) (removed kvs (.ref M)) ∧ sm = repL w R RD D c tc t1 t2 oD' ++ msL ms) := by
  unfold Con repL
  k_fill
  intro envs base g s Rs B hk hz N X T hret
  refine enterP hk hz N X T (by k_is) (by k_is) (Nat.le_of_ble_eq_true rfl) (BindsTo.of_eq rfl) (locs rfl) (fun L' h₁ F' N' => ?_) rfl rfl rfl (by decide)
  dsimp only [List.cons_append, List.nil_append] at N' hret
  k_steps
  refine For_pair_inv g ?_
  k_steps
  have h3' : ∀ p ∈ msL ms, p.1 ≠ D := fun p hp => by
    obtain ⟨q, hq, rfl⟩ := List.mem_map.mp hp
    exact h3 q hq
  obtain ⟨MD, hM⟩ := hM
  refine iter_items_acc (knd := PySem.strKind _ _) (y := Str.ofString "filename") (kvs := kvs) (fun i fv => KeyVal (lastKey (kvs.take i) (.ref M)) fv) rfl rfl rfl rfl (by k_asm) (by k_asm) (by k_mem) rfl rfl (by k_mem) hD rfl rfl (by decide) (by decide) ?_ ?_
  · intro i k v key fv s₁ own hx hkey hP F₁ N₁
    obtain ⟨t, rfl⟩ := strKey hkey
    obtain ⟨a, da, rfl, hm⟩ := hvals _ (List.mem_of_getElem? hx)
    have hin : ∀ b db, (b, db) ∈ ms → s₁.heap.get? b = some (instObj 80 db) := fun b db hb =>
      (N₁ (b, instObj 80 db) (List.mem_append_right _ (.tail _ (.tail _ (.tail _ (.tail _ (List.mem_map.mpr ⟨_, hb, rfl⟩))))))).1
    have X₁ := X.keeps F₁.keep
    k_steps
    refine cmp_tx X₁ (hin _ _ hm) (hin _ _ hM) (Nat.le_of_ble_eq_true rfl) ?_
    by_cases e : a = M
    · subst e
      rw [decide_eq_true rfl]
      k_steps
      all_goals first
        | (rw [lastKey_succ hx, if_pos rfl]; exact ⟨t, rfl⟩)
        | (rename_i z1 z2 z3; simp [z1, z2, z3]; done)
    · rw [decide_eq_false e]
      k_steps
      all_goals first
        | (rw [lastKey_succ hx, if_neg (fun q => e (Value.ref.inj q))]; exact hP)
        | (rename_i z1 z2 z3; simp [z1, z2, z3]; done)
  · intro h' tk fv u u' hP F₁ N₁
    rw [List.take_length] at hP
    cases hL : lastKey kvs (.ref M) with
    | none =>
      rw [hL] at hP
      cases (show fv = .none from hP)
      k_steps
      refine hret _ _ _ _ ⟨rfl, oD, ?_, rfl⟩ (Fr.keep (by k_asm)) (newsSmall (newsTail (by k_asm)))
      rw [removed, hL]; exact hD
    | some k =>
      rw [hL] at hP
      obtain ⟨t, rfl⟩ := hP
      obtain ⟨p, hp, rfl, hpv⟩ := lastKey_mem hL
      obtain ⟨k1, k2⟩ := hkeys p hp
      have hsome := valueAt_isSome hp
      k_steps
      refine kob_del (knd := PySem.strKind _ _) (by k_asm) (by k_asm) (by k_updF) hD (strKind_is _ _ _ _) hsome (by rw [sizeLine_eq]; omega) ?_
      intro h' o' F' N' hd'
      (try dsimp only at N')
      k_steps
      refine hret _ _ _ _ ⟨rfl, o', ?_, rfl⟩ (Fr.keep (by k_asm)) (newsSmall (newsTail (by k_asm)))
      rw [removed, hL]; exact hd'
end
end Mine
end

section
open PySem PySem.W PySem.Calls PyProof.Rows
theorem Mine.off_C6 {M : Model} {A : Around} {E : Value → Shared → Prop} {s : Shared} {Q : Flow → Shared → Prop} {env : Env} (h : Q .next s) : wpAny M A (execs [] env) Q E s := by
  w_top off
  try walk1
  first
    | exact h
    | exact wpAny_execs_nil h
end
section
open PySem PySem.W PySem.Calls PyProof.Rows Builtin Builtin.ObjectAttr PyProof.Rows.LCt PyProof.Rows.LCg
namespace Mine

inductive F2 {α β : Type} (R : α → β → Prop) : List α → List β → Prop
  | nil : F2 R [] []
  | cons {a : α} {b : β} {as : List α} {bs : List β} : R a b → F2 R as bs → F2 R (a :: as) (b :: bs)
theorem F2.snoc {α β : Type} {R : α → β → Prop} {as : List α} {bs : List β} {a : α} {b : β} (h : F2 R as bs) (r : R a b) : F2 R (as ++ [a]) (bs ++ [b]) := by
  induction h with
  | nil => exact .cons r .nil
  | cons h1 _ ih => exact .cons h1 ih
theorem F2.length {α β : Type} {R : α → β → Prop} {as : List α} {bs : List β} (h : F2 R as bs) : as.length = bs.length := by
  induction h with
  | nil => rfl
  | cons _ _ ih => simp [ih]
theorem F2.get {α β : Type} {R : α → β → Prop} {as : List α} {bs : List β} (h : F2 R as bs) : ∀ {i : Nat} {a : α}, as[i]? = some a → ∃ b, bs[i]? = some b ∧ R a b := by
  induction h with
  | nil => intro i a e; simp at e
  | cons h1 _ ih =>
    intro i a e
    cases i with
    | zero => simp at e; subst e; exact ⟨_, by simp, h1⟩
    | succ i => simp only [List.getElem?_cons_succ] at e ⊢; exact ih e

/-- a walked source that stands beside the ledger -/
def SrcW (prog : Program) (w : World) (A : Around) (h₀ : Heap) (L I : Addr) (n : Nat) (P : Nat → Value → Prop) (S : List (Addr × Obj) → Prop) (news : List (Addr × Obj)) (h : Heap) : Prop :=
  ∃ (fp : List Addr) (St : Nat → Heap → Prop), Walks prog w A I fp [I] n P St ∧ n ≤ sizeLine ∧ (∀ i h, St i h → ∃ o, h.get? I = some o) ∧
    (∀ i h h' o nw, St i h → h.get? I = some o → h'.get? I = some o → (∀ b o, h₀.get? b = some o → h'.get? b = some o) → News h₀ L h' nw → S nw → St i h') ∧ St 0 h ∧ (∀ b ∈ fp, b < h.objs.size) ∧
    L ≠ I ∧ h₀.get? I = none ∧ (∀ p ∈ news, p.1 ≠ I) ∧ S news

section
variable {prog : Program} {w : World} {A : Around} {E : Value → Shared → Prop} {s : Shared} {h₀ : Heap} {L : Addr} {m : Str → Option Value} {env : Env}

theorem compEnd_mono {I C D : Addr} {s₁ s₂ : Shared} {oI oC oD : Obj} {S : List (Addr × Obj) → Prop} {r r' : Value → List (Addr × Obj) → Prop} {y : Value} (h : CompEnd h₀ L m s₁ I oI C oC D oD S r y s₂) (k : ∀ y nw, r y nw → r' y nw) : CompEnd h₀ L m s₁ I oI C oC D oD S r' y s₂ :=
  let ⟨h', tk, nw, a, b, c, d, e, f⟩ := h
  ⟨h', tk, nw, a, b, c, d, e, k _ _ f⟩

theorem compRest_ind {elt : Expr} {x : Str} {scope : Scope} {cl : List (Str × Addr)} {S : List (Addr × Obj) → Prop} {P : Nat → Value → Prop} {Fin : List Value → List (Addr × Obj) → Prop} {n : Nat} (J : Nat → List Value → List (Addr × Obj) → Prop)
    (step : ∀ i ys news v I oI C oC D m₂ h tk (E' : Value → Shared → Prop), i < n → J i ys news → P i v → NsObj oC m₂ → m₂ x = some v → Fr h₀ L h m → News h₀ L h ((I, oI) :: (C, oC) :: (D, lst ys) :: news) → Off3 I C D news → ((@Ne Nat I C) ∧ (@Ne Nat I D) ∧ (@Ne Nat C D)) →
      wpAny (model prog w) A (eval elt (compEnvC scope cl C env)) (CompEnd h₀ L m { s with heap := h, toks := tk } I oI C oC D (lst ys) S (fun y news' => J (i + 1) (ys ++ [y]) news')) E' { s with heap := h, toks := tk })
    (fin : ∀ ys news, J n ys news → Fin ys news) : ∀ k i ys news, i + k = n → J i ys news → CompRest prog w A h₀ L m env elt x scope cl s S P Fin k i ys news := by
  intro k
  induction k with
  | zero => intro i ys news e hJ; exact CompRest.zero (fin ys news (by rw [← e]; exact hJ))
  | succ k ih =>
    intro i ys news e hJ
    refine CompRest.succ fun v I oI C oC D m₂ h tk E' hP hC hx F N off ne => ?_
    exact wpAny_mono (step i ys news v I oI C oC D m₂ h tk E' (by omega) hJ hP hC hx F N off ne) (fun y s' z => compEnd_mono z fun y nw hJ' => ih _ _ _ (by omega) hJ') fun _ _ e => e

theorem compRestT_ind {ct elt : Expr} {x : Str} {scope : Scope} {cl : List (Str × Addr)} {S : List (Addr × Obj) → Prop} {P : Nat → Value → Prop} {Fin : List Value → List (Addr × Obj) → Prop} {n : Nat} (J : Nat → List Value → List (Addr × Obj) → Prop)
    (step : ∀ i ys news v I oI C oC D m₂ h tk (E' : Value → Shared → Prop), i < n → J i ys news → P i v → NsObj oC m₂ → m₂ x = some v → Fr h₀ L h m → News h₀ L h ((I, oI) :: (C, oC) :: (D, lst ys) :: news) → Off3 I C D news → ((@Ne Nat I C) ∧ (@Ne Nat I D) ∧ (@Ne Nat C D)) →
      wpAny (model prog w) A (isTrue ct (compEnvC scope cl C env) (eval ct (compEnvC scope cl C env))) (fun ok s' => if ok = true then
        wpAny (model prog w) A (eval elt (compEnvC scope cl C env)) (CompEnd h₀ L m { s with heap := h, toks := tk } I oI C oC D (lst ys) S (fun y news' => J (i + 1) (ys ++ [y]) news')) E' s'
        else CompEnd h₀ L m { s with heap := h, toks := tk } I oI C oC D (lst ys) S (fun _ news' => J (i + 1) ys news') Value.none s') E' { s with heap := h, toks := tk })
    (fin : ∀ ys news, J n ys news → Fin ys news) : ∀ k i ys news, i + k = n → J i ys news → CompRestT prog w A h₀ L m env ct elt x scope cl s S P Fin k i ys news := by
  intro k
  induction k with
  | zero => intro i ys news e hJ; exact CompRestT.zero (fin ys news (by rw [← e]; exact hJ))
  | succ k ih =>
    intro i ys news e hJ
    refine CompRestT.succ fun v I oI C oC D m₂ h tk E' hP hC hx F N off ne => ?_
    refine wpAny_mono (step i ys news v I oI C oC D m₂ h tk E' (by omega) hJ hP hC hx F N off ne) (fun ok s' z => ?_) fun _ _ e => e
    cases ok with
    | true =>
      simp only [if_true] at z ⊢
      exact wpAny_mono z (fun y s' z => compEnd_mono z fun y nw hJ' => ih _ _ _ (by omega) hJ') fun _ _ e => e
    | false =>
      simp only [Bool.false_eq_true, if_false] at z ⊢
      exact compEnd_mono z fun y nw hJ' => ih _ _ _ (by omega) hJ'

theorem ListComp_W0 {news : List (Addr × Obj)} (F₀ : Fr h₀ L s.heap m) (N₀ : News h₀ L s.heap news) {elt iter : Expr} {x : Str} {px : Pos} {scope : Scope} {cl : List (Str × Addr)} {pos : Pos} {Q : Value → Shared → Prop} (J : Nat → List Value → List (Addr × Obj) → Prop)
    (hclos : closureFor scope env = pure cl) (hcell : ∀ y ∈ scope.names, y.2 ≠ .cell) (hkind : scope.kind = .function)
    (hnames : ∀ y ∈ scope.names, y.2 = .local → scope.names.lookup y.1 = some .local) (hx : scope.names.lookup x = some .local)
    (h : wpAny (model prog w) A (eval iter env) (fun xv s₁ => wpAny (model prog w) A (pyIter xv) (fun it s₂ => ∃ I n P S, it = .ref I ∧ Fr h₀ L s₂.heap m ∧ News h₀ L s₂.heap news ∧ SrcW prog w A h₀ L I n P S news s₂.heap ∧ J 0 [] [] ∧
      (∀ i ys own v I oI C oC D m₂ h tk (E' : Value → Shared → Prop), i < n → J i ys own → P i v → NsObj oC m₂ → m₂ x = some v → Fr h₀ L h m → News h₀ L h ((I, oI) :: (C, oC) :: (D, lst ys) :: (own ++ news)) → Off3 I C D (own ++ news) → ((@Ne Nat I C) ∧ (@Ne Nat I D) ∧ (@Ne Nat C D)) →
        wpAny (model prog w) A (eval elt (compEnvC scope cl C env)) (CompEnd h₀ L m { s₂ with heap := h, toks := tk } I oI C oC D (lst ys) S (fun y nw => ∃ own', nw = own' ++ news ∧ J (i + 1) (ys ++ [y]) own')) E' { s₂ with heap := h, toks := tk }) ∧
      (∀ ys D h tk own, J n ys own → Fr h₀ L h m → News h₀ L h ((D, lst ys) :: (own ++ news)) → Off1 D (own ++ news) → Q (.ref D) { s₂ with heap := h, toks := tk })) E s₁) E s)
    (hs : ∀ x, foldedSetIterable iter env x = pure x := by intro _; rfl) :
    wpAny (model prog w) A (eval (.ListComp elt [⟨.Name x px, iter, [], 0⟩] scope pos) env) Q E s := by
  rw [eval_ListComp]
  refine wpAny_comprehension_free (use := none) rfl hs hclos hkind hnames (wpAny_mono h (fun xv s₁ h₁ => wpAny_mono h₁ (fun it s₂ h₂ => ?_) fun _ _ e => e) fun _ _ e => e)
  obtain ⟨I, n, P, S, rfl, F, N, ⟨fp, St, W, hsz, hIo, hSt, hst, hfp, hIL, hI₀, off, hS⟩, hJ, hstep, hfin⟩ := h₂
  refine block_U (Fin := fun ys nw => ∃ own, nw = own ++ news ∧ J n ys own) W hsz hIo hSt hcell hkind hx hst hfp F N hIL hI₀ off hS (compRest_ind (fun i ys nw => ∃ own, nw = own ++ news ∧ J i ys own) (fun i ys nw v I oI C oC D m₂ h tk E' hi ⟨own, e, hJ⟩ => by subst e; exact hstep i ys own v I oI C oC D m₂ h tk E' hi hJ) (fun _ _ z => z) n 0 [] news (by omega) ⟨[], rfl, hJ⟩) ?_
  rintro D C h tk m' ys news' F' N' o1 hn hC₀ hD₀ hCL hDL hCD offC ⟨own, rfl, fin⟩
  refine ⟨m', hn, fun h'' hs'' => hfin ys D h'' tk own fin (F'.change hs'' hCL hC₀) (fun p hp => ?_) o1⟩
  refine ⟨hs''.extBut _ _ ?_ (N' p hp).1, (N' p hp).2⟩
  rcases List.mem_cons.mp hp with rfl | hp
  · exact Ne.symm hCD
  · exact offC p hp

theorem ListComp_W1 {news : List (Addr × Obj)} (F₀ : Fr h₀ L s.heap m) (N₀ : News h₀ L s.heap news) {ct elt iter : Expr} {x : Str} {px : Pos} {scope : Scope} {cl : List (Str × Addr)} {pos : Pos} {Q : Value → Shared → Prop} (J : Nat → List Value → List (Addr × Obj) → Prop)
    (hclos : closureFor scope env = pure cl) (hcell : ∀ y ∈ scope.names, y.2 ≠ .cell) (hkind : scope.kind = .function)
    (hnames : ∀ y ∈ scope.names, y.2 = .local → scope.names.lookup y.1 = some .local) (hx : scope.names.lookup x = some .local)
    (h : wpAny (model prog w) A (eval iter env) (fun xv s₁ => wpAny (model prog w) A (pyIter xv) (fun it s₂ => ∃ I n P S, it = .ref I ∧ Fr h₀ L s₂.heap m ∧ News h₀ L s₂.heap news ∧ SrcW prog w A h₀ L I n P S news s₂.heap ∧ J 0 [] [] ∧
      (∀ i ys own v I oI C oC D m₂ h tk (E' : Value → Shared → Prop), i < n → J i ys own → P i v → NsObj oC m₂ → m₂ x = some v → Fr h₀ L h m → News h₀ L h ((I, oI) :: (C, oC) :: (D, lst ys) :: (own ++ news)) → Off3 I C D (own ++ news) → ((@Ne Nat I C) ∧ (@Ne Nat I D) ∧ (@Ne Nat C D)) →
        wpAny (model prog w) A (isTrue ct (compEnvC scope cl C env) (eval ct (compEnvC scope cl C env))) (fun ok s' => if ok = true then
          wpAny (model prog w) A (eval elt (compEnvC scope cl C env)) (CompEnd h₀ L m { s₂ with heap := h, toks := tk } I oI C oC D (lst ys) S (fun y nw => ∃ own', nw = own' ++ news ∧ J (i + 1) (ys ++ [y]) own')) E' s'
          else CompEnd h₀ L m { s₂ with heap := h, toks := tk } I oI C oC D (lst ys) S (fun _ nw => ∃ own', nw = own' ++ news ∧ J (i + 1) ys own') Value.none s') E' { s₂ with heap := h, toks := tk }) ∧
      (∀ ys D h tk own, J n ys own → Fr h₀ L h m → News h₀ L h ((D, lst ys) :: (own ++ news)) → Off1 D (own ++ news) → Q (.ref D) { s₂ with heap := h, toks := tk })) E s₁) E s)
    (hs : ∀ x, foldedSetIterable iter env x = pure x := by intro _; rfl) :
    wpAny (model prog w) A (eval (.ListComp elt [⟨.Name x px, iter, [ct], 0⟩] scope pos) env) Q E s := by
  rw [eval_ListComp]
  refine wpAny_comprehension_free (use := none) rfl hs hclos hkind hnames (wpAny_mono h (fun xv s₁ h₁ => wpAny_mono h₁ (fun it s₂ h₂ => ?_) fun _ _ e => e) fun _ _ e => e)
  obtain ⟨I, n, P, S, rfl, F, N, ⟨fp, St, W, hsz, hIo, hSt, hst, hfp, hIL, hI₀, off, hS⟩, hJ, hstep, hfin⟩ := h₂
  refine block_T (Fin := fun ys nw => ∃ own, nw = own ++ news ∧ J n ys own) W hsz hIo hSt hcell hkind hx hst hfp F N hIL hI₀ off hS (compRestT_ind (fun i ys nw => ∃ own, nw = own ++ news ∧ J i ys own) (fun i ys nw v I oI C oC D m₂ h tk E' hi ⟨own, e, hJ⟩ => by subst e; exact hstep i ys own v I oI C oC D m₂ h tk E' hi hJ) (fun _ _ z => z) n 0 [] news (by omega) ⟨[], rfl, hJ⟩) ?_
  rintro D C h tk m' ys news' F' N' o1 hn hC₀ hD₀ hCL hDL hCD offC ⟨own, rfl, fin⟩
  refine ⟨m', hn, fun h'' hs'' => hfin ys D h'' tk own fin (F'.change hs'' hCL hC₀) (fun p hp => ?_) o1⟩
  refine ⟨hs''.extBut _ _ ?_ (N' p hp).1, (N' p hp).2⟩
  rcases List.mem_cons.mp hp with rfl | hp
  · exact Ne.symm hCD
  · exact offC p hp

theorem compEnd_own {I C D : Addr} {s₁ : Shared} {oI oC oD : Obj} {S : List (Addr × Obj) → Prop} {J' : Value → List (Addr × Obj) → Prop} {y : Value} {h' : Heap} {tk : Nat} {base own' : List (Addr × Obj)}
    (F : Fr h₀ L h' m) (N : News h₀ L h' ((I, oI) :: (C, oC) :: (D, oD) :: (own' ++ base))) (off : Off3 I C D (own' ++ base)) (hS : S (own' ++ base)) (r : J' y own') :
    CompEnd h₀ L m s₁ I oI C oC D oD S (fun y nw => ∃ o', nw = o' ++ base ∧ J' y o') y { s₁ with heap := h', toks := tk } := CompEnd.intro F N (own' ++ base) (fun _ hp => hp) off hS ⟨own', rfl, r⟩

theorem pyIter_keys {K : Type} [DecidableEq K] {knd : KeyKind prog w K} {d : Addr} {o : Obj} {kvs : List (K × Value)} {news : List (Addr × Obj)} {Q : Value → Shared → Prop} (hh : A.handled = none) (F : Fr h₀ L s.heap m) (N : News h₀ L s.heap news) (hp : (d, o) ∈ news) (hd : o.IsDictOf knd kvs)
    (lo : (d == sysModules) = false) (hsz : kvs.length ≤ sizeLine)
    (h : ∀ I h', Fr h₀ L h' m → News h₀ L h' news → SrcW prog w A h₀ L I kvs.length (fun i v => ∃ k x, kvs[i]? = some (k, x) ∧ knd.is k v = true) (fun nw => (d, o) ∈ nw) news h' → Q (.ref I) { s with heap := h' }) :
    wpAny (model prog w) A (pyIter (.ref d)) Q E s := by
  obtain ⟨ep, hat⟩ := KdkAt.of hd
  have hat' := hat.dictAt (N _ hp).1
  refine wpAny_pyIter_dict lo hat' ?_
  have hlt : d < s.heap.objs.size := Heap.lt_size (N _ hp).1
  have up : ∀ b ob, s.heap.get? b = some ob → (s.heap.push { cls := .type "dict_keyiterator", data := .fields #[.ref d, .int 0 0, .int kvs.length 0, .int ep 0] }).get? b = some ob := fun b ob e => Heap.get?_push_of_some _ e
  refine h _ _ (F.keeps up) (N.grown up) ⟨[s.heap.objs.size, d], _, Walks.dictKeys (knd := knd) hh s.heap.objs.size d (Nat.ne_of_lt hlt) kvs ep, hsz, ?_, ?_, ?_, ?_, Nat.ne_of_lt F.ns.lt, next_is_new F, (fun p hp => Nat.ne_of_lt (Heap.lt_size (N p hp).1)), hp⟩
  · rintro i h ⟨⟨o, e, _⟩, _⟩; exact ⟨o, e⟩
  · rintro i h h' o' nw ⟨⟨o₁, e₁, r₁⟩, _⟩ e e' hk N' hS
    rw [e] at e₁; cases e₁
    exact ⟨⟨_, e', r₁⟩, hat.dictAt (N' _ hS).1⟩
  · exact ⟨⟨_, Heap.get?_push_size _ rfl, rfl, rfl⟩, hat'.push _⟩
  · intro b hb
    show b < (s.heap.push _).objs.size
    rw [Heap.size_push]
    rcases List.mem_cons.mp hb with rfl | hb
    · exact Nat.lt_succ_self _
    · rw [List.mem_singleton.mp hb]; exact Nat.lt_succ_of_lt hlt

theorem pyIter_lst {l : Addr} {vs : List Value} {n : Nat} {news : List (Addr × Obj)} {Q : Value → Shared → Prop} (hh : A.handled = none) (F : Fr h₀ L s.heap m) (N : News h₀ L s.heap news) (hp : (l, listOf vs.toArray n) ∈ news) (hsz : vs.length ≤ sizeLine)
    (h : ∀ I h', Fr h₀ L h' m → News h₀ L h' news → SrcW prog w A h₀ L I vs.length (fun i v => vs[i]? = some v) (fun nw => (l, listOf vs.toArray n) ∈ nw) news h' → Q (.ref I) { s with heap := h' }) :
    wpAny (model prog w) A (pyIter (.ref l)) Q E s := by
  have hl : s.heap.IsList l vs.toArray := ⟨_, (N _ hp).1, rfl, _, rfl⟩
  refine wpAny_pyIter_list hl ?_
  have hlt : l < s.heap.objs.size := Heap.lt_size (N _ hp).1
  have up : ∀ b ob, s.heap.get? b = some ob → (s.heap.push { cls := .type "list_iterator", data := .fields #[.ref l, .int 0 0] }).get? b = some ob := fun b ob e => Heap.get?_push_of_some _ e
  have W := Walks.list (prog := prog) (w := w) hh s.heap.objs.size l (Nat.ne_of_lt hlt) vs.toArray
  have W' : Walks prog w A s.heap.objs.size [s.heap.objs.size, l] [s.heap.objs.size] vs.length (fun i v => vs[i]? = some v) (fun i h => h.IsListIter s.heap.objs.size l i ∧ h.IsList l vs.toArray) := by
    simpa using W
  refine h _ _ (F.keeps up) (N.grown up) ⟨[s.heap.objs.size, l], _, W', hsz, ?_, ?_, ?_, ?_, Nat.ne_of_lt F.ns.lt, next_is_new F, (fun p hp => Nat.ne_of_lt (Heap.lt_size (N p hp).1)), hp⟩
  · rintro i h ⟨⟨o, e, _⟩, _⟩; exact ⟨o, e⟩
  · rintro i h h' o' nw ⟨⟨o₁, e₁, r₁⟩, _⟩ e e' hk N' hS
    rw [e] at e₁; cases e₁
    exact ⟨⟨_, e', r₁⟩, ⟨_, (N' _ hS).1, rfl, _, rfl⟩⟩
  · exact ⟨⟨_, Heap.get?_push_size _ rfl, rfl, rfl⟩, hl.push _⟩
  · intro b hb
    show b < (s.heap.push _).objs.size
    rw [Heap.size_push]
    rcases List.mem_cons.mp hb with rfl | hb
    · exact Nat.lt_succ_self _
    · rw [List.mem_singleton.mp hb]; exact Nat.lt_succ_of_lt hlt
end
end Mine
end

section
open PySem PySem.W PySem.Calls PyProof.Rows
theorem Mine.off_D1 {M : Model} {A : Around} {E : Value → Shared → Prop} {s : Shared} {Q : Flow → Shared → Prop} {env : Env} (h : Q .next s) : wpAny M A (execs [] env) Q E s := by
  w_top off
  try walk1
  first
    | exact h
    | exact wpAny_execs_nil h
end
section
open PySem PySem.W PySem.Calls PyProof.Rows Builtin Builtin.ObjectAttr PyProof.Rows.LCt PyProof.Rows.LCg
namespace Mine

theorem getAttrQ_miss_list {prog : Program} {w : World} {A : Around} {E : Value → Shared → Prop} {s : Shared} {a : Addr} {xs : Array Value} {k : Nat} {name : Str} {Q : Option Value → Shared → Prop}
    (hx : s.heap.get? a = some { cls := .type "list", data := .seq xs k }) (hmiss : typeLookup (.type "list") name = pure none) (hname : (["__module__", "__name__", "__qualname__", "__doc__", "__annotations__"] : List Str).contains name = false) (hA : A.handled = none)
    (h : ∀ h' tk, (∀ b ob, s.heap.get? b = some ob → h'.get? b = some ob) → Q none { s with heap := h', toks := tk }) (hsz : name.length + 100 ≤ sizeLine) :
    wpAny (model prog w) A (getAttr? (.ref a) name) Q E s := by
  obtain ⟨hp, g, d, tk, os⟩ := s
  have hT : ∀ tk', (⟨hp, g, d, tk', os⟩ : Shared).TypeIs (.ref a) "list" := fun _ => ⟨_, hx, rfl⟩
  have f1 := sub_AttributeError
  have f3 := F.slot_list_getattribute.lookup
  have f4 := F.slot_list_getattribute.bind (.ref a)
  have f5 := am_list_getattr_none
  unfold getAttr? getAttrBy? getAttrBy
  repeat (any_goals (first | assumption | exact hT _ | ((with_reducible show wpAny _ _ (call (Value.builtin "list.__getattribute__") _ _) _ _ _); refine call_meets F.slot_list_getattribute (hT _) am_entry_list_getattribute (F.args_list_getattribute_2 _ _) (meets_getattribute_miss_list a xs k #[] name _ hmiss hname hsz) ⟨hx, hA, fun h' tk' e hx' => ?_⟩) | wp_step))
  obtain ⟨t', u', he⟩ := hx'.there
  show wpAny _ _ (getattributeRaised _ _ _ _ _ _ _) _ _ _
  unfold getattributeRaised
  repeat (any_goals (first | assumption | wp_step))
  exact h _ _ hx'.keeps

end Mine
end

section
open PySem PySem.W PySem.Calls PyProof.Rows
theorem Mine.off_D2 {M : Model} {A : Around} {E : Value → Shared → Prop} {s : Shared} {Q : Flow → Shared → Prop} {env : Env} (h : Q .next s) : wpAny M A (execs [] env) Q E s := by
  w_top off
  try walk1
  first
    | exact h
    | exact wpAny_execs_nil h
end
section
open PySem PySem.W PySem.Calls PyProof.Rows Builtin Builtin.ObjectAttr PyProof.Rows.LCt PyProof.Rows.LCg
namespace Mine

theorem entry_upd_loop : entryFor table "dict.update.loop" = some Builtin.«dict.update.loop» := entryFor_of_tree (by kernel_rfl)
theorem plain_upd_loop : plainId "dict.update.loop" = true := by decide +kernel

theorem stored_take {ps : List (Str × Value)} (hn : (ps.map (·.1)).Nodup) {i : Nat} {k : Str} {x : Value} (h : ps[i]? = some (k, x)) : stored (ps.take i) k x = ps.take (i + 1) := by
  have hno : (ps.take i).any (fun kv => decide (kv.1 = k)) = false := by
    rw [List.any_eq_false]
    intro q hq e
    have e' : q.1 = k := by simpa using e
    obtain ⟨hi, hi'⟩ := List.getElem?_eq_some_iff.mp h
    obtain ⟨j, hj, hjq⟩ := List.mem_iff_getElem.mp hq
    rw [List.length_take] at hj
    rw [List.getElem_take] at hjq
    have hj1 : j < (ps.map (·.1)).length := by rw [List.length_map]; omega
    have hi1 : i < (ps.map (·.1)).length := by rw [List.length_map]; omega
    have := (List.getElem_inj hn (i := j) (j := i) (h₀ := hj1) (h₁ := hi1)).mp (by rw [List.getElem_map, List.getElem_map, hjq, hi', e'])
    omega
  unfold stored
  rw [hno, if_neg (by simp), List.take_add_one, h]
  rfl

abbrev pairObj (k : Str) (kt : Tok) (x : Value) : Obj := { cls := .type "tuple", data := .seq #[.str k kt, x] }

section
variable {prog : Program} {w : World} {A : Around} {R : Result → Shared → Prop} {I d : Addr} {fp : List Addr} {n : Nat} {St : Nat → Heap → Prop} {zs : List Value} {ps : List (Str × Value)}

theorem upd_loop (W : Walks prog w A.in1 I fp [I] n (fun i v => zs[i]? = some v) St) (hd : d ∉ fp) (hI : d ≠ I) (hn : ps.length = n) (hnd : (ps.map (·.1)).Nodup) (hsz : n ≤ sizeLine)
    (hz : ∀ (i : Nat) (v : Value), zs[i]? = some v → ∃ T : Addr, v = Value.ref T ∧ T ≠ d ∧ T ≠ I) :
    ∀ (k i : Nat) (s : Shared), n - i = k → i ≤ n → St i s.heap → s.heap.DictOf (PySem.strKind prog w) d (ps.take i) →
      (∀ (j : Nat) (T : Addr), zs[j]? = some (Value.ref T) → ∃ k kt x, ps[j]? = some (k, x) ∧ s.heap.get? T = some (pairObj k kt x)) →
      (∀ h' tk, h'.DictOf (PySem.strKind prog w) d ps → (∀ b o, b ≠ d → b ≠ I → s.heap.get? b = some o → h'.get? b = some o) → R (.ok (.ret .none)) { s with heap := h', toks := tk }) →
      codeAny (model prog w) A (.builtin "dict.update.loop" ⟨[.ref d, .ref I, rawInt (i : Int), .none], []⟩) R s := by
  intro k
  induction k with
  | zero =>
    intro i s hk hi hst hD hT hR
    have hin : i = n := by omega
    subst hin
    refine codeAny_builtin entry_upd_loop ?_
    rw [Around.under_plainId plain_upd_loop _]
    show wpAny _ A.in1 (pyNext (.ref I) >>= _) _ _ s
    refine wpAny_bind (W.done s _ _ hst fun h' tk hm => ?_)
    show wpAny _ A.in1 (Builtin.Dict.addKeywords d [] >>= _) _ _ _
    refine wpAny_bind (wpAny_pure ?_)
    refine wpAny_pure (hR h' tk ?_ fun b o hb hbI e => hm b o (by simpa using hbI) e)
    rw [List.take_of_length_le (by omega)] at hD
    exact hD.at fun o e => hm d o (by simpa using hI) e
  | succ k ih =>
    intro i s hk hi hst hD hT hR
    have hlt : i < n := by omega
    refine codeAny_builtin entry_upd_loop ?_
    rw [Around.under_plainId plain_upd_loop _]
    show wpAny _ A.in1 (pyNext (.ref I) >>= _) _ _ s
    refine wpAny_bind (W.item i s _ _ hlt hst fun v h' tk hP hst' hm => ?_)
    obtain ⟨T, rfl, hTd, hTI⟩ := hz i v hP
    obtain ⟨k', kt, x, hpx, hTo⟩ := hT i T hP
    have hTo' : h'.get? T = some (pairObj k' kt x) := hm T _ (by simpa using hTI) hTo
    have hD' : h'.DictOf (PySem.strKind prog w) d (ps.take i) := hD.at fun o e => hm d o (by simpa using hI) e
    dsimp only
    refine wpAny_bind (wpAny_holding (wpAny_bind ?_))
    show wpAny _ _ (tryCatch (Builtin.Dict.pairItems (.ref T)) _) _ _ _
    refine wpAny_tryCatch ?_
    unfold Builtin.Dict.pairItems
    refine wpAny_bind (wpAny_typeOf (T := "tuple") ⟨_, hTo', rfl⟩ ?_)
    rw [if_pos (by decide)]
    refine wpAny_bind ?_
    unfold seqItems?
    refine wpAny_bind (wpAny_load hTo' (wpAny_pure (wpAny_pure ?_)))
    show wpAny _ _ (holding [Value.str k' kt, x] (dictSet d (.str k' kt) x)) _ _ _
    refine wpAny_holding (wpAny_dictSet_pairs (knd := PySem.strKind prog w) (strKind_is _ _ _ _) hD' (fun h'' hD'' hs => ?_) (by rw [List.length_take]; omega))
    rw [stored_take hnd hpx] at hD''
    have hst'' : St (i + 1) h'' := W.frame _ _ _ hst' fun b hb o e => by rw [hs.2 b (fun q : b = d => hd (q ▸ hb))]; exact e
    have hkeep : ∀ b o, b ≠ d → b ≠ I → s.heap.get? b = some o → h''.get? b = some o := fun b o hb hbI e => by rw [hs.2 b hb]; exact hm b o (by simpa using hbI) e
    refine wpAny_pure ⟨plainId_quiet plain_upd_loop _, ih (i + 1) _ (by omega) hlt hst'' hD'' (fun j T' hj => ?_) fun h₃ tk₃ hD₃ hk₃ => ?_⟩
    · obtain ⟨T'', e, h1, h2⟩ := hz j _ hj
      cases e
      obtain ⟨k₂, kt₂, x₂, a, b⟩ := hT j T' hj
      exact ⟨k₂, kt₂, x₂, a, hkeep _ _ h1 h2 b⟩
    · exact hR h₃ tk₃ hD₃ fun b o hb hbI e => hk₃ b o hb hbI (hkeep b o hb hbI e)
end

section
variable {prog : Program} {w : World} {A : Around} {E : Value → Shared → Prop} {s : Shared} {h₀ : Heap} {L l : Addr} {m : Str → Option Value} {news : List (Addr × Obj)}
theorem list_keys_none : typeLookup (.type "list") (Str.ofString "keys") = pure none := am_miss_of_fast (by decide +kernel)

theorem call_dict_pairs {zs : List Value} {ps : List (Str × Value)} {n : Nat} {Q : Value → Shared → Prop} (hh : A.handled = none) (F : Fr h₀ L s.heap m) (N : News h₀ L s.heap news) (hl : (l, listOf zs.toArray n) ∈ news) (hlen : zs.length = ps.length) (hnd : (ps.map (·.1)).Nodup) (hsz : ps.length ≤ sizeLine)
    (hz : ∀ (j : Nat) (v : Value), zs[j]? = some v → ∃ (T : Addr) (k : Str) (kt : Tok) (x : Value), v = .ref T ∧ ps[j]? = some (k, x) ∧ (T, pairObj k kt x) ∈ news)
    (h : ∀ d h' tk o, o.IsDictOf (PySem.strKind prog w) ps → Fr h₀ L h' m → News h₀ L h' ((d, o) :: news) → (∀ p ∈ news, p.1 < d) → Q (.ref d) { s with heap := h', toks := tk }) :
    wpAny (model prog w) A (call (.type "dict") [.ref l]) Q E s := by
  refine callType_codes (Q₁ := fun obj s₁ => obj = .ref s.heap.objs.size ∧ s₁ = { s with heap := s.heap.push { cls := .type "dict", data := .dict #[] } }) PySem.F.kt_called_dict (PySem.F.kt_typeCall_dict_1 _) PySem.F.entry_dict_init (kt_code_dict_new _ ⟨rfl, rfl⟩) ?_
  rintro obj s₁ ⟨rfl, rfl⟩
  have hnew : (s.heap.push { cls := .type "dict", data := .dict #[] }).DictOf (PySem.strKind prog w) s.heap.objs.size [] := Heap.DictOf.new s.heap
  have N1 := News.push F N { cls := .type "dict", data := .dict #[] }
  have F1 := F.push { cls := .type "dict", data := .dict #[] }
  have hl1 := (N1 _ (List.mem_cons_of_mem _ hl)).1
  refine ⟨hnew.typeIs, PySem.F.args_dict_init_2 _ _, ?_⟩
  unfold Builtin.«dict.__init__»
  refine wpAny_bind ?_
  unfold Builtin.Dict.selfAndRest
  refine wpAny_bind (wpAny_notOrdered_dict hnew.typeIs ?_)
  show wpAny _ _ (pure (s.heap.objs.size, [Value.ref l])) _ _ _
  refine wpAny_pure ?_
  show wpAny _ _ (Builtin.Dict.updateFrom "dict.__init__" s.heap.objs.size (.ref l) [] .none) _ _ _
  unfold Builtin.Dict.updateFrom
  refine wpAny_bind (wpAny_typeOf (T := "list") ⟨_, hl1, rfl⟩ ?_)
  rw [if_pos (by decide)]
  refine wpAny_bind (getAttrQ_miss_list hl1 list_keys_none (by decide +kernel) hh (fun h' tk hk => ?_) (by rw [sizeLine_eq]; decide))
  have F2' := F1.keeps hk
  have N2 := N1.grown hk
  have hl2 : h'.IsList l zs.toArray := ⟨_, (N2 _ (List.mem_cons_of_mem _ hl)).1, rfl, _, rfl⟩
  rw [if_pos (show (none : Option Value).isNone = true from rfl)]
  refine wpAny_bind (wpAny_rule (wpAny_bind (wpAny_pyIter_list hl2 ?_)))
  refine wpAny_pure ⟨plainId_quiet plain_upd_loop _, ?_⟩
  have hlt : l < h'.objs.size := by obtain ⟨_, e, _⟩ := hl2; exact Heap.lt_size e
  have hdlt : s.heap.objs.size < h'.objs.size := Heap.lt_size (N2 _ (.head _)).1
  have W := Walks.list (prog := prog) (w := w) (A := A.in1.in1) hh h'.objs.size l (Nat.ne_of_lt hlt) zs.toArray
  have W' : Walks prog w A.in1.in1 h'.objs.size [h'.objs.size, l] [h'.objs.size] zs.length (fun i v => zs[i]? = some v) (fun i h => h.IsListIter h'.objs.size l i ∧ h.IsList l zs.toArray) := by simpa using W
  have up : ∀ b ob, h'.get? b = some ob → (h'.push { cls := .type "list_iterator", data := .fields #[.ref l, .int 0 0] }).get? b = some ob := fun b ob e => Heap.get?_push_of_some _ e
  have N3 := N2.grown up
  have hold : ∀ p ∈ news, p.1 < s.heap.objs.size := fun p hp => Heap.lt_size (N p hp).1
  refine upd_loop (ps := ps) W' (d := s.heap.objs.size) ?_ (Nat.ne_of_lt hdlt) hlen.symm hnd (by rw [hlen]; exact hsz) ?_ zs.length 0 _ (by omega) (Nat.zero_le _) ⟨⟨_, Heap.get?_push_size _ rfl, rfl, rfl⟩, hl2.push _⟩ ?_ ?_ ?_
  · intro hm
    rcases List.mem_cons.mp hm with e | hm
    · exact absurd hdlt (by rw [e]; exact Nat.lt_irrefl _)
    · have := hold _ hl
      rw [← List.mem_singleton.mp hm] at this
      exact absurd this (Nat.lt_irrefl _)
  · intro i v hv
    obtain ⟨T, k, kt, x, rfl, _, hT⟩ := hz i v hv
    have h1 := hold _ hT
    exact ⟨T, rfl, Nat.ne_of_lt h1, Nat.ne_of_lt (Nat.lt_trans h1 hdlt)⟩
  · rw [List.take_zero]
    exact (hnew.at fun o e => hk _ o e).push _
  · intro j T hj
    obtain ⟨T', k, kt, x, e, hp, hT⟩ := hz j _ hj
    cases e
    exact ⟨k, kt, x, hp, (N3 _ (List.mem_cons_of_mem _ hT)).1⟩
  · intro h₂ tk₂ hD₂ hk₂
    refine ⟨rfl, ?_⟩
    obtain ⟨o, ho, hdo⟩ := Heap.dictOf_iff.mp hD₂
    have keep : ∀ b ob, s.heap.get? b = some ob → h₂.get? b = some ob := fun b ob e => by
      have hb := Heap.lt_size e
      exact hk₂ b ob (Nat.ne_of_lt hb) (Nat.ne_of_lt (Nat.lt_trans hb hdlt)) (up _ _ (hk _ _ (Heap.get?_push_of_some _ e)))
    refine h _ h₂ tk₂ o hdo (F.keeps keep) (fun p hp => ?_) hold
    rcases List.mem_cons.mp hp with rfl | hp
    · exact ⟨ho, (N1 _ (.head _)).2⟩
    · exact N.grown keep p hp
end
end Mine
end

section
open PySem PySem.W PySem.Calls PyProof.Rows
theorem Mine.off_C7 {M : Model} {A : Around} {E : Value → Shared → Prop} {s : Shared} {Q : Flow → Shared → Prop} {env : Env} (h : Q .next s) : wpAny M A (execs [] env) Q E s := by
  w_top off
  try walk1
  first
    | exact h
    | exact wpAny_execs_nil h
end
section
open PySem PySem.W PySem.Calls PyProof.Rows Builtin Builtin.ObjectAttr PyProof.Rows.LCt PyProof.Rows.LCg
namespace Mine

local macro_rules | `(tactic| k_room) => `(tactic| exact Nat.le_of_ble_eq_true rfl)

def intOf : Value → Int
  | .int n _ => n
  | _ => 0
def OwnOk (kvs : List (Str × Value)) : Prop := ∀ p ∈ kvs, ∃ n t, p.2 = .int n t
def absO (kvs : List (Str × Value)) : List (Str × Int) := kvs.map fun p => (p.1, intOf p.2)
def lastS (xs : List Str) : List Str := xs.drop (xs.length - 1)
def namesA (l : List (Str × Int)) (n : Int) : List Str := (l.filter (fun p => decide (p.2 = n))).map (·.1)
def delA (l : List (Str × Int)) (n : Int) : List (Str × Int) := l.filter fun q => !decide (q.1 ∈ lastS (namesA l n))
abbrev StrsAre (ys : List Value) (xs : List Str) : Prop := F2 (fun v x => ∃ t, v = Value.str x t) ys xs

theorem nodup_of {prog : Program} {w : World} {K : Type} [DecidableEq K] {knd : PySem.KeyKind prog w K} {o : Obj} {kvs : List (K × Value)} (h : o.IsDictOf knd kvs) : (kvs.map (·.1)).Nodup := let ⟨_, _, _, _, _, _, n⟩ := h; n
theorem valueAt_get {K : Type} [DecidableEq K] : ∀ {kvs : List (K × Value)} (_ : (kvs.map (·.1)).Nodup) {p : K × Value} (_ : p ∈ kvs), valueAt kvs p.1 = some p.2
  | [], _, p, h => nomatch h
  | q :: r, hn, p, h => by
    unfold valueAt
    rw [List.find?_cons]
    rw [List.map_cons, List.nodup_cons] at hn
    rcases List.mem_cons.mp h with rfl | h
    · simp
    · have : ¬ q.1 = p.1 := fun e => hn.1 (e ▸ List.mem_map_of_mem h)
      simp only [this, decide_false]
      exact valueAt_get hn.2 h

theorem absO_get {kvs : List (Str × Value)} {j : Nat} {k : Str} {n : Int} {t : Tok} (h : kvs[j]? = some (k, .int n t)) : (absO kvs)[j]? = some (k, n) := by
  unfold absO; rw [List.getElem?_map, h]; rfl
theorem keys_take_succ {l : List (Str × Int)} {j : Nat} {k : Str} {n i : Int} (h : l[j]? = some (k, n)) :
    ((l.take (j + 1)).filter (fun p => decide (p.2 = i))).map (·.1) = if n = i then ((l.take j).filter (fun p => decide (p.2 = i))).map (·.1) ++ [k] else ((l.take j).filter (fun p => decide (p.2 = i))).map (·.1) := by
  rw [List.take_add_one, h, List.filter_append, List.map_append]
  by_cases e : n = i <;> simp [e]

theorem F2.mono {α β : Type} {R R' : α → β → Prop} {as : List α} {bs : List β} (h : F2 R as bs) (k : ∀ a b, R a b → R' a b) : F2 R' as bs := by
  induction h with
  | nil => exact .nil
  | cons h1 _ ih => exact .cons (k _ _ h1) ih
theorem F2.drop {α β : Type} {R : α → β → Prop} {as : List α} {bs : List β} (h : F2 R as bs) : ∀ n, F2 R (as.drop n) (bs.drop n) := by
  induction h with
  | nil => intro n; simpa using F2.nil
  | cons h1 h2 ih =>
    intro n
    cases n with
    | zero => exact .cons h1 h2
    | succ n => exact ih n
theorem pick_last (ys : List Value) : kms_pick ys (some (-1)) none = ys.drop (ys.length - 1) := by
  unfold kms_pick kms_lo kms_hi
  simp only [show ((-1 : Int) < 0) = True from by simp, if_true]
  rw [List.take_of_length_le]
  · rfl
  · simp
def isS (k : Str) : Value → Bool
  | .str x _ => x == k
  | _ => false
theorem any_isS {zs : List Value} {xs : List Str} (h : StrsAre zs xs) (k : Str) : zs.any (isS k) = decide (k ∈ xs) := by
  induction h with
  | nil => simp
  | @cons a b as bs h1 _ ih =>
    obtain ⟨t, rfl⟩ := h1
    rw [List.any_cons, ih]
    by_cases e : k = b
    · subst e; simp [isS]
    · have e' : ¬ b = k := fun q => e q.symm
      simp [isS, e, e']
theorem eqAt_isS {A : Around} {s : Shared} {y : Value} {k x : Str} {t : Tok} (h : ∃ u, y = .str x u) : SeqAt.EqAt A s y (.str k t) (isS k y) := by
  obtain ⟨u, rfl⟩ := h
  have := keq_flat (A := A) (s := s) (PyProof.V.Flat.str x u) (PyProof.V.Flat.str k t)
  simpa [isS, PyData.eqv] using this
theorem F2.mem {α β : Type} {R : α → β → Prop} {as : List α} {bs : List β} (h : F2 R as bs) : ∀ {a : α}, a ∈ as → ∃ b ∈ bs, R a b := by
  induction h with
  | nil => intro a e; cases e
  | cons h1 _ ih =>
    intro a e
    rcases List.mem_cons.mp e with rfl | e
    · exact ⟨_, .head _, h1⟩
    · obtain ⟨b, hb, r⟩ := ih e; exact ⟨b, .tail _ hb, r⟩

theorem newsRot {g h : Heap} {L : Addr} {a b c : Addr × Obj} {own base : List (Addr × Obj)} (N : News g L h (a :: b :: c :: (own ++ base))) : News g L h ([a, b, c] ++ base ++ own) := fun p hp => N p (by
  simp only [List.mem_append, List.mem_cons, List.not_mem_nil, or_false] at hp ⊢
  rcases hp with ((h | h | h) | h) | h <;> simp [h])
theorem filter_take_succ {α : Type} {l : List α} {j : Nat} {a : α} {p : α → Bool} (h : l[j]? = some a) : (l.take (j + 1)).filter p = if p a then (l.take j).filter p ++ [a] else (l.take j).filter p := by
  rw [List.take_add_one, h, List.filter_append]
  by_cases e : p a <;> simp [e]

theorem F2_pairs {zs : List Value} {l : List (Str × Int)} {own : List (Addr × Obj)} (h : F2 (fun v p => ∃ T kt vt, v = Value.ref T ∧ (T, pairObj p.1 kt (.int p.2 vt)) ∈ own) zs l) :
    ∃ ps : List (Str × Value), zs.length = ps.length ∧ OwnOk ps ∧ absO ps = l ∧ ∀ (j : Nat) (v : Value), zs[j]? = some v → ∃ (T : Addr) (k : Str) (kt : Tok) (x : Value), v = .ref T ∧ ps[j]? = some (k, x) ∧ (T, pairObj k kt x) ∈ own := by
  induction h with
  | nil => exact ⟨[], rfl, fun _ h => (nomatch h), rfl, fun j v h => by simp at h⟩
  | @cons a b as bs h1 _ ih =>
    obtain ⟨ps, a1, a2, a3, a4⟩ := ih
    obtain ⟨T, kt, vt, rfl, hT⟩ := h1
    refine ⟨(b.1, .int b.2 vt) :: ps, by simp [a1], fun p hp => ?_, by simp [absO] at a3 ⊢; exact ⟨rfl, a3⟩, fun j v hj => ?_⟩
    · rcases List.mem_cons.mp hp with rfl | hp
      · exact ⟨_, _, rfl⟩
      · exact a2 p hp
    · cases j with
      | zero => simp at hj; subst hj; exact ⟨T, b.1, kt, _, rfl, by simp, hT⟩
      | succ j => simp only [List.getElem?_cons_succ] at hj ⊢; exact a4 j v hj
theorem absO_keys (kvs : List (Str × Value)) : (absO kvs).map (·.1) = kvs.map (·.1) := by simp [absO]

section
variable (w : World) (mean : ExcName → Option Value) (mg mb : Str → Option Value) (O : Addr) (oO : Obj) (kvs : List (Str × Value)) (i : Int) (ti : Tok)

theorem con_without (hO : oO.IsDictOf (SK w) kvs) (hok : OwnOk kvs) (hlen : kvs.length ≤ 1000) (lo : (O == sysModules) = false) :
    Con 590 1900 w mean mg mb 216 [.ref O, .int i ti] [(O, oO)]
      (fun r sm => ∃ d oO' kvs', r = .ref d ∧ oO'.IsDictOf (SK w) kvs' ∧ OwnOk kvs' ∧ absO kvs' = delA (absO kvs) i ∧ d ≠ O ∧ (d == sysModules) = false ∧ sm = [(O, oO), (d, oO')]) := by
  unfold Con
  k_fill
  intro envs base g s Rs B hk hz N X T hret
  refine enterC hk hz N X T (by k_is) (by k_is) (Nat.le_of_ble_eq_true rfl) (BindsTo.of_eq rfl) rfl (by decide +kernel) (fun L' h₁ tk cells F' N' Y' l1 => ?_) rfl rfl rfl
  (try k_lt l1)
  k_cells Y'
  (try simp only [List.cons_append, List.nil_append] at N')
  (try dsimp only)
  have hsz : kvs.length ≤ sizeLine := by rw [sizeLine_eq]; omega
  iterate 2 walk1
  refine ListComp_W1 F' N' (fun j ys own => StrsAre ys ((((absO kvs).take j).filter (fun p => decide (p.2 = i))).map (·.1)) ∧ own = []) (by with_unfolding_all rfl) (by decide) (by rfl) (by decide) (by rfl) ?_
  iterate 1 walk1
  refine pyIter_keys (knd := PySem.strKind _ _) rfl (by k_asm) (by k_asm) (by k_mem) hO lo hsz ?_
  intro I h' F₁ N₁ hsrc
  refine ⟨I, _, _, _, rfl, F₁, N₁, hsrc, ⟨.nil, rfl⟩, ?_, ?_⟩
  · rintro j ys own v I oI C oC D m₂ h tk E' hj ⟨hJ, rfl⟩ ⟨k, x, hkx, hkey⟩ hC hx F₂ N₂ off ne
    obtain ⟨t, rfl⟩ := strKey hkey
    have hmem := List.mem_of_getElem? hkx
    have hval := valueAt_get (nodup_of hO) hmem
    obtain ⟨n, tn, rfl⟩ := hok _ hmem
    k_steps
    refine kdt_tail (by k_asm) (by k_mem) hO ?_
    refine kdt_getItem (knd := PySem.strKind _ _) (by k_asm) (by k_mem) hO (strKind_is _ _ _ _) hval ?_
    k_steps
    · rename_i q
      have q1 : n = i := by simpa using q
      refine CompEnd.intro (by k_asm) (by k_asm) _ (fun p hp => hp) off (by k_mem) ⟨[], rfl, ?_, rfl⟩
      rw [keys_take_succ (absO_get hkx), if_pos q1]
      exact hJ.snoc ⟨t, rfl⟩
    · rename_i q
      have q1 : ¬ n = i := by simpa using q
      refine CompEnd.intro (by k_asm) (by k_asm) _ (fun p hp => hp) off (by k_mem) ⟨[], rfl, ?_, rfl⟩
      rw [keys_take_succ (absO_get hkx), if_neg q1]
      exact hJ
  · rintro ys Dn h₂ tk₂ own ⟨hJ, rfl⟩ F₂ N₂ off
    rw [List.take_of_length_le (by simp [absO])] at hJ
    dsimp only [List.nil_append] at N₂ off
    simp only [LCg.Off1, and_true] at off
    dsimp only [LCg.lst] at N₂
    have hys : ys.toArray.size ≤ sizeLine := by rw [List.size_toArray, hJ.length, sizeLine_eq, List.length_map]; have := List.length_filter_le (fun p : Str × Int => decide (p.2 = i)) (absO kvs); simp only [absO, List.length_map] at this; simp only [absO]; omega
    iterate 7 walk1
    refine ListComp_W1 (by k_asm) (by k_asm) (fun j zs own => F2 (fun v p => ∃ T kt vt, v = Value.ref T ∧ (T, pairObj p.1 kt (.int p.2 vt)) ∈ own) zs (((absO kvs).take j).filter (fun q => !decide (q.1 ∈ lastS (namesA (absO kvs) i))))) (by with_unfolding_all rfl) (by decide) (by rfl) (by decide) (by rfl) ?_
    iterate 1 walk1
    refine pyIter_keys (knd := PySem.strKind _ _) rfl (by k_asm) (by k_asm) (by k_mem) hO lo hsz ?_
    intro I h' F₁ N₁ hsrc
    refine ⟨I, _, _, _, rfl, F₁, N₁, hsrc, .nil, ?_, ?_⟩
    · rintro j zs own v I oI C oC D m₂ h tk E' hj hJ2 ⟨k, x, hkx, hkey⟩ hC hx F₂ N₂ off ne
      replace N₂ := newsRot N₂
      dsimp only [List.cons_append, List.nil_append] at N₂
      obtain ⟨t, rfl⟩ := strKey hkey
      have hmem := List.mem_of_getElem? hkx
      have hval := valueAt_get (nodup_of hO) hmem
      obtain ⟨n, tn, rfl⟩ := hok _ hmem
      k_steps
      have hpick : slicePick ys.toArray (some (-1)) none none = (ys.drop (ys.length - 1)).toArray := by rw [kms_pick_eq, pick_last]
      refine SeqAt.notIn_listAt (isS k) (items := slicePick ys.toArray (some (-1)) none none) ⟨_, (News.get (by k_asm) (by k_mem)), rfl, _, rfl⟩ ?_ ?_
      · intro y hy
        rw [hpick, List.mem_toArray] at hy
        obtain ⟨_, _, hb⟩ := (hJ.drop _).mem hy
        exact eqAt_isS hb
      have hany : (slicePick ys.toArray (some (-1)) none none).any (isS k) = decide (k ∈ lastS (namesA (absO kvs) i)) := by
        rw [hpick, List.any_toArray, any_isS (hJ.drop _), hJ.length]; rfl
      rw [hany]
      k_steps
      · rename_i q
        have q1 : k ∈ lastS (namesA (absO kvs) i) := by simpa using q
        refine CompEnd.intro (by k_asm) (by k_asm) (own ++ _) (fun p hp => ?_) off ?_ ⟨own, rfl, ?_⟩
        · simp only [List.mem_cons, List.mem_append, List.not_mem_nil, or_false] at hp ⊢; grind
        · simp
        · rw [filter_take_succ (absO_get hkx), if_neg (by simpa using q1)]
          exact hJ2
      · rename_i q
        have q1 : ¬ k ∈ lastS (namesA (absO kvs) i) := by simpa using q
        refine kdt_tail (by k_asm) (by k_mem) hO ?_
        refine kdt_getItem (knd := PySem.strKind _ _) (by k_asm) (by k_mem) hO (strKind_is _ _ _ _) hval ?_
        k_steps
        rename_i D3 h3 F3 N3 l3
        have off' := Off3.mem off
        change News g L' h3 ((D3, pairObj k t (.int n tn)) :: _) at N3
        refine compEnd_own (own' := (D3, pairObj k t (.int n tn)) :: own) F3 (fun p hp => N3 p ?_) (Off3.of fun p hp => ?_) ?_ ?_
        · simp only [List.mem_cons, List.mem_append, List.not_mem_nil, or_false] at hp ⊢; grind
        · rcases List.mem_cons.mp hp with rfl | hp
          · exact ⟨Nat.ne_of_gt l3.2.1, Nat.ne_of_gt l3.2.2.1, Nat.ne_of_gt l3.2.2.2.1⟩
          · exact off' p hp
        · simp
        · rw [filter_take_succ (absO_get hkx), if_pos (by simpa using q1)]
          exact F2.snoc (F2.mono hJ2 fun _ _ ⟨T, kt, vt, e, hT⟩ => ⟨T, kt, vt, e, .tail _ hT⟩) ⟨D3, t, tn, rfl, .head _⟩
    · rintro zs D2 h₂ tk₂ own hJ2 F₂ N₂ off2
      rw [List.take_of_length_le (by simp [absO])] at hJ2
      obtain ⟨ps, b1, b2, b3, b4⟩ := F2_pairs hJ2
      have hnd : (ps.map (·.1)).Nodup := by
        rw [← absO_keys, b3]
        have h1 : (absO kvs).map (·.1) = kvs.map (·.1) := absO_keys kvs
        refine List.Nodup.sublist (List.Sublist.map _ List.filter_sublist) ?_
        rw [h1]; exact nodup_of hO
      have hps : ps.length ≤ 1000 := by
        have : ps.length = (absO ps).length := by simp [absO]
        rw [this, b3]
        refine Nat.le_trans (List.length_filter_le _ _) ?_
        simpa [absO] using hlen
      k_steps
      refine call_dict_pairs (ps := ps) rfl (by k_asm) (by k_asm) (.head _) b1 hnd (by rw [sizeLine_eq]; omega) (fun j v hj => ?_) ?_
      · obtain ⟨T, k, kt, x, e1, e2, e3⟩ := b4 j v hj
        exact ⟨T, k, kt, x, e1, e2, .tail _ (List.mem_append_left _ e3)⟩
      intro dn h₃ tk₃ on hon F₃ N₃ hlt
      k_steps
      have hOd : O < dn := hlt (O, oO) (by simp)
      have hLd : L' + 1 < dn := hlt _ (List.mem_cons_of_mem _ (List.mem_append_right _ (.tail _ (.tail _ (.tail _ (.head _))))))
      have h3 : 3 < g.objs.size := Heap.lt_size (X 3 _ (by k_is))
      have hab := F₃.above
      refine hret _ _ _ _ ⟨dn, on, ps, rfl, hon, b2, b3, Nat.ne_of_gt hOd, ?_, rfl⟩ F₃.keep (fun q hq => ?_)
      · refine beq_eq_false_iff_ne.mpr (fun e => ?_)
        have h4 : sysModules < dn := Nat.lt_trans (Nat.lt_of_lt_of_le (Nat.lt_trans (by decide : sysModules < 3) h3) hab) (Nat.lt_of_succ_lt hLd)
        exact absurd h4 (by rw [e]; exact Nat.lt_irrefl _)
      · refine newsSmall N₃ q ?_
        simp only [List.mem_cons, List.mem_append, List.not_mem_nil, or_false] at hq ⊢
        rcases hq with rfl | rfl <;> simp
end
end Mine
end

section
open PySem PySem.W PySem.Calls PyProof.Rows
theorem Mine.off_C8 {M : Model} {A : Around} {E : Value → Shared → Prop} {s : Shared} {Q : Flow → Shared → Prop} {env : Env} (h : Q .next s) : wpAny M A (execs [] env) Q E s := by
  w_top off
  try walk1
  first
    | exact h
    | exact wpAny_execs_nil h
end
section
open PySem PySem.W PySem.Calls PyProof.Rows Builtin Builtin.ObjectAttr PyProof.Rows.LCt PyProof.Rows.LCg
namespace Mine

local macro_rules | `(tactic| k_room) => `(tactic| exact Nat.le_of_ble_eq_true rfl)

section
variable (w : World) (mean : ExcName → Option Value) (mg mb : Str → Option Value) (R RD D : Addr) (c : Int) (tc t1 t2 tk : Tok) (oD : Obj) (kvs : List (Str × Value)) (x : Str)

def ValIt (w : World) (oI : Obj) (D : Addr) (oD : Obj) (kvs : List (Str × Value)) : Prop := ∃ ep : Nat, oI.cls = .type "dict_valueiterator" ∧ oI.data = .fields #[.ref D, .int 0 0, .int kvs.length 0, .int ep 0] ∧ KdkAt (SK w) oD kvs ep

theorem con_iter (hD : oD.IsDictOf (SK w) kvs) (lo : (D == sysModules) = false) :
    Con 590 1900 w mean mg mb 133 [.ref R] (repL w R RD D c tc t1 t2 oD) (fun r sm => ∃ I oI, r = .ref I ∧ ValIt w oI D oD kvs ∧ @Ne Nat D I ∧ sm = (I, oI) :: repL w R RD D c tc t1 t2 oD) := by
  unfold Con repL
  k_fill
  intro envs base g s Rs B hk hz N X T hret
  refine enterP hk hz N X T (by k_is) (by k_is) (Nat.le_of_ble_eq_true rfl) (BindsTo.of_eq rfl) (locs rfl) (fun L' h₁ F' N' => ?_) rfl rfl rfl (by decide)
  k_steps
  obtain ⟨ep, ha⟩ := KdkAt.of hD
  refine call_function_entry (by decide +kernel) (by decide +kernel) kdk_entry_iter (kdk_args_iter _) ?_
  unfold Builtin.«iter»
  refine wpAny_bind (m := someArgs "iter" 1 2 _) (wpAny_of_eq (a := [Value.ref _]) (by first | rfl | kernel_rfl!) ?_)
  show wpAny _ _ (pyIter (.ref _) >>= _) _ _ _
  refine wpAny_bind (wpAny_pyIter_values (d := D) (knd := PySem.strKind _ _) (kvs := kvs) (ep := ep) ⟨_, (News.get (by k_asm) (List.Mem.head _)), rfl, rfl⟩ (ha.dictAt (News.get (by k_asm) (by k_mem))) ?_)
  rename_i F1 N1 l1
  refine wpAny_pure ⟨_, rfl, ?_⟩
  have hlt := Heap.lt_size (N1 (D, oD) (by simp)).1
  refine hret _ _ _ _ ⟨_, _, rfl, ⟨ep, rfl, rfl, ha⟩, Nat.ne_of_lt hlt, rfl⟩ (Fr.keep (F1.push _)) (newsSmall (News.push F1 (newsTail N1) _ rfl))

theorem srcW_valit {A : Around} {h₀ h : Heap} {m : Str → Option Value} {L I : Addr} {oI : Obj} {news : List (Addr × Obj)} (hh : A.handled = none) (hI : ValIt w oI D oD kvs) (hne : @Ne Nat D I) (N : News h₀ L h ((I, oI) :: news)) (hp : (D, oD) ∈ news)
    (off : ∀ p ∈ news, @Ne Nat p.1 I) (hsz : kvs.length ≤ sizeLine) : SrcW PySem.Challenge.rw_ez0369_01.row.prog w A h₀ L I kvs.length (fun i v => ∃ k, kvs[i]? = some (k, v)) (fun nw => (D, oD) ∈ nw) news h := by
  obtain ⟨ep, hc, hdat, ha⟩ := hI
  have hIg := N (I, oI) (.head _)
  refine ⟨[I, D], _, Walks.dictValues (knd := PySem.strKind _ _) hh I D hne kvs ep, hsz, ?_, ?_, ?_, ?_, Ne.symm hIg.2.1, hIg.2.2, off, hp⟩
  · rintro i h ⟨⟨o, e, _⟩, _⟩; exact ⟨o, e⟩
  · rintro i h h' o' nw ⟨⟨o₁, e₁, r₁⟩, _⟩ e e' hk N' hS
    rw [e] at e₁; cases e₁
    exact ⟨⟨_, e', r₁⟩, ha.dictAt (N' _ hS).1⟩
  · exact ⟨⟨_, hIg.1, hc, hdat⟩, ha.dictAt (N _ (.tail _ hp)).1⟩
  · intro b hb
    rcases List.mem_cons.mp hb with rfl | hb
    · exact Heap.lt_size hIg.1
    · rw [List.mem_singleton.mp hb]; exact Heap.lt_size (N _ (.tail _ hp)).1
end
end Mine
end

section
open PySem PySem.W PySem.Calls PyProof.Rows
theorem Mine.off_C9 {M : Model} {A : Around} {E : Value → Shared → Prop} {s : Shared} {Q : Flow → Shared → Prop} {env : Env} (h : Q .next s) : wpAny M A (execs [] env) Q E s := by
  w_top off
  try walk1
  first
    | exact h
    | exact wpAny_execs_nil h
end
section
open PySem PySem.W PySem.Calls PyProof.Rows Builtin Builtin.ObjectAttr PyProof.Rows.LCt PyProof.Rows.LCg
namespace Mine

local macro_rules | `(tactic| k_room) => `(tactic| exact Nat.le_of_ble_eq_true rfl)

structure MRec where
  (M MD MF kd : Addr) (t1 t2 : Tok) (oF : Obj) (fv : Value) (ti : Tok)

def modsL (w : World) (ms : List MRec) : List (Addr × Obj) := ms.flatMap fun r => modL w r.M r.MD r.MF r.kd r.t1 r.t2 r.oF
theorem modsL_mem {w : World} {ms : List MRec} {r : MRec} (h : r ∈ ms) {p : Addr × Obj} (hp : p ∈ modL w r.M r.MD r.MF r.kd r.t1 r.t2 r.oF) : p ∈ modsL w ms := List.mem_flatMap.mpr ⟨r, h, hp⟩
def ModOk (w : World) (r : MRec) (i : Int) : Prop := r.oF.IsDictOf (SK w) (modKvs r.fv i r.ti) ∧ (r.MF == sysModules) = false
def absR (ra : Int → Addr) (l : List (Str × Int)) : List (Str × Value) := l.map fun p => (p.1, .ref (ra p.2))
def ModsOk (w : World) (ra : Int → Addr) (ms : List MRec) (l : List (Str × Int)) : Prop := ∀ p ∈ l, ∃ r ∈ ms, ra p.2 = r.M ∧ ModOk w r p.2

theorem newsHead {g h : Heap} {L : Addr} {news extra : List (Addr × Obj)} (N : News g L h news) (hx : ∀ p ∈ extra, p ∈ news) : News g L h (extra ++ news) := fun q hq => (List.mem_append.mp hq).elim (fun e => N q (hx q e)) (N q)

theorem absR_get {ra : Int → Addr} {l : List (Str × Int)} {j : Nat} {k : Str} {v : Value} (h : (absR ra l)[j]? = some (k, v)) : ∃ i, l[j]? = some (k, i) ∧ v = .ref (ra i) := by
  unfold absR at h
  rw [List.getElem?_map] at h
  obtain ⟨p, hp, e⟩ := Option.map_eq_some_iff.mp h
  cases e
  exact ⟨p.2, hp, rfl⟩
theorem ints_of {l : List (Str × Int)} {ys : List Value} (h : F2 (fun v p => ∃ t, v = Value.int p.2 t) ys l) : IntsAre ys (l.map (·.2)) := by
  induction h with
  | nil => exact .nil
  | cons h1 _ ih => obtain ⟨t, rfl⟩ := h1; exact .cons _ t ih
theorem absR_isSome (ra : Int → Addr) (l : List (Str × Int)) (x : Str) : (valueAt (absR ra l) x).isSome = (l.any fun p => p.1 = x) := by
  unfold valueAt absR
  rw [Option.isSome_map, List.find?_map]
  simp [Function.comp_def]
  induction l with
  | nil => rfl
  | cons a l ih => by_cases e : a.1 = x <;> simp [e, ih]
theorem absO_isSome {kvs : List (Str × Value)} (x : Str) : (valueAt kvs x).isSome = ((absO kvs).any fun p => p.1 = x) := by
  unfold valueAt absO
  rw [Option.isSome_map]
  induction kvs with
  | nil => rfl
  | cons a l ih => by_cases e : a.1 = x <;> simp [e, ih]
theorem take_succ_get {α : Type} {l : List α} {j : Nat} {a : α} (h : l[j]? = some a) : l.take (j + 1) = l.take j ++ [a] := by rw [List.take_add_one, h]; rfl

section
variable {w : World} {A A₀ : Around} {E : Value → Shared → Prop} {s : Shared} {base h₀ : Heap} {L : Addr} {m : Str → Option Value} {outer : List Env} {env : Env} {small news : List (Addr × Obj)} {mean : ExcName → Option Value} {mg mb : Str → Option Value}
  {Q : Value → Shared → Prop} {R RD D : Addr} {c : Int} {tc t1 t2 tk : Tok} {oD : Obj} {kvs : List (Str × Value)} {x : Str}

theorem use_has {b : Bool} (B : Below A₀ base outer h₀) (F : Fr h₀ L s.heap m) (X : (hd.heap_39 w.params).In h₀) (N : News h₀ L s.heap news)
    (T : Top hd.view_39 (looseW hd.view_39 [Str.ofString "TextXObject"]) mean mg mb h₀)
    (hA : A.frames = some (env :: outer)) (hf : env.frame = some L) (hke : env.scope.kind = .function) (hh : A.handled = none) (hdp : A.depth ≤ 590) (hun : A.units ≤ 1900)
    (m1 : (R, instObj 157 RD) ∈ news) (m2 : (RD, dictOf (repEs w c tc D t1 t2) 2) ∈ news) (m3 : (D, oD) ∈ news)
    (hD : oD.IsDictOf (SK w) kvs) (lo : (D == sysModules) = false) (hb : (valueAt kvs x).isSome = b)
    (ret : ∀ h' tk', Fr h₀ L h' m → News h₀ L h' news → (∀ b o, s.heap.get? b = some o → h'.get? b = some o) → Q (.bool b) { s with heap := h', toks := tk' }) :
    wpAny (model PySem.Challenge.rw_ez0369_01.row.prog w) A (call (.ref 105) [.ref R, .str x tk]) Q E s := by
  refine Con.useRO (con_has w mean mg mb R RD D c tc t1 t2 tk oD kvs x hD lo) B F X N T hA hf hke hh hdp hun ?_ ?_
  · intro q hq
    simp only [List.mem_cons, List.not_mem_nil, or_false] at hq
    rcases hq with rfl | rfl | rfl <;> assumption
  · rintro v' h' tk' rfl F' N' hall
    exact hb ▸ ret h' tk' F' N' hall

theorem use_contains {b : Bool} (B : Below A₀ base outer h₀) (F : Fr h₀ L s.heap m) (X : (hd.heap_39 w.params).In h₀) (N : News h₀ L s.heap news)
    (T : Top hd.view_39 (looseW hd.view_39 [Str.ofString "TextXObject"]) mean mg mb h₀)
    (hA : A.frames = some (env :: outer)) (hf : env.frame = some L) (hke : env.scope.kind = .function) (hh : A.handled = none) (hdp : A.depth ≤ 580) (hun : A.units ≤ 1800)
    (m1 : (R, instObj 157 RD) ∈ news) (m2 : (RD, dictOf (repEs w c tc D t1 t2) 2) ∈ news) (m3 : (D, oD) ∈ news)
    (hD : oD.IsDictOf (SK w) kvs) (lo : (D == sysModules) = false) (hb : (valueAt kvs x).isSome = b)
    (ret : ∀ h' tk', Fr h₀ L h' m → News h₀ L h' news → (∀ b o, s.heap.get? b = some o → h'.get? b = some o) → Q (.bool b) { s with heap := h', toks := tk' }) :
    wpAny (model PySem.Challenge.rw_ez0369_01.row.prog w) A (call (.ref 126) [.ref R, .str x tk]) Q E s := by
  refine Con.useRO (con_contains w mean mg mb R RD D c tc t1 t2 tk oD kvs x hD lo) B F X N T hA hf hke hh hdp hun ?_ ?_
  · intro q hq
    simp only [List.mem_cons, List.not_mem_nil, or_false] at hq
    rcases hq with rfl | rfl | rfl <;> assumption
  · rintro v' h' tk' rfl F' N' hall
    exact hb ▸ ret h' tk' F' N' hall

theorem use_getitem {v : Value} (B : Below A₀ base outer h₀) (F : Fr h₀ L s.heap m) (X : (hd.heap_39 w.params).In h₀) (N : News h₀ L s.heap news)
    (T : Top hd.view_39 (looseW hd.view_39 [Str.ofString "TextXObject"]) mean mg mb h₀)
    (hA : A.frames = some (env :: outer)) (hf : env.frame = some L) (hke : env.scope.kind = .function) (hh : A.handled = none) (hdp : A.depth ≤ 590) (hun : A.units ≤ 1900)
    (m1 : (R, instObj 157 RD) ∈ news) (m2 : (RD, dictOf (repEs w c tc D t1 t2) 2) ∈ news) (m3 : (D, oD) ∈ news)
    (hD : oD.IsDictOf (SK w) kvs) (hb : valueAt kvs x = some v)
    (ret : ∀ h' tk', Fr h₀ L h' m → News h₀ L h' news → (∀ b o, s.heap.get? b = some o → h'.get? b = some o) → Q v { s with heap := h', toks := tk' }) :
    wpAny (model PySem.Challenge.rw_ez0369_01.row.prog w) A (call (.ref 147) [.ref R, .str x tk]) Q E s := by
  refine Con.useRO (con_getitem w mean mg mb R RD D c tc t1 t2 tk oD kvs x hD hb) B F X N T hA hf hke hh hdp hun ?_ ?_
  · intro q hq
    simp only [List.mem_cons, List.not_mem_nil, or_false] at hq
    rcases hq with rfl | rfl | rfl <;> assumption
  · rintro v' h' tk' rfl F' N' hall
    exact ret h' tk' F' N' hall

theorem use_len (B : Below A₀ base outer h₀) (F : Fr h₀ L s.heap m) (X : (hd.heap_39 w.params).In h₀) (N : News h₀ L s.heap news)
    (T : Top hd.view_39 (looseW hd.view_39 [Str.ofString "TextXObject"]) mean mg mb h₀)
    (hA : A.frames = some (env :: outer)) (hf : env.frame = some L) (hke : env.scope.kind = .function) (hh : A.handled = none) (hdp : A.depth ≤ 590) (hun : A.units ≤ 1900)
    (m1 : (R, instObj 157 RD) ∈ news) (m2 : (RD, dictOf (repEs w c tc D t1 t2) 2) ∈ news) (m3 : (D, oD) ∈ news)
    (hD : oD.IsDictOf (SK w) kvs) (lo : (D == sysModules) = false) (hl : kvs.length ≤ 16777216)
    (ret : ∀ t h' tk', Fr h₀ L h' m → News h₀ L h' news → (∀ b o, s.heap.get? b = some o → h'.get? b = some o) → Q (.int kvs.length t) { s with heap := h', toks := tk' }) :
    wpAny (model PySem.Challenge.rw_ez0369_01.row.prog w) A (call (.ref 140) [.ref R]) Q E s := by
  refine Con.useRO (con_len w mean mg mb R RD D c tc t1 t2 oD kvs hD lo hl) B F X N T hA hf hke hh hdp hun ?_ ?_
  · intro q hq
    simp only [List.mem_cons, List.not_mem_nil, or_false] at hq
    rcases hq with rfl | rfl | rfl <;> assumption
  · rintro v' h' tk' ⟨t, rfl⟩ F' N' hall
    exact ret t h' tk' F' N' hall

theorem iter_shelf (B : Below A₀ base outer h₀) (F : Fr h₀ L s.heap m) (X : (hd.heap_39 w.params).In h₀) (N : News h₀ L s.heap news)
    (T : Top hd.view_39 (looseW hd.view_39 [Str.ofString "TextXObject"]) mean mg mb h₀)
    (hA : A.frames = some (env :: outer)) (hf : env.frame = some L) (hke : env.scope.kind = .function) (hh : A.handled = none) (hdp : A.depth ≤ 590) (hun : A.units ≤ 1900)
    (m1 : (R, instObj 157 RD) ∈ news) (m2 : (RD, dictOf (repEs w c tc D t1 t2) 2) ∈ news) (m3 : (D, oD) ∈ news)
    (hD : oD.IsDictOf (SK w) kvs) (lo : (D == sysModules) = false) (hsz : kvs.length ≤ sizeLine)
    (hs : findIn (hd.heap_39 w.params) (.ref 157) "__iter__" = some (some (.ref 133))) (hfn : isFn (hd.heap_39 w.params) (.ref 133) = true)
    (ret : ∀ I h' tk', Fr h₀ L h' m → News h₀ L h' news → (∀ b o, s.heap.get? b = some o → h'.get? b = some o) → SrcW PySem.Challenge.rw_ez0369_01.row.prog w A h₀ L I kvs.length (fun i v => ∃ k, kvs[i]? = some (k, v)) (fun nw => (D, oD) ∈ nw) news h' →
      (∃ oI, News h₀ L h' ((I, oI) :: news) ∧ ValIt w oI D oD kvs ∧ @Ne Nat D I) → (∀ p ∈ news, p.1 ≠ I) → Q (.ref I) { s with heap := h', toks := tk' }) :
    wpAny (model PySem.Challenge.rw_ez0369_01.row.prog w) A (pyIter (.ref R)) Q E s := by
  refine owit_iter F X (InstAt.of_news N m1 m2) hs hfn ?_
  have hsm : ∀ q ∈ repL w R RD D c tc t1 t2 oD, q ∈ news := by
    intro q hq
    simp only [List.mem_cons, List.not_mem_nil, or_false] at hq
    rcases hq with rfl | rfl | rfl <;> assumption
  refine Con.use (con_iter w mean mg mb R RD D c tc t1 t2 oD kvs hD lo) B F X N T hA hf hke hh hdp hun hsm ?_
  rintro v sm h' tk' ⟨I, oI, rfl, hI, hne, rfl⟩ F' N' hk hfr
  have hall : ∀ b o, s.heap.get? b = some o → h'.get? b = some o := by
    intro b o e
    by_cases hb : b ∈ (repL w R RD D c tc t1 t2 oD).map (·.1)
    · obtain ⟨p, hp, rfl⟩ := List.mem_map.mp hb
      have h1 := (N p (hsm p hp)).1
      rw [e] at h1; cases h1
      exact (N' p (.tail _ hp)).1
    · exact hk b o hb e
  have hin : I ∉ (repL w R RD D c tc t1 t2 oD).map (·.1) → s.heap.get? I = none := fun e => hfr (I, oI) (.head _) e
  have hnin : I ∉ (repL w R RD D c tc t1 t2 oD).map (·.1) := by
    intro q
    obtain ⟨p, hp, e⟩ := List.mem_map.mp q
    have h1 := (N' p (.tail _ hp)).1
    have h2 := (N' (I, oI) (.head _)).1
    rw [e] at h1
    have e1 : p.2 = oI := by rw [h1] at h2; exact Option.some.inj h2
    obtain ⟨ep, hc, hdat, -⟩ := hI
    simp only [List.mem_cons, List.not_mem_nil, or_false] at hp
    rcases hp with rfl | rfl | rfl
    · subst e1; cases hc
    · subst e1; exact absurd (Value.type.inj hc) (by decide)
    · exact hne e
  have hnone := hin hnin
  have NN : News h₀ L h' ((I, oI) :: news) := fun q hq => (List.mem_cons.mp hq).elim (fun e => e ▸ N' (I, oI) (.head _)) fun hq => ⟨hall _ _ (N q hq).1, (N q hq).2⟩
  have off : ∀ p ∈ news, p.1 ≠ I := fun p hp e => by have := (N p hp).1; rw [e, hnone] at this; cases this
  unfold OwitIt
  obtain ⟨ep, hc, hdat, ha⟩ := id hI
  have hT : ({ s with heap := h', toks := tk' } : Shared).TypeIs (.ref I) "dict_valueiterator" := ⟨oI, (N' (I, oI) (.head _)).1, hc⟩
  refine wpAny_specialOf hT PySem.F.slot_dict_valueiterator_next.lookup ?_
  show Q _ _
  exact ret I h' tk' F' (fun q hq => NN q (.tail _ hq)) hall (srcW_valit (m := m) w D oD kvs hh hI hne NN m3 off hsz) ⟨oI, NN, hI, hne⟩ off
end
end Mine
end

section
open PySem PySem.W PySem.Calls PyProof.Rows
theorem Mine.off_C10 {M : Model} {A : Around} {E : Value → Shared → Prop} {s : Shared} {Q : Flow → Shared → Prop} {env : Env} (h : Q .next s) : wpAny M A (execs [] env) Q E s := by
  w_top off
  try walk1
  first
    | exact h
    | exact wpAny_execs_nil h
end
section
open PySem PySem.W PySem.Calls PyProof.Rows Builtin Builtin.ObjectAttr PyProof.Rows.LCt PyProof.Rows.LCg
namespace Mine

local macro_rules | `(tactic| k_room) => `(tactic| exact Nat.le_of_ble_eq_true rfl)
local macro_rules | `(tactic| walk_at "call ref") => `(tactic| (k_here; k_dflt (refine' use_has ?B ?F ?X ?N ?T ?hA ?hf ?hke ?hh ?hdp ?hun ?m1 ?m2 ?m3 ?hD ?lo ?hb ?_; (case hA => exact rfl); (case hf => exact rfl); (case hke => exact rfl); (case hh => exact rfl); (case hdp => exact Nat.le_of_ble_eq_true rfl); (case hun => exact Nat.le_of_ble_eq_true rfl); (case B => k_asm); (case F => k_asm); (case X => k_asm); (case N => k_asm); (case T => k_asm); (case m1 => k_mem); (case m2 => k_mem); (case m3 => k_mem); (case hD => assumption); (case lo => assumption); (case hb => assumption); k_whole); intro  h' tk' F' N' keep'; (try dsimp only at keep'); (try dsimp only); (try k_sweep)))
local macro_rules | `(tactic| walk_at "call ref") => `(tactic| (k_here; k_dflt (refine' use_contains ?B ?F ?X ?N ?T ?hA ?hf ?hke ?hh ?hdp ?hun ?m1 ?m2 ?m3 ?hD ?lo ?hb ?_; (case hA => exact rfl); (case hf => exact rfl); (case hke => exact rfl); (case hh => exact rfl); (case hdp => exact Nat.le_of_ble_eq_true rfl); (case hun => exact Nat.le_of_ble_eq_true rfl); (case B => k_asm); (case F => k_asm); (case X => k_asm); (case N => k_asm); (case T => k_asm); (case m1 => k_mem); (case m2 => k_mem); (case m3 => k_mem); (case hD => assumption); (case lo => assumption); (case hb => assumption); k_whole); intro  h' tk' F' N' keep'; (try dsimp only at keep'); (try dsimp only); (try k_sweep)))
local macro_rules | `(tactic| walk_at "call ref") => `(tactic| (k_here; k_dflt (refine' use_getitem ?B ?F ?X ?N ?T ?hA ?hf ?hke ?hh ?hdp ?hun ?m1 ?m2 ?m3 ?hD ?hb ?_; (case hA => exact rfl); (case hf => exact rfl); (case hke => exact rfl); (case hh => exact rfl); (case hdp => exact Nat.le_of_ble_eq_true rfl); (case hun => exact Nat.le_of_ble_eq_true rfl); (case B => k_asm); (case F => k_asm); (case X => k_asm); (case N => k_asm); (case T => k_asm); (case m1 => k_mem); (case m2 => k_mem); (case m3 => k_mem); (case hD => assumption); (case hb => assumption); k_whole); intro  h' tk' F' N' keep'; (try dsimp only at keep'); (try dsimp only); (try k_sweep)))
local macro_rules | `(tactic| walk_at "call ref") => `(tactic| (k_here; k_dflt (refine' use_len ?B ?F ?X ?N ?T ?hA ?hf ?hke ?hh ?hdp ?hun ?m1 ?m2 ?m3 ?hD ?lo ?hl ?_; (case hA => exact rfl); (case hf => exact rfl); (case hke => exact rfl); (case hh => exact rfl); (case hdp => exact Nat.le_of_ble_eq_true rfl); (case hun => exact Nat.le_of_ble_eq_true rfl); (case B => k_asm); (case F => k_asm); (case X => k_asm); (case N => k_asm); (case T => k_asm); (case m1 => k_mem); (case m2 => k_mem); (case m3 => k_mem); (case hD => assumption); (case lo => assumption); (case hl => assumption); k_whole); intro tl h' tk' F' N' keep'; (try dsimp only at keep'); (try dsimp only); (try k_sweep)))
local macro_rules | `(tactic| walk_at "getAttr ref") => `(tactic| (k_here; k_dflt (refine' attr_hit ?B ?F ?X ?N ?T ?hA ?hf ?hke ?hh ?hdp ?hun ?m1 ?m2 ?m3 ?hF ?hv ?lo ?hga ?hk ?ht ?hdc ?ha ?hc ?hl ?hh2 ?_; (case hA => exact rfl); (case hf => exact rfl); (case hke => exact rfl); (case hh => exact rfl); (case hdp => exact Nat.le_of_ble_eq_true rfl); (case hun => exact Nat.le_of_ble_eq_true rfl); (case B => k_asm); (case F => k_asm); (case X => k_asm); (case N => k_asm); (case T => k_asm); (case m1 => k_mem); (case m2 => k_mem); (case m3 => k_mem); (case hF => assumption); (case hv => assumption); (case lo => assumption); (case hga => k_is); (case hk => k_is); (case ht => k_is); (case hdc => k_is); (case ha => k_is); (case hc => decide +kernel); (case hl => k_get); (case hh2 => k_handed); k_whole); intro h' tk' F' N' keep'; (try dsimp only at keep'); (try dsimp only); (try k_sweep)))

section
variable {prog : Program} {w : World} {A : Around} {E : Value → Shared → Prop} {s : Shared} {h₀ : Heap} {m : Str → Option Value} {news : List (Addr × Obj)} {env : Env}
theorem tup_loop {x : Str} {body : List Stmt} {T : Addr} {items : Array Value} {Q : Flow → Shared → Prop} (hh : A.handled = none) (F : Fr h₀ env.locals s.heap m) (N : News h₀ env.locals s.heap news) (ht : s.heap.IsTuple T items) (hTl : T ≠ env.locals)
    (step : ∀ (i : Nat) (v : Value) (s₁ : Shared) (own : List (Addr × Obj)), items[i]? = some v → Fr h₀ env.locals s₁.heap (fun y => if y = x then some v else m y) → News h₀ env.locals s₁.heap (own ++ news) →
      wpAny (model prog w) A (execs body env) (LoopStep h₀ env.locals (own ++ news) (fun m' => ∀ z, z ≠ x → m' z = m z) s₁) E s₁)
    (done : ∀ h' tk u, Fr h₀ env.locals h' (fun z => if z = x then u else m z) → News h₀ env.locals h' news → Q .next { s with heap := h', toks := tk }) :
    wpAny (model prog w) A (pyIter (.ref T)) (fun it s₂ => LoopAt prog w A h₀ env x body Q E it s₂) E s := by
  refine wpAny_pyIter_tuple ht ?_
  have hlt : T < s.heap.objs.size := by obtain ⟨o, e, _⟩ := ht; exact Heap.lt_size e
  have up : ∀ b ob, s.heap.get? b = some ob → (s.heap.push { cls := .type "tuple_iterator", data := .fields #[.ref T, .int 0 0] }).get? b = some ob := fun b ob e => Heap.get?_push_of_some _ e
  refine ⟨s.heap.objs.size, _, _, _, _, _, m, news, fun _ m' => ∀ z, z ≠ x → m' z = m z, rfl, Walks.tuple hh s.heap.objs.size T (Nat.ne_of_lt hlt) items, ?_, ?_, ?_, ?_, F.keeps up, N.grown up, fun _ _ => rfl, ?_, ?_⟩
  · intro q
    rcases List.mem_cons.mp q with q | q
    · exact Nat.ne_of_lt F.ns.lt q
    · exact hTl (List.mem_singleton.mp q).symm
  · intro b hb; rw [List.mem_singleton.mp hb]; exact next_is_new F
  · intro p hp hb
    exact Nat.ne_of_lt (Heap.lt_size (N p hp).1) (List.mem_singleton.mp hb)
  · exact ⟨⟨_, Heap.get?_push_size _ rfl, rfl, rfl⟩, let ⟨o, e, r⟩ := ht; ⟨o, up _ _ e, r⟩⟩
  · intro i v m₁ s₁ own hi hx hm F₁ N₁
    refine step i v s₁ own hx ?_ N₁
    have e : (fun y => if y = x then some v else m₁ y) = fun y => if y = x then some v else m y := by
      funext y
      by_cases e : y = x
      · simp [e]
      · simp [e, hm y e]
    exact e ▸ F₁
  · intro h' tk m' F₁ N₁ hm
    refine done h' tk (m' x) ?_ N₁
    have e : m' = fun z => if z = x then m' x else m z := by
      funext y
      by_cases e : y = x
      · simp [e]
      · simp [e, hm y e]
    exact e ▸ F₁
end

theorem newsMid {g h : Heap} {L : Addr} {own news extra : List (Addr × Obj)} (N : News g L h (own ++ news)) (hx : ∀ p ∈ extra, p ∈ news) : News g L h (own ++ (extra ++ news)) := fun q hq =>
  (List.mem_append.mp hq).elim (fun e => N q (List.mem_append_left _ e)) fun e => (List.mem_append.mp e).elim (fun e => N q (List.mem_append_right _ (hx q e))) fun e => N q (List.mem_append_right _ e)
theorem newsMid' {g h : Heap} {L : Addr} {own news extra : List (Addr × Obj)} (N : News g L h (own ++ (extra ++ news))) : News g L h (own ++ news) := fun q hq =>
  (List.mem_append.mp hq).elim (fun e => N q (List.mem_append_left _ e)) fun e => N q (List.mem_append_right _ (List.mem_append_right _ e))

section
variable (w : World) (mean : ExcName → Option Value) (mg mb : Str → Option Value) (R RD D O : Addr) (c : Int) (tc t1 t2 tk : Tok) (oD oO : Obj) (kvsO : List (Str × Value)) (ra : Int → Addr) (l : List (Str × Int)) (ms : List MRec)

theorem con_told (hD : oD.IsDictOf (SK w) (absR ra l)) (hO : oO.IsDictOf (SK w) kvsO) (hok : OwnOk kvsO) (hab : absO kvsO = l) (hlen : l.length ≤ 1000) (lo : (D == sysModules) = false) (lo2 : (O == sysModules) = false)
    (hms : ModsOk w ra ms l) :
    Con 570 1700 w mean mg mb 221 [.ref R, .ref O] (repL w R RD D c tc t1 t2 oD ++ (O, oO) :: modsL w ms) (fun r sm => r = .bool true ∧ sm = repL w R RD D c tc t1 t2 oD ++ (O, oO) :: modsL w ms) := by
  unfold Con repL
  k_fill
  intro envs base g s Rs B hk hz N X T hret
  refine enterC hk hz N X T (by k_is) (by k_is) (Nat.le_of_ble_eq_true rfl) (BindsTo.of_eq rfl) rfl (by decide +kernel) (fun L' h₁ tk cells F' N' Y' l1 => ?_) rfl rfl rfl
  (try k_lt l1)
  k_cells Y'
  (try simp only [List.cons_append, List.nil_append] at N' hret)
  (try dsimp only)
  have hlenR : (absR ra l).length = l.length := by simp [absR]
  have hlenO : kvsO.length = l.length := by rw [← hab]; simp [absO]
  have hlR : (absR ra l).length ≤ 16777216 := by omega
  have hlO : kvsO.length ≤ sizeLine := by rw [sizeLine_eq]; omega
  have hlRs : (absR ra l).length ≤ sizeLine := by rw [sizeLine_eq]; omega
  k_steps
  obtain ⟨epO, haO⟩ := KdkAt.of hO
  refine kdl_N (kdl_dict (knd := PySem.strKind _ _) (kvs := kvsO) (ep := epO) lo2) rfl (by k_asm) (by k_asm) (haO.dictAt (News.get (by k_asm) (by k_mem))) hlO ?_
  intro Dn cn h2 tk2 vs F2' N2 lt2 hvl hvs
  iterate 6 walk1
  refine ListComp_W0 (by k_asm) (by k_asm) (fun j ys own => F2 (fun v p => ∃ t, v = Value.int p.2 t) ys (l.take j) ∧ own = []) (by with_unfolding_all rfl) (by decide) (by rfl) (by decide) (by rfl) ?_
  iterate 1 walk1
  refine iter_shelf (A₀ := At 570 1700 envs) B (by k_asm) X (by k_asm) T (by exact rfl) (by exact rfl) (by exact rfl) (by exact rfl) (Nat.le_of_ble_eq_true rfl) (Nat.le_of_ble_eq_true rfl) (by k_mem) (by k_mem) (by k_mem) hD lo hlRs (by k_is) (by k_is) ?_
  intro I h' tk' F₁ N₁ hall hsrc _ _
  refine ⟨I, _, _, _, rfl, F₁, N₁, hsrc, ⟨.nil, rfl⟩, ?_, ?_⟩
  · rintro j ys own v I oI C oC D1 m₂ h tk E' hj ⟨hJ, rfl⟩ ⟨k, hkx⟩ hC hx F₂ N₂ off ne
    obtain ⟨i, hi, rfl⟩ := absR_get hkx
    obtain ⟨r, hr, hra, hF, loF⟩ := hms _ (List.mem_of_getElem? hi)
    dsimp only at hra hF
    rw [hra] at hx
    have hv : valueAt (modKvs r.fv i r.ti) (Str.ofString "at") = some (.int i r.ti) := rfl
    have N₃ := newsHead (extra := modL w r.M r.MD r.MF r.kd r.t1 r.t2 r.oF) N₂ (fun p hp => by
      have := modsL_mem hr hp
      simp only [List.mem_cons, List.mem_append, List.not_mem_nil, or_false] at this ⊢; grind)
    clear N₂
    dsimp only [modL, List.cons_append, List.nil_append] at N₃ off
    k_steps
    refine CompEnd.intro (by k_asm) (newsTail (newsTail (newsTail (by k_asm)))) _ (fun p hp => hp) off (by k_mem) ⟨[], rfl, ?_, rfl⟩
    rw [take_succ_get hi]
    exact hJ.snoc ⟨r.ti, rfl⟩
  · rintro ys D1 h₂ tk₂ own ⟨hJ, rfl⟩ F₂ N₂ off
    rw [hlenR, List.take_length] at hJ
    dsimp only [List.nil_append] at N₂ off
    simp only [LCg.Off1, and_true] at off
    dsimp only [LCg.lst] at N₂
    have hvs' : ∀ (j : Nat) (v : Value), vs[j]? = some v → ∃ k n, l[j]? = some (k, n) ∧ ∃ t, v = .str k t := by
      intro j v e
      obtain ⟨k, x, e1, e2⟩ := hvs j v e
      obtain ⟨n, tn, e3⟩ := hok _ (List.mem_of_getElem? e1)
      dsimp only at e3
      subst e3
      exact ⟨k, n, hab ▸ absO_get e1, strKey e2⟩
    refine ListComp_W0 (by k_asm) (by k_asm) (fun j ys own => F2 (fun v p => ∃ t, v = Value.int p.2 t) ys (l.take j) ∧ own = []) (by with_unfolding_all rfl) (by decide) (by rfl) (by decide) (by rfl) ?_
    iterate 1 walk1
    refine pyIter_lst (vs := vs) (n := cn) rfl (by k_asm) (by k_asm) (by k_mem) (by rw [hvl]; exact hlO) ?_
    intro I h' F₁ N₁ hsrc
    refine ⟨I, _, _, _, rfl, F₁, N₁, hsrc, ⟨.nil, rfl⟩, ?_, ?_⟩
    · rintro j zs own v I oI C oC D2 m₂ h tk E' hj ⟨hJ2, rfl⟩ hkx hC hx F₂ N₂ off ne
      obtain ⟨k, n, e1, t, rfl⟩ := hvs' _ _ hkx
      obtain ⟨p, hp, rfl, rfl⟩ : ∃ p ∈ kvsO, p.1 = k ∧ intOf p.2 = n := by
        have := List.mem_of_getElem? e1
        rw [← hab] at this
        obtain ⟨p, hp, e⟩ := List.mem_map.mp this
        cases e; exact ⟨p, hp, rfl, rfl⟩
      have hval := valueAt_get (nodup_of hO) hp
      obtain ⟨n, tn, hn⟩ := hok _ hp
      rw [hn] at hval e1
      k_steps
      refine kdt_tail (by k_asm) (by k_mem) hO ?_
      refine kdt_getItem (knd := PySem.strKind _ _) (by k_asm) (by k_mem) hO (strKind_is _ _ _ _) hval ?_
      k_steps
      refine CompEnd.intro (by k_asm) (by k_asm) _ (fun p hp => hp) off (by k_mem) ⟨[], rfl, ?_, rfl⟩
      rw [take_succ_get e1]
      exact hJ2.snoc ⟨tn, rfl⟩
    · rintro zs D2 h₂ tk₂ own ⟨hJ2, rfl⟩ F₂ N₂ off
      rw [hvl, hlenO, List.take_length] at hJ2
      dsimp only [List.nil_append] at N₂ off
      simp only [LCg.Off1, and_true] at off
      dsimp only [LCg.lst] at N₂
      have i1 := ints_of hJ
      have i2 := ints_of hJ2
      have hvlen : vs.length = l.length := by omega
      have hvl2 : (vs.toArray.size : Int) = (l.length : Int) := by rw [List.size_toArray, hvlen]
      have hz1 : (l.length : Int) ≤ 16384 := by omega
      k_steps
      rw [hlenR]
      refine ⟨⟨by omega, by omega⟩, ?_⟩
      iterate 8 walk1
      rw [show ((l.length : Int) != (vs.toArray.size : Int)) = false from by rw [hvl2]; simp]
      iterate 7 walk1
      refine For_inv g rfl rfl ?_
      k_steps
      refine tup_loop rfl (by k_asm) (by k_asm) (News.isTup (by k_asm) (by k_mem)) (fun q => (News.ne (by k_asm) (by k_mem)) q) ?_ ?_
      · intro i v s₁ own hx F₁ N₁
        obtain ⟨x, t, rfl⟩ : ∃ x t, v = Value.str x t := by
          have := Array.mem_of_getElem? hx
          simp only [List.mem_toArray, List.mem_cons, List.not_mem_nil, or_false] at this
          rcases this with rfl | rfl | rfl | rfl | rfl <;> exact ⟨_, _, rfl⟩
        have eqS : (valueAt (absR ra l) x).isSome = (valueAt kvsO x).isSome := by rw [absR_isSome, absO_isSome, hab]
        cases hvo : valueAt kvsO x with
        | none =>
          have hb1 : (valueAt kvsO x).isSome = false := by rw [hvo]; rfl
          have hb2 : (valueAt (absR ra l) x).isSome = false := eqS.trans hb1
          iterate 4 (k_steps; (try refine kda_in (knd := PySem.strKind _ _) (by k_asm) (by k_mem) hO lo2 (strKind_is _ _ _ _) _ hb1 ?_))
          rename_i z hz
          exact if_neg hz
        | some u =>
          have hb1 : (valueAt kvsO x).isSome = true := by rw [hvo]; rfl
          have hb2 : (valueAt (absR ra l) x).isSome = true := eqS.trans hb1
          obtain ⟨i, hi, hvr, n, tn, rfl, rfl⟩ : ∃ i, (x, i) ∈ l ∧ valueAt (absR ra l) x = some (.ref (ra i)) ∧ ∃ n tn, u = .int n tn ∧ n = i := by
            obtain ⟨p, hp, e⟩ : ∃ p ∈ kvsO, p.1 = x ∧ p.2 = u := by
              unfold valueAt at hvo
              obtain ⟨p, hp, e⟩ := Option.map_eq_some_iff.mp hvo
              exact ⟨p, List.mem_of_find?_eq_some hp, by simpa using List.find?_some hp, e⟩
            obtain ⟨n, tn, hn⟩ := hok _ hp
            have hi : (x, n) ∈ l := by
              rw [← hab]
              refine List.mem_map.mpr ⟨p, hp, ?_⟩
              rw [hn, e.1]; rfl
            refine ⟨n, hi, ?_, n, tn, e.2 ▸ hn, rfl⟩
            have h1 := nodup_of hD
            exact valueAt_get h1 (p := (x, Value.ref (ra n))) (List.mem_map.mpr ⟨_, hi, rfl⟩)
          obtain ⟨r, hr, hra, hF, loF⟩ := hms _ hi
          dsimp only at hra hF
          rw [hra] at hvr
          have hv : valueAt (modKvs r.fv n r.ti) (Str.ofString "at") = some (.int n r.ti) := rfl
          replace N₁ : News g L' s₁.heap (own ++ (modL w r.M r.MD r.MF r.kd r.t1 r.t2 r.oF ++ _)) := newsMid N₁ (fun p hp => by
            have := modsL_mem hr hp
            simp only [List.mem_cons, List.mem_append, List.not_mem_nil, or_false] at this ⊢; grind)
          dsimp only [modL, List.cons_append, List.nil_append] at N₁
          iterate 4 (k_steps; (try refine kda_in (knd := PySem.strKind _ _) (by k_asm) (by k_mem) hO lo2 (strKind_is _ _ _ _) _ hb1 ?_))
          refine kdt_tail (by k_asm) (by k_mem) hO ?_
          refine kdt_getItem (knd := PySem.strKind _ _) (by k_asm) (by k_mem) hO (strKind_is _ _ _ _) hvo ?_
          k_steps
          all_goals first
            | (rename_i z hz; exact if_neg hz)
            | (rename_i q; simp at q; done)
            | exact LoopStep.intro (by k_asm) (newsMid' (extra := [_, _, _]) (by k_asm)) (fun z hz => if_neg hz)
      · intro h' tk u F₁ N₁
        k_steps
        exact hret _ _ _ _ ⟨rfl, rfl⟩ (Fr.keep (by k_asm)) (newsSmall (newsTail (newsTail (newsTail (newsTail (newsTail (by k_asm)))))))
end
end Mine
end

section
open PySem PySem.W PySem.Calls PyProof.Rows
theorem Mine.off_C11 {M : Model} {A : Around} {E : Value → Shared → Prop} {s : Shared} {Q : Flow → Shared → Prop} {env : Env} (h : Q .next s) : wpAny M A (execs [] env) Q E s := by
  w_top off
  try walk1
  first
    | exact h
    | exact wpAny_execs_nil h
end
section
open PySem PySem.W PySem.Calls PyProof.Rows Builtin Builtin.ObjectAttr PyProof.Rows.LCt PyProof.Rows.LCg
namespace Mine
namespace Mine

local macro_rules | `(tactic| k_room) => `(tactic| exact Nat.le_of_ble_eq_true rfl)

def ConG (pre : Heap) (dp un : Nat) (w : World) (mean : ExcName → Option Value) (mg mb : Str → Option Value) (f : Addr) (args : List Value) (small : List (Addr × Obj)) (Post : Value → List (Addr × Obj) → Prop) : Prop :=
  ∀ (envs : List Env) (base g : Heap) (s : Shared) (R : Result → Shared → Prop),
    Below (At dp un envs) base envs g → (∀ b o, g.get? b = some o → s.heap.get? b = some o) → g.objs.size ≤ s.heap.objs.size → Small g s.heap small →
    (hd.heap_39 w.params).In g → Top hd.view_39 (looseW hd.view_39 [Str.ofString "TextXObject"]) mean mg mb g → (∀ b o, pre.get? b = some o → g.get? b = some o) →
    (∀ v small' h' tk', Post v small' → (∀ b o, g.get? b = some o → h'.get? b = some o) → Small g h' small' → R (.ok (.ret v)) { s with heap := h', toks := tk' }) →
    codeAny (model PySem.Challenge.rw_ez0369_01.row.prog w) (At dp un envs) (.call (.ref f) ⟨args, []⟩) R s

section
variable {w : World} {A A₀ : Around} {E : Value → Shared → Prop} {s : Shared} {base h₀ pre : Heap} {L : Addr} {m : Str → Option Value} {outer : List Env} {env : Env} {small news : List (Addr × Obj)} {mean : ExcName → Option Value} {mg mb : Str → Option Value}
  {f : Addr} {args : List Value} {Post : Value → List (Addr × Obj) → Prop} {P : Value → Prop} {dp un : Nat} {Q : Value → Shared → Prop}

theorem ConG.use0 (C : ConG pre dp un w mean mg mb f args [] (fun v sm => P v ∧ sm = [])) (B : Below A₀ base outer h₀) (F : Fr h₀ L s.heap m) (X : (hd.heap_39 w.params).In h₀) (N : News h₀ L s.heap news)
    (T : Top hd.view_39 (looseW hd.view_39 [Str.ofString "TextXObject"]) mean mg mb h₀) (hpre : ∀ b o, pre.get? b = some o → h₀.get? b = some o)
    (hA : A.frames = some (env :: outer)) (hf : env.frame = some L) (hke : env.scope.kind = .function) (hh : A.handled = none) (hdp : A.depth ≤ dp) (hun : A.units ≤ un)
    (ret : ∀ v h' tk', P v → Fr h₀ L h' m → News h₀ L h' news → (∀ b o, s.heap.get? b = some o → h'.get? b = some o) → Q v { s with heap := h', toks := tk' }) :
    wpAny (model PySem.Challenge.rw_ez0369_01.row.prog w) A (call (.ref f) args) Q E s := by
  refine wpAny_call ?_
  obtain ⟨FG, BG, st, -⟩ := groundX (R := fun _ _ => True) B F (news := []) (fun q hq => nomatch hq) hA hf hke
  have BG' : Below (At dp un (env :: outer)) base (env :: outer) (hideAll s.heap (([] : List (Addr × Obj)).map (·.1))) := ⟨rfl, BG.stays, BG.frames⟩
  refine codeAny_deepen (C (env :: outer) base _ s _ BG' (fun b o e => of_hideAll _ e) (Nat.le_of_eq (hideAll_size _ _)) (fun q hq => nomatch hq) (X.keeps st) (T.keeps st) (fun b o e => st b o (hpre b o e)) ?_) hh.symm hdp hA.symm rfl hun
  rintro v small' h' tk' ⟨hp, rfl⟩ hk' hs'
  have keep : ∀ b o, s.heap.get? b = some o → h'.get? b = some o := fun b o e => hk' b o (hideAll_get _ e (by simp))
  exact ret v h' tk' hp (F.keeps keep) (N.grown keep) keep
end

section
variable (w : World) (mean : ExcName → Option Value) (mg mb : Str → Option Value) (S : Addr) (vs : List Value) (ns : List Int) (a : Int) (ta : Tok) (pre : Heap)
theorem con_cell (hL : pre.IsList S vs.toArray) (hI : IntsAre vs ns) (h63 : ns.length ≤ 63) (ha : 0 ≤ a) (ha2 : a ≤ 1000) :
    ConG pre 590 1900 w mean mg mb 211 [.ref S, .int a ta] [] (fun r sm => (∃ n t, r = .int n t ∧ 0 ≤ n ∧ n < 1000003) ∧ sm = []) := by
  unfold ConG
  k_fill
  intro envs base g s Rs B hk hz N X T hpre hret
  have hL' : g.IsList S vs.toArray := let ⟨o, e, r⟩ := hL; ⟨o, hpre _ _ e, r⟩
  refine enterP hk hz N X T (by k_is) (by k_is) (Nat.le_of_ble_eq_true rfl) (BindsTo.of_eq rfl) (locs rfl) (fun L' h₁ F' N' => ?_) rfl rfl rfl (by decide)
  k_steps
  · refine hret _ _ _ _ ⟨⟨_, _, rfl, ?_, ?_⟩, rfl⟩ (Fr.keep (by k_asm)) (fun q hq => nomatch hq)
    · exact Int.fmod_nonneg_of_pos _ (by decide)
    · exact Int.fmod_lt_of_pos _ (by decide)
  · refine hret _ _ _ _ ⟨⟨_, _, rfl, ?_, ?_⟩, rfl⟩ (Fr.keep (by k_asm)) (fun q hq => nomatch hq)
    · omega
    · omega
end
end Mine
end Mine
end

section
open PySem PySem.W PySem.Calls PyProof.Rows
theorem Mine.off_C12 {M : Model} {A : Around} {E : Value → Shared → Prop} {s : Shared} {Q : Flow → Shared → Prop} {env : Env} (h : Q .next s) : wpAny M A (execs [] env) Q E s := by
  w_top off
  try walk1
  first
    | exact h
    | exact wpAny_execs_nil h
end
section
open PySem PySem.W PySem.Calls PyProof.Rows Builtin Builtin.ObjectAttr PyProof.Rows.LCt PyProof.Rows.LCg
namespace Mine
namespace Mine

local macro_rules | `(tactic| k_room) => `(tactic| exact Nat.le_of_ble_eq_true rfl)

abbrev gloEs (w : World) (RL RA : Addr) (t1 t2 : Tok) : List DictEntry :=
  [⟨PyData.keyHash w.params (Str.ofString "local_models"), .str (Str.ofString "local_models") t1, .ref RL⟩, ⟨PyData.keyHash w.params (Str.ofString "all_models"), .str (Str.ofString "all_models") t2, .ref RA⟩]

abbrev gloL (w : World) (G GD RL RA : Addr) (t1 t2 : Tok) : List (Addr × Obj) := [(G, instObj 193 GD), (GD, dictOf (gloEs w RL RA t1 t2) 2)]

structure Rep where
  (R RD D : Addr) (t1 t2 : Tok)

abbrev RepL (w : World) (r : Rep) (c : Int) (tc : Tok) (oD : Obj) : List (Addr × Obj) := repL w r.R r.RD r.D c tc r.t1 r.t2 oD

section
variable {w : World} {A A₀ : Around} {E : Value → Shared → Prop} {s : Shared} {base h₀ : Heap} {L : Addr} {m : Str → Option Value} {outer : List Env} {env : Env} {small small' news : List (Addr × Obj)} {mean : ExcName → Option Value} {mg mb : Str → Option Value}
  {f : Addr} {args : List Value} {Post : Value → List (Addr × Obj) → Prop} {P : Obj → Prop} {dp un : Nat} {Q : Value → Shared → Prop} {D : Addr} {oD : Obj} {v₀ : Value}

theorem Con.mono (C : Con dp un w mean mg mb f args small Post) {Post' : Value → List (Addr × Obj) → Prop} (k : ∀ v sm, Post v sm → Post' v sm) : Con dp un w mean mg mb f args small Post' :=
  fun envs base g s R B hk hz N X T hret => C envs base g s R B hk hz N X T fun v sm h' tk' hp => hret v sm h' tk' (k v sm hp)

/-- a call that changes one object -/
theorem Con.use1 (C : Con dp un w mean mg mb f args small (fun v sm => v = v₀ ∧ ∃ oD', P oD' ∧ (D, oD') ∈ sm ∧ ∀ p ∈ small, p.1 ≠ D → p ∈ sm)) (B : Below A₀ base outer h₀) (F : Fr h₀ L s.heap m) (X : (hd.heap_39 w.params).In h₀) (N : News h₀ L s.heap news)
    (T : Top hd.view_39 (looseW hd.view_39 [Str.ofString "TextXObject"]) mean mg mb h₀)
    (hA : A.frames = some (env :: outer)) (hf : env.frame = some L) (hke : env.scope.kind = .function) (hh : A.handled = none) (hdp : A.depth ≤ dp) (hun : A.units ≤ un)
    (hs : ∀ q ∈ small, q ∈ news)
    (ret : ∀ oD' h' tk', P oD' → Fr h₀ L h' m → (∀ news', (∀ q ∈ news', q = (D, oD') ∨ (q ∈ news ∧ q.1 ≠ D)) → News h₀ L h' news') → Q v₀ { s with heap := h', toks := tk' }) :
    wpAny (model PySem.Challenge.rw_ez0369_01.row.prog w) A (call (.ref f) args) Q E s := by
  refine Con.use C B F X N T hA hf hke hh hdp hun hs ?_
  rintro v sm h' tk' ⟨rfl, oD', hP, hD, hk⟩ F' N' hkeep _
  have hall : ∀ b o, b ≠ D → s.heap.get? b = some o → h'.get? b = some o := by
    intro b o hb e
    by_cases hbs : b ∈ small.map (·.1)
    · obtain ⟨p, hp, rfl⟩ := List.mem_map.mp hbs
      have h1 := (N p (hs p hp)).1
      rw [e] at h1; cases h1
      exact (N' p (hk p hp hb)).1
    · exact hkeep b o hbs e
  refine ret oD' h' tk' hP F' (fun news' hn q hq => ?_)
  rcases hn q hq with rfl | ⟨h1, h2⟩
  · exact N' _ hD
  · exact ⟨hall _ _ h2 (N q h1).1, (N q h1).2⟩
end

section
variable (w : World) (mean : ExcName → Option Value) (mg mb : Str → Option Value) (r : Rep) (c : Int) (tc : Tok) (oD : Obj) (kvs : List (Str × Value)) (M : Addr) (ms : List (Addr × Addr))
theorem con_remove1 (hD : oD.IsDictOf (SK w) kvs) (hlen : kvs.length ≤ 1000) (h1 : @Ne Nat r.R r.D) (h2 : @Ne Nat r.RD r.D) (h3 : ∀ p ∈ ms, @Ne Nat p.1 r.D) (lo : (r.D == sysModules) = false)
    (hvals : ∀ p ∈ kvs, ∃ a da, p.2 = .ref a ∧ (a, da) ∈ ms) (hkeys : ∀ p ∈ kvs, 1 ≤ p.1.length ∧ p.1.length ≤ 1000) (hM : ∃ MD, (M, MD) ∈ ms) :
    Con 590 1900 w mean mg mb 119 [.ref r.R, .ref M] (RepL w r c tc oD ++ msL ms)
      (fun v sm => v = .none ∧ ∃ oD', oD'.IsDictOf (SK w) (removed kvs (.ref M)) ∧ (r.D, oD') ∈ sm ∧ ∀ p ∈ RepL w r c tc oD ++ msL ms, p.1 ≠ r.D → p ∈ sm) := by
  refine Con.mono (con_remove w mean mg mb r.R r.RD r.D c tc r.t1 r.t2 oD kvs M ms hD (by omega) h1 h2 h3 lo hvals hkeys hM) ?_
  rintro v sm ⟨rfl, oD', hd, rfl⟩
  refine ⟨rfl, oD', hd, by simp, ?_⟩
  intro p hp hn
  simp only [List.mem_cons, List.mem_append, List.not_mem_nil, or_false] at hp ⊢
  rcases hp with (rfl | rfl | rfl) | hp
  · simp
  · simp
  · exact absurd rfl hn
  · simp [hp]
end

section
variable (w : World) (mean : ExcName → Option Value) (mg mb : Str → Option Value) (G GD : Addr) (g1 g2 : Tok) (rL rA : Rep) (cL cA : Int) (tL tA : Tok) (oL oA : Obj) (kL kA : List (Str × Value)) (M : Addr) (ms : List (Addr × Addr))

def KvsOk (ms : List (Addr × Addr)) (kvs : List (Str × Value)) : Prop := kvs.length ≤ 1000 ∧ (∀ p ∈ kvs, ∃ a da, p.2 = .ref a ∧ (a, da) ∈ ms) ∧ ∀ p ∈ kvs, 1 ≤ p.1.length ∧ p.1.length ≤ 1000

theorem con_gremove (hL : oL.IsDictOf (SK w) kL) (hA : oA.IsDictOf (SK w) kA) (okL : KvsOk ms kL) (okA : KvsOk ms kA) (loL : (rL.D == sysModules) = false) (loA : (rA.D == sysModules) = false)
    (dA : ∀ p ∈ gloL w G GD rL.R rA.R g1 g2 ++ (rA.R, instObj 157 rA.RD) :: (rA.RD, dictOf (repEs w cA tA rA.D rA.t1 rA.t2) 2) :: (RepL w rL cL tL oL ++ msL ms), @Ne Nat p.1 rA.D)
    (dL : ∀ p ∈ gloL w G GD rL.R rA.R g1 g2 ++ (rL.R, instObj 157 rL.RD) :: (rL.RD, dictOf (repEs w cL tL rL.D rL.t1 rL.t2) 2) :: (RepL w rA cA tA oA ++ msL ms), @Ne Nat p.1 rL.D)
    (hM : ∃ MD, (M, MD) ∈ ms) :
    Con 580 1800 w mean mg mb 183 [.ref G, .ref M] (gloL w G GD rL.R rA.R g1 g2 ++ (RepL w rA cA tA oA ++ (RepL w rL cL tL oL ++ msL ms)))
      (fun v sm => v = .none ∧ ∃ oL' oA', oL'.IsDictOf (SK w) (removed kL (.ref M)) ∧ oA'.IsDictOf (SK w) (removed kA (.ref M)) ∧ sm = gloL w G GD rL.R rA.R g1 g2 ++ (RepL w rA cA tA oA' ++ (RepL w rL cL tL oL' ++ msL ms))) := by
  unfold Con
  k_fill
  intro envs base g s Rs B hk hz N X T hret
  refine enterP hk hz N X T (by k_is) (by k_is) (Nat.le_of_ble_eq_true rfl) (BindsTo.of_eq rfl) (locs rfl) (fun L' h₁ F' N' => ?_) rfl rfl rfl (by decide)
  dsimp only [gloL, RepL, repL, List.cons_append, List.nil_append] at N' hret
  iterate 13 walk1
  have a1 : @Ne Nat rA.R rA.D := dA (rA.R, instObj 157 rA.RD) (by simp)
  have a2 : @Ne Nat rA.RD rA.D := dA (rA.RD, _) (List.mem_append_right _ (.tail _ (.head _)))
  have a3 : ∀ p ∈ ms, @Ne Nat p.1 rA.D := fun p hp => dA (p.1, instObj 80 p.2) (List.mem_append_right _ (.tail _ (.tail _ (List.mem_append_right _ (List.mem_map.mpr ⟨p, hp, rfl⟩)))))
  have b1 : @Ne Nat rL.R rL.D := dL (rL.R, instObj 157 rL.RD) (by simp)
  have b2 : @Ne Nat rL.RD rL.D := dL (rL.RD, _) (List.mem_append_right _ (.tail _ (.head _)))
  have b3 : ∀ p ∈ ms, @Ne Nat p.1 rL.D := fun p hp => dL (p.1, instObj 80 p.2) (List.mem_append_right _ (.tail _ (.tail _ (List.mem_append_right _ (List.mem_map.mpr ⟨p, hp, rfl⟩)))))
  have b4 : @Ne Nat rA.D rL.D := dL (rA.D, oA) (by simp)
  refine Con.use1 (con_remove1 w mean mg mb rA cA tA oA kA M ms hA okA.1 a1 a2 a3 loA okA.2.1 okA.2.2 hM) B (by k_asm) X (by k_asm) T (by exact rfl) (by exact rfl) (by exact rfl) (by exact rfl) (Nat.le_of_ble_eq_true rfl) (Nat.le_of_ble_eq_true rfl) ?_ ?_
  · intro q hq
    simp only [List.mem_cons, List.mem_append, List.not_mem_nil, or_false] at hq ⊢
    grind
  intro oA' h2 tk2 hA' F2 N2
  replace N2 := N2 (gloL w G GD rL.R rA.R g1 g2 ++ (RepL w rA cA tA oA' ++ (RepL w rL cL tL oL ++ msL ms))) (fun q hq => by
    have := dA q
    simp only [List.mem_cons, List.mem_append, List.not_mem_nil, or_false] at hq this ⊢
    grind)
  dsimp only [gloL, RepL, repL, List.cons_append, List.nil_append] at N2
  iterate 12 walk1
  refine Con.use1 (con_remove1 w mean mg mb rL cL tL oL kL M ms hL okL.1 b1 b2 b3 loL okL.2.1 okL.2.2 hM) B (by k_asm) X (by k_asm) T (by exact rfl) (by exact rfl) (by exact rfl) (by exact rfl) (Nat.le_of_ble_eq_true rfl) (Nat.le_of_ble_eq_true rfl) ?_ ?_
  · intro q hq
    simp only [List.mem_cons, List.mem_append, List.not_mem_nil, or_false] at hq ⊢
    grind
  intro oL' h3 tk3 hL' F3 N3
  replace N3 := N3 (gloL w G GD rL.R rA.R g1 g2 ++ (RepL w rA cA tA oA' ++ (RepL w rL cL tL oL' ++ msL ms))) (fun q hq => by
    have := dL q
    simp only [List.mem_cons, List.mem_append, List.not_mem_nil, or_false] at hq this ⊢
    grind)
  k_steps
  exact hret _ _ _ _ ⟨rfl, _, _, hL', hA', rfl⟩ (Fr.keep (by k_asm)) (newsSmall N3)
end
end Mine
end Mine
end

section
open PySem PySem.W PySem.Calls PyProof.Rows
theorem Mine.off_C13 {M : Model} {A : Around} {E : Value → Shared → Prop} {s : Shared} {Q : Flow → Shared → Prop} {env : Env} (h : Q .next s) : wpAny M A (execs [] env) Q E s := by
  w_top off
  try walk1
  first
    | exact h
    | exact wpAny_execs_nil h
end
section
open PySem PySem.W PySem.Calls PyProof.Rows Builtin Builtin.ObjectAttr PyProof.Rows.LCt PyProof.Rows.LCg
namespace Mine
namespace Mine

local macro_rules | `(tactic| k_room) => `(tactic| exact Nat.le_of_ble_eq_true rfl)

theorem removed_sub {kvs : List (Str × Value)} {v : Value} : ∀ p ∈ removed kvs v, p ∈ kvs := by
  intro p hp
  unfold removed at hp
  split at hp
  · unfold without at hp; exact (List.mem_filter.mp hp).1
  · exact hp
theorem removed_len {kvs : List (Str × Value)} {v : Value} : (removed kvs v).length ≤ kvs.length := by
  unfold removed
  split
  · unfold without; exact List.length_filter_le _ _
  · exact Nat.le_refl _
theorem KvsOk.removed {ms : List (Addr × Addr)} {kvs : List (Str × Value)} (h : KvsOk ms kvs) (v : Value) : KvsOk ms (removed kvs v) :=
  ⟨Nat.le_trans removed_len h.1, fun p hp => h.2.1 p (removed_sub p hp), fun p hp => h.2.2 p (removed_sub p hp)⟩
def removeds (kvs : List (Str × Value)) (Ms : List Addr) : List (Str × Value) := Ms.foldl (fun k M => removed k (.ref M)) kvs
theorem removeds_snoc (kvs : List (Str × Value)) (Ms : List Addr) (M : Addr) : removeds kvs (Ms ++ [M]) = removed (removeds kvs Ms) (.ref M) := by simp [removeds]
theorem KvsOk.removeds {ms : List (Addr × Addr)} {kvs : List (Str × Value)} (h : KvsOk ms kvs) (Ms : List Addr) : KvsOk ms (removeds kvs Ms) := by
  unfold Mine.removeds
  induction Ms generalizing kvs with
  | nil => exact h
  | cons M Ms ih => exact ih (h.removed _)

section
variable {prog : Program} {w : World} {A : Around} {E : Value → Shared → Prop} {s : Shared} {h₀ : Heap} {m : Str → Option Value} {news : List (Addr × Obj)} {env : Env}
theorem only_eq {m' m : Str → Option Value} {x : Str} (h : ∀ z, z ≠ x → m' z = m z) : m' = fun z => if z = x then m' x else m z := by
  funext y
  by_cases e : y = x
  · simp [e]
  · simp [e, h y e]
theorem only_set {m' m : Str → Option Value} {x : Str} {v : Option Value} (h : ∀ z, z ≠ x → m' z = m z) : (fun z => if z = x then v else m' z) = fun z => if z = x then v else m z := by
  funext y
  by_cases e : y = x
  · simp [e]
  · simp [e, h y e]
theorem lst_loopU {x : Str} {body : List Stmt} {LI : Addr} {vs : List Value} {n : Nat} {Q : Flow → Shared → Prop} (hh : A.handled = none) (F : Fr h₀ env.locals s.heap m) (N : News h₀ env.locals s.heap news) (hp : (LI, listOf vs.toArray n) ∈ news)
    (J : Nat → List (Addr × Obj) → Prop) (h0 : J 0 news)
    (step : ∀ (i : Nat) (v : Value) (nw own : List (Addr × Obj)) (s₁ : Shared) (I : Addr), vs[i]? = some v → J i nw → (∀ p ∈ nw, p.1 ≠ I) → (∀ p ∈ own, p.1 = I ∨ p.1 = LI) →
      Fr h₀ env.locals s₁.heap (fun y => if y = x then some v else m y) → News h₀ env.locals s₁.heap (own ++ nw) →
      wpAny (model prog w) A (execs body env) (LoopStepU h₀ env.locals [I] own (fun m' nw' => (∀ z, z ≠ x → m' z = m z) ∧ J (i + 1) nw') s₁) E s₁)
    (done : ∀ h' tk u nw, J vs.length nw → Fr h₀ env.locals h' (fun z => if z = x then u else m z) → News h₀ env.locals h' nw → Q .next { s with heap := h', toks := tk }) :
    wpAny (model prog w) A (pyIter (.ref LI)) (fun it s₂ => LoopAtU prog w A h₀ env x body Q E it s₂) E s := by
  have hl : s.heap.IsList LI vs.toArray := ⟨_, (N _ hp).1, rfl, _, rfl⟩
  refine wpAny_pyIter_list hl ?_
  have hlt : LI < s.heap.objs.size := Heap.lt_size (N _ hp).1
  have up : ∀ b ob, s.heap.get? b = some ob → (s.heap.push { cls := .type "list_iterator", data := .fields #[.ref LI, .int 0 0] }).get? b = some ob := fun b ob e => Heap.get?_push_of_some _ e
  have W := Walks.list (prog := prog) (w := w) hh s.heap.objs.size LI (Nat.ne_of_lt hlt) vs.toArray
  have W' : Walks prog w A s.heap.objs.size [s.heap.objs.size, LI] [s.heap.objs.size] vs.length (fun i v => vs[i]? = some v) (fun i h => h.IsListIter s.heap.objs.size LI i ∧ h.IsList LI vs.toArray) := by
    simpa using W
  refine ⟨s.heap.objs.size, _, _, _, _, _, m, news, fun i m' nw => (∀ z, z ≠ x → m' z = m z) ∧ J i nw, rfl, W', ?_, ?_, ?_, ?_, F.keeps up, N.grown up, ⟨fun _ _ => rfl, h0⟩, ?_, ?_⟩
  · intro q
    rcases List.mem_cons.mp q with q | q
    · exact Nat.ne_of_lt F.ns.lt q
    · exact (N _ hp).2.1 (List.mem_singleton.mp q).symm
  · intro b hb; rw [List.mem_singleton.mp hb]; exact next_is_new F
  · intro p hp hb
    exact Nat.ne_of_lt (Heap.lt_size (N p hp).1) (List.mem_singleton.mp hb)
  · exact ⟨⟨_, Heap.get?_push_size _ rfl, rfl, rfl⟩, hl.push _⟩
  · intro i v m₁ nw s₁ own hi hx hJ hoff hfp _ _ _ F₁ N₁
    refine step i v nw own s₁ _ hx hJ.2 (fun p hp e => hoff p hp (List.mem_singleton.mpr e)) (fun p hp => ?_) (only_set hJ.1 ▸ F₁) N₁
    have := hfp p hp
    simpa using this
  · intro h' tk m' nw F₁ N₁ _ hJ
    exact done h' tk (m' x) nw hJ.2 (only_eq hJ.1 ▸ F₁) N₁
end

section
variable (w : World) (mean : ExcName → Option Value) (mg mb : Str → Option Value) (G GD LI : Addr) (g1 g2 : Tok) (nI : Nat) (rL rA : Rep) (cL cA : Int) (tL tA : Tok) (oL oA : Obj) (kL kA : List (Str × Value)) (Ms : List Addr) (ms : List (Addr × Addr))

abbrev gsL (w : World) (G GD : Addr) (g1 g2 : Tok) (rL rA : Rep) (cL cA : Int) (tL tA : Tok) (oL oA : Obj) (ms : List (Addr × Addr)) : List (Addr × Obj) := gloL w G GD rL.R rA.R g1 g2 ++ (RepL w rA cA tA oA ++ (RepL w rL cL tL oL ++ msL ms))

theorem con_gremoves (hL : oL.IsDictOf (SK w) kL) (hA : oA.IsDictOf (SK w) kA) (okL : KvsOk ms kL) (okA : KvsOk ms kA) (loL : (rL.D == sysModules) = false) (loA : (rA.D == sysModules) = false)
    (dA : ∀ oL', ∀ p ∈ gloL w G GD rL.R rA.R g1 g2 ++ (rA.R, instObj 157 rA.RD) :: (rA.RD, dictOf (repEs w cA tA rA.D rA.t1 rA.t2) 2) :: (RepL w rL cL tL oL' ++ msL ms), @Ne Nat p.1 rA.D)
    (dL : ∀ oA', ∀ p ∈ gloL w G GD rL.R rA.R g1 g2 ++ (rL.R, instObj 157 rL.RD) :: (rL.RD, dictOf (repEs w cL tL rL.D rL.t1 rL.t2) 2) :: (RepL w rA cA tA oA' ++ msL ms), @Ne Nat p.1 rL.D)
    (hI : ∀ oL' oA', ∀ p ∈ gsL w G GD g1 g2 rL rA cL cA tL tA oL' oA' ms, p.1 ≠ LI)
    (hM : ∀ M ∈ Ms, ∃ MD, (M, MD) ∈ ms) :
    Con 570 1700 w mean mg mb 190 [.ref G, .ref LI] (gsL w G GD g1 g2 rL rA cL cA tL tA oL oA ms ++ [(LI, listOf (Ms.map Value.ref).toArray nI)])
      (fun v sm => v = .none ∧ ∃ oL' oA', oL'.IsDictOf (SK w) (removeds kL Ms) ∧ oA'.IsDictOf (SK w) (removeds kA Ms) ∧ sm = gsL w G GD g1 g2 rL rA cL cA tL tA oL' oA' ms ++ [(LI, listOf (Ms.map Value.ref).toArray nI)]) := by
  unfold Con
  k_fill
  intro envs base g s Rs B hk hz N X T hret
  refine enterP hk hz N X T (by k_is) (by k_is) (Nat.le_of_ble_eq_true rfl) (BindsTo.of_eq rfl) (locs rfl) (fun L' h₁ F' N' => ?_) rfl rfl rfl (by decide)
  iterate 2 walk1
  refine For_invU g rfl rfl ?_
  iterate 1 walk1
  refine lst_loopU (n := nI) (vs := Ms.map Value.ref) rfl F' N' (List.mem_append_right _ (.head _)) (fun i nw => ∃ oL' oA', oL'.IsDictOf (SK w) (removeds kL (Ms.take i)) ∧ oA'.IsDictOf (SK w) (removeds kA (Ms.take i)) ∧ nw = gsL w G GD g1 g2 rL rA cL cA tL tA oL' oA' ms ++ [(LI, listOf (Ms.map Value.ref).toArray nI)]) ⟨oL, oA, hL, hA, rfl⟩ ?_ ?_
  · rintro i v nw own s₁ I hx ⟨oL', oA', hL', hA', rfl⟩ hoff hown F₁ N₁
    obtain ⟨M, hMi, rfl⟩ : ∃ M, Ms[i]? = some M ∧ v = .ref M := by
      rw [List.getElem?_map] at hx
      obtain ⟨M, h1, h2⟩ := Option.map_eq_some_iff.mp hx
      exact ⟨M, h1, h2.symm⟩
    have hMm := hM M (List.mem_of_getElem? hMi)
    iterate 10 walk1
    have nown : ∀ p ∈ own, p.1 ∉ (gsL w G GD g1 g2 rL rA cL cA tL tA oL' oA' ms).map (·.1) := by
      intro p hp q
      obtain ⟨q, hq, e⟩ := List.mem_map.mp q
      rcases hown p hp with e' | e'
      · exact hoff q (List.mem_append_left _ hq) (e.trans e')
      · exact hI oL' oA' q hq (e.trans e')
    have nLI : LI ∉ (gsL w G GD g1 g2 rL rA cL cA tL tA oL' oA' ms).map (·.1) := by
      intro q
      obtain ⟨q, hq, e⟩ := List.mem_map.mp q
      exact hI oL' oA' q hq e
    refine Con.use (con_gremove w mean mg mb G GD g1 g2 rL rA cL cA tL tA oL' oA' _ _ M ms hL' hA' (okL.removeds _) (okA.removeds _) loL loA (dA oL') (dL oA') hMm) B F₁ X N₁ T (by exact rfl) (by exact rfl) (by exact rfl) (by exact rfl) (Nat.le_of_ble_eq_true rfl) (Nat.le_of_ble_eq_true rfl) (fun q hq => List.mem_append_right _ (List.mem_append_left _ hq)) ?_
    rintro v sm h2 tk2 ⟨rfl, oL2, oA2, hL2, hA2, rfl⟩ F2 N2 keep2 _
    have N3 : News g L' h2 (own ++ (gsL w G GD g1 g2 rL rA cL cA tL tA oL2 oA2 ms ++ [(LI, listOf (Ms.map Value.ref).toArray nI)])) := by
      intro q hq
      rcases List.mem_append.mp hq with hq | hq
      · exact ⟨keep2 _ _ (nown q hq) (N₁ q (List.mem_append_left _ hq)).1, (N₁ q (List.mem_append_left _ hq)).2⟩
      · rcases List.mem_append.mp hq with hq | hq
        · exact N2 q hq
        · rw [List.mem_singleton.mp hq]
          have h1 := N₁ (LI, listOf (Ms.map Value.ref).toArray nI) (List.mem_append_right _ (List.mem_append_right _ (.head _)))
          exact ⟨keep2 _ _ nLI h1.1, h1.2⟩
    iterate 1 walk1
    refine LoopStepU.intro F2 N3 (fun p hp => ?_) ⟨fun z hz => if_neg hz, oL2, oA2, ?_, ?_, rfl⟩
    · have e : ∀ oL oA : Obj, (gsL w G GD g1 g2 rL rA cL cA tL tA oL oA ms ++ [(LI, listOf (Ms.map Value.ref).toArray nI)]).map (·.1) = (gsL w G GD g1 g2 rL rA cL cA tL tA oL' oA' ms ++ [(LI, listOf (Ms.map Value.ref).toArray nI)]).map (·.1) := by
        intro _ _; simp
      have h1 : p.1 ∈ (gsL w G GD g1 g2 rL rA cL cA tL tA oL' oA' ms ++ [(LI, listOf (Ms.map Value.ref).toArray nI)]).map (·.1) := e oL2 oA2 ▸ List.mem_map_of_mem hp
      obtain ⟨q, hq, e2⟩ := List.mem_map.mp h1
      exact fun z => hoff q hq (e2.trans (List.mem_singleton.mp z))
    · rw [take_succ_get hMi, removeds_snoc]; exact hL2
    · rw [take_succ_get hMi, removeds_snoc]; exact hA2
  · rintro h' tk u nw ⟨oL', oA', hL', hA', rfl⟩ F₁ N₁
    rw [List.length_map, List.take_length] at hL' hA'
    k_steps
    exact hret _ _ _ _ ⟨rfl, _, _, hL', hA', rfl⟩ (Fr.keep (by k_asm)) (newsSmall (by k_asm))
end
end Mine
end Mine
end

section
open PySem PySem.W PySem.Calls PyProof.Rows
theorem Mine.off_C14 {M : Model} {A : Around} {E : Value → Shared → Prop} {s : Shared} {Q : Flow → Shared → Prop} {env : Env} (h : Q .next s) : wpAny M A (execs [] env) Q E s := by
  w_top off
  try walk1
  first
    | exact h
    | exact wpAny_execs_nil h
end
section
open PySem PySem.W PySem.Calls PyProof.Rows Builtin Builtin.ObjectAttr PyProof.Rows.LCt PyProof.Rows.LCg
namespace Mine
namespace Mine

local macro_rules | `(tactic| k_room) => `(tactic| exact Nat.le_of_ble_eq_true rfl)

section
variable {w : World} {A A₀ : Around} {E : Value → Shared → Prop} {s : Shared} {base h₀ : Heap} {L : Addr} {m : Str → Option Value} {outer : List Env} {env : Env} {small news : List (Addr × Obj)} {mean : ExcName → Option Value} {mg mb : Str → Option Value}
  {Q : Value → Shared → Prop} {R RD D : Addr} {c : Int} {tc t1 t2 tk : Tok} {oD : Obj} {kvs : List (Str × Value)} {x : Str}

theorem fr_but {h h' : Heap} {S : Addr} (F : Fr h₀ L h m) (hS : h₀.get? S = none) (hL : L ≠ S) (k : ∀ b o, b ≠ S → h.get? b = some o → h'.get? b = some o) : Fr h₀ L h' m :=
  ⟨F.ns.at' fun o e => k _ o hL e, fun b o e => k b o (fun q => by rw [q, hS] at e; cases e) (F.keep b o e), F.above⟩

theorem list_repo (B : Below A₀ base outer h₀) (F : Fr h₀ L s.heap m) (X : (hd.heap_39 w.params).In h₀) (N : News h₀ L s.heap news)
    (T : Top hd.view_39 (looseW hd.view_39 [Str.ofString "TextXObject"]) mean mg mb h₀)
    (hA : A.frames = some (env :: outer)) (hf : env.frame = some L) (hke : env.scope.kind = .function) (hh : A.handled = none) (hdp : A.depth ≤ 590) (hun : A.units + 3 ≤ 1900)
    (m1 : (R, instObj 157 RD) ∈ news) (m2 : (RD, dictOf (repEs w c tc D t1 t2) 2) ∈ news) (m3 : (D, oD) ∈ news)
    (hD : oD.IsDictOf (SK w) kvs) (lo : (D == sysModules) = false) (hsz : kvs.length ≤ 1000)
    (hs : findIn (hd.heap_39 w.params) (.ref 157) "__iter__" = some (some (.ref 133))) (hfn : isFn (hd.heap_39 w.params) (.ref 133) = true)
    (hs2 : findIn (hd.heap_39 w.params) (.ref 157) "__len__" = some (some (.ref 140))) (hfn2 : isFn (hd.heap_39 w.params) (.ref 140) = true)
    (ret : ∀ S n h' tk', Fr h₀ L h' m → News h₀ L h' ((S, listOf (kvs.map (·.2)).toArray n) :: news) → (∀ q ∈ news, q.1 < S) → Q (.ref S) { s with heap := h', toks := tk' }) :
    wpAny (model PySem.Challenge.rw_ez0369_01.row.prog w) A (call (.type "list") [.ref R]) Q E s := by
  have hszL : kvs.length ≤ sizeLine := by rw [sizeLine_eq]; omega
  refine callType_codes (Q₁ := fun obj s₁ => obj = .ref s.heap.objs.size ∧ s₁ = { s with heap := s.heap.push { cls := .type "list", data := .seq #[] } }) PySem.F.called_list (PySem.F.typeCall_list_1 _) PySem.F.entry_list_init
    (code_list_new _ ⟨rfl, rfl⟩) fun obj s₁ h₁ => ?_
  obtain ⟨rfl, rfl⟩ := h₁
  have hS : (s.heap.push { cls := .type "list", data := .seq #[] }).get? s.heap.objs.size = some { cls := .type "list", data := .seq #[] } := Heap.get?_push_size _ rfl
  refine ⟨⟨_, hS, rfl⟩, PySem.F.args_list_init_2 _ _, ?_⟩
  have h0S : h₀.get? s.heap.objs.size = none := next_is_new F
  have hLS : L ≠ s.heap.objs.size := Nat.ne_of_lt F.ns.lt
  have hRS : s.heap.objs.size ≠ R := Nat.ne_of_gt (Heap.lt_size (N _ m1).1)
  have hDS : s.heap.objs.size ≠ D := Nat.ne_of_gt (Heap.lt_size (N _ m3).1)
  have hnS : ∀ p ∈ news, p.1 ≠ s.heap.objs.size := fun p hp => Nat.ne_of_lt (Heap.lt_size (N p hp).1)
  generalize hSe : s.heap.objs.size = S at *
  show wpAny _ _ (do let old ← Builtin.List.listItems (.ref S); Builtin.List.listUpdate (.ref S) (fun _ => #[]); letGo old.toList.reverse; Builtin.List.listExtendWith (.ref S) (.ref R) .none) _ _ _
  refine wpAny_bind ?_
  unfold Builtin.List.listItems
  refine wpAny_bind (wpAny_seqItems hS rfl (wpAny_pure ?_))
  show wpAny _ _ (updateSeq S (fun _ => #[]) >>= fun _ => letGo (#[] : Array Value).toList.reverse >>= fun _ => Builtin.List.listExtendWith (.ref S) (.ref R) .none) _ _ _
  refine wpAny_bind (wpAny_updateSeq hS rfl ?_)
  have hS₂ := Heap.get?_update_self (Obj.mapSeq (fun _ => (#[] : Array Value))) hS rfl
  have oth : ∀ b o, b ≠ S → (s.heap.push { cls := .type "list", data := .seq #[] }).get? b = some o → ((s.heap.push { cls := .type "list", data := .seq #[] }).update S (Obj.mapSeq (fun _ => (#[] : Array Value)))).get? b = some o :=
    fun b o hb e => (Heap.get?_update_other _ _ (Ne.symm hb)).trans e
  have oth2 : ∀ b o, b ≠ S → s.heap.get? b = some o → ((s.heap.push { cls := .type "list", data := .seq #[] }).update S (Obj.mapSeq (fun _ => (#[] : Array Value)))).get? b = some o := fun b o hb e => oth b o hb (Heap.get?_push_of_some _ e)
  refine wpAny_bind (wpAny_letGo ?_)
  have F2 := fr_but F h0S hLS oth2
  generalize hH : (s.heap.push { cls := .type "list", data := .seq #[] }).update S (Obj.mapSeq (fun _ => (#[] : Array Value))) = H2 at *
  obtain ⟨c₀, hS₂⟩ : ∃ c₀, H2.get? S = some (listOf #[] c₀) := ⟨_, hS₂⟩
  have N2 : News h₀ L H2 ((S, listOf #[] c₀) :: news) := fun q hq => by
    rcases List.mem_cons.mp hq with rfl | hq
    · exact ⟨hS₂, Ne.symm hLS, h0S⟩
    · exact ⟨oth2 _ _ (hnS q hq) (N q hq).1, (N q hq).2⟩
  unfold Builtin.List.listExtendWith
  have II := InstAt.of_news N2 (.tail _ m1) (.tail _ m2)
  refine wpAny_bind (II.type.here ?_)
  have h1 : Builtin.List.listSameRef (.ref S) (.ref R) = false := by simp [Builtin.List.listSameRef, hRS]
  have h2 : (Value.ref 157 == Value.type "list") = false := rfl
  have h3 : (Value.ref 157 == Value.type "tuple") = false := rfl
  simp only [h1, h2, h3, Bool.or_false, Bool.false_eq_true, if_false]
  refine wpAny_bind (iter_shelf (A := A.in1.in1) B F2 X N2 T hA hf hke hh hdp (Nat.le_trans (by show A.units + 1 + 1 ≤ A.units + 3; omega) hun) (.tail _ m1) (.tail _ m2) (.tail _ m3) hD lo hszL hs hfn ?_)
  intro I h' tk' F₁ N₁ hall _ ⟨oI, NI, hI, hne⟩ off
  refine wpAny_bind (wpAny_holding ?_)
  unfold Builtin.List.listLengthHint
  have I3 := InstAt.of_news N₁ (.tail _ m1) (.tail _ m2)
  refine wpAny_bind (wpAny_bind (I3.type.here ((looks_findIn (X.keeps F₁.keep) hs2).here ?_)))
  show wpAny _ _ (rule "list.length-hint.len" >>= fun _ => (call (.builtin "len") [.ref R]).attempt >>= _) _ _ _
  refine wpAny_bind (wpAny_rule ?_)
  refine wpAny_bind (wpAny_attempt (W.len_K F₁ X I3 hs2 hfn2 ?_))
  refine use_len (A := A.in1.in1.in1) B F₁ X NI T hA hf hke hh hdp (Nat.le_trans (by show A.units + 1 + 1 + 1 ≤ A.units + 3; omega) hun) (.tail _ (.tail _ m1)) (.tail _ (.tail _ m2)) (.tail _ (.tail _ m3)) hD lo (by omega) ?_
  intro tl h₃ tk₃ F₃ N₃ hall₃
  refine ⟨⟨by omega, by omega⟩, ?_⟩
  refine wpAny_bind (wpAny_pure ?_)
  show wpAny _ _ (if Builtin.List.listTooLong (kvs.length : Int).toNat = true then _ else _) _ _ _
  have htl : Builtin.List.listTooLong (kvs.length : Int).toNat = false := by
    unfold Builtin.List.listTooLong
    simp; exact hszL
  rw [htl]
  simp only [Bool.false_eq_true, if_false]
  refine wpAny_pure ?_
  have hne' := hne
  obtain ⟨ep, hc, hdat, ha⟩ := hI
  have hIS : S ≠ I := off (S, _) (.head _)
  have W := Walks.dictValues (prog := PySem.Challenge.rw_ez0369_01.row.prog) (w := w) (A := A.in1.in1) (knd := PySem.strKind _ _) hh I D hne kvs ep
  have hSf : S ∉ [I, D] := by simp only [List.mem_cons, List.not_mem_nil, or_false, not_or]; exact ⟨hIS, hDS⟩
  have N₄ : News h₀ L h₃ ((I, oI) :: (S, listOf #[] c₀) :: news) := N₃
  have key : ∀ (h : Heap) (c₁ tk : Nat), (∀ b o, b ≠ S → h₃.get? b = some o → h.get? b = some o) →
      h.get? S = some { cls := .type "list", data := .seq #[] c₁ } → codeAny (model PySem.Challenge.rw_ez0369_01.row.prog w) A.in1 (.builtin "list.extend.loop" ⟨[.ref S, .ref I, .none], []⟩) (wants (fun r s₂ => r = Value.none ∧ Q (Value.ref S) s₂) E) { s with heap := h, toks := tk } := by
    intro h c₁ tk hk hS₁
    have hst : h.IsValIter I D 0 kvs.length ep ∧ h.DictAt (PySem.strKind PySem.Challenge.rw_ez0369_01.row.prog w) D kvs ep :=
      ⟨⟨oI, hk _ _ (Ne.symm hIS) (N₄ (I, oI) (.head _)).1, hc, hdat⟩, ha.dictAt (hk _ _ (Ne.symm hDS) (N₄ (D, oD) (.tail _ (.tail _ m3))).1)⟩
    refine codeAny_extend_loopS (A := A.in1) W.toS hszL S hSf .none kvs.length 0 _ #[] c₁ rfl (Nat.zero_le _) hst hS₁ (ItemsOf.nil _) fun s' acc' c' hm hS' hacc => ?_
    rw [Moved.eq_with hm]
    refine ⟨rfl, ?_⟩
    have hmm : ∀ b o, b ≠ S → b ≠ I → h₃.get? b = some o → s'.heap.get? b = some o := fun b o hb hb2 e => hm.heap b o (fun q => by
      rcases List.mem_cons.mp q with q | q
      · exact hb q
      · exact hb2 (List.mem_singleton.mp q)) (hk b o hb e)
    have hacc' : acc' = (kvs.map (·.2)).toArray := by
      apply Array.ext'
      apply List.ext_getElem?
      intro j
      by_cases hj : j < kvs.length
      · have hja : j < acc'.size := by rw [hacc.1]; exact hj
        have e1 : acc'[j]? = some acc'[j] := by simp [hja]
        obtain ⟨k, hk⟩ := hacc.2 j _ e1
        rw [List.getElem?_map, hk, Array.getElem?_toList, e1]; rfl
      · rw [List.getElem?_eq_none (by rw [Array.length_toList, hacc.1]; omega), List.getElem?_eq_none (by simp; omega)]
    subst hacc'
    have hIh : h₀.get? I = none := (N₄ (I, oI) (.head _)).2.2
    have hLI : L ≠ I := Ne.symm (N₄ (I, oI) (.head _)).2.1
    refine ret S c' s'.heap s'.toks ⟨F₃.ns.at' fun o e => hmm _ o hLS hLI e, fun b o e => hmm b o (fun q => by rw [q, h0S] at e; cases e) (fun q => by rw [q, hIh] at e; cases e) (F₃.keep b o e), F₃.above⟩ (fun q hq => ?_) (fun q hq => ?_)
    · rcases List.mem_cons.mp hq with rfl | hq
      · exact ⟨hS', Ne.symm hLS, h0S⟩
      · exact ⟨hmm _ _ (hnS q hq) (off q (.tail _ hq)) (N₄ q (.tail _ (.tail _ hq))).1, (N q hq).2⟩
    · rw [← hSe]; exact Heap.lt_size (N q hq).1
  have hS3 : h₃.get? S = some { cls := .type "list", data := .seq #[] c₀ } := (N₄ (S, listOf #[] c₀) (.tail _ (.head _))).1
  refine wpAny_ite_split (fun _ => ?_) (fun _ => wpAny_pure ⟨plainId_quiet PySem.F.plain_extend_loop _, key _ c₀ _ (fun b o _ e => e) hS3⟩)
  refine wpAny_bind (wpAny_rule ?_)
  refine wpAny_bind ?_
  show wpAny _ _ (updateSeq S (·.push .none) >>= fun _ => updateSeq S (·.pop)) _ _ _
  refine wpAny_bind (wpAny_updateSeq hS3 rfl ?_)
  have hS₅ := Heap.get?_update_self (Obj.mapSeq (·.push Value.none)) hS3 rfl
  refine wpAny_updateSeq (hz := by seq_fits) hS₅ rfl ?_
  have hS₆ := Heap.get?_update_self (Obj.mapSeq (·.pop)) hS₅ rfl
  refine wpAny_pure ⟨plainId_quiet PySem.F.plain_extend_loop _, key _ _ _ (fun b o hb e => ?_) hS₆⟩
  exact (Heap.get?_update_other _ _ (Ne.symm hb)).trans ((Heap.get?_update_other _ _ (Ne.symm hb)).trans e)
end
end Mine
end Mine
end

section
open PySem PySem.W PySem.Calls PyProof.Rows
theorem Mine.off_L0 {M : Model} {A : Around} {E : Value → Shared → Prop} {s : Shared} {Q : Flow → Shared → Prop} {env : Env} (h : Q .next s) : wpAny M A (execs [] env) Q E s := by
  w_top off
  try walk1
  first
    | exact h
    | exact wpAny_execs_nil h
end
section
open PySem PySem.W PySem.Calls PyProof.Rows Builtin Builtin.ObjectAttr PyProof.Rows.LCt PyProof.Rows.LCg PyProof.Rows.LCp
namespace Mine
namespace Mine

section
variable {prog : Program} {w : World} {A : Around} {E : Value → Shared → Prop} {s : Shared} {h₀ : Heap} {L : Addr} {m : Str → Option Value} {env : Env}

def EnumEnd (h₀ : Heap) (L : Addr) (m : Str → Option Value) (s₁ : Shared) (news : List (Addr × Obj)) (e : Addr) (oe : Obj) (it : Addr) (oit : Obj) (C : Addr) (oC : Obj) (D : Addr) (ys : List Value) (Jn : Value → List (Addr × Obj) → Prop) (y : Value) (s' : Shared) : Prop :=
  ∃ h' tk' own', s' = { s₁ with heap := h', toks := tk' } ∧ Fr h₀ L h' m ∧
    News h₀ L h' ((e, oe) :: (it, oit) :: (C, oC) :: (D, lst ys) :: (own' ++ news)) ∧ (∀ p ∈ own' ++ news, p.1 ≠ e ∧ p.1 ≠ it ∧ p.1 ≠ C ∧ p.1 ≠ D) ∧ Jn y own'

/-- one turn of a comprehension over enumerate -/
def EnumStep (prog : Program) (w : World) (A : Around) (h₀ : Heap) (L : Addr) (m : Str → Option Value) (env : Env) (elt : Expr) (x x₂ : Str) (scope : Scope) (cl : List (Str × Addr)) (s₁ : Shared) (news : List (Addr × Obj)) (vs : List Value) (it : Addr) (J : Nat → List Value → List (Addr × Obj) → Prop) : Prop :=
  ∀ (i : Nat) (ys : List Value) (own : List (Addr × Obj)) (v : Value) (t : Tok) (e C D : Addr) (oe oit oC : Obj) (m₂ : Str → Option Value) (h : Heap) (tk : Nat) (E' : Value → Shared → Prop), vs[i]? = some v → J i ys own → NsObj oC m₂ → m₂ x = some (.int i t) → m₂ x₂ = some v → Fr h₀ L h m →
    News h₀ L h ((e, oe) :: (it, oit) :: (C, oC) :: (D, lst ys) :: (own ++ news)) → (∀ p ∈ own ++ news, p.1 ≠ e ∧ p.1 ≠ it ∧ p.1 ≠ C ∧ p.1 ≠ D) →
    wpAny (model prog w) A (eval elt (compEnvC scope cl C env)) (EnumEnd h₀ L m s₁ news e oe it oit C oC D ys (fun y own' => J (i + 1) (ys ++ [y]) own')) E' { s₁ with heap := h, toks := tk }

theorem assign_enum {elt iter : Expr} {x x₂ y : Str} {px px₂ tp py : Pos} {tk : Nat} {scope : Scope} {cl : List (Str × Addr)} {pos spos : Pos} {Q : Flow → Shared → Prop} {news : List (Addr × Obj)} {vs : List Value} {nl : Nat} {lF : Addr} (_F₀ : Fr h₀ L s.heap m) (_N₀ : News h₀ L s.heap news) (hm : (lF, listOf vs.toArray nl) ∈ news) (hsz : vs.length ≤ sizeLine)
    (J : Nat → List Value → List (Addr × Obj) → Prop) (hh : A.handled = none)
    (hLe : env.locals = L) (hsw : swapsWith (.ListComp elt [⟨.Tuple [.Name x px, .Name x₂ px₂] tk tp, iter, [], 0⟩] scope pos) (some (.Name y py)) spos.line env = pure true)
    (hy : env.kindOf y = some .local) (hpp : (env.scope.kind == .class || (env.scope.kind == .module && env.locals != env.globals)) = false)
    (hclos : closureFor scope env = pure cl) (hcell : ∀ y ∈ scope.names, y.2 ≠ .cell) (hkind : scope.kind = .function)
    (hnames : ∀ y ∈ scope.names, y.2 = .local → scope.names.lookup y.1 = some .local) (hx : scope.names.lookup x = some .local) (hx₂ : scope.names.lookup x₂ = some .local) (hxx : x ≠ x₂)
    (h : wpAny (model prog w) A (eval iter env) (fun xv s₁ => ∃ it, xv = .ref (it + 1) ∧ Fr h₀ L s₁.heap m ∧ News h₀ L s₁.heap news ∧ IsEnum s₁.heap (it + 1) it 0 .none ∧ s₁.heap.IsListIter it lF 0 ∧ s₁.heap.objs.size = it + 2 ∧
      (∀ p ∈ news, p.1 < it) ∧ L < it ∧ h₀.objs.size ≤ it ∧ J 0 [] [] ∧ EnumStep prog w A h₀ L m env elt x x₂ scope cl s₁ news vs it J ∧
      (∀ ys D h' tk own, J vs.length ys own → Fr h₀ L h' (fun z => if z = y then some (.ref D) else m z) → News h₀ L h' ((D, lst ys) :: (own ++ news)) → (∀ p ∈ own ++ news, p.1 ≠ D) → Q .next { s₁ with heap := h', toks := tk })) E s)
    (hs : ∀ x, foldedSetIterable iter env x = pure x := by intro _; rfl) :
    wpAny (model prog w) A (exec (.Assign [.Name y py] (.ListComp elt [⟨.Tuple [.Name x px, .Name x₂ px₂] tk tp, iter, [], 0⟩] scope pos) spos) env) Q E s := by
  rw [exec_Assign_Name_used _ _ _ _ hsw]
  refine wpAny_bind (wpAny_standAt (wpAny_bind ?_))
  show wpAny _ A (do let _ ← comprehension (.ListComp elt [⟨.Tuple [.Name x px, .Name x₂ px₂] tk tp, iter, [], 0⟩] scope pos) scope env _ (newList []) false (eval iter env) (some (assign (.Name y py) env))) _ _ s
  refine wpAny_bind (wpAny_mono (wpAny_comprehension_free (use := some (assign (.Name y py) env)) (Q := fun _ s' => Q .next s') rfl hs hclos hkind hnames
    (wpAny_mono h (fun xv s₁ h₁ => ?_) fun _ _ e => e)) (fun _ s' hq => wpAny_pure (wpAny_pure hq)) fun _ _ e => e)
  obtain ⟨it, rfl, F, N, he, hit, hsize, hlt, hLlt, h0, hJ, step, fin⟩ := h₁
  have hlF : lF < it := hlt _ hm
  have W := WalksT.enumerate (prog := prog) (w := w) (A := A) hh (it + 1) it lF (Nat.succ_ne_self it) (Nat.ne_of_lt (Nat.lt_succ_of_lt hlF)) (Nat.ne_of_lt hlF) vs.toArray
  have hlist : ∀ {h' : Heap} {nw : List (Addr × Obj)}, News h₀ L h' nw → (lF, listOf vs.toArray nl) ∈ nw → h'.IsList lF vs.toArray := fun N hp => ⟨_, (N _ hp).1, rfl, _, rfl⟩
  have none₀ : ∀ b, it ≤ b → h₀.get? b = none := fun b hb => by
    cases q : h₀.get? b with
    | none => rfl
    | some o => exact absurd (Heap.lt_size q) (Nat.not_lt.mpr (Nat.le_trans h0 hb))
  refine W.self 0 _ _ _ ⟨⟨_, he⟩, hit, hlist N hm⟩ ?_
  refine wpAny_newObj_type (wpAny_newFunctionEnv hcell (by intro y hy; simp at hy) (fun h₁ hns₁ hsb₁ => ?_) hkind)
  dsimp only at hns₁ hsb₁ ⊢
  have eC : (s₁.heap.push { cls := .type "list", dict := none, data := .seq ([] : List Value).toArray }).objs.size = it + 3 := by rw [Heap.size_push, hsize]
  rw [eC] at hns₁ hsb₁
  rw [eC, hsize]
  have n23 : @Ne Nat (it + 2) (it + 3) := by omega
  have lt2 : ∀ b : Nat, b < it + 2 → @Ne Nat b (it + 3) := fun b hb => by omega
  have lt3 : ∀ b : Nat, b < it → @Ne Nat b (it + 1) ∧ @Ne Nat b it ∧ @Ne Nat b (it + 3) ∧ @Ne Nat b (it + 2) := fun b hb => ⟨by omega, by omega, by omega, by omega⟩
  have old : ∀ b o, s₁.heap.get? b = some o → h₁.get? b = some o := fun b o e => hsb₁.extBut b o (lt2 b (by have := Heap.lt_size e; rw [hsize] at this; exact this)) (Heap.get?_push_of_some _ (Heap.get?_push_of_some _ e))
  have hD : h₁.get? (it + 2) = some (lst []) := hsb₁.extBut _ _ n23 (by have := Heap.get?_push_size (h := s₁.heap) (o := { cls := .type "list", dict := none, data := .seq ([] : List Value).toArray }) rfl; rw [hsize] at this; exact Heap.get?_push_of_some _ this)
  have near : ∀ p ∈ news, p.1 ≠ it + 1 ∧ p.1 ≠ it ∧ p.1 ≠ it + 3 ∧ p.1 ≠ it + 2 := fun p hp => lt3 _ (hlt p hp)
  have loop : ∀ tk₀ : Nat, codeAny (model prog w) A (.compLoop (.ListComp elt [⟨.Tuple [.Name x px, .Name x₂ px₂] tk tp, iter, [], 0⟩] scope pos) 0 (.ref (it + 1)) (.ref (it + 2)) (compEnvC scope cl (it + 3) env))
      (compPost (model prog w) A E (some (assign (.Name y py) env)) (fun _ s' => Q .next s') (.ref (it + 2)) (it + 3)) { s₁ with heap := h₁, toks := tk₀ } := by
    intro tk₀
    have hLs : @Ne Nat L (it + 1) ∧ @Ne Nat L it ∧ @Ne Nat L (it + 3) ∧ @Ne Nat L (it + 2) := lt3 L hLlt
    have hle : ∀ k : Nat, it ≤ it + k := fun k => Nat.le_add_right it k
    have d1 : @Ne Nat (it + 1) it := by omega
    have d2 : @Ne Nat (it + 1) (it + 3) := by omega
    have d3 : @Ne Nat it (it + 3) := by omega
    have d4 : @Ne Nat (it + 1) (it + 2) := by omega
    have d5 : @Ne Nat it (it + 2) := by omega
    refine codeAny_compLoop_pair
      (fun k s' => ∃ h' tk i ys m' own old, s' = { s₁ with heap := h', toks := tk } ∧ i ≤ vs.length ∧ k = vs.length + 1 - i ∧ ys.length = i ∧ IsEnum h' (it + 1) it (i : Nat) old ∧ h'.IsListIter it lF i ∧ Fr h₀ L h' m ∧ h'.Ns (it + 3) m' ∧
        News h₀ L h' ((it + 2, lst ys) :: (own ++ news)) ∧ (∀ p ∈ own ++ news, p.1 ≠ it + 1 ∧ p.1 ≠ it ∧ p.1 ≠ it + 3 ∧ p.1 ≠ it + 2) ∧ J i ys own) ?_ (vs.length + 1)
      ⟨h₁, tk₀, 0, [], _, [], .none, rfl, Nat.zero_le _, rfl, rfl, old _ _ he, hit.at (fun o e => old _ o e), F.keeps old, hns₁, fun p hp => ?_, near, hJ⟩
    rotate_left
    · rcases List.mem_cons.mp hp with rfl | hp
      · exact ⟨hD, Ne.symm hLs.2.2.2, none₀ _ (hle 2)⟩
      · exact ⟨old _ _ (N p hp).1, (N p hp).2⟩
    rintro k s' ⟨h', tk', i, ys, m', own, ov, rfl, hi, rfl, hyl, he', hit', F', hn', N', off, hJ'⟩
    have hmI : (lF, listOf vs.toArray nl) ∈ (it + 2, lst ys) :: (own ++ news) := List.mem_cons_of_mem _ (List.mem_append_right _ hm)
    by_cases hlt' : i < vs.length
    · refine W.item i _ _ _ (by simpa using hlt') ⟨⟨ov, he'⟩, hit', hlist N' hmI⟩ fun T vals h₂ tk₂ hPt hge hT hMid hk₂ => ?_
      obtain ⟨t, v, hv, rfl⟩ := hPt
      refine W.go _ _ _ i T _ _ _ hMid fun h₃ hst₃ hk₃ => ?_
      obtain ⟨⟨ov', he3⟩, hit3, hl3⟩ := hst₃
      have hTw := W.apart i T h₂ hMid
      have ht : IsTup h₃ T #[.int i t, v] := let ⟨o, e, r⟩ := hT; ⟨o, hk₃ T o hTw e, r⟩
      refine assign_Tuple_tuple hh ht rfl rfl fun h₅ hx5 => ?_
      have up5 : ∀ b o, h₃.get? b = some o → h₅.get? b = some o := fun b o e => hx5 b o (Nat.ne_of_lt (Heap.lt_size e)) e
      have to5 : ∀ b o, b ≠ it + 1 → b ≠ it → h'.get? b = some o → h₅.get? b = some o := fun b o n1 n2 e => by
        have nw : b ∉ [it + 1, it] := by simp only [List.mem_cons, List.not_mem_nil, or_false, not_or]; exact ⟨n1, n2⟩
        exact up5 b o (hk₃ b o nw (hk₂ b o nw e))
      refine assignInOrder_cons (wpAny_assign_Name (wpAny_storeName_local (lookup_relabel_local hx) (hn'.at' fun o e => to5 _ o (Ne.symm d2) (Ne.symm d3) e) (fun h₆ hn₆ hs₆ => ?_) (by simp [compEnvC, relabel, hkind])))
      refine assignInOrder_cons (wpAny_assign_Name (wpAny_storeName_local (lookup_relabel_local hx₂) hn₆ (fun h₇ hn₇ hs₇ => ?_) (by simp [compEnvC, relabel, hkind])))
      refine assignInOrder_nil ?_
      have up7 : ∀ b o, b ≠ it + 3 → h₅.get? b = some o → h₇.get? b = some o := fun b o nb e => hs₇.extBut b o nb (hs₆.extBut b o nb e)
      have to7 : ∀ b o, b ≠ it + 1 → b ≠ it → b ≠ it + 3 → h'.get? b = some o → h₇.get? b = some o := fun b o n1 n2 n3 e => up7 b o n3 (to5 b o n1 n2 e)
      have he7 : h₇.get? (it + 1) = some _ := up7 _ _ d2 (up5 _ _ he3)
      obtain ⟨oit, hoit, rit⟩ := hit3
      have hit7 := up7 _ _ d3 (up5 _ _ hoit)
      obtain ⟨oC, heC, hoC⟩ := ns_obj hn₇
      have nx : ∀ b, it ≤ b → ∀ o, h₀.get? b ≠ some o := fun b hb o e => by rw [none₀ b hb] at e; cases e
      have F₇ : Fr h₀ L h₇ m := ⟨F'.ns.at' fun o e => to7 _ o hLs.1 hLs.2.1 hLs.2.2.1 e, fun b o e => to7 b o (fun q => nx _ (hle 1) o (q ▸ e)) (fun q => nx _ (Nat.le_refl _) o (q ▸ e)) (fun q => nx _ (hle 3) o (q ▸ e)) (F'.keep b o e), F'.above⟩
      have N₇ : News h₀ L h₇ ((it + 1, _) :: (it, oit) :: (it + 3, oC) :: (it + 2, lst ys) :: (own ++ news)) := fun p hp => by
        rcases List.mem_cons.mp hp with rfl | hp
        · exact ⟨he7, Ne.symm hLs.1, none₀ _ (hle 1)⟩
        · rcases List.mem_cons.mp hp with rfl | hp
          · exact ⟨hit7, Ne.symm hLs.2.1, none₀ _ (Nat.le_refl _)⟩
          · rcases List.mem_cons.mp hp with rfl | hp
            · exact ⟨heC, Ne.symm hLs.2.2.1, none₀ _ (hle 3)⟩
            · have z := N' p hp
              rcases List.mem_cons.mp hp with rfl | hp
              · exact ⟨to7 _ _ (Ne.symm d4) (Ne.symm d5) n23 z.1, z.2⟩
              · have o := off p hp
                exact ⟨to7 _ _ o.1 o.2.1 o.2.2.1 z.1, z.2⟩
      have hvi : vs[i]? = some v := by simpa using hv
      refine wpAny_mono (step i ys own v t (it + 1) (it + 3) (it + 2) _ oit oC _ h₇ _ _ hvi hJ' hoC (by simp [hxx]) (by simp) F₇ N₇ off) (fun yv s₄ h₄ => ?_) fun _ _ e => e
      obtain ⟨h₄, tk₄, own', rfl, F₄, N₄, off₄, hJ₄⟩ := h₄
      have zD := (N₄ (it + 2, lst ys) (.tail _ (.tail _ (.tail _ (.head _))))).1
      have zC := (N₄ (it + 3, oC) (.tail _ (.tail _ (.head _)))).1
      have zI := (N₄ (it, oit) (.tail _ (.head _))).1
      have zE := (N₄ (it + 1, _) (.head _)).1
      refine append_at (hsz := by show ys.toArray.size ≤ sizeLine; rw [List.size_toArray, hyl]; exact Nat.le_trans hi hsz) zD fun h₈ hs₈ hD₈ => ?_
      refine ⟨vs.length + 1 - (i + 1), by omega, h₈, tk₄, i + 1, ys ++ [yv], _, own', ov', rfl, hlt', rfl, by rw [List.length_append, List.length_singleton, hyl], hs₈.extBut _ _ d4 zE, ⟨oit, hs₈.extBut _ _ d5 zI, rit⟩, F₄.change hs₈ (Ne.symm hLs.2.2.2) (none₀ _ (hle 2)), (hoC.ns zC).sameBut hs₈ (Ne.symm n23), fun p hp => ?_, off₄, hJ₄⟩
      rcases List.mem_cons.mp hp with rfl | hp
      · exact ⟨hD₈.trans (congrArg some (lst_snoc ys yv)), Ne.symm hLs.2.2.2, none₀ _ (hle 2)⟩
      · have z := N₄ p (.tail _ (.tail _ (.tail _ (.tail _ hp))))
        exact ⟨hs₈.extBut _ _ (off₄ p hp).2.2.2 z.1, z.2⟩
    · obtain rfl : i = vs.length := Nat.le_antisymm hi (Nat.not_lt.mp hlt')
      refine W.done _ _ _ ⟨⟨ov, by simpa using he'⟩, by simpa using hit', hlist N' hmI⟩ fun h₂ tk₂ hk₂ => ?_
      have to2 : ∀ b o, b ≠ it + 1 → b ≠ it → h'.get? b = some o → h₂.get? b = some o := fun b o n1 n2 e => hk₂ b o (by simp only [List.mem_cons, List.not_mem_nil, or_false, not_or]; exact ⟨n1, n2⟩) e
      have nx : ∀ b, it ≤ b → ∀ o, h₀.get? b ≠ some o := fun b hb o e => by rw [none₀ b hb] at e; cases e
      have F₂ : Fr h₀ L h₂ m := ⟨F'.ns.at' fun o e => to2 _ o hLs.1 hLs.2.1 e, fun b o e => to2 b o (fun q => nx _ (hle 1) o (q ▸ e)) (fun q => nx _ (Nat.le_refl _) o (q ▸ e)) (F'.keep b o e), F'.above⟩
      have N₂ : News h₀ L h₂ ((it + 2, lst ys) :: (own ++ news)) := fun p hp => by
        have z := N' p hp
        rcases List.mem_cons.mp hp with rfl | hp
        · exact ⟨to2 _ _ (Ne.symm d4) (Ne.symm d5) z.1, z.2⟩
        · exact ⟨to2 _ _ (off p hp).1 (off p hp).2.1 z.1, z.2⟩
      subst hLe
      have hn₂ : h₂.Ns (it + 3) m' := hn'.at' (fun o e => to2 _ o (Ne.symm d2) (Ne.symm d3) e)
      show wpAny _ A (assign (.Name y py) env (.ref (it + 2))) _ _ _
      refine wpAny_assign_Name (wpAny_storeName_local hy F₂.ns (fun h₃ hn₃ hs₃ => ?_) hpp)
      have hL₀ : h₀.get? env.locals = none := Heap.get?_none_of_le F₂.above
      have F₃ : Fr h₀ env.locals h₃ (fun z => if z = y then some (.ref (it + 2)) else m z) := ⟨hn₃, fun b o e => hs₃.extBut b o (fun q => by rw [q, hL₀] at e; cases e) (F₂.keep b o e), F₂.above⟩
      refine ⟨m', hn₂.sameBut hs₃ (Ne.symm hLs.2.2.1), fun h₄ hs₄ => ?_⟩
      refine fin ys _ h₄ _ own hJ' (F₃.change hs₄ (Ne.symm hLs.2.2.1) (none₀ _ (hle 3))) (fun p hp => ?_) (fun p hp => (off p hp).2.2.2)
      have z : h₃.get? p.1 = some p.2 := hs₃.extBut _ _ (N₂ p hp).2.1 (N₂ p hp).1
      refine ⟨hs₄.extBut _ _ ?_ z, (N₂ p hp).2⟩
      rcases List.mem_cons.mp hp with rfl | hp
      · exact n23
      · exact (off p hp).2.2.1
  exact codeAny_compStart_list (loop _) (W.self 0 _ _ _ ⟨⟨_, old _ _ he⟩, hit.at (fun o e => old _ o e), hlist (N.grown old) hm⟩ (loop _))

theorem enum_start {l : Addr} {items : Array Value} {n : Nat} {news : List (Addr × Obj)} {Q : Value → Shared → Prop} (F : Fr h₀ L s.heap m) (N : News h₀ L s.heap news) (hm : (l, listOf items n) ∈ news)
    (h : ∀ (it : Addr) (h' : Heap), Fr h₀ L h' m → News h₀ L h' news → IsEnum h' (it + 1) it 0 .none → h'.IsListIter it l 0 → h'.objs.size = it + 2 → (∀ p ∈ news, p.1 < it) → L < it → h₀.objs.size ≤ it → Q (.ref (it + 1)) { s with heap := h' }) :
    wpAny (model prog w) A (call (.type "enumerate") [.ref l]) Q E s := by
  refine call_enumerate_list (News.isList N hm) fun h' he hit hsize hk => ?_
  exact h _ h' (F.keeps hk) (N.grown hk) he hit hsize (fun p hp => Heap.lt_size (N p hp).1) F.ns.lt (Nat.le_trans F.above (Nat.le_of_lt F.ns.lt))
end
end Mine
end Mine
end

section
open PySem PySem.W PySem.Calls PyProof.Rows
theorem Mine.off_L2 {M : Model} {A : Around} {E : Value → Shared → Prop} {s : Shared} {Q : Flow → Shared → Prop} {env : Env} (h : Q .next s) : wpAny M A (execs [] env) Q E s := by
  w_top off
  try walk1
  first
    | exact h
    | exact wpAny_execs_nil h
end
section
open PySem PySem.W PySem.Calls PyProof.Rows Builtin Builtin.ObjectAttr PyProof.Rows.LCt PyProof.Rows.LCg
namespace Mine
namespace Mine

local macro_rules | `(tactic| k_room) => `(tactic| exact Nat.le_of_ble_eq_true rfl)

theorem look_eq {l : Frag} {a : Addr} {oc oc' : Value} {od od' : Option Addr} {d d' : FuncData} {sl sl' : Array (Option Value)} (h1 : List.lookup a l = some ⟨oc, od, .func d, sl⟩) (h2 : List.lookup a l = some ⟨oc', od', .func d', sl'⟩) : d = d' := by
  rw [h1] at h2; cases h2; rfl


/-- what the comprehension of the models has built after i turns -/
def MadeJ (w : World) (kd : Addr) (fvs : List Value) (news : List (Addr × Obj)) (i : Nat) (ys : List Value) (own : List (Addr × Obj)) : Prop :=
  ∃ recs : List MRec, recs.length = i ∧ ys = recs.map (fun r => Value.ref r.M) ∧ own = modsL w recs ∧ (∀ (j : Nat) (r : MRec), recs[j]? = some r → ModOk w r (j : Nat) ∧ fvs[j]? = some r.fv ∧ r.kd = kd) ∧ (own.map (·.1)).Nodup ∧ ∀ p ∈ own, ∀ q ∈ news, p.1 ≠ q.1

theorem MadeJ.nil {w : World} {kd : Addr} {fvs : List Value} {news : List (Addr × Obj)} : MadeJ w kd fvs news 0 [] [] := ⟨[], rfl, rfl, rfl, fun j r h => by simp at h, List.nodup_nil, fun _ h => nomatch h⟩

theorem MadeJ.snoc {w : World} {kd : Addr} {fvs : List Value} {news own : List (Addr × Obj)} {i : Nat} {ys : List Value} {r : MRec} (h : MadeJ w kd fvs news i ys own) (hr : ModOk w r (i : Nat)) (hv : fvs[i]? = some r.fv) (hk : r.kd = kd)
    (h1 : ∀ p ∈ own ++ news, p.1 < r.MF) (h2 : r.MF < r.MD) (h3 : r.MD < r.M) :
    MadeJ w kd fvs news (i + 1) (ys ++ [.ref r.M]) (own ++ modL w r.M r.MD r.MF r.kd r.t1 r.t2 r.oF) := by
  obtain ⟨recs, rfl, rfl, rfl, a, b, c⟩ := h
  have lF : ∀ p ∈ modsL w recs ++ news, @Ne Nat p.1 r.MF ∧ @Ne Nat p.1 r.MD ∧ @Ne Nat p.1 r.M := fun p hp => by
    have e1 := h1 p hp
    have e2 := Nat.lt_trans e1 h2
    exact ⟨Nat.ne_of_lt e1, Nat.ne_of_lt e2, Nat.ne_of_lt (Nat.lt_trans e2 h3)⟩
  refine ⟨recs ++ [r], by simp, by simp, by simp [modsL], ?_, ?_, ?_⟩
  · intro j q hq
    by_cases hj : j < recs.length
    · rw [List.getElem?_append_left hj] at hq; exact a j q hq
    · rw [List.getElem?_append_right (Nat.not_lt.mp hj)] at hq
      have : j - recs.length = 0 := by
        cases e : j - recs.length with
        | zero => rfl
        | succ n => rw [e] at hq; simp at hq
      rw [this] at hq
      simp at hq
      have ej : j = recs.length := by omega
      subst hq; rw [ej]
      exact ⟨hr, hv, hk⟩
  · rw [List.map_append, List.nodup_append]
    refine ⟨b, ?_, ?_⟩
    · have n1 : ¬ r.M = r.MD := Nat.ne_of_gt h3
      have n2 : ¬ r.MD = r.MF := Nat.ne_of_gt h2
      have n3 : ¬ r.M = r.MF := Nat.ne_of_gt (Nat.lt_trans h2 h3)
      simp [n1, n2, n3]
    · intro x hx y hy e
      obtain ⟨p, hp, rfl⟩ := List.mem_map.mp hx
      have := lF p (List.mem_append_left _ hp)
      subst e
      simp only [List.map_cons, List.map_nil, List.mem_cons, List.not_mem_nil, or_false] at hy
      rcases hy with hy | hy | hy
      · exact this.2.2 hy
      · exact this.2.1 hy
      · exact this.1 hy
  · intro p hp q hq
    rcases List.mem_append.mp hp with hp | hp
    · exact c p hp q hq
    · have := lF q (List.mem_append_right _ hq)
      simp only [List.mem_cons, List.not_mem_nil, or_false] at hp
      rcases hp with rfl | rfl | rfl
      · exact Ne.symm this.2.2
      · exact Ne.symm this.2.1
      · exact Ne.symm this.1

theorem made_end {w : World} {g h' : Heap} {L e it C D x' d' d1 kd l1 : Addr} {oe oit oC o' ck : Obj} {ys : List Value} {own news : List (Addr × Obj)} {t1 t2 t : Tok} {v : Value} {i tk : Nat} {fvs : List Value} {m : Str → Option Value} {s₁ : Shared}
    (hJ : MadeJ w kd fvs news i ys own) (off : ∀ p ∈ own ++ news, p.1 ≠ e ∧ p.1 ≠ it ∧ p.1 ≠ C ∧ p.1 ≠ D)
    (lt : ∀ p ∈ (l1, ck) :: (e, oe) :: (it, oit) :: (C, oC) :: (D, lst ys) :: (own ++ news), p.1 < d1)
    (kN : News g L h' ((x', instObj 80 d') :: (d', dictOf (txEs w kd d1 t1 t2) 2) :: (d1, o') :: (l1, ck) :: (e, oe) :: (it, oit) :: (C, oC) :: (D, lst ys) :: (own ++ news))) (kF : Fr g L h' m)
    (hdF : o'.IsDictOf (SK w) (modKvs v (i : Nat) t)) (lo : (d1 == sysModules) = false) (hv : fvs[i]? = some v) {P : Prop} (la : d1 < d' ∧ P) (lb : d' < x') :
    EnumEnd g L m s₁ news e oe it oit C oC D ys (fun y own' => MadeJ w kd fvs news (i + 1) (ys ++ [y]) own') (.ref x') { s₁ with heap := h', toks := tk } := by
  refine ⟨h', tk, _, rfl, kF, ?xn, ?xo, MadeJ.snoc (r := { M := x', MD := d', MF := d1, kd := kd, t1 := t1, t2 := t2, oF := o', fv := v, ti := t }) hJ ⟨hdF, lo⟩ hv rfl (fun p hp => lt p (.tail _ (.tail _ (.tail _ (.tail _ (.tail _ hp)))))) la.1 lb⟩
  case xn =>
    intro p hp
    refine kN p ?_
    simp only [List.mem_cons, List.mem_append, List.not_mem_nil, or_false] at hp ⊢; grind
  case xo =>
    have a1 := lt (e, oe) (.tail _ (.head _))
    have a2 := lt (it, oit) (.tail _ (.tail _ (.head _)))
    have a3 := lt (C, oC) (.tail _ (.tail _ (.tail _ (.head _))))
    have a4 := lt (D, lst ys) (.tail _ (.tail _ (.tail _ (.tail _ (.head _)))))
    have up : ∀ b : Nat, b < d1 → @Ne Nat d1 b ∧ @Ne Nat d' b ∧ @Ne Nat x' b := fun b hb => ⟨Nat.ne_of_gt hb, Nat.ne_of_gt (Nat.lt_trans hb la.1), Nat.ne_of_gt (Nat.lt_trans (Nat.lt_trans hb la.1) lb)⟩
    intro p hp
    rw [List.append_assoc] at hp
    rcases List.mem_append.mp hp with hp | hp
    · exact off p (List.mem_append_left _ hp)
    rcases List.mem_append.mp hp with hp | hp
    · simp only [List.mem_cons, List.not_mem_nil, or_false] at hp
      rcases hp with rfl | rfl | rfl
      · exact ⟨(up e a1).2.2, (up it a2).2.2, (up C a3).2.2, (up D a4).2.2⟩
      · exact ⟨(up e a1).2.1, (up it a2).2.1, (up C a3).2.1, (up D a4).2.1⟩
      · exact ⟨(up e a1).1, (up it a2).1, (up C a3).1, (up D a4).1⟩
    · exact off p (List.mem_append_right _ hp)

local macro_rules | `(tactic| k_all) => `(tactic| assumption)

section
variable (w : World) (mean : ExcName → Option Value) (mg mb : Str → Option Value)

theorem made_step {oc : Value} {od : Option Addr} {qual : Str} {params : Arguments} {body : List Stmt} {scope : Scope} {dV kV doc pm cdv ct : Value} {an : Option Addr} {osl : Array (Option Value)}
    (hlk : (hd.heap_39 w.params).lookup 226 = some ⟨oc, od, .func (fnOf (Str.ofString "law") qual params body scope dV kV doc pm an cdv ct), osl⟩)
    {st1 st2 st3 : Stmt} {rest : List Stmt} {ts : List Expr} {elt : Expr} {gs : List Comprehension} {cscope : Scope} {cpos spos : Pos} (hb : body = st1 :: st2 :: st3 :: .Assign ts (.ListComp elt gs cscope cpos) spos :: rest)
    {fa : Addr} {cd : Value} {g : Heap} {L it kd : Addr} {s₁ : Shared} {ck : Obj} {news : List (Addr × Obj)} {m : Str → Option Value} {fvs : List Value}
    (B : Below callerA g [] g) (X : (hd.heap_39 w.params).In g) (T : Top hd.view_39 (looseW hd.view_39 [Str.ofString "TextXObject"]) mean mg mb g)
    (hck : (L + 1, ck) ∈ news) (dck : ck.data = .cell (some (.ref kd))) :
    EnumStep PySem.Challenge.rw_ez0369_01.row.prog w (callerA.deeper (envOfC qual scope L fa cd)) g L m (envOfC qual scope L fa cd) elt (Str.ofString "at") (Str.ofString "name") cscope [(Str.ofString "kind", L + 1)] s₁ news fvs it (MadeJ w kd fvs news) := by
  revert hlk
  k_fill
  intro hlk
  have e := look_eq (by k_is) hlk
  simp only [fnOf, fnX, Obj.mk.injEq, Data.func.injEq, FuncData.mk.injEq] at e
  obtain ⟨-, rfl, -, e4, rfl, -⟩ := e
  cases e4
  simp only [List.cons.injEq, Stmt.Assign.injEq, Expr.ListComp.injEq] at hb
  obtain ⟨-, -, -, ⟨-, ⟨rfl, -, rfl, -⟩, -⟩, -⟩ := hb
  clear hlk
  intro i ys own v t e C D oe oit oC m₂ h tk E' hv hJ hC hx1 hx2 F₂ N₂ off
  have N₃ := newsHead (extra := [(L + 1, ck)]) N₂ (fun p hp => by rw [List.mem_singleton.mp hp]; exact .tail _ (.tail _ (.tail _ (.tail _ (List.mem_append_right _ hck)))))
  dsimp only [List.cons_append, List.nil_append] at N₃
  iterate 7 (first | walk1 | (dsimp only; walk1))
  refine' kdn_str ?q ?F ?N ?b ?a ?l ?e ?n ?_; (case q => rfl); (case F => k_asm); (case N => k_asm); (case b => exact Top.nolimit (by k_asm)); (case a => rfl); (case l => rfl); (case e => exact List.cons_ne_nil _ _); (case n => exact Nat.le_of_ble_eq_true rfl)
  intro d1 h1 o1 F1 N1 lt1 lo1 hd1
  have hoff1 : ∀ p ∈ own ++ news, p.1 ≠ d1 := fun p hp => Nat.ne_of_lt (lt1 p (.tail _ (.tail _ (.tail _ (.tail _ (.tail _ hp))))))
  have lt1' := lt1
  k_lt lt1
  k_steps
  rename Obj.IsDictOf _ _ _ => hdF
  rename (d1 < _ ∧ _) => la
  rename (_ < _) => lb
  rename News _ _ _ _ => kN
  rename Fr _ _ _ _ => kF
  exact made_end hJ off lt1' kN kF hdF lo1 hv la lb
end
end Mine
end Mine
end

section
open PySem PySem.W PySem.Calls PyProof.Rows
theorem Mine.off_L3 {M : Model} {A : Around} {E : Value → Shared → Prop} {s : Shared} {Q : Flow → Shared → Prop} {env : Env} (h : Q .next s) : wpAny M A (execs [] env) Q E s := by
  w_top off
  try walk1
  first
    | exact h
    | exact wpAny_execs_nil h
end
section
open PySem PySem.W PySem.Calls PyProof.Rows Builtin Builtin.ObjectAttr PyProof.Rows.LCt PyProof.Rows.LCg
namespace Mine
namespace Mine

local macro_rules | `(tactic| k_room) => `(tactic| exact Nat.le_of_ble_eq_true rfl)

theorem four_of {α : Type} : ∀ {l : List α}, l.length = 4 → ∃ a b c d, l = [a, b, c, d]
  | [a, b, c, d], _ => ⟨a, b, c, d, rfl⟩
  | [], h => by simp at h
  | [_], h => by simp at h
  | [_, _], h => by simp at h
  | [_, _, _], h => by simp at h
  | _ :: _ :: _ :: _ :: _ :: _, h => by simp at h

section
variable (w : World) (mean : ExcName → Option Value) (mg mb : Str → Option Value)


end
end Mine
end Mine
end

section
open PySem PySem.W PySem.Calls PyProof.Rows
theorem Mine.off_P1 {M : Model} {A : Around} {E : Value → Shared → Prop} {s : Shared} {Q : Flow → Shared → Prop} {env : Env} (h : Q .next s) : wpAny M A (execs [] env) Q E s := by
  w_top off
  try walk1
  first
    | exact h
    | exact wpAny_execs_nil h
end
section
open PySem PySem.W PySem.Calls PyProof.Rows
namespace Mine
namespace Mine

/-- the abstract store: in place if the key is there, else at the end -/
def putA (l : List (Str × Int)) (k : Str) (i : Int) : List (Str × Int) := if l.any (fun p => p.1 = k) then l.map (fun p => if p.1 = k then (p.1, i) else p) else l ++ [(k, i)]

theorem stored_absR (ra : Int → Addr) (l : List (Str × Int)) (k : Str) (i : Int) : stored (absR ra l) k (.ref (ra i)) = absR ra (putA l k i) := by
  unfold stored putA absR
  have e : (l.map fun p => (p.1, Value.ref (ra p.2))).any (fun kv => decide (kv.1 = k)) = l.any fun p => decide (p.1 = k) := by rw [List.any_map]; rfl
  rw [e]
  split
  · rw [List.map_map, List.map_map]
    refine List.map_congr_left fun p _ => ?_
    by_cases h : p.1 = k <;> simp [h]
  · simp

theorem stored_absO (kvs : List (Str × Value)) (k : Str) (i : Int) (t : Tok) : absO (stored kvs k (.int i t)) = putA (absO kvs) k i := by
  unfold stored putA absO
  have e : (kvs.map fun p => (p.1, intOf p.2)).any (fun kv => decide (kv.1 = k)) = kvs.any fun p => decide (p.1 = k) := by rw [List.any_map]; rfl
  rw [e]
  split
  · rw [List.map_map, List.map_map]
    refine List.map_congr_left fun p _ => ?_
    by_cases h : p.1 = k <;> simp [h, intOf]
  · simp [intOf]

theorem ownOk_stored {kvs : List (Str × Value)} (h : OwnOk kvs) (k : Str) (i : Int) (t : Tok) : OwnOk (stored kvs k (.int i t)) := by
  unfold stored
  intro p hp
  split at hp
  · obtain ⟨q, hq, rfl⟩ := List.mem_map.mp hp
    by_cases e : q.1 = k
    · rw [if_pos e]; exact ⟨i, t, rfl⟩
    · rw [if_neg e]; exact h q hq
  · rcases List.mem_append.mp hp with hp | hp
    · exact h p hp
    · rw [List.mem_singleton.mp hp]; exact ⟨i, t, rfl⟩

theorem putA_len (l : List (Str × Int)) (k : Str) (i : Int) : (putA l k i).length ≤ l.length + 1 := by
  unfold putA; split <;> simp
theorem putA_mem {l : List (Str × Int)} {k : Str} {i : Int} {p : Str × Int} (h : p ∈ putA l k i) : (p.1 = k ∧ p.2 = i) ∨ p ∈ l := by
  unfold putA at h
  split at h
  · obtain ⟨q, hq, rfl⟩ := List.mem_map.mp h
    by_cases e : q.1 = k
    · rw [if_pos e]; exact Or.inl ⟨e, rfl⟩
    · rw [if_neg e]; exact Or.inr hq
  · rcases List.mem_append.mp h with h | h
    · exact Or.inr h
    · rw [List.mem_singleton.mp h]; exact Or.inl ⟨rfl, rfl⟩
end Mine
end Mine
end

section
open PySem PySem.W PySem.Calls PyProof.Rows
theorem Mine.off_P2 {M : Model} {A : Around} {E : Value → Shared → Prop} {s : Shared} {Q : Flow → Shared → Prop} {env : Env} (h : Q .next s) : wpAny M A (execs [] env) Q E s := by
  w_top off
  try walk1
  first
    | exact h
    | exact wpAny_execs_nil h
end
section
open PySem PySem.W PySem.Calls PyProof.Rows
namespace Mine
namespace Mine

theorem lastS_eq (xs : List Str) (k : Str) : k ∈ lastS xs ↔ xs.getLast? = some k := by
  unfold lastS
  rcases List.eq_nil_or_concat xs with rfl | ⟨ys, y, rfl⟩
  · simp
  · simp [eq_comm]

theorem lastKey_absR {ra : Int → Addr} {l : List (Str × Int)} {i : Int} (inj : ∀ p ∈ l, ra p.2 = ra i → p.2 = i) : lastKey (absR ra l) (.ref (ra i)) = (namesA l i).getLast? := by
  unfold lastKey absR namesA
  rw [List.filter_map, List.getLast?_map, List.getLast?_map, Option.map_map]
  have e : l.filter ((fun p => decide (p.2 = Value.ref (ra i))) ∘ fun p => (p.1, Value.ref (ra p.2))) = l.filter (fun p => decide (p.2 = i)) := by
    refine List.filter_congr fun p hp => ?_
    simp only [Function.comp, Value.ref.injEq, decide_eq_decide]
    exact ⟨inj p hp, fun e => by rw [e]⟩
  rw [e]; rfl

theorem removed_absR {ra : Int → Addr} {l : List (Str × Int)} {i : Int} (inj : ∀ p ∈ l, ra p.2 = ra i → p.2 = i) : removed (absR ra l) (.ref (ra i)) = absR ra (delA l i) := by
  unfold removed
  rw [lastKey_absR inj]
  unfold delA
  cases h : (namesA l i).getLast? with
  | none =>
    have e : l.filter (fun q => !decide (q.1 ∈ lastS (namesA l i))) = l := by
      rw [List.filter_eq_self]
      intro q _
      simp [lastS_eq, h]
    rw [e]
  | some k =>
    have e : l.filter (fun q => !decide (q.1 ∈ lastS (namesA l i))) = l.filter (fun q => decide (q.1 ≠ k)) := by
      refine List.filter_congr fun q _ => ?_
      simp [lastS_eq, h, eq_comm]
    rw [e]
    show without (absR ra l) k = _
    unfold without absR
    rw [List.filter_map]; rfl
end Mine
end Mine
end

section
open PySem PySem.W PySem.Calls PyProof.Rows
theorem Mine.off_P3 {M : Model} {A : Around} {E : Value → Shared → Prop} {s : Shared} {Q : Flow → Shared → Prop} {env : Env} (h : Q .next s) : wpAny M A (execs [] env) Q E s := by
  w_top off
  try walk1
  first
    | exact h
    | exact wpAny_execs_nil h
end
section
open PySem PySem.W PySem.Calls PyProof.Rows
namespace Mine
namespace Mine
theorem delA_mem {l : List (Str × Int)} {i : Int} {p : Str × Int} (h : p ∈ delA l i) : p ∈ l := (List.mem_filter.mp h).1
theorem delA_len (l : List (Str × Int)) (i : Int) : (delA l i).length ≤ l.length := List.length_filter_le _ _
def delsA (l : List (Str × Int)) (is : List Int) : List (Str × Int) := is.foldl delA l
theorem delsA_mem {is : List Int} : ∀ {l : List (Str × Int)} {p : Str × Int}, p ∈ delsA l is → p ∈ l := by
  induction is with
  | nil => intro l p h; exact h
  | cons i is ih => intro l p h; exact delA_mem (ih h)
theorem removeds_absR {ra : Int → Addr} {is : List Int} : ∀ {l : List (Str × Int)}, (∀ p ∈ l, ∀ i ∈ is, ra p.2 = ra i → p.2 = i) → removeds (absR ra l) (is.map ra) = absR ra (delsA l is) := by
  induction is with
  | nil => intro l _; rfl
  | cons i is ih =>
    intro l h
    show removeds (removed (absR ra l) (.ref (ra i))) (is.map ra) = absR ra (delsA (delA l i) is)
    rw [removed_absR fun p hp => h p hp i (.head _)]
    exact ih fun p hp j hj => h p (delA_mem hp) j (.tail _ hj)
end Mine
end Mine
end

section
open PySem PySem.W PySem.Calls PyProof.Rows
theorem Mine.off_H1 {M : Model} {A : Around} {E : Value → Shared → Prop} {s : Shared} {Q : Flow → Shared → Prop} {env : Env} (h : Q .next s) : wpAny M A (execs [] env) Q E s := by
  w_top off
  try walk1
  first
    | exact h
    | exact wpAny_execs_nil h
end
section
open PySem PySem.W PySem.Calls PyProof.Rows
namespace Mine
namespace Mine

theorem h_entry_hasattr : entryFor table "hasattr" = some Builtin.«hasattr» := entryFor_of_fast (by kernel_rfl)
theorem h_args_hasattr (a b : Value) : argsOk "hasattr" ⟨[a, b], []⟩ := by unfold argsOk; kernel_rfl

theorem hasattr_open {prog : Program} {w : World} {A : Around} {E : Value → Shared → Prop} {s : Shared} {x C : Addr} {ox : Obj} {od : Option Obj} {name : Str} {t : Tok} {Q : Value → Shared → Prop}
    (I : InstAt s.heap x ox C od) (hm : Looks (model prog w) s.heap (isInstance (.ref x) (.type "module")) false)
    (h : wpAny (model prog w) A.in1 (getAttrBy? (.ref x) (.str name t)) (fun r s' => Q (.bool r.isSome) s') E s) :
    wpAny (model prog w) A (call (.builtin "hasattr") [.ref x, .str name t]) Q E s := by
  refine call_function_entry (by decide +kernel) (by decide +kernel) h_entry_hasattr (h_args_hasattr _ _) ?_
  unfold Builtin.«hasattr»
  refine wpAny_bind (wpAny_of_eq (a := [.ref x, .str name t]) (by first | rfl | kernel_rfl) ?_)
  dsimp only
  refine wpAny_bind (wpAny_of_eq (a := ()) (by first | rfl | kernel_rfl) ?_)
  rw [if_neg (show ¬ ((Value.ref x == Value.builtin "__main__.__loader__#opaque") = true) from Bool.false_ne_true)]
  refine wpAny_bind (I.type.here ?_)
  dsimp only
  refine wpAny_bind (wpAny_bind (m := asStr? (.str name t)) (wpAny_pure ?_))
  refine wpAny_bind (m := isInstance (.ref x) (.type "module")) (hm.here ?_)
  refine wpAny_pure ?_
  rw [if_neg (by decide)]
  refine wpAny_bind (wpAny_mono h (fun r s' hr => ?_) fun _ _ e => e)
  rw [if_neg (by simp)]
  exact wpAny_pure ⟨_, rfl, hr⟩
end Mine
end Mine
end

section
open PySem PySem.W PySem.Calls PyProof.Rows
theorem Mine.off_H2 {M : Model} {A : Around} {E : Value → Shared → Prop} {s : Shared} {Q : Flow → Shared → Prop} {env : Env} (h : Q .next s) : wpAny M A (execs [] env) Q E s := by
  w_top off
  try walk1
  first
    | exact h
    | exact wpAny_execs_nil h
end
section
open PySem PySem.W PySem.Calls PyProof.Rows Builtin Builtin.ObjectAttr
namespace Mine
namespace Mine

/-- what the look of hasattr makes of an error -/
def TryEnd (M : Model) (A : Around) (Q : Option Value → Shared → Prop) (E : Value → Shared → Prop) (e : Value) (s' : Shared) : Prop :=
  wpAny M A (isInstance e (.type "AttributeError")) (fun b s₂ => if b = true then Q none s₂ else E e s₂) E s'

theorem hook_try {prog : Program} {w : World} {A : Around} {E : Value → Shared → Prop} {s : Shared} {K : Frag} {x C f : Addr} {ox od : Obj} {name : Str} {t : Tok} {Q : Option Value → Shared → Prop} (X : K.In s.heap) (I : InstAt s.heap x ox C (some od)) (hga : findIn K (.ref C) "__getattribute__" = some (some (.builtin "object.__getattribute__")))
    (hf : findObj K C (some od) name = some .missing) (hk : findIn K (.ref C) "__getattr__" = some (some (.ref f))) (ht : isFn K (.ref f) = true)
    (h : wpAny (model prog w) A.in1 (call (.ref f) [.ref x, .str name t]) (fun v s' => wpAny (model prog w) A (handedOut v) (fun v s'' => Q (some v) s'') (TryEnd (model prog w) A Q E) s') (TryEnd (model prog w) A Q E) s) :
    wpAny (model prog w) A (getAttrBy? (.ref x) (.str name t)) Q E s := by
  have L0 := I.type (M := model prog w)
  have L1 := looks_findIn (M := model prog w) X hga
  have L2 := looks_find (M := model prog w) X I hf
  have L3 := looks_findIn (M := model prog w) X hk
  have L4 := bind_fn (M := model prog w) X (.ref x) (beq_iff_eq.mp ht)
  unfold getAttrBy?
  refine wpAny_bind (wpAny_attempt ?_)
  have key : wpAny (model prog w) A (getAttrBy (.ref x) (.str name t) false) (fun v s'' => Q (some v) s'') (TryEnd (model prog w) A Q E) s := by
    obtain ⟨hh, g, d, tk, os⟩ := s
    unfold getAttrBy
    refine wpAny_holding (wpAny_bind (L0.at (wpAny_bind (L1.at ?_))))
    show wpAny _ _ (getAttrEveryday _ _ _) _ _ _
    refine wpAny_bind (wpAny_onRaise (wpAny_runValue (codeAny_builtin F.plainObj_entry_getattr_hooked ?_)))
    refine wpAny_bind (wpAny_pure (wpAny_bind (L0.at (wpAny_bind (L2.at (wpAny_bind (L3.at ?_)))))))
    show wpAny _ _ (byHook (.ref x) (.str name t) (.ref f)) _ _ _
    refine wpAny_bind (L4.at ?_)
    refine wpAny_bind (wpAny_mono h (fun v s' z => wpAny_bind (wpAny_rule (wpAny_pure z))) fun e s' z => ?_)
    exact wpAny_pure z
  refine wpAny_mono key (fun v s' z => wpAny_pure z) fun e s' z => ?_
  refine wpAny_bind (wpAny_mono z (fun b s₂ hb => ?_) fun _ _ e => e)
  cases b with
  | true => exact wpAny_pure hb
  | false => exact wpAny_throw hb
end Mine
end Mine
end

section
open PySem PySem.W PySem.Calls PyProof.Rows
theorem Mine.off_H3 {M : Model} {A : Around} {E : Value → Shared → Prop} {s : Shared} {Q : Flow → Shared → Prop} {env : Env} (h : Q .next s) : wpAny M A (execs [] env) Q E s := by
  w_top off
  try walk1
  first
    | exact h
    | exact wpAny_execs_nil h
end
section
open PySem PySem.W PySem.Calls PyProof.Rows Builtin Builtin.ObjectAttr
namespace Mine
namespace Mine
section
variable {w : World} {A A₀ : Around} {E : Value → Shared → Prop} {s : Shared} {base h₀ : Heap} {L : Addr} {m : Str → Option Value} {outer : List Env} {env : Env} {news : List (Addr × Obj)} {mean : ExcName → Option Value} {mg mb : Str → Option Value}
  {Q : Value → Shared → Prop}

theorem has_hit {M MD MF kd : Addr} {t1 t2 t : Tok} {oF : Obj} {kvs : List (Str × Value)} {x : Str} {v : Value}
    (B : Below A₀ base outer h₀) (F : Fr h₀ L s.heap m) (X : (hd.heap_39 w.params).In h₀) (N : News h₀ L s.heap news)
    (T : Top hd.view_39 (looseW hd.view_39 [Str.ofString "TextXObject"]) mean mg mb h₀)
    (hA : A.frames = some (env :: outer)) (hf : env.frame = some L) (hke : env.scope.kind = .function) (hh : A.handled = none) (hdp : A.depth ≤ 600) (hun : A.units + 2 ≤ 2000)
    (m1 : (M, instObj 80 MD) ∈ news) (m2 : (MD, dictOf (txEs w kd MF t1 t2) 2) ∈ news) (m3 : (MF, oF) ∈ news)
    (hF : oF.IsDictOf (PySem.strKind PySem.Challenge.rw_ez0369_01.row.prog w) kvs) (hv : valueAt kvs x = some v) (lo : (MF == sysModules) = false)
    (hmod : mroIn (hd.heap_39 w.params) 80 (.type "module") = some false)
    (hga : findIn (hd.heap_39 w.params) (.ref 80) "__getattribute__" = some (some (.builtin "object.__getattribute__")))
    (hk : findIn (hd.heap_39 w.params) (.ref 80) "__getattr__" = some (some (.ref 77))) (ht : isFn (hd.heap_39 w.params) (.ref 77) = true) (hdc : hasDictIn (hd.heap_39 w.params) 80 = true)
    (ha : findIn (hd.heap_39 w.params) (.ref 80) x = some none) (hc : copiedNames.contains x = false) (hl : getL x (txEs w kd MF t1 t2) = some none) (hh' : handedIn v = true)
    (ret : ∀ h' tk', Fr h₀ L h' m → News h₀ L h' news → (∀ b o, s.heap.get? b = some o → h'.get? b = some o) → Q (.bool true) { s with heap := h', toks := tk' }) :
    wpAny (model PySem.Challenge.rw_ez0369_01.row.prog w) A (call (.builtin "hasattr") [.ref M, .str x t]) Q E s := by
  have I := InstAt.of_news N m1 m2
  refine hasattr_open I (I.type.andThen (looks_mroIn (X.keeps F.keep) hmod)) ?_
  refine hook_try (X.keeps F.keep) I hga (findObj_missing hdc ha hc hl) hk ht ?_
  refine Con.useRO (A := A.in1.in1) (con_getattr w mean mg mb M MD MF kd t1 t2 t oF kvs x v hF hv lo) B F X N T hA hf hke hh hdp hun ?_ ?_
  · intro q hq
    simp only [List.mem_cons, List.not_mem_nil, or_false] at hq
    rcases hq with rfl | rfl | rfl <;> assumption
  · rintro v' h' tk' rfl F' N' hall
    exact handed_on hh' (ret h' tk' F' N' hall)
end
end Mine
end Mine
end

section
open PySem PySem.W PySem.Calls PyProof.Rows
theorem Mine.off_I1 {M : Model} {A : Around} {E : Value → Shared → Prop} {s : Shared} {Q : Flow → Shared → Prop} {env : Env} (h : Q .next s) : wpAny M A (execs [] env) Q E s := by
  w_top off
  try walk1
  first
    | exact h
    | exact wpAny_execs_nil h
end
section
open PySem PySem.W PySem.Calls PyProof.Rows Builtin Builtin.ObjectAttr PyProof.Rows.LCt PyProof.Rows.LCg
namespace Mine
namespace Mine

local macro_rules | `(tactic| k_room) => `(tactic| exact Nat.le_of_ble_eq_true rfl)
local macro_rules | `(tactic| walk_at "getAttr ref") => `(tactic| (k_here; k_dflt (refine' attr_hit ?B ?F ?X ?N ?T ?hA ?hf ?hke ?hh ?hdp ?hun ?m1 ?m2 ?m3 ?hF ?hv ?lo ?hga ?hk ?ht ?hdc ?ha ?hc ?hl ?hh2 ?_; (case hA => exact rfl); (case hf => exact rfl); (case hke => exact rfl); (case hh => exact rfl); (case hdp => exact Nat.le_of_ble_eq_true rfl); (case hun => exact Nat.le_of_ble_eq_true rfl); (case B => k_asm); (case F => k_asm); (case X => k_asm); (case N => k_asm); (case T => k_asm); (case m1 => k_mem); (case m2 => k_mem); (case m3 => k_mem); (case hF => assumption); (case hv => assumption); (case lo => assumption); (case hga => k_is); (case hk => k_is); (case ht => k_is); (case hdc => k_is); (case ha => k_is); (case hc => decide +kernel); (case hl => k_get); (case hh2 => k_handed); k_whole); intro h' tk' F' N' keep'; (try dsimp only at keep'); (try dsimp only); (try k_sweep)))

theorem eqAt_tx {w : World} {A : Around} {s : Shared} {x y dx dy : Addr} (X : (hd.heap_39 w.params).In s.heap) (hx : s.heap.get? x = some (instObj 80 dx)) (hy : s.heap.get? y = some (instObj 80 dy)) (hu : A.units < cLine) (hne : x ≠ y) : SeqAt.EqAt A s (.ref x) (.ref y) false := by
  refine SeqAt.EqAt.of_refs hne ?_
  intro prog w' E Q hq
  obtain ⟨hp, g, d, t, os⟩ := s
  exact richCompare_eq_other F.cmp_object F.cmp_object (tx_cmp X hx) (tx_cmp X hy) hne hu hq

section
variable (w : World) (mean : ExcName → Option Value) (mg mb : Str → Option Value) (BS BD BF kd : Addr) (t1 t2 : Tok) (oB : Obj) (fv atv : Value) (G GD RL : Addr) (g1 g2 : Tok) (rA : Rep) (c : Int) (tc : Tok) (oA : Obj) (kvs : List (Str × Value)) (ms : List (Addr × Addr))

/-- get_included_models of an object that has a repository -/
theorem con_inc (hB : oB.IsDictOf (SK w) [(Str.ofString "_tx_filename", fv), (Str.ofString "_tx_model_repository", .ref G), (Str.ofString "at", atv)]) (loB : (BF == sysModules) = false)
    (hA : oA.IsDictOf (SK w) kvs) (okA : KvsOk ms kvs) (loA : (rA.D == sysModules) = false) (hnot : ∀ p ∈ kvs, p.2 ≠ .ref BS) :
    Con 570 1700 w mean mg mb 204 [.ref BS] (modL w BS BD BF kd t1 t2 oB ++ (gloL w G GD RL rA.R g1 g2 ++ (RepL w rA c tc oA ++ msL ms)))
      (fun r sm => ∃ (LI : Addr) (n : Nat), r = .ref LI ∧ (∀ q ∈ modL w BS BD BF kd t1 t2 oB ++ (gloL w G GD RL rA.R g1 g2 ++ (RepL w rA c tc oA ++ msL ms)), @Ne Nat q.1 LI) ∧ sm = (LI, listOf (kvs.map Prod.snd ++ [Value.ref BS]).toArray n) :: (modL w BS BD BF kd t1 t2 oB ++ (gloL w G GD RL rA.R g1 g2 ++ (RepL w rA c tc oA ++ msL ms)))) := by
  unfold Con
  k_fill
  intro envs base g s Rs B hk hz N X T hret
  refine enterP hk hz N X T (by k_is) (by k_is) (Nat.le_of_ble_eq_true rfl) (BindsTo.of_eq rfl) (locs rfl) (fun L' h₁ F' N' => ?_) rfl rfl rfl (by decide)
  dsimp only [modL, gloL, RepL, repL, List.cons_append, List.nil_append] at N' hret
  have hv : valueAt [(Str.ofString "_tx_filename", fv), (Str.ofString "_tx_model_repository", .ref G), (Str.ofString "at", atv)] (Str.ofString "_tx_model_repository") = some (.ref G) := rfl
  k_steps
  refine' has_hit ?B ?F ?X ?N ?T ?hA ?hf ?hke ?hh ?hdp ?hun ?m1 ?m2 ?m3 hB hv loB ?hmod ?hga ?hk ?ht ?hdc ?ha ?hc ?hl rfl ?_
  (case hA => exact rfl); (case hf => exact rfl); (case hke => exact rfl); (case hh => exact rfl); (case hdp => exact Nat.le_of_ble_eq_true rfl); (case hun => exact Nat.le_of_ble_eq_true rfl); (case B => k_asm); (case F => k_asm); (case X => k_asm); (case N => k_asm); (case T => k_asm); (case m1 => k_mem); (case m2 => k_mem); (case m3 => k_mem); (case hmod => k_is); (case hga => k_is); (case hk => k_is); (case ht => k_is); (case hdc => k_is); (case ha => k_is); (case hc => decide +kernel); (case hl => k_get)
  intro h2 tk2 F2 N2 keep2
  (try k_sweep)
  k_steps
  refine list_repo B (by k_asm) X (by k_asm) T (by exact rfl) (by exact rfl) (by exact rfl) (by exact rfl) (Nat.le_of_ble_eq_true rfl) (Nat.le_of_ble_eq_true rfl) (by k_mem) (by k_mem) (by k_mem) hA loA okA.1 (by k_is) (by k_is) (by k_is) (by k_is) ?_
  intro LI n h3 tk3 F3 N3 lt3
  k_steps
  (rename Fr _ _ _ _ => F3); (rename News _ _ _ _ => N3)
  have X3 := X.keeps F3.keep
  have hBS := (N3 (BS, instObj 80 BD) (by k_mem)).1
  refine SeqAt.notIn_listAt (fun _ => false) (items := (kvs.map (·.2)).toArray) ⟨_, (N3 _ (.head _)).1, rfl, _, rfl⟩ (fun y hy => ?_) ?_
  · rw [List.mem_toArray] at hy
    obtain ⟨p, hp, rfl⟩ := List.mem_map.mp hy
    obtain ⟨a, da, e, hm⟩ := okA.2.1 p hp
    have ha := (N3 (a, instObj 80 da) (.tail _ (.tail _ (.tail _ (.tail _ (.tail _ (.tail _ (.tail _ (.tail _ (.tail _ (List.mem_map.mpr ⟨_, hm, rfl⟩))))))))))).1
    rw [e]
    exact eqAt_tx X3 ha hBS (Nat.le_of_ble_eq_true rfl) (fun q => hnot p hp (by rw [e, q]))
  rw [show (kvs.map (·.2)).toArray.any (fun _ => false) = false from by simp]
  k_steps
  (rename Fr _ _ _ _ => F4); (rename News _ _ _ _ => N4)
  have zL := N4 (LI, listOf (kvs.map (·.2)).toArray n) (by k_mem)
  refine append_at (hsz := by rw [List.size_toArray, List.length_map, sizeLine_eq]; have := okA.1; omega) zL.1 fun h5 hs5 hD5 => ?_
  have F5 := F4.change hs5 zL.2.1 zL.2.2
  have N5 : News g L' h5 ((LI, listOf (kvs.map Prod.snd ++ [Value.ref BS]).toArray (n + 1)) :: (modL w BS BD BF kd t1 t2 oB ++ (gloL w G GD RL rA.R g1 g2 ++ (RepL w rA c tc oA ++ msL ms)))) := fun q hq => by
    rcases List.mem_cons.mp hq with rfl | hq
    · exact ⟨by rw [hD5]; simp [W.listOf], zL.2⟩
    · have z := N4 q (.tail _ hq)
      exact ⟨hs5.extBut _ _ (Nat.ne_of_lt (lt3 q hq)) z.1, z.2⟩
  k_steps
  exact hret _ _ _ _ ⟨LI, n + 1, rfl, fun q hq => Nat.ne_of_lt (lt3 q hq), rfl⟩ (Fr.keep F5) (newsSmall N5)
end
end Mine
end Mine
end

section
open PySem PySem.W PySem.Calls PyProof.Rows
theorem Mine.off_H4 {M : Model} {A : Around} {E : Value → Shared → Prop} {s : Shared} {Q : Flow → Shared → Prop} {env : Env} (h : Q .next s) : wpAny M A (execs [] env) Q E s := by
  w_top off
  try walk1
  first
    | exact h
    | exact wpAny_execs_nil h
end
section
open PySem PySem.W PySem.Calls PyProof.Rows Builtin Builtin.ObjectAttr
namespace Mine
namespace Mine
theorem miss_by {prog : Program} {w : World} {A : Around} {E : Value → Shared → Prop} {s : Shared} {K : Frag} {x C : Addr} {ox od : Obj} {name : Str} {t : Tok} {Q : Value → Shared → Prop} {cd : ClassData} (X : K.In s.heap) (I : InstAt s.heap x ox C (some od)) (hga : findIn K (.ref C) "__getattribute__" = some (some (.builtin "object.__getattribute__")))
    (hf : findObj K C (some od) name = some .missing) (hk : findIn K (.ref C) "__getattr__" = some none) (hc : clsIn K C = some cd) (hn : cd.name.cps.foldl (fun k c => k + (Str.utf8Of c).length) 0 ≤ 100) (hA : A.handled = none) (hsz : cd.name.toString.length ≤ 60) (hsz2 : name.length + 100 ≤ sizeLine)
    (h : ∀ h' tk e, Heap.NewAttrErr s.heap h' e (.ref x) name → wpAny (model prog w) A (noteIf true (.ref x) (.str name t) (.ref e)) (fun _ s'' => E (.ref e) s'') E { s with heap := h', toks := tk }) :
    wpAny (model prog w) A (getAttrBy (.ref x) (.str name t) true) Q E s := by
  refine kbm_open X I hga ?_
  obtain ⟨hh', gg, d, tk, os⟩ := s
  have L0 := I.type (M := model prog w)
  have L1 := looks_find (M := model prog w) X I hf
  have L2 := looks_findIn (M := model prog w) X hk
  have L5 := looks_clsIn (M := model prog w) X hc
  refine wpAny_bind (wpAny_pure (wpAny_bind (L0.at (wpAny_bind (L1.at (wpAny_bind (L2.at ?_)))))))
  show wpAny _ _ (noSuchAttribute (.ref x) name) _ _ _
  unfold noSuchAttribute typeNameOfCut shownTypeOf
  refine wpAny_bind (wpAny_bind (wpAny_bind (L0.at ?_)))
  refine wpAny_pure ?_
  unfold typeNameCut
  refine wpAny_bind (L5.at ?_)
  rw [if_pos hn]
  refine wpAny_pure ?_
  refine wpAny_raiseAttrError hA (fun h' tk' e he => h h' tk' e he) ?_
  refine attrMsg_fits ?_ hsz2
  show String.length (("'" ++ cd.name.toString) ++ "' object has no attribute '") ≤ 90
  rw [String.length_append, String.length_append]
  have e1 : ("'" : String).length = 1 := by decide
  have e2 : ("' object has no attribute '" : String).length = 27 := by decide
  omega
end Mine
end Mine
end

section
open PySem PySem.W PySem.Calls PyProof.Rows
theorem Mine.off_H5 {M : Model} {A : Around} {E : Value → Shared → Prop} {s : Shared} {Q : Flow → Shared → Prop} {env : Env} (h : Q .next s) : wpAny M A (execs [] env) Q E s := by
  w_top off
  try walk1
  first
    | exact h
    | exact wpAny_execs_nil h
end
section
open PySem PySem.W PySem.Calls PyProof.Rows Builtin Builtin.ObjectAttr
namespace Mine
namespace Mine
theorem note_done {prog : Program} {w : World} {A : Around} {E : Value → Shared → Prop} {s : Shared} {h : Heap} {e : Addr} {o o' n' : Value} {name : Str} {Q : Unit → Shared → Prop} (x : Heap.NewAttrErr h s.heap e o name) (hq : Q () s) :
    wpAny (model prog w) A (noteIf true o' n' (.ref e)) Q E s := by
  obtain ⟨t, u, he⟩ := x.there
  have hT : s.TypeIs (.ref e) "AttributeError" := ⟨_, he, rfl⟩
  show wpAny _ _ (noteAttr (.ref e) o' n') _ _ _
  unfold noteAttr
  refine wpAny_bind ?_
  unfold lacksNameAndObj
  refine wpAny_bind (wpAny_isInstance hT sub_AttributeError ?_)
  refine wpAny_bind (wpAny_load he ?_)
  refine wpAny_pure ?_
  rw [if_neg (by decide)]
  exact wpAny_pure hq
end Mine
end Mine
end

section
open PySem PySem.W PySem.Calls PyProof.Rows
theorem Mine.off_H6 {M : Model} {A : Around} {E : Value → Shared → Prop} {s : Shared} {Q : Flow → Shared → Prop} {env : Env} (h : Q .next s) : wpAny M A (execs [] env) Q E s := by
  w_top off
  try walk1
  first
    | exact h
    | exact wpAny_execs_nil h
end
section
open PySem PySem.W PySem.Calls PyProof.Rows Builtin Builtin.ObjectAttr
namespace Mine
namespace Mine

theorem leaves_attr {M : Model} {A : Around} {E : Value → Shared → Prop} {s : Shared} {base h : Heap} {env : Env} {outer : List Env} {L e : Addr} {o : Value} {name : Str} {Q : Unit → Shared → Prop}
    (hfr : A.frames = some (env :: outer)) (hf : env.frame = some L) (hkb : base.StaysIn h) (hl : h.FunFrames base (env :: outer)) (hx : Heap.NewAttrErr h s.heap e o name)
    (hQ : ∀ h' a0, Heap.FlyingW base outer e (.type "AttributeError") a0 h' → s.heap.UpToSlots h' → Q () { s with heap := h' }) : wpAny M A (leaving env (.ref e)) Q E s := by
  obtain ⟨t, u, he⟩ := hx.there
  have fresh : ∀ b, h.get? b = none → base.get? b = none := fun b hb => by
    cases hq : base.get? b with
    | none => rfl
    | some o' => have := hkb b o' hq; rw [hb] at this; cases this
  refine wpAny_leaving_firstW (a0 := t) hfr (hl.of_keeps fun b o hb _ => ⟨o, hx.keeps b o hb, rfl⟩) hf he (fun b o hb => hx.keeps b o (hkb b o hb)) (fresh e hx.new) rfl rfl rfl fun h' hL => ?_
  obtain ⟨k1, ⟨_, _, k2⟩, k3, k4⟩ := hL
  exact hQ h' t ⟨k1, fresh e hx.new, k2, k3⟩ k4
end Mine
end Mine
end

section
open PySem PySem.W PySem.Calls PyProof.Rows
theorem Mine.off_H7 {M : Model} {A : Around} {E : Value → Shared → Prop} {s : Shared} {Q : Flow → Shared → Prop} {env : Env} (h : Q .next s) : wpAny M A (execs [] env) Q E s := by
  w_top off
  try walk1
  first
    | exact h
    | exact wpAny_execs_nil h
end
section
open PySem PySem.W PySem.Calls PyProof.Rows Builtin Builtin.ObjectAttr
namespace Mine
namespace Mine

local macro_rules | `(tactic| k_room) => `(tactic| exact Nat.le_of_ble_eq_true rfl)

/-- an AttributeError has left a callee: what is not a frame stays, frames change in their slots only -/
def AttrOut (envs : List Env) (h : Heap) (e : Addr) (h' : Heap) : Prop :=
  (∀ b o, b ∉ envs.filterMap (·.frame) → h.get? b = some o → h'.get? b = some o) ∧ h.UpToSlots h' ∧ ∃ ob, h'.get? e = some ob ∧ ob.cls = .type "AttributeError"

theorem leave_attr {M : Model} {A : Around} {E : Value → Shared → Prop} {s' : Shared} {base g h : Heap} {outer : List Env} {L a e : Addr} {m : Str → Option Value} {name : Str} {scope : Scope} {cd o : Value} {nm : Str} {Q : Unit → Shared → Prop}
    (K : Below A base outer g) (hx : Heap.NewAttrErr h s'.heap e o nm) (F : Fr g L h m)
    (hQ : ∀ h', (∀ b ob, b ∉ outer.filterMap (·.frame) → g.get? b = some ob → h'.get? b = some ob) → g.UpToSlots h' → (∃ ob, h'.get? e = some ob ∧ ob.cls = .type "AttributeError") → Q () { s' with heap := h' }) (hk : scope.kind = .function := by rfl) :
    wpAny M (A.deeper (envOf name scope L a cd)) (leaving (envOf name scope L a cd) (.ref e)) Q E s' := by
  have K' := K.push (name := name) (a := a) (cd := cd) F hk
  have hin : ∀ env ∈ (envOf name scope L a cd :: outer), ∀ b, env.frame = some b → b ∈ (envOf name scope L a cd :: outer).filterMap (·.frame) := fun env he b hb => List.mem_filterMap.mpr ⟨env, he, hb⟩
  refine leaves_attr K'.stack rfl (base := hideAll h ((envOf name scope L a cd :: outer).filterMap (·.frame))) (fun b o q => of_hideAll _ q) (funFrames_hide K'.frames hin) hx fun h' a0 x1 x2 => ?_
  refine hQ h' (fun b ob hb hg => ?_) (((Heap.UpToSlots.of_keeps F.keep).trans (Heap.UpToSlots.of_keeps hx.keeps)).trans x2) x1.there
  refine x1.1 b ob (hideAll_get _ (F.keep b ob hg) fun hm => ?_)
  obtain ⟨env, he, hf⟩ := List.mem_filterMap.mp hm
  rcases List.mem_cons.mp he with rfl | he
  · have : L = b := Option.some.inj hf
    subst this
    exact absurd (Nat.lt_of_lt_of_le (Heap.lt_size hg) F.above) (Nat.lt_irrefl _)
  · exact hb (List.mem_filterMap.mpr ⟨env, he, hf⟩)
end Mine
end Mine
end

section
open PySem PySem.W PySem.Calls PyProof.Rows
theorem Mine.off_H8 {M : Model} {A : Around} {E : Value → Shared → Prop} {s : Shared} {Q : Flow → Shared → Prop} {env : Env} (h : Q .next s) : wpAny M A (execs [] env) Q E s := by
  w_top off
  try walk1
  first
    | exact h
    | exact wpAny_execs_nil h
end
section
open PySem PySem.W PySem.Calls PyProof.Rows Builtin Builtin.ObjectAttr
namespace Mine
namespace Mine

local macro_rules | `(tactic| k_room) => `(tactic| exact Nat.le_of_ble_eq_true rfl)
/-- an AttributeError has left a callee (all the rest stays but the frames of the callers) -/
theorem leave_attr2 {M : Model} {A : Around} {E : Value → Shared → Prop} {s' : Shared} {base g h : Heap} {outer : List Env} {L a e : Addr} {m : Str → Option Value} {name : Str} {scope : Scope} {cd o : Value} {nm : Str} {Q : Unit → Shared → Prop}
    (K : Below A base outer g) (hx : Heap.NewAttrErr h s'.heap e o nm) (F : Fr g L h m)
    (hQ : ∀ h', (∀ b ob, b ≠ L → b ∉ outer.filterMap (·.frame) → h.get? b = some ob → h'.get? b = some ob) → g.UpToSlots h' → (∃ ob, h'.get? e = some ob ∧ ob.cls = .type "AttributeError") → Q () { s' with heap := h' }) (hk : scope.kind = .function := by rfl) :
    wpAny M (A.deeper (envOf name scope L a cd)) (leaving (envOf name scope L a cd) (.ref e)) Q E s' := by
  have K' := K.push (name := name) (a := a) (cd := cd) F hk
  have hin : ∀ env ∈ (envOf name scope L a cd :: outer), ∀ b, env.frame = some b → b ∈ (envOf name scope L a cd :: outer).filterMap (·.frame) := fun env he b hb => List.mem_filterMap.mpr ⟨env, he, hb⟩
  refine leaves_attr K'.stack rfl (base := hideAll h ((envOf name scope L a cd :: outer).filterMap (·.frame))) (fun b o q => of_hideAll _ q) (funFrames_hide K'.frames hin) hx fun h' a0 x1 x2 => ?_
  refine hQ h' (fun b ob hbL hb hg => ?_) (((Heap.UpToSlots.of_keeps F.keep).trans (Heap.UpToSlots.of_keeps hx.keeps)).trans x2) x1.there
  refine x1.1 b ob (hideAll_get _ hg fun hm => ?_)
  obtain ⟨env, he, hf⟩ := List.mem_filterMap.mp hm
  rcases List.mem_cons.mp he with rfl | he
  · have : L = b := Option.some.inj hf
    exact hbL this.symm
  · exact hb (List.mem_filterMap.mpr ⟨env, he, hf⟩)

abbrev kdEs (w : World) (u1 u2 u3 u4 : Tok) (l d : Addr) : List DictEntry :=
  [⟨PyData.keyHash w.params (Str.ofString "__name__"), .str (Str.ofString "__name__") u1, .str (Str.ofString "M") u2⟩, ⟨PyData.keyHash w.params (Str.ofString "_tx_inh_by"), .str (Str.ofString "_tx_inh_by") u3, .ref l⟩, ⟨PyData.keyHash w.params (Str.ofString "_tx_attrs"), .str (Str.ofString "_tx_attrs") u4, .ref d⟩]

local macro_rules | `(tactic| walk_at "getAttr ref") => `(tactic| (k_here; k_dflt (refine' get_ownH ?k1 ?k2 ?k3 ?k4 ?k5 ?k6 ?k7 ?k8 ?k9 ?_; (case k1 => k_asm); (case k2 => k_asm); (case k3 => k_inst); (case k4 => k_is); (case k5 => k_is); (case k6 => k_is); (case k7 => k_is); (case k8 => k_get); (case k9 => k_handed); k_whole)))

/-- a call that raises an AttributeError and changes nothing but the callers' frames -/
def ConMiss (dp un : Nat) (w : World) (mean : ExcName → Option Value) (mg mb : Str → Option Value) (f : Addr) (args : List Value) (small : List (Addr × Obj)) : Prop :=
  ∀ (envs : List Env) (base g : Heap) (s : Shared) (R : Result → Shared → Prop),
    Below (At dp un envs) base envs g → (∀ b o, g.get? b = some o → s.heap.get? b = some o) → g.objs.size ≤ s.heap.objs.size → Small g s.heap small →
    (hd.heap_39 w.params).In g → Top hd.view_39 (looseW hd.view_39 [Str.ofString "TextXObject"]) mean mg mb g →
    (∀ e h' tk', (∀ b ob, b ∉ envs.filterMap (·.frame) → g.get? b = some ob → h'.get? b = some ob) → g.UpToSlots h' → (∃ ob, h'.get? e = some ob ∧ ob.cls = .type "AttributeError") → (∀ q ∈ small, q.1 ∉ envs.filterMap (·.frame) → h'.get? q.1 = some q.2) →
      R (.error (.ref e)) { s with heap := h', toks := tk' }) →
    codeAny (model PySem.Challenge.rw_ez0369_01.row.prog w) (At dp un envs) (.call (.ref f) ⟨args, []⟩) R s

theorem con_getattr_miss (w : World) (mean : ExcName → Option Value) (mg mb : Str → Option Value) (M MD MF kd kD l d : Addr) (t1 t2 tk u1 u2 u3 u4 : Tok) (oF : Obj) (kvs : List (Str × Value))
    (hF : oF.IsDictOf (PySem.strKind PySem.Challenge.rw_ez0369_01.row.prog w) kvs) (hv : valueAt kvs (Str.ofString "_tx_model_repository") = none) (lo : (MF == sysModules) = false) :
    ConMiss 600 2000 w mean mg mb 77 [.ref M, .str (Str.ofString "_tx_model_repository") tk] [(M, instObj 80 MD), (MD, dictOf (txEs w kd MF t1 t2) 2), (MF, oF), (kd, instObj 52 kD), (kD, dictOf (kdEs w u1 u2 u3 u4 l d) 3)] := by
  unfold ConMiss
  k_fill
  intro envs base g s R B hk hz N X T hret
  refine enterP hk hz N X T (by k_is) (by k_is) (Nat.le_of_ble_eq_true rfl) (BindsTo.of_eq rfl) (locs rfl) (fun L' h₁ F' N' => ?_) rfl rfl rfl (by decide)
  k_steps
  refine kda_in (knd := PySem.strKind _ _) (by k_asm) (by k_mem) hF lo (strKind_is _ _ _ _) false (by rw [hv]; rfl) ?_
  iterate 62 walk1
  (rename Fr _ _ _ _ => F1); (rename News _ _ _ _ => N1)
  have m1 : (kd, instObj 52 kD) ∈ [(M, instObj 80 MD), (MD, dictOf (txEs w kd MF t1 t2) 2), (MF, oF), (kd, instObj 52 kD), (kD, dictOf (kdEs w u1 u2 u3 u4 l d) 3)] := by k_mem
  have m2 : (kD, dictOf (kdEs w u1 u2 u3 u4 l d) 3) ∈ [(M, instObj 80 MD), (MD, dictOf (txEs w kd MF t1 t2) 2), (MF, oF), (kd, instObj 52 kD), (kD, dictOf (kdEs w u1 u2 u3 u4 l d) 3)] := by k_mem
  have I1 := InstAt.of_news N1 m1 m2
  refine miss_by (C := 52) (X.keeps F1.keep) I1 (by k_is) (findObj_missing (by k_is) (by k_is) (by decide +kernel) (show getL (Str.ofString "_tx_model_repository") (kdEs w u1 u2 u3 u4 l d) = some none by k_get)) (by k_is) (by k_is) (by decide +kernel) (by rfl) (by decide +kernel) (by rw [sizeLine_eq]; decide) ?_
  intro h2 tk2 e he
  refine note_done he ?_
  refine leave_attr2 B he F1 ?_
  intro h3 q1 q2 q3
  refine hret e h3 _ (fun b ob hb hg => q1 b ob (fun z => ?_) hb (F1.keep b ob hg)) q2 q3 (fun q hq hn => q1 _ _ (N1 q hq).2.1 hn (N1 q hq).1)
  subst z
  exact absurd (Nat.lt_of_lt_of_le (Heap.lt_size hg) F1.above) (Nat.lt_irrefl _)
end Mine
end Mine
end

section
open PySem PySem.W PySem.Calls PyProof.Rows
theorem Mine.off_H9 {M : Model} {A : Around} {E : Value → Shared → Prop} {s : Shared} {Q : Flow → Shared → Prop} {env : Env} (h : Q .next s) : wpAny M A (execs [] env) Q E s := by
  w_top off
  try walk1
  first
    | exact h
    | exact wpAny_execs_nil h
end
section
open PySem PySem.W PySem.Calls PyProof.Rows Builtin Builtin.ObjectAttr
namespace Mine
namespace Mine

local macro_rules | `(tactic| k_room) => `(tactic| exact Nat.le_of_ble_eq_true rfl)
section
variable {w : World} {A A₀ : Around} {E : Value → Shared → Prop} {s : Shared} {base h₀ : Heap} {L : Addr} {m : Str → Option Value} {outer : List Env} {env : Env} {small : List (Addr × Obj)} {mean : ExcName → Option Value} {mg mb : Str → Option Value}
  {f : Addr} {args : List Value} {dp un : Nat} {Q : Value → Shared → Prop}
theorem ConMiss.use (C : ConMiss dp un w mean mg mb f args small) (B : Below A₀ base outer h₀) (F : Fr h₀ L s.heap m) (X : (hd.heap_39 w.params).In h₀) (N : News h₀ L s.heap small)
    (T : Top hd.view_39 (looseW hd.view_39 [Str.ofString "TextXObject"]) mean mg mb h₀)
    (hA : A.frames = some (env :: outer)) (hf : env.frame = some L) (hke : env.scope.kind = .function) (hh : A.handled = none) (hdp : A.depth ≤ dp) (hun : A.units ≤ un)
    (ret : ∀ e h' tk', (∀ b o, b ≠ L → b ∉ outer.filterMap (·.frame) → s.heap.get? b = some o → h'.get? b = some o) → (∀ a mm, a ∉ small.map (·.1) → s.heap.Ns a mm → h'.Ns a mm) → (∃ ob, h'.get? e = some ob ∧ ob.cls = .type "AttributeError") → E (.ref e) { s with heap := h', toks := tk' }) :
    wpAny (model PySem.Challenge.rw_ez0369_01.row.prog w) A (call (.ref f) args) Q E s := by
  refine wpAny_call ?_
  obtain ⟨FG, BG, st, -⟩ := groundX (R := fun _ _ => True) B F N hA hf hke
  have BG' : Below (At dp un (env :: outer)) base (env :: outer) (hideAll s.heap (small.map (·.1))) := ⟨rfl, BG.stays, BG.frames⟩
  refine codeAny_deepen (C (env :: outer) base _ s _ BG' (fun b o e => of_hideAll _ e) (Nat.le_of_eq (hideAll_size _ _)) (fun q hq => ⟨(N q hq).1, hideAll_none _ (List.mem_map_of_mem hq)⟩) (X.keeps st) (T.keeps st) ?_) hh.symm hdp hA.symm rfl hun
  intro e h' tk' k1 k2 k3 k4
  have hfm : (env :: outer).filterMap (·.frame) = L :: outer.filterMap (·.frame) := by rw [List.filterMap_cons, hf]
  rw [hfm] at k1 k4
  refine ret e h' tk' (fun b o hb hb2 e => ?_) (fun a mm ha hn => ?_) k3
  · have hnm : b ∉ L :: outer.filterMap (·.frame) := fun q => (List.mem_cons.mp q).elim hb hb2
    by_cases hbs : b ∈ small.map (·.1)
    · obtain ⟨p, hp, rfl⟩ := List.mem_map.mp hbs
      have h1 := (N p hp).1
      rw [e] at h1; cases h1
      exact k4 p hp hnm
    · exact k1 b o hnm (hideAll_get _ e hbs)
  · obtain ⟨oL, es, ep, hL, hLd, hLk, hLf⟩ := hn
    exact k2.ns ⟨oL, es, ep, hideAll_get _ hL ha, hLd, hLk, hLf⟩
end

/-- get_included_models of an object without a repository, called from law's frame -/
def ConIncMiss (w : World) (mean : ExcName → Option Value) (mg mb : Str → Option Value) (M : Addr) (small : List (Addr × Obj)) : Prop :=
  ∀ (envL : Env) (L : Addr) (base g gg : Heap) (m : Str → Option Value) (s : Shared) (R : Result → Shared → Prop),
    envL.frame = some L → Below (At 570 1700 [envL]) base [envL] gg → (∀ b o, gg.get? b = some o → s.heap.get? b = some o) → gg.objs.size ≤ s.heap.objs.size → Small gg s.heap small →
    (hd.heap_39 w.params).In gg → Top hd.view_39 (looseW hd.view_39 [Str.ofString "TextXObject"]) mean mg mb gg → (hd.heap_39 w.params).In g → Top hd.view_39 (looseW hd.view_39 [Str.ofString "TextXObject"]) mean mg mb g →
    (∀ b o, g.get? b = some o → gg.get? b = some o) → g.get? L = none → gg.Ns L m →
    (∀ LI n h' tk', (∀ b o, b ≠ L → gg.get? b = some o → h'.get? b = some o) → h'.Ns L m → (∀ q ∈ small, h'.get? q.1 = some q.2) → h'.get? LI = some (W.listOf [Value.ref M].toArray n) → gg.get? LI = none → LI ≠ L → (∀ q ∈ small, q.1 ≠ LI) → R (.ok (.ret (.ref LI))) { s with heap := h', toks := tk' }) →
    codeAny (model PySem.Challenge.rw_ez0369_01.row.prog w) (At 570 1700 [envL]) (.call (.ref 204) ⟨[.ref M], []⟩) R s

theorem con_inc_miss (w : World) (mean : ExcName → Option Value) (mg mb : Str → Option Value) (M MD MF kd kD l d : Addr) (t1 t2 u1 u2 u3 u4 : Tok) (oF : Obj) (kvs : List (Str × Value))
    (hF : oF.IsDictOf (PySem.strKind PySem.Challenge.rw_ez0369_01.row.prog w) kvs) (hv : valueAt kvs (Str.ofString "_tx_model_repository") = none) (lo : (MF == sysModules) = false) :
    ConIncMiss w mean mg mb M [(M, instObj 80 MD), (MD, dictOf (txEs w kd MF t1 t2) 2), (MF, oF), (kd, instObj 52 kD), (kD, dictOf (kdEs w u1 u2 u3 u4 l d) 3)] := by
  unfold ConIncMiss
  k_fill
  intro envL L base g gg m s R hfL B hk hz N X T Xg Tg st hgL hNs hret
  refine enterP hk hz N X T (by k_is) (by k_is) (Nat.le_of_ble_eq_true rfl) (BindsTo.of_eq rfl) (locs rfl) (fun L' h₁ F' N' => ?_) rfl rfl rfl (by decide)
  iterate 12 walk1
  (rename Fr _ _ _ _ => F1); (rename News _ _ _ _ => N1)
  have m1 : (M, instObj 80 MD) ∈ [(M, instObj 80 MD), (MD, dictOf (txEs w kd MF t1 t2) 2), (MF, oF), (kd, instObj 52 kD), (kD, dictOf (kdEs w u1 u2 u3 u4 l d) 3)] := by k_mem
  have m2 : (MD, dictOf (txEs w kd MF t1 t2) 2) ∈ [(M, instObj 80 MD), (MD, dictOf (txEs w kd MF t1 t2) 2), (MF, oF), (kd, instObj 52 kD), (kD, dictOf (kdEs w u1 u2 u3 u4 l d) 3)] := by k_mem
  have I1 := InstAt.of_news N1 m1 m2
  have hLn : ∀ q ∈ [(M, instObj 80 MD), (MD, dictOf (txEs w kd MF t1 t2) 2), (MF, oF), (kd, instObj 52 kD), (kD, dictOf (kdEs w u1 u2 u3 u4 l d) 3)], q.1 ≠ L := by
    obtain ⟨oL, es, ep, hL, -⟩ := id hNs
    intro q hq e
    have := (N1 q hq).2.2
    rw [e, hL] at this; cases this
  have hLL : L ≠ L' := by
    obtain ⟨oL, es, ep, hL, -⟩ := id hNs
    exact fun e => absurd (Nat.lt_of_lt_of_le (Heap.lt_size hL) F1.above) (e ▸ Nat.lt_irrefl _)
  refine hasattr_open I1 (I1.type.andThen (looks_mroIn (X.keeps F1.keep) (by k_is))) ?_
  refine hook_try (X.keeps F1.keep) I1 (by k_is) (findObj_missing (by k_is) (by k_is) (by decide +kernel) (show getL (Str.ofString "_tx_model_repository") (txEs w kd MF t1 t2) = some none by k_get)) (by k_is) (by k_is) ?_
  refine ConMiss.use (con_getattr_miss w mean mg mb M MD MF kd kD l d t1 t2 _ u1 u2 u3 u4 oF kvs hF hv lo) B F1 X N1 T (by exact rfl) (by exact rfl) (by exact rfl) (by exact rfl) (Nat.le_of_ble_eq_true rfl) (Nat.le_of_ble_eq_true rfl) ?_
  intro e h2 tk2 k1 k2 ⟨ob, k3, k4⟩
  have hfm : [envL].filterMap (·.frame) = [L] := by rw [List.filterMap_cons, hfL]; rfl
  rw [hfm] at k1
  have nsL : h2.Ns L m := k2 L m (fun q => by
    obtain ⟨p, hp, e⟩ := List.mem_map.mp q
    exact hLn p hp e) (hNs.at' (fun o e => F1.keep _ o e))
  have nsL' := k2 L' _ (fun q => by
    obtain ⟨p, hp, e⟩ := List.mem_map.mp q
    exact (N1 p hp).2.1 e) F1.ns
  have lg : ∀ b o, g.get? b = some o → b ≠ L ∧ b ≠ L' := fun b o e => ⟨fun q => (by rw [q, hgL] at e; cases e), fun q => absurd (Nat.lt_of_lt_of_le (Heap.lt_size (st _ _ e)) F1.above) (q ▸ Nat.lt_irrefl _)⟩
  obtain ⟨oL, es, ep, hL2, hLd, hLk, hLf⟩ := id nsL
  have F3 : Fr (hideAll gg [L]) L' h2 _ := ⟨nsL', fun b o e => by
    have hb : b ≠ L := fun q => by rw [q, hideAll_none [L] (List.mem_singleton.mpr rfl)] at e; cases e
    have e' := of_hideAll _ e
    exact k1 b o (fun q => absurd (Nat.lt_of_lt_of_le (Heap.lt_size e') F1.above) (q ▸ Nat.lt_irrefl _)) (by simpa using hb) (F1.keep b o e'), by rw [hideAll_size]; exact F1.above⟩
  have N3 : News (hideAll gg [L]) L' h2 ((L, oL) :: [(M, instObj 80 MD), (MD, dictOf (txEs w kd MF t1 t2) 2), (MF, oF), (kd, instObj 52 kD), (kD, dictOf (kdEs w u1 u2 u3 u4 l d) 3)]) := by
    intro q hq
    rcases List.mem_cons.mp hq with rfl | hq
    · exact ⟨hL2, hLL, hideAll_none [L] (List.mem_singleton.mpr rfl)⟩
    · refine ⟨k1 _ _ (N1 q hq).2.1 (by simpa using hLn q hq) (N1 q hq).1, (N1 q hq).2.1, ?_⟩
      cases z : (hideAll gg [L]).get? q.1 with
      | none => rfl
      | some o => have := of_hideAll _ z; rw [(N1 q hq).2.2] at this; cases this
  have st3 : ∀ b o, g.get? b = some o → (hideAll gg [L]).get? b = some o := fun b o e => hideAll_get _ (st b o e) (by simpa using (lg b o e).1)
  have X3 := Xg.keeps st3
  have T3 := Tg.keeps st3
  clear F1 N1 X T N
  unfold TryEnd
  refine wpAny_isInstance (T := "AttributeError") ⟨ob, k3, k4⟩ sub_AttributeError ?_
  rw [if_pos rfl]
  clear k1 k2 k3 k4
  dsimp only [Option.isSome]
  iterate 15 walk1
  (rename Fr _ _ _ _ => F4); (rename News _ _ _ _ => N4); (rename (_ ∧ _) => l1)
  have hnone : ∀ x : Addr, (hideAll gg [L]).get? x = none → @Ne Nat x L → gg.get? x = none := by
    intro x h1 h2
    cases z : gg.get? x with
    | none => rfl
    | some o =>
      have := hideAll_get [L] z (by simpa using h2)
      rw [h1] at this; cases this
  obtain ⟨j1, j2, j3, j4, j5, j6⟩ := l1
  have zI := N4 _ (.head _)
  have zL := N4 _ (.tail _ (.head _))
  refine hret _ 0 _ _ (fun b o hb e => F4.keep b o (hideAll_get _ e (by simpa using hb))) ⟨oL, es, ep, zL.1, hLd, hLk, hLf⟩ (fun q hq => (N4 q (.tail _ (.tail _ hq))).1) zI.1 (hnone _ zI.2.2 (Nat.ne_of_gt j1)) (Nat.ne_of_gt j1) ?_
  simp only [List.forall_mem_cons]
  exact ⟨Nat.ne_of_lt j2, Nat.ne_of_lt j3, Nat.ne_of_lt j4, Nat.ne_of_lt j5, Nat.ne_of_lt j6, List.forall_mem_nil _⟩
end Mine
end Mine
end

section
open PySem PySem.W PySem.Calls PyProof.Rows
theorem Mine.off_H10 {M : Model} {A : Around} {E : Value → Shared → Prop} {s : Shared} {Q : Flow → Shared → Prop} {env : Env} (h : Q .next s) : wpAny M A (execs [] env) Q E s := by
  w_top off
  try walk1
  first
    | exact h
    | exact wpAny_execs_nil h
end
section
open PySem PySem.W PySem.Calls PyProof.Rows Builtin Builtin.ObjectAttr
namespace Mine
namespace Mine

local macro_rules | `(tactic| k_room) => `(tactic| exact Nat.le_of_ble_eq_true rfl)
section
variable {w : World} {A : Around} {E : Value → Shared → Prop} {s : Shared} {g : Heap} {L : Addr} {m : Str → Option Value} {env : Env} {small news : List (Addr × Obj)} {mean : ExcName → Option Value} {mg mb : Str → Option Value}
  {Q : Value → Shared → Prop} {M : Addr}
theorem ConIncMiss.use (C : ConIncMiss w mean mg mb M small) (B : Below callerA g [] g) (F : Fr g L s.heap m) (X : (hd.heap_39 w.params).In g) (N : News g L s.heap news)
    (T : Top hd.view_39 (looseW hd.view_39 [Str.ofString "TextXObject"]) mean mg mb g)
    (hA : A.frames = some [env]) (hf : env.frame = some L) (hke : env.scope.kind = .function) (hh : A.handled = none) (hdp : A.depth ≤ 570) (hun : A.units ≤ 1700) (hs : ∀ q ∈ small, q ∈ news)
    (ret : ∀ LI n h' tk', Fr g L h' m → News g L h' ((LI, W.listOf [Value.ref M].toArray n) :: news) → (∀ q ∈ news, @Ne Nat q.1 LI) → Q (.ref LI) { s with heap := h', toks := tk' }) :
    wpAny (model PySem.Challenge.rw_ez0369_01.row.prog w) A (call (.ref 204) [.ref M]) Q E s := by
  refine wpAny_call ?_
  obtain ⟨FG, BG, st, -⟩ := groundX (R := fun _ _ => True) B F (fun q hq => N q (hs q hq)) hA hf hke
  have BG' : Below (At 570 1700 [env]) g [env] (hideAll s.heap (small.map (·.1))) := ⟨rfl, BG.stays, BG.frames⟩
  refine codeAny_deepen (C env L g g _ m s _ hf BG' (fun b o e => of_hideAll _ e) (Nat.le_of_eq (hideAll_size _ _)) (fun q hq => ⟨(N q (hs q hq)).1, hideAll_none _ (List.mem_map_of_mem hq)⟩) (X.keeps st) (T.keeps st) X T (fun b o e => st b o e) (Heap.get?_none_of_le F.above) FG.ns ?_) hh.symm hdp hA.symm rfl hun
  intro LI n h' tk' k1 k2 k3 k4 k5 k6 k7
  have hgL : g.get? L = none := Heap.get?_none_of_le F.above
  have off : ∀ q ∈ news, @Ne Nat q.1 LI := by
    intro q hq e
    by_cases hb : q.1 ∈ small.map (·.1)
    · obtain ⟨p, hp, e2⟩ := List.mem_map.mp hb
      exact k7 p hp (e2.trans e)
    · have := hideAll_get (small.map (·.1)) (N q hq).1 hb
      rw [e, k5] at this; cases this
  refine ret LI n h' tk' ⟨k2, fun b o e => k1 b o (fun q => by rw [q, hgL] at e; cases e) (st b o e), F.above⟩ (fun q hq => ?_) off
  rcases List.mem_cons.mp hq with rfl | hq
  · refine ⟨k4, k6, ?_⟩
    cases z : g.get? LI with
    | none => rfl
    | some o => have := st _ _ z; rw [k5] at this; cases this
  · refine ⟨?_, (N q hq).2⟩
    by_cases hb : q.1 ∈ small.map (·.1)
    · obtain ⟨p, hp, e2⟩ := List.mem_map.mp hb
      have h1 := (N p (hs p hp)).1
      rw [e2, (N q hq).1] at h1
      have h2 := k3 p hp
      rw [e2] at h2
      rw [h2, Option.some.inj h1]
    · exact k1 _ _ (N q hq).2.1 (hideAll_get _ (N q hq).1 hb)
end
end Mine
end Mine
end

section
open PySem PySem.W PySem.Calls PyProof.Rows
theorem Mine.off_M1 {M : Model} {A : Around} {E : Value → Shared → Prop} {s : Shared} {Q : Flow → Shared → Prop} {env : Env} (h : Q .next s) : wpAny M A (execs [] env) Q E s := by
  w_top off
  try walk1
  first
    | exact h
    | exact wpAny_execs_nil h
end
section
open PySem PySem.W PySem.Calls PyProof.Rows Builtin Builtin.ObjectAttr
namespace Mine
namespace Mine

theorem setL_at : ∀ {l : List Value} {i : Nat} {v : Value}, i < l.length → ki_setL l i v = some (l.set i v)
  | [], _, _, h => absurd h (Nat.not_lt_zero _)
  | x :: r, 0, v, _ => rfl
  | x :: r, i + 1, v, h => by
    have := setL_at (l := r) (i := i) (v := v) (Nat.lt_of_succ_lt_succ h)
    show (match ki_setL r i v with | some q => some (x :: q) | none => none) = _
    rw [this]; rfl

section
variable {prog : Program} {w : World} {A : Around} {E : Value → Shared → Prop} {s : Shared} {h₀ : Heap} {L D : Addr} {m : Str → Option Value} {news news' : List (Addr × Obj)} {vs : List Value} {n i : Nat} {t : Tok} {v : Value}

theorem idx_get {Q : Value → Shared → Prop} (N : News h₀ L s.heap news) (hm : (D, listOf vs.toArray n) ∈ news) (hx : vs[i]? = some v) (hz : vs.length ≤ 64) (h : Q v s) :
    wpAny (model prog w) A (getItem (.ref D) (.int (i : Int) t)) Q E s := by
  have hi : i < vs.length := by
    rcases Nat.lt_or_ge i vs.length with q | q
    · exact q
    · rw [List.getElem?_eq_none q] at hx; cases hx
  refine wpAny_getItem_list (News.isList N hm) (Int.natCast_nonneg i) (by omega) ?_ h
  simpa using hx

theorem idx_at {value slice : PySem.Expr} {Q : Value → Shared → Prop} (N : News h₀ L s.heap news) (hm : (D, listOf vs.toArray n) ∈ news) (hx : vs[i]? = some v) (hz : vs.length ≤ 64) (h : Q v s)
    (hb : subscripted slice false (.ref D) (.int (i : Int) t) = operate [.ref D, .int (i : Int) t] (getItem (.ref D) (.int (i : Int) t)) := by with_unfolding_all rfl) :
    wpAny (model prog w) A (subscriptTail value slice (.ref D) (.int (i : Int) t)) Q E s :=
  tail_any (News.isList N hm).typeIs slot_list_getitem.lookup (idx_get N hm hx hz h) hb

theorem set_at {Q : Unit → Shared → Prop} (F : Fr h₀ L s.heap m) (N : News h₀ L s.heap news) (U : Upd D (listOf vs.toArray n) (listOf (vs.set i v).toArray n) news news') (hi : i < vs.length) (hz : vs.length ≤ 64)
    (h : ∀ h', Fr h₀ L h' m → News h₀ L h' news' → Q () { s with heap := h' }) : wpAny (model prog w) A (setItem (.ref D) (.int (i : Int) t) v) Q E s :=
  ki_set (its := vs.toArray) F N (Int.natCast_nonneg i) (by omega) (setL_at hi) U h
end

theorem not_mem2 {a b c : Addr} (h1 : a ≠ b) (h2 : a ≠ c) : a ∉ [b, c] := by
  simp only [List.mem_cons, List.not_mem_nil, or_false, not_or]; exact ⟨h1, h2⟩

/-- the law's locals that stay -/
def lm (S lF G1 G2 lM lC : Addr) (m : Str → Option Value) : Str → Option Value := fun z => if z = Str.ofString "script" then some (.ref S) else if z = Str.ofString "files" then some (.ref lF) else if z = Str.ofString "first" then some (.ref G1) else
  if z = Str.ofString "second" then some (.ref G2) else if z = Str.ofString "made" then some (.ref lM) else if z = Str.ofString "counts" then some (.ref lC) else m z

structure HasLm (S lF G1 G2 lM lC : Addr) (m : Str → Option Value) : Prop where
  a1 : m (Str.ofString "script") = some (.ref S)
  a2 : m (Str.ofString "files") = some (.ref lF)
  a3 : m (Str.ofString "first") = some (.ref G1)
  a4 : m (Str.ofString "second") = some (.ref G2)
  a5 : m (Str.ofString "made") = some (.ref lM)
  a6 : m (Str.ofString "counts") = some (.ref lC)

theorem HasLm.eq {S lF G1 G2 lM lC : Addr} {m : Str → Option Value} (h : HasLm S lF G1 G2 lM lC m) : m = lm S lF G1 G2 lM lC m := by
  funext z
  unfold lm
  by_cases e1 : z = Str.ofString "script"
  · rw [if_pos e1, e1, h.a1]
  rw [if_neg e1]
  by_cases e2 : z = Str.ofString "files"
  · rw [if_pos e2, e2, h.a2]
  rw [if_neg e2]
  by_cases e3 : z = Str.ofString "first"
  · rw [if_pos e3, e3, h.a3]
  rw [if_neg e3]
  by_cases e4 : z = Str.ofString "second"
  · rw [if_pos e4, e4, h.a4]
  rw [if_neg e4]
  by_cases e5 : z = Str.ofString "made"
  · rw [if_pos e5, e5, h.a5]
  rw [if_neg e5]
  by_cases e6 : z = Str.ofString "counts"
  · rw [if_pos e6, e6, h.a6]
  rw [if_neg e6]

theorem hasLm_lm {S lF G1 G2 lM lC : Addr} {m : Str → Option Value} : HasLm S lF G1 G2 lM lC (lm S lF G1 G2 lM lC m) := ⟨rfl, rfl, rfl, rfl, rfl, rfl⟩

section
variable {w : World} {A A₀ : Around} {E : Value → Shared → Prop} {s : Shared} {base h₀ : Heap} {L : Addr} {m : Str → Option Value} {outer : List Env} {env : Env} {small news : List (Addr × Obj)} {mean : ExcName → Option Value} {mg mb : Str → Option Value}
  {f : Addr} {args : List Value} {P : List (Addr × Obj) → Prop} {dp un : Nat} {Q : Value → Shared → Prop} {v₀ : Value}

/-- a call that changes the objects at ds -/
theorem Con.useC (ds : List Addr) (C : Con dp un w mean mg mb f args small (fun v sm => v = v₀ ∧ ∃ ch, P ch ∧ (∀ q ∈ ch, q ∈ sm) ∧ ∀ p ∈ small, p.1 ∉ ds → p ∈ sm)) (B : Below A₀ base outer h₀) (F : Fr h₀ L s.heap m) (X : (hd.heap_39 w.params).In h₀) (N : News h₀ L s.heap news)
    (T : Top hd.view_39 (looseW hd.view_39 [Str.ofString "TextXObject"]) mean mg mb h₀)
    (hA : A.frames = some (env :: outer)) (hf : env.frame = some L) (hke : env.scope.kind = .function) (hh : A.handled = none) (hdp : A.depth ≤ dp) (hun : A.units ≤ un)
    (hs : ∀ q ∈ small, q ∈ news)
    (ret : ∀ ch h' tk', P ch → Fr h₀ L h' m → (∀ news', (∀ q ∈ news', q ∈ ch ∨ (q ∈ news ∧ q.1 ∉ ds)) → News h₀ L h' news') → Q v₀ { s with heap := h', toks := tk' }) :
    wpAny (model PySem.Challenge.rw_ez0369_01.row.prog w) A (call (.ref f) args) Q E s := by
  refine Con.use C B F X N T hA hf hke hh hdp hun hs ?_
  rintro v sm h' tk' ⟨rfl, ch, hP, hD, hk⟩ F' N' hkeep _
  have hall : ∀ b o, b ∉ ds → s.heap.get? b = some o → h'.get? b = some o := by
    intro b o hb e
    by_cases hbs : b ∈ small.map (·.1)
    · obtain ⟨p, hp, rfl⟩ := List.mem_map.mp hbs
      have h1 := (N p (hs p hp)).1
      rw [e] at h1; cases h1
      exact (N' p (hk p hp hb)).1
    · exact hkeep b o hbs e
  refine ret ch h' tk' hP F' (fun news' hn q hq => ?_)
  rcases hn q hq with h1 | ⟨h1, h2⟩
  · exact N' _ (hD q h1)
  · exact ⟨hall _ _ h2 (N q h1).1, (N q h1).2⟩
end

section
variable (w : World) (mean : ExcName → Option Value) (mg mb : Str → Option Value) (R RD D : Addr) (c : Int) (tc t1 t2 tk : Tok) (oD : Obj) (kvs : List (Str × Value)) (x : Str) (M MD MF kd : Addr) (t3 t4 : Tok) (oF : Obj) (i : Int) (ti : Tok)

theorem con_addC (hD : oD.IsDictOf (SK w) kvs) (hlen : kvs.length ≤ 16777216) (h1 : @Ne Nat R D) (h2 : @Ne Nat RD D) (h3 : @Ne Nat M D) (h4 : @Ne Nat MD D) (h5 : @Ne Nat MF D) 
    (hF : oF.IsDictOf (SK w) (modKvs (.str x tk) i ti)) (hx : 1 ≤ x.length) (hx2 : x.length ≤ 1000) (lo : (MF == sysModules) = false) :
    Con 590 1900 w mean mg mb 112 [.ref R, .ref M] (repL w R RD D c tc t1 t2 oD ++ modL w M MD MF kd t3 t4 oF)
      (fun v sm => v = .none ∧ ∃ ch, (∃ oD', oD'.IsDictOf (SK w) (stored kvs x (.ref M)) ∧ ch = [(D, oD')]) ∧ (∀ q ∈ ch, q ∈ sm) ∧ ∀ p ∈ repL w R RD D c tc t1 t2 oD ++ modL w M MD MF kd t3 t4 oF, p.1 ∉ [D] → p ∈ sm) := by
  refine Con.mono (con_add w mean mg mb R RD D c tc t1 t2 tk oD kvs x M MD MF kd t3 t4 oF i ti hD hlen h1 h2 h3 h4 h5 hF hx hx2 lo) ?_
  rintro v sm ⟨rfl, oD', hd, rfl⟩
  refine ⟨rfl, _, ⟨oD', hd, rfl⟩, by simp, ?_⟩
  intro p hp hn
  simp only [List.mem_cons, List.mem_append, List.not_mem_nil, or_false] at hp hn ⊢
  rcases hp with (rfl | rfl | rfl) | rfl | rfl | rfl
  · simp
  · simp
  · exact absurd rfl hn
  · simp
  · simp
  · simp

theorem con_addNC (hD : oD.IsDictOf (SK w) kvs) (hlen : kvs.length ≤ 16777216) (h1 : @Ne Nat R D) (h2 : @Ne Nat RD D) (h3 : @Ne Nat M D) (h4 : @Ne Nat MD D) (h5 : @Ne Nat MF D) (h6 : @Ne Nat R RD) (h7 : @Ne Nat M RD) (h8 : @Ne Nat MD RD) (h9 : @Ne Nat MF RD)
    (hc : 0 ≤ c) (hc2 : c ≤ 1000)
    (hF : oF.IsDictOf (SK w) (modKvs .none i ti)) (lo : (MF == sysModules) = false) :
    Con 590 1900 w mean mg mb 112 [.ref R, .ref M] (repL w R RD D c tc t1 t2 oD ++ modL w M MD MF kd t3 t4 oF)
      (fun v sm => v = .none ∧ ∃ ch, (∃ oD' tc', oD'.IsDictOf (SK w) (stored kvs (Str.ofString "builtin_model_" ++ Str.ofString (toString c)) (.ref M)) ∧ ch = [(D, oD'), (RD, dictOf (repEs w (c + 1) tc' D t1 t2) 2)]) ∧ (∀ q ∈ ch, q ∈ sm) ∧ ∀ p ∈ repL w R RD D c tc t1 t2 oD ++ modL w M MD MF kd t3 t4 oF, p.1 ∉ [D, RD] → p ∈ sm) := by
  refine Con.mono (con_addN w mean mg mb R RD D c tc t1 t2 oD kvs M MD MF kd t3 t4 oF i ti hD hlen h1 h2 h3 h4 h5 h6 h7 h8 h9 hc hc2 hF lo) ?_
  rintro v sm ⟨rfl, oD', tc', hd, rfl⟩
  refine ⟨rfl, _, ⟨oD', tc', hd, rfl⟩, by simp, ?_⟩
  intro p hp hn
  simp only [List.mem_cons, List.mem_append, List.not_mem_nil, or_false] at hp hn ⊢
  rcases hp with (rfl | rfl | rfl) | rfl | rfl | rfl
  · simp
  · exact absurd (Or.inr rfl) hn
  · exact absurd (Or.inl rfl) hn
  · simp
  · simp
  · simp
end
end Mine
end Mine
end

section
open PySem PySem.W PySem.Calls PyProof.Rows
theorem Mine.off_M2 {M : Model} {A : Around} {E : Value → Shared → Prop} {s : Shared} {Q : Flow → Shared → Prop} {env : Env} (h : Q .next s) : wpAny M A (execs [] env) Q E s := by
  w_top off
  try walk1
  first
    | exact h
    | exact wpAny_execs_nil h
end
section
open PySem PySem.W PySem.Calls PyProof.Rows Builtin Builtin.ObjectAttr
namespace Mine
namespace Mine

local macro_rules | `(tactic| k_room) => `(tactic| exact Nat.le_of_ble_eq_true rfl)
local macro_rules | `(tactic| walk_at "subscriptTail") => `(tactic| (k_here; (with_reducible show wpAny _ _ (subscriptTail _ _ (Value.ref _) (Value.int _ _)) _ _ _); k_dflt (refine' idx_at ?N ?m ?x ?z ?_ ?b; (case N => k_asm); (case m => k_mem); (case x => assumption); (case z => assumption); (case b => with_unfolding_all rfl); k_whole)))
local macro_rules | `(tactic| k_all) => `(tactic| assumption)

section
variable (w : World) (mean : ExcName → Option Value) (mg mb : Str → Option Value)

theorem deed_add {oc : Value} {od : Option Addr} {qual : Str} {params : Arguments} {body : List Stmt} {scope : Scope} {dV kV doc pm cdv ct : Value} {an : Option Addr} {osl : Array (Option Value)}
    (hlk : (hd.heap_39 w.params).lookup 226 = some ⟨oc, od, .func (fnOf (Str.ofString "law") qual params body scope dV kV doc pm an cdv ct), osl⟩)
    {s1 s2 s3 s4 s5 b1 b2 : Stmt} {brest srest thA elA els : List Stmt} {tgt it ca : Expr} {fp pa : Pos}
    (hb : body = s1 :: s2 :: s3 :: s4 :: s5 :: .For tgt it (b1 :: b2 :: .If ca thA elA pa :: brest) els fp :: srest) 
    {fa : Addr} {cd : Value} {g : Heap} {L S lF G1 G2 lM lC lS lO R RD D O M MD MF kd : Addr} {i j nS nM nF nO nC : Nat} {ti tj t1 t2 t3 t4 tx tm tc tcc : Tok} {c : Int} {x : Str} {c2 c3 oD oO oF : Obj} {kvsD kvsO : List (Str × Value)}
    {s : Shared} {m : Str → Option Value} {rest : List (Addr × Obj)} {vsS vsM vsF vsO vsC : List Value} {Q : Flow → Shared → Prop} {E : Value → Shared → Prop}
    (B : Below callerA g [] g) (X : (hd.heap_39 w.params).In g) (T : Top hd.view_39 (looseW hd.view_39 [Str.ofString "TextXObject"]) mean mg mb g)
    (F : Fr g L s.heap (fun z => if z = Str.ofString "model" then some (.int (j : Int) tj) else if z = Str.ofString "spot" then some (.int (i : Int) ti) else lm S lF G1 G2 lM lC m z))
    (N : News g L s.heap ((L + 1 + 1, c2) :: (L + 1 + 1 + 1, c3) :: (lS, listOf vsS.toArray nS) :: (lM, listOf vsM.toArray nM) :: (lF, listOf vsF.toArray nF) :: (lC, listOf vsC.toArray nC) :: (lO, listOf vsO.toArray nO) ::
      (R, instObj 157 RD) :: (RD, dictOf (repEs w c tc D t1 t2) 2) :: (D, oD) :: (O, oO) :: (M, instObj 80 MD) :: (MD, dictOf (txEs w kd MF t3 t4) 2) :: (MF, oF) :: rest))
    (k2 : c2.data = .cell (some (.ref lS))) (k3 : c3.data = .cell (some (.ref lO)))
    (zS : vsS.length ≤ 64) (zM : vsM.length ≤ 64) (zF : vsF.length ≤ 64) (zO : vsO.length ≤ 64)
    (iS : vsS[i]? = some (.ref R)) (jM : vsM[j]? = some (.ref M)) (jF : vsF[j]? = some (.str x tx)) (iO : vsO[i]? = some (.ref O))
    (hD : oD.IsDictOf (SK w) kvsD) (hO : oO.IsDictOf (SK w) kvsO) (lenD : kvsD.length ≤ 1000) (lenO : kvsO.length ≤ 1000)
    (hF : oF.IsDictOf (SK w) (modKvs (.str x tx) (j : Int) tm)) (loF : (MF == sysModules) = false) (hx : 1 ≤ x.length) (hx2 : x.length ≤ 1000)
    (nD : ∀ a ∈ [L + 1 + 1, L + 1 + 1 + 1, lS, lM, lF, lC, lO, R, RD, O, M, MD, MF], @Ne Nat a D) (nO' : ∀ a ∈ [L + 1 + 1, L + 1 + 1 + 1, lS, lM, lF, lC, lO, R, RD, D, M, MD, MF], @Ne Nat a O)
    (rD : ∀ p ∈ rest, p.1 ≠ D) (rO : ∀ p ∈ rest, p.1 ≠ O)
    (hQ : ∀ h' tk m' oD' oO', oD'.IsDictOf (SK w) (stored kvsD x (.ref M)) → oO'.IsDictOf (SK w) (stored kvsO x (.int (j : Int) tj)) → HasLm S lF G1 G2 lM lC m' → Fr g L h' m' →
      News g L h' ((L + 1 + 1, c2) :: (L + 1 + 1 + 1, c3) :: (lS, listOf vsS.toArray nS) :: (lM, listOf vsM.toArray nM) :: (lF, listOf vsF.toArray nF) :: (lC, listOf vsC.toArray nC) :: (lO, listOf vsO.toArray nO) ::
      (R, instObj 157 RD) :: (RD, dictOf (repEs w c tc D t1 t2) 2) :: (D, oD') :: (O, oO') :: (M, instObj 80 MD) :: (MD, dictOf (txEs w kd MF t3 t4) 2) :: (MF, oF) :: rest) → Q .next { s with heap := h', toks := tk }) :
    wpAny (model PySem.Challenge.rw_ez0369_01.row.prog w) (callerA.deeper (envOfC qual scope L fa cd)) (execs thA (envOfC qual scope L fa cd)) Q E s := by
  revert hlk
  k_fill
  intro hlk
  have e := look_eq (by k_is) hlk
  simp only [fnOf, fnX, Obj.mk.injEq, Data.func.injEq, FuncData.mk.injEq] at e
  obtain ⟨-, rfl, -, e4, rfl, -⟩ := e
  cases e4
  clear hlk
  simp only [List.cons.injEq, Stmt.For.injEq, Stmt.If.injEq] at hb
  obtain ⟨-, -, -, -, -, ⟨-, -, ⟨-, rfl, ⟨-, rfl, rfl, -⟩, rfl⟩, -, -⟩, -⟩ := hb
  unfold lm at F
  iterate 16 walk1
  (rename Fr _ _ _ _ => F1); (rename News _ _ _ _ => N1)
  have nD' := nD
  have nO2 := nO'
  simp only [List.forall_mem_cons, List.not_mem_nil, false_imp_iff, implies_true, and_true] at nD' nO2
  obtain ⟨d1, d2, d3, d4, d5, d6, d7, d8, d9, d10, d11, d12, d13⟩ := nD'
  obtain ⟨o1, o2, o3, o4, o5, o6, o7, o8, o9, o10, o11, o12, o13⟩ := nO2
  refine Con.useC [D] (con_addC w mean mg mb R RD D c tc t1 t2 tx oD kvsD x M MD MF kd t3 t4 oF (j : Int) tm hD (by omega) d8 d9 d11 d12 d13 hF hx hx2 loF) B F1 X N1 T (by exact rfl) (by exact rfl) (by exact rfl) (by exact rfl) (Nat.le_of_ble_eq_true rfl) (Nat.le_of_ble_eq_true rfl) ?_ ?_
  · intro q hq
    simp only [List.mem_cons, List.mem_append, List.not_mem_nil, or_false] at hq ⊢
    grind
  rintro ch h2 tk2 ⟨oD', hD', rfl⟩ F2 N2
  clear N1 F1
  replace N2 := N2 ((L + 1 + 1, c2) :: (L + 1 + 1 + 1, c3) :: (lS, listOf vsS.toArray nS) :: (lM, listOf vsM.toArray nM) :: (lF, listOf vsF.toArray nF) :: (lC, listOf vsC.toArray nC) :: (lO, listOf vsO.toArray nO) ::
      (R, instObj 157 RD) :: (RD, dictOf (repEs w c tc D t1 t2) 2) :: (D, oD') :: (O, oO) :: (M, instObj 80 MD) :: (MD, dictOf (txEs w kd MF t3 t4) 2) :: (MF, oF) :: rest) (by
    simp only [List.forall_mem_cons]
    refine ⟨?_, ?_, ?_, ?_, ?_, ?_, ?_, ?_, ?_, ?_, ?_, ?_, ?_, ?_, fun q hq => Or.inr ⟨by simp [hq], fun z => rD q hq (List.mem_singleton.mp z)⟩⟩
    all_goals first
      | exact Or.inl (.head _)
      | exact Or.inr ⟨by k_mem, fun z => absurd (List.mem_singleton.mp z) (by assumption)⟩)
  k_steps
  refine kda_set (knd := PySem.strKind _ _) (by k_asm) (by k_asm) (by k_updF) hO (strKind_is _ _ _ _) (by rw [sizeLine_eq]; omega) ?_
  intro h' o' F' N' hd'
  (try dsimp only at N')
  (try k_steps)
  exact hQ _ _ _ _ _ hD' hd' ⟨rfl, rfl, rfl, rfl, rfl, rfl⟩ F' N'
end
end Mine
end Mine
end

section
open PySem PySem.W PySem.Calls PyProof.Rows
theorem Mine.off_M3 {M : Model} {A : Around} {E : Value → Shared → Prop} {s : Shared} {Q : Flow → Shared → Prop} {env : Env} (h : Q .next s) : wpAny M A (execs [] env) Q E s := by
  w_top off
  try walk1
  first
    | exact h
    | exact wpAny_execs_nil h
end
section
open PySem PySem.W PySem.Calls PyProof.Rows Builtin Builtin.ObjectAttr
namespace Mine
namespace Mine

local macro_rules | `(tactic| k_room) => `(tactic| exact Nat.le_of_ble_eq_true rfl)
local macro_rules | `(tactic| walk_at "subscriptTail") => `(tactic| (k_here; (with_reducible show wpAny _ _ (subscriptTail _ _ (Value.ref _) (Value.int _ _)) _ _ _); k_dflt (refine' idx_at ?N ?m ?x ?z ?_ ?b; (case N => k_asm); (case m => k_mem); (case x => assumption); (case z => assumption); (case b => with_unfolding_all rfl); k_whole)))
local macro_rules | `(tactic| walk_at "setItem ref int") => `(tactic| (k_here; (with_reducible show wpAny _ _ (PySem.setItem (Value.ref _) (Value.int _ _) _) _ _ _); k_dflt (refine' set_at ?F ?N ?U ?i ?z ?_; (case F => k_asm); (case N => k_asm); (case U => k_upd); (case i => assumption); (case z => assumption); k_whole); intro h' F' N'; (try dsimp only [List.nil_append, List.cons_append] at N'); (try dsimp only); (try k_sweep)))
local macro_rules | `(tactic| k_all) => `(tactic| assumption)

section
variable (w : World) (mean : ExcName → Option Value) (mg mb : Str → Option Value)

theorem deed_addN {oc : Value} {od : Option Addr} {qual : Str} {params : Arguments} {body : List Stmt} {scope : Scope} {dV kV doc pm cdv ct : Value} {an : Option Addr} {osl : Array (Option Value)}
    (hlk : (hd.heap_39 w.params).lookup 226 = some ⟨oc, od, .func (fnOf (Str.ofString "law") qual params body scope dV kV doc pm an cdv ct), osl⟩)
    {s1 s2 s3 s4 s5 b1 b2 : Stmt} {brest srest thA elA els : List Stmt} {tgt it ca : Expr} {fp pa : Pos}
    (hb : body = s1 :: s2 :: s3 :: s4 :: s5 :: .For tgt it (b1 :: b2 :: .If ca thA elA pa :: brest) els fp :: srest) 
    {fa : Addr} {cd : Value} {g : Heap} {L S lF G1 G2 lM lC lS lO R RD D O M MD MF kd : Addr} {i j nS nM nF nO nC : Nat} {ti tj t1 t2 t3 t4 tm tc tcc : Tok} {c : Int} {c2 c3 oD oO oF : Obj} {kvsD kvsO : List (Str × Value)}
    {s : Shared} {m : Str → Option Value} {rest : List (Addr × Obj)} {vsS vsM vsF vsO vsC : List Value} {Q : Flow → Shared → Prop} {E : Value → Shared → Prop}
    (B : Below callerA g [] g) (X : (hd.heap_39 w.params).In g) (T : Top hd.view_39 (looseW hd.view_39 [Str.ofString "TextXObject"]) mean mg mb g)
    (F : Fr g L s.heap (fun z => if z = Str.ofString "model" then some (.int (j : Int) tj) else if z = Str.ofString "spot" then some (.int (i : Int) ti) else lm S lF G1 G2 lM lC m z))
    (N : News g L s.heap ((L + 1 + 1, c2) :: (L + 1 + 1 + 1, c3) :: (lS, listOf vsS.toArray nS) :: (lM, listOf vsM.toArray nM) :: (lF, listOf vsF.toArray nF) :: (lC, listOf vsC.toArray nC) :: (lO, listOf vsO.toArray nO) ::
      (R, instObj 157 RD) :: (RD, dictOf (repEs w c tc D t1 t2) 2) :: (D, oD) :: (O, oO) :: (M, instObj 80 MD) :: (MD, dictOf (txEs w kd MF t3 t4) 2) :: (MF, oF) :: rest))
    (k2 : c2.data = .cell (some (.ref lS))) (k3 : c3.data = .cell (some (.ref lO)))
    (zS : vsS.length ≤ 64) (zM : vsM.length ≤ 64) (zF : vsF.length ≤ 64) (zO : vsO.length ≤ 64) (zC : vsC.length ≤ 64) (lC' : i < vsC.length)
    (iS : vsS[i]? = some (.ref R)) (jM : vsM[j]? = some (.ref M)) (jF : vsF[j]? = some .none) (iO : vsO[i]? = some (.ref O)) (iC : vsC[i]? = some (.int c tcc))
    (hc : 0 ≤ c) (hc2 : c ≤ 1000)
    (hD : oD.IsDictOf (SK w) kvsD) (hO : oO.IsDictOf (SK w) kvsO) (lenD : kvsD.length ≤ 1000) (lenO : kvsO.length ≤ 1000)
    (hF : oF.IsDictOf (SK w) (modKvs .none (j : Int) tm)) (loF : (MF == sysModules) = false)
    (nD : ∀ a ∈ [L + 1 + 1, L + 1 + 1 + 1, lS, lM, lF, lC, lO, R, RD, O, M, MD, MF], @Ne Nat a D) (nO' : ∀ a ∈ [L + 1 + 1, L + 1 + 1 + 1, lS, lM, lF, lC, lO, R, RD, D, M, MD, MF], @Ne Nat a O)
    (nR : ∀ a ∈ [L + 1 + 1, L + 1 + 1 + 1, lS, lM, lF, lC, lO, R, D, O, M, MD, MF], @Ne Nat a RD) (nC' : ∀ a ∈ [L + 1 + 1, L + 1 + 1 + 1, lS, lM, lF, lO, R, RD, D, O, M, MD, MF], @Ne Nat a lC)
    (rD : ∀ p ∈ rest, p.1 ≠ D) (rO : ∀ p ∈ rest, p.1 ≠ O) (rR : ∀ p ∈ rest, p.1 ≠ RD) (rC : ∀ p ∈ rest, p.1 ≠ lC)
    (hQ : ∀ h' tk m' oD' oO' tc' tcc', oD'.IsDictOf (SK w) (stored kvsD (Str.ofString "builtin_model_" ++ Str.ofString (toString c)) (.ref M)) → oO'.IsDictOf (SK w) (stored kvsO (Str.ofString "builtin_model_" ++ Str.ofString (toString c)) (.int (j : Int) tj)) → HasLm S lF G1 G2 lM lC m' → Fr g L h' m' →
      News g L h' ((L + 1 + 1, c2) :: (L + 1 + 1 + 1, c3) :: (lS, listOf vsS.toArray nS) :: (lM, listOf vsM.toArray nM) :: (lF, listOf vsF.toArray nF) :: (lC, listOf (vsC.set i (.int (c + 1) tcc')).toArray nC) :: (lO, listOf vsO.toArray nO) ::
      (R, instObj 157 RD) :: (RD, dictOf (repEs w (c + 1) tc' D t1 t2) 2) :: (D, oD') :: (O, oO') :: (M, instObj 80 MD) :: (MD, dictOf (txEs w kd MF t3 t4) 2) :: (MF, oF) :: rest) → Q .next { s with heap := h', toks := tk }) :
    wpAny (model PySem.Challenge.rw_ez0369_01.row.prog w) (callerA.deeper (envOfC qual scope L fa cd)) (execs thA (envOfC qual scope L fa cd)) Q E s := by
  revert hlk
  k_fill
  intro hlk
  have e := look_eq (by k_is) hlk
  simp only [fnOf, fnX, Obj.mk.injEq, Data.func.injEq, FuncData.mk.injEq] at e
  obtain ⟨-, rfl, -, e4, rfl, -⟩ := e
  cases e4
  clear hlk
  simp only [List.cons.injEq, Stmt.For.injEq, Stmt.If.injEq] at hb
  obtain ⟨-, -, -, -, -, ⟨-, -, ⟨-, rfl, ⟨-, rfl, rfl, -⟩, rfl⟩, -, -⟩, -⟩ := hb
  unfold lm at F
  simp only [List.forall_mem_cons, List.not_mem_nil, false_imp_iff, implies_true, and_true] at nD nO' nR nC'
  obtain ⟨d1, d2, d3, d4, d5, d6, d7, d8, d9, d10, d11, d12, d13⟩ := nD
  obtain ⟨o1, o2, o3, o4, o5, o6, o7, o8, o9, o10, o11, o12, o13⟩ := nO'
  obtain ⟨r1, r2, r3, r4, r5, r6, r7, r8, r9, r10, r11, r12, r13⟩ := nR
  obtain ⟨e1, e2, e3, e4, e5, e6, e7, e8, e9, e10, e11, e12, e13⟩ := nC'
  iterate 16 walk1
  (rename Fr _ _ _ _ => F1); (rename News _ _ _ _ => N1)
  refine Con.useC [D, RD] (con_addNC w mean mg mb R RD D c tc t1 t2 oD kvsD M MD MF kd t3 t4 oF (j : Int) tm hD (by omega) d8 d9 d11 d12 d13 r8 r11 r12 r13 hc hc2 hF loF) B F1 X N1 T (by exact rfl) (by exact rfl) (by exact rfl) (by exact rfl) (Nat.le_of_ble_eq_true rfl) (Nat.le_of_ble_eq_true rfl) ?_ ?_
  · intro q hq
    simp only [List.mem_cons, List.mem_append, List.not_mem_nil, or_false] at hq ⊢
    rcases hq with (rfl | rfl | rfl) | rfl | rfl | rfl <;> simp
  rintro ch h2 tk2 ⟨oD', tc', hD', rfl⟩ F2 N2
  clear N1 F1
  replace N2 := N2 ((L + 1 + 1, c2) :: (L + 1 + 1 + 1, c3) :: (lS, listOf vsS.toArray nS) :: (lM, listOf vsM.toArray nM) :: (lF, listOf vsF.toArray nF) :: (lC, listOf vsC.toArray nC) :: (lO, listOf vsO.toArray nO) ::
      (R, instObj 157 RD) :: (RD, dictOf (repEs w (c + 1) tc' D t1 t2) 2) :: (D, oD') :: (O, oO) :: (M, instObj 80 MD) :: (MD, dictOf (txEs w kd MF t3 t4) 2) :: (MF, oF) :: rest) (by
    simp only [List.forall_mem_cons]
    refine ⟨?_, ?_, ?_, ?_, ?_, ?_, ?_, ?_, ?_, ?_, ?_, ?_, ?_, ?_, fun q hq => Or.inr ⟨by simp [hq], not_mem2 (rD q hq) (rR q hq)⟩⟩
    all_goals first
      | exact Or.inl (.head _)
      | exact Or.inl (.tail _ (.head _))
      | exact Or.inr ⟨by k_mem, not_mem2 (by assumption) (by assumption)⟩)
  k_steps
  refine kda_set (knd := PySem.strKind _ _) (by k_asm) (by k_asm) (by k_updF) hO (strKind_is _ _ _ _) (by rw [sizeLine_eq]; omega) ?_
  intro h' o' F' N' hd'
  (try dsimp only at N')
  (try k_steps)
  exact hQ _ _ _ _ _ _ _ hD' hd' ⟨rfl, rfl, rfl, rfl, rfl, rfl⟩ F' (newsTail N')
end
end Mine
end Mine
end

section
open PySem PySem.W PySem.Calls PyProof.Rows
theorem Mine.off_M4 {M : Model} {A : Around} {E : Value → Shared → Prop} {s : Shared} {Q : Flow → Shared → Prop} {env : Env} (h : Q .next s) : wpAny M A (execs [] env) Q E s := by
  w_top off
  try walk1
  first
    | exact h
    | exact wpAny_execs_nil h
end
section
open PySem PySem.W PySem.Calls PyProof.Rows Builtin Builtin.ObjectAttr
namespace Mine
namespace Mine

local macro_rules | `(tactic| k_room) => `(tactic| exact Nat.le_of_ble_eq_true rfl)
local macro_rules | `(tactic| walk_at "subscriptTail") => `(tactic| (k_here; (with_reducible show wpAny _ _ (subscriptTail _ _ (Value.ref _) (Value.int _ _)) _ _ _); k_dflt (refine' idx_at ?N ?m ?x ?z ?_ ?b; (case N => k_asm); (case m => k_mem); (case x => assumption); (case z => assumption); (case b => with_unfolding_all rfl); k_whole)))
local macro_rules | `(tactic| k_all) => `(tactic| assumption)

section
variable (w : World) (mean : ExcName → Option Value) (mg mb : Str → Option Value)

theorem con_setitemC (R RD D : Addr) (c : Int) (tc t1 t2 tk : Tok) (oD : Obj) (kvs : List (Str × Value)) (x : Str) (hD : oD.IsDictOf (SK w) kvs) (v : Value) (hlen : kvs.length ≤ 16777216) (h1 : @Ne Nat R D) (h2 : @Ne Nat RD D) :
    Con 590 1900 w mean mg mb 154 [.ref R, .str x tk, v] (repL w R RD D c tc t1 t2 oD)
      (fun r sm => r = .none ∧ ∃ ch, (∃ oD', oD'.IsDictOf (SK w) (stored kvs x v) ∧ ch = [(D, oD')]) ∧ (∀ q ∈ ch, q ∈ sm) ∧ ∀ p ∈ repL w R RD D c tc t1 t2 oD, p.1 ∉ [D] → p ∈ sm) := by
  refine Con.mono (con_setitem w mean mg mb R RD D c tc t1 t2 tk oD kvs x hD v hlen h1 h2) ?_
  rintro v sm ⟨rfl, oD', hd, rfl⟩
  refine ⟨rfl, _, ⟨oD', hd, rfl⟩, by simp, ?_⟩
  intro p hp hn
  simp only [List.mem_cons, List.mem_append, List.not_mem_nil, or_false] at hp hn ⊢
  rcases hp with rfl | rfl | rfl
  · simp
  · simp
  · exact absurd rfl hn

theorem deed_set {oc : Value} {od : Option Addr} {qual : Str} {params : Arguments} {body : List Stmt} {scope : Scope} {dV kV doc pm cdv ct : Value} {an : Option Addr} {osl : Array (Option Value)}
    (hlk : (hd.heap_39 w.params).lookup 226 = some ⟨oc, od, .func (fnOf (Str.ofString "law") qual params body scope dV kV doc pm an cdv ct), osl⟩)
    {s1 s2 s3 s4 s5 b1 b2 : Stmt} {brest srest thA thB elB els : List Stmt} {tgt it ca cb : Expr} {fp pa pb : Pos}
    (hb : body = s1 :: s2 :: s3 :: s4 :: s5 :: .For tgt it (b1 :: b2 :: .If ca thA [.If cb thB elB pb] pa :: brest) els fp :: srest) 
    {fa : Addr} {cd : Value} {g : Heap} {L S lF G1 G2 lM lC lS lO R RD D O M : Addr} {i j nS nM nO : Nat} {ti tj tw t1 t2 tc : Tok} {c way : Int} {c2 c3 oD oO : Obj} {kvsD kvsO : List (Str × Value)}
    {s : Shared} {m : Str → Option Value} {rest : List (Addr × Obj)} {vsS vsM vsO : List Value} {Q : Flow → Shared → Prop} {E : Value → Shared → Prop}
    (B : Below callerA g [] g) (X : (hd.heap_39 w.params).In g) (T : Top hd.view_39 (looseW hd.view_39 [Str.ofString "TextXObject"]) mean mg mb g)
    (F : Fr g L s.heap (fun z => if z = Str.ofString "way" then some (.int way tw) else if z = Str.ofString "model" then some (.int (j : Int) tj) else if z = Str.ofString "spot" then some (.int (i : Int) ti) else lm S lF G1 G2 lM lC m z))
    (N : News g L s.heap ((L + 1 + 1, c2) :: (L + 1 + 1 + 1, c3) :: (lS, listOf vsS.toArray nS) :: (lM, listOf vsM.toArray nM) :: (lO, listOf vsO.toArray nO) ::
      (R, instObj 157 RD) :: (RD, dictOf (repEs w c tc D t1 t2) 2) :: (D, oD) :: (O, oO) :: rest))
    (k2 : c2.data = .cell (some (.ref lS))) (k3 : c3.data = .cell (some (.ref lO)))
    (zS : vsS.length ≤ 64) (zM : vsM.length ≤ 64) (zO : vsO.length ≤ 64)
    (iS : vsS[i]? = some (.ref R)) (jM : vsM[j]? = some (.ref M)) (iO : vsO[i]? = some (.ref O))
    (hway : way = 3 ∨ way = 4)
    (hD : oD.IsDictOf (SK w) kvsD) (hO : oO.IsDictOf (SK w) kvsO) (lenD : kvsD.length ≤ 1000) (lenO : kvsO.length ≤ 1000)
    (nD : ∀ a ∈ [L + 1 + 1, L + 1 + 1 + 1, lS, lM, lO, R, RD, O], @Ne Nat a D) (nO' : ∀ a ∈ [L + 1 + 1, L + 1 + 1 + 1, lS, lM, lO, R, RD, D], @Ne Nat a O)
    (rD : ∀ p ∈ rest, p.1 ≠ D) (rO : ∀ p ∈ rest, p.1 ≠ O)
    (hQ : ∀ h' tk m' oD' oO' x, 1 ≤ x.length → x.length ≤ 1000 → oD'.IsDictOf (SK w) (stored kvsD x (.ref M)) → oO'.IsDictOf (SK w) (stored kvsO x (.int (j : Int) tj)) → HasLm S lF G1 G2 lM lC m' → Fr g L h' m' →
      News g L h' ((L + 1 + 1, c2) :: (L + 1 + 1 + 1, c3) :: (lS, listOf vsS.toArray nS) :: (lM, listOf vsM.toArray nM) :: (lO, listOf vsO.toArray nO) ::
      (R, instObj 157 RD) :: (RD, dictOf (repEs w c tc D t1 t2) 2) :: (D, oD') :: (O, oO') :: rest) → Q .next { s with heap := h', toks := tk }) :
    wpAny (model PySem.Challenge.rw_ez0369_01.row.prog w) (callerA.deeper (envOfC qual scope L fa cd)) (execs thB (envOfC qual scope L fa cd)) Q E s := by
  revert hlk
  k_fill
  intro hlk
  have e := look_eq (by k_is) hlk
  simp only [fnOf, fnX, Obj.mk.injEq, Data.func.injEq, FuncData.mk.injEq] at e
  obtain ⟨-, rfl, -, e4, rfl, -⟩ := e
  cases e4
  clear hlk
  simp only [List.cons.injEq, Stmt.For.injEq, Stmt.If.injEq] at hb
  obtain ⟨-, -, -, -, -, ⟨-, -, ⟨-, rfl, ⟨-, rfl, ⟨⟨-, rfl, rfl, -⟩, -⟩, -⟩, rfl⟩, -, -⟩, -⟩ := hb
  unfold lm at F
  simp only [List.forall_mem_cons, List.not_mem_nil, false_imp_iff, implies_true, and_true] at nD nO'
  obtain ⟨d1, d2, d3, d4, d5, d6, d7, d8⟩ := nD
  obtain ⟨o1, o2, o3, o4, o5, o6, o7, o8⟩ := nO'
  rcases hway with rfl | rfl
  all_goals
    iterate 29 walk1
    (rename Fr _ _ _ _ => F1); (rename News _ _ _ _ => N1)
    replace N1 := newsTail N1
    refine Con.useC [D] (con_setitemC w mean mg mb R RD D c tc t1 t2 _ oD kvsD _ hD _ (by omega) d6 d7) B F1 X N1 T (by exact rfl) (by exact rfl) (by exact rfl) (by exact rfl) (Nat.le_of_ble_eq_true rfl) (Nat.le_of_ble_eq_true rfl) ?_ ?_
    · intro q hq
      simp only [List.mem_cons, List.not_mem_nil, or_false] at hq ⊢
      rcases hq with rfl | rfl | rfl <;> simp
    rintro ch h2 tk2 ⟨oD', hD', rfl⟩ F2 N2
    clear N1 F1
    replace N2 := N2 ((L + 1 + 1, c2) :: (L + 1 + 1 + 1, c3) :: (lS, listOf vsS.toArray nS) :: (lM, listOf vsM.toArray nM) :: (lO, listOf vsO.toArray nO) ::
        (R, instObj 157 RD) :: (RD, dictOf (repEs w c tc D t1 t2) 2) :: (D, oD') :: (O, oO) :: rest) (by
      simp only [List.forall_mem_cons]
      refine ⟨?_, ?_, ?_, ?_, ?_, ?_, ?_, ?_, ?_, fun q hq => Or.inr ⟨by simp [hq], fun z => rD q hq (List.mem_singleton.mp z)⟩⟩
      all_goals first
        | exact Or.inl (.head _)
        | exact Or.inr ⟨by k_mem, fun z => absurd (List.mem_singleton.mp z) (by assumption)⟩)
    k_steps
    refine kda_set (knd := PySem.strKind _ _) (by k_asm) (by k_asm) (by k_updF) hO (strKind_is _ _ _ _) (by rw [sizeLine_eq]; omega) ?_
    intro h' o' F' N' hd'
    (try dsimp only at N')
    (try k_steps)
    exact hQ _ _ _ _ _ _ (by decide) (by decide) hD' hd' ⟨rfl, rfl, rfl, rfl, rfl, rfl⟩ F' N'
end
end Mine
end Mine
end

section
open PySem PySem.W PySem.Calls PyProof.Rows
theorem Mine.off_M5 {M : Model} {A : Around} {E : Value → Shared → Prop} {s : Shared} {Q : Flow → Shared → Prop} {env : Env} (h : Q .next s) : wpAny M A (execs [] env) Q E s := by
  w_top off
  try walk1
  first
    | exact h
    | exact wpAny_execs_nil h
end
section
open PySem PySem.W PySem.Calls PyProof.Rows Builtin Builtin.ObjectAttr
namespace Mine
namespace Mine

local macro_rules | `(tactic| k_room) => `(tactic| exact Nat.le_of_ble_eq_true rfl)
section
variable {w : World} {A A₀ : Around} {E : Value → Shared → Prop} {s : Shared} {base h₀ : Heap} {L : Addr} {m : Str → Option Value} {outer : List Env} {env : Env} {news : List (Addr × Obj)} {mean : ExcName → Option Value} {mg mb : Str → Option Value}
  {Q : Value → Shared → Prop} {O : Addr} {oO : Obj} {kvs : List (Str × Value)} {i : Int} {ti : Tok}

theorem use_without (B : Below A₀ base outer h₀) (F : Fr h₀ L s.heap m) (X : (hd.heap_39 w.params).In h₀) (N : News h₀ L s.heap news)
    (T : Top hd.view_39 (looseW hd.view_39 [Str.ofString "TextXObject"]) mean mg mb h₀)
    (hA : A.frames = some (env :: outer)) (hf : env.frame = some L) (hke : env.scope.kind = .function) (hh : A.handled = none) (hdp : A.depth ≤ 590) (hun : A.units ≤ 1900)
    (m1 : (O, oO) ∈ news) (hO : oO.IsDictOf (SK w) kvs) (hok : OwnOk kvs) (hlen : kvs.length ≤ 1000) (lo : (O == sysModules) = false)
    (ret : ∀ d oO' kvs' h' tk', oO'.IsDictOf (SK w) kvs' → OwnOk kvs' → absO kvs' = delA (absO kvs) i → (d == sysModules) = false → Fr h₀ L h' m → News h₀ L h' ((d, oO') :: news) → (∀ q ∈ news, @Ne Nat q.1 d) → Q (.ref d) { s with heap := h', toks := tk' }) :
    wpAny (model PySem.Challenge.rw_ez0369_01.row.prog w) A (call (.ref 216) [.ref O, .int i ti]) Q E s := by
  refine Con.use (con_without w mean mg mb O oO kvs i ti hO hok hlen lo) B F X N T hA hf hke hh hdp hun (fun q hq => List.mem_singleton.mp hq ▸ m1) ?_
  rintro v sm h' tk' ⟨d, oO', kvs', rfl, h1, h2, h3, hne, h4, rfl⟩ F' N' hkeep hfr
  have hd := hfr (d, oO') (.tail _ (.head _)) (by simpa using hne)
  have hall : ∀ b o, s.heap.get? b = some o → h'.get? b = some o := by
    intro b o e
    by_cases hb : b = O
    · subst hb
      have h1 := (N _ m1).1
      rw [e] at h1; cases h1
      exact (N' _ (.head _)).1
    · exact hkeep b o (by simpa using hb) e
  refine ret d oO' kvs' h' tk' h1 h2 h3 h4 F' (fun q hq => ?_) (fun q hq e => ?_)
  · rcases List.mem_cons.mp hq with rfl | hq
    · exact N' _ (.tail _ (.head _))
    · exact ⟨hall _ _ (N q hq).1, (N q hq).2⟩
  · have := (N q hq).1
    rw [e] at this
    exact absurd (hd.symm.trans this) (by simp)
end

local macro_rules | `(tactic| walk_at "subscriptTail") => `(tactic| (k_here; (with_reducible show wpAny _ _ (subscriptTail _ _ (Value.ref _) (Value.int _ _)) _ _ _); k_dflt (refine' idx_at ?N ?m ?x ?z ?_ ?b; (case N => k_asm); (case m => k_mem); (case x => assumption); (case z => assumption); (case b => with_unfolding_all rfl); k_whole)))
local macro_rules | `(tactic| walk_at "setItem ref int") => `(tactic| (k_here; (with_reducible show wpAny _ _ (PySem.setItem (Value.ref _) (Value.int _ _) _) _ _ _); k_dflt (refine' set_at ?F ?N ?U ?i ?z ?_; (case F => k_asm); (case N => k_asm); (case U => k_upd); (case i => assumption); (case z => assumption); k_whole); intro h' F' N'; (try dsimp only [List.nil_append, List.cons_append] at N'); (try dsimp only); (try k_sweep)))
local macro_rules | `(tactic| k_all) => `(tactic| assumption)

section
variable (w : World) (mean : ExcName → Option Value) (mg mb : Str → Option Value)

theorem turn_C {oc : Value} {od : Option Addr} {qual : Str} {params : Arguments} {body : List Stmt} {scope : Scope} {dV kV doc pm cdv ct : Value} {an : Option Addr} {osl : Array (Option Value)}
    (hlk : (hd.heap_39 w.params).lookup 226 = some ⟨oc, od, .func (fnOf (Str.ofString "law") qual params body scope dV kV doc pm an cdv ct), osl⟩)
    {s1 s2 s3 s4 s5 b1 b2 u1 : Stmt} {brest srest thA thB fb els2 elC els : List Stmt} {tgt it tg2 it2 ca cb cc : Expr} {fp pa pb pc fp2 : Pos}
    (hb : body = s1 :: s2 :: s3 :: s4 :: s5 :: .For tgt it (b1 :: b2 :: .If ca thA [.If cb thB [.If cc [u1, .For tg2 it2 fb els2 fp2] elC pc] pb] pa :: brest) els fp :: srest) 
    {fa : Addr} {cd : Value} {g : Heap} {L S lF G1 G2 lM lC lO O : Addr} {i j q nO : Nat} {ti tj tw tq : Tok} {way : Int} {c3 oO : Obj} {kvs : List (Str × Value)}
    {s : Shared} {m : Str → Option Value} {rest : List (Addr × Obj)} {vsO : List Value} {Q : Flow → Shared → Prop} {E : Value → Shared → Prop}
    (B : Below callerA g [] g) (X : (hd.heap_39 w.params).In g) (T : Top hd.view_39 (looseW hd.view_39 [Str.ofString "TextXObject"]) mean mg mb g)
    (F : Fr g L s.heap (fun y => if y = Str.ofString "one" then some (.int (q : Int) tq) else if y = Str.ofString "way" then some (.int way tw) else if y = Str.ofString "model" then some (.int (j : Int) tj) else if y = Str.ofString "spot" then some (.int (i : Int) ti) else lm S lF G1 G2 lM lC m y))
    (N : News g L s.heap ((L + 1 + 1 + 1, c3) :: (lO, listOf vsO.toArray nO) :: (O, oO) :: rest))
    (k3 : c3.data = .cell (some (.ref lO)))
    (zO : vsO.length ≤ 64) (iO : vsO[q]? = some (.ref O)) (lq : q < vsO.length)
    (hO : oO.IsDictOf (SK w) kvs) (hok : OwnOk kvs) (hlen : kvs.length ≤ 1000) (lo : (O == sysModules) = false)
    (n1 : @Ne Nat (L + 1 + 1 + 1) lO) (n2 : @Ne Nat O lO) (rO : ∀ p ∈ rest, p.1 ≠ lO)
    (hQ : ∀ h' tk d oO' kvs', oO'.IsDictOf (SK w) kvs' → OwnOk kvs' → absO kvs' = delA (absO kvs) (j : Int) → (d == sysModules) = false → (∀ p ∈ (L + 1 + 1 + 1, c3) :: (lO, listOf vsO.toArray nO) :: (O, oO) :: rest, @Ne Nat p.1 d) →
      Fr g L h' (fun y => if y = Str.ofString "one" then some (.int (q : Int) tq) else if y = Str.ofString "way" then some (.int way tw) else if y = Str.ofString "model" then some (.int (j : Int) tj) else if y = Str.ofString "spot" then some (.int (i : Int) ti) else lm S lF G1 G2 lM lC m y) →
      News g L h' ((d, oO') :: (L + 1 + 1 + 1, c3) :: (lO, listOf (vsO.set q (.ref d)).toArray nO) :: (O, oO) :: rest) → Q .next { s with heap := h', toks := tk }) :
    wpAny (model PySem.Challenge.rw_ez0369_01.row.prog w) (callerA.deeper (envOfC qual scope L fa cd)) (execs fb (envOfC qual scope L fa cd)) Q E s := by
  revert hlk
  k_fill
  intro hlk
  have e := look_eq (by k_is) hlk
  simp only [fnOf, fnX, Obj.mk.injEq, Data.func.injEq, FuncData.mk.injEq] at e
  obtain ⟨-, rfl, -, e4, rfl, -⟩ := e
  cases e4
  clear hlk
  simp only [List.cons.injEq, Stmt.For.injEq, Stmt.If.injEq] at hb
  obtain ⟨-, -, -, -, -, ⟨-, -, ⟨-, rfl, ⟨-, rfl, ⟨⟨-, rfl, ⟨⟨-, ⟨rfl, ⟨-, -, rfl, -⟩, -⟩, rfl, -⟩, -⟩, -⟩, -⟩, -⟩, rfl⟩, -, -⟩, -⟩ := hb
  unfold lm at F hQ
  iterate 14 walk1
  (rename Fr _ _ _ _ => F1); (rename News _ _ _ _ => N1)
  refine use_without B F1 X N1 T (by exact rfl) (by exact rfl) (by exact rfl) (by exact rfl) (Nat.le_of_ble_eq_true rfl) (Nat.le_of_ble_eq_true rfl) (by k_mem) hO hok hlen lo ?_
  intro d oO' kvs' h2 tk2 w1 w2 w3 w4 F2 N2 w5
  clear F1 N1
  have n3 : @Ne Nat d lO := Ne.symm (w5 (lO, _) (.tail _ (.head _)))
  k_steps
  exact hQ _ _ _ _ _ w1 w2 w3 w4 w5 (by k_asm) (by k_asm)

theorem turn_D {oc : Value} {od : Option Addr} {qual : Str} {params : Arguments} {body : List Stmt} {scope : Scope} {dV kV doc pm cdv ct : Value} {an : Option Addr} {osl : Array (Option Value)}
    (hlk : (hd.heap_39 w.params).lookup 226 = some ⟨oc, od, .func (fnOf (Str.ofString "law") qual params body scope dV kV doc pm an cdv ct), osl⟩)
    {s1 s2 s3 s4 s5 b1 b2 u1 : Stmt} {brest srest thA thB thC fb els2 els : List Stmt} {tgt it tg2 it2 ca cb cc : Expr} {fp pa pb pc fp2 : Pos}
    (hb : body = s1 :: s2 :: s3 :: s4 :: s5 :: .For tgt it (b1 :: b2 :: .If ca thA [.If cb thB [.If cc thC [u1, .For tg2 it2 fb els2 fp2] pc] pb] pa :: brest) els fp :: srest) 
    {fa : Addr} {cd : Value} {g : Heap} {L S lF G1 G2 lM lC lO O0 O1 O2 : Addr} {i j q nO : Nat} {ti tj tw tq : Tok} {way : Int} {c3 o0 o2 : Obj} {kvs0 kvs2 : List (Str × Value)}
    {s : Shared} {m : Str → Option Value} {rest : List (Addr × Obj)} {Q : Flow → Shared → Prop} {E : Value → Shared → Prop}
    (B : Below callerA g [] g) (X : (hd.heap_39 w.params).In g) (T : Top hd.view_39 (looseW hd.view_39 [Str.ofString "TextXObject"]) mean mg mb g)
    (F : Fr g L s.heap (fun y => if y = Str.ofString "one" then some (.int (q : Int) tq) else if y = Str.ofString "way" then some (.int way tw) else if y = Str.ofString "model" then some (.int (j : Int) tj) else if y = Str.ofString "spot" then some (.int (i : Int) ti) else lm S lF G1 G2 lM lC m y))
    (N : News g L s.heap ((L + 1 + 1 + 1, c3) :: (lO, listOf [Value.ref O0, .ref O1, .ref O2].toArray nO) :: (O0, o0) :: (O2, o2) :: rest))
    (k3 : c3.data = .cell (some (.ref lO)))
    (h0 : o0.IsDictOf (SK w) kvs0) (ok0 : OwnOk kvs0) (len0 : kvs0.length ≤ 1000) (lo0 : (O0 == sysModules) = false)
    (h2 : o2.IsDictOf (SK w) kvs2) (ok2 : OwnOk kvs2) (len2 : kvs2.length ≤ 1000) (lo2 : (O2 == sysModules) = false)
    (n1 : @Ne Nat (L + 1 + 1 + 1) lO) (n2 : @Ne Nat O0 lO) (n3 : @Ne Nat O2 lO) (rO : ∀ p ∈ rest, p.1 ≠ lO)
    (hQ : ∀ h' tk d0 o0' kvs0' d2 o2' kvs2', o0'.IsDictOf (SK w) kvs0' → OwnOk kvs0' → absO kvs0' = delA (absO kvs0) (q : Int) → (d0 == sysModules) = false → o2'.IsDictOf (SK w) kvs2' → OwnOk kvs2' → absO kvs2' = delA (absO kvs2) (q : Int) → (d2 == sysModules) = false →
      (∀ p ∈ (L + 1 + 1 + 1, c3) :: (lO, listOf [Value.ref O0, .ref O1, .ref O2].toArray nO) :: (O0, o0) :: (O2, o2) :: rest, @Ne Nat p.1 d2) → (∀ p ∈ (d2, o2') :: (L + 1 + 1 + 1, c3) :: (lO, listOf [Value.ref O0, .ref O1, .ref O2].toArray nO) :: (O0, o0) :: (O2, o2) :: rest, @Ne Nat p.1 d0) →
      Fr g L h' (fun y => if y = Str.ofString "one" then some (.int (q : Int) tq) else if y = Str.ofString "way" then some (.int way tw) else if y = Str.ofString "model" then some (.int (j : Int) tj) else if y = Str.ofString "spot" then some (.int (i : Int) ti) else lm S lF G1 G2 lM lC m y) →
      News g L h' ((d0, o0') :: (d2, o2') :: (L + 1 + 1 + 1, c3) :: (lO, listOf [Value.ref d0, .ref O1, .ref d2].toArray nO) :: (O0, o0) :: (O2, o2) :: rest) → Q .next { s with heap := h', toks := tk }) :
    wpAny (model PySem.Challenge.rw_ez0369_01.row.prog w) (callerA.deeper (envOfC qual scope L fa cd)) (execs fb (envOfC qual scope L fa cd)) Q E s := by
  revert hlk
  k_fill
  intro hlk
  have e := look_eq (by k_is) hlk
  simp only [fnOf, fnX, Obj.mk.injEq, Data.func.injEq, FuncData.mk.injEq] at e
  obtain ⟨-, rfl, -, e4, rfl, -⟩ := e
  cases e4
  clear hlk
  simp only [List.cons.injEq, Stmt.For.injEq, Stmt.If.injEq] at hb
  obtain ⟨-, -, -, -, -, ⟨-, -, ⟨-, rfl, ⟨-, rfl, ⟨⟨-, rfl, ⟨⟨-, rfl, ⟨rfl, ⟨-, -, rfl, -⟩, -⟩, -⟩, -⟩, -⟩, -⟩, -⟩, rfl⟩, -, -⟩, -⟩ := hb
  unfold lm at F hQ
  iterate 16 walk1
  (rename Fr _ _ _ _ => F1); (rename News _ _ _ _ => N1)
  refine use_without B F1 X N1 T (by exact rfl) (by exact rfl) (by exact rfl) (by exact rfl) (Nat.le_of_ble_eq_true rfl) (Nat.le_of_ble_eq_true rfl) (by k_mem) h2 ok2 len2 lo2 ?_
  intro d2 o2' kvs2' hh2 tk2 w1 w2 w3 w4 F2 N2 w5
  clear F1 N1
  iterate 13 walk1
  (rename Fr _ _ _ _ => F1); (rename News _ _ _ _ => N1)
  refine use_without B F1 X N1 T (by exact rfl) (by exact rfl) (by exact rfl) (by exact rfl) (Nat.le_of_ble_eq_true rfl) (Nat.le_of_ble_eq_true rfl) (by k_mem) h0 ok0 len0 lo0 ?_
  intro d0 o0' kvs0' hh3 tk3 w1' w2' w3' w4' F3 N3 w5'
  clear F1 N1
  have n4 : @Ne Nat d2 lO := Ne.symm (w5 (lO, _) (.tail _ (.head _)))
  have n5 : @Ne Nat d0 lO := Ne.symm (w5' (lO, _) (.tail _ (.tail _ (.head _))))
  k_steps
  exact hQ _ _ _ _ _ _ _ _ w1' w2' w3' w4' w1 w2 w3 w4 w5 w5' (by k_asm) (newsTail (by k_asm))
end
end Mine
end Mine
end

section
open PySem PySem.W PySem.Calls PyProof.Rows
theorem Mine.off_M6 {M : Model} {A : Around} {E : Value → Shared → Prop} {s : Shared} {Q : Flow → Shared → Prop} {env : Env} (h : Q .next s) : wpAny M A (execs [] env) Q E s := by
  w_top off
  try walk1
  first
    | exact h
    | exact wpAny_execs_nil h
end
section
open PySem PySem.W PySem.Calls PyProof.Rows Builtin Builtin.ObjectAttr
namespace Mine
namespace Mine

local macro_rules | `(tactic| k_room) => `(tactic| exact Nat.le_of_ble_eq_true rfl)
section
variable {prog : Program} {w : World} {A : Around} {E : Value → Shared → Prop} {s : Shared} {h₀ : Heap} {m : Str → Option Value} {news : List (Addr × Obj)} {env : Env}
theorem tup_loopU {x : Str} {body : List Stmt} {T : Addr} {items : Array Value} {Q : Flow → Shared → Prop} (hh : A.handled = none) (F : Fr h₀ env.locals s.heap m) (N : News h₀ env.locals s.heap news) (ht : s.heap.IsTuple T items) (hTl : T ≠ env.locals)
    (J : Nat → List (Addr × Obj) → Prop) (h0 : J 0 news)
    (step : ∀ (i : Nat) (v : Value) (nw own : List (Addr × Obj)) (s₁ : Shared) (I : Addr), items[i]? = some v → J i nw → (∀ p ∈ nw, p.1 ≠ I) → (∀ p ∈ own, p.1 = I ∨ p.1 = T) → (∃ o, (I, o) ∈ own) →
      Fr h₀ env.locals s₁.heap (fun y => if y = x then some v else m y) → News h₀ env.locals s₁.heap (own ++ nw) →
      wpAny (model prog w) A (execs body env) (LoopStepU h₀ env.locals [I] own (fun m' nw' => (∀ z, z ≠ x → m' z = m z) ∧ J (i + 1) nw') s₁) E s₁)
    (done : ∀ h' tk u nw, J items.size nw → Fr h₀ env.locals h' (fun z => if z = x then u else m z) → News h₀ env.locals h' nw → Q .next { s with heap := h', toks := tk }) :
    wpAny (model prog w) A (pyIter (.ref T)) (fun it s₂ => LoopAtU prog w A h₀ env x body Q E it s₂) E s := by
  refine wpAny_pyIter_tuple ht ?_
  have hlt : T < s.heap.objs.size := by obtain ⟨o, e, _⟩ := ht; exact Heap.lt_size e
  have up : ∀ b ob, s.heap.get? b = some ob → (s.heap.push { cls := .type "tuple_iterator", data := .fields #[.ref T, .int 0 0] }).get? b = some ob := fun b ob e => Heap.get?_push_of_some _ e
  have W := Walks.tuple (prog := prog) (w := w) hh s.heap.objs.size T (Nat.ne_of_lt hlt) items
  refine ⟨s.heap.objs.size, _, _, _, _, _, m, news, fun i m' nw => (∀ z, z ≠ x → m' z = m z) ∧ J i nw, rfl, W, ?_, ?_, ?_, ?_, F.keeps up, N.grown up, ⟨fun _ _ => rfl, h0⟩, ?_, ?_⟩
  · intro q
    rcases List.mem_cons.mp q with q | q
    · exact Nat.ne_of_lt F.ns.lt q
    · exact hTl (List.mem_singleton.mp q).symm
  · intro b hb; rw [List.mem_singleton.mp hb]; exact next_is_new F
  · intro p hp hb
    exact Nat.ne_of_lt (Heap.lt_size (N p hp).1) (List.mem_singleton.mp hb)
  · exact ⟨⟨_, Heap.get?_push_size _ rfl, rfl, rfl⟩, let ⟨o, e, r⟩ := ht; ⟨o, up _ _ e, r⟩⟩
  · intro i v m₁ nw s₁ own hi hx hJ hoff hfp _ hall hst F₁ N₁
    refine step i v nw own s₁ _ hx hJ.2 (fun p hp e => hoff p hp (List.mem_singleton.mpr e)) (fun p hp => ?_) (let ⟨⟨o, e, _⟩, _⟩ := hst; ⟨o, hall _ (.head _) (next_is_new F) o e⟩) (only_set hJ.1 ▸ F₁) N₁
    have := hfp p hp
    simpa using this
  · intro h' tk m' nw F₁ N₁ _ hJ
    exact done h' tk (m' x) nw hJ.2 (only_eq hJ.1 ▸ F₁) N₁
end

theorem newsPerm {g h : Heap} {L : Addr} {a b : List (Addr × Obj)} (N : News g L h a) (k : ∀ p ∈ b, p ∈ a) : News g L h b := fun p hp => N p (k p hp)

section
variable (w : World) (mean : ExcName → Option Value) (mg mb : Str → Option Value)

theorem loop_C {oc : Value} {od : Option Addr} {qual : Str} {params : Arguments} {body : List Stmt} {scope : Scope} {dV kV doc pm cdv ct : Value} {an : Option Addr} {osl : Array (Option Value)}
    (hlk : (hd.heap_39 w.params).lookup 226 = some ⟨oc, od, .func (fnOf (Str.ofString "law") qual params body scope dV kV doc pm an cdv ct), osl⟩)
    {s1 s2 s3 s4 s5 b1 b2 u1 : Stmt} {brest srest thA thB fb els2 elC els : List Stmt} {tgt it tg2 it2 ca cb cc : Expr} {fp pa pb pc fp2 : Pos}
    (hb : body = s1 :: s2 :: s3 :: s4 :: s5 :: .For tgt it (b1 :: b2 :: .If ca thA [.If cb thB [.If cc [u1, .For tg2 it2 fb els2 fp2] elC pc] pb] pa :: brest) els fp :: srest) 
    {fa : Addr} {cd : Value} {g : Heap} {L S lF G1 G2 lM lC lO O2 Ok : Addr} {i j k nO : Nat} {ti tj tw : Tok} {way : Int} {c3 o2 ok : Obj} {kvs2 kvsk : List (Str × Value)}
    {s : Shared} {m : Str → Option Value} {rest : List (Addr × Obj)} {vsf : Addr → Addr → List Value} {Q : Flow → Shared → Prop} {E : Value → Shared → Prop}
    (B : Below callerA g [] g) (X : (hd.heap_39 w.params).In g) (T : Top hd.view_39 (looseW hd.view_39 [Str.ofString "TextXObject"]) mean mg mb g)
    (F : Fr g L s.heap (fun y => if y = Str.ofString "way" then some (.int way tw) else if y = Str.ofString "model" then some (.int (j : Int) tj) else if y = Str.ofString "spot" then some (.int (i : Int) ti) else lm S lF G1 G2 lM lC m y))
    (N : News g L s.heap ((L + 1 + 1 + 1, c3) :: (lO, listOf (vsf O2 Ok).toArray nO) :: (O2, o2) :: (Ok, ok) :: rest))
    (k3 : c3.data = .cell (some (.ref lO))) (hway : way = 5 + (k : Int)) (hk : k < 2)
    (zO : ∀ a b, (vsf a b).length = 3) (g2 : ∀ a b, (vsf a b)[2]? = some (.ref a)) (gk : ∀ a b, (vsf a b)[k]? = some (.ref b)) (e2 : ∀ a b d, (vsf a b).set 2 (.ref d) = vsf d b) (ek : ∀ a b d, (vsf a b).set k (.ref d) = vsf a d)
    (h2 : o2.IsDictOf (SK w) kvs2) (ok2 : OwnOk kvs2) (len2 : kvs2.length ≤ 1000) (lo2 : (O2 == sysModules) = false)
    (hk' : ok.IsDictOf (SK w) kvsk) (okk : OwnOk kvsk) (lenk : kvsk.length ≤ 1000) (lok : (Ok == sysModules) = false)
    (n1 : @Ne Nat (L + 1 + 1 + 1) lO) (n2 : @Ne Nat O2 lO) (n3 : @Ne Nat Ok lO) (rO : ∀ p ∈ rest, p.1 ≠ lO)
    (hQ : ∀ h' tk u a2 p2 kv2 ak pk kvk, p2.IsDictOf (SK w) kv2 → OwnOk kv2 → absO kv2 = delA (absO kvs2) (j : Int) → (a2 == sysModules) = false → pk.IsDictOf (SK w) kvk → OwnOk kvk → absO kvk = delA (absO kvsk) (j : Int) → (ak == sysModules) = false →
      (∀ p ∈ (L + 1 + 1 + 1, c3) :: (lO, listOf (vsf O2 Ok).toArray nO) :: rest, @Ne Nat p.1 a2 ∧ @Ne Nat p.1 ak) → @Ne Nat a2 ak →
      Fr g L h' (fun y => if y = Str.ofString "one" then u else if y = Str.ofString "way" then some (.int way tw) else if y = Str.ofString "model" then some (.int (j : Int) tj) else if y = Str.ofString "spot" then some (.int (i : Int) ti) else lm S lF G1 G2 lM lC m y) →
      News g L h' ((L + 1 + 1 + 1, c3) :: (lO, listOf (vsf a2 ak).toArray nO) :: (a2, p2) :: (ak, pk) :: rest) → Q .next { s with heap := h', toks := tk })
    (hE : PassesOwn (model PySem.Challenge.rw_ez0369_01.row.prog w) (callerA.deeper (envOfC qual scope L fa cd)) (envOfC qual scope L fa cd) E) :
    wpAny (model PySem.Challenge.rw_ez0369_01.row.prog w) (callerA.deeper (envOfC qual scope L fa cd)) (exec (.For tg2 it2 fb els2 fp2) (envOfC qual scope L fa cd)) Q E s := by
  have hlk0 := hlk
  have hb0 := hb
  revert hlk
  k_fill
  intro hlk
  have e := look_eq (by k_is) hlk
  simp only [fnOf, fnX, Obj.mk.injEq, Data.func.injEq, FuncData.mk.injEq] at e
  obtain ⟨-, rfl, -, e4, rfl, -⟩ := e
  cases e4
  clear hlk
  simp only [List.cons.injEq, Stmt.For.injEq, Stmt.If.injEq] at hb
  obtain ⟨-, -, -, -, -, ⟨-, -, ⟨-, rfl, ⟨-, rfl, ⟨⟨-, rfl, ⟨⟨-, ⟨rfl, ⟨rfl, rfl, rfl, rfl, rfl⟩, -⟩, rfl, -⟩, -⟩, -⟩, -⟩, -⟩, rfl⟩, -, -⟩, -⟩ := hb
  refine For_invU g rfl rfl ?_ (by intro _; rfl) hE
  iterate 10 walk1
  (rename Fr _ _ _ _ => F1); (rename News _ _ _ _ => N1); (rename (_ ∧ _) => l1)
  have hw5 : way - 5 = (k : Int) := by omega
  rw [hw5] at N1
  rename Addr => TT
  have hTO : @Ne Nat TT lO := Ne.symm (Nat.ne_of_lt l1.2.1)
  refine tup_loopU rfl F1 (newsTail N1) (News.isTup N1 (.head _)) (N1 _ (.head _)).2.1 (fun i nw => match i with
    | 0 => nw = (L + 1 + 1 + 1, c3) :: (lO, listOf (vsf O2 Ok).toArray nO) :: (O2, o2) :: (Ok, ok) :: rest
    | 1 => ∃ a2 p2 kv2, p2.IsDictOf (SK w) kv2 ∧ OwnOk kv2 ∧ absO kv2 = delA (absO kvs2) (j : Int) ∧ (a2 == sysModules) = false ∧ (∀ p ∈ (L + 1 + 1 + 1, c3) :: (lO, listOf (vsf O2 Ok).toArray nO) :: (O2, o2) :: (Ok, ok) :: rest, @Ne Nat p.1 a2) ∧
        nw = (L + 1 + 1 + 1, c3) :: (lO, listOf (vsf a2 Ok).toArray nO) :: (a2, p2) :: (Ok, ok) :: rest
    | _ => ∃ a2 p2 kv2 ak pk kvk, p2.IsDictOf (SK w) kv2 ∧ OwnOk kv2 ∧ absO kv2 = delA (absO kvs2) (j : Int) ∧ (a2 == sysModules) = false ∧ pk.IsDictOf (SK w) kvk ∧ OwnOk kvk ∧ absO kvk = delA (absO kvsk) (j : Int) ∧ (ak == sysModules) = false ∧
        (∀ p ∈ (L + 1 + 1 + 1, c3) :: (lO, listOf (vsf O2 Ok).toArray nO) :: rest, @Ne Nat p.1 a2 ∧ @Ne Nat p.1 ak) ∧ @Ne Nat a2 ak ∧
        nw = (L + 1 + 1 + 1, c3) :: (lO, listOf (vsf a2 ak).toArray nO) :: (a2, p2) :: (ak, pk) :: rest) rfl ?_ ?_
  · intro i v nw own s₁ I hx hJ hoff hown ⟨oI, hI⟩ F₁ N₁
    have hIO : lO ≠ I → ∀ p ∈ own, @Ne Nat p.1 lO := fun h1 p hp e => (hown p hp).elim (fun q => h1 (e.symm.trans q)) (fun q => hTO (q.symm.trans e))
    match i, hx, hJ with
    | 0, hx, hJ =>
      cases hx
      subst hJ
      have NN : News g L s₁.heap ((L + 1 + 1 + 1, c3) :: (lO, listOf (vsf O2 Ok).toArray nO) :: (O2, o2) :: (Ok, ok) :: (rest ++ own)) := newsPerm N₁ (fun p hp => by
        simp only [List.mem_cons, List.mem_append] at hp ⊢; grind)
      refine turn_C (q := 2) w mean mg mb hlk0 hb0 B X T F₁ NN k3 (by rw [zO]; decide) (g2 _ _) (by rw [zO]; decide) h2 ok2 len2 lo2 n1 n2 ?_ ?_
      · intro p hp
        rcases List.mem_cons.mp hp with rfl | hp
        · exact n3
        · rcases List.mem_append.mp hp with hp | hp
          · exact rO p hp
          · exact hIO (hoff _ (.tail _ (.head _))) p hp
      · intro h' tk d oO' kvs' w1 w2 w3 w4 w5 F2 N2
        rw [e2] at N2
        have N3 : News g L h' (own ++ ((L + 1 + 1 + 1, c3) :: (lO, listOf (vsf d Ok).toArray nO) :: (d, oO') :: (Ok, ok) :: rest)) := newsPerm N2 (fun p hp => by
          simp only [List.mem_cons, List.mem_append] at hp ⊢; grind)
        refine LoopStepU.intro F2 N3 ?_ ⟨fun z hz => if_neg hz, d, oO', kvs', w1, w2, w3, w4, fun p hp => w5 p ?_, rfl⟩
        · simp only [List.forall_mem_cons, List.mem_singleton]
          refine ⟨hoff _ (.head _), hoff (lO, _) (.tail _ (.head _)), Ne.symm (w5 (I, oI) (by simp [hI])), hoff (Ok, ok) (by simp), fun p hp => hoff p (by simp [hp])⟩
        · simp only [List.mem_cons, List.mem_append] at hp ⊢; grind
    | 1, hx, hJ =>
      cases hx
      obtain ⟨a2, p2, kv2, x1, x2, x3, x4, x5, rfl⟩ := hJ
      have NN : News g L s₁.heap ((L + 1 + 1 + 1, c3) :: (lO, listOf (vsf a2 Ok).toArray nO) :: (Ok, ok) :: (a2, p2) :: (rest ++ own)) := newsPerm N₁ (fun p hp => by
        simp only [List.mem_cons, List.mem_append] at hp ⊢; grind)
      refine turn_C (q := k) w mean mg mb hlk0 hb0 B X T F₁ NN k3 (by rw [zO]; decide) (gk _ _) (by rw [zO]; omega) hk' okk lenk lok n1 n3 ?_ ?_
      · intro p hp
        rcases List.mem_cons.mp hp with rfl | hp
        · exact Ne.symm (x5 (lO, _) (.tail _ (.head _)))
        · rcases List.mem_append.mp hp with hp | hp
          · exact rO p hp
          · exact hIO (hoff (lO, _) (.tail _ (.head _))) p hp
      · intro h' tk d oO' kvs' w1 w2 w3 w4 w5 F2 N2
        rw [ek] at N2
        have N3 : News g L h' (own ++ ((L + 1 + 1 + 1, c3) :: (lO, listOf (vsf a2 d).toArray nO) :: (a2, p2) :: (d, oO') :: rest)) := newsPerm N2 (fun p hp => by
          simp only [List.mem_cons, List.mem_append] at hp ⊢; grind)
        refine LoopStepU.intro F2 N3 ?_ ⟨fun z hz => if_neg hz, a2, p2, kv2, d, oO', kvs', x1, x2, x3, x4, w1, w2, w3, w4, ?_, w5 (a2, p2) (by simp), rfl⟩
        · simp only [List.forall_mem_cons, List.mem_singleton]
          refine ⟨hoff _ (.head _), hoff (lO, _) (.tail _ (.head _)), hoff (a2, p2) (by simp), Ne.symm (w5 (I, oI) (by simp [hI])), fun p hp => hoff p (by simp [hp])⟩
        · simp only [List.forall_mem_cons]
          refine ⟨⟨x5 (_, c3) (.head _), w5 (_, c3) (.head _)⟩, ⟨x5 (lO, _) (.tail _ (.head _)), w5 (lO, _) (.tail _ (.head _))⟩, fun p hp => ⟨x5 p (by simp [hp]), w5 p (by simp [hp])⟩⟩
    | i + 2, hx, hJ => simp at hx
  · rintro h' tk u nw ⟨a2, p2, kv2, ak, pk, kvk, x1, x2, x3, x4, x5, x6, x7, x8, x9, x10, rfl⟩ F2 N2
    exact hQ _ _ _ _ _ _ _ _ _ x1 x2 x3 x4 x5 x6 x7 x8 x9 x10 F2 N2
end
end Mine
end Mine
end

section
open PySem PySem.W PySem.Calls PyProof.Rows
theorem Mine.off_M7 {M : Model} {A : Around} {E : Value → Shared → Prop} {s : Shared} {Q : Flow → Shared → Prop} {env : Env} (h : Q .next s) : wpAny M A (execs [] env) Q E s := by
  w_top off
  try walk1
  first
    | exact h
    | exact wpAny_execs_nil h
end
section
open PySem PySem.W PySem.Calls PyProof.Rows Builtin Builtin.ObjectAttr
namespace Mine
namespace Mine

local macro_rules | `(tactic| k_room) => `(tactic| exact Nat.le_of_ble_eq_true rfl)
section
variable (w : World) (mean : ExcName → Option Value) (mg mb : Str → Option Value)

theorem loop_D {oc : Value} {od : Option Addr} {qual : Str} {params : Arguments} {body : List Stmt} {scope : Scope} {dV kV doc pm cdv ct : Value} {an : Option Addr} {osl : Array (Option Value)}
    (hlk : (hd.heap_39 w.params).lookup 226 = some ⟨oc, od, .func (fnOf (Str.ofString "law") qual params body scope dV kV doc pm an cdv ct), osl⟩)
    {s1 s2 s3 s4 s5 b1 b2 u1 : Stmt} {brest srest thA thB thC fb els2 els : List Stmt} {tgt it tg2 it2 ca cb cc : Expr} {fp pa pb pc fp2 : Pos}
    (hb : body = s1 :: s2 :: s3 :: s4 :: s5 :: .For tgt it (b1 :: b2 :: .If ca thA [.If cb thB [.If cc thC [u1, .For tg2 it2 fb els2 fp2] pc] pb] pa :: brest) els fp :: srest) 
    {fa : Addr} {cd : Value} {g : Heap} {L S lF G1 G2 lM lC lO O0 O1 O2 : Addr} {i j nO : Nat} {ti tj tw : Tok} {way : Int} {c3 o2 o0 : Obj} {kvs2 kvs0 : List (Str × Value)}
    {s : Shared} {m : Str → Option Value} {rest : List (Addr × Obj)} {Q : Flow → Shared → Prop} {E : Value → Shared → Prop}
    (B : Below callerA g [] g) (X : (hd.heap_39 w.params).In g) (T : Top hd.view_39 (looseW hd.view_39 [Str.ofString "TextXObject"]) mean mg mb g)
    (F : Fr g L s.heap (fun y => if y = Str.ofString "way" then some (.int way tw) else if y = Str.ofString "model" then some (.int (j : Int) tj) else if y = Str.ofString "spot" then some (.int (i : Int) ti) else lm S lF G1 G2 lM lC m y))
    (N : News g L s.heap ((L + 1 + 1 + 1, c3) :: (lO, listOf [Value.ref O0, .ref O1, .ref O2].toArray nO) :: (O2, o2) :: (O0, o0) :: rest))
    (k3 : c3.data = .cell (some (.ref lO)))
    (h2 : o2.IsDictOf (SK w) kvs2) (ok2 : OwnOk kvs2) (len2 : kvs2.length ≤ 1000) (lo2 : (O2 == sysModules) = false)
    (h0 : o0.IsDictOf (SK w) kvs0) (ok0 : OwnOk kvs0) (len0 : kvs0.length ≤ 1000) (lo0 : (O0 == sysModules) = false)
    (n1 : @Ne Nat (L + 1 + 1 + 1) lO) (n2 : @Ne Nat O2 lO) (n3 : @Ne Nat O0 lO) (rO : ∀ p ∈ rest, p.1 ≠ lO)
    (hQ : ∀ h' tk u a2 p2 kv2 a0 p0 kv0, p2.IsDictOf (SK w) kv2 → OwnOk kv2 → absO kv2 = delA (delA (absO kvs2) 0) (j : Int) → (a2 == sysModules) = false → p0.IsDictOf (SK w) kv0 → OwnOk kv0 → absO kv0 = delA (delA (absO kvs0) 0) (j : Int) → (a0 == sysModules) = false →
      (∀ p ∈ (L + 1 + 1 + 1, c3) :: (lO, listOf [Value.ref O0, .ref O1, .ref O2].toArray nO) :: rest, @Ne Nat p.1 a2 ∧ @Ne Nat p.1 a0) → @Ne Nat a2 a0 →
      Fr g L h' (fun y => if y = Str.ofString "one" then u else if y = Str.ofString "way" then some (.int way tw) else if y = Str.ofString "model" then some (.int (j : Int) tj) else if y = Str.ofString "spot" then some (.int (i : Int) ti) else lm S lF G1 G2 lM lC m y) →
      News g L h' ((L + 1 + 1 + 1, c3) :: (lO, listOf [Value.ref a0, .ref O1, .ref a2].toArray nO) :: (a2, p2) :: (a0, p0) :: rest) → Q .next { s with heap := h', toks := tk })
    (hE : PassesOwn (model PySem.Challenge.rw_ez0369_01.row.prog w) (callerA.deeper (envOfC qual scope L fa cd)) (envOfC qual scope L fa cd) E) :
    wpAny (model PySem.Challenge.rw_ez0369_01.row.prog w) (callerA.deeper (envOfC qual scope L fa cd)) (exec (.For tg2 it2 fb els2 fp2) (envOfC qual scope L fa cd)) Q E s := by
  have hlk0 := hlk
  have hb0 := hb
  revert hlk
  k_fill
  intro hlk
  have e := look_eq (by k_is) hlk
  simp only [fnOf, fnX, Obj.mk.injEq, Data.func.injEq, FuncData.mk.injEq] at e
  obtain ⟨-, rfl, -, e4, rfl, -⟩ := e
  cases e4
  clear hlk
  simp only [List.cons.injEq, Stmt.For.injEq, Stmt.If.injEq] at hb
  obtain ⟨-, -, -, -, -, ⟨-, -, ⟨-, rfl, ⟨-, rfl, ⟨⟨-, rfl, ⟨⟨-, rfl, ⟨rfl, ⟨rfl, rfl, rfl, rfl, rfl⟩, -⟩, -⟩, -⟩, -⟩, -⟩, -⟩, rfl⟩, -, -⟩, -⟩ := hb
  refine For_invU g rfl rfl ?_ (by intro _; rfl) hE
  iterate 7 walk1
  (rename Fr _ _ _ _ => F1); (rename News _ _ _ _ => N1); (rename (_ ∧ _) => l1)
  rename Addr => TT
  have hTO : @Ne Nat TT lO := Ne.symm (Nat.ne_of_lt l1.2.1)
  have lenA : ∀ {kv : List (Str × Value)} {l : List (Str × Int)} {j : Int}, absO kv = delA l j → l.length ≤ 1000 → kv.length ≤ 1000 := fun {kv l j} e h => by
    have e1 : kv.length = (absO kv).length := by simp [absO]
    rw [e1, e]; exact Nat.le_trans (List.length_filter_le _ _) h
  refine tup_loopU rfl F1 (newsTail N1) (News.isTup N1 (.head _)) (N1 _ (.head _)).2.1 (fun i nw => match i with
    | 0 => nw = (L + 1 + 1 + 1, c3) :: (lO, listOf [Value.ref O0, .ref O1, .ref O2].toArray nO) :: (O2, o2) :: (O0, o0) :: rest
    | i + 1 => ∃ a2 p2 kv2 a0 p0 kv0, p2.IsDictOf (SK w) kv2 ∧ OwnOk kv2 ∧ absO kv2 = (if i = 0 then delA (absO kvs2) 0 else delA (delA (absO kvs2) 0) (j : Int)) ∧ (a2 == sysModules) = false ∧ p0.IsDictOf (SK w) kv0 ∧ OwnOk kv0 ∧ absO kv0 = (if i = 0 then delA (absO kvs0) 0 else delA (delA (absO kvs0) 0) (j : Int)) ∧ (a0 == sysModules) = false ∧
        (∀ p ∈ (L + 1 + 1 + 1, c3) :: (lO, listOf [Value.ref O0, .ref O1, .ref O2].toArray nO) :: rest, @Ne Nat p.1 a2 ∧ @Ne Nat p.1 a0) ∧ @Ne Nat a2 a0 ∧
        nw = (L + 1 + 1 + 1, c3) :: (lO, listOf [Value.ref a0, .ref O1, .ref a2].toArray nO) :: (a2, p2) :: (a0, p0) :: rest) rfl ?_ ?_
  · intro i v nw own s₁ I hx hJ hoff hown ⟨oI, hI⟩ F₁ N₁
    have hIO : lO ≠ I → ∀ p ∈ own, @Ne Nat p.1 lO := fun h1 p hp e => (hown p hp).elim (fun q => h1 (e.symm.trans q)) (fun q => hTO (q.symm.trans e))
    match i, hx, hJ with
    | 0, hx, hJ =>
      cases hx
      subst hJ
      have NN : News g L s₁.heap ((L + 1 + 1 + 1, c3) :: (lO, listOf [Value.ref O0, .ref O1, .ref O2].toArray nO) :: (O0, o0) :: (O2, o2) :: (rest ++ own)) := newsPerm N₁ (fun p hp => by
        simp only [List.mem_cons, List.mem_append] at hp ⊢; grind)
      refine turn_D (q := 0) w mean mg mb hlk0 hb0 B X T F₁ NN k3 h0 ok0 len0 lo0 h2 ok2 len2 lo2 n1 n3 n2 ?_ ?_
      · intro p hp
        rcases List.mem_append.mp hp with hp | hp
        · exact rO p hp
        · exact hIO (hoff _ (.tail _ (.head _))) p hp
      · intro h' tk d0 q0 kv0 d2 q2 kv2 w1 w2 w3 w4 x1 x2 x3 x4 w5 x5 F2 N2
        have N3 : News g L h' (own ++ ((L + 1 + 1 + 1, c3) :: (lO, listOf [Value.ref d0, .ref O1, .ref d2].toArray nO) :: (d2, q2) :: (d0, q0) :: rest)) := newsPerm N2 (fun p hp => by
          simp only [List.mem_cons, List.mem_append] at hp ⊢; grind)
        refine LoopStepU.intro F2 N3 ?_ ⟨fun z hz => if_neg hz, d2, q2, kv2, d0, q0, kv0, x1, x2, x3, x4, w1, w2, w3, w4, ?_, x5 (d2, q2) (.head _), rfl⟩
        · simp only [List.forall_mem_cons, List.mem_singleton]
          refine ⟨hoff _ (.head _), hoff (lO, _) (.tail _ (.head _)), Ne.symm (w5 (I, oI) (by simp [hI])), Ne.symm (x5 (I, oI) (by simp [hI])), fun p hp => hoff p (by simp [hp])⟩
        · simp only [List.forall_mem_cons]
          refine ⟨⟨w5 (_, c3) (.head _), x5 (_, c3) (.tail _ (.head _))⟩, ⟨w5 (lO, _) (.tail _ (.head _)), x5 (lO, _) (.tail _ (.tail _ (.head _)))⟩, fun p hp => ⟨w5 p (by simp [hp]), x5 p (by simp [hp])⟩⟩
    | 1, hx, hJ =>
      cases hx
      obtain ⟨a2, p2, kv2, a0, p0, kv0, y1, y2, y3, y4, z1, z2, z3, z4, y5, y6, rfl⟩ := hJ
      rw [if_pos rfl] at y3 z3
      have NN : News g L s₁.heap ((L + 1 + 1 + 1, c3) :: (lO, listOf [Value.ref a0, .ref O1, .ref a2].toArray nO) :: (a0, p0) :: (a2, p2) :: (rest ++ own)) := newsPerm N₁ (fun p hp => by
        simp only [List.mem_cons, List.mem_append] at hp ⊢; grind)
      refine turn_D (q := j) w mean mg mb hlk0 hb0 B X T F₁ NN k3 z1 z2 (lenA z3 (by simpa [absO] using len0)) z4 y1 y2 (lenA y3 (by simpa [absO] using len2)) y4 n1 (Ne.symm (y5 (lO, _) (.tail _ (.head _))).2) (Ne.symm (y5 (lO, _) (.tail _ (.head _))).1) ?_ ?_
      · intro p hp
        rcases List.mem_append.mp hp with hp | hp
        · exact rO p hp
        · exact hIO (hoff (lO, _) (.tail _ (.head _))) p hp
      · intro h' tk d0 q0 kv0' d2 q2 kv2' w1 w2 w3 w4 x1 x2 x3 x4 w5 x5 F2 N2
        rw [z3] at w3
        rw [y3] at x3
        have N3 : News g L h' (own ++ ((L + 1 + 1 + 1, c3) :: (lO, listOf [Value.ref d0, .ref O1, .ref d2].toArray nO) :: (d2, q2) :: (d0, q0) :: rest)) := newsPerm N2 (fun p hp => by
          simp only [List.mem_cons, List.mem_append] at hp ⊢; grind)
        refine LoopStepU.intro F2 N3 ?_ ⟨fun z hz => if_neg hz, d2, q2, kv2', d0, q0, kv0', x1, x2, x3, x4, w1, w2, w3, w4, ?_, x5 (d2, q2) (.head _), rfl⟩
        · simp only [List.forall_mem_cons, List.mem_singleton]
          refine ⟨hoff _ (.head _), hoff (lO, _) (.tail _ (.head _)), Ne.symm (w5 (I, oI) (by simp [hI])), Ne.symm (x5 (I, oI) (by simp [hI])), fun p hp => hoff p (by simp [hp])⟩
        · simp only [List.forall_mem_cons]
          refine ⟨⟨w5 (_, c3) (.head _), x5 (_, c3) (.tail _ (.head _))⟩, ⟨w5 (lO, _) (.tail _ (.head _)), x5 (lO, _) (.tail _ (.tail _ (.head _)))⟩, fun p hp => ⟨w5 p (by simp [hp]), x5 p (by simp [hp])⟩⟩
    | i + 2, hx, hJ => simp at hx
  · rintro h' tk u nw ⟨a2, p2, kv2, ak, pk, kvk, x1, x2, x3, x4, x5, x6, x7, x8, x9, x10, rfl⟩ F2 N2
    exact hQ _ _ _ _ _ _ _ _ _ x1 x2 x3 x4 x5 x6 x7 x8 x9 x10 F2 N2
end
end Mine
end Mine
end

section
open PySem PySem.W PySem.Calls PyProof.Rows
theorem Mine.off_M8 {M : Model} {A : Around} {E : Value → Shared → Prop} {s : Shared} {Q : Flow → Shared → Prop} {env : Env} (h : Q .next s) : wpAny M A (execs [] env) Q E s := by
  w_top off
  try walk1
  first
    | exact h
    | exact wpAny_execs_nil h
end
section
open PySem PySem.W PySem.Calls PyProof.Rows Builtin Builtin.ObjectAttr
namespace Mine
namespace Mine

local macro_rules | `(tactic| k_room) => `(tactic| exact Nat.le_of_ble_eq_true rfl)
local macro_rules | `(tactic| walk_at "subscriptTail") => `(tactic| (k_here; (with_reducible show wpAny _ _ (subscriptTail _ _ (Value.ref _) (Value.int _ _)) _ _ _); k_dflt (refine' idx_at ?N ?m ?x ?z ?_ ?b; (case N => k_asm); (case m => k_mem); (case x => assumption); (case z => assumption); (case b => with_unfolding_all rfl); k_whole)))
local macro_rules | `(tactic| k_all) => `(tactic| assumption)

section
variable (w : World) (mean : ExcName → Option Value) (mg mb : Str → Option Value)

theorem con_gremoveC (G GD : Addr) (g1 g2 : Tok) (rL rA : Rep) (cL cA : Int) (tL tA : Tok) (oL oA : Obj) (kL kA : List (Str × Value)) (M : Addr) (ms : List (Addr × Addr))
    (hL : oL.IsDictOf (SK w) kL) (hA : oA.IsDictOf (SK w) kA) (okL : KvsOk ms kL) (okA : KvsOk ms kA) (loL : (rL.D == sysModules) = false) (loA : (rA.D == sysModules) = false)
    (dA : ∀ p ∈ gloL w G GD rL.R rA.R g1 g2 ++ (rA.R, instObj 157 rA.RD) :: (rA.RD, dictOf (repEs w cA tA rA.D rA.t1 rA.t2) 2) :: (RepL w rL cL tL oL ++ msL ms), @Ne Nat p.1 rA.D)
    (dL : ∀ p ∈ gloL w G GD rL.R rA.R g1 g2 ++ (rL.R, instObj 157 rL.RD) :: (rL.RD, dictOf (repEs w cL tL rL.D rL.t1 rL.t2) 2) :: (RepL w rA cA tA oA ++ msL ms), @Ne Nat p.1 rL.D)
    (hM : ∃ MD, (M, MD) ∈ ms) :
    Con 580 1800 w mean mg mb 183 [.ref G, .ref M] (gloL w G GD rL.R rA.R g1 g2 ++ (RepL w rA cA tA oA ++ (RepL w rL cL tL oL ++ msL ms)))
      (fun v sm => v = .none ∧ ∃ ch, (∃ oL' oA', oL'.IsDictOf (SK w) (removed kL (.ref M)) ∧ oA'.IsDictOf (SK w) (removed kA (.ref M)) ∧ ch = [(rA.D, oA'), (rL.D, oL')]) ∧ (∀ q ∈ ch, q ∈ sm) ∧
        ∀ p ∈ gloL w G GD rL.R rA.R g1 g2 ++ (RepL w rA cA tA oA ++ (RepL w rL cL tL oL ++ msL ms)), p.1 ∉ [rA.D, rL.D] → p ∈ sm) := by
  refine Con.mono (con_gremove w mean mg mb G GD g1 g2 rL rA cL cA tL tA oL oA kL kA M ms hL hA okL okA loL loA dA dL hM) ?_
  rintro v sm ⟨rfl, oL', oA', h1, h2, rfl⟩
  refine ⟨rfl, _, ⟨oL', oA', h1, h2, rfl⟩, by simp, ?_⟩
  intro p hp hn
  simp only [List.mem_cons, List.mem_append, List.not_mem_nil, or_false] at hp hn ⊢
  rcases hp with (rfl | rfl) | (rfl | rfl | rfl) | (rfl | rfl | rfl) | hp
  · simp
  · simp
  · simp
  · simp
  · exact absurd (Or.inl rfl) hn
  · simp
  · simp
  · exact absurd (Or.inr rfl) hn
  · simp [hp]

theorem deed_rem {oc : Value} {od : Option Addr} {qual : Str} {params : Arguments} {body : List Stmt} {scope : Scope} {dV kV doc pm cdv ct : Value} {an : Option Addr} {osl : Array (Option Value)}
    (hlk : (hd.heap_39 w.params).lookup 226 = some ⟨oc, od, .func (fnOf (Str.ofString "law") qual params body scope dV kV doc pm an cdv ct), osl⟩)
    {s1 s2 s3 s4 s5 b1 b2 u1 : Stmt} {brest srest thA thB fb els2 elC els : List Stmt} {tgt it tg2 it2 ca cb cc : Expr} {fp pa pb pc fp2 : Pos}
    (hb : body = s1 :: s2 :: s3 :: s4 :: s5 :: .For tgt it (b1 :: b2 :: .If ca thA [.If cb thB [.If cc [u1, .For tg2 it2 fb els2 fp2] elC pc] pb] pa :: brest) els fp :: srest) 
    {fa : Addr} {cd : Value} {g : Heap} {L S lF G1 G2 lM lC lO O2 Ok G GD M : Addr} {i j k nO nM : Nat} {ti tj tw g1 g2 tA tL : Tok} {way cA cL : Int} {c3 o2 ok oA oL : Obj} {kvs2 kvsk kA kL : List (Str × Value)} {rL rA : Rep} {ms : List (Addr × Addr)}
    {s : Shared} {m : Str → Option Value} {rest : List (Addr × Obj)} {vsf : Addr → Addr → List Value} {vsM : List Value} {Q : Flow → Shared → Prop} {E : Value → Shared → Prop}
    (B : Below callerA g [] g) (X : (hd.heap_39 w.params).In g) (T : Top hd.view_39 (looseW hd.view_39 [Str.ofString "TextXObject"]) mean mg mb g)
    (F : Fr g L s.heap (fun y => if y = Str.ofString "way" then some (.int way tw) else if y = Str.ofString "model" then some (.int (j : Int) tj) else if y = Str.ofString "spot" then some (.int (i : Int) ti) else lm S lF G1 G2 lM lC m y))
    (N : News g L s.heap ((L + 1 + 1 + 1, c3) :: (lM, listOf vsM.toArray nM) :: (lO, listOf (vsf O2 Ok).toArray nO) :: (O2, o2) :: (Ok, ok) :: (G, instObj 193 GD) :: (GD, dictOf (gloEs w rL.R rA.R g1 g2) 2) ::
      (rA.R, instObj 157 rA.RD) :: (rA.RD, dictOf (repEs w cA tA rA.D rA.t1 rA.t2) 2) :: (rA.D, oA) :: (rL.R, instObj 157 rL.RD) :: (rL.RD, dictOf (repEs w cL tL rL.D rL.t1 rL.t2) 2) :: (rL.D, oL) :: (msL ms ++ rest)))
    (k3 : c3.data = .cell (some (.ref lO))) (hk : k < 2) (hG : (way = 5 ∧ G = G1 ∧ k = 0) ∨ (way = 6 ∧ G = G2 ∧ k = 1)) (zM : vsM.length ≤ 64) (jM : vsM[j]? = some (.ref M)) (hM : ∃ MD, (M, MD) ∈ ms)
    (zO : ∀ a b, (vsf a b).length = 3) (q2 : ∀ a b, (vsf a b)[2]? = some (.ref a)) (qk : ∀ a b, (vsf a b)[k]? = some (.ref b)) (e2 : ∀ a b d, (vsf a b).set 2 (.ref d) = vsf d b) (ek : ∀ a b d, (vsf a b).set k (.ref d) = vsf a d)
    (h2 : o2.IsDictOf (SK w) kvs2) (ok2 : OwnOk kvs2) (len2 : kvs2.length ≤ 1000) (lo2 : (O2 == sysModules) = false)
    (hk' : ok.IsDictOf (SK w) kvsk) (okk : OwnOk kvsk) (lenk : kvsk.length ≤ 1000) (lok : (Ok == sysModules) = false)
    (hL : oL.IsDictOf (SK w) kL) (hA : oA.IsDictOf (SK w) kA) (okL : KvsOk ms kL) (okA : KvsOk ms kA) (loL : (rL.D == sysModules) = false) (loA : (rA.D == sysModules) = false)
    (nA : ∀ a ∈ [L + 1 + 1 + 1, lM, lO, O2, Ok, G, GD, rA.R, rA.RD, rL.R, rL.RD, rL.D], @Ne Nat a rA.D) (nAm : ∀ p ∈ msL ms, @Ne Nat p.1 rA.D) (nAr : ∀ p ∈ rest, @Ne Nat p.1 rA.D)
    (nL : ∀ a ∈ [L + 1 + 1 + 1, lM, lO, O2, Ok, G, GD, rA.R, rA.RD, rA.D, rL.R, rL.RD], @Ne Nat a rL.D) (nLm : ∀ p ∈ msL ms, @Ne Nat p.1 rL.D) (nLr : ∀ p ∈ rest, @Ne Nat p.1 rL.D)
    (xO : ∀ a ∈ [L + 1 + 1 + 1, lM, O2, Ok, G, GD, rA.R, rA.RD, rA.D, rL.R, rL.RD, rL.D], @Ne Nat a lO) (xOm : ∀ p ∈ msL ms, @Ne Nat p.1 lO) (xOr : ∀ p ∈ rest, @Ne Nat p.1 lO)
    (hQ : ∀ h' tk m' oA' oL' a2 p2 kv2 ak pk kvk, oL'.IsDictOf (SK w) (removed kL (.ref M)) → oA'.IsDictOf (SK w) (removed kA (.ref M)) → p2.IsDictOf (SK w) kv2 → OwnOk kv2 → absO kv2 = delA (absO kvs2) (j : Int) → (a2 == sysModules) = false → pk.IsDictOf (SK w) kvk → OwnOk kvk → absO kvk = delA (absO kvsk) (j : Int) → (ak == sysModules) = false →
      (∀ p ∈ (L + 1 + 1 + 1, c3) :: (lO, listOf (vsf O2 Ok).toArray nO) :: (lM, listOf vsM.toArray nM) :: (G, instObj 193 GD) :: (GD, dictOf (gloEs w rL.R rA.R g1 g2) 2) ::
        (rA.R, instObj 157 rA.RD) :: (rA.RD, dictOf (repEs w cA tA rA.D rA.t1 rA.t2) 2) :: (rA.D, oA') :: (rL.R, instObj 157 rL.RD) :: (rL.RD, dictOf (repEs w cL tL rL.D rL.t1 rL.t2) 2) :: (rL.D, oL') :: (msL ms ++ rest), @Ne Nat p.1 a2 ∧ @Ne Nat p.1 ak) → @Ne Nat a2 ak →
      HasLm S lF G1 G2 lM lC m' → Fr g L h' m' →
      News g L h' ((L + 1 + 1 + 1, c3) :: (lO, listOf (vsf a2 ak).toArray nO) :: (a2, p2) :: (ak, pk) :: (lM, listOf vsM.toArray nM) :: (G, instObj 193 GD) :: (GD, dictOf (gloEs w rL.R rA.R g1 g2) 2) ::
        (rA.R, instObj 157 rA.RD) :: (rA.RD, dictOf (repEs w cA tA rA.D rA.t1 rA.t2) 2) :: (rA.D, oA') :: (rL.R, instObj 157 rL.RD) :: (rL.RD, dictOf (repEs w cL tL rL.D rL.t1 rL.t2) 2) :: (rL.D, oL') :: (msL ms ++ rest)) → Q .next { s with heap := h', toks := tk })
    (hE : PassesOwn (model PySem.Challenge.rw_ez0369_01.row.prog w) (callerA.deeper (envOfC qual scope L fa cd)) (envOfC qual scope L fa cd) E) :
    wpAny (model PySem.Challenge.rw_ez0369_01.row.prog w) (callerA.deeper (envOfC qual scope L fa cd)) (execs [u1, .For tg2 it2 fb els2 fp2] (envOfC qual scope L fa cd)) Q E s := by
  have hlk0 := hlk
  have hb0 := hb
  revert hlk
  k_fill
  intro hlk
  have e := look_eq (by k_is) hlk
  simp only [fnOf, fnX, Obj.mk.injEq, Data.func.injEq, FuncData.mk.injEq] at e
  obtain ⟨-, rfl, -, e4, rfl, -⟩ := e
  cases e4
  clear hlk
  simp only [List.cons.injEq, Stmt.For.injEq, Stmt.If.injEq] at hb
  obtain ⟨-, -, -, -, -, ⟨-, -, ⟨-, rfl, ⟨-, rfl, ⟨⟨-, rfl, ⟨⟨-, ⟨rfl, ⟨rfl, rfl, rfl, rfl, rfl⟩, -⟩, rfl, -⟩, -⟩, -⟩, -⟩, -⟩, rfl⟩, -, -⟩, -⟩ := hb
  simp only [List.forall_mem_cons, List.not_mem_nil, false_imp_iff, implies_true, and_true] at nA nL xO
  obtain ⟨a1, a2, a3, a4, a5, a6, a7, a8, a9, a10, a11, a12⟩ := nA
  obtain ⟨l1, l2, l3, l4, l5, l6, l7, l8, l9, l10, l11, l12⟩ := nL
  obtain ⟨o1, o2', o3, o4, o5, o6, o7, o8, o9, o10, o11, o12⟩ := xO
  unfold lm at F
  rcases hG with ⟨rfl, rfl, rfl⟩ | ⟨rfl, rfl, rfl⟩
  all_goals
    iterate 20 walk1
    (rename Fr _ _ _ _ => F1); (rename News _ _ _ _ => N1)
    have dA : ∀ p ∈ gloL w G GD rL.R rA.R g1 g2 ++ (rA.R, instObj 157 rA.RD) :: (rA.RD, dictOf (repEs w cA tA rA.D rA.t1 rA.t2) 2) :: (RepL w rL cL tL oL ++ msL ms), @Ne Nat p.1 rA.D := by
      dsimp only [gloL, RepL, repL, List.cons_append, List.nil_append]
      simp only [List.forall_mem_cons]
      exact ⟨a6, a7, a8, a9, a10, a11, a12, nAm⟩
    have dL : ∀ p ∈ gloL w G GD rL.R rA.R g1 g2 ++ (rL.R, instObj 157 rL.RD) :: (rL.RD, dictOf (repEs w cL tL rL.D rL.t1 rL.t2) 2) :: (RepL w rA cA tA oA ++ msL ms), @Ne Nat p.1 rL.D := by
      dsimp only [gloL, RepL, repL, List.cons_append, List.nil_append]
      simp only [List.forall_mem_cons]
      exact ⟨l6, l7, l11, l12, l8, l9, l10, nLm⟩
    refine Con.useC [rA.D, rL.D] (con_gremoveC w mean mg mb G GD g1 g2 rL rA cL cA tL tA oL oA kL kA M ms hL hA okL okA loL loA dA dL hM) B F1 X N1 T (by exact rfl) (by exact rfl) (by exact rfl) (by exact rfl) (Nat.le_of_ble_eq_true rfl) (Nat.le_of_ble_eq_true rfl) ?_ ?_
    · intro q hq
      simp only [List.mem_cons, List.mem_append, List.not_mem_nil, or_false] at hq ⊢
      grind
    rintro ch hh2 tk2 ⟨oL', oA', hL', hA', rfl⟩ F2 N2
    clear N1 F1 dA dL
    replace N2 := N2 ((L + 1 + 1 + 1, c3) :: (lO, listOf (vsf O2 Ok).toArray nO) :: (O2, o2) :: (Ok, ok) :: (lM, listOf vsM.toArray nM) :: (G, instObj 193 GD) :: (GD, dictOf (gloEs w rL.R rA.R g1 g2) 2) ::
      (rA.R, instObj 157 rA.RD) :: (rA.RD, dictOf (repEs w cA tA rA.D rA.t1 rA.t2) 2) :: (rA.D, oA') :: (rL.R, instObj 157 rL.RD) :: (rL.RD, dictOf (repEs w cL tL rL.D rL.t1 rL.t2) 2) :: (rL.D, oL') :: (msL ms ++ rest)) (by
      simp only [List.forall_mem_cons]
      refine ⟨?_, ?_, ?_, ?_, ?_, ?_, ?_, ?_, ?_, ?_, ?_, ?_, ?_, fun q hq => Or.inr ⟨by
        simp only [List.mem_cons]
        simp [hq], ?_⟩⟩
      all_goals first
        | exact Or.inl (.head _)
        | exact Or.inl (.tail _ (.head _))
        | exact Or.inr ⟨by k_mem, not_mem2 (by assumption) (by assumption)⟩
        | exact (List.mem_append.mp hq).elim (fun h => not_mem2 (nAm q h) (nLm q h)) (fun h => not_mem2 (nAr q h) (nLr q h)))
    iterate 1 walk1
    refine loop_C w mean mg mb hlk0 hb0 B X T F2 N2 k3 (by rfl) hk zO q2 qk e2 ek h2 ok2 len2 lo2 hk' okk lenk lok o1 o3 o4 ?_ ?_ hE
    · simp only [List.forall_mem_cons]
      exact ⟨o2', o5, o6, o7, o8, o9, o10, o11, o12, fun p hp => (List.mem_append.mp hp).elim (xOm p) (xOr p)⟩
    · intro h' tk u a2 p2 kv2 ak pk kvk w1 w2 w3 w4 w5 w6 w7 w8 w9 w10 F3 N3
      walk1
      exact hQ _ _ _ _ _ _ _ _ _ _ _ hL' hA' w1 w2 w3 w4 w5 w6 w7 w8 w9 w10 ⟨rfl, rfl, rfl, rfl, rfl, rfl⟩ F3 N3
end
end Mine
end Mine
end

section
open PySem PySem.W PySem.Calls PyProof.Rows
theorem Mine.off_M9 {M : Model} {A : Around} {E : Value → Shared → Prop} {s : Shared} {Q : Flow → Shared → Prop} {env : Env} (h : Q .next s) : wpAny M A (execs [] env) Q E s := by
  w_top off
  try walk1
  first
    | exact h
    | exact wpAny_execs_nil h
end
section
open PySem PySem.W PySem.Calls PyProof.Rows Builtin Builtin.ObjectAttr
namespace Mine
namespace Mine

local macro_rules | `(tactic| k_room) => `(tactic| exact Nat.le_of_ble_eq_true rfl)
local macro_rules | `(tactic| walk_at "subscriptTail") => `(tactic| (k_here; (with_reducible show wpAny _ _ (subscriptTail _ _ (Value.ref _) (Value.int _ _)) _ _ _); k_dflt (refine' idx_at ?N ?m ?x ?z ?_ ?b; (case N => k_asm); (case m => k_mem); (case x => assumption); (case z => assumption); (case b => with_unfolding_all rfl); k_whole)))
local macro_rules | `(tactic| k_all) => `(tactic| assumption)

theorem ltOf {d : Addr} : ∀ {l : List (Addr × Obj)}, AllLt d l → ∀ p ∈ l, @LT.lt Nat _ p.1 d
  | [], _, p, hp => nomatch hp
  | q :: r, h, p, hp => by
    rcases List.mem_cons.mp hp with rfl | hp
    · exact h.1
    · exact ltOf h.2 p hp

section
variable (w : World) (mean : ExcName → Option Value) (mg mb : Str → Option Value)

theorem con_gremovesC (G GD LI : Addr) (g1 g2 : Tok) (nI : Nat) (rL rA : Rep) (cL cA : Int) (tL tA : Tok) (oL oA : Obj) (kL kA : List (Str × Value)) (Ms : List Addr) (ms : List (Addr × Addr))
    (hL : oL.IsDictOf (SK w) kL) (hA : oA.IsDictOf (SK w) kA) (okL : KvsOk ms kL) (okA : KvsOk ms kA) (loL : (rL.D == sysModules) = false) (loA : (rA.D == sysModules) = false)
    (dA : ∀ oL', ∀ p ∈ gloL w G GD rL.R rA.R g1 g2 ++ (rA.R, instObj 157 rA.RD) :: (rA.RD, dictOf (repEs w cA tA rA.D rA.t1 rA.t2) 2) :: (RepL w rL cL tL oL' ++ msL ms), @Ne Nat p.1 rA.D)
    (dL : ∀ oA', ∀ p ∈ gloL w G GD rL.R rA.R g1 g2 ++ (rL.R, instObj 157 rL.RD) :: (rL.RD, dictOf (repEs w cL tL rL.D rL.t1 rL.t2) 2) :: (RepL w rA cA tA oA' ++ msL ms), @Ne Nat p.1 rL.D)
    (hI : ∀ oL' oA', ∀ p ∈ gsL w G GD g1 g2 rL rA cL cA tL tA oL' oA' ms, p.1 ≠ LI)
    (hM : ∀ M ∈ Ms, ∃ MD, (M, MD) ∈ ms) :
    Con 570 1700 w mean mg mb 190 [.ref G, .ref LI] (gsL w G GD g1 g2 rL rA cL cA tL tA oL oA ms ++ [(LI, listOf (Ms.map Value.ref).toArray nI)])
      (fun v sm => v = .none ∧ ∃ ch, (∃ oL' oA', oL'.IsDictOf (SK w) (removeds kL Ms) ∧ oA'.IsDictOf (SK w) (removeds kA Ms) ∧ ch = [(rA.D, oA'), (rL.D, oL')]) ∧ (∀ q ∈ ch, q ∈ sm) ∧
        ∀ p ∈ gsL w G GD g1 g2 rL rA cL cA tL tA oL oA ms ++ [(LI, listOf (Ms.map Value.ref).toArray nI)], p.1 ∉ [rA.D, rL.D] → p ∈ sm) := by
  refine Con.mono (con_gremoves w mean mg mb G GD LI g1 g2 nI rL rA cL cA tL tA oL oA kL kA Ms ms hL hA okL okA loL loA dA dL hI hM) ?_
  rintro v sm ⟨rfl, oL', oA', h1, h2, rfl⟩
  refine ⟨rfl, _, ⟨oL', oA', h1, h2, rfl⟩, by simp, ?_⟩
  intro p hp hn
  simp only [List.mem_cons, List.mem_append, List.not_mem_nil, or_false] at hp hn ⊢
  rcases hp with ((rfl | rfl) | (rfl | rfl | rfl) | (rfl | rfl | rfl) | hp) | hp
  · simp
  · simp
  · simp
  · simp
  · exact absurd (Or.inl rfl) hn
  · simp
  · simp
  · exact absurd (Or.inr rfl) hn
  · simp [hp]
  · simp [hp]

theorem deed_rems {oc : Value} {od : Option Addr} {qual : Str} {params : Arguments} {body : List Stmt} {scope : Scope} {dV kV doc pm cdv ct : Value} {an : Option Addr} {osl : Array (Option Value)}
    (hlk : (hd.heap_39 w.params).lookup 226 = some ⟨oc, od, .func (fnOf (Str.ofString "law") qual params body scope dV kV doc pm an cdv ct), osl⟩)
    {s1 s2 s3 s4 s5 b1 b2 u1 : Stmt} {brest srest thA thB thC fb els2 els : List Stmt} {tgt it tg2 it2 ca cb cc : Expr} {fp pa pb pc fp2 : Pos}
    (hb : body = s1 :: s2 :: s3 :: s4 :: s5 :: .For tgt it (b1 :: b2 :: .If ca thA [.If cb thB [.If cc thC [u1, .For tg2 it2 fb els2 fp2] pc] pb] pa :: brest) els fp :: srest) 
    {fa : Addr} {cd : Value} {g : Heap} {L S lF G1 G2 lM lC lO O0 O1 O2 GD M0 M1 M2 M3 M : Addr} {i j nO nM : Nat} {ti tj tw g1 g2 tA tL : Tok} {way cA cL : Int} {c3 o2 o0 oA oL : Obj} {kvs2 kvs0 kA kL : List (Str × Value)} {rL rA : Rep} {ms : List (Addr × Addr)}
    {s : Shared} {m : Str → Option Value} {rest : List (Addr × Obj)} {Q : Flow → Shared → Prop} {E : Value → Shared → Prop}
    (B : Below callerA g [] g) (X : (hd.heap_39 w.params).In g) (T : Top hd.view_39 (looseW hd.view_39 [Str.ofString "TextXObject"]) mean mg mb g)
    (F : Fr g L s.heap (fun y => if y = Str.ofString "way" then some (.int way tw) else if y = Str.ofString "model" then some (.int (j : Int) tj) else if y = Str.ofString "spot" then some (.int (i : Int) ti) else lm S lF G1 G2 lM lC m y))
    (N : News g L s.heap ((L + 1 + 1 + 1, c3) :: (lM, listOf [Value.ref M0, .ref M1, .ref M2, .ref M3].toArray nM) :: (lO, listOf [Value.ref O0, .ref O1, .ref O2].toArray nO) :: (O2, o2) :: (O0, o0) :: (G1, instObj 193 GD) :: (GD, dictOf (gloEs w rL.R rA.R g1 g2) 2) ::
      (rA.R, instObj 157 rA.RD) :: (rA.RD, dictOf (repEs w cA tA rA.D rA.t1 rA.t2) 2) :: (rA.D, oA) :: (rL.R, instObj 157 rL.RD) :: (rL.RD, dictOf (repEs w cL tL rL.D rL.t1 rL.t2) 2) :: (rL.D, oL) :: (msL ms ++ rest)))
    (k3 : c3.data = .cell (some (.ref lO))) (zM : [Value.ref M0, .ref M1, .ref M2, .ref M3].length ≤ 64) (jM : [Value.ref M0, .ref M1, .ref M2, .ref M3][j]? = some (.ref M)) (hM : ∃ MD, (M, MD) ∈ ms) (hM0 : ∃ MD, (M0, MD) ∈ ms)
    (h2 : o2.IsDictOf (SK w) kvs2) (ok2 : OwnOk kvs2) (len2 : kvs2.length ≤ 1000) (lo2 : (O2 == sysModules) = false)
    (h0 : o0.IsDictOf (SK w) kvs0) (ok0 : OwnOk kvs0) (len0 : kvs0.length ≤ 1000) (lo0 : (O0 == sysModules) = false)
    (hL : oL.IsDictOf (SK w) kL) (hA : oA.IsDictOf (SK w) kA) (okL : KvsOk ms kL) (okA : KvsOk ms kA) (loL : (rL.D == sysModules) = false) (loA : (rA.D == sysModules) = false)
    (nA : ∀ a ∈ [L + 1 + 1 + 1, lM, lO, O2, O0, G1, GD, rA.R, rA.RD, rL.R, rL.RD, rL.D], @Ne Nat a rA.D) (nAm : ∀ p ∈ msL ms, @Ne Nat p.1 rA.D) (nAr : ∀ p ∈ rest, @Ne Nat p.1 rA.D)
    (nL : ∀ a ∈ [L + 1 + 1 + 1, lM, lO, O2, O0, G1, GD, rA.R, rA.RD, rA.D, rL.R, rL.RD], @Ne Nat a rL.D) (nLm : ∀ p ∈ msL ms, @Ne Nat p.1 rL.D) (nLr : ∀ p ∈ rest, @Ne Nat p.1 rL.D)
    (xO : ∀ a ∈ [L + 1 + 1 + 1, lM, O2, O0, G1, GD, rA.R, rA.RD, rA.D, rL.R, rL.RD, rL.D], @Ne Nat a lO) (xOm : ∀ p ∈ msL ms, @Ne Nat p.1 lO) (xOr : ∀ p ∈ rest, @Ne Nat p.1 lO)
    (hQ : ∀ h' tk m' oA' oL' a2 p2 kv2 a0 p0 kv0, oL'.IsDictOf (SK w) (removeds kL [M0, M]) → oA'.IsDictOf (SK w) (removeds kA [M0, M]) → p2.IsDictOf (SK w) kv2 → OwnOk kv2 → absO kv2 = delA (delA (absO kvs2) 0) (j : Int) → (a2 == sysModules) = false → p0.IsDictOf (SK w) kv0 → OwnOk kv0 → absO kv0 = delA (delA (absO kvs0) 0) (j : Int) → (a0 == sysModules) = false →
      (∀ p ∈ (L + 1 + 1 + 1, c3) :: (lO, listOf [Value.ref O0, .ref O1, .ref O2].toArray nO) :: (lM, listOf [Value.ref M0, .ref M1, .ref M2, .ref M3].toArray nM) :: (G1, instObj 193 GD) :: (GD, dictOf (gloEs w rL.R rA.R g1 g2) 2) ::
        (rA.R, instObj 157 rA.RD) :: (rA.RD, dictOf (repEs w cA tA rA.D rA.t1 rA.t2) 2) :: (rA.D, oA') :: (rL.R, instObj 157 rL.RD) :: (rL.RD, dictOf (repEs w cL tL rL.D rL.t1 rL.t2) 2) :: (rL.D, oL') :: (msL ms ++ rest), @Ne Nat p.1 a2 ∧ @Ne Nat p.1 a0) → @Ne Nat a2 a0 →
      HasLm S lF G1 G2 lM lC m' → Fr g L h' m' →
      News g L h' ((L + 1 + 1 + 1, c3) :: (lO, listOf [Value.ref a0, .ref O1, .ref a2].toArray nO) :: (a2, p2) :: (a0, p0) :: (lM, listOf [Value.ref M0, .ref M1, .ref M2, .ref M3].toArray nM) :: (G1, instObj 193 GD) :: (GD, dictOf (gloEs w rL.R rA.R g1 g2) 2) ::
        (rA.R, instObj 157 rA.RD) :: (rA.RD, dictOf (repEs w cA tA rA.D rA.t1 rA.t2) 2) :: (rA.D, oA') :: (rL.R, instObj 157 rL.RD) :: (rL.RD, dictOf (repEs w cL tL rL.D rL.t1 rL.t2) 2) :: (rL.D, oL') :: (msL ms ++ rest)) → Q .next { s with heap := h', toks := tk })
    (hE : PassesOwn (model PySem.Challenge.rw_ez0369_01.row.prog w) (callerA.deeper (envOfC qual scope L fa cd)) (envOfC qual scope L fa cd) E) :
    wpAny (model PySem.Challenge.rw_ez0369_01.row.prog w) (callerA.deeper (envOfC qual scope L fa cd)) (execs [u1, .For tg2 it2 fb els2 fp2] (envOfC qual scope L fa cd)) Q E s := by
  have hlk0 := hlk
  have hb0 := hb
  revert hlk
  k_fill
  intro hlk
  have e := look_eq (by k_is) hlk
  simp only [fnOf, fnX, Obj.mk.injEq, Data.func.injEq, FuncData.mk.injEq] at e
  obtain ⟨-, rfl, -, e4, rfl, -⟩ := e
  cases e4
  clear hlk
  simp only [List.cons.injEq, Stmt.For.injEq, Stmt.If.injEq] at hb
  obtain ⟨-, -, -, -, -, ⟨-, -, ⟨-, rfl, ⟨-, rfl, ⟨⟨-, rfl, ⟨⟨-, rfl, ⟨rfl, ⟨rfl, rfl, rfl, rfl, rfl⟩, -⟩, -⟩, -⟩, -⟩, -⟩, -⟩, rfl⟩, -, -⟩, -⟩ := hb
  simp only [List.forall_mem_cons, List.not_mem_nil, false_imp_iff, implies_true, and_true] at nA nL xO
  obtain ⟨a1, a2, a3, a4, a5, a6, a7, a8, a9, a10, a11, a12⟩ := nA
  obtain ⟨l1, l2, l3, l4, l5, l6, l7, l8, l9, l10, l11, l12⟩ := nL
  obtain ⟨o1, o2', o3, o4, o5, o6, o7, o8, o9, o10, o11, o12⟩ := xO
  unfold lm at F
  iterate 22 walk1
  (rename Fr _ _ _ _ => F1); (rename News _ _ _ _ => N1); (rename (_ ∧ _) => lt1)
  rename Addr => LI
  obtain ⟨t1, t2, t3, t4, t5, t6, t7, t8, t9, t10, t11, t12, t13, tAll⟩ := lt1
  have dA : ∀ oL', ∀ p ∈ gloL w G1 GD rL.R rA.R g1 g2 ++ (rA.R, instObj 157 rA.RD) :: (rA.RD, dictOf (repEs w cA tA rA.D rA.t1 rA.t2) 2) :: (RepL w rL cL tL oL' ++ msL ms), @Ne Nat p.1 rA.D := by
    intro oL'
    dsimp only [gloL, RepL, repL, List.cons_append, List.nil_append]
    simp only [List.forall_mem_cons]
    exact ⟨a6, a7, a8, a9, a10, a11, a12, nAm⟩
  have dL : ∀ oA', ∀ p ∈ gloL w G1 GD rL.R rA.R g1 g2 ++ (rL.R, instObj 157 rL.RD) :: (rL.RD, dictOf (repEs w cL tL rL.D rL.t1 rL.t2) 2) :: (RepL w rA cA tA oA' ++ msL ms), @Ne Nat p.1 rL.D := by
    intro oA'
    dsimp only [gloL, RepL, repL, List.cons_append, List.nil_append]
    simp only [List.forall_mem_cons]
    exact ⟨l6, l7, l11, l12, l8, l9, l10, nLm⟩
  have dI : ∀ oL' oA', ∀ p ∈ gsL w G1 GD g1 g2 rL rA cL cA tL tA oL' oA' ms, p.1 ≠ LI := by
    intro oL' oA'
    dsimp only [gsL, gloL, RepL, repL, List.cons_append, List.nil_append]
    simp only [List.forall_mem_cons]
    exact ⟨Nat.ne_of_lt t6, Nat.ne_of_lt t7, Nat.ne_of_lt t8, Nat.ne_of_lt t9, Nat.ne_of_lt t10, Nat.ne_of_lt t11, Nat.ne_of_lt t12, Nat.ne_of_lt t13, fun p hp => Nat.ne_of_lt (ltOf tAll p (List.mem_append_left _ hp))⟩
  refine Con.useC [rA.D, rL.D] (con_gremovesC w mean mg mb G1 GD LI g1 g2 0 rL rA cL cA tL tA oL oA kL kA [M0, M] ms hL hA okL okA loL loA dA dL dI (by
    intro M' hM'
    rcases List.mem_cons.mp hM' with rfl | hM'
    · exact hM0
    · rw [List.mem_singleton.mp hM']; exact hM)) B F1 X N1 T (by exact rfl) (by exact rfl) (by exact rfl) (by exact rfl) (Nat.le_of_ble_eq_true rfl) (Nat.le_of_ble_eq_true rfl) ?_ ?_
  · intro q hq
    simp only [List.mem_cons, List.mem_append, List.not_mem_nil, or_false] at hq ⊢
    rcases hq with ((h | h) | (h | h | h) | (h | h | h) | h) | h <;> simp only [h, true_or, or_true] <;> simp
  rintro ch hh2 tk2 ⟨oL', oA', hL', hA', rfl⟩ F2 N2
  clear N1 F1 dA dL dI
  replace N2 := N2 ((L + 1 + 1 + 1, c3) :: (lO, listOf [Value.ref O0, .ref O1, .ref O2].toArray nO) :: (O2, o2) :: (O0, o0) :: (lM, listOf [Value.ref M0, .ref M1, .ref M2, .ref M3].toArray nM) :: (G1, instObj 193 GD) :: (GD, dictOf (gloEs w rL.R rA.R g1 g2) 2) ::
    (rA.R, instObj 157 rA.RD) :: (rA.RD, dictOf (repEs w cA tA rA.D rA.t1 rA.t2) 2) :: (rA.D, oA') :: (rL.R, instObj 157 rL.RD) :: (rL.RD, dictOf (repEs w cL tL rL.D rL.t1 rL.t2) 2) :: (rL.D, oL') :: (msL ms ++ rest)) (by
    simp only [List.forall_mem_cons]
    refine ⟨?_, ?_, ?_, ?_, ?_, ?_, ?_, ?_, ?_, ?_, ?_, ?_, ?_, fun q hq => Or.inr ⟨by
      simp only [List.mem_cons]
      simp [hq], ?_⟩⟩
    all_goals first
      | exact Or.inl (.head _)
      | exact Or.inl (.tail _ (.head _))
      | exact Or.inr ⟨by k_mem, not_mem2 (by assumption) (by assumption)⟩
      | exact (List.mem_append.mp hq).elim (fun h => not_mem2 (nAm q h) (nLm q h)) (fun h => not_mem2 (nAr q h) (nLr q h)))
  iterate 1 walk1
  refine loop_D w mean mg mb hlk0 hb0 B X T F2 N2 k3 h2 ok2 len2 lo2 h0 ok0 len0 lo0 o1 o3 o4 ?_ ?_ hE
  · simp only [List.forall_mem_cons]
    exact ⟨o2', o5, o6, o7, o8, o9, o10, o11, o12, fun p hp => (List.mem_append.mp hp).elim (xOm p) (xOr p)⟩
  · intro h' tk u a2 p2 kv2 ak pk kvk w1 w2 w3 w4 w5 w6 w7 w8 w9 w10 F3 N3
    walk1
    exact hQ _ _ _ _ _ _ _ _ _ _ _ hL' hA' w1 w2 w3 w4 w5 w6 w7 w8 w9 w10 ⟨rfl, rfl, rfl, rfl, rfl, rfl⟩ F3 N3
end
end Mine
end Mine
end

section
open PySem PySem.W PySem.Calls PyProof.Rows
theorem Mine.off_M10 {M : Model} {A : Around} {E : Value → Shared → Prop} {s : Shared} {Q : Flow → Shared → Prop} {env : Env} (h : Q .next s) : wpAny M A (execs [] env) Q E s := by
  w_top off
  try walk1
  first
    | exact h
    | exact wpAny_execs_nil h
end
section
open PySem PySem.W PySem.Calls PyProof.Rows Builtin Builtin.ObjectAttr
namespace Mine
namespace Mine

local macro_rules | `(tactic| k_room) => `(tactic| exact Nat.le_of_ble_eq_true rfl)
local macro_rules | `(tactic| walk_at "subscriptTail") => `(tactic| (k_here; (with_reducible show wpAny _ _ (subscriptTail _ _ (Value.ref _) (Value.int _ _)) _ _ _); k_dflt (refine' idx_at ?N ?m ?x ?z ?_ ?b; (case N => k_asm); (case m => k_mem); (case x => assumption); (case z => assumption); (case b => with_unfolding_all rfl); k_whole)))
local macro_rules | `(tactic| k_all) => `(tactic| assumption)

section
variable {prog : Program} {w : World} {A : Around} {E : Value → Shared → Prop} {s : Shared} {h₀ : Heap} {L : Addr} {m : Str → Option Value} {news : List (Addr × Obj)}

theorem pyIter_rng {r : Addr} {k : Nat} {b : Int} {t u v : Tok} {Q : Value → Shared → Prop} (hh : A.handled = none) (F : Fr h₀ L s.heap m) (N : News h₀ L s.heap news) (hr : IsRange s.heap r 0 b 1 t u v) (hb : b = (k : Int)) (hk : k ≤ 64)
    (h : ∀ I h', Fr h₀ L h' m → News h₀ L h' news → SrcW prog w A h₀ L I k (fun i v => ∃ t, v = .int (i : Int) t) (fun _ => True) news h' → Q (.ref I) { s with heap := h' }) :
    wpAny (model prog w) A (pyIter (.ref r)) Q E s := by
  subst hb
  have e0 : Builtin.Range.rangeSize 0 (k : Int) 1 = (k : Int) := by
    unfold Builtin.Range.rangeSize
    simp
    intro h; rw [h]; rfl
  refine wpAny_pyIter_range hr ?_ ?_
  · unfold Builtin.Range.small
    rw [e0]
    unfold Builtin.Range.rangeFitsLong
    simp
    omega
  · rw [e0]
    have up : ∀ b ob, s.heap.get? b = some ob → (s.heap.push { cls := .type "range_iterator", data := .fields #[rawInt 0, rawInt (k : Int), rawInt 1] }).get? b = some ob := fun b ob e => Heap.get?_push_of_some _ e
    have W := Walks.range (prog := prog) (w := w) hh s.heap.objs.size 0 1 k
    have ep : (fun (i : Nat) (v : Value) => ∃ t, v = Value.int (0 + (i : Int) * 1) t) = fun (i : Nat) (v : Value) => ∃ t, v = Value.int (i : Int) t := by
      funext i v; simp
    rw [ep] at W
    refine h _ _ (F.keeps up) (N.grown up) ⟨[s.heap.objs.size], fun i h => IsRangeIter h s.heap.objs.size (0 + ((i : Nat) : Int) * 1) ((k : Int) - ((i : Nat) : Int)) 1, W, by rw [sizeLine_eq]; omega, ?_, ?_, ?_, ?_, Nat.ne_of_lt F.ns.lt, next_is_new F, (fun p hp => Nat.ne_of_lt (Heap.lt_size (N p hp).1)), trivial⟩
    · rintro i h e; exact ⟨_, e⟩
    · intro i h h' o' nw e e1 e2 _ _ _
      unfold IsRangeIter at e ⊢
      rw [e] at e1; cases e1; exact e2
    · show _ = _
      simp
      exact Heap.get?_push_size _ rfl
    · intro b hb
      show b < (s.heap.push _).objs.size
      rw [Heap.size_push, List.mem_singleton.mp hb]
      exact Nat.lt_succ_self _
end

section
variable (w : World) (mean : ExcName → Option Value) (mg mb : Str → Option Value)

theorem law_check {oc : Value} {od : Option Addr} {qual : Str} {params : Arguments} {body : List Stmt} {scope : Scope} {dV kV doc pm cdv ct : Value} {an : Option Addr} {osl : Array (Option Value)}
    (hlk : (hd.heap_39 w.params).lookup 226 = some ⟨oc, od, .func (fnOf (Str.ofString "law") qual params body scope dV kV doc pm an cdv ct), osl⟩)
    {s1 s2 s3 s4 s5 b1 b2 b3 : Stmt} {brest srest els : List Stmt} {tgt it : Expr} {fp : Pos}
    (hb : body = s1 :: s2 :: s3 :: s4 :: s5 :: .For tgt it (b1 :: b2 :: b3 :: brest) els fp :: srest) 
    {fa : Addr} {cd : Value} {g : Heap} {L lO lS : Addr} {nO nS : Nat} {c2 c3 : Obj}
    {s : Shared} {m : Str → Option Value} {rest : List (Addr × Obj)} {vsS vsO : List Value} {Q : Flow → Shared → Prop} {E : Value → Shared → Prop}
    (B : Below callerA g [] g) (X : (hd.heap_39 w.params).In g) (T : Top hd.view_39 (looseW hd.view_39 [Str.ofString "TextXObject"]) mean mg mb g)
    (F : Fr g L s.heap m) (N : News g L s.heap ((L + 1 + 1, c2) :: (L + 1 + 1 + 1, c3) :: (lS, listOf vsS.toArray nS) :: (lO, listOf vsO.toArray nO) :: rest))
    (k2 : c2.data = .cell (some (.ref lS))) (k3 : c3.data = .cell (some (.ref lO))) (zS : vsS.length ≤ 64) (zO : vsO.length ≤ 64)
    (hT : ∀ q : Nat, q < 3 → ∃ R O small, vsS[q]? = some (.ref R) ∧ vsO[q]? = some (.ref O) ∧ (∀ p ∈ small, p ∈ rest) ∧ Con 570 1700 w mean mg mb 221 [.ref R, .ref O] small (fun r sm => r = .bool true ∧ sm = small))
    (hQ : ∀ h' tk, Fr g L h' m → News g L h' ((L + 1 + 1, c2) :: (L + 1 + 1 + 1, c3) :: (lS, listOf vsS.toArray nS) :: (lO, listOf vsO.toArray nO) :: rest) → Q .next { s with heap := h', toks := tk }) :
    wpAny (model PySem.Challenge.rw_ez0369_01.row.prog w) (callerA.deeper (envOfC qual scope L fa cd)) (execs brest (envOfC qual scope L fa cd)) Q E s := by
  revert hlk
  k_fill
  intro hlk
  have e := look_eq (by k_is) hlk
  simp only [fnOf, fnX, Obj.mk.injEq, Data.func.injEq, FuncData.mk.injEq] at e
  obtain ⟨-, rfl, -, e4, rfl, -⟩ := e
  cases e4
  clear hlk
  simp only [List.cons.injEq, Stmt.For.injEq, Stmt.If.injEq] at hb
  obtain ⟨-, -, -, -, -, ⟨-, -, ⟨-, -, -, rfl⟩, -, -⟩, -⟩ := hb
  iterate 3 walk1
  refine ListComp_W1 F N (fun j ys own => ys = [] ∧ own = []) (by with_unfolding_all rfl) (by decide) (by rfl) (by decide) (by rfl) ?_
  iterate 7 walk1
  dsimp only
  (rename Fr _ _ _ _ => F1); (rename News _ _ _ _ => N1); (rename IsRange _ _ _ _ _ _ _ _ => hR)
  refine pyIter_rng (k := 3) rfl F1 N1 hR rfl (by decide) ?_
  intro I h' F2 N2 hsrc
  refine ⟨I, _, _, _, rfl, F2, N2, hsrc, (by first | exact ⟨rfl, rfl⟩ | trivial), ?_, ?_⟩
  · rintro j ys own v I oI C oC D m₂ h tk E' hj ⟨rfl, rfl⟩ ⟨t, rfl⟩ hC hx F₂ N₂ off ne
    obtain ⟨R, O, small, i1, i2, i3, C1⟩ := hT j hj
    dsimp only [List.nil_append] at N₂ off
    clear F1 N1 F2 N2 hR hsrc
    iterate 18 walk1
    (rename Fr _ _ _ _ => F3); (rename News _ _ _ _ => N3)
    refine Con.useRO C1 B F3 X N3 T (by exact rfl) (by exact rfl) (by exact rfl) (by exact rfl) (Nat.le_of_ble_eq_true rfl) (Nat.le_of_ble_eq_true rfl) (fun q hq => by simp [i3 q hq]) ?_
    rintro v2 h2 tk2 rfl F4 N4 keep4
    clear F3 N3
    k_steps
    refine LCg.CompEnd.intro (by k_asm) (by k_asm) _ (fun p hp => hp) off trivial ⟨[], rfl, rfl, rfl⟩
  · rintro ys D h₂ tk₂ own ⟨rfl, rfl⟩ F₂ N₂ off
    dsimp only [List.nil_append] at N₂ off
    clear F1 N1 F2 N2 hR hsrc
    k_steps
    exact hQ _ _ (by k_asm) (newsTail (newsTail (by k_asm)))
end
end Mine
end Mine
end

section
open PySem PySem.W PySem.Calls PyProof.Rows
theorem Mine.off_M11 {M : Model} {A : Around} {E : Value → Shared → Prop} {s : Shared} {Q : Flow → Shared → Prop} {env : Env} (h : Q .next s) : wpAny M A (execs [] env) Q E s := by
  w_top off
  try walk1
  first
    | exact h
    | exact wpAny_execs_nil h
end
section
open PySem PySem.W PySem.Calls PyProof.Rows Builtin Builtin.ObjectAttr
namespace Mine
namespace Mine

local macro_rules | `(tactic| k_room) => `(tactic| exact Nat.le_of_ble_eq_true rfl)
theorem use_cell {w : World} {A A₀ : Around} {E : Value → Shared → Prop} {s : Shared} {base h₀ : Heap} {L : Addr} {m : Str → Option Value} {outer : List Env} {env : Env} {news : List (Addr × Obj)} {mean : ExcName → Option Value} {mg mb : Str → Option Value} {Q : Value → Shared → Prop} {S : Addr} {vs : List Value} {ns : List Int} {a : Int} {ta : Tok}
    (B : Below A₀ base outer h₀) (F : Fr h₀ L s.heap m) (X : (hd.heap_39 w.params).In h₀) (N : News h₀ L s.heap news)
    (T : Top hd.view_39 (looseW hd.view_39 [Str.ofString "TextXObject"]) mean mg mb h₀) 
    (hA : A.frames = some (env :: outer)) (hf : env.frame = some L) (hke : env.scope.kind = .function) (hh : A.handled = none) (hdp : A.depth ≤ 590) (hun : A.units ≤ 1900)
    (hL : h₀.IsList S vs.toArray) (hI : IntsAre vs ns) (h63 : ns.length ≤ 63) (ha : 0 ≤ a) (ha2 : a ≤ 1000)
    (ret : ∀ n t h' tk', 0 ≤ n → n < 1000003 → Fr h₀ L h' m → News h₀ L h' news → (∀ b o, s.heap.get? b = some o → h'.get? b = some o) → Q (.int n t) { s with heap := h', toks := tk' }) :
    wpAny (model PySem.Challenge.rw_ez0369_01.row.prog w) A (call (.ref 211) [.ref S, .int a ta]) Q E s := by
  refine ConG.use0 (P := fun r => ∃ n t, r = .int n t ∧ 0 ≤ n ∧ n < 1000003) (con_cell w mean mg mb S vs ns a ta h₀ hL hI h63 ha ha2) B F X N T (fun _ _ e => e) hA hf hke hh hdp hun ?_
  rintro v h' tk' ⟨n, t, rfl, h1, h2⟩ F' N' hall
  exact ret n t h' tk' h1 h2 F' N' hall

local macro_rules | `(tactic| walk_at "call ref") => `(tactic| (k_here; k_dflt (refine' use_cell ?B ?F ?X ?N ?T ?hA ?hf ?hke ?hh ?hdp ?hun ?hL ?hI ?h63 ?ha ?ha2 ?_; (case hA => exact rfl); (case hf => exact rfl); (case hke => exact rfl); (case hh => exact rfl); (case hdp => exact Nat.le_of_ble_eq_true rfl); (case hun => exact Nat.le_of_ble_eq_true rfl); (case B => k_asm); (case F => k_asm); (case X => k_asm); (case N => k_asm); (case T => k_asm); (case hL => assumption); (case hI => assumption); (case h63 => assumption); (case ha => omega); (case ha2 => omega); k_whole); intro n t h' tk' hn0 hn1 F' N' keep'; (try dsimp only at keep'); (try dsimp only); (try k_sweep)))

theorem fr_ms {g h : Heap} {L S lF G1 G2 lM lC : Addr} {m : Str → Option Value} {a b : Value} (F : Fr g L h m) (h2 : m (Str.ofString "model") = some a) (h3 : m (Str.ofString "spot") = some b) (hm : HasLm S lF G1 G2 lM lC m) :
    Fr g L h (fun z => if z = Str.ofString "model" then some a else if z = Str.ofString "spot" then some b else lm S lF G1 G2 lM lC m z) := by
  have e : m = fun z => if z = Str.ofString "model" then some a else if z = Str.ofString "spot" then some b else lm S lF G1 G2 lM lC m z := by
    funext z
    by_cases e2 : z = Str.ofString "model"
    · rw [if_pos e2, e2, h2]
    rw [if_neg e2]
    by_cases e3 : z = Str.ofString "spot"
    · rw [if_pos e3, e3, h3]
    rw [if_neg e3]
    exact congrFun hm.eq z
  exact e ▸ F

theorem fr_way {g h : Heap} {L S lF G1 G2 lM lC : Addr} {m : Str → Option Value} {a b c : Value} (F : Fr g L h m) (h1 : m (Str.ofString "way") = some c) (h2 : m (Str.ofString "model") = some a) (h3 : m (Str.ofString "spot") = some b) (hm : HasLm S lF G1 G2 lM lC m) :
    Fr g L h (fun z => if z = Str.ofString "way" then some c else if z = Str.ofString "model" then some a else if z = Str.ofString "spot" then some b else lm S lF G1 G2 lM lC m z) := by
  have e : m = fun z => if z = Str.ofString "way" then some c else if z = Str.ofString "model" then some a else if z = Str.ofString "spot" then some b else lm S lF G1 G2 lM lC m z := by
    funext z
    by_cases e1 : z = Str.ofString "way"
    · rw [if_pos e1, e1, h1]
    rw [if_neg e1]
    by_cases e2 : z = Str.ofString "model"
    · rw [if_pos e2, e2, h2]
    rw [if_neg e2]
    by_cases e3 : z = Str.ofString "spot"
    · rw [if_pos e3, e3, h3]
    rw [if_neg e3]
    exact congrFun hm.eq z
  exact e ▸ F

local macro_rules | `(tactic| k_all) => `(tactic| assumption)

section
variable (w : World) (mean : ExcName → Option Value) (mg mb : Str → Option Value)

theorem law_head {oc : Value} {od : Option Addr} {qual : Str} {params : Arguments} {body : List Stmt} {scope : Scope} {dV kV doc pm cdv ct : Value} {an : Option Addr} {osl : Array (Option Value)}
    (hlk : (hd.heap_39 w.params).lookup 226 = some ⟨oc, od, .func (fnOf (Str.ofString "law") qual params body scope dV kV doc pm an cdv ct), osl⟩)
    {s1 s2 s3 s4 s5 b1 b2 : Stmt} {brest srest els : List Stmt} {tgt it : Expr} {fp : Pos}
    (hb : body = s1 :: s2 :: s3 :: s4 :: s5 :: .For tgt it (b1 :: b2 :: brest) els fp :: srest) 
    {fa : Addr} {cd : Value} {g : Heap} {L S lF G1 G2 lM lC : Addr} {vs : List Value} {ns : List Int} {a : Int} {ta : Tok}
    {s : Shared} {m : Str → Option Value} {news : List (Addr × Obj)} {Q : Flow → Shared → Prop} {E : Value → Shared → Prop}
    (B : Below callerA g [] g) (X : (hd.heap_39 w.params).In g) (T : Top hd.view_39 (looseW hd.view_39 [Str.ofString "TextXObject"]) mean mg mb g)
    (hL : g.IsList S vs.toArray) (hI : IntsAre vs ns) (h63 : ns.length ≤ 63) (ha : 0 ≤ a) (ha2 : a ≤ 1000)
    (F : Fr g L s.heap (fun y => if y = Str.ofString "at" then some (.int a ta) else lm S lF G1 G2 lM lC m y)) (N : News g L s.heap news)
    (hQ : ∀ (i j : Nat) (way : Int) ti tj tw h' tk m', i < 3 → j < 4 → 0 ≤ way → way < 8 → Fr g L h' (fun y => if y = Str.ofString "way" then some (.int way tw) else if y = Str.ofString "model" then some (.int (j : Int) tj) else if y = Str.ofString "spot" then some (.int (i : Int) ti) else lm S lF G1 G2 lM lC m' y) →
      News g L h' news → wpAny (model PySem.Challenge.rw_ez0369_01.row.prog w) (callerA.deeper (envOfC qual scope L fa cd)) (execs brest (envOfC qual scope L fa cd)) Q E { s with heap := h', toks := tk }) :
    wpAny (model PySem.Challenge.rw_ez0369_01.row.prog w) (callerA.deeper (envOfC qual scope L fa cd)) (execs (b1 :: b2 :: brest) (envOfC qual scope L fa cd)) Q E s := by
  revert hlk
  k_fill
  intro hlk
  have e := look_eq (by k_is) hlk
  simp only [fnOf, fnX, Obj.mk.injEq, Data.func.injEq, FuncData.mk.injEq] at e
  obtain ⟨-, rfl, -, e4, rfl, -⟩ := e
  cases e4
  clear hlk
  simp only [List.cons.injEq, Stmt.For.injEq] at hb
  obtain ⟨-, -, -, -, -, ⟨-, -, ⟨rfl, rfl, rfl⟩, -, -⟩, -⟩ := hb
  unfold lm at F
  iterate 51 walk1
  (rename Fr _ _ _ _ => F1); (rename News _ _ _ _ => N1); (rename (_ < 1000003) => hn1)
  rename Int => n
  obtain ⟨i, hi⟩ := Int.eq_ofNat_of_zero_le (Int.fmod_nonneg_of_pos (n.fdiv 8) (b := 3) (by decide))
  obtain ⟨j, hj⟩ := Int.eq_ofNat_of_zero_le (Int.fmod_nonneg_of_pos (n.fdiv 24) (b := 4) (by decide))
  have hi3 := Int.fmod_lt_of_pos (n.fdiv 8) (b := 3) (by decide)
  have hj4 := Int.fmod_lt_of_pos (n.fdiv 24) (b := 4) (by decide)
  rw [hi, hj] at F1
  rw [hi] at hi3
  rw [hj] at hj4
  exact hQ i j (n.fmod 8) _ _ _ _ _ _ (by omega) (by omega) (Int.fmod_nonneg_of_pos _ (by decide)) (Int.fmod_lt_of_pos _ (by decide)) (fr_way F1 rfl rfl rfl ⟨rfl, rfl, rfl, rfl, rfl, rfl⟩) (newsTail N1)

theorem law_ifs {oc : Value} {od : Option Addr} {qual : Str} {params : Arguments} {body : List Stmt} {scope : Scope} {dV kV doc pm cdv ct : Value} {an : Option Addr} {osl : Array (Option Value)}
    (hlk : (hd.heap_39 w.params).lookup 226 = some ⟨oc, od, .func (fnOf (Str.ofString "law") qual params body scope dV kV doc pm an cdv ct), osl⟩)
    {s1 s2 s3 s4 s5 b1 b2 : Stmt} {brest srest thA thB thC elC els : List Stmt} {tgt it ca cb cc : Expr} {fp pa pb pc : Pos}
    (hb : body = s1 :: s2 :: s3 :: s4 :: s5 :: .For tgt it (b1 :: b2 :: .If ca thA [.If cb thB [.If cc thC elC pc] pb] pa :: brest) els fp :: srest) 
    {fa : Addr} {cd : Value} {g : Heap} {L S lF G1 G2 lM lC : Addr} {i j : Nat} {ti tj tw : Tok} {way : Int}
    {s : Shared} {m : Str → Option Value} {news : List (Addr × Obj)} {Q : Flow → Shared → Prop} {E : Value → Shared → Prop}
    (B : Below callerA g [] g) (X : (hd.heap_39 w.params).In g) (T : Top hd.view_39 (looseW hd.view_39 [Str.ofString "TextXObject"]) mean mg mb g)
    (F : Fr g L s.heap (fun y => if y = Str.ofString "way" then some (.int way tw) else if y = Str.ofString "model" then some (.int (j : Int) tj) else if y = Str.ofString "spot" then some (.int (i : Int) ti) else lm S lF G1 G2 lM lC m y)) (N : News g L s.heap news)
    (hA : way < 3 → ∀ tk, wpAny (model PySem.Challenge.rw_ez0369_01.row.prog w) (callerA.deeper (envOfC qual scope L fa cd)) (execs thA (envOfC qual scope L fa cd)) Q E { s with toks := tk })
    (hB : ¬ way < 3 → way < 5 → ∀ tk, wpAny (model PySem.Challenge.rw_ez0369_01.row.prog w) (callerA.deeper (envOfC qual scope L fa cd)) (execs thB (envOfC qual scope L fa cd)) Q E { s with toks := tk })
    (hC : ¬ way < 5 → way < 7 → ∀ tk, wpAny (model PySem.Challenge.rw_ez0369_01.row.prog w) (callerA.deeper (envOfC qual scope L fa cd)) (execs thC (envOfC qual scope L fa cd)) Q E { s with toks := tk })
    (hD : ¬ way < 7 → ∀ tk, wpAny (model PySem.Challenge.rw_ez0369_01.row.prog w) (callerA.deeper (envOfC qual scope L fa cd)) (execs elC (envOfC qual scope L fa cd)) Q E { s with toks := tk }) :
    wpAny (model PySem.Challenge.rw_ez0369_01.row.prog w) (callerA.deeper (envOfC qual scope L fa cd)) (exec (.If ca thA [.If cb thB [.If cc thC elC pc] pb] pa) (envOfC qual scope L fa cd)) Q E s := by
  revert hlk
  k_fill
  intro hlk
  have e := look_eq (by k_is) hlk
  simp only [fnOf, fnX, Obj.mk.injEq, Data.func.injEq, FuncData.mk.injEq] at e
  obtain ⟨-, rfl, -, e4, rfl, -⟩ := e
  cases e4
  clear hlk
  simp only [List.cons.injEq, Stmt.For.injEq, Stmt.If.injEq] at hb
  obtain ⟨-, -, -, -, -, ⟨-, -, ⟨-, rfl, ⟨rfl, rfl, ⟨⟨rfl, rfl, ⟨⟨rfl, rfl, rfl, rfl⟩, -⟩, rfl⟩, -⟩, rfl⟩, rfl⟩, -, -⟩, -⟩ := hb
  iterate 7 walk1
  · exact hA (by assumption) _
  · iterate 9 walk1
    · refine wpAny_mono (hB (by assumption) (by assumption) _) (fun f s' h => ?_) (fun _ _ e => e)
      cases f <;> first | exact wpAny_execs_nil h | exact h
    · iterate 9 walk1
      · refine wpAny_mono (hC (by assumption) (by assumption) _) (fun f s' h => ?_) (fun _ _ e => e)
        cases f <;> first | exact wpAny_execs_nil (wpAny_execs_nil h) | exact wpAny_execs_nil h | exact h
      · refine wpAny_mono (hD (by assumption) _) (fun f s' h => ?_) (fun _ _ e => e)
        cases f <;> first | exact wpAny_execs_nil (wpAny_execs_nil h) | exact wpAny_execs_nil h | exact h
end
end Mine
end Mine
end

section
open PySem PySem.W PySem.Calls PyProof.Rows
theorem Mine.off_M12 {M : Model} {A : Around} {E : Value → Shared → Prop} {s : Shared} {Q : Flow → Shared → Prop} {env : Env} (h : Q .next s) : wpAny M A (execs [] env) Q E s := by
  w_top off
  try walk1
  first
    | exact h
    | exact wpAny_execs_nil h
end
section
open PySem PySem.W PySem.Calls PyProof.Rows Builtin Builtin.ObjectAttr
namespace Mine
namespace Mine

local macro_rules | `(tactic| k_room) => `(tactic| exact Nat.le_of_ble_eq_true rfl)
inductive Tag
  | lS | lO | lC | lF | lM | g1 | gd1 | g2 | gd2 | kd | kD | c1 | c2 | c3
  | R (i : Nat) | RD (i : Nat) | D (i : Nat) | O (i : Nat) | M (j : Nat) | MD (j : Nat) | MF (j : Nat)

/-- what stays in the loop -/
structure Stat where
  (L lS lO lC lF lM : Addr) (nS nO nC nF nM : Nat) (G1 GD1 G2 GD2 : Addr) (g1 g2 g3 g4 : Tok) (c1 c2 c3 : Obj) (kd kD : Addr) (okd okD : Obj) (rp : Nat → Rep) (mr : Nat → MRec)

structure RepSt where
  (c : Int) (tc tcc : Tok) (oD : Obj) (O : Addr) (oO : Obj) (kvsO : List (Str × Value)) (l : List (Str × Int))

def adr (k : Stat) (st : Nat → RepSt) : Tag → Addr
  | .lS => k.lS | .lO => k.lO | .lC => k.lC | .lF => k.lF | .lM => k.lM | .g1 => k.G1 | .gd1 => k.GD1 | .g2 => k.G2 | .gd2 => k.GD2 | .kd => k.kd | .kD => k.kD
  | .c1 => k.L + 1 | .c2 => k.L + 1 + 1 | .c3 => k.L + 1 + 1 + 1
  | .R i => (k.rp i).R | .RD i => (k.rp i).RD | .D i => (k.rp i).D | .O i => (st i).O | .M j => (k.mr j).M | .MD j => (k.mr j).MD | .MF j => (k.mr j).MF

abbrev vsS (k : Stat) : List Value := [.ref (k.rp 0).R, .ref (k.rp 1).R, .ref (k.rp 2).R]
abbrev vsO (st : Nat → RepSt) : List Value := [.ref (st 0).O, .ref (st 1).O, .ref (st 2).O]
abbrev vsC (st : Nat → RepSt) : List Value := [.int (st 0).c (st 0).tcc, .int (st 1).c (st 1).tcc, .int (st 2).c (st 2).tcc]
abbrev vsF (k : Stat) : List Value := [(k.mr 0).fv, (k.mr 1).fv, (k.mr 2).fv, (k.mr 3).fv]
abbrev vsM (k : Stat) : List Value := [.ref (k.mr 0).M, .ref (k.mr 1).M, .ref (k.mr 2).M, .ref (k.mr 3).M]

def ob (w : World) (k : Stat) (st : Nat → RepSt) : Tag → Obj
  | .lS => W.listOf (vsS k).toArray k.nS | .lO => W.listOf (vsO st).toArray k.nO | .lC => W.listOf (vsC st).toArray k.nC | .lF => W.listOf (vsF k).toArray k.nF | .lM => W.listOf (vsM k).toArray k.nM
  | .g1 => instObj 193 k.GD1 | .gd1 => dictOf (gloEs w (k.rp 0).R (k.rp 2).R k.g1 k.g2) 2 | .g2 => instObj 193 k.GD2 | .gd2 => dictOf (gloEs w (k.rp 1).R (k.rp 2).R k.g3 k.g4) 2 | .kd => k.okd | .kD => k.okD
  | .c1 => k.c1 | .c2 => k.c2 | .c3 => k.c3
  | .R i => instObj 157 (k.rp i).RD | .RD i => dictOf (repEs w (st i).c (st i).tc (k.rp i).D (k.rp i).t1 (k.rp i).t2) 2 | .D i => (st i).oD | .O i => (st i).oO
  | .M j => instObj 80 (k.mr j).MD | .MD j => dictOf (txEs w (k.mr j).kd (k.mr j).MF (k.mr j).t1 (k.mr j).t2) 2 | .MF j => (k.mr j).oF

def Tag.ok : Tag → Prop
  | .R i => i < 3 | .RD i => i < 3 | .D i => i < 3 | .O i => i < 3 | .M j => j < 4 | .MD j => j < 4 | .MF j => j < 4 | _ => True

def tags : List Tag := [.lS, .lO, .lC, .lF, .lM, .g1, .gd1, .g2, .gd2, .kd, .kD, .c1, .c2, .c3, .R 0, .RD 0, .D 0, .O 0, .R 1, .RD 1, .D 1, .O 1, .R 2, .RD 2, .D 2, .O 2,
  .M 0, .MD 0, .MF 0, .M 1, .MD 1, .MF 1, .M 2, .MD 2, .MF 2, .M 3, .MD 3, .MF 3]

theorem tags_ok : ∀ t ∈ tags, t.ok := by
  intro t ht
  simp only [tags, List.mem_cons, List.not_mem_nil, or_false] at ht
  rcases ht with rfl | rfl | rfl | rfl | rfl | rfl | rfl | rfl | rfl | rfl | rfl | rfl | rfl | rfl | rfl | rfl | rfl | rfl | rfl | rfl | rfl | rfl | rfl | rfl | rfl | rfl | rfl | rfl | rfl | rfl | rfl | rfl | rfl | rfl | rfl | rfl | rfl | rfl
  all_goals first
    | exact trivial
    | (simp only [Tag.ok]; decide)

theorem three {i : Nat} (h : i < 3) : i = 0 ∨ i = 1 ∨ i = 2 := by omega
theorem four {i : Nat} (h : i < 4) : i = 0 ∨ i = 1 ∨ i = 2 ∨ i = 3 := by omega

theorem mem_tags : ∀ {t : Tag}, t.ok → t ∈ tags := by
  intro t h
  cases t with
  | R i => rcases three h with rfl | rfl | rfl <;> simp [tags]
  | RD i => rcases three h with rfl | rfl | rfl <;> simp [tags]
  | D i => rcases three h with rfl | rfl | rfl <;> simp [tags]
  | O i => rcases three h with rfl | rfl | rfl <;> simp [tags]
  | M i => rcases four h with rfl | rfl | rfl | rfl <;> simp [tags]
  | MD i => rcases four h with rfl | rfl | rfl | rfl <;> simp [tags]
  | MF i => rcases four h with rfl | rfl | rfl | rfl <;> simp [tags]
  | _ => simp [tags]

abbrev ent (w : World) (k : Stat) (st : Nat → RepSt) (t : Tag) : Addr × Obj := (adr k st t, ob w k st t)
def led (w : World) (k : Stat) (st : Nat → RepSt) : List (Addr × Obj) := tags.map (ent w k st)
def restOf (w : World) (k : Stat) (st : Nat → RepSt) (ch : Tag → Bool) (own : List (Addr × Obj)) : List (Addr × Obj) := (tags.filter fun t => !ch t).map (ent w k st) ++ own

theorem mem_led {w : World} {k : Stat} {st : Nat → RepSt} {t : Tag} (h : t.ok) : ent w k st t ∈ led w k st := List.mem_map_of_mem (mem_tags h)
theorem led_mem {w : World} {k : Stat} {st : Nat → RepSt} {p : Addr × Obj} (h : p ∈ led w k st) : ∃ t : Tag, t.ok ∧ p = ent w k st t := by
  obtain ⟨t, ht, e⟩ := List.mem_map.mp h
  exact ⟨t, tags_ok t ht, e.symm⟩

def Inj (k : Stat) (st : Nat → RepSt) : Prop := ∀ t u : Tag, t.ok → u.ok → adr k st t = adr k st u → t = u

theorem nes {k : Stat} {st : Nat → RepSt} (hi : Inj k st) (TL : List Tag) (u : Tag) (hu : u.ok) (h : ∀ t ∈ TL, t.ok ∧ t ≠ u) : ∀ a ∈ TL.map (adr k st), @Ne Nat a (adr k st u) := by
  intro a ha
  obtain ⟨t, ht, rfl⟩ := List.mem_map.mp ha
  exact fun e => (h t ht).2 (hi t u (h t ht).1 hu e)

theorem rest_ne {w : World} {k : Stat} {st : Nat → RepSt} {ch : Tag → Bool} {own : List (Addr × Obj)} (hi : Inj k st) (u : Tag) (hu : u.ok) (hc : ch u = true) (hown : ∀ p ∈ own, @Ne Nat p.1 (adr k st u)) : ∀ p ∈ restOf w k st ch own, @Ne Nat p.1 (adr k st u) := by
  intro p hp
  rcases List.mem_append.mp hp with hp | hp
  · obtain ⟨t, ht, rfl⟩ := List.mem_map.mp hp
    rw [List.mem_filter] at ht
    intro e
    have := hi t u (tags_ok t ht.1) hu e
    subst this
    rw [hc] at ht
    exact absurd ht.2 (by decide)
  · exact hown p hp

/-- the ledger as a small part and the rest -/
theorem news_split {w : World} {g h : Heap} {L : Addr} {k : Stat} {st : Nat → RepSt} {own small : List (Addr × Obj)} {ch : Tag → Bool} (N : News g L h (own ++ led w k st)) (hs : ∀ p ∈ small, p ∈ led w k st) : News g L h (small ++ restOf w k st ch own) := by
  intro p hp
  rcases List.mem_append.mp hp with hp | hp
  · exact N p (List.mem_append_right _ (hs p hp))
  · rcases List.mem_append.mp hp with hp | hp
    · obtain ⟨t, ht, rfl⟩ := List.mem_map.mp hp
      exact N _ (List.mem_append_right _ (List.mem_map_of_mem ((List.mem_filter.mp ht).1)))
    · exact N p (List.mem_append_left _ hp)

theorem news_join {w : World} {g h : Heap} {L : Addr} {k : Stat} {st st' : Nat → RepSt} {own small : List (Addr × Obj)} {ch : Tag → Bool} (N : News g L h (small ++ restOf w k st ch own)) (h1 : ∀ t : Tag, t.ok → ch t = false → ent w k st' t = ent w k st t)
    (h2 : ∀ t : Tag, t.ok → ch t = true → ent w k st' t ∈ small) : News g L h (own ++ led w k st') := by
  intro p hp
  rcases List.mem_append.mp hp with hp | hp
  · exact N p (List.mem_append_right _ (List.mem_append_right _ hp))
  · obtain ⟨t, ht, rfl⟩ := led_mem hp
    cases hc : ch t with
    | true => exact N _ (List.mem_append_left _ (h2 t ht hc))
    | false =>
      rw [h1 t ht hc]
      refine N _ (List.mem_append_right _ (List.mem_append_left _ (List.mem_map_of_mem (List.mem_filter.mpr ⟨mem_tags ht, by rw [hc]; rfl⟩))))

def upd (st : Nat → RepSt) (i : Nat) (a : RepSt) : Nat → RepSt := fun x => if x = i then a else st x
theorem upd_same {st : Nat → RepSt} {i : Nat} {a : RepSt} : upd st i a i = a := if_pos rfl
theorem upd_other {st : Nat → RepSt} {i x : Nat} {a : RepSt} (h : x ≠ i) : upd st i a x = st x := if_neg h
theorem upd_O {st : Nat → RepSt} {i : Nat} {a : RepSt} (h : a.O = (st i).O) (x : Nat) : (upd st i a x).O = (st x).O := by
  unfold upd
  by_cases e : x = i
  · rw [if_pos e, h, e]
  · rw [if_neg e]

def raF (k : Stat) : Int → Addr := fun x => (k.mr x.toNat).M

def StOk (w : World) (k : Stat) (n : Nat) (a : RepSt) : Prop :=
  a.oD.IsDictOf (SK w) (absR (raF k) a.l) ∧ a.oO.IsDictOf (SK w) a.kvsO ∧ OwnOk a.kvsO ∧ absO a.kvsO = a.l ∧ (∀ p ∈ a.l, 1 ≤ p.1.length ∧ p.1.length ≤ 1000 ∧ 0 ≤ p.2 ∧ p.2 < 4) ∧ a.l.length ≤ n ∧ 1 ≤ a.c ∧ a.c ≤ n + 1 ∧ (a.O == sysModules) = false

structure Inv (w : World) (k : Stat) (n : Nat) (st : Nat → RepSt) : Prop where
  inj : Inj k st
  ok : ∀ i, i < 3 → StOk w k n (st i)

structure Sta (w : World) (k : Stat) : Prop where
  k2 : k.c2.data = .cell (some (.ref k.lS))
  k3 : k.c3.data = .cell (some (.ref k.lO))
  loD : ∀ i, i < 3 → ((k.rp i).D == sysModules) = false
  mr : ∀ j : Nat, j < 4 → ModOk w (k.mr j) (j : Int) ∧ ((k.mr j).fv = .none ∨ ∃ x t, (k.mr j).fv = .str x t ∧ 1 ≤ x.length ∧ x.length ≤ 1000)

theorem StOk.mono {w : World} {k : Stat} {n n' : Nat} {a : RepSt} (h : StOk w k n a) (hn : n ≤ n') : StOk w k n' a := by
  obtain ⟨h1, h2, h3, h4, h5, h6, h7, h8, h9⟩ := h
  exact ⟨h1, h2, h3, h4, h5, by omega, h7, by omega, h9⟩

theorem StOk.lenO {w : World} {k : Stat} {n : Nat} {a : RepSt} (h : StOk w k n a) : a.kvsO.length ≤ n := by
  obtain ⟨-, -, -, h4, -, h6, -⟩ := h
  have : a.kvsO.length = a.l.length := by rw [← h4]; simp [absO]
  omega

theorem StOk.lenD {w : World} {k : Stat} {n : Nat} {a : RepSt} (h : StOk w k n a) : (absR (raF k) a.l).length ≤ n := by
  obtain ⟨-, -, -, h4, -, h6, -⟩ := h
  simpa [absR] using h6

theorem StOk.put {w : World} {k : Stat} {n : Nat} {a : RepSt} (h : StOk w k n a) {x : Str} {j : Nat} {tj : Tok} {oD' oO' : Obj} {c' : Int} {tc' tcc' : Tok} (hx1 : 1 ≤ x.length) (hx2 : x.length ≤ 1000) (hj : j < 4) (hc1 : 1 ≤ c') (hc2 : c' ≤ (n : Int) + 2)
    (hD : oD'.IsDictOf (SK w) (stored (absR (raF k) a.l) x (.ref (k.mr j).M))) (hO : oO'.IsDictOf (SK w) (stored a.kvsO x (.int (j : Int) tj))) :
    StOk w k (n + 1) { c := c', tc := tc', tcc := tcc', oD := oD', O := a.O, oO := oO', kvsO := stored a.kvsO x (.int (j : Int) tj), l := putA a.l x (j : Int) } := by
  obtain ⟨h1, h2, h3, h4, h5, h6, h7, h8, h9⟩ := h
  refine ⟨?_, hO, ownOk_stored h3 _ _ _, ?_, ?_, ?_, hc1, ?_, h9⟩
  · have e := stored_absR (raF k) a.l x (j : Int)
    rw [show raF k (j : Int) = (k.mr j).M from rfl] at e
    rw [← e]; exact hD
  · rw [stored_absO, h4]
  · intro p hp
    rcases putA_mem hp with ⟨e1, e2⟩ | hp
    · rw [e1, e2]; exact ⟨hx1, hx2, by omega, by omega⟩
    · exact h5 p hp
  · have := putA_len a.l x (j : Int)
    show (putA a.l x (j : Int)).length ≤ n + 1
    omega
  · show c' ≤ ((n + 1 : Nat) : Int) + 1
    push_cast; omega

theorem Inv.raInj {w : World} {k : Stat} {n : Nat} {st : Nat → RepSt} (h : Inv w k n st) {x y : Int} (hx : 0 ≤ x) (hx4 : x < 4) (hy : 0 ≤ y) (hy4 : y < 4) (e : raF k x = raF k y) : x = y := by
  have := h.inj (.M x.toNat) (.M y.toNat) (by show x.toNat < 4; omega) (by show y.toNat < 4; omega) e
  have e2 := Tag.M.inj this
  omega

theorem Inv.del {w : World} {k : Stat} {n : Nat} {st : Nat → RepSt} (h : Inv w k n st) {i : Nat} (hi : i < 3) {js : List Nat} (hj : ∀ j ∈ js, j < 4) {oD' oO' : Obj} {O' : Addr} {kv : List (Str × Value)} (hD : oD'.IsDictOf (SK w) (removeds (absR (raF k) (st i).l) (js.map fun j => (k.mr j).M))) (hO : oO'.IsDictOf (SK w) kv) (hok : OwnOk kv) (hab : absO kv = delsA (absO (st i).kvsO) (js.map fun (j : Nat) => (j : Int)))
    (hlo : (O' == sysModules) = false) : StOk w k (n + 1) { st i with oD := oD', O := O', oO := oO', kvsO := kv, l := delsA (st i).l (js.map fun (j : Nat) => (j : Int)) } := by
  obtain ⟨h1, h2, h3, h4, h5, h6, h7, h8, h9⟩ := h.ok i hi
  refine ⟨?_, hO, hok, by rw [hab, h4], ?_, ?_, h7, by show (st i).c ≤ ((n + 1 : Nat) : Int) + 1; push_cast; omega, hlo⟩
  · have e := removeds_absR (ra := raF k) (is := js.map fun (j : Nat) => (j : Int)) (l := (st i).l) (fun p hp x hx e => by
      obtain ⟨j, hj', rfl⟩ := List.mem_map.mp hx
      have := h5 p hp
      have := hj j hj'
      exact h.raInj (by omega) (by omega) (by omega) (by omega) e)
    rw [List.map_map] at e
    rw [← e]; exact hD
  · intro p hp; exact h5 p (delsA_mem hp)
  · show (delsA (st i).l _).length ≤ n + 1
    have : ∀ (is : List Int) (l : List (Str × Int)), (delsA l is).length ≤ l.length := by
      intro is
      induction is with
      | nil => intro l; exact Nat.le_refl _
      | cons a is ih => intro l; exact Nat.le_trans (ih _) (delA_len _ _)
    have := this (js.map fun (j : Nat) => (j : Int)) (st i).l
    omega
end Mine
end Mine
end

section
open PySem PySem.W PySem.Calls PyProof.Rows
theorem Mine.off_M13 {M : Model} {A : Around} {E : Value → Shared → Prop} {s : Shared} {Q : Flow → Shared → Prop} {env : Env} (h : Q .next s) : wpAny M A (execs [] env) Q E s := by
  w_top off
  try walk1
  first
    | exact h
    | exact wpAny_execs_nil h
end
section
open PySem PySem.W PySem.Calls PyProof.Rows Builtin Builtin.ObjectAttr
namespace Mine
namespace Mine

local macro_rules | `(tactic| k_room) => `(tactic| exact Nat.le_of_ble_eq_true rfl)
theorem at_S (k : Stat) {i : Nat} (h : i < 3) : (vsS k)[i]? = some (.ref (k.rp i).R) := by rcases three h with rfl | rfl | rfl <;> rfl
theorem at_O (st : Nat → RepSt) {i : Nat} (h : i < 3) : (vsO st)[i]? = some (.ref (st i).O) := by rcases three h with rfl | rfl | rfl <;> rfl
theorem at_C (st : Nat → RepSt) {i : Nat} (h : i < 3) : (vsC st)[i]? = some (.int (st i).c (st i).tcc) := by rcases three h with rfl | rfl | rfl <;> rfl
theorem at_M (k : Stat) {j : Nat} (h : j < 4) : (vsM k)[j]? = some (.ref (k.mr j).M) := by rcases four h with rfl | rfl | rfl | rfl <;> rfl
theorem at_F (k : Stat) {j : Nat} (h : j < 4) : (vsF k)[j]? = some (k.mr j).fv := by rcases four h with rfl | rfl | rfl | rfl <;> rfl
theorem vsC_upd (st : Nat → RepSt) {i : Nat} (h : i < 3) (a : RepSt) : vsC (upd st i a) = (vsC st).set i (.int a.c a.tcc) := by rcases three h with rfl | rfl | rfl <;> rfl
theorem vsC_self (st : Nat → RepSt) {i : Nat} (h : i < 3) : (vsC st).set i (.int (st i).c (st i).tcc) = vsC st := by rcases three h with rfl | rfl | rfl <;> rfl

theorem ents_mem {w : World} {k : Stat} {st : Nat → RepSt} (TL : List Tag) (h : ∀ t ∈ TL, t.ok) : ∀ p ∈ TL.map (ent w k st), p ∈ led w k st := by
  intro p hp
  obtain ⟨t, ht, rfl⟩ := List.mem_map.mp hp
  exact mem_led (h t ht)

theorem news_join2 {w : World} {g h : Heap} {L : Addr} {k : Stat} {st st' : Nat → RepSt} {own news : List (Addr × Obj)} {ch : Tag → Bool} (N : News g L h news) (hr : ∀ p ∈ restOf w k st ch own, p ∈ news) (h1 : ∀ t : Tag, t.ok → ch t = false → ent w k st' t = ent w k st t)
    (h2 : ∀ t : Tag, t.ok → ch t = true → ent w k st' t ∈ news) : News g L h (own ++ led w k st') := by
  intro p hp
  rcases List.mem_append.mp hp with hp | hp
  · exact N p (hr p (List.mem_append_right _ hp))
  · obtain ⟨t, ht, rfl⟩ := led_mem hp
    cases hc : ch t with
    | true => exact N _ (h2 t ht hc)
    | false =>
      rw [h1 t ht hc]
      exact N _ (hr _ (List.mem_append_left _ (List.mem_map_of_mem (List.mem_filter.mpr ⟨mem_tags ht, by rw [hc]; rfl⟩))))

theorem adr_eq {k : Stat} {st st' : Nat → RepSt} (h : ∀ x, (st' x).O = (st x).O) (t : Tag) : adr k st' t = adr k st t := by
  cases t <;> first | rfl | exact h _

def chA (i : Nat) : Tag → Bool
  | .lC => true | .RD x => x == i | .D x => x == i | .O x => x == i | _ => false

theorem ent_upd {w : World} {k : Stat} {st : Nat → RepSt} {i : Nat} {a : RepSt} (hO : a.O = (st i).O) : ∀ t : Tag, chA i t = false → ent w k (upd st i a) t = ent w k st t := by
  intro t ht
  have e1 : adr k (upd st i a) t = adr k st t := adr_eq (upd_O hO) t
  show (adr k (upd st i a) t, ob w k (upd st i a) t) = (adr k st t, ob w k st t)
  rw [e1]
  congr 1
  cases t with
  | lO => show W.listOf (vsO _).toArray k.nO = W.listOf (vsO _).toArray k.nO; simp only [vsO, upd_O hO]
  | lC => cases ht
  | RD x =>
    have hx : x ≠ i := by intro e; subst e; simp [chA] at ht
    simp only [ob, upd_other hx]
  | D x =>
    have hx : x ≠ i := by intro e; subst e; simp [chA] at ht
    simp only [ob, upd_other hx]
  | O x =>
    have hx : x ≠ i := by intro e; subst e; simp [chA] at ht
    simp only [ob, upd_other hx]
  | _ => rfl

theorem put_done {w : World} {k : Stat} {st : Nat → RepSt} {n i : Nat} {a : RepSt} {own : List (Addr × Obj)} (inv : Inv w k n st) (ha : StOk w k (n + 1) a) (hO : a.O = (st i).O) (hown : ∀ p ∈ own, ∀ t : Tag, t.ok → @Ne Nat p.1 (adr k st t)) :
    Inv w k (n + 1) (upd st i a) ∧ ∀ p ∈ own, ∀ t : Tag, t.ok → @Ne Nat p.1 (adr k (upd st i a) t) := by
  have ea : ∀ t, adr k (upd st i a) t = adr k st t := adr_eq (upd_O hO)
  refine ⟨⟨fun t u ht hu e => ?_, fun x hx => ?_⟩, fun p hp t ht => ?_⟩
  · rw [ea, ea] at e; exact inv.inj t u ht hu e
  · by_cases e : x = i
    · subst e; rw [upd_same]; exact ha
    · rw [upd_other e]; exact (inv.ok x hx).mono (Nat.le_succ n)
  · rw [ea]; exact hown p hp t ht

theorem put_news {w : World} {g h : Heap} {L : Addr} {k : Stat} {st : Nat → RepSt} {i : Nat} {a : RepSt} {own news : List (Addr × Obj)} (N : News g L h news) (hi : i < 3) (hO : a.O = (st i).O) (hr : ∀ p ∈ restOf w k st (chA i) own, p ∈ news)
    (hC : (k.lC, W.listOf ((vsC st).set i (.int a.c a.tcc)).toArray k.nC) ∈ news) (hRD : ((k.rp i).RD, dictOf (repEs w a.c a.tc (k.rp i).D (k.rp i).t1 (k.rp i).t2) 2) ∈ news) (hD : ((k.rp i).D, a.oD) ∈ news) (hO' : ((st i).O, a.oO) ∈ news) :
    News g L h (own ++ led w k (upd st i a)) := by
  refine news_join2 (st := st) (ch := chA i) N hr (fun t _ ht => ent_upd hO t ht) ?_
  intro t ht hc
  cases t with
  | lC =>
    show (k.lC, W.listOf (vsC (upd st i _)).toArray k.nC) ∈ _
    rw [vsC_upd st hi]; exact hC
  | RD y =>
    have e : y = i := by simpa [chA] using hc
    subst e
    show (_, ob w k _ (.RD y)) ∈ _
    simp only [ob, adr, upd_same]; exact hRD
  | D y =>
    have e : y = i := by simpa [chA] using hc
    subst e
    show (_, ob w k _ (.D y)) ∈ _
    simp only [ob, adr, upd_same]; exact hD
  | O y =>
    have e : y = i := by simpa [chA] using hc
    subst e
    show (adr k (upd st y _) (.O y), ob w k _ (.O y)) ∈ _
    simp only [ob, adr, upd_same, hO]; exact hO'
  | _ => cases hc

theorem built_len : ∀ c : Nat, c < 32 → 1 ≤ (Str.ofString "builtin_model_" ++ Str.ofString (toString (c : Int))).length ∧ (Str.ofString "builtin_model_" ++ Str.ofString (toString (c : Int))).length ≤ 1000 := by decide +kernel

theorem built_lenI {c : Int} (h : 0 ≤ c) (h2 : c < 32) : 1 ≤ (Str.ofString "builtin_model_" ++ Str.ofString (toString c)).length ∧ (Str.ofString "builtin_model_" ++ Str.ofString (toString c)).length ≤ 1000 := by
  obtain ⟨k, rfl⟩ := Int.eq_ofNat_of_zero_le h
  exact built_len k (by omega)

section
variable (w : World) (mean : ExcName → Option Value) (mg mb : Str → Option Value)

theorem do_add {oc : Value} {od : Option Addr} {qual : Str} {params : Arguments} {body : List Stmt} {scope : Scope} {dV kV doc pm cdv ct : Value} {an : Option Addr} {osl : Array (Option Value)}
    (hlk : (hd.heap_39 w.params).lookup 226 = some ⟨oc, od, .func (fnOf (Str.ofString "law") qual params body scope dV kV doc pm an cdv ct), osl⟩)
    {s1 s2 s3 s4 s5 b1 b2 : Stmt} {brest srest thA elA els : List Stmt} {tgt it ca : Expr} {fp pa : Pos}
    (hb : body = s1 :: s2 :: s3 :: s4 :: s5 :: .For tgt it (b1 :: b2 :: .If ca thA elA pa :: brest) els fp :: srest) 
    {fa : Addr} {cd : Value} {g : Heap} {S : Addr} {k : Stat} {st : Nat → RepSt} {n i j : Nat} {ti tj : Tok} {own : List (Addr × Obj)}
    {s : Shared} {m : Str → Option Value} {Q : Flow → Shared → Prop} {E : Value → Shared → Prop}
    (B : Below callerA g [] g) (X : (hd.heap_39 w.params).In g) (T : Top hd.view_39 (looseW hd.view_39 [Str.ofString "TextXObject"]) mean mg mb g)
    (sta : Sta w k) (inv : Inv w k n st) (hn : n ≤ 20) (hi : i < 3) (hj : j < 4)
    (F : Fr g k.L s.heap (fun z => if z = Str.ofString "model" then some (.int (j : Int) tj) else if z = Str.ofString "spot" then some (.int (i : Int) ti) else lm S k.lF k.G1 k.G2 k.lM k.lC m z))
    (N : News g k.L s.heap (own ++ led w k st)) (hown : ∀ p ∈ own, ∀ t : Tag, t.ok → @Ne Nat p.1 (adr k st t))
    (hQ : ∀ h' tk m' st', Inv w k (n + 1) st' → HasLm S k.lF k.G1 k.G2 k.lM k.lC m' → Fr g k.L h' m' → News g k.L h' (own ++ led w k st') → (∀ p ∈ own, ∀ t : Tag, t.ok → @Ne Nat p.1 (adr k st' t)) → Q .next { s with heap := h', toks := tk }) :
    wpAny (model PySem.Challenge.rw_ez0369_01.row.prog w) (callerA.deeper (envOfC qual scope k.L fa cd)) (execs thA (envOfC qual scope k.L fa cd)) Q E s := by
  obtain ⟨mok, hfv⟩ := sta.mr j hj
  have hst := inv.ok i hi
  obtain ⟨h1, h2, h3, h4, h5, h6, h7, h8, h9⟩ := id hst
  have NN := news_split (ch := chA i) (small := [Tag.c2, .c3, .lS, .lM, .lF, .lC, .lO, .R i, .RD i, .D i, .O i, .M j, .MD j, .MF j].map (ent w k st)) N (ents_mem _ (by simp [Tag.ok, hi, hj]))
  have nD := nes inv.inj [Tag.c2, .c3, .lS, .lM, .lF, .lC, .lO, .R i, .RD i, .O i, .M j, .MD j, .MF j] (.D i) hi (by simp [Tag.ok, hi, hj])
  have nO := nes inv.inj [Tag.c2, .c3, .lS, .lM, .lF, .lC, .lO, .R i, .RD i, .D i, .M j, .MD j, .MF j] (.O i) hi (by simp [Tag.ok, hi, hj])
  have nR := nes inv.inj [Tag.c2, .c3, .lS, .lM, .lF, .lC, .lO, .R i, .D i, .O i, .M j, .MD j, .MF j] (.RD i) hi (by simp [Tag.ok, hi, hj])
  have nC := nes inv.inj [Tag.c2, .c3, .lS, .lM, .lF, .lO, .R i, .RD i, .D i, .O i, .M j, .MD j, .MF j] .lC trivial (by simp [Tag.ok, hi, hj])
  have rD := rest_ne (w := w) (ch := chA i) inv.inj (.D i) hi (by simp [chA]) (fun p hp => hown p hp (.D i) hi)
  have rO := rest_ne (w := w) (ch := chA i) inv.inj (.O i) hi (by simp [chA]) (fun p hp => hown p hp (.O i) hi)
  have rR := rest_ne (w := w) (ch := chA i) inv.inj (.RD i) hi (by simp [chA]) (fun p hp => hown p hp (.RD i) hi)
  have rC := rest_ne (w := w) (ch := chA i) inv.inj .lC trivial (by simp [chA]) (fun p hp => hown p hp .lC trivial)
  have lD := hst.lenD
  have lO := hst.lenO
  rcases hfv with hfv | ⟨x, t, hfv, hx1, hx2⟩
  · have hF := mok.1
    rw [hfv] at hF
    refine deed_addN w mean mg mb hlk hb B X T F NN sta.k2 sta.k3 (by show 3 ≤ 64; decide) (by show 4 ≤ 64; decide) (by show 4 ≤ 64; decide) (by show 3 ≤ 64; decide) (by show 3 ≤ 64; decide) (by show i < 3; exact hi) (at_S k hi) (at_M k hj) (by rw [at_F k hj, hfv]) (at_O st hi) (at_C st hi) (by omega) (by omega) h1 h2 (by omega) (by omega) hF mok.2 nD nO nR nC rD rO rR rC ?_
    intro h' tk m' oD' oO' tc' tcc' hD' hO' hm' F' N'
    have hput := hst.put (c' := (st i).c + 1) (tc' := tc') (tcc' := tcc') (tj := tj) (x := Str.ofString "builtin_model_" ++ Str.ofString (toString (st i).c)) (j := j) ?_ ?_ hj (by omega) (by omega) hD' hO'
    · obtain ⟨q1, q2⟩ := put_done inv hput rfl hown
      refine hQ h' tk m' _ q1 hm' F' (put_news N' hi rfl (fun p hp => ?_) (by k_mem) (by k_mem) (by k_mem) (by k_mem)) q2
      iterate 14 (refine List.Mem.tail _ ?_)
      exact hp
    · exact (built_lenI (by omega) (by omega)).1
    · exact (built_lenI (by omega) (by omega)).2
  · have hF := mok.1
    rw [hfv] at hF
    refine deed_add (tcc := tj) w mean mg mb hlk hb B X T F NN sta.k2 sta.k3 (by show 3 ≤ 64; decide) (by show 4 ≤ 64; decide) (by show 4 ≤ 64; decide) (by show 3 ≤ 64; decide) (at_S k hi) (at_M k hj) (by rw [at_F k hj, hfv]) (at_O st hi) h1 h2 (by omega) (by omega) hF mok.2 hx1 hx2 nD nO rD rO ?_
    intro h' tk m' oD' oO' hD' hO' hm' F' N'
    have hput := hst.put (c' := (st i).c) (tc' := (st i).tc) (tcc' := (st i).tcc) (tj := tj) (x := x) (j := j) hx1 hx2 hj (by omega) (by omega) hD' hO'
    obtain ⟨q1, q2⟩ := put_done inv hput rfl hown
    refine hQ h' tk m' _ q1 hm' F' (put_news N' hi rfl (fun p hp => ?_) (by rw [vsC_self st hi]; k_mem) (by k_mem) (by k_mem) (by k_mem)) q2
    iterate 14 (refine List.Mem.tail _ ?_)
    exact hp
end
end Mine
end Mine
end

section
open PySem PySem.W PySem.Calls PyProof.Rows
theorem Mine.off_M14 {M : Model} {A : Around} {E : Value → Shared → Prop} {s : Shared} {Q : Flow → Shared → Prop} {env : Env} (h : Q .next s) : wpAny M A (execs [] env) Q E s := by
  w_top off
  try walk1
  first
    | exact h
    | exact wpAny_execs_nil h
end
section
open PySem PySem.W PySem.Calls PyProof.Rows Builtin Builtin.ObjectAttr
namespace Mine
namespace Mine

local macro_rules | `(tactic| k_room) => `(tactic| exact Nat.le_of_ble_eq_true rfl)
section
variable (w : World) (mean : ExcName → Option Value) (mg mb : Str → Option Value)

theorem do_set {oc : Value} {od : Option Addr} {qual : Str} {params : Arguments} {body : List Stmt} {scope : Scope} {dV kV doc pm cdv ct : Value} {an : Option Addr} {osl : Array (Option Value)}
    (hlk : (hd.heap_39 w.params).lookup 226 = some ⟨oc, od, .func (fnOf (Str.ofString "law") qual params body scope dV kV doc pm an cdv ct), osl⟩)
    {s1 s2 s3 s4 s5 b1 b2 : Stmt} {brest srest thA thB elB els : List Stmt} {tgt it ca cb : Expr} {fp pa pb : Pos}
    (hb : body = s1 :: s2 :: s3 :: s4 :: s5 :: .For tgt it (b1 :: b2 :: .If ca thA [.If cb thB elB pb] pa :: brest) els fp :: srest) 
    {fa : Addr} {cd : Value} {g : Heap} {S : Addr} {k : Stat} {st : Nat → RepSt} {n i j : Nat} {ti tj tw : Tok} {way : Int} {own : List (Addr × Obj)}
    {s : Shared} {m : Str → Option Value} {Q : Flow → Shared → Prop} {E : Value → Shared → Prop}
    (B : Below callerA g [] g) (X : (hd.heap_39 w.params).In g) (T : Top hd.view_39 (looseW hd.view_39 [Str.ofString "TextXObject"]) mean mg mb g)
    (sta : Sta w k) (inv : Inv w k n st) (hn : n ≤ 20) (hi : i < 3) (hj : j < 4)
    (hway : way = 3 ∨ way = 4)
    (F : Fr g k.L s.heap (fun z => if z = Str.ofString "way" then some (.int way tw) else if z = Str.ofString "model" then some (.int (j : Int) tj) else if z = Str.ofString "spot" then some (.int (i : Int) ti) else lm S k.lF k.G1 k.G2 k.lM k.lC m z))
    (N : News g k.L s.heap (own ++ led w k st)) (hown : ∀ p ∈ own, ∀ t : Tag, t.ok → @Ne Nat p.1 (adr k st t))
    (hQ : ∀ h' tk m' st', Inv w k (n + 1) st' → HasLm S k.lF k.G1 k.G2 k.lM k.lC m' → Fr g k.L h' m' → News g k.L h' (own ++ led w k st') → (∀ p ∈ own, ∀ t : Tag, t.ok → @Ne Nat p.1 (adr k st' t)) → Q .next { s with heap := h', toks := tk }) :
    wpAny (model PySem.Challenge.rw_ez0369_01.row.prog w) (callerA.deeper (envOfC qual scope k.L fa cd)) (execs thB (envOfC qual scope k.L fa cd)) Q E s := by
  have hst := inv.ok i hi
  obtain ⟨h1, h2, h3, h4, h5, h6, h7, h8, h9⟩ := id hst
  have NN := news_split (ch := chA i) (small := [Tag.c2, .c3, .lS, .lM, .lO, .R i, .RD i, .D i, .O i, .lC].map (ent w k st)) N (ents_mem _ (by simp [Tag.ok, hi]))
  have nD := nes inv.inj [Tag.c2, .c3, .lS, .lM, .lO, .R i, .RD i, .O i] (.D i) hi (by simp [Tag.ok, hi])
  have nO := nes inv.inj [Tag.c2, .c3, .lS, .lM, .lO, .R i, .RD i, .D i] (.O i) hi (by simp [Tag.ok, hi])
  have rD : ∀ p ∈ ent w k st .lC :: restOf w k st (chA i) own, @Ne Nat p.1 (adr k st (.D i)) := List.forall_mem_cons.mpr ⟨fun e => Tag.noConfusion (inv.inj .lC (.D i) trivial hi e), rest_ne (w := w) (ch := chA i) inv.inj (.D i) hi (by simp [chA]) (fun p hp => hown p hp (.D i) hi)⟩
  have rO : ∀ p ∈ ent w k st .lC :: restOf w k st (chA i) own, @Ne Nat p.1 (adr k st (.O i)) := List.forall_mem_cons.mpr ⟨fun e => Tag.noConfusion (inv.inj .lC (.O i) trivial hi e), rest_ne (w := w) (ch := chA i) inv.inj (.O i) hi (by simp [chA]) (fun p hp => hown p hp (.O i) hi)⟩
  have lD := hst.lenD
  have lO := hst.lenO
  refine deed_set w mean mg mb hlk hb B X T F NN sta.k2 sta.k3 (by show 3 ≤ 64; decide) (by show 4 ≤ 64; decide) (by show 3 ≤ 64; decide) (at_S k hi) (at_M k hj) (at_O st hi) hway h1 h2 (by omega) (by omega) nD nO rD rO ?_
  intro h' tk m' oD' oO' x hx1 hx2 hD' hO' hm' F' N'
  have hput := hst.put (c' := (st i).c) (tc' := (st i).tc) (tcc' := (st i).tcc) (tj := tj) (x := x) (j := j) hx1 hx2 hj (by omega) (by omega) hD' hO'
  obtain ⟨q1, q2⟩ := put_done inv hput rfl hown
  refine hQ h' tk m' _ q1 hm' F' (put_news N' hi rfl (fun p hp => ?_) (by rw [vsC_self st hi]; k_mem) (by k_mem) (by k_mem) (by k_mem)) q2
  iterate 10 (refine List.Mem.tail _ ?_)
  exact hp
end
end Mine
end Mine
end

section
open PySem PySem.W PySem.Calls PyProof.Rows
theorem Mine.off_M15 {M : Model} {A : Around} {E : Value → Shared → Prop} {s : Shared} {Q : Flow → Shared → Prop} {env : Env} (h : Q .next s) : wpAny M A (execs [] env) Q E s := by
  w_top off
  try walk1
  first
    | exact h
    | exact wpAny_execs_nil h
end
section
open PySem PySem.W PySem.Calls PyProof.Rows Builtin Builtin.ObjectAttr
namespace Mine
namespace Mine

local macro_rules | `(tactic| k_room) => `(tactic| exact Nat.le_of_ble_eq_true rfl)
def chC (q : Nat) : Tag → Bool
  | .lO => true | .D x => x == 2 || x == q | .O x => x == 2 || x == q | _ => false

def upd2 (st : Nat → RepSt) (q : Nat) (aq a2 : RepSt) : Nat → RepSt := upd (upd st q aq) 2 a2
theorem upd2_two {st : Nat → RepSt} {q : Nat} {aq a2 : RepSt} : upd2 st q aq a2 2 = a2 := upd_same
theorem upd2_q {st : Nat → RepSt} {q : Nat} {aq a2 : RepSt} (h : q ≠ 2) : upd2 st q aq a2 q = aq := by unfold upd2; rw [upd_other h, upd_same]
theorem upd2_other {st : Nat → RepSt} {q x : Nat} {aq a2 : RepSt} (h : x ≠ 2) (h' : x ≠ q) : upd2 st q aq a2 x = st x := by unfold upd2; rw [upd_other h, upd_other h']

theorem chC_D {q x : Nat} : chC q (.D x) = false ↔ x ≠ 2 ∧ x ≠ q := by simp [chC]
theorem chC_O {q x : Nat} : chC q (.O x) = false ↔ x ≠ 2 ∧ x ≠ q := by simp [chC]

theorem del_done {w : World} {k : Stat} {st : Nat → RepSt} {n q : Nat} {aq a2 : RepSt} {own : List (Addr × Obj)} (inv : Inv w k n st) (hq : q < 2) (hA : StOk w k (n + 1) aq) (h2 : StOk w k (n + 1) a2) (hne : @Ne Nat a2.O aq.O)
    (hf : ∀ t : Tag, t.ok → t ≠ .O 2 → t ≠ .O q → @Ne Nat (adr k st t) a2.O ∧ @Ne Nat (adr k st t) aq.O) (ho : ∀ p ∈ own, @Ne Nat p.1 a2.O ∧ @Ne Nat p.1 aq.O) (hown : ∀ p ∈ own, ∀ t : Tag, t.ok → @Ne Nat p.1 (adr k st t)) :
    Inv w k (n + 1) (upd2 st q aq a2) ∧ ∀ p ∈ own, ∀ t : Tag, t.ok → @Ne Nat p.1 (adr k (upd2 st q aq a2) t) := by
  have q2 : q ≠ 2 := by omega
  have ea : ∀ t : Tag, t ≠ .O 2 → t ≠ .O q → adr k (upd2 st q aq a2) t = adr k st t := by
    intro t h1 h3
    cases t with
    | O x =>
      have e1 : x ≠ 2 := fun e => h1 (by rw [e])
      have e2 : x ≠ q := fun e => h3 (by rw [e])
      simp only [adr, upd2_other e1 e2]
    | _ => rfl
  have e2 : adr k (upd2 st q aq a2) (.O 2) = a2.O := by simp only [adr, upd2_two]
  have eq : adr k (upd2 st q aq a2) (.O q) = aq.O := by simp only [adr, upd2_q q2]
  have dec : ∀ t : Tag, t = .O 2 ∨ t = .O q ∨ (t ≠ .O 2 ∧ t ≠ .O q) := by
    intro t
    by_cases h1 : t = .O 2
    · exact Or.inl h1
    · by_cases h3 : t = .O q
      · exact Or.inr (Or.inl h3)
      · exact Or.inr (Or.inr ⟨h1, h3⟩)
  refine ⟨⟨fun t u ht hu e => ?_, fun x hx => ?_⟩, fun p hp t ht => ?_⟩
  · rcases dec t with rfl | rfl | ⟨h1, h3⟩ <;> rcases dec u with rfl | rfl | ⟨h4, h5⟩
    · rfl
    · rw [e2, eq] at e; exact absurd e hne
    · rw [e2, ea u h4 h5] at e; exact absurd e.symm (hf u hu h4 h5).1
    · rw [e2, eq] at e; exact absurd e.symm hne
    · rfl
    · rw [eq, ea u h4 h5] at e; exact absurd e.symm (hf u hu h4 h5).2
    · rw [e2, ea t h1 h3] at e; exact absurd e (hf t ht h1 h3).1
    · rw [eq, ea t h1 h3] at e; exact absurd e (hf t ht h1 h3).2
    · rw [ea t h1 h3, ea u h4 h5] at e; exact inv.inj t u ht hu e
  · by_cases e : x = 2
    · subst e; rw [upd2_two]; exact h2
    · by_cases e' : x = q
      · subst e'; rw [upd2_q q2]; exact hA
      · rw [upd2_other e e']; exact (inv.ok x hx).mono (Nat.le_succ n)
  · rcases dec t with rfl | rfl | ⟨h1, h3⟩
    · rw [e2]; exact (ho p hp).1
    · rw [eq]; exact (ho p hp).2
    · rw [ea t h1 h3]; exact hown p hp t ht

theorem del_news {w : World} {g h : Heap} {L : Addr} {k : Stat} {st : Nat → RepSt} {q : Nat} {aq a2 : RepSt} {own news : List (Addr × Obj)} (N : News g L h news) (hq : q < 2) (cq : aq.c = (st q).c ∧ aq.tc = (st q).tc ∧ aq.tcc = (st q).tcc) (c2 : a2.c = (st 2).c ∧ a2.tc = (st 2).tc ∧ a2.tcc = (st 2).tcc)
    (hr : ∀ p ∈ restOf w k st (chC q) own, p ∈ news) (hlO : (k.lO, W.listOf (vsO (upd2 st q aq a2)).toArray k.nO) ∈ news)
    (hD2 : ((k.rp 2).D, a2.oD) ∈ news) (hDq : ((k.rp q).D, aq.oD) ∈ news) (hO2 : (a2.O, a2.oO) ∈ news) (hOq : (aq.O, aq.oO) ∈ news) :
    News g L h (own ++ led w k (upd2 st q aq a2)) := by
  have q2 : q ≠ 2 := by omega
  have cc : ∀ x, (upd2 st q aq a2 x).c = (st x).c ∧ (upd2 st q aq a2 x).tc = (st x).tc ∧ (upd2 st q aq a2 x).tcc = (st x).tcc := by
    intro x
    by_cases e : x = 2
    · subst e; rw [upd2_two]; exact c2
    · by_cases e' : x = q
      · subst e'; rw [upd2_q q2]; exact cq
      · rw [upd2_other e e']; exact ⟨rfl, rfl, rfl⟩
  refine news_join2 (st := st) (ch := chC q) N hr (fun t _ ht => ?_) ?_
  · cases t with
    | lO => cases ht
    | lC =>
      show (k.lC, W.listOf (vsC _).toArray k.nC) = (k.lC, W.listOf (vsC _).toArray k.nC)
      simp only [vsC, cc]
    | RD x =>
      show ((k.rp x).RD, dictOf (repEs w (upd2 st q aq a2 x).c (upd2 st q aq a2 x).tc _ _ _) 2) = ((k.rp x).RD, dictOf (repEs w (st x).c (st x).tc _ _ _) 2)
      rw [(cc x).1, (cc x).2.1]
    | D x =>
      obtain ⟨e1, e2⟩ := chC_D.mp ht
      simp only [ent, adr, ob, upd2_other e1 e2]
    | O x =>
      obtain ⟨e1, e2⟩ := chC_O.mp ht
      simp only [ent, adr, ob, upd2_other e1 e2]
    | _ => rfl
  · intro t ht hc
    cases t with
    | lO => exact hlO
    | D x =>
      by_cases e : x = 2
      · subst e; simp only [ent, adr, ob, upd2_two]; exact hD2
      · by_cases e' : x = q
        · subst e'; simp only [ent, adr, ob, upd2_q q2]; exact hDq
        · exact absurd hc (by rw [chC_D.mpr ⟨e, e'⟩]; decide)
    | O x =>
      by_cases e : x = 2
      · subst e; simp only [ent, adr, ob, upd2_two]; exact hO2
      · by_cases e' : x = q
        · subst e'; simp only [ent, adr, ob, upd2_q q2]; exact hOq
        · exact absurd hc (by rw [chC_O.mpr ⟨e, e'⟩]; decide)
    | _ => cases hc

abbrev msK (k : Stat) : List (Addr × Addr) := [((k.mr 0).M, (k.mr 0).MD), ((k.mr 1).M, (k.mr 1).MD), ((k.mr 2).M, (k.mr 2).MD), ((k.mr 3).M, (k.mr 3).MD)]

theorem kvsOk_of {w : World} {k : Stat} {n : Nat} {a : RepSt} (h : StOk w k n a) (hn : n ≤ 1000) : KvsOk (msK k) (absR (raF k) a.l) := by
  have hl := h.lenD
  obtain ⟨h1, h2, h3, h4, h5, h6, h7, h8, h9⟩ := h
  refine ⟨by omega, fun p hp => ?_, fun p hp => ?_⟩
  · obtain ⟨q, hq, rfl⟩ := List.mem_map.mp hp
    obtain ⟨-, -, y1, y2⟩ := h5 q hq
    obtain ⟨j, hj⟩ := Int.eq_ofNat_of_zero_le y1
    have hj4 : j < 4 := by omega
    refine ⟨(k.mr j).M, (k.mr j).MD, ?_, ?_⟩
    · show Value.ref (k.mr q.2.toNat).M = _
      rw [hj]; rfl
    · rcases four hj4 with rfl | rfl | rfl | rfl <;> simp
  · obtain ⟨q, hq, rfl⟩ := List.mem_map.mp hp
    exact ⟨(h5 q hq).1, (h5 q hq).2.1⟩

theorem ms_mem (k : Stat) {j : Nat} (hj : j < 4) : ∃ MD, ((k.mr j).M, MD) ∈ (msK k) := by
  refine ⟨(k.mr j).MD, ?_⟩
  rcases four hj with rfl | rfl | rfl | rfl <;> simp

section
variable (w : World) (mean : ExcName → Option Value) (mg mb : Str → Option Value)

theorem do_rem {oc : Value} {od : Option Addr} {qual : Str} {params : Arguments} {body : List Stmt} {scope : Scope} {dV kV doc pm cdv ct : Value} {an : Option Addr} {osl : Array (Option Value)}
    (hlk : (hd.heap_39 w.params).lookup 226 = some ⟨oc, od, .func (fnOf (Str.ofString "law") qual params body scope dV kV doc pm an cdv ct), osl⟩)
    {s1 s2 s3 s4 s5 b1 b2 u1 : Stmt} {brest srest thA thB fb els2 elC els : List Stmt} {tgt it tg2 it2 ca cb cc : Expr} {fp pa pb pc fp2 : Pos}
    (hb : body = s1 :: s2 :: s3 :: s4 :: s5 :: .For tgt it (b1 :: b2 :: .If ca thA [.If cb thB [.If cc [u1, .For tg2 it2 fb els2 fp2] elC pc] pb] pa :: brest) els fp :: srest) 
    {fa : Addr} {cd : Value} {g : Heap} {S : Addr} {k : Stat} {st : Nat → RepSt} {n i j : Nat} {ti tj tw : Tok} {way : Int} {own : List (Addr × Obj)}
    {s : Shared} {m : Str → Option Value} {Q : Flow → Shared → Prop} {E : Value → Shared → Prop}
    (B : Below callerA g [] g) (X : (hd.heap_39 w.params).In g) (T : Top hd.view_39 (looseW hd.view_39 [Str.ofString "TextXObject"]) mean mg mb g)
    (sta : Sta w k) (inv : Inv w k n st) (hn : n ≤ 20) (hi : i < 3) (hj : j < 4)
    (hway : way = 5 ∨ way = 6)
    (F : Fr g k.L s.heap (fun z => if z = Str.ofString "way" then some (.int way tw) else if z = Str.ofString "model" then some (.int (j : Int) tj) else if z = Str.ofString "spot" then some (.int (i : Int) ti) else lm S k.lF k.G1 k.G2 k.lM k.lC m z))
    (N : News g k.L s.heap (own ++ led w k st)) (hown : ∀ p ∈ own, ∀ t : Tag, t.ok → @Ne Nat p.1 (adr k st t))
    (hQ : ∀ h' tk m' st', Inv w k (n + 1) st' → HasLm S k.lF k.G1 k.G2 k.lM k.lC m' → Fr g k.L h' m' → News g k.L h' (own ++ led w k st') → (∀ p ∈ own, ∀ t : Tag, t.ok → @Ne Nat p.1 (adr k st' t)) → Q .next { s with heap := h', toks := tk })
    (hE : PassesOwn (model PySem.Challenge.rw_ez0369_01.row.prog w) (callerA.deeper (envOfC qual scope k.L fa cd)) (envOfC qual scope k.L fa cd) E) :
    wpAny (model PySem.Challenge.rw_ez0369_01.row.prog w) (callerA.deeper (envOfC qual scope k.L fa cd)) (execs [u1, .For tg2 it2 fb els2 fp2] (envOfC qual scope k.L fa cd)) Q E s := by
  rcases hway with rfl | rfl
  ·
    have NN := news_split (ch := chC 0) (small := [Tag.c3, .lM, .lO, .O 2, .O 0, .g1, .gd1, .R 2, .RD 2, .D 2, .R 0, .RD 0, .D 0, .M 0, .M 1, .M 2, .M 3].map (ent w k st)) N (ents_mem _ (by simp [Tag.ok]))
    have nA := nes inv.inj [Tag.c3, .lM, .lO, .O 2, .O 0, .g1, .gd1, .R 2, .RD 2, .R 0, .RD 0, .D 0] (.D 2) (by show _ < 3; decide) (by simp [Tag.ok])
    have nL := nes inv.inj [Tag.c3, .lM, .lO, .O 2, .O 0, .g1, .gd1, .R 2, .RD 2, .D 2, .R 0, .RD 0] (.D 0) (by show _ < 3; decide) (by simp [Tag.ok])
    have nO := nes inv.inj [Tag.c3, .lM, .O 2, .O 0, .g1, .gd1, .R 2, .RD 2, .D 2, .R 0, .RD 0, .D 0] (.lO) trivial (by simp [Tag.ok])
    have mA : ∀ p ∈ msL (msK k), @Ne Nat p.1 (adr k st (.D 2)) := fun p hp => nes inv.inj [Tag.M 0, .M 1, .M 2, .M 3] (.D 2) (by show _ < 3; decide) (by simp [Tag.ok]) p.1 (List.mem_map_of_mem (f := Prod.fst) hp)
    have mL : ∀ p ∈ msL (msK k), @Ne Nat p.1 (adr k st (.D 0)) := fun p hp => nes inv.inj [Tag.M 0, .M 1, .M 2, .M 3] (.D 0) (by show _ < 3; decide) (by simp [Tag.ok]) p.1 (List.mem_map_of_mem (f := Prod.fst) hp)
    have mO : ∀ p ∈ msL (msK k), @Ne Nat p.1 (adr k st .lO) := fun p hp => nes inv.inj [Tag.M 0, .M 1, .M 2, .M 3] .lO trivial (by simp [Tag.ok]) p.1 (List.mem_map_of_mem (f := Prod.fst) hp)
    have rA := rest_ne (w := w) (ch := chC 0) inv.inj (.D 2) (by show _ < 3; decide) (by simp [chC]) (fun p hp => hown p hp (.D 2) (by show _ < 3; decide))
    have rL := rest_ne (w := w) (ch := chC 0) inv.inj (.D 0) (by show _ < 3; decide) (by simp [chC]) (fun p hp => hown p hp (.D 0) (by show _ < 3; decide))
    have rO := rest_ne (w := w) (ch := chC 0) inv.inj .lO trivial (by simp [chC]) (fun p hp => hown p hp .lO trivial)
    have hst := inv.ok 0 (by decide)
    have hst2 := inv.ok 2 (by decide)
    have lq := hst.lenO
    have l2 := hst2.lenO
    refine deed_rem (k := 0) (vsf := fun a b => [.ref b, .ref (st 1).O, .ref a]) (rA := k.rp 2) (rL := k.rp 0) (ms := msK k) (rest := restOf w k st (chC 0) own) w mean mg mb hlk hb B X T F NN sta.k3 (by decide) (Or.inl ⟨rfl, rfl, rfl⟩) (by show 4 ≤ 64; decide) (at_M k hj) (ms_mem k hj) (fun _ _ => rfl) (fun _ _ => rfl) (fun _ _ => rfl) (fun _ _ _ => rfl) (fun _ _ _ => rfl)
      hst2.2.1 hst2.2.2.1 (by omega) hst2.2.2.2.2.2.2.2.2 hst.2.1 hst.2.2.1 (by omega) hst.2.2.2.2.2.2.2.2 hst.1 hst2.1 (kvsOk_of hst (by omega)) (kvsOk_of hst2 (by omega)) (sta.loD 0 (by decide)) (sta.loD 2 (by decide)) nA mA rA nL mL rL nO mO rO ?_ hE
    intro h' tk m' oA' oL' a2 p2 kv2 ak pk kvk w1 w2 w3 w4 w5 w6 w7 w8 w9 w10 w11 w12 hm' F' N'
    have i2 := inv.del (i := 2) (by decide) (js := [j]) (by simpa using hj) w2 w3 w4 w5 w6
    have iq := inv.del (i := 0) (by decide) (js := [j]) (by simpa using hj) w1 w7 w8 w9 w10
    have hfr : ∀ t : Tag, t.ok → t ≠ .O 2 → t ≠ .O 0 → @Ne Nat (adr k st t) a2 ∧ @Ne Nat (adr k st t) ak := by
      intro t ht t2 tq
      cases hc : chC 0 t with
      | false => exact w11 (ent w k st t) (by iterate 11 (refine List.Mem.tail _ ?_)
                                              exact List.mem_append_right _ (List.mem_append_left _ (List.mem_map_of_mem (List.mem_filter.mpr ⟨mem_tags ht, by rw [hc]; rfl⟩))))
      | true =>
        cases t with
        | lO => exact w11 (k.lO, _) (.tail _ (.head _))
        | D x =>
          by_cases e : x = 2
          · subst e; exact w11 ((k.rp 2).D, oA') (by k_mem)
          · by_cases e' : x = 0
            · subst e'; exact w11 ((k.rp 0).D, oL') (by k_mem)
            · exact absurd hc (by rw [chC_D.mpr ⟨e, e'⟩]; decide)
        | O x =>
          by_cases e : x = 2
          · subst e; exact absurd rfl t2
          · by_cases e' : x = 0
            · subst e'; exact absurd rfl tq
            · exact absurd hc (by rw [chC_O.mpr ⟨e, e'⟩]; decide)
        | _ => cases hc
    have hoo : ∀ p ∈ own, @Ne Nat p.1 a2 ∧ @Ne Nat p.1 ak := fun p hp => w11 p (by iterate 11 (refine List.Mem.tail _ ?_)
                                                                                   exact List.mem_append_right _ (List.mem_append_right _ hp))
    obtain ⟨q1, q2⟩ := del_done inv (q := 0) (by decide) iq i2 w12 hfr hoo hown
    refine hQ h' tk m' _ q1 hm' F' (del_news N' (by decide) ⟨rfl, rfl, rfl⟩ ⟨rfl, rfl, rfl⟩ (fun p hp => ?_) (by k_mem) (by k_mem) (by k_mem) (by k_mem) (by k_mem)) q2
    iterate 13 (refine List.Mem.tail _ ?_)
    exact List.mem_append_right _ hp
  ·
    have NN := news_split (ch := chC 1) (small := [Tag.c3, .lM, .lO, .O 2, .O 1, .g2, .gd2, .R 2, .RD 2, .D 2, .R 1, .RD 1, .D 1, .M 0, .M 1, .M 2, .M 3].map (ent w k st)) N (ents_mem _ (by simp [Tag.ok]))
    have nA := nes inv.inj [Tag.c3, .lM, .lO, .O 2, .O 1, .g2, .gd2, .R 2, .RD 2, .R 1, .RD 1, .D 1] (.D 2) (by show _ < 3; decide) (by simp [Tag.ok])
    have nL := nes inv.inj [Tag.c3, .lM, .lO, .O 2, .O 1, .g2, .gd2, .R 2, .RD 2, .D 2, .R 1, .RD 1] (.D 1) (by show _ < 3; decide) (by simp [Tag.ok])
    have nO := nes inv.inj [Tag.c3, .lM, .O 2, .O 1, .g2, .gd2, .R 2, .RD 2, .D 2, .R 1, .RD 1, .D 1] (.lO) trivial (by simp [Tag.ok])
    have mA : ∀ p ∈ msL (msK k), @Ne Nat p.1 (adr k st (.D 2)) := fun p hp => nes inv.inj [Tag.M 0, .M 1, .M 2, .M 3] (.D 2) (by show _ < 3; decide) (by simp [Tag.ok]) p.1 (List.mem_map_of_mem (f := Prod.fst) hp)
    have mL : ∀ p ∈ msL (msK k), @Ne Nat p.1 (adr k st (.D 1)) := fun p hp => nes inv.inj [Tag.M 0, .M 1, .M 2, .M 3] (.D 1) (by show _ < 3; decide) (by simp [Tag.ok]) p.1 (List.mem_map_of_mem (f := Prod.fst) hp)
    have mO : ∀ p ∈ msL (msK k), @Ne Nat p.1 (adr k st .lO) := fun p hp => nes inv.inj [Tag.M 0, .M 1, .M 2, .M 3] .lO trivial (by simp [Tag.ok]) p.1 (List.mem_map_of_mem (f := Prod.fst) hp)
    have rA := rest_ne (w := w) (ch := chC 1) inv.inj (.D 2) (by show _ < 3; decide) (by simp [chC]) (fun p hp => hown p hp (.D 2) (by show _ < 3; decide))
    have rL := rest_ne (w := w) (ch := chC 1) inv.inj (.D 1) (by show _ < 3; decide) (by simp [chC]) (fun p hp => hown p hp (.D 1) (by show _ < 3; decide))
    have rO := rest_ne (w := w) (ch := chC 1) inv.inj .lO trivial (by simp [chC]) (fun p hp => hown p hp .lO trivial)
    have hst := inv.ok 1 (by decide)
    have hst2 := inv.ok 2 (by decide)
    have lq := hst.lenO
    have l2 := hst2.lenO
    refine deed_rem (k := 1) (vsf := fun a b => [.ref (st 0).O, .ref b, .ref a]) (rA := k.rp 2) (rL := k.rp 1) (ms := msK k) (rest := restOf w k st (chC 1) own) w mean mg mb hlk hb B X T F NN sta.k3 (by decide) (Or.inr ⟨rfl, rfl, rfl⟩) (by show 4 ≤ 64; decide) (at_M k hj) (ms_mem k hj) (fun _ _ => rfl) (fun _ _ => rfl) (fun _ _ => rfl) (fun _ _ _ => rfl) (fun _ _ _ => rfl)
      hst2.2.1 hst2.2.2.1 (by omega) hst2.2.2.2.2.2.2.2.2 hst.2.1 hst.2.2.1 (by omega) hst.2.2.2.2.2.2.2.2 hst.1 hst2.1 (kvsOk_of hst (by omega)) (kvsOk_of hst2 (by omega)) (sta.loD 1 (by decide)) (sta.loD 2 (by decide)) nA mA rA nL mL rL nO mO rO ?_ hE
    intro h' tk m' oA' oL' a2 p2 kv2 ak pk kvk w1 w2 w3 w4 w5 w6 w7 w8 w9 w10 w11 w12 hm' F' N'
    have i2 := inv.del (i := 2) (by decide) (js := [j]) (by simpa using hj) w2 w3 w4 w5 w6
    have iq := inv.del (i := 1) (by decide) (js := [j]) (by simpa using hj) w1 w7 w8 w9 w10
    have hfr : ∀ t : Tag, t.ok → t ≠ .O 2 → t ≠ .O 1 → @Ne Nat (adr k st t) a2 ∧ @Ne Nat (adr k st t) ak := by
      intro t ht t2 tq
      cases hc : chC 1 t with
      | false => exact w11 (ent w k st t) (by iterate 11 (refine List.Mem.tail _ ?_)
                                              exact List.mem_append_right _ (List.mem_append_left _ (List.mem_map_of_mem (List.mem_filter.mpr ⟨mem_tags ht, by rw [hc]; rfl⟩))))
      | true =>
        cases t with
        | lO => exact w11 (k.lO, _) (.tail _ (.head _))
        | D x =>
          by_cases e : x = 2
          · subst e; exact w11 ((k.rp 2).D, oA') (by k_mem)
          · by_cases e' : x = 1
            · subst e'; exact w11 ((k.rp 1).D, oL') (by k_mem)
            · exact absurd hc (by rw [chC_D.mpr ⟨e, e'⟩]; decide)
        | O x =>
          by_cases e : x = 2
          · subst e; exact absurd rfl t2
          · by_cases e' : x = 1
            · subst e'; exact absurd rfl tq
            · exact absurd hc (by rw [chC_O.mpr ⟨e, e'⟩]; decide)
        | _ => cases hc
    have hoo : ∀ p ∈ own, @Ne Nat p.1 a2 ∧ @Ne Nat p.1 ak := fun p hp => w11 p (by iterate 11 (refine List.Mem.tail _ ?_)
                                                                                   exact List.mem_append_right _ (List.mem_append_right _ hp))
    obtain ⟨q1, q2⟩ := del_done inv (q := 1) (by decide) iq i2 w12 hfr hoo hown
    refine hQ h' tk m' _ q1 hm' F' (del_news N' (by decide) ⟨rfl, rfl, rfl⟩ ⟨rfl, rfl, rfl⟩ (fun p hp => ?_) (by k_mem) (by k_mem) (by k_mem) (by k_mem) (by k_mem)) q2
    iterate 13 (refine List.Mem.tail _ ?_)
    exact List.mem_append_right _ hp
end
end Mine
end Mine
end

section
open PySem PySem.W PySem.Calls PyProof.Rows
theorem Mine.off_M16 {M : Model} {A : Around} {E : Value → Shared → Prop} {s : Shared} {Q : Flow → Shared → Prop} {env : Env} (h : Q .next s) : wpAny M A (execs [] env) Q E s := by
  w_top off
  try walk1
  first
    | exact h
    | exact wpAny_execs_nil h
end
section
open PySem PySem.W PySem.Calls PyProof.Rows Builtin Builtin.ObjectAttr
namespace Mine
namespace Mine

local macro_rules | `(tactic| k_room) => `(tactic| exact Nat.le_of_ble_eq_true rfl)
section
variable (w : World) (mean : ExcName → Option Value) (mg mb : Str → Option Value)

theorem do_rems {oc : Value} {od : Option Addr} {qual : Str} {params : Arguments} {body : List Stmt} {scope : Scope} {dV kV doc pm cdv ct : Value} {an : Option Addr} {osl : Array (Option Value)}
    (hlk : (hd.heap_39 w.params).lookup 226 = some ⟨oc, od, .func (fnOf (Str.ofString "law") qual params body scope dV kV doc pm an cdv ct), osl⟩)
    {s1 s2 s3 s4 s5 b1 b2 u1 : Stmt} {brest srest thA thB thC fb els2 els : List Stmt} {tgt it tg2 it2 ca cb cc : Expr} {fp pa pb pc fp2 : Pos}
    (hb : body = s1 :: s2 :: s3 :: s4 :: s5 :: .For tgt it (b1 :: b2 :: .If ca thA [.If cb thB [.If cc thC [u1, .For tg2 it2 fb els2 fp2] pc] pb] pa :: brest) els fp :: srest) 
    {fa : Addr} {cd : Value} {g : Heap} {S : Addr} {k : Stat} {st : Nat → RepSt} {n i j : Nat} {ti tj tw : Tok} {way : Int} {own : List (Addr × Obj)}
    {s : Shared} {m : Str → Option Value} {Q : Flow → Shared → Prop} {E : Value → Shared → Prop}
    (B : Below callerA g [] g) (X : (hd.heap_39 w.params).In g) (T : Top hd.view_39 (looseW hd.view_39 [Str.ofString "TextXObject"]) mean mg mb g)
    (sta : Sta w k) (inv : Inv w k n st) (hn : n ≤ 20) (hi : i < 3) (hj : j < 4)
        (F : Fr g k.L s.heap (fun z => if z = Str.ofString "way" then some (.int way tw) else if z = Str.ofString "model" then some (.int (j : Int) tj) else if z = Str.ofString "spot" then some (.int (i : Int) ti) else lm S k.lF k.G1 k.G2 k.lM k.lC m z))
    (N : News g k.L s.heap (own ++ led w k st)) (hown : ∀ p ∈ own, ∀ t : Tag, t.ok → @Ne Nat p.1 (adr k st t))
    (hQ : ∀ h' tk m' st', Inv w k (n + 1) st' → HasLm S k.lF k.G1 k.G2 k.lM k.lC m' → Fr g k.L h' m' → News g k.L h' (own ++ led w k st') → (∀ p ∈ own, ∀ t : Tag, t.ok → @Ne Nat p.1 (adr k st' t)) → Q .next { s with heap := h', toks := tk })
    (hE : PassesOwn (model PySem.Challenge.rw_ez0369_01.row.prog w) (callerA.deeper (envOfC qual scope k.L fa cd)) (envOfC qual scope k.L fa cd) E) :
    wpAny (model PySem.Challenge.rw_ez0369_01.row.prog w) (callerA.deeper (envOfC qual scope k.L fa cd)) (execs [u1, .For tg2 it2 fb els2 fp2] (envOfC qual scope k.L fa cd)) Q E s := by
  have NN := news_split (ch := chC 0) (small := [Tag.c3, .lM, .lO, .O 2, .O 0, .g1, .gd1, .R 2, .RD 2, .D 2, .R 0, .RD 0, .D 0, .M 0, .M 1, .M 2, .M 3].map (ent w k st)) N (ents_mem _ (by simp [Tag.ok]))
  have nA := nes inv.inj [Tag.c3, .lM, .lO, .O 2, .O 0, .g1, .gd1, .R 2, .RD 2, .R 0, .RD 0, .D 0] (.D 2) (by show _ < 3; decide) (by simp [Tag.ok])
  have nL := nes inv.inj [Tag.c3, .lM, .lO, .O 2, .O 0, .g1, .gd1, .R 2, .RD 2, .D 2, .R 0, .RD 0] (.D 0) (by show _ < 3; decide) (by simp [Tag.ok])
  have nO := nes inv.inj [Tag.c3, .lM, .O 2, .O 0, .g1, .gd1, .R 2, .RD 2, .D 2, .R 0, .RD 0, .D 0] (.lO) trivial (by simp [Tag.ok])
  have mA : ∀ p ∈ msL (msK k), @Ne Nat p.1 (adr k st (.D 2)) := fun p hp => nes inv.inj [Tag.M 0, .M 1, .M 2, .M 3] (.D 2) (by show _ < 3; decide) (by simp [Tag.ok]) p.1 (List.mem_map_of_mem (f := Prod.fst) hp)
  have mL : ∀ p ∈ msL (msK k), @Ne Nat p.1 (adr k st (.D 0)) := fun p hp => nes inv.inj [Tag.M 0, .M 1, .M 2, .M 3] (.D 0) (by show _ < 3; decide) (by simp [Tag.ok]) p.1 (List.mem_map_of_mem (f := Prod.fst) hp)
  have mO : ∀ p ∈ msL (msK k), @Ne Nat p.1 (adr k st .lO) := fun p hp => nes inv.inj [Tag.M 0, .M 1, .M 2, .M 3] .lO trivial (by simp [Tag.ok]) p.1 (List.mem_map_of_mem (f := Prod.fst) hp)
  have rA := rest_ne (w := w) (ch := chC 0) inv.inj (.D 2) (by show _ < 3; decide) (by simp [chC]) (fun p hp => hown p hp (.D 2) (by show _ < 3; decide))
  have rL := rest_ne (w := w) (ch := chC 0) inv.inj (.D 0) (by show _ < 3; decide) (by simp [chC]) (fun p hp => hown p hp (.D 0) (by show _ < 3; decide))
  have rO := rest_ne (w := w) (ch := chC 0) inv.inj .lO trivial (by simp [chC]) (fun p hp => hown p hp .lO trivial)
  have hst := inv.ok 0 (by decide)
  have hst2 := inv.ok 2 (by decide)
  have lq := hst.lenO
  have l2 := hst2.lenO
  refine deed_rems (rA := k.rp 2) (rL := k.rp 0) (ms := msK k) (rest := restOf w k st (chC 0) own) w mean mg mb hlk hb B X T F NN sta.k3 (by show 4 ≤ 64; decide) (at_M k hj) (ms_mem k hj) (ms_mem k (j := 0) (by decide))
    hst2.2.1 hst2.2.2.1 (by omega) hst2.2.2.2.2.2.2.2.2 hst.2.1 hst.2.2.1 (by omega) hst.2.2.2.2.2.2.2.2 hst.1 hst2.1 (kvsOk_of hst (by omega)) (kvsOk_of hst2 (by omega)) (sta.loD 0 (by decide)) (sta.loD 2 (by decide)) nA mA rA nL mL rL nO mO rO ?_ hE
  intro h' tk m' oA' oL' a2 p2 kv2 ak pk kvk w1 w2 w3 w4 w5 w6 w7 w8 w9 w10 w11 w12 hm' F' N'
  have i2 := inv.del (i := 2) (by decide) (js := [0, j]) (by simpa using hj) w2 w3 w4 w5 w6
  have iq := inv.del (i := 0) (by decide) (js := [0, j]) (by simpa using hj) w1 w7 w8 w9 w10
  have hfr : ∀ t : Tag, t.ok → t ≠ .O 2 → t ≠ .O 0 → @Ne Nat (adr k st t) a2 ∧ @Ne Nat (adr k st t) ak := by
    intro t ht t2 tq
    cases hc : chC 0 t with
    | false => exact w11 (ent w k st t) (by iterate 11 (refine List.Mem.tail _ ?_)
                                            exact List.mem_append_right _ (List.mem_append_left _ (List.mem_map_of_mem (List.mem_filter.mpr ⟨mem_tags ht, by rw [hc]; rfl⟩))))
    | true =>
      cases t with
      | lO => exact w11 (k.lO, _) (.tail _ (.head _))
      | D x =>
        by_cases e : x = 2
        · subst e; exact w11 ((k.rp 2).D, oA') (by k_mem)
        · by_cases e' : x = 0
          · subst e'; exact w11 ((k.rp 0).D, oL') (by k_mem)
          · exact absurd hc (by rw [chC_D.mpr ⟨e, e'⟩]; decide)
      | O x =>
        by_cases e : x = 2
        · subst e; exact absurd rfl t2
        · by_cases e' : x = 0
          · subst e'; exact absurd rfl tq
          · exact absurd hc (by rw [chC_O.mpr ⟨e, e'⟩]; decide)
      | _ => cases hc
  have hoo : ∀ p ∈ own, @Ne Nat p.1 a2 ∧ @Ne Nat p.1 ak := fun p hp => w11 p (by iterate 11 (refine List.Mem.tail _ ?_)
                                                                                 exact List.mem_append_right _ (List.mem_append_right _ hp))
  obtain ⟨q1, q2⟩ := del_done inv (q := 0) (by decide) iq i2 w12 hfr hoo hown
  refine hQ h' tk m' _ q1 hm' F' (del_news N' (by decide) ⟨rfl, rfl, rfl⟩ ⟨rfl, rfl, rfl⟩ (fun p hp => ?_) (by k_mem) (by k_mem) (by k_mem) (by k_mem) (by k_mem)) q2
  iterate 13 (refine List.Mem.tail _ ?_)
  exact List.mem_append_right _ hp
end
end Mine
end Mine
end

section
open PySem PySem.W PySem.Calls PyProof.Rows
theorem Mine.off_M17 {M : Model} {A : Around} {E : Value → Shared → Prop} {s : Shared} {Q : Flow → Shared → Prop} {env : Env} (h : Q .next s) : wpAny M A (execs [] env) Q E s := by
  w_top off
  try walk1
  first
    | exact h
    | exact wpAny_execs_nil h
end
section
open PySem PySem.W PySem.Calls PyProof.Rows Builtin Builtin.ObjectAttr
namespace Mine
namespace Mine

local macro_rules | `(tactic| k_room) => `(tactic| exact Nat.le_of_ble_eq_true rfl)
theorem mods_ok {w : World} {k : Stat} {n : Nat} {a : RepSt} (sta : Sta w k) (h : StOk w k n a) : ModsOk w (raF k) [k.mr 0, k.mr 1, k.mr 2, k.mr 3] a.l := by
  intro p hp
  obtain ⟨-, -, y1, y2⟩ := h.2.2.2.2.1 p hp
  obtain ⟨j, hj⟩ := Int.eq_ofNat_of_zero_le y1
  have hj4 : j < 4 := by omega
  refine ⟨k.mr j, ?_, ?_, ?_⟩
  · rcases four hj4 with rfl | rfl | rfl | rfl <;> simp
  · show (k.mr p.2.toNat).M = _
    rw [hj]; rfl
  · rw [hj]; exact (sta.mr j hj4).1

theorem modsL_led {w : World} {k : Stat} {st : Nat → RepSt} : ∀ p ∈ modsL w [k.mr 0, k.mr 1, k.mr 2, k.mr 3], p ∈ led w k st :=
  ents_mem [Tag.M 0, .MD 0, .MF 0, .M 1, .MD 1, .MF 1, .M 2, .MD 2, .MF 2, .M 3, .MD 3, .MF 3] (by simp [Tag.ok])

section
variable (w : World) (mean : ExcName → Option Value) (mg mb : Str → Option Value)

theorem law_turn {oc : Value} {od : Option Addr} {qual : Str} {params : Arguments} {body : List Stmt} {scope : Scope} {dV kV doc pm cdv ct : Value} {an : Option Addr} {osl : Array (Option Value)}
    (hlk : (hd.heap_39 w.params).lookup 226 = some ⟨oc, od, .func (fnOf (Str.ofString "law") qual params body scope dV kV doc pm an cdv ct), osl⟩)
    {s1 s2 s3 s4 s5 b1 b2 u1 v1 : Stmt} {brest srest thA thB fb fb3 els2 els3 els : List Stmt} {tgt it tg2 it2 tg3 it3 ca cb cc : Expr} {fp pa pb pc fp2 fp3 : Pos}
    (hb : body = s1 :: s2 :: s3 :: s4 :: s5 :: .For tgt it (b1 :: b2 :: .If ca thA [.If cb thB [.If cc [u1, .For tg2 it2 fb els2 fp2] [v1, .For tg3 it3 fb3 els3 fp3] pc] pb] pa :: brest) els fp :: srest) 
    {fa : Addr} {cd : Value} {g : Heap} {S : Addr} {k : Stat} {st : Nat → RepSt} {n : Nat} {a : Int} {ta : Tok} {vs : List Value} {ns : List Int} {own : List (Addr × Obj)}
    {s : Shared} {m : Str → Option Value} {Q : Flow → Shared → Prop} {E : Value → Shared → Prop}
    (B : Below callerA g [] g) (X : (hd.heap_39 w.params).In g) (T : Top hd.view_39 (looseW hd.view_39 [Str.ofString "TextXObject"]) mean mg mb g)
    (hL : g.IsList S vs.toArray) (hI : IntsAre vs ns) (h63 : ns.length ≤ 63) (ha : 0 ≤ a) (ha2 : a ≤ 1000)
    (sta : Sta w k) (inv : Inv w k n st) (hn : n ≤ 20)
    (F : Fr g k.L s.heap (fun y => if y = Str.ofString "at" then some (.int a ta) else lm S k.lF k.G1 k.G2 k.lM k.lC m y))
    (N : News g k.L s.heap (own ++ led w k st)) (hown : ∀ p ∈ own, ∀ t : Tag, t.ok → @Ne Nat p.1 (adr k st t))
    (hQ : ∀ h' tk m' st', Inv w k (n + 1) st' → HasLm S k.lF k.G1 k.G2 k.lM k.lC m' → Fr g k.L h' m' → News g k.L h' (own ++ led w k st') → (∀ p ∈ own, ∀ t : Tag, t.ok → @Ne Nat p.1 (adr k st' t)) → Q .next { s with heap := h', toks := tk })
    (hE : PassesOwn (model PySem.Challenge.rw_ez0369_01.row.prog w) (callerA.deeper (envOfC qual scope k.L fa cd)) (envOfC qual scope k.L fa cd) E) :
    wpAny (model PySem.Challenge.rw_ez0369_01.row.prog w) (callerA.deeper (envOfC qual scope k.L fa cd)) (execs (b1 :: b2 :: .If ca thA [.If cb thB [.If cc [u1, .For tg2 it2 fb els2 fp2] [v1, .For tg3 it3 fb3 els3 fp3] pc] pb] pa :: brest) (envOfC qual scope k.L fa cd)) Q E s := by
  refine law_head w mean mg mb hlk hb B X T hL hI h63 ha ha2 F N ?_
  intro i j way ti tj tw h1 tk1 m1 hi hj hw0 hw8 F1 N1
  have chk : ∀ h' tk m' st', Inv w k (n + 1) st' → HasLm S k.lF k.G1 k.G2 k.lM k.lC m' → Fr g k.L h' m' → News g k.L h' (own ++ led w k st') → (∀ p ∈ own, ∀ t : Tag, t.ok → @Ne Nat p.1 (adr k st' t)) →
      wpAny (model PySem.Challenge.rw_ez0369_01.row.prog w) (callerA.deeper (envOfC qual scope k.L fa cd)) (execs brest (envOfC qual scope k.L fa cd)) Q E { s with heap := h', toks := tk } := by
    intro h' tk m' st' inv' hm' F' N' hown'
    have NN : News g k.L h' ((k.L + 1 + 1, k.c2) :: (k.L + 1 + 1 + 1, k.c3) :: (k.lS, W.listOf (vsS k).toArray k.nS) :: (k.lO, W.listOf (vsO st').toArray k.nO) :: (own ++ led w k st')) := by
      refine newsPerm N' (List.forall_mem_cons.mpr ⟨List.mem_append_right _ (mem_led (t := .c2) trivial), List.forall_mem_cons.mpr ⟨List.mem_append_right _ (mem_led (t := .c3) trivial), List.forall_mem_cons.mpr ⟨List.mem_append_right _ (mem_led (t := .lS) trivial), List.forall_mem_cons.mpr ⟨List.mem_append_right _ (mem_led (t := .lO) trivial), fun p hp => hp⟩⟩⟩⟩)
    refine law_check w mean mg mb hlk hb B X T F' NN sta.k2 sta.k3 (by show 3 ≤ 64; decide) (by show 3 ≤ 64; decide) ?_ ?_
    · intro q hq
      have hok := inv'.ok q hq
      obtain ⟨e1, e2, e3, e4, e5, e6, e7, e8, e9⟩ := id hok
      refine ⟨(k.rp q).R, (st' q).O, _, at_S k hq, at_O st' hq, ?_, con_told w mean mg mb (k.rp q).R (k.rp q).RD (k.rp q).D (st' q).O (st' q).c (st' q).tc (k.rp q).t1 (k.rp q).t2 (st' q).oD (st' q).oO (st' q).kvsO (raF k) (st' q).l [k.mr 0, k.mr 1, k.mr 2, k.mr 3] e1 e2 e3 e4 (by omega) (sta.loD q hq) e9 (mods_ok sta hok)⟩
      intro p hp
      refine List.mem_append_right _ ?_
      rcases List.mem_append.mp hp with hp | hp
      · exact ents_mem [Tag.R q, .RD q, .D q] (by simp [Tag.ok, hq]) p hp
      · rcases List.mem_cons.mp hp with rfl | hp
        · exact mem_led (t := .O q) hq
        · exact modsL_led p hp
    · intro h2 tk2 F2 N2
      exact hQ h2 tk2 m' st' inv' hm' F2 (newsTail (newsTail (newsTail (newsTail N2)))) hown'
  refine wpAny_execs_cons ?_
  refine law_ifs w mean mg mb hlk hb B X T F1 N1 (fun _ tk => ?_) (fun q1 q2 tk => ?_) (fun q1 q2 tk => ?_) (fun q1 tk => ?_)
  · exact do_add w mean mg mb hlk hb B X T sta inv hn hi hj (fr_ms F1 rfl rfl ⟨rfl, rfl, rfl, rfl, rfl, rfl⟩) N1 hown chk
  · exact do_set w mean mg mb hlk hb B X T sta inv hn hi hj (by omega) F1 N1 hown chk
  · exact do_rem w mean mg mb hlk hb B X T sta inv hn hi hj (by omega) F1 N1 hown chk hE
  · exact do_rems w mean mg mb hlk hb B X T sta inv hn hi hj F1 N1 hown chk hE
end
end Mine
end Mine
end

section
open PySem PySem.W PySem.Calls PyProof.Rows
theorem Mine.off_M18 {M : Model} {A : Around} {E : Value → Shared → Prop} {s : Shared} {Q : Flow → Shared → Prop} {env : Env} (h : Q .next s) : wpAny M A (execs [] env) Q E s := by
  w_top off
  try walk1
  first
    | exact h
    | exact wpAny_execs_nil h
end
section
open PySem PySem.W PySem.Calls PyProof.Rows Builtin Builtin.ObjectAttr
namespace Mine
namespace Mine

local macro_rules | `(tactic| k_room) => `(tactic| exact Nat.le_of_ble_eq_true rfl)
local macro_rules | `(tactic| k_all) => `(tactic| assumption)

theorem Inv.mono {w : World} {k : Stat} {n n' : Nat} {st : Nat → RepSt} (h : Inv w k n st) (hn : n ≤ n') : Inv w k n' st := ⟨h.inj, fun i hi => (h.ok i hi).mono hn⟩

theorem fr_at {g h : Heap} {L S lF G1 G2 lM lC : Addr} {m : Str → Option Value} {v : Option Value} (F : Fr g L h (fun y => if y = Str.ofString "at" then v else m y)) (hm : HasLm S lF G1 G2 lM lC m) : Fr g L h (fun y => if y = Str.ofString "at" then v else lm S lF G1 G2 lM lC m y) := by
  have e : (fun y => if y = Str.ofString "at" then v else m y) = fun y => if y = Str.ofString "at" then v else lm S lF G1 G2 lM lC m y := by
    funext y
    rw [← congrFun hm.eq y]
  exact e ▸ F

section
variable {prog : Program} {w : World} {A : Around} {E : Value → Shared → Prop} {s : Shared} {h₀ : Heap} {m : Str → Option Value} {news : List (Addr × Obj)} {env : Env}
theorem range_loopU {x : Str} {body : List Stmt} {r : Addr} {b : Int} {t u v : Tok} {n : Nat} {Q : Flow → Shared → Prop} (hh : A.handled = none) (F : Fr h₀ env.locals s.heap m) (N : News h₀ env.locals s.heap news) (hr : IsRange s.heap r 1 b 1 t u v) (hb : b = (n : Int) + 1) (hn : n ≤ 64)
    (J : Nat → (Str → Option Value) → List (Addr × Obj) → Prop) (h0 : J 0 m news)
    (step : ∀ (i : Nat) (t : Tok) (m₁ : Str → Option Value) (nw own : List (Addr × Obj)) (s₁ : Shared) (I : Addr), i < n → J i m₁ nw → (∀ p ∈ nw, p.1 ≠ I) → (∀ p ∈ own, p.1 = I) → (∃ o, (I, o) ∈ own) →
      Fr h₀ env.locals s₁.heap (fun y => if y = x then some (.int ((i : Int) + 1) t) else m₁ y) → News h₀ env.locals s₁.heap (own ++ nw) →
      wpAny (model prog w) A (execs body env) (LoopStepU h₀ env.locals [I] own (J (i + 1)) s₁) E s₁)
    (done : ∀ h' tk m' nw, J n m' nw → Fr h₀ env.locals h' m' → News h₀ env.locals h' nw → Q .next { s with heap := h', toks := tk }) :
    wpAny (model prog w) A (pyIter (.ref r)) (fun it s₂ => LoopAtU prog w A h₀ env x body Q E it s₂) E s := by
  subst hb
  have e0 : Builtin.Range.rangeSize 1 ((n : Int) + 1) 1 = (n : Int) := by
    unfold Builtin.Range.rangeSize
    simp
    intro h; omega
  refine wpAny_pyIter_range hr ?_ ?_
  · unfold Builtin.Range.small
    rw [e0]
    unfold Builtin.Range.rangeFitsLong
    simp
    omega
  · rw [e0]
    have up : ∀ b ob, s.heap.get? b = some ob → (s.heap.push { cls := .type "range_iterator", data := .fields #[rawInt 1, rawInt (n : Int), rawInt 1] }).get? b = some ob := fun b ob e => Heap.get?_push_of_some _ e
    have W := Walks.range (prog := prog) (w := w) hh s.heap.objs.size 1 1 n
    refine ⟨s.heap.objs.size, _, _, _, _, _, m, news, J, rfl, W, ?_, ?_, ?_, ?_, F.keeps up, N.grown up, h0, ?_, ?_⟩
    · intro q; exact Nat.ne_of_lt F.ns.lt (List.mem_singleton.mp q)
    · intro b hb; rw [List.mem_singleton.mp hb]; exact next_is_new F
    · intro p hp hb
      exact Nat.ne_of_lt (Heap.lt_size (N p hp).1) (List.mem_singleton.mp hb)
    · show _ = _
      simp
      exact Heap.get?_push_size _ rfl
    · intro i v m₁ nw s₁ own hi hx hJ hoff hfp _ hall hst F₁ N₁
      obtain ⟨t, rfl⟩ := hx
      refine step i t m₁ nw own s₁ _ hi hJ (fun p hp e => hoff p hp (List.mem_singleton.mpr e)) (fun p hp => List.mem_singleton.mp (hfp p hp)) ⟨_, hall _ (.head _) (next_is_new F) _ hst⟩ ?_ N₁
      have e1 : (1 : Int) + (i : Int) * 1 = (i : Int) + 1 := by omega
      rw [e1] at F₁
      exact F₁
    · intro h' tk m' nw F₁ N₁ _ hJ
      exact done h' tk m' nw hJ F₁ N₁
end

section
variable (w : World) (mean : ExcName → Option Value) (mg mb : Str → Option Value)

theorem law_loop {oc : Value} {od : Option Addr} {qual : Str} {params : Arguments} {body : List Stmt} {scope : Scope} {dV kV doc pm cdv ct : Value} {an : Option Addr} {osl : Array (Option Value)}
    (hlk : (hd.heap_39 w.params).lookup 226 = some ⟨oc, od, .func (fnOf (Str.ofString "law") qual params body scope dV kV doc pm an cdv ct), osl⟩)
    {s1 s2 s3 s4 s5 : Stmt} {srest lb els : List Stmt} {tgt it : Expr} {fp : Pos}
    (hb : body = s1 :: s2 :: s3 :: s4 :: s5 :: .For tgt it lb els fp :: srest) 
    {fa : Addr} {cd : Value} {g : Heap} {S : Addr} {k : Stat} {st : Nat → RepSt} {vs : List Value} {ns : List Int}
    {s : Shared} {m : Str → Option Value} {Q : Flow → Shared → Prop} {E : Value → Shared → Prop}
    (B : Below callerA g [] g) (X : (hd.heap_39 w.params).In g) (T : Top hd.view_39 (looseW hd.view_39 [Str.ofString "TextXObject"]) mean mg mb g)
    (hL : g.IsList S vs.toArray) (hI : IntsAre vs ns) (h63 : ns.length ≤ 63)
    (sta : Sta w k) (inv : Inv w k 0 st)
    (F : Fr g k.L s.heap (lm S k.lF k.G1 k.G2 k.lM k.lC m)) (N : News g k.L s.heap (led w k st))
    (hQ : ∀ h' tk m' st', Inv w k 20 st' → HasLm S k.lF k.G1 k.G2 k.lM k.lC m' → Fr g k.L h' m' → News g k.L h' (led w k st') → Q .next { s with heap := h', toks := tk })
    (hE : PassesOwn (model PySem.Challenge.rw_ez0369_01.row.prog w) (callerA.deeper (envOfC qual scope k.L fa cd)) (envOfC qual scope k.L fa cd) E) :
    wpAny (model PySem.Challenge.rw_ez0369_01.row.prog w) (callerA.deeper (envOfC qual scope k.L fa cd)) (exec (.For tgt it lb els fp) (envOfC qual scope k.L fa cd)) Q E s := by
  have hlk0 := hlk
  have hb0 := hb
  revert hlk
  k_fill
  intro hlk
  have e := look_eq (by k_is) hlk
  simp only [fnOf, fnX, Obj.mk.injEq, Data.func.injEq, FuncData.mk.injEq] at e
  obtain ⟨-, rfl, -, e4, rfl, -⟩ := e
  cases e4
  clear hlk
  simp only [List.cons.injEq, Stmt.For.injEq] at hb
  obtain ⟨-, -, -, -, -, ⟨rfl, rfl, rfl, rfl, rfl⟩, -⟩ := hb
  unfold lm at F
  refine For_invU g rfl rfl ?_ (by intro _; rfl) hE
  iterate 31 walk1
  dsimp only
  (rename Fr _ _ _ _ => F1); (rename News _ _ _ _ => N1); (rename IsRange _ _ _ _ _ _ _ _ => hR)
  obtain ⟨b, hb4, hb11, hR⟩ : ∃ b : Int, 4 ≤ b ∧ b ≤ 11 ∧ IsRange _ _ 1 b 1 _ _ _ := by
    refine ⟨_, ?_, ?_, hR⟩
    · (repeat' split) <;> omega
    · (repeat' split) <;> omega
  obtain ⟨n, hn⟩ := Int.eq_ofNat_of_zero_le (a := b - 1) (by omega)
  refine range_loopU (n := n) rfl F1 N1 hR (by omega) (by omega) (fun i m' nw => HasLm S k.lF k.G1 k.G2 k.lM k.lC m' ∧ ∃ st', Inv w k i st' ∧ nw = led w k st') ⟨⟨rfl, rfl, rfl, rfl, rfl, rfl⟩, st, inv, rfl⟩ ?_ ?_
  · rintro i t m₁ nw own s₁ I hi ⟨hm, st₁, inv₁, rfl⟩ hoff hown ⟨oI, hI⟩ F₁ N₁
    refine law_turn w mean mg mb hlk0 hb0 B X T hL ‹IntsAre vs ns› h63 (by omega) (by omega) sta inv₁ (by omega) (fr_at F₁ hm) N₁ (fun p hp t ht e => hoff _ (mem_led ht) (by rw [hown p hp] at e; exact e.symm)) ?_ hE
    intro h' tk m' st' inv' hm' F' N' hown'
    exact LoopStepU.intro F' N' (fun p hp q => by
      obtain ⟨t, ht, rfl⟩ := led_mem hp
      exact hown' (I, oI) hI t ht (List.mem_singleton.mp q).symm) ⟨hm', st', inv', rfl⟩
  · rintro h' tk m' nw ⟨hm, st₁, inv₁, rfl⟩ F₁ N₁
    exact hQ h' tk m' st₁ (inv₁.mono (by omega)) hm F₁ N₁
end
end Mine
end Mine
end

section
open PySem PySem.W PySem.Calls PyProof.Rows
theorem Mine.off_M19 {M : Model} {A : Around} {E : Value → Shared → Prop} {s : Shared} {Q : Flow → Shared → Prop} {env : Env} (h : Q .next s) : wpAny M A (execs [] env) Q E s := by
  w_top off
  try walk1
  first
    | exact h
    | exact wpAny_execs_nil h
end
section
open PySem PySem.W PySem.Calls PyProof.Rows Builtin Builtin.ObjectAttr
namespace Mine
namespace Mine

local macro_rules | `(tactic| k_room) => `(tactic| exact Nat.le_of_ble_eq_true rfl)
local macro_rules | `(tactic| k_all) => `(tactic| assumption)

structure Sta2 (w : World) (k : Stat) (u1 u2 u3 u4 : Tok) (l d : Addr) : Prop where
  k1 : k.c1.data = .cell (some (.ref k.kd))
  kd : k.okd = instObj 52 k.kD
  kD : k.okD = dictOf (kdEs w u1 u2 u3 u4 l d) 3
  mkd : (k.mr 0).kd = k.kd

/-- the object `beside` and its two dicts -/
abbrev besL (w : World) (BS BD BF kd : Addr) (t1 t2 : Tok) (oB : Obj) : List (Addr × Obj) := modL w BS BD BF kd t1 t2 oB

theorem newsDrop4 {g h : Heap} {L : Addr} {a b c d : Addr × Obj} {news : List (Addr × Obj)} (N : News g L h (a :: b :: c :: d :: news)) : News g L h ([a, b, c] ++ news) := fun p hp => N p (by
  simp only [List.mem_cons, List.mem_append, List.not_mem_nil, or_false] at hp ⊢
  rcases hp with (h | h | h) | h <;> simp [h])

section
variable (w : World) (mean : ExcName → Option Value) (mg mb : Str → Option Value)

theorem end_beside {oc : Value} {od : Option Addr} {qual : Str} {params : Arguments} {body : List Stmt} {scope : Scope} {dV kV doc pm cdv ct : Value} {an : Option Addr} {osl : Array (Option Value)}
    (hlk : (hd.heap_39 w.params).lookup 226 = some ⟨oc, od, .func (fnOf (Str.ofString "law") qual params body scope dV kV doc pm an cdv ct), osl⟩)
    {s1 s2 s3 s4 s5 s6 s7 : Stmt} {srest : List Stmt} (hb : body = s1 :: s2 :: s3 :: s4 :: s5 :: s6 :: s7 :: srest) 
    {fa : Addr} {cd : Value} {g : Heap} {L kd S lF G1 G2 lM lC : Addr} {c1 : Obj}
    {s : Shared} {m : Str → Option Value} {news : List (Addr × Obj)} {Q : Flow → Shared → Prop} {E : Value → Shared → Prop}
    (B : Below callerA g [] g) (X : (hd.heap_39 w.params).In g) (T : Top hd.view_39 (looseW hd.view_39 [Str.ofString "TextXObject"]) mean mg mb g)
    (F : Fr g L s.heap (lm S lF G1 G2 lM lC m)) (N : News g L s.heap ((L + 1, c1) :: news)) (k1 : c1.data = .cell (some (.ref kd)))
    (hQ : ∀ h' tk BS BD BF t1 t2 tf oB, oB.IsDictOf (SK w) [(Str.ofString "_tx_filename", .none), (Str.ofString "_tx_model_repository", .ref G1), (Str.ofString "at", .int 9 tf)] → (BF == sysModules) = false → (∀ q ∈ news, @Ne Nat q.1 BS) →
      Fr g L h' (fun y => if y = Str.ofString "beside" then some (.ref BS) else lm S lF G1 G2 lM lC m y) → News g L h' (modL w BS BD BF kd t1 t2 oB ++ news) → Q .next { s with heap := h', toks := tk }) :
    wpAny (model PySem.Challenge.rw_ez0369_01.row.prog w) (callerA.deeper (envOfC qual scope L fa cd)) (exec s7 (envOfC qual scope L fa cd)) Q E s := by
  revert hlk
  k_fill
  intro hlk
  have e := look_eq (by k_is) hlk
  simp only [fnOf, fnX, Obj.mk.injEq, Data.func.injEq, FuncData.mk.injEq] at e
  obtain ⟨-, rfl, -, e4, rfl, -⟩ := e
  cases e4
  clear hlk
  simp only [List.cons.injEq] at hb
  obtain ⟨-, -, -, -, -, -, rfl, -⟩ := hb
  unfold lm at F hQ
  iterate 36 walk1
  (rename Fr g _ _ _ => F9); (rename News g _ _ _ => N9); (rename Obj.IsDictOf _ _ _ => hd9)
  (rename (_ < _ ∧ _) => q1); (rename (_ < _) => l2); (rename ((_ == sysModules) = false) => lo9)
  exact hQ _ _ _ _ _ _ _ _ _ hd9 lo9 (fun q hq => Nat.ne_of_lt (Nat.lt_trans (ltOf q1.2.2 q hq) l2)) F9 (newsDrop4 N9)
end
end Mine
end Mine
end

section
open PySem PySem.W PySem.Calls PyProof.Rows
theorem Mine.off_M20 {M : Model} {A : Around} {E : Value → Shared → Prop} {s : Shared} {Q : Flow → Shared → Prop} {env : Env} (h : Q .next s) : wpAny M A (execs [] env) Q E s := by
  w_top off
  try walk1
  first
    | exact h
    | exact wpAny_execs_nil h
end
section
open PySem PySem.W PySem.Calls PyProof.Rows Builtin Builtin.ObjectAttr
namespace Mine
namespace Mine

local macro_rules | `(tactic| k_room) => `(tactic| exact Nat.le_of_ble_eq_true rfl)
section
variable {w : World} {A A₀ : Around} {E : Value → Shared → Prop} {s : Shared} {base h₀ : Heap} {L : Addr} {m : Str → Option Value} {outer : List Env} {env : Env} {news : List (Addr × Obj)} {mean : ExcName → Option Value} {mg mb : Str → Option Value}
  {Q : Value → Shared → Prop} {BS BD BF kd : Addr} {t1 t2 : Tok} {oB : Obj} {fv atv : Value} {G GD RL : Addr} {g1 g2 : Tok} {rA : Rep} {c : Int} {tc : Tok} {oA : Obj} {kvs : List (Str × Value)} {ms : List (Addr × Addr)}

theorem use_inc (B : Below A₀ base outer h₀) (F : Fr h₀ L s.heap m) (X : (hd.heap_39 w.params).In h₀) (N : News h₀ L s.heap news)
    (T : Top hd.view_39 (looseW hd.view_39 [Str.ofString "TextXObject"]) mean mg mb h₀)
    (hA : A.frames = some (env :: outer)) (hf : env.frame = some L) (hke : env.scope.kind = .function) (hh : A.handled = none) (hdp : A.depth ≤ 570) (hun : A.units ≤ 1700)
    (hs : ∀ q ∈ modL w BS BD BF kd t1 t2 oB ++ (gloL w G GD RL rA.R g1 g2 ++ (RepL w rA c tc oA ++ msL ms)), q ∈ news)
    (hB : oB.IsDictOf (SK w) [(Str.ofString "_tx_filename", fv), (Str.ofString "_tx_model_repository", .ref G), (Str.ofString "at", atv)]) (loB : (BF == sysModules) = false)
    (hA' : oA.IsDictOf (SK w) kvs) (okA : KvsOk ms kvs) (loA : (rA.D == sysModules) = false) (hnot : ∀ p ∈ kvs, p.2 ≠ .ref BS)
    (ret : ∀ LI n h' tk', Fr h₀ L h' m → News h₀ L h' ((LI, W.listOf (kvs.map Prod.snd ++ [Value.ref BS]).toArray n) :: news) → (∀ q ∈ news, @Ne Nat q.1 LI) → Q (.ref LI) { s with heap := h', toks := tk' }) :
    wpAny (model PySem.Challenge.rw_ez0369_01.row.prog w) A (call (.ref 204) [.ref BS]) Q E s := by
  refine Con.use (con_inc w mean mg mb BS BD BF kd t1 t2 oB fv atv G GD RL g1 g2 rA c tc oA kvs ms hB loB hA' okA loA hnot) B F X N T hA hf hke hh hdp hun hs ?_
  rintro v sm h' tk' ⟨LI, n, rfl, hne, rfl⟩ F' N' hk hfr
  have hnone : s.heap.get? LI = none := hfr (LI, _) (.head _) (fun q => by
    obtain ⟨p, hp, e⟩ := List.mem_map.mp q
    exact hne p hp e)
  have hall : ∀ b o, s.heap.get? b = some o → h'.get? b = some o := by
    intro b o e
    by_cases hb : b ∈ (modL w BS BD BF kd t1 t2 oB ++ (gloL w G GD RL rA.R g1 g2 ++ (RepL w rA c tc oA ++ msL ms))).map (·.1)
    · obtain ⟨p, hp, rfl⟩ := List.mem_map.mp hb
      have h1 := (N p (hs p hp)).1
      rw [e] at h1; cases h1
      exact (N' p (.tail _ hp)).1
    · exact hk b o hb e
  refine ret LI n h' tk' F' (fun q hq => ?_) (fun q hq e => ?_)
  · rcases List.mem_cons.mp hq with rfl | hq
    · exact N' _ (.head _)
    · exact ⟨hall _ _ (N q hq).1, (N q hq).2⟩
  · have := (N q hq).1
    rw [e, hnone] at this; cases this
end

open PyProof.Rows.LCt PyProof.Rows.LCg

section
variable {prog : Program} {w : World} {A : Around} {E : Value → Shared → Prop} {s : Shared} {h₀ : Heap} {L : Addr} {m : Str → Option Value} {env : Env}
/-- as ListComp_W0; the ledger is named when the source stands -/
theorem ListComp_V0 (F₀ : Fr h₀ L s.heap m) {elt iter : Expr} {x : Str} {px : Pos} {scope : Scope} {cl : List (Str × Addr)} {pos : Pos} {Q : Value → Shared → Prop} (J : Nat → List Value → List (Addr × Obj) → Prop)
    (hclos : closureFor scope env = pure cl) (hcell : ∀ y ∈ scope.names, y.2 ≠ .cell) (hkind : scope.kind = .function)
    (hnames : ∀ y ∈ scope.names, y.2 = .local → scope.names.lookup y.1 = some .local) (hx : scope.names.lookup x = some .local)
    (h : wpAny (model prog w) A (eval iter env) (fun xv s₁ => wpAny (model prog w) A (pyIter xv) (fun it s₂ => ∃ I n P S news, it = .ref I ∧ Fr h₀ L s₂.heap m ∧ News h₀ L s₂.heap news ∧ SrcW prog w A h₀ L I n P S news s₂.heap ∧ J 0 [] [] ∧
      (∀ i ys own v I oI C oC D m₂ h tk (E' : Value → Shared → Prop), i < n → J i ys own → P i v → NsObj oC m₂ → m₂ x = some v → Fr h₀ L h m → News h₀ L h ((I, oI) :: (C, oC) :: (D, lst ys) :: (own ++ news)) → Off3 I C D (own ++ news) → ((@Ne Nat I C) ∧ (@Ne Nat I D) ∧ (@Ne Nat C D)) →
        wpAny (model prog w) A (eval elt (compEnvC scope cl C env)) (CompEnd h₀ L m { s₂ with heap := h, toks := tk } I oI C oC D (lst ys) S (fun y nw => ∃ own', nw = own' ++ news ∧ J (i + 1) (ys ++ [y]) own')) E' { s₂ with heap := h, toks := tk }) ∧
      (∀ ys D h tk own, J n ys own → Fr h₀ L h m → News h₀ L h ((D, lst ys) :: (own ++ news)) → Off1 D (own ++ news) → Q (.ref D) { s₂ with heap := h, toks := tk })) E s₁) E s)
    (hs : ∀ x, foldedSetIterable iter env x = pure x := by intro _; rfl) :
    wpAny (model prog w) A (eval (.ListComp elt [⟨.Name x px, iter, [], 0⟩] scope pos) env) Q E s := by
  rw [eval_ListComp]
  refine wpAny_comprehension_free (use := none) rfl hs hclos hkind hnames (wpAny_mono h (fun xv s₁ h₁ => wpAny_mono h₁ (fun it s₂ h₂ => ?_) fun _ _ e => e) fun _ _ e => e)
  obtain ⟨I, n, P, S, news, rfl, F, N, ⟨fp, St, W, hsz, hIo, hSt, hst, hfp, hIL, hI₀, off, hS⟩, hJ, hstep, hfin⟩ := h₂
  refine block_U (Fin := fun ys nw => ∃ own, nw = own ++ news ∧ J n ys own) W hsz hIo hSt hcell hkind hx hst hfp F N hIL hI₀ off hS (compRest_ind (fun i ys nw => ∃ own, nw = own ++ news ∧ J i ys own) (fun i ys nw v I oI C oC D m₂ h tk E' hi ⟨own, e, hJ⟩ => by subst e; exact hstep i ys own v I oI C oC D m₂ h tk E' hi hJ) (fun _ _ z => z) n 0 [] news (by omega) ⟨[], rfl, hJ⟩) ?_
  rintro D C h tk m' ys news' F' N' o1 hn hC₀ hD₀ hCL hDL hCD offC ⟨own, rfl, fin⟩
  refine ⟨m', hn, fun h'' hs'' => hfin ys D h'' tk own fin (F'.change hs'' hCL hC₀) (fun p hp => ?_) o1⟩
  refine ⟨hs''.extBut _ _ ?_ (N' p hp).1, (N' p hp).2⟩
  rcases List.mem_cons.mp hp with rfl | hp
  · exact Ne.symm hCD
  · exact offC p hp
end

theorem newsDrop6 {g h : Heap} {L : Addr} {a b c d e f : Addr × Obj} {news : List (Addr × Obj)} (N : News g L h (a :: b :: c :: d :: e :: f :: news)) : News g L h (a :: news) := fun p hp => N p (by
  simp only [List.mem_cons] at hp ⊢
  rcases hp with h | h <;> simp [h])

theorem intsF2 {ys : List Value} {ns : List Int} (h : F2 (fun v n => ∃ t, v = Value.int n t) ys ns) : IntsAre ys ns := by
  induction h with
  | nil => exact .nil
  | cons h1 _ ih => obtain ⟨t, rfl⟩ := h1; exact .cons _ t ih

local macro_rules | `(tactic| walk_at "getAttr ref") => `(tactic| (k_here; k_dflt (refine' attr_hit ?B ?F ?X ?N ?T ?hA ?hf ?hke ?hh ?hdp ?hun ?m1 ?m2 ?m3 ?hF ?hv ?lo ?hga ?hk ?ht ?hdc ?ha ?hc ?hl ?hh2 ?_; (case hA => exact rfl); (case hf => exact rfl); (case hke => exact rfl); (case hh => exact rfl); (case hdp => exact Nat.le_of_ble_eq_true rfl); (case hun => exact Nat.le_of_ble_eq_true rfl); (case B => k_asm); (case F => k_asm); (case X => k_asm); (case N => k_asm); (case T => k_asm); (case m1 => k_mem); (case m2 => k_mem); (case m3 => k_mem); (case hF => assumption); (case hv => assumption); (case lo => assumption); (case hga => k_is); (case hk => k_is); (case ht => k_is); (case hdc => k_is); (case ha => k_is); (case hc => decide +kernel); (case hl => k_get); (case hh2 => k_handed); k_whole); intro h' tk' F' N' keep'; (try dsimp only at keep'); (try dsimp only); (try k_sweep)))
local macro_rules | `(tactic| k_all) => `(tactic| assumption)

section
variable (w : World) (mean : ExcName → Option Value) (mg mb : Str → Option Value)

theorem end_told {oc : Value} {od : Option Addr} {qual : Str} {params : Arguments} {body : List Stmt} {scope : Scope} {dV kV doc pm cdv ct : Value} {an : Option Addr} {osl : Array (Option Value)}
    (hlk : (hd.heap_39 w.params).lookup 226 = some ⟨oc, od, .func (fnOf (Str.ofString "law") qual params body scope dV kV doc pm an cdv ct), osl⟩)
    {s1 s2 s3 s4 s5 s6 s7 s8 : Stmt} {srest : List Stmt} (hb : body = s1 :: s2 :: s3 :: s4 :: s5 :: s6 :: s7 :: s8 :: srest) 
    {fa : Addr} {cd : Value} {g : Heap} {L S lF G1 G2 lM lC BS BD BF kb GD RL kd kD l5 d5 : Addr} {t1 t2 tf g1 g2 tc u1 u2 u3 u4 : Tok} {oB oA : Obj} {rA : Rep} {c : Int} {nM : Nat} {fv : Value} {ra : Int → Addr} {l : List (Str × Int)} {r0 r1 r2 r3 : MRec}
    {s : Shared} {m : Str → Option Value} {news : List (Addr × Obj)} {Q : Flow → Shared → Prop} {E : Value → Shared → Prop}
    (B : Below callerA g [] g) (X : (hd.heap_39 w.params).In g) (T : Top hd.view_39 (looseW hd.view_39 [Str.ofString "TextXObject"]) mean mg mb g)
    (F : Fr g L s.heap (fun y => if y = Str.ofString "beside" then some (.ref BS) else lm S lF G1 G2 lM lC m y)) (N : News g L s.heap ((lM, W.listOf [Value.ref r0.M, .ref r1.M, .ref r2.M, .ref r3.M].toArray nM) :: news))
    (hs1 : ∀ q ∈ modL w BS BD BF kb t1 t2 oB ++ (gloL w G1 GD RL rA.R g1 g2 ++ (RepL w rA c tc oA ++ msL [(r0.M, r0.MD), (r1.M, r1.MD), (r2.M, r2.MD), (r3.M, r3.MD)])), q ∈ news)
    (hB : oB.IsDictOf (SK w) [(Str.ofString "_tx_filename", fv), (Str.ofString "_tx_model_repository", .ref G1), (Str.ofString "at", .int 9 tf)]) (loB : (BF == sysModules) = false)
    (hA : oA.IsDictOf (SK w) (absR ra l)) (okA : KvsOk [(r0.M, r0.MD), (r1.M, r1.MD), (r2.M, r2.MD), (r3.M, r3.MD)] (absR ra l)) (loA : (rA.D == sysModules) = false) (hnot : ∀ p ∈ absR ra l, p.2 ≠ .ref BS)
    (hmo : ModsOk w ra [r0, r1, r2, r3] l) (hms : ∀ q ∈ modsL w [r0, r1, r2, r3], q ∈ news) (hr0 : ModOk w r0 0)
    (hs2 : ∀ q ∈ [(r0.M, instObj 80 r0.MD), (r0.MD, dictOf (txEs w kd r0.MF r0.t1 r0.t2) 2), (r0.MF, r0.oF), (kd, instObj 52 kD), (kD, dictOf (kdEs w u1 u2 u3 u4 l5 d5) 3)], q ∈ news) (hlen : l.length ≤ 1000)
    (hQ : ∀ h' tk D zs n, IntsAre zs (l.map Prod.snd ++ [9] ++ [0]) → Fr g L h' (fun y => if y = Str.ofString "told" then some (.ref D) else if y = Str.ofString "beside" then some (.ref BS) else lm S lF G1 G2 lM lC m y) → News g L h' ((D, W.listOf zs.toArray n) :: news) → Q .next { s with heap := h', toks := tk }) :
    wpAny (model PySem.Challenge.rw_ez0369_01.row.prog w) (callerA.deeper (envOfC qual scope L fa cd)) (exec s8 (envOfC qual scope L fa cd)) Q E s := by
  revert hlk
  k_fill
  intro hlk
  have e := look_eq (by k_is) hlk
  simp only [fnOf, fnX, Obj.mk.injEq, Data.func.injEq, FuncData.mk.injEq] at e
  obtain ⟨-, rfl, -, e4, rfl, -⟩ := e
  cases e4
  clear hlk
  simp only [List.cons.injEq] at hb
  obtain ⟨-, -, -, -, -, -, -, rfl, -⟩ := hb
  unfold lm at F hQ
  iterate 2 walk1
  refine ListComp_V0 F (fun j ys own => F2 (fun v n => ∃ t, v = Value.int n t) ys ((l.map Prod.snd ++ [9]).take j) ∧ own = []) (by with_unfolding_all rfl) (by decide) (by rfl) (by decide) (by rfl) ?_
  iterate 7 walk1
  refine use_inc B (by k_asm) X (by k_asm) T (by exact rfl) (by exact rfl) (by exact rfl) (by exact rfl) (Nat.le_of_ble_eq_true rfl) (Nat.le_of_ble_eq_true rfl) (fun q hq => .tail _ (hs1 q hq)) hB loB hA okA loA hnot ?_
  intro LI n h1 tk1 F1 N1 off1
  have hvl : ((absR ra l).map Prod.snd ++ [Value.ref BS]).length = l.length + 1 := by simp [absR]
  have hil : (l.map Prod.snd ++ [9]).length = l.length + 1 := by simp
  refine pyIter_lst (vs := (absR ra l).map Prod.snd ++ [Value.ref BS]) (n := n) rfl (by k_asm) (by k_asm) (by k_mem) (by rw [hvl, sizeLine_eq]; omega) ?_
  intro I h2 F2' N2 hsrc
  clear N1 F1
  refine ⟨I, _, _, _, _, rfl, F2', N2, hsrc, (by first | exact ⟨.nil, rfl⟩ | exact ⟨.nil, trivial⟩), ?_, ?_⟩
  · rintro j ys own v I oI C oC D1 m₂ h tk E' hj ⟨hJ, rfl⟩ hkx hC hx F₂ N₂ off ne
    clear F2' N2 hsrc
    dsimp only [List.nil_append] at N₂ off
    by_cases hjl : j < l.length
    · obtain ⟨p, hp⟩ : ∃ p, l[j]? = some p := ⟨l[j], by simp [hjl]⟩
      have hv1 : v = .ref (ra p.2) := by
        rw [List.getElem?_append_left (by simp [absR, hjl])] at hkx
        simpa [absR, hp, eq_comm] using hkx
      subst hv1
      have hi9 : (l.map Prod.snd ++ [9])[j]? = some p.2 := by
        rw [List.getElem?_append_left (by simp [hjl])]
        simp [hp]
      obtain ⟨r, hr, hra, hF, loF⟩ := hmo p (List.mem_of_getElem? hp)
      rw [hra] at hx
      have hv : valueAt (modKvs r.fv p.2 r.ti) (Str.ofString "at") = some (.int p.2 r.ti) := rfl
      have N₃ := newsHead (extra := modL w r.M r.MD r.MF r.kd r.t1 r.t2 r.oF) N₂ (fun q hq => .tail _ (.tail _ (.tail _ (.tail _ (.tail _ (hms q (modsL_mem hr hq)))))))
      clear N₂
      dsimp only [modL, List.cons_append, List.nil_append] at N₃ off
      k_steps
      refine CompEnd.intro (by k_asm) (newsTail (newsTail (newsTail (by k_asm)))) _ (fun p hp => hp) off (by k_mem) ⟨[], rfl, ?_, rfl⟩
      rw [take_succ_get hi9]
      exact hJ.snoc ⟨r.ti, rfl⟩
    · have hj2 : j = l.length := by omega
      subst hj2
      have hv1 : v = .ref BS := by
        rw [List.getElem?_append_right (by simp [absR])] at hkx
        simpa [absR, eq_comm] using hkx
      subst hv1
      have hi9 : (l.map Prod.snd ++ [9])[l.length]? = some 9 := by
        rw [List.getElem?_append_right (by simp)]
        simp
      have hv : valueAt [(Str.ofString "_tx_filename", fv), (Str.ofString "_tx_model_repository", Value.ref G1), (Str.ofString "at", .int 9 tf)] (Str.ofString "at") = some (.int 9 tf) := rfl
      have N₃ := newsHead (extra := modL w BS BD BF kb t1 t2 oB) N₂ (fun q hq => .tail _ (.tail _ (.tail _ (.tail _ (.tail _ (hs1 q (List.mem_append_left _ hq)))))))
      clear N₂
      dsimp only [modL, List.cons_append, List.nil_append] at N₃ off
      k_steps
      refine CompEnd.intro (by k_asm) (newsTail (newsTail (newsTail (by k_asm)))) _ (fun p hp => hp) off (by k_mem) ⟨[], rfl, ?_, rfl⟩
      rw [take_succ_get hi9]
      exact hJ.snoc ⟨tf, rfl⟩
  · rintro ys D h₂ tk₂ own ⟨hJ, rfl⟩ F₂ N₂ off
    rw [hvl, ← hil, List.take_length] at hJ
    dsimp only [List.nil_append] at N₂ off
    simp only [LCg.Off1, and_true] at off
    dsimp only [LCg.lst] at N₂
    clear F2' N2 hsrc
    have i1 := intsF2 hJ
    refine ListComp_V0 (by k_asm) (fun j ys own => F2 (fun v n => ∃ t, v = Value.int n t) ys (([0] : List Int).take j) ∧ own = []) (by with_unfolding_all rfl) (by decide) (by rfl) (by decide) (by rfl) ?_
    iterate 10 walk1
    refine ConIncMiss.use (con_inc_miss w mean mg mb r0.M r0.MD r0.MF kd kD l5 d5 r0.t1 r0.t2 u1 u2 u3 u4 r0.oF (modKvs r0.fv 0 r0.ti) hr0.1 rfl hr0.2) B (by k_asm) X (by k_asm) T (by exact rfl) (by exact rfl) (by exact rfl) (by exact rfl) (Nat.le_of_ble_eq_true rfl) (Nat.le_of_ble_eq_true rfl) (fun q hq => .tail _ (.tail _ (.tail _ (hs2 q hq)))) ?_
    intro LJ n2 h3 tk3 F3 N3 off3
    refine pyIter_lst (vs := [Value.ref r0.M]) (n := n2) rfl (by k_asm) (by k_asm) (by k_mem) (by show 1 ≤ sizeLine; rw [sizeLine_eq]; decide) ?_
    intro I2 h4 F4 N4 hsrc2
    clear F3 N3
    refine ⟨I2, _, _, _, _, rfl, F4, N4, hsrc2, (by first | exact ⟨.nil, rfl⟩ | exact ⟨.nil, trivial⟩), ?_, ?_⟩
    · rintro j zs own v I oI C oC D1 m₂ h tk E' hj ⟨hJ2, rfl⟩ hkx hC hx F₂ N₂ off ne
      clear F4 N4 hsrc2
      dsimp only [List.nil_append] at N₂ off
      have hj0 : j = 0 := by simpa using hj
      subst hj0
      have hv1 : v = .ref r0.M := by simpa [eq_comm] using hkx
      subst hv1
      have hF := hr0.1
      have loF := hr0.2
      have hv : valueAt (modKvs r0.fv 0 r0.ti) (Str.ofString "at") = some (.int 0 r0.ti) := rfl
      have N₃ := newsHead (extra := modL w r0.M r0.MD r0.MF r0.kd r0.t1 r0.t2 r0.oF) N₂ (fun q hq => .tail _ (.tail _ (.tail _ (.tail _ (.tail _ (.tail _ (.tail _ (hms q (modsL_mem (.head _) hq)))))))))
      clear N₂
      dsimp only [modL, List.cons_append, List.nil_append] at N₃ off
      k_steps
      refine CompEnd.intro (by k_asm) (newsTail (newsTail (newsTail (by k_asm)))) _ (fun p hp => hp) off (by k_mem) ⟨[], rfl, ?_, rfl⟩
      exact hJ2.snoc ⟨r0.ti, rfl⟩
    · rintro zs D2 h₂ tk₂ own ⟨hJ2, rfl⟩ F₂ N₂ off2
      dsimp only [List.nil_append] at N₂ off2
      simp only [LCg.Off1, and_true] at off2
      dsimp only [LCg.lst] at N₂
      clear F4 N4 hsrc2
      have i2 : IntsAre zs [0] := intsF2 hJ2
      have ly : ys.length = l.length + 1 := by rw [i1.length]; exact hil
      have lz : zs.length = 1 := i2.length
      iterate 2 walk1
      (rename Fr _ _ _ _ => F9); (rename News _ _ _ _ => N9); (rename IntsAre _ _ => i9)
      exact hQ _ _ _ _ _ i9 F9 (newsDrop6 N9)
end
end Mine
end Mine
end

section
open PySem PySem.W PySem.Calls PyProof.Rows
theorem Mine.off_M21 {M : Model} {A : Around} {E : Value → Shared → Prop} {s : Shared} {Q : Flow → Shared → Prop} {env : Env} (h : Q .next s) : wpAny M A (execs [] env) Q E s := by
  w_top off
  try walk1
  first
    | exact h
    | exact wpAny_execs_nil h
end
section
open PySem PySem.W PySem.Calls PyProof.Rows Builtin Builtin.ObjectAttr
namespace Mine
namespace Mine

local macro_rules | `(tactic| k_room) => `(tactic| exact Nat.le_of_ble_eq_true rfl)
open PyProof.Rows.LCt PyProof.Rows.LCg
local macro_rules | `(tactic| k_all) => `(tactic| assumption)

section
variable (w : World) (mean : ExcName → Option Value) (mg mb : Str → Option Value)

theorem end_ret {oc : Value} {od : Option Addr} {qual : Str} {params : Arguments} {body : List Stmt} {scope : Scope} {dV kV doc pm cdv ct : Value} {an : Option Addr} {osl : Array (Option Value)}
    (hlk : (hd.heap_39 w.params).lookup 226 = some ⟨oc, od, .func (fnOf (Str.ofString "law") qual params body scope dV kV doc pm an cdv ct), osl⟩)
    {s1 s2 s3 s4 s5 s6 s7 s8 s9 : Stmt} {srest : List Stmt} (hb : body = s1 :: s2 :: s3 :: s4 :: s5 :: s6 :: s7 :: s8 :: s9 :: srest) 
    {fa : Addr} {cd : Value} {g : Heap} {L lO O0 O1 O2 D : Addr} {c3 o2 : Obj} {nO n : Nat} {kvsO : List (Str × Value)} {l : List (Str × Int)} {zs : List Value}
    {s : Shared} {m : Str → Option Value} {news : List (Addr × Obj)} {Q : Flow → Shared → Prop} {E : Value → Shared → Prop}
    (B : Below callerA g [] g) (X : (hd.heap_39 w.params).In g) (T : Top hd.view_39 (looseW hd.view_39 [Str.ofString "TextXObject"]) mean mg mb g)
    (F : Fr g L s.heap (fun y => if y = Str.ofString "told" then some (.ref D) else m y)) (N : News g L s.heap ((L + 1 + 1 + 1, c3) :: (lO, W.listOf [Value.ref O0, .ref O1, .ref O2].toArray nO) :: (O2, o2) :: (D, W.listOf zs.toArray n) :: news))
    (k3 : c3.data = .cell (some (.ref lO))) (hO : o2.IsDictOf (SK w) kvsO) (hok : OwnOk kvsO) (hab : absO kvsO = l) (lo : (O2 == sysModules) = false) (hlen : l.length ≤ 1000) (hz : IntsAre zs (l.map Prod.snd ++ [9] ++ [0]))
    (hQ : ∀ h' tk, Fr g L h' (fun y => if y = Str.ofString "told" then some (.ref D) else m y) → Q (.ret (.bool true)) { s with heap := h', toks := tk }) :
    wpAny (model PySem.Challenge.rw_ez0369_01.row.prog w) (callerA.deeper (envOfC qual scope L fa cd)) (exec s9 (envOfC qual scope L fa cd)) Q E s := by
  revert hlk
  k_fill
  intro hlk
  have e := look_eq (by k_is) hlk
  simp only [fnOf, fnX, Obj.mk.injEq, Data.func.injEq, FuncData.mk.injEq] at e
  obtain ⟨-, rfl, -, e4, rfl, -⟩ := e
  cases e4
  clear hlk
  simp only [List.cons.injEq] at hb
  obtain ⟨-, -, -, -, -, -, -, -, rfl, -⟩ := hb
  have hlenO : kvsO.length = l.length := by rw [← hab]; simp [absO]
  have hszO : kvsO.length ≤ sizeLine := by rw [sizeLine_eq]; omega
  iterate 4 walk1
  refine ListComp_W0 (by k_asm) (by k_asm) (fun j ys own => F2 (fun v p => ∃ t, v = Value.int p.2 t) ys (l.take j) ∧ own = []) (by with_unfolding_all rfl) (by decide) (by rfl) (by decide) (by rfl) ?_
  iterate 4 walk1
  refine pyIter_keys (knd := PySem.strKind _ _) rfl (by k_asm) (by k_asm) (by k_mem) hO lo hszO ?_
  intro I h' F₁ N₁ hsrc
  refine ⟨I, _, _, _, rfl, F₁, N₁, hsrc, (by first | exact ⟨.nil, rfl⟩ | exact ⟨.nil, trivial⟩), ?_, ?_⟩
  · rintro j ys own v I oI C oC D1 m₂ h tk E' hj ⟨hJ, rfl⟩ ⟨k, x, hkx, hkey⟩ hC hx F₂ N₂ off ne
    clear F₁ N₁ hsrc
    dsimp only [List.nil_append] at N₂ off
    obtain ⟨t, rfl⟩ := strKey hkey
    have hmem := List.mem_of_getElem? hkx
    have hval := valueAt_get (nodup_of hO) hmem
    obtain ⟨n1, tn, hn⟩ := hok _ hmem
    dsimp only at hn hval
    subst hn
    have e1 : l[j]? = some (k, n1) := hab ▸ absO_get hkx
    k_steps
    refine kdt_getItem (knd := PySem.strKind _ _) (by k_asm) (by k_mem) hO (strKind_is _ _ _ _) hval ?_
    k_steps
    refine CompEnd.intro (by k_asm) (by k_asm) _ (fun p hp => hp) off (by k_mem) ⟨[], rfl, ?_, rfl⟩
    rw [take_succ_get e1]
    exact hJ.snoc ⟨tn, rfl⟩
  · rintro ys D2 h₂ tk₂ own ⟨hJ, rfl⟩ F₂ N₂ off
    rw [hlenO, List.take_length] at hJ
    clear F₁ N₁ hsrc
    dsimp only [List.nil_append] at N₂ off
    simp only [LCg.Off1, and_true] at off
    dsimp only [LCg.lst] at N₂
    have i1 := ints_of hJ
    have ly : ys.length = l.length := i1.length.trans (by simp)
    iterate 9 walk1
    (rename Fr _ _ _ _ => F9)
    rw [decide_eq_true (show l.map Prod.snd ++ [9] ++ [0] = l.map (fun x => x.snd) ++ [9, 0] from by simp)]
    exact hQ _ _ F9
end
end Mine
end Mine
end

section
open PySem PySem.W PySem.Calls PyProof.Rows
theorem Mine.off_M22 {M : Model} {A : Around} {E : Value → Shared → Prop} {s : Shared} {Q : Flow → Shared → Prop} {env : Env} (h : Q .next s) : wpAny M A (execs [] env) Q E s := by
  w_top off
  try walk1
  first
    | exact h
    | exact wpAny_execs_nil h
end
section
open PySem PySem.W PySem.Calls PyProof.Rows Builtin Builtin.ObjectAttr
namespace Mine
namespace Mine

local macro_rules | `(tactic| k_room) => `(tactic| exact Nat.le_of_ble_eq_true rfl)
section
variable (w : World) (mean : ExcName → Option Value) (mg mb : Str → Option Value)

theorem law_tail {oc : Value} {od : Option Addr} {qual : Str} {params : Arguments} {body : List Stmt} {scope : Scope} {dV kV doc pm cdv ct : Value} {an : Option Addr} {osl : Array (Option Value)}
    (hlk : (hd.heap_39 w.params).lookup 226 = some ⟨oc, od, .func (fnOf (Str.ofString "law") qual params body scope dV kV doc pm an cdv ct), osl⟩)
    {s1 s2 s3 s4 s5 s7 s8 s9 : Stmt} {lb els : List Stmt} {tgt it : Expr} {fp : Pos}
    (hb : body = [s1, s2, s3, s4, s5, .For tgt it lb els fp, s7, s8, s9]) 
    {fa : Addr} {cd : Value} {g : Heap} {S : Addr} {k : Stat} {st : Nat → RepSt} {vs : List Value} {ns : List Int} {u1 u2 u3 u4 : Tok} {l5 d5 : Addr}
    {s : Shared} {m : Str → Option Value} {Q : Flow → Shared → Prop} {E : Value → Shared → Prop}
    (B : Below callerA g [] g) (X : (hd.heap_39 w.params).In g) (T : Top hd.view_39 (looseW hd.view_39 [Str.ofString "TextXObject"]) mean mg mb g)
    (hL : g.IsList S vs.toArray) (hI : IntsAre vs ns) (h63 : ns.length ≤ 63)
    (sta : Sta w k) (sta2 : Sta2 w k u1 u2 u3 u4 l5 d5) (inv : Inv w k 0 st)
    (F : Fr g k.L s.heap (lm S k.lF k.G1 k.G2 k.lM k.lC m)) (N : News g k.L s.heap (led w k st))
    (hE : PassesOwn (model PySem.Challenge.rw_ez0369_01.row.prog w) (callerA.deeper (envOfC qual scope k.L fa cd)) (envOfC qual scope k.L fa cd) E)
    (hQ : ∀ h' tk' m', Fr g k.L h' m' → Q (.ret (.bool true)) { s with heap := h', toks := tk' }) :
    wpAny (model PySem.Challenge.rw_ez0369_01.row.prog w) (callerA.deeper (envOfC qual scope k.L fa cd)) (execs [.For tgt it lb els fp, s7, s8, s9] (envOfC qual scope k.L fa cd)) Q E s := by
  refine wpAny_execs_cons (law_loop w mean mg mb hlk hb B X T hL hI h63 sta inv F N ?_ hE)
  intro h1 tk1 m1 st1 inv1 hm1 F1 N1
  refine wpAny_execs_cons ?_
  rw [hm1.eq] at F1
  refine end_beside w mean mg mb hlk hb B X T F1 (news := led w k st1) (newsPerm N1 (List.forall_mem_cons.mpr ⟨mem_led (t := .c1) trivial, fun p hp => hp⟩)) sta2.k1 ?_
  intro h2 tk2 BS BD BF t1 t2 tf oB hB loB off F2 N2
  refine wpAny_execs_cons ?_
  have ok2 := inv1.ok 2 (by decide)
  have hmod := mods_ok sta ok2
  have hkv := kvsOk_of ok2 (by omega)
  have l2 : (st1 2).l.length ≤ 20 := ok2.2.2.2.2.2.1
  have hm0 := (sta.mr 0 (by decide)).1
  have e1 : ∀ p ∈ led w k st1, p ∈ modL w BS BD BF k.kd t1 t2 oB ++ led w k st1 := fun p hp => List.mem_append_right _ hp
  have hnot : ∀ p ∈ absR (raF k) (st1 2).l, p.2 ≠ .ref BS := by
    intro p hp e
    obtain ⟨q, hq, rfl⟩ := List.mem_map.mp hp
    obtain ⟨r, hr, hra, -⟩ := hmod q hq
    have e2 : raF k q.2 = BS := Value.ref.inj e
    obtain ⟨-, -, y1, y2⟩ := ok2.2.2.2.2.1 q hq
    exact off (ent w k st1 (.M q.2.toNat)) (mem_led (t := .M q.2.toNat) (by show q.2.toNat < 4; omega)) e2
  refine end_told (BS := BS) (BD := BD) (BF := BF) (t1 := t1) (t2 := t2) (oB := oB) (tf := tf) (fv := .none) (r0 := k.mr 0) (r1 := k.mr 1) (r2 := k.mr 2) (r3 := k.mr 3) (ra := raF k) (l := (st1 2).l) (rA := k.rp 2) (RL := (k.rp 0).R) (GD := k.GD1) (oA := (st1 2).oD) (c := (st1 2).c) (tc := (st1 2).tc) (g1 := k.g1) (g2 := k.g2) (kb := k.kd) (kd := k.kd) (kD := k.kD) (u1 := u1) (u2 := u2) (u3 := u3) (u4 := u4) (l5 := l5) (d5 := d5)
    w mean mg mb hlk hb B X T F2 (newsPerm N2 (List.forall_mem_cons.mpr ⟨e1 _ (mem_led (t := .lM) trivial), fun p hp => hp⟩)) ?_ hB loB ok2.1 hkv (sta.loD 2 (by decide)) hnot hmod (fun q hq => e1 q (modsL_led q hq)) hm0 ?_ (by omega) ?_
  · intro q hq
    rcases List.mem_append.mp hq with hq | hq
    · exact List.mem_append_left _ hq
    · refine e1 q ?_
      rcases List.mem_append.mp hq with hq | hq
      · exact ents_mem [Tag.g1, .gd1] (by simp [Tag.ok]) q hq
      · rcases List.mem_append.mp hq with hq | hq
        · exact ents_mem [Tag.R 2, .RD 2, .D 2] (by simp [Tag.ok]) q hq
        · exact ents_mem [Tag.M 0, .M 1, .M 2, .M 3] (by simp [Tag.ok]) q hq
  · intro q hq
    refine e1 q ?_
    simp only [List.mem_cons, List.not_mem_nil, or_false] at hq
    rcases hq with rfl | rfl | rfl | rfl | rfl
    · exact mem_led (t := .M 0) (by show 0 < 4; decide)
    · have := mem_led (w := w) (k := k) (st := st1) (t := .MD 0) (by show 0 < 4; decide)
      simp only [ent, adr, ob, sta2.mkd] at this
      exact this
    · exact mem_led (t := .MF 0) (by show 0 < 4; decide)
    · have := mem_led (w := w) (k := k) (st := st1) (t := .kd) trivial
      simp only [ent, adr, ob, sta2.kd] at this
      exact this
    · have := mem_led (w := w) (k := k) (st := st1) (t := .kD) trivial
      simp only [ent, adr, ob, sta2.kD] at this
      exact this
  intro h3 tk3 D zs n hz F3 N3
  refine wpAny_execs_cons ?_
  refine end_ret (O0 := (st1 0).O) (O1 := (st1 1).O) (O2 := (st1 2).O) (l := (st1 2).l) w mean mg mb hlk hb B X T F3 (newsPerm N3 (List.forall_mem_cons.mpr ⟨.tail _ (e1 _ (mem_led (t := .c3) trivial)), List.forall_mem_cons.mpr ⟨.tail _ (e1 _ (mem_led (t := .lO) trivial)), List.forall_mem_cons.mpr ⟨.tail _ (e1 _ (mem_led (t := .O 2) (by show 2 < 3; decide))), fun p hp => hp⟩⟩⟩))
    sta.k3 ok2.2.1 ok2.2.2.1 ok2.2.2.2.1 ok2.2.2.2.2.2.2.2.2 (by omega) hz ?_
  intro h4 tk4 F4
  exact hQ h4 tk4 _ F4
end
end Mine
end Mine
end

section
open PySem PySem.W PySem.Calls PyProof.Rows
theorem Mine.off_M23 {M : Model} {A : Around} {E : Value → Shared → Prop} {s : Shared} {Q : Flow → Shared → Prop} {env : Env} (h : Q .next s) : wpAny M A (execs [] env) Q E s := by
  w_top off
  try walk1
  first
    | exact h
    | exact wpAny_execs_nil h
end
section
open PySem PySem.W PySem.Calls PyProof.Rows Builtin Builtin.ObjectAttr
namespace Mine
namespace Mine

local macro_rules | `(tactic| k_room) => `(tactic| exact Nat.le_of_ble_eq_true rfl)
def Made4 (w : World) (kd : Addr) (fvs : List Value) (news : List (Addr × Obj)) (recs : List MRec) : Prop :=
  (∀ (j : Nat) (r : MRec), recs[j]? = some r → ModOk w r (j : Nat) ∧ fvs[j]? = some r.fv ∧ r.kd = kd) ∧ ((modsL w recs).map (·.1)).Nodup ∧ ∀ p ∈ modsL w recs, ∀ q ∈ news, p.1 ≠ q.1

section
variable (w : World) (mean : ExcName → Option Value) (mg mb : Str → Option Value)

theorem made_stmt4 {oc : Value} {od : Option Addr} {qual : Str} {params : Arguments} {body : List Stmt} {scope : Scope} {dV kV doc pm cdv ct : Value} {an : Option Addr} {osl : Array (Option Value)}
    (hlk : (hd.heap_39 w.params).lookup 226 = some ⟨oc, od, .func (fnOf (Str.ofString "law") qual params body scope dV kV doc pm an cdv ct), osl⟩)
    {st1 st2 st3 st4 : Stmt} {rest : List Stmt} (hb : body = st1 :: st2 :: st3 :: st4 :: rest)
    {fa : Addr} {cd : Value} {g : Heap} {L kd lF : Addr} {s : Shared} {ck : Obj} {news : List (Addr × Obj)} {m : Str → Option Value} {v0 v1 v2 v3 : Value} {nl : Nat} {Q : Flow → Shared → Prop} {E : Value → Shared → Prop}
    (B : Below callerA g [] g) (X : (hd.heap_39 w.params).In g) (T : Top hd.view_39 (looseW hd.view_39 [Str.ofString "TextXObject"]) mean mg mb g)
    (F : Fr g L s.heap m) (N : News g L s.heap news) (hck : (L + 1, ck) ∈ news) (dck : ck.data = .cell (some (.ref kd))) (hmf : m (Str.ofString "files") = some (.ref lF)) (hlF : (lF, listOf [v0, v1, v2, v3].toArray nl) ∈ news)
    (hQ : ∀ (D : Addr) h' tk (r0 r1 r2 r3 : MRec), Made4 w kd [v0, v1, v2, v3] news [r0, r1, r2, r3] → Fr g L h' (fun z => if z = Str.ofString "made" then some (.ref D) else m z) →
      News g L h' ((D, listOf [.ref r0.M, .ref r1.M, .ref r2.M, .ref r3.M].toArray 4) :: (modsL w [r0, r1, r2, r3] ++ news)) → (∀ p ∈ modsL w [r0, r1, r2, r3] ++ news, p.1 ≠ D) → Q .next { s with heap := h', toks := tk }) :
    wpAny (model PySem.Challenge.rw_ez0369_01.row.prog w) (callerA.deeper (envOfC qual scope L fa cd)) (exec st4 (envOfC qual scope L fa cd)) Q E s := by
  obtain ⟨m0, rfl⟩ : ∃ m0, m = fun z => if z = Str.ofString "files" then some (.ref lF) else m0 z := ⟨m, by
    funext z
    by_cases e : z = Str.ofString "files"
    · rw [if_pos e, e]; exact hmf
    · rw [if_neg e]⟩
  clear hmf
  have hlk0 := hlk
  have hb0 := hb
  revert hlk
  k_fill
  intro hlk
  have e := look_eq (by k_is) hlk
  simp only [fnOf, fnX, Obj.mk.injEq, Data.func.injEq, FuncData.mk.injEq] at e
  obtain ⟨-, rfl, -, e4, rfl, -⟩ := e
  cases e4
  simp only [List.cons.injEq] at hb
  obtain ⟨-, -, -, rfl, -⟩ := hb
  clear hlk
  refine assign_enum (vs := [v0, v1, v2, v3]) (nl := nl) F N hlF (by show 4 ≤ sizeLine; rw [sizeLine_eq]; decide) (MadeJ w kd [v0, v1, v2, v3] news) rfl rfl (by with_unfolding_all rfl) (by rfl) (by rfl) (by with_unfolding_all rfl) (by decide) (by rfl) (by decide) (by rfl) (by rfl) (by decide) ?_
  iterate 6 walk1
  refine enum_start F N hlF ?_
  intro it h' F8 N8 he hit hsize hlt hLlt h0
  refine Exists.intro it (And.intro rfl (And.intro F8 (And.intro N8 (And.intro he (And.intro hit (And.intro hsize (And.intro hlt (And.intro hLlt (And.intro h0 (And.intro MadeJ.nil (And.intro ?xs ?xf)))))))))))
  case xs => exact made_step w mean mg mb hlk0 hb0 B X T hck dck
  case xf =>
    intro ys D h2 tk2 own hJ F7 N7 off
    obtain ⟨recs, hlen, e1, e2, e5, e6, e7⟩ := id hJ
    replace hlen : recs.length = 4 := hlen
    obtain ⟨r0, r1, r2, r3, e3⟩ : ∃ r0 r1 r2 r3, recs = [r0, r1, r2, r3] := four_of hlen
    subst e3
    subst e1
    subst e2
    exact hQ D h2 tk2 r0 r1 r2 r3 ⟨e5, e6, e7⟩ F7 N7 off
end

/-- a strictly falling list -/
def Desc : List Nat → Prop
  | a :: b :: r => b < a ∧ Desc (b :: r)
  | _ => True

theorem Desc.lt : ∀ {a : Nat} {r : List Nat}, Desc (a :: r) → ∀ b ∈ r, b < a
  | a, [], _, b, hb => nomatch hb
  | a, c :: r, h, b, hb => by
    rcases List.mem_cons.mp hb with rfl | hb
    · exact h.1
    · exact Nat.lt_trans (Desc.lt h.2 b hb) h.1
theorem Desc.nodup : ∀ {l : List Nat}, Desc l → l.Nodup
  | [], _ => List.nodup_nil
  | [a], _ => by simp
  | a :: c :: r, h => by
    rw [List.nodup_cons]
    exact ⟨fun hm => absurd (Desc.lt h a hm) (Nat.lt_irrefl a), Desc.nodup h.2⟩

theorem nodup_inj {α β : Type} {f : α → β} : ∀ {l : List α}, (l.map f).Nodup → ∀ a ∈ l, ∀ b ∈ l, f a = f b → a = b
  | [], _, a, ha, _, _, _ => nomatch ha
  | x :: l, h, a, ha, b, hb, e => by
    rw [List.map_cons, List.nodup_cons] at h
    rcases List.mem_cons.mp ha with ea | ha' <;> rcases List.mem_cons.mp hb with eb | hb'
    · rw [ea, eb]
    · have h2 := List.mem_map_of_mem (f := f) hb'
      rw [← e, ea] at h2
      exact absurd h2 h.1
    · have h2 := List.mem_map_of_mem (f := f) ha'
      rw [e, eb] at h2
      exact absurd h2 h.1
    · exact nodup_inj h.2 a ha' b hb' e

def tagsA : List Tag := [.lC, .lO, .O 2, .O 1, .O 0, .lS]
def tagsB : List Tag := [.D 1, .R 1, .RD 1, .g2, .gd2, .D 2, .R 2, .RD 2, .D 0, .R 0, .RD 0, .g1, .gd1, .lF, .kd, .kD, .c3, .c2, .c1]
def tagsM : List Tag := [.M 0, .MD 0, .MF 0, .M 1, .MD 1, .MF 1, .M 2, .MD 2, .MF 2, .M 3, .MD 3, .MF 3]

theorem tags_split {t : Tag} (h : t.ok) : t ∈ tagsA ++ tagsB ∨ t = .lM ∨ t ∈ tagsM := by
  cases t with
  | R i => rcases three h with rfl | rfl | rfl <;> simp [tagsA, tagsB]
  | RD i => rcases three h with rfl | rfl | rfl <;> simp [tagsA, tagsB]
  | D i => rcases three h with rfl | rfl | rfl <;> simp [tagsA, tagsB]
  | O i => rcases three h with rfl | rfl | rfl <;> simp [tagsA, tagsB]
  | M i => rcases four h with rfl | rfl | rfl | rfl <;> simp [tagsM]
  | MD i => rcases four h with rfl | rfl | rfl | rfl <;> simp [tagsM]
  | MF i => rcases four h with rfl | rfl | rfl | rfl <;> simp [tagsM]
  | lM => simp
  | _ => simp [tagsA, tagsB]

theorem inj_of {k : Stat} {st : Nat → RepSt} (h1 : ((tagsA ++ tagsB).map (adr k st)).Nodup) (h2 : ∀ t ∈ tagsA ++ tagsB, @Ne Nat (adr k st t) k.lM) (h3 : (tagsM.map (adr k st)).Nodup) (h4 : ∀ t ∈ tagsM, ∀ u ∈ tagsA ++ tagsB, @Ne Nat (adr k st t) (adr k st u)) (h5 : ∀ t ∈ tagsM, @Ne Nat (adr k st t) k.lM) : Inj k st := by
  intro t u ht hu e
  rcases tags_split ht with a | a | a <;> rcases tags_split hu with b | b | b
  · exact nodup_inj h1 t a u b e
  · subst b; exact absurd e (h2 t a)
  · exact absurd e.symm (h4 u b t a)
  · subst a; exact absurd e.symm (h2 u b)
  · rw [a, b]
  · subst a; exact absurd e.symm (h5 u b)
  · exact absurd e (h4 t a u b)
  · subst b; exact absurd e (h5 t a)
  · exact nodup_inj h3 t a u b e
end Mine
end Mine
end

section
open PySem PySem.W PySem.Calls PyProof.Rows
theorem Mine.off_M24 {M : Model} {A : Around} {E : Value → Shared → Prop} {s : Shared} {Q : Flow → Shared → Prop} {env : Env} (h : Q .next s) : wpAny M A (execs [] env) Q E s := by
  w_top off
  try walk1
  first
    | exact h
    | exact wpAny_execs_nil h
end
section
open PySem PySem.W PySem.Calls PyProof.Rows Builtin Builtin.ObjectAttr
namespace Mine
namespace Mine

local macro_rules | `(tactic| k_room) => `(tactic| exact Nat.le_of_ble_eq_true rfl)
theorem Desc.pair : ∀ {l : List Nat}, Desc l → l.Pairwise (fun a b => a ≠ b)
  | [], _ => .nil
  | [a], _ => .cons (fun _ h => nomatch h) .nil
  | a :: c :: r, h => .cons (fun b hb e => absurd (Desc.lt h b hb) (e ▸ Nat.lt_irrefl a)) (Desc.pair h.2)

section
variable (w : World) (mean : ExcName → Option Value) (mg mb : Str → Option Value)

theorem law_glue {oc : Value} {od : Option Addr} {qual : Str} {params : Arguments} {body : List Stmt} {scope : Scope} {dV kV doc pm cdv ct : Value} {an : Option Addr} {osl : Array (Option Value)}
    (hlk : (hd.heap_39 w.params).lookup 226 = some ⟨oc, od, .func (fnOf (Str.ofString "law") qual params body scope dV kV doc pm an cdv ct), osl⟩)
    {s1 s2 s3 s4 s5 s7 s8 s9 : Stmt} {lb els : List Stmt} {tgt it : Expr} {fp : Pos}
    (hb : body = [s1, s2, s3, s4, s5, .For tgt it lb els fp, s7, s8, s9]) 
    {fa : Addr} {cd : Value} {g : Heap} {S L lC lO O2 O1 O0 lS lM D1 R1 RD1 G2 GD2 D2 R2 RD2 D0 R0 RD0 G1 GD1 T1 T2 lF l4 kd kD d5 l5 : Addr} {oT1 oT2 o0 o1 o2 p0 p1 p2 ol4 od5 ol5 c1 c2 c3 : Obj} {a0 a1 a2 b0 b1 b2 t0 t0' t1 t1' t2 t2' g1 g2 g3 g4 u1 u2 u3 u4 tx ty : Tok} {f3 : Value} {r0 r1 r2 r3 : MRec} {NL0 : List (Addr × Obj)} {vs : List Value} {ns : List Int}
    {s : Shared} {m : Str → Option Value} {Q : Flow → Shared → Prop} {E : Value → Shared → Prop}
    (B : Below callerA g [] g) (X : (hd.heap_39 w.params).In g) (T : Top hd.view_39 (looseW hd.view_39 [Str.ofString "TextXObject"]) mean mg mb g)
    (hL : g.IsList S vs.toArray) (hI : IntsAre vs ns) (h63 : ns.length ≤ 63)
    (F : Fr g L s.heap m) (hm : HasLm S lF G1 G2 lM lC m)
    (N : News g L s.heap ((T1, oT1) :: (lC, W.listOf [Value.int 1 a0, .int 1 a1, .int 1 a2].toArray 0) :: (lO, W.listOf [Value.ref O0, .ref O1, .ref O2].toArray 0) :: (O2, o2) :: (O1, o1) :: (O0, o0) :: (lS, W.listOf [Value.ref R0, .ref R1, .ref R2].toArray 0) :: (lM, W.listOf [Value.ref r0.M, .ref r1.M, .ref r2.M, .ref r3.M].toArray 4) ::
      (D1, p1) :: (R1, instObj 157 RD1) :: (RD1, dictOf (repEs w 1 b1 D1 t1 t1') 2) :: (G2, instObj 193 GD2) :: (GD2, dictOf (gloEs w R1 R2 g3 g4) 2) :: (D2, p2) :: (R2, instObj 157 RD2) :: (RD2, dictOf (repEs w 1 b2 D2 t2 t2') 2) ::
      (D0, p0) :: (R0, instObj 157 RD0) :: (RD0, dictOf (repEs w 1 b0 D0 t0 t0') 2) :: (G1, instObj 193 GD1) :: (GD1, dictOf (gloEs w R0 R2 g1 g2) 2) :: (T2, oT2) :: (lF, W.listOf [Value.str (Str.ofString "x.m") tx, .str (Str.ofString "y.m") ty, .none, f3].toArray 0) :: (l4, ol4) ::
      (kd, instObj 52 kD) :: (kD, dictOf (kdEs w u1 u2 u3 u4 l5 d5) 3) :: (d5, od5) :: (l5, ol5) :: (L + 1 + 1 + 1, c3) :: (L + 1 + 1, c2) :: (L + 1, c1) :: modsL w [r0, r1, r2, r3]))
    (k1 : c1.data = .cell (some (.ref kd))) (k2 : c2.data = .cell (some (.ref lS))) (k3 : c3.data = .cell (some (.ref lO)))
    (q0 : p0.IsDictOf (SK w) ([] : List (Str × Value))) (q1 : p1.IsDictOf (SK w) ([] : List (Str × Value))) (q2 : p2.IsDictOf (SK w) ([] : List (Str × Value))) (q3 : o0.IsDictOf (SK w) ([] : List (Str × Value))) (q4 : o1.IsDictOf (SK w) ([] : List (Str × Value))) (q5 : o2.IsDictOf (SK w) ([] : List (Str × Value)))
    (x0 : (D0 == sysModules) = false) (x1 : (D1 == sysModules) = false) (x2 : (D2 == sysModules) = false) (x3 : (O0 == sysModules) = false) (x4 : (O1 == sysModules) = false) (x5 : (O2 == sysModules) = false)
    (hM : Made4 w kd [Value.str (Str.ofString "x.m") tx, .str (Str.ofString "y.m") ty, .none, f3] NL0 [r0, r1, r2, r3]) (hf3 : f3 = .none ∨ ∃ t, f3 = .str (Str.ofString "x.m") t)
    (hoffm : ∀ p ∈ modsL w [r0, r1, r2, r3] ++ NL0, p.1 ≠ lM) (hmap : NL0.map Prod.fst = [D1, R1, RD1, G2, GD2, D2, R2, RD2, D0, R0, RD0, G1, GD1, T2, lF, l4, kd, kD, d5, l5, L + 1 + 1 + 1, L + 1 + 1, L + 1])
    (h1 : Desc [lC, lO, O2, O1, O0, lS, D1, R1, RD1, G2, GD2, D2, R2, RD2, D0, R0, RD0, G1, GD1, T2, lF, l4, kd, kD, d5, l5, L + 1 + 1 + 1, L + 1 + 1, L + 1]) (h2 : @LT.lt Nat _ lM lS) (h3 : AllLt lS (modsL w [r0, r1, r2, r3]))
    (hE : PassesOwn (model PySem.Challenge.rw_ez0369_01.row.prog w) (callerA.deeper (envOfC qual scope L fa cd)) (envOfC qual scope L fa cd) E)
    (hQ : ∀ h' tk' m', Fr g L h' m' → Q (.ret (.bool true)) { s with heap := h', toks := tk' }) :
    wpAny (model PySem.Challenge.rw_ez0369_01.row.prog w) (callerA.deeper (envOfC qual scope L fa cd)) (execs [.For tgt it lb els fp, s7, s8, s9] (envOfC qual scope L fa cd)) Q E s := by
  obtain ⟨hM1, hM2, hM3⟩ := hM
  obtain ⟨m0, v0, z0⟩ := hM1 0 r0 rfl
  obtain ⟨m1, v1, z1⟩ := hM1 1 r1 rfl
  obtain ⟨m2, v2, z2⟩ := hM1 2 r2 rfl
  obtain ⟨m3, v3, z3⟩ := hM1 3 r3 rfl
  replace v0 : r0.fv = _ := (Option.some.inj v0).symm
  replace v1 : r1.fv = _ := (Option.some.inj v1).symm
  replace v2 : r2.fv = _ := (Option.some.inj v2).symm
  replace v3 : r3.fv = _ := (Option.some.inj v3).symm
  let k : Stat := { L := L, lS := lS, lO := lO, lC := lC, lF := lF, lM := lM, nS := 0, nO := 0, nC := 0, nF := 0, nM := 4, G1 := G1, GD1 := GD1, G2 := G2, GD2 := GD2, g1 := g1, g2 := g2, g3 := g3, g4 := g4, c1 := c1, c2 := c2, c3 := c3, kd := kd, kD := kD, okd := instObj 52 kD, okD := dictOf (kdEs w u1 u2 u3 u4 l5 d5) 3, rp := (fun i => match i with | 0 => ⟨R0, RD0, D0, t0, t0'⟩ | 1 => ⟨R1, RD1, D1, t1, t1'⟩ | _ => ⟨R2, RD2, D2, t2, t2'⟩), mr := (fun j => match j with | 0 => r0 | 1 => r1 | 2 => r2 | _ => r3) }
  let st : Nat → RepSt := fun i => match i with | 0 => ⟨1, b0, a0, p0, O0, o0, [], []⟩ | 1 => ⟨1, b1, a1, p1, O1, o1, [], []⟩ | _ => ⟨1, b2, a2, p2, O2, o2, [], []⟩
  have sta : Sta w k := ⟨k2, k3, fun i hi => by rcases three hi with rfl | rfl | rfl <;> assumption, fun j hj => by
    rcases four hj with rfl | rfl | rfl | rfl
    · exact ⟨m0, Or.inr ⟨_, _, v0, by decide, by decide⟩⟩
    · exact ⟨m1, Or.inr ⟨_, _, v1, by decide, by decide⟩⟩
    · exact ⟨m2, Or.inl v2⟩
    · refine ⟨m3, ?_⟩
      rcases hf3 with h | ⟨t, h⟩
      · exact Or.inl (v3.trans h)
      · exact Or.inr ⟨_, t, v3.trans h, by decide, by decide⟩⟩
  have sta2 : Sta2 w k u1 u2 u3 u4 l5 d5 := ⟨k1, rfl, rfl, z0⟩
  have hlow : ∀ a ∈ [D1, R1, RD1, G2, GD2, D2, R2, RD2, D0, R0, RD0, G1, GD1, T2, lF, l4, kd, kD, d5, l5, L + 1 + 1 + 1, L + 1 + 1, L + 1], ∃ p ∈ NL0, p.1 = a := by
    intro a ha
    rw [← hmap] at ha
    exact List.mem_map.mp ha
  have hB : ∀ t ∈ tagsB, adr k st t ∈ [D1, R1, RD1, G2, GD2, D2, R2, RD2, D0, R0, RD0, G1, GD1, T2, lF, l4, kd, kD, d5, l5, L + 1 + 1 + 1, L + 1 + 1, L + 1] := by
    intro t ht
    have : adr k st t ∈ tagsB.map (adr k st) := List.mem_map_of_mem ht
    revert this
    show _ ∈ [D1, R1, RD1, G2, GD2, D2, R2, RD2, D0, R0, RD0, G1, GD1, lF, kd, kD, L + 1 + 1 + 1, L + 1 + 1, L + 1] → _
    intro this
    simp only [List.mem_cons, List.not_mem_nil, or_false] at this ⊢
    rcases this with h | h | h | h | h | h | h | h | h | h | h | h | h | h | h | h | h | h | h <;> simp [h]
  have hA : ∀ t ∈ tagsA, @LE.le Nat _ lS (adr k st t) := by
    intro t ht
    have : adr k st t ∈ tagsA.map (adr k st) := List.mem_map_of_mem ht
    revert this
    show _ ∈ [lC, lO, O2, O1, O0, lS] → _
    intro this
    obtain ⟨e1, e2, e3, e4, e5, -⟩ := h1
    simp only [List.mem_cons, List.not_mem_nil, or_false] at this
    rcases this with h | h | h | h | h | h <;> rw [h] <;> omega
  have hMl : ∀ t ∈ tagsM, ∃ p ∈ modsL w [r0, r1, r2, r3], p.1 = adr k st t := by
    intro t ht
    have : adr k st t ∈ tagsM.map (adr k st) := List.mem_map_of_mem ht
    exact List.mem_map.mp (show adr k st t ∈ (modsL w [r0, r1, r2, r3]).map Prod.fst from this)
  have hinj : Inj k st := by
    refine inj_of ?_ ?_ ?_ ?_ ?_
    · show [lC, lO, O2, O1, O0, lS, D1, R1, RD1, G2, GD2, D2, R2, RD2, D0, R0, RD0, G1, GD1, lF, kd, kD, L + 1 + 1 + 1, L + 1 + 1, L + 1].Nodup
      refine List.Pairwise.sublist ?_ (Desc.pair h1)
      repeat (first | exact List.Sublist.slnil | exact List.Sublist.refl _ | refine List.Sublist.cons_cons _ ?_ | refine List.Sublist.cons _ ?_)
    · intro t ht
      rcases List.mem_append.mp ht with ht | ht
      · have := hA t ht
        intro e; rw [e] at this
        exact absurd (Nat.lt_of_lt_of_le h2 this) (Nat.lt_irrefl _)
      · obtain ⟨p, hp, e⟩ := hlow _ (hB t ht)
        rw [← e]; exact hoffm p (List.mem_append_right _ hp)
    · exact hM2
    · intro t ht u hu
      obtain ⟨p, hp, e⟩ := hMl t ht
      rw [← e]
      rcases List.mem_append.mp hu with hu | hu
      · have := hA u hu
        have h4 := ltOf h3 p hp
        intro e2; rw [e2] at h4
        exact absurd (Nat.lt_of_lt_of_le h4 this) (Nat.lt_irrefl _)
      · obtain ⟨q, hq, e2⟩ := hlow _ (hB u hu)
        rw [← e2]; exact hM3 p hp q hq
    · intro t ht
      obtain ⟨p, hp, e⟩ := hMl t ht
      rw [← e]; exact hoffm p (List.mem_append_left _ hp)
  have inv : Inv w k 0 st := ⟨hinj, fun i hi => by
    rcases three hi with rfl | rfl | rfl
    · exact ⟨q0, q3, fun p hp => (nomatch hp), rfl, fun p hp => (nomatch hp), Nat.le_refl _, (show (1 : Int) ≤ 1 by decide), (show (1 : Int) ≤ ((0 : Nat) : Int) + 1 by decide), x3⟩
    · exact ⟨q1, q4, fun p hp => (nomatch hp), rfl, fun p hp => (nomatch hp), Nat.le_refl _, (show (1 : Int) ≤ 1 by decide), (show (1 : Int) ≤ ((0 : Nat) : Int) + 1 by decide), x4⟩
    · exact ⟨q2, q5, fun p hp => (nomatch hp), rfl, fun p hp => (nomatch hp), Nat.le_refl _, (show (1 : Int) ≤ 1 by decide), (show (1 : Int) ≤ ((0 : Nat) : Int) + 1 by decide), x5⟩⟩
  have NN : News g k.L s.heap (led w k st) := by
    refine newsPerm N ?_
    have big : ∀ p ∈ tagsM.map (ent w k st), p ∈ modsL w [r0, r1, r2, r3] := fun p hp => hp
    intro p hp
    obtain ⟨t, ht, rfl⟩ := led_mem hp
    have inM : ∀ t ∈ tagsM, ent w k st t ∈ modsL w [r0, r1, r2, r3] := fun t ht => big _ (List.mem_map_of_mem ht)
    rcases tags_split ht with a | a | a
    · simp only [tagsA, tagsB, List.cons_append, List.nil_append, List.mem_cons, List.not_mem_nil, or_false] at a
      rcases a with rfl | rfl | rfl | rfl | rfl | rfl | rfl | rfl | rfl | rfl | rfl | rfl | rfl | rfl | rfl | rfl | rfl | rfl | rfl | rfl | rfl | rfl | rfl | rfl | rfl <;> first | k_mem | (show (lF, W.listOf [r0.fv, r1.fv, r2.fv, r3.fv].toArray 0) ∈ _; rw [v0, v1, v2, v3]; k_mem)
    · subst a; k_mem
    · have := inM t a
      iterate 31 (refine List.Mem.tail _ ?_)
      exact this
  rw [hm.eq] at F
  exact law_tail (k := k) (st := st) w mean mg mb hlk hb B X T hL hI h63 sta sta2 inv F NN hE hQ
end
end Mine
end Mine
end

section
open PySem PySem.W PySem.Calls PyProof.Rows
theorem Mine.off_M25 {M : Model} {A : Around} {E : Value → Shared → Prop} {s : Shared} {Q : Flow → Shared → Prop} {env : Env} (h : Q .next s) : wpAny M A (execs [] env) Q E s := by
  w_top off
  try walk1
  first
    | exact h
    | exact wpAny_execs_nil h
end
section
open PySem PySem.W PySem.Calls PyProof.Rows Builtin Builtin.ObjectAttr
namespace Mine
namespace Mine

local macro_rules | `(tactic| k_room) => `(tactic| exact Nat.le_of_ble_eq_true rfl)
theorem Desc.step {a b : Nat} {r : List Nat} (h : b < a) (k : Desc (b :: r)) : Desc (a :: b :: r) := ⟨h, k⟩

local macro_rules | `(tactic| walk_at "call ref") => `(tactic| (k_here; k_dflt (refine' use_cell ?B ?F ?X ?N ?T ?hA ?hf ?hke ?hh ?hdp ?hun ?hL ?hI ?h63 ?ha ?ha2 ?_; (case hA => exact rfl); (case hf => exact rfl); (case hke => exact rfl); (case hh => exact rfl); (case hdp => exact Nat.le_of_ble_eq_true rfl); (case hun => exact Nat.le_of_ble_eq_true rfl); (case B => k_asm); (case F => k_asm); (case X => k_asm); (case N => k_asm); (case T => k_asm); (case hL => assumption); (case hI => assumption); (case h63 => assumption); (case ha => omega); (case ha2 => omega); k_whole); intro n t h' tk' hn0 hn1 F' N' keep'; (try dsimp only at keep'); (try dsimp only); (try k_sweep)))

theorem wpAny_pick {M : Model} {A : Around} {E : Value → Shared → Prop} {s : Shared} {m : Sem Value} {P : Value → Prop} {Q : Value → Shared → Prop} (h : wpAny M A m (fun v s' => P v ∧ ∃ tk, s' = { s with toks := tk }) E s)
    (k : ∀ v tk, P v → Q v { s with toks := tk }) : wpAny M A m Q E s := wpAny_mono h (fun v s' ⟨hp, tk, e⟩ => e ▸ k v tk hp) fun _ _ e => e

theorem newsSwap {g h : Heap} {L : Addr} {a : Addr × Obj} {own base : List (Addr × Obj)} (N : News g L h (a :: (own ++ base))) : News g L h (a :: (base ++ own)) := fun p hp => N p (by
  simp only [List.mem_cons, List.mem_append] at hp ⊢; grind)
local macro_rules | `(tactic| k_all) => `(tactic| assumption)

section
variable (w : World) (mean : ExcName → Option Value) (mg mb : Str → Option Value) (S : Addr) (vs : List Value) (ns : List Int)

theorem law_walk {oc : Value} {od : Option Addr} {qual : Str} {params : Arguments} {body : List Stmt} {scope : Scope} {dV kV doc pm cdv ct : Value} {an : Option Addr} {osl : Array (Option Value)}
    (hlk : (hd.heap_39 w.params).lookup 226 = some ⟨oc, od, .func (fnOf (Str.ofString "law") qual params body scope dV kV doc pm an cdv ct), osl⟩)
    {fa : Addr} {cd : Value} {g h₁ : Heap} {L : Addr} {s : Shared} {tk : Nat} {c1 c2 c3 : Obj} {Q : Flow → Shared → Prop} {E : Value → Shared → Prop}
    (B : Below callerA g [] g) (X : (hd.heap_39 w.params).In g) (T : Top hd.view_39 (looseW hd.view_39 [Str.ofString "TextXObject"]) mean mg mb g)
    (hL : g.IsList S vs.toArray) (hI : IntsAre vs ns) (h63 : ns.length ≤ 63)
    (F : Fr g L h₁ (bindL (envOfC qual scope L fa cd).kindOf [(Str.ofString "script", .ref S)] fun _ => none))
    (N : News g L h₁ [(L + 1 + 1 + 1, c3), (L + 1 + 1, c2), (L + 1, c1)])
    (d3 : c3.data = .cell none) (d2 : c2.data = .cell none) (d1 : c1.data = .cell none)
    (hE : PassesOwn (model PySem.Challenge.rw_ez0369_01.row.prog w) (callerA.deeper (envOfC qual scope L fa cd)) (envOfC qual scope L fa cd) E)
    (hQ : ∀ h' tk' m', Fr g L h' m' → Q (.ret (.bool true)) { s with heap := h', toks := tk' }) :
    wpAny (model PySem.Challenge.rw_ez0369_01.row.prog w) (callerA.deeper (envOfC qual scope L fa cd)) (execs body (envOfC qual scope L fa cd)) Q E { s with heap := h₁, toks := tk } := by
  revert hlk
  k_fill
  intro hlk
  have e := look_eq (by k_is) hlk
  simp only [fnOf, fnX, Obj.mk.injEq, Data.func.injEq, FuncData.mk.injEq] at e
  obtain ⟨-, rfl, -, e4, rfl, -⟩ := e
  cases e4
  clear hlk
  (try dsimp only)
  iterate 66 (first | walk1 | (dsimp only; walk1))
  refine wpAny_pick (P := fun v => v = .none ∨ ∃ t, v = .str (Str.ofString "x.m") t) ?_ ?_
  · k_steps
    all_goals first
      | exact Or.inl rfl
      | exact Or.inr ⟨_, rfl⟩
  intro f3 tk3 hf3
  iterate 131 (first | walk1 | (dsimp only; walk1))
  (rename Fr _ _ _ _ => F9); (rename News _ _ _ _ => N9)
  refine made_stmt4 w mean mg mb (by k_is) rfl B X T F9 N9 (by k_mem) (by assumption) (by with_unfolding_all rfl) (by k_mem) ?_
  intro Dm h2 tk2 r0 r1 r2 r3 hM F7 N7 offm
  obtain ⟨-, -, hmo⟩ := id hM
  have hc2 : ∀ p ∈ modsL w [r0, r1, r2, r3], p.1 ≠ L + 1 + 1 := fun p hp => hmo p hp (L + 1 + 1, c2) (by k_mem)
  have hc3 : ∀ p ∈ modsL w [r0, r1, r2, r3], p.1 ≠ L + 1 + 1 + 1 := fun p hp => hmo p hp (L + 1 + 1 + 1, c3) (by k_mem)
  have hD2 : @Ne Nat Dm (L + 1 + 1) := Ne.symm (offm (L + 1 + 1, c2) (List.mem_append_right _ (by k_mem)))
  have hD3 : @Ne Nat Dm (L + 1 + 1 + 1) := Ne.symm (offm (L + 1 + 1 + 1, c3) (List.mem_append_right _ (by k_mem)))
  replace N7 := newsSwap N7
  dsimp only [List.cons_append, List.nil_append] at N7
  clear F9 N9
  iterate 52 (first | walk1 | (dsimp only; walk1))
  (rename Fr _ _ _ _ => F9); (rename News _ _ _ _ => N9); (rename (Dm < _ ∧ _) => q6)
  refine law_glue w mean mg mb (by k_is) rfl B X T hL hI h63 F9 ⟨rfl, rfl, rfl, rfl, rfl, rfl⟩ N9 (by assumption) (by assumption) (by assumption) (by assumption) (by assumption) (by assumption) (by assumption) (by assumption) (by assumption)
    (by assumption) (by assumption) (by assumption) (by assumption) (by assumption) (by assumption) hM hf3 offm rfl ?hdesc q6.1 q6.2.2.2.2.2.2.2.2.2.2.2.2.2.2.2.2.2.2.2.2.2.2.2.2 hE hQ
  case hdesc =>
    repeat (first | exact trivial | (refine Desc.step ?_ ?_; first | assumption | (apply And.left; assumption) | exact q6.2.1 | exact Nat.lt_succ_self _))
end
end Mine
end Mine
end

section
open PySem PySem.W PySem.Calls PyProof.Rows
theorem Mine.off_main {M : Model} {A : Around} {E : Value → Shared → Prop} {s : Shared} {Q : Flow → Shared → Prop} {env : Env} (h : Q .next s) : wpAny M A (execs [] env) Q E s := by
  w_top off
  try walk1
  first
    | exact h
    | exact wpAny_execs_nil h
end
section
open PySem PySem.W PySem.Calls PyProof.Rows Mine Mine.Mine
theorem PySem.Challenge.cw_ez0369_01_holds : PySem.Challenge.rw_ez0369_01.Holds := by
  exact Mine.hd (by
    k_go0
    (all_goals try k_fold)
    rename_i F0 cO cS cK dO dS dK N0 X0
    (rename PySem.W.Frag.In _ _ => KX); (rename Top _ _ _ _ _ _ => T0)
    refine Mine.Mine.law_walk _ _ _ _ _ _ _ (by k_is) (below_caller _) KX T0 (by assumption) (by assumption) (by omega) F0 N0 dO dS dK (by passes_own) ?_
    intro h' tk' m' F'
    clear F0 N0 X0
    k_steps)
end
