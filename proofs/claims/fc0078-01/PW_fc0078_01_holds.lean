import PyProof.Rows.All
import Wide.All
import OpenK.AllK
import Wide.FinOn
import KE.KBoundM
import KE.KDictOf
import KE.KPairComp
import KE.KxDecode
import PySem.Challenge.RW_fc0078_01
set_option Elab.async false
section
open PySem PySem.W PyProof.Rows
set_option Elab.async false
set_option maxRecDepth 100000
set_option maxHeartbeats 0
open_top Mine.hd for PySem.Challenge.rw_fc0078_01
end
section
open PySem PySem.W PyProof.Rows
set_option Elab.async false
set_option maxRecDepth 100000
namespace Mine
abbrev Led := List (Addr × Obj)
abbrev Adr := Addr
abbrev Val := Value
abbrev TopL (mean : ExcName → Option Value) (mg mb : Str → Option Value) (h : Heap) : Prop := Top Mine.hd.view_39 (looseW Mine.hd.view_39 [Str.ofString "SEQUENCE_TYPES", Str.ofString "to_unicode", Str.ofString "CaselessDict", Str.ofString "param_value",
      Str.ofString "QUOTABLE", Str.ofString "dquote", Str.ofString "q_join", Str.ofString "Parameters", Str.ofString "vText"]) mean mg mb h
/-- a def's contract -/
def CC (w : World) (mean : ExcName → Option Value) (mg mb : Str → Option Value) (f : Value) (vs : List Value) (Pre : Led → Prop) (Post : Led → Value → Led → Prop) : Prop :=
  ∀ (dp un : Nat) (gd : Option (List Code)) (cn : Str) (cs : Scope) (a : Addr) (ccd : Value) (cl : List (Str × Addr)) (outer : List Env) (A₀ : Around) (base h₀ : Heap) (L : Addr) (m : Str → Option Value) (news : Led) (s : Shared) (Q E : Value → Shared → Prop),
    Below A₀ base outer h₀ → Fr h₀ L s.heap m → Frag.In (Mine.hd.heap_39 w.params) h₀ → News h₀ L s.heap news → TopL mean mg mb h₀ → cs.kind = .function → dp + 8 < recursionLimit → un + 64 < cLine → Pre news →
    (∀ (v : Value) (h' : Heap) (tk' : Nat) (news' : Led), Fr h₀ L h' m → News h₀ L h' news' → Post news v news' → Q v { s with heap := h', toks := tk' }) →
    wpAny (model PySem.Challenge.rw_fc0078_01.row.toRowW.prog w) (ktrTop dp un gd cn cs L a ccd cl outer) (call f vs) Q E s
/-- a def's contract, one that calls others -/
def CC2 (w : World) (mean : ExcName → Option Value) (mg mb : Str → Option Value) (f : Value) (vs : List Value) (Pre : Led → Prop) (Post : Led → Value → Led → Prop) : Prop :=
  ∀ (dp un : Nat) (gd : Option (List Code)) (cn : Str) (cs : Scope) (a : Addr) (ccd : Value) (cl : List (Str × Addr)) (outer : List Env) (A₀ : Around) (base h₀ : Heap) (L : Addr) (m : Str → Option Value) (news : Led) (s : Shared) (Q E : Value → Shared → Prop),
    Below A₀ base outer h₀ → Fr h₀ L s.heap m → Frag.In (Mine.hd.heap_39 w.params) h₀ → News h₀ L s.heap news → TopL mean mg mb h₀ → cs.kind = .function → dp + 24 < recursionLimit → un + 192 < cLine → Pre news →
    (∀ (v : Value) (h' : Heap) (tk' : Nat) (news' : Led), Fr h₀ L h' m → News h₀ L h' news' → Post news v news' → Q v { s with heap := h', toks := tk' }) →
    wpAny (model PySem.Challenge.rw_fc0078_01.row.toRowW.prog w) (ktrTop dp un gd cn cs L a ccd cl outer) (call f vs) Q E s
/-- a def's contract, at a time behind the first -/
def CCt (w : World) (mean : ExcName → Option Value) (mg mb : Str → Option Value) (f : Value) (vs : List Value) (Pre : Led → Prop) (Post : Led → Value → Led → Prop) : Prop :=
  ∀ (dp un : Nat) (gd : Option (List Code)) (cn : Str) (cs : Scope) (a : Addr) (ccd : Value) (cl : List (Str × Addr)) (outer : List Env) (A₀ : Around) (base h₀ : Heap) (L : Addr) (m : Str → Option Value) (news : Led) (s : Shared) (Q E : Value → Shared → Prop),
    Below A₀ base outer h₀ → Fr h₀ L s.heap m → Frag.In (Mine.hd.heap_39 w.params) h₀ → News h₀ L s.heap news → TopL mean mg mb h₀ → cs.kind = .function → dp + 8 < recursionLimit → un + 64 < cLine → 1 ≤ s.toks → Pre news →
    (∀ (v : Value) (h' : Heap) (tk' : Nat) (news' : Led), Fr h₀ L h' m → News h₀ L h' news' → Post news v news' → Q v { s with heap := h', toks := tk' }) →
    wpAny (model PySem.Challenge.rw_fc0078_01.row.toRowW.prog w) (ktrTop dp un gd cn cs L a ccd cl outer) (call f vs) Q E s
theorem CC.use {w : World} {mean : ExcName → Option Value} {mg mb : Str → Option Value} {f : Value} {vs : List Value} {Pre : Led → Prop} {Post : Led → Value → Led → Prop} (h : CC w mean mg mb f vs Pre Post)
    {dp un : Nat} {gd : Option (List Code)} {cn : Str} {cs : Scope} {a : Addr} {ccd : Value} {cl : List (Str × Addr)} {outer : List Env} {A₀ : Around} {base h₀ : Heap} {L : Addr} {m : Str → Option Value} {news : Led} {s : Shared} {Q E : Value → Shared → Prop}
    (B : Below A₀ base outer h₀) (F : Fr h₀ L s.heap m) (X : Frag.In (Mine.hd.heap_39 w.params) h₀) (N : News h₀ L s.heap news) (T : TopL mean mg mb h₀) (hk : cs.kind = .function) (hdp : dp + 8 < recursionLimit) (hun : un + 64 < cLine) (hpre : Pre news)
    (hret : ∀ (v : Value) (h' : Heap) (tk' : Nat) (news' : Led), Fr h₀ L h' m → News h₀ L h' news' → Post news v news' → Q v { s with heap := h', toks := tk' }) :
    wpAny (model PySem.Challenge.rw_fc0078_01.row.toRowW.prog w) (ktrTop dp un gd cn cs L a ccd cl outer) (call f vs) Q E s :=
  h dp un gd cn cs a ccd cl outer A₀ base h₀ L m news s Q E B F X N T hk hdp hun hpre hret
theorem CC2.use {w : World} {mean : ExcName → Option Value} {mg mb : Str → Option Value} {f : Value} {vs : List Value} {Pre : Led → Prop} {Post : Led → Value → Led → Prop} (h : CC2 w mean mg mb f vs Pre Post)
    {dp un : Nat} {gd : Option (List Code)} {cn : Str} {cs : Scope} {a : Addr} {ccd : Value} {cl : List (Str × Addr)} {outer : List Env} {A₀ : Around} {base h₀ : Heap} {L : Addr} {m : Str → Option Value} {news : Led} {s : Shared} {Q E : Value → Shared → Prop}
    (B : Below A₀ base outer h₀) (F : Fr h₀ L s.heap m) (X : Frag.In (Mine.hd.heap_39 w.params) h₀) (N : News h₀ L s.heap news) (T : TopL mean mg mb h₀) (hk : cs.kind = .function) (hdp : dp + 24 < recursionLimit) (hun : un + 192 < cLine) (hpre : Pre news)
    (hret : ∀ (v : Value) (h' : Heap) (tk' : Nat) (news' : Led), Fr h₀ L h' m → News h₀ L h' news' → Post news v news' → Q v { s with heap := h', toks := tk' }) :
    wpAny (model PySem.Challenge.rw_fc0078_01.row.toRowW.prog w) (ktrTop dp un gd cn cs L a ccd cl outer) (call f vs) Q E s :=
  h dp un gd cn cs a ccd cl outer A₀ base h₀ L m news s Q E B F X N T hk hdp hun hpre hret
theorem CCt.use {w : World} {mean : ExcName → Option Value} {mg mb : Str → Option Value} {f : Value} {vs : List Value} {Pre : Led → Prop} {Post : Led → Value → Led → Prop} (h : CCt w mean mg mb f vs Pre Post)
    {dp un : Nat} {gd : Option (List Code)} {cn : Str} {cs : Scope} {a : Addr} {ccd : Value} {cl : List (Str × Addr)} {outer : List Env} {A₀ : Around} {base h₀ : Heap} {L : Addr} {m : Str → Option Value} {news : Led} {s : Shared} {Q E : Value → Shared → Prop}
    (B : Below A₀ base outer h₀) (F : Fr h₀ L s.heap m) (X : Frag.In (Mine.hd.heap_39 w.params) h₀) (N : News h₀ L s.heap news) (T : TopL mean mg mb h₀) (hk : cs.kind = .function) (hdp : dp + 8 < recursionLimit) (hun : un + 64 < cLine) (htk : 1 ≤ s.toks) (hpre : Pre news)
    (hret : ∀ (v : Value) (h' : Heap) (tk' : Nat) (news' : Led), Fr h₀ L h' m → News h₀ L h' news' → Post news v news' → Q v { s with heap := h', toks := tk' }) :
    wpAny (model PySem.Challenge.rw_fc0078_01.row.toRowW.prog w) (ktrTop dp un gd cn cs L a ccd cl outer) (call f vs) Q E s :=
  h dp un gd cn cs a ccd cl outer A₀ base h₀ L m news s Q E B F X N T hk hdp hun htk hpre hret
end Mine
end
section
open PySem PySem.W PySem.Calls PyProof.Rows
set_option Elab.async false
set_option maxRecDepth 100000
namespace Mine
section
variable {prog : Program} {w : World} {A A₀ : Around} {s : Shared} {K : Frag} {L : Addr} {h₀ base : Heap} {m mg mb : Str → Option Value} {news : List (Addr × Obj)} {p : Program} {loose : List Str} {mean : ExcName → Option Value}

theorem kps_frame {env : Env} {outer : List Env} {R : Result → Shared → Prop} {qual : Str} {body : List Stmt} {scope : Scope} {cdv : Value} {f : Addr} {cl : List (Str × Addr)} {binds : List (Str × Value)} {E : Value → Shared → Prop} (B : Below A₀ base outer h₀) (F : Fr h₀ L s.heap m) (N : News h₀ L s.heap news) (hlim : h₀.NoLimit) (hA : A.frames = some (env :: outer)) (hf : env.frame = some L) (hke : env.scope.kind = .function)
    (hloc : ∀ y ∈ binds, scope.names.lookup y.1 = some .local)
    (h : ∀ g L' h₁, Fr h₀ L g m → Fr g L' h₁ (fun y => binds.reverse.lookup y) → News g L' h₁ news → Below A base (env :: outer) g → h₀.StaysIn g →
      _root_.PySem.wpAt (model prog w) (A.deeper (envX qual scope L' f cdv cl)) (.func body (envX qual scope L' f cdv cl)) (execs body (envX qual scope L' f cdv cl))
        (fun fl s' => LeaveK h₀ L m g R (match fl with | .ret v => v | _ => .none) s')
        (fun e s' => wpAny (model prog w) (A.deeper (envX qual scope L' f cdv cl)) (leaving (envX qual scope L' f cdv cl) e) (fun _ s'' => R (.error e) s'') (fun e' s'' => R (.error e') s'') s')
        { s with heap := h₁, toks := s.toks + binds.length })
    (hcell : ∀ x ∈ scope.names, x.2 ≠ .cell) (hk : scope.kind = .function) :
    wpAny (model prog w) A.in1 (newFunctionEnv scope mainGlobals cl binds (qual ++ ".<locals>.") (some f) cdv none builtinsNs) (fun env' s₂ => s₂.heap.NoLimit ∧ codeAny (model prog w) A (.func body env') R s₂) E s := by
  obtain ⟨FG, BG, st, lv⟩ := groundX (R := R) B F N hA hf hke
  refine wpAny_newFunctionEnv hcell hloc (fun h₁ hns hsb => ⟨(hlim.keeps F.keep).fresh _ hsb, ks_codeAny_funcAt ?_⟩) hk
  have hk₁ : ∀ b o, s.heap.get? b = some o → h₁.get? b = some o := fun b o e => hsb.extBut b o (Nat.ne_of_lt (Heap.lt_size e)) (Heap.get?_push_of_some _ e)
  show _root_.PySem.wpAt (model prog w) (A.deeper (envX qual scope s.heap.objs.size f cdv cl)) (.func body (envX qual scope s.heap.objs.size f cdv cl)) (execs body (envX qual scope s.heap.objs.size f cdv cl)) _ _ _
  exact ks_wpAt_mono (h _ s.heap.objs.size h₁ FG ⟨hns, fun b o e => hk₁ b o (of_hideAll _ e), Nat.le_of_eq (hideAll_size _ _)⟩
    (fun p hp => ⟨hk₁ _ _ (N p hp).1, Nat.ne_of_lt (Heap.lt_size (N p hp).1), hideAll_none _ (List.mem_map_of_mem hp)⟩) BG st) (fun fl s' hl => lv _ _ hl) fun _ _ y => y

/-- a def with *args, **kwargs that closes over __class__ -/
theorem kps_both {env : Env} {outer : List Env} {R : Result → Shared → Prop} {name qual : Str} {params : Arguments} {body : List Stmt} {scope : Scope} {dV kV doc pm cdv ct oc : Value} {an od : Option Addr} {osl : Array (Option Value)} {f cc : Addr} {args : Args} {vs : List Value} {nm nr : Str} {ex front : List (Str × Value)} {g₁ : Addr → Sem (List (Str × Value))} {g₂ : Addr → Addr → Sem (List (Str × Value))}
    (B : Below A₀ base outer h₀) (F : Fr h₀ L s.heap m) (X₀ : K.In h₀) (N : News h₀ L s.heap news) (T : Top p loose mean mg mb h₀) (hA : A.frames = some (env :: outer)) (hf : env.frame = some L) (hke : env.scope.kind = .function)
    (ho : K.lookup f = some ⟨oc, od, .func (ksFn name qual params body scope dV kV doc pm an cdv ct cc), osl⟩) (hcd : codeIn K cdv qual = true) (hroom : A.depth < recursionLimit)
    (hn : kwDistinct ex = true)
    (hp : peekA K ⟨prog, w.params⟩ (bindArgs (ksFn name qual params body scope dV kV doc pm an cdv ct cc) args) = some (({ cls := .type "tuple", data := .seq vs.toArray } : Obj), g₁))
    (hp₂ : ∀ D, peekA K ⟨prog, w.params⟩ (g₁ D) = some (dictOf [] 0, g₂ D))
    (hk₂ : ∀ C D, g₂ C D = (forIn ex PUnit.unit (fun x _ => (nsSet D x.1 x.2 >>= fun _ => pure (ForInStep.yield PUnit.unit))) >>= fun _ => pure (front ++ [(nr, Value.ref C)] ++ [(nm, Value.ref D)])))
    (hloc : ∀ C D, ∀ y ∈ front ++ [(nr, Value.ref C)] ++ [(nm, Value.ref D)], scope.names.lookup y.1 = some .local)
    (h : ∀ C D g L' h₁ tk, (∀ p ∈ news, p.1 < C) → C < D → (D == sysModules) = false → Fr h₀ L g m → Fr g L' h₁ (fun y => (front ++ [(nr, Value.ref C)] ++ [(nm, Value.ref D)]).reverse.lookup y) →
      News g L' h₁ ((D, dictOf (kwEs w.params s.toks ex) (0 + ex.length)) :: (C, ({ cls := .type "tuple", data := .seq vs.toArray } : Obj)) :: news) → Below A base (env :: outer) g → K.In g → Top p loose mean mg mb g →
      _root_.PySem.wpAt (model prog w) (A.deeper (ksEnv qual scope L' f cdv cc)) (.func body (ksEnv qual scope L' f cdv cc)) (execs body (ksEnv qual scope L' f cdv cc))
        (fun fl s' => LeaveK h₀ L m g R (match fl with | .ret v => v | _ => .none) s')
        (fun e s' => wpAny (model prog w) (A.deeper (ksEnv qual scope L' f cdv cc)) (leaving (ksEnv qual scope L' f cdv cc) e) (fun _ s'' => R (.error e) s'') (fun e' s'' => R (.error e') s'') s')
        { s with heap := h₁, toks := tk })
    (hco : scope.isCoroutine = false) (hgen : scope.isGenerator = false) (hk : scope.kind = .function)
    (hcell : ∀ x ∈ scope.names, x.2 ≠ .cell) : codeAny (model prog w) A (.call (.ref f) args) R s := by
  have hn' := kwDistinct_nodup hn
  refine codeAny_call_function (fd := ksFn name qual params body scope dV kV doc pm an cdv ct cc) (body := body) hroom ((X₀.keeps F.keep) _ _ ho) rfl hco hgen rfl (codeRec_of (X₀.keeps F.keep) hcd) ?_
  refine wp_of_peekA (o := ({ cls := .type "tuple", data := .seq vs.toArray } : Obj)) F N (X₀.keeps F.keep) rfl _ g₁ hp fun h' F' N' l => ?_
  refine wp_of_peekA (s := { s with heap := h' }) (o := dictOf [] 0) F' N' (X₀.keeps F'.keep) rfl _ (g₂ s.heap.objs.size) (hp₂ _) fun h'' F'' N'' l' => ?_
  rw [hk₂]
  refine wpAny_bind (kp_fill ex { s with heap := h'' } [] 0 F'' N'' (fun p hp => Nat.ne_of_lt (l' p hp)) (fun _ he => nomatch he) (fun _ he => nomatch he) hn' fun h₃ F₃ N₃ => wpAny_pure ?_)
  exact kps_frame (cl := [("__class__", cc)]) (s := { s with heap := h₃, toks := s.toks + ex.length }) B F₃ N₃ T.nolimit hA hf hke (hloc _ _)
    (fun g L' h₁ FG FL NG BG st => h _ _ g L' h₁ _ l (l' _ (.head _)) (F'.notModules (modules_low T.nolimit)) FG FL NG BG (X₀.keeps st) (T.keeps st)) hcell hk
end

abbrev tupO (vs : List Value) : Obj := { cls := .type "tuple", data := .seq vs.toArray }
section
variable {prog : Program} {w : World} {A : Around} {E : Value → Shared → Prop} {s : Shared} {h₀ : Heap} {L : Addr} {m : Str → Option Value} {news : List (Addr × Obj)}
theorem my_tup_from {value slice : PySem.Expr} {t : Addr} {vs : List Value} {a : Nat} {u : Tok} {Q : Value → Shared → Prop} {ai : Int} (hai : ai = (a : Int))
    (F : Fr h₀ L s.heap m) (N : News h₀ L s.heap news) (hm : (t, tupO vs) ∈ news) (h1 : 1 ≤ a) (ha : a ≤ vs.length) (hz : vs.length ≤ 1000)
    (h : ∀ D h', Fr h₀ L h' m → News h₀ L h' ((D, tupO (vs.drop a)) :: news) → (∀ p ∈ news, p.1 < D) → Q (.ref D) { s with heap := h' })
    (hs : subscripted slice false (.ref t) (.ref s.heap.objs.size) = operate [.ref s.heap.objs.size, .ref t] (getItem (.ref t) (.ref s.heap.objs.size)) := by with_unfolding_all rfl)
    (hg : ∀ r, letTemporaryGo value (.ref t) r = pure () := by intro _; with_unfolding_all rfl) :
    wpAny (model prog w) A (subscriptTail value slice (.ref t) (.ref s.heap.objs.size)) Q E { s with heap := s.heap.push { cls := .type "slice", data := .fields #[.int ai u, .none, .none] } } := by
  subst hai
  exact slice_tuple_from F N ⟨_, (N _ hm).1, rfl, _, rfl⟩ h1 (by rw [List.size_toArray]; exact ha) (fun h' F' N' => h _ h' F' (by simpa using N') fun p hp => Nat.lt_succ_of_lt (Heap.lt_size (N p hp).1)) hs hg (by rw [List.size_toArray, sizeLine_eq]; omega)
end

section
variable {prog : Program} {w : World} {A A₀ : Around} {s : Shared} {K : Frag} {L : Addr} {h₀ base : Heap} {m mg mb : Str → Option Value} {news : List (Addr × Obj)} {p : Program} {loose : List Str} {mean : ExcName → Option Value}
abbrev cellO (v : Option Value) : Obj := { cls := .type "cell", data := .cell v }
theorem kpc_frame {env : Env} {outer : List Env} {R : Result → Shared → Prop} {qual : Str} {body : List Stmt} {scope : Scope} {cdv : Value} {f : Addr} {cl : List (Str × Addr)} {n0 n1 n2 : Str} {v0 v1 v2 : Value} {E : Value → Shared → Prop} (B : Below A₀ base outer h₀) (F : Fr h₀ L s.heap m) (N : News h₀ L s.heap news) (hlim : h₀.NoLimit) (hA : A.frames = some (env :: outer)) (hf : env.frame = some L) (hke : env.scope.kind = .function)
    (h0 : scope.names.lookup n0 = some .local) (h1 : scope.names.lookup n1 = some .local) (h2 : scope.names.lookup n2 = some .cell)
    (hcl : ∀ n, cellsFrom n scope.names cl = (n2, n) :: cl) (hpc : ∀ h : Heap, pushCells h scope.names = h.push (cellO none))
    (h : ∀ g L' c h₁ tk o, o.data = .cell (some v2) → Fr h₀ L g m → Fr g L' h₁ (fun y => if y = n1 then some v1 else if y = n0 then some v0 else none) → News g L' h₁ ((c, o) :: news) → (∀ p ∈ news, p.1 < c) → Below A base (env :: outer) g → h₀.StaysIn g →
      _root_.PySem.wpAt (model prog w) (A.deeper (envX qual scope L' f cdv ((n2, c) :: cl))) (.func body (envX qual scope L' f cdv ((n2, c) :: cl))) (execs body (envX qual scope L' f cdv ((n2, c) :: cl)))
        (fun fl s' => LeaveK h₀ L m g R (match fl with | .ret v => v | _ => .none) s')
        (fun e s' => wpAny (model prog w) (A.deeper (envX qual scope L' f cdv ((n2, c) :: cl))) (leaving (envX qual scope L' f cdv ((n2, c) :: cl)) e) (fun _ s'' => R (.error e) s'') (fun e' s'' => R (.error e') s'') s')
        { s with heap := h₁, toks := tk })
    (hk : scope.kind = .function) :
    wpAny (model prog w) A.in1 (newFunctionEnv scope mainGlobals cl [(n0, v0), (n1, v1), (n2, v2)] (qual ++ ".<locals>.") (some f) cdv none builtinsNs) (fun env' s₂ => s₂.heap.NoLimit ∧ codeAny (model prog w) A (.func body env') R s₂) E s := by
  obtain ⟨FG, BG, st, lv⟩ := groundX (R := R) B F N hA hf hke
  simp only [newFunctionEnv, Option.isSome_none, Bool.false_eq_true, if_false]
  refine wpAny_bind (wpAny_alloc ?_)
  refine wpAny_bind (wpAny_layCells _ (fun name kind cells => by cases hkc : kind == NameKind.cell <;> simp [hkc]) _ _ _ _ ?_)
  rw [show ({ s with heap := s.heap.push { cls := .type "frame", data := .dict #[] } } : Shared).heap.objs.size = s.heap.objs.size + 1 from Heap.size_push ..]
  rw [hcl, hpc]
  have up : ∀ b o, s.heap.get? b = some o → ((s.heap.push { cls := .type "frame", data := .dict #[] }).push (cellO none)).get? b = some o := fun b o e => Heap.get?_push_of_some _ (Heap.get?_push_of_some _ e)
  have hcs : (s.heap.push { cls := .type "frame", data := .dict #[] }).objs.size = s.heap.objs.size + 1 := Heap.size_push ..
  have F1 : Fr (hideAll s.heap (news.map (·.1))) s.heap.objs.size ((s.heap.push { cls := .type "frame", data := .dict #[] }).push (cellO none)) (fun _ => none) :=
    ⟨(Heap.Ns.new s.heap (.type "frame")).keeps fun b o e => Heap.get?_push_of_some _ e, fun b o e => up b o (of_hideAll _ e), Nat.le_of_eq (hideAll_size _ _)⟩
  have N1 : News (hideAll s.heap (news.map (·.1))) s.heap.objs.size ((s.heap.push { cls := .type "frame", data := .dict #[] }).push (cellO none)) ((s.heap.objs.size + 1, cellO none) :: news) := by
    intro q hq
    rcases List.mem_cons.mp hq with rfl | hq
    · refine ⟨?_, Nat.succ_ne_self _, ?_⟩
      · show ((s.heap.push _).push _).get? (s.heap.objs.size + 1) = _
        rw [← hcs]
        exact Heap.get?_push_at rfl rfl
      · cases q : (hideAll s.heap (news.map (·.1))).get? (s.heap.objs.size + 1) with
        | none => rfl
        | some o => exact absurd (Heap.lt_size (of_hideAll _ q)) (Nat.not_lt.mpr (Nat.le_succ _))
    · exact ⟨up _ _ (N q hq).1, Nat.ne_of_lt (Heap.lt_size (N q hq).1), hideAll_none _ (List.mem_map_of_mem hq)⟩
  rw [List.forIn_cons]
  refine wpAny_bind (wpAny_bind (wpAny_bind (storeX_L (cn := qual) (cs := scope) (ccd := cdv) (a := f) (cl := (n2, s.heap.objs.size + 1) :: cl) F1 N1 (fun h' F2 N2 => wpAny_pure ?_) hk h0)))
  dsimp only
  rw [List.forIn_cons]
  refine wpAny_bind (wpAny_bind (storeX_L (cn := qual) (cs := scope) (ccd := cdv) (a := f) (cl := (n2, s.heap.objs.size + 1) :: cl) F2 N2 (fun h'' F3 N3 => wpAny_pure ?_) hk h1))
  dsimp only
  rw [List.forIn_cons]
  refine wpAny_bind (wpAny_bind (storeX_C (cn := qual) (cs := scope) (ccd := cdv) (a := f) (cl := (n2, s.heap.objs.size + 1) :: cl) (g := fun o => (s.heap.objs.size + 1, o) :: news) F3 N3 (c := s.heap.objs.size + 1) (o := cellO none) (v₀ := none) (by rw [List.lookup_cons]; simp) ?U rfl (fun h₃ o' F4 N4 ho' => wpAny_pure ?_) hk h2))
  case U => exact UpdF.head (fun q hq => Nat.ne_of_lt (Nat.lt_succ_of_lt (Heap.lt_size (N q hq).1)))
  dsimp only
  rw [List.forIn_nil]
  refine wpAny_pure (wpAny_pure ?_)
  refine ⟨((hlim.keeps st).keeps F4.keep), ks_codeAny_funcAt ?_⟩
  exact ks_wpAt_mono (h _ s.heap.objs.size (s.heap.objs.size + 1) h₃ _ o' ho' FG F4 N4 (fun q hq => Nat.lt_succ_of_lt (Heap.lt_size (N q hq).1)) BG st) (fun fl s' hl => lv _ _ hl) fun _ _ y => y

theorem kpc_both {env : Env} {outer : List Env} {R : Result → Shared → Prop} {name qual : Str} {params : Arguments} {body : List Stmt} {scope : Scope} {dV kV doc pm cdv ct oc : Value} {an od : Option Addr} {osl : Array (Option Value)} {f cc : Addr} {args : Args} {vs : List Value} {n0 nm nr : Str} {v0 : Value} {g₁ : Addr → Sem (List (Str × Value))} {g₂ : Addr → Addr → Sem (List (Str × Value))}
    (B : Below A₀ base outer h₀) (F : Fr h₀ L s.heap m) (X₀ : K.In h₀) (N : News h₀ L s.heap news) (T : Top p loose mean mg mb h₀) (hA : A.frames = some (env :: outer)) (hf : env.frame = some L) (hke : env.scope.kind = .function)
    (ho : K.lookup f = some ⟨oc, od, .func (ksFn name qual params body scope dV kV doc pm an cdv ct cc), osl⟩) (hcd : codeIn K cdv qual = true) (hroom : A.depth < recursionLimit)
    (hp : peekA K ⟨prog, w.params⟩ (bindArgs (ksFn name qual params body scope dV kV doc pm an cdv ct cc) args) = some (tupO vs, g₁))
    (hp₂ : ∀ D, peekA K ⟨prog, w.params⟩ (g₁ D) = some (dictOf [] 0, g₂ D))
    (hk₂ : ∀ C D, g₂ C D = pure [(n0, v0), (nr, Value.ref C), (nm, Value.ref D)])
    (h0 : scope.names.lookup n0 = some .local) (h1 : scope.names.lookup nr = some .local) (h2 : scope.names.lookup nm = some .cell)
    (hcl : ∀ n, cellsFrom n scope.names [("__class__", cc)] = (nm, n) :: [("__class__", cc)]) (hpc : ∀ h : Heap, pushCells h scope.names = h.push (cellO none))
    (h : ∀ C D c o g L' h₁ tk, (∀ p ∈ news, p.1 < C) → C < D → D < c → C < c → (∀ p ∈ news, p.1 < c) → (D == sysModules) = false → o.data = .cell (some (Value.ref D)) → Fr h₀ L g m → Fr g L' h₁ (fun y => if y = nr then some (Value.ref C) else if y = n0 then some v0 else none) →
      News g L' h₁ ((c, o) :: (D, dictOf [] 0) :: (C, tupO vs) :: news) → Below A base (env :: outer) g → K.In g → Top p loose mean mg mb g →
      _root_.PySem.wpAt (model prog w) (A.deeper (envX qual scope L' f cdv [(nm, c), ("__class__", cc)])) (.func body (envX qual scope L' f cdv [(nm, c), ("__class__", cc)])) (execs body (envX qual scope L' f cdv [(nm, c), ("__class__", cc)]))
        (fun fl s' => LeaveK h₀ L m g R (match fl with | .ret v => v | _ => .none) s')
        (fun e s' => wpAny (model prog w) (A.deeper (envX qual scope L' f cdv [(nm, c), ("__class__", cc)])) (leaving (envX qual scope L' f cdv [(nm, c), ("__class__", cc)]) e) (fun _ s'' => R (.error e) s'') (fun e' s'' => R (.error e') s'') s')
        { s with heap := h₁, toks := tk })
    (hco : scope.isCoroutine = false) (hgen : scope.isGenerator = false) (hk : scope.kind = .function) : codeAny (model prog w) A (.call (.ref f) args) R s := by
  refine codeAny_call_function (fd := ksFn name qual params body scope dV kV doc pm an cdv ct cc) (body := body) hroom ((X₀.keeps F.keep) _ _ ho) rfl hco hgen rfl (codeRec_of (X₀.keeps F.keep) hcd) ?_
  refine wp_of_peekA (o := tupO vs) F N (X₀.keeps F.keep) rfl _ g₁ hp fun h' F' N' l => ?_
  refine wp_of_peekA (s := { s with heap := h' }) (o := dictOf [] 0) F' N' (X₀.keeps F'.keep) rfl _ (g₂ s.heap.objs.size) (hp₂ _) fun h'' F'' N'' l' => ?_
  rw [hk₂]
  refine wpAny_pure ?_
  exact kpc_frame (cl := [("__class__", cc)]) (s := { s with heap := h'' }) B F'' N'' T.nolimit hA hf hke h0 h1 h2 hcl hpc
    (fun g L' c h₁ tk o hoc FG FL NG lc BG st => h _ _ c o g L' h₁ _ l (l' _ (.head _)) (lc _ (.head _)) (lc _ (.tail _ (.head _))) (fun q hq => lc _ (.tail _ (.tail _ hq))) (F'.notModules (modules_low T.nolimit)) hoc FG FL NG BG (X₀.keeps st) (T.keeps st)) hk
end

section
variable {prog : Program} {w : World} {A : Around} {E : Value → Shared → Prop} {s : Shared} {h₀ : Heap} {L : Addr} {m : Str → Option Value} {env : Env}
/-- y = {k: v for x in iter}, iter gives an empty list -/
theorem my_empty_dictcomp {kx vx iter : PySem.Expr} {x y : Str} {px py : Pos} {ifs : List PySem.Expr} {scope : Scope} {cl : List (Str × Addr)} {pos spos : Pos} {Q : Flow → Shared → Prop} {h₁ : Heap} (_ : Fr h₀ L h₁ m) (hbig : sysModules < h₀.objs.size)
    (h : wpAny (model prog w) A (eval iter env) (fun xv s₁ => ∃ ax news, xv = .ref ax ∧ s₁.heap.IsList ax #[] ∧ Fr h₀ L s₁.heap m ∧ News h₀ L s₁.heap news ∧
      ∀ D h' tk, Fr h₀ L h' (fun z => if z = y then some (.ref D) else m z) → News h₀ L h' ((D, dictOf [] 0) :: news) → (∀ p ∈ news, p.1 < D) → (D == sysModules) = false → Q .next { s₁ with heap := h', toks := tk }) E s)
    (hsw : swapsWith (.DictComp kx vx [⟨.Name x px, iter, ifs, 0⟩] scope pos) (some (.Name y py)) spos.line env = pure true) (hL : env.locals = L)
    (hh : A.handled = none) (hclos : closureFor scope env = pure cl) (hcell : ∀ z ∈ scope.names, z.2 ≠ .cell) (hkind : scope.kind = .function)
    (hnames : ∀ z ∈ scope.names, z.2 = .local → scope.names.lookup z.1 = some .local)
    (hy : env.kindOf y = some .local) (hp : (env.scope.kind == .class || (env.scope.kind == .module && env.locals != env.globals)) = false)
    (hs : ∀ x, foldedSetIterable iter env x = pure x) :
    wpAny (model prog w) A (exec (.Assign [.Name y py] (.DictComp kx vx [⟨.Name x px, iter, ifs, 0⟩] scope pos) spos) env) Q E s := by
  subst hL
  rw [exec_Assign_Name_used _ _ _ _ hsw]
  refine wpAny_bind (wpAny_standAt (wpAny_bind ?_))
  show wpAny _ A (do let _ ← comprehension (.DictComp kx vx [⟨.Name x px, iter, ifs, 0⟩] scope pos) scope env _ newDict false (eval iter env) (some (assign (.Name y py) env))) _ _ s
  refine wpAny_bind (wpAny_mono (wpAny_comprehension_free (use := some (assign (.Name y py) env)) (Q := fun _ s' => Q .next s') rfl hs hclos hkind hnames
    (wpAny_mono h (fun xv s₁ h₁ => ?_) fun _ _ e => e)) (fun _ s' hq => wpAny_pure (wpAny_pure hq)) fun _ _ e => e)
  obtain ⟨ax, news, rfl, hl, F, N, hQ⟩ := h₁
  have hlt : ax < s₁.heap.objs.size := by obtain ⟨_, e, _⟩ := hl; exact Heap.lt_size e
  refine wpAny_pyIter_list hl ?_
  have W := Walks.list (prog := prog) (w := w) hh s₁.heap.objs.size ax (Nat.ne_of_lt hlt) #[]
  have hst0 : (s₁.heap.push { cls := .type "list_iterator", data := .fields #[.ref ax, .int 0 0] }).IsListIter s₁.heap.objs.size ax 0 ∧ (s₁.heap.push { cls := .type "list_iterator", data := .fields #[.ref ax, .int 0 0] }).IsList ax #[] :=
    ⟨⟨_, Heap.get?_push_size _ rfl, rfl, rfl⟩, hl.push _⟩
  have up0 : ∀ b o, s₁.heap.get? b = some o → (s₁.heap.push { cls := .type "list_iterator", data := .fields #[.ref ax, .int 0 0] }).get? b = some o := fun b o e => Heap.get?_push_of_some _ e
  have hsz0 : (s₁.heap.push { cls := .type "list_iterator", data := .fields #[.ref ax, .int 0 0] }).objs.size = s₁.heap.objs.size + 1 := Heap.size_push ..
  generalize s₁.heap.push { cls := .type "list_iterator", data := .fields #[.ref ax, .int 0 0] } = H1 at hst0 up0 hsz0 ⊢
  refine wpAny_newObj_type (wpAny_newFunctionEnv hcell (by intro y hy; simp at hy) (fun h₂ hns₂ hsb₂ => ?_) hkind)
  dsimp only at hns₂ hsb₂ ⊢
  have hD2 : (H1.push { cls := .type "dict", dict := none, data := .dict #[] }).get? H1.objs.size = some (dictOf [] 0) := Heap.get?_push_size _ rfl
  have up1 : ∀ b o, H1.get? b = some o → (H1.push { cls := .type "dict", dict := none, data := .dict #[] }).get? b = some o := fun b o e => Heap.get?_push_of_some _ e
  have hsz1 : (H1.push { cls := .type "dict", dict := none, data := .dict #[] }).objs.size = H1.objs.size + 1 := Heap.size_push ..
  generalize H1.push { cls := .type "dict", dict := none, data := .dict #[] } = H2 at hns₂ hsb₂ hD2 up1 hsz1 ⊢
  have old : ∀ b o, H2.get? b = some o → h₂.get? b = some o := fun b o e => hsb₂.extBut b o (Nat.ne_of_lt (Heap.lt_size e)) (Heap.get?_push_of_some _ e)
  have hst₂ := W.frame _ _ _ hst0 fun b _ o e => old b o (up1 b o e)
  have fin : ∀ h' tk, (∀ b o, b ∉ [s₁.heap.objs.size] → h₂.get? b = some o → h'.get? b = some o) →
      compPost (model prog w) A E (some (assign (.Name y py) env)) (fun _ s' => Q .next s') (.ref H1.objs.size) H2.objs.size (.ok .next) { s₁ with heap := h', toks := tk } := by
    intro h' tk hk
    have nm : ∀ b, b ≠ s₁.heap.objs.size → b ∉ [s₁.heap.objs.size] := fun b hb hm => by
      rcases List.mem_cons.mp hm with e | hm
      · exact hb e
      · cases hm
    have up : ∀ b o, s₁.heap.get? b = some o → h'.get? b = some o := fun b o e => hk b o (nm b (Nat.ne_of_lt (Heap.lt_size e))) (old b o (up1 b o (up0 b o e)))
    have hDn : H1.objs.size ≠ s₁.heap.objs.size := by rw [hsz0]; exact Nat.succ_ne_self _
    have hCn : H2.objs.size ≠ s₁.heap.objs.size := by rw [hsz1, hsz0]; exact Nat.ne_of_gt (Nat.lt_succ_of_lt (Nat.lt_succ_self _))
    have hD' : h'.get? H1.objs.size = some (dictOf [] 0) := hk _ _ (nm _ hDn) (old _ _ hD2)
    have hC' : h'.Ns H2.objs.size (fun x => ([] : List (Str × Value)).reverse.lookup x) := hns₂.at' fun o e => hk _ _ (nm _ hCn) e
    have hLs : env.locals < s₁.heap.objs.size := F.ns.lt
    have hLC : env.locals ≠ H2.objs.size := by rw [hsz1, hsz0]; exact Nat.ne_of_lt (Nat.lt_succ_of_lt (Nat.lt_succ_of_lt hLs))
    have hLD : env.locals ≠ H1.objs.size := by rw [hsz0]; exact Nat.ne_of_lt (Nat.lt_succ_of_lt hLs)
    have hDC : H1.objs.size ≠ H2.objs.size := by rw [hsz1]; exact Nat.ne_of_lt (Nat.lt_succ_self _)
    have hn : h'.Ns env.locals m := F.ns.at' fun o e => up _ _ e
    show wpAny _ A (assign (.Name y py) env (.ref H1.objs.size)) _ _ _
    refine wpAny_assign_Name (wpAny_storeName_local (s := { s₁ with heap := h', toks := tk }) hy hn (fun h₄ hn₄ hs₄ => ?_) hp)
    refine ⟨_, hC'.sameBut hs₄ (Ne.symm hLC), fun h₅ hs₅ => ?_⟩
    have keep : ∀ b o, b ≠ env.locals → s₁.heap.get? b = some o → h₅.get? b = some o := fun b o hb e =>
      hs₅.extBut b o (fun q => absurd (Heap.lt_size e) (by rw [q, hsz1, hsz0]; exact Nat.not_lt.mpr (Nat.le_of_lt (Nat.lt_succ_of_lt (Nat.lt_succ_self _))))) (hs₄.extBut b o hb (up b o e))
    have hD5 : h₅.get? H1.objs.size = some (dictOf [] 0) := hs₅.extBut _ _ hDC (hs₄.extBut _ _ (Ne.symm hLD) hD')
    refine hQ H1.objs.size h₅ _ ⟨hn₄.sameBut hs₅ hLC, fun b o e => keep b o (Nat.ne_of_lt (Nat.lt_of_lt_of_le (Heap.lt_size e) F.above)) (F.keep b o e), F.above⟩ (fun q hq => ?_) (fun q hq => ?_) ?_
    · rcases List.mem_cons.mp hq with rfl | hq
      · refine ⟨hD5, Ne.symm hLD, ?_⟩
        cases e : h₀.get? H1.objs.size with
        | none => rfl
        | some o' => exact absurd (Heap.lt_size (F.keep _ _ e)) (by rw [hsz0]; exact Nat.not_lt.mpr (Nat.le_succ _))
      · exact ⟨keep _ _ (N q hq).2.1 (N q hq).1, (N q hq).2⟩
    · rw [hsz0]; exact Nat.lt_succ_of_lt (Heap.lt_size (N q hq).1)
    · refine beq_eq_false_iff_ne.mpr (Nat.ne_of_gt ?_)
      rw [hsz0]
      exact Nat.lt_succ_of_lt (Nat.lt_trans hbig (Nat.lt_of_le_of_lt F.above F.ns.lt))
  have loop : codeAny (model prog w) A (.compLoop (.DictComp kx vx [⟨.Name x px, iter, ifs, 0⟩] scope pos) 0 (.ref s₁.heap.objs.size) (.ref H1.objs.size) (compEnvC scope cl H2.objs.size env)) (compPost (model prog w) A E (some (assign (.Name y py) env)) (fun _ s' => Q .next s') (.ref H1.objs.size) H2.objs.size) { s₁ with heap := h₂, toks := s₁.toks + ([] : List (Str × Value)).length } := by
    refine codeAny_compLoop_testsD (fun n s' => s' = { s₁ with heap := h₂, toks := s₁.toks + ([] : List (Str × Value)).length }) ?_ 0 rfl
    rintro n s' rfl
    refine W.done _ _ _ hst₂ fun h₃ tk hk => ?_
    exact fin h₃ tk hk
  exact codeAny_compStart_dict loop (W.self 0 _ _ _ hst₂ loop)
end
end Mine
end
section
open PySem PySem.W PySem.Calls PyProof.Rows
set_option Elab.async false
set_option maxRecDepth 100000
namespace Mine
section
variable {prog : Program} {w : World} {A : Around} {E : Value → Shared → Prop} {s : Shared}
theorem mergeMapping_empty {d a : Addr} {n k : Nat} {Q : Unit → Shared → Prop} (hd : s.heap.get? d = some (dictOf [] n)) (ha : s.heap.get? a = some (dictOf [] k)) (hS : (a == sysModules) = false) (hq : Q () s) :
    wpAny (model prog w) A (mergeMapping d (.ref a) true) Q E s := by
  have hT : s.TypeIs (.ref a) "dict" := ⟨_, ha, rfl⟩
  have e1 : (dictOf [] n).data = .dict #[] n := rfl
  have e2 : (dictOf [] k).data = .dict #[] k := rfl
  unfold mergeMapping
  refine wpAny_bind (wpAny_isInstance hT isSubtype_dict_dict ?_)
  rw [if_pos rfl]
  refine wpAny_bind (wpAny_specialOf hT F.slot_dict_iter.lookup ?_)
  refine wpAny_bind (wpAny_pure ?_)
  dsimp only [beq_self_eq_true]
  rw [show (some (Value.builtin "dict.__iter__") == some (Value.builtin "dict.__iter__")) = true from by simp]
  dsimp only
  rw [hS]
  rw [if_neg Bool.false_ne_true]
  refine wpAny_bind (wpAny_dictEntries hd e1 ?_)
  rw [if_pos (show (#[] : Array DictEntry).isEmpty = true from rfl)]
  refine wpAny_bind (wpAny_dictEntries ha e2 ?_)
  refine wpAny_bind (wpAny_pure ?_)
  refine wpAny_bind (wpAny_dictEntries ha e2 ?_)
  refine wpAny_bind (wpAny_dictEpoch ha e2 ?_)
  refine wpAny_bind (wpAny_pure ?_)
  exact wpAny_pure hq
theorem mergedKeywords_empty {f : Value} {x : Sem Value} {Q : Addr → Shared → Prop}
    (hx : ∀ (D : Addr) (s₁ : Shared), s₁ = { s with heap := s.heap.push (dictOf [] 0) } → D = s.heap.objs.size →
      wpAny (model prog w) A x (fun v s₂ => ∃ a k, v = .ref a ∧ s₂.heap.get? D = some (dictOf [] 0) ∧ s₂.heap.get? a = some (dictOf [] k) ∧ (a == sysModules) = false ∧ Q D s₂) E s₁) :
    wpAny (model prog w) A (mergedKeywords f [(none, x)]) Q E s := by
  unfold mergedKeywords
  refine wpAny_bind (wpAny_alloc ?_)
  have h1 := hx _ _ rfl rfl
  refine wpAny_bind (wpAny_holding ?_)
  dsimp only [List.isEmpty_nil]
  rw [List.forIn_cons]
  dsimp only
  refine wpAny_bind (wpAny_bind (wpAny_bind ?_))
  rw [if_pos (show ([] : List (Str × Sem Value)).isEmpty = true from rfl)]
  refine wpAny_pure (wpAny_bind ?_)
  refine wpAny_mono h1 (fun v s₂ h₂ => ?_) fun _ _ e => e
  obtain ⟨a, k, rfl, hd, ha, hS, hq⟩ := h₂
  refine wpAny_bind (wpAny_onRaise (wpAny_holding (wpAny_tryCatch (wpAny_onRaise (mergeMapping_empty hd ha hS ?_)))))
  refine wpAny_pure ?_
  dsimp only
  rw [List.forIn_nil]
  refine wpAny_pure ?_
  rw [if_pos (show ([] : List (Str × Sem Value)).isEmpty = true from rfl)]
  first | exact wpAny_pure (wpAny_pure hq) | exact wpAny_pure hq
theorem keywordsIn_empty {f : Value} {d : Addr} {n : Nat} {Q : List (Str × Value) → Shared → Prop} (hd : s.heap.get? d = some (dictOf [] n)) (hq : Q [] s) : wpAny (model prog w) A (keywordsIn f d) Q E s := by
  unfold keywordsIn
  refine wpAny_bind (wpAny_dictEntries hd (show (dictOf [] n).data = .dict #[] n from rfl) ?_)
  refine wpAny_bind (wpAny_pure ?_)
  exact wpAny_pure hq
end
section
variable {prog : Program} {w : World} {A : Around} {E : Value → Shared → Prop} {s : Shared} {K : Frag} {h₀ : Heap} {L : Addr} {m : Str → Option Value} {news : List (Addr × Obj)} {env : Env} {pos p2 p4 : Pos} {f : Value} {first : List Value} {Q : Value → Shared → Prop} {ex ey : PySem.Expr}
/-- f(*x, **y): x a tuple, y an empty dict -/
theorem callWith_SS {t a : Addr} {vs : List Value} {n : Nat} (F : Fr h₀ L s.heap m) (N : News h₀ L s.heap news) (ht : (t, tupO vs) ∈ news) (hz : vs.length ≤ 1000) (ha : (a, dictOf [] n) ∈ news) (hS : (a == sysModules) = false)
    (hL : ∀ h, Fr h₀ L h m → News h₀ L h news → ∃ k, (k = Keeper.frame ∨ k = Keeper.machine ∨ k = Keeper.boundFrame) ∧ Looks (model prog w) h (keeperOf f) k)
    (hx : ∀ {Q' : Value → Shared → Prop} {s' : Shared}, Fr h₀ L s'.heap m → News h₀ L s'.heap news → Q' (.ref t) s' → wpAny (model prog w) A (eval ex env) Q' E s')
    (hy : ∀ {Q' : Value → Shared → Prop} {s' : Shared}, Fr h₀ L s'.heap m → News h₀ L s'.heap news → Q' (.ref a) s' → wpAny (model prog w) A (eval ey env) Q' E s')
    (h : ∀ h', Fr h₀ L h' m → News h₀ L h' news → wpAny (model prog w) A (call f (first ++ vs)) Q E { s with heap := h' }) :
    wpAny (model prog w) A (callWith pos f first (backTo pos (starEach [.Starred ex p2] env)) (backToKw pos (keywordEach [⟨none, ey, p4⟩] env))) Q E s := by
  unfold callWith
  refine wpAny_bind (wpAny_holding ?_)
  show wpAny _ _ (evalArgs f true [(true, (do let v ← eval ex env; standAt pos; pure v))] [(none, (do let v ← eval ey env; standAt pos; pure v))]) _ _ _
  unfold evalArgs
  dsimp only
  refine wpAny_bind (wpAny_bind (hx F N ?_))
  refine wpAny_bind (wpAny_standAt (wpAny_pure ?_))
  refine wpAny_bind (wpAny_pure ?_)
  dsimp only
  refine wpAny_holding ?_
  rw [if_neg (by simp)]
  refine wpAny_bind (mergedKeywords_empty fun D s₁ hs₁ hD => ?_)
  subst hs₁
  have F1 : Fr h₀ L (s.heap.push (dictOf [] 0)) m := F.push _
  have N1 : News h₀ L (s.heap.push (dictOf [] 0)) ((D, dictOf [] 0) :: news) := hD ▸ News.push F N (dictOf [] 0)
  have N2 : News h₀ L (s.heap.push (dictOf [] 0)) news := fun q hq => N1 q (List.mem_cons_of_mem _ hq)
  refine wpAny_bind (hy (s' := { s with heap := s.heap.push (dictOf [] 0) }) F1 N2 ?_)
  refine wpAny_bind (wpAny_standAt (wpAny_pure ?_))
  refine ⟨a, n, rfl, (N1 _ (.head _)).1, (N2 _ ha).1, hS, ?_⟩
  have hst : ∀ {Q' : List Value → Shared → Prop}, (∀ h', Fr h₀ L h' m → News h₀ L h' ((D, dictOf [] 0) :: news) → Q' vs { s with heap := h' }) → StarOf (model prog w) A E (.ref t) Q' { s with heap := s.heap.push (dictOf [] 0) } := fun hq' =>
    star_seq (s := { s with heap := s.heap.push (dictOf [] 0) }) F1 N1 (List.mem_cons_of_mem _ ht) rfl rfl (.inr rfl) rfl (by rw [List.size_toArray, sizeLine_eq]; omega) hq'
  unfold StarOf at hst
  refine wpAny_bind (wpAny_bind ?_)
  refine' wpAny_mono (hst ?h1) (fun b s₂ h₂ => ?h2) (fun _ _ e => e)
  case h2 =>
    obtain ⟨rfl, h₂⟩ := h₂
    rw [if_neg Bool.false_ne_true]
    exact wpAny_holding h₂
  intro h' F' N'
  refine wpAny_bind (wpAny_holding (keywordsIn_empty (N' _ (.head _)).1 ?_))
  refine wpAny_pure ?_
  refine wpAny_bind (wpAny_standAt ?_)
  have hb : ((backTo pos (starEach [PySem.Expr.Starred ex p2] env)).any fun x => x.fst) = true := rfl
  rw [hb]
  simp only [Bool.true_or]
  obtain ⟨k, hk, hL⟩ := hL h' F' (fun q hq => N' q (List.mem_cons_of_mem _ hq))
  refine wpAny_bind (hL.here ?_)
  have tail : ∀ {t : Sem Value} {s₁ : Shared}, wpAny (model prog w) A t Q E s₁ → wpAny (model prog w) A (t >>= fun r => holding [r] point >>= fun _ => pure r) Q E s₁ :=
    fun ht => wpAny_bind (wpAny_mono ht (fun r s₂ hr => wpAny_bind (wpAny_holding (wpAny_point (wpAny_pure hr)))) fun _ _ x => x)
  have hq := h h' F' (fun q hq => N' q (List.mem_cons_of_mem _ hq))
  rcases hk with rfl | rfl | rfl <;> dsimp only <;> first | exact tail (by unfold callMarked; exact Calls.wpAny_keep hq) | exact tail (wpAny_operating hq)
end
end Mine
end
section
open PySem PySem.W PySem.Calls PyProof.Rows
set_option Elab.async false
set_option maxRecDepth 100000
namespace Mine
theorem my_wpAt_MethodCallKW {M : Model} {A : Around} {c : Code} {E : Value → Shared → Prop} {s : Shared} {env : Env} {o : PySem.Expr} {name : Str} {apos pos : Pos} {args : List PySem.Expr} {kws : List Keyword} {pl : Sem Bool} {Q : Value → Shared → Prop}
    (h : _root_.PySem.wpAt M A c (attributeBase o name env (eval o env)) (fun ov s₁ => wpAny M A (getMethod ov name pl) (fun fx s₂ => wpAny M A (callWith pos fx.1 fx.2 (backTo pos (starEach args env)) (backToKw pos (keywordEach kws env))) Q E s₂) E s₁) E s)
    (he : eval (.Call (.Attribute o name apos) args kws pos) env = (do
      let ov ← attributeBase o name env (eval o env)
      standAt apos.atName
      let (f, first) ← holding [ov] (getMethod ov name pl)
      callWith pos f first (backTo pos (starEach args env)) (backToKw pos (keywordEach kws env))) := by rfl) :
    _root_.PySem.wpAt M A c (eval (.Call (.Attribute o name apos) args kws pos) env) Q E s := by
  rw [he]
  refine _root_.PySem.wpAt_bind (ks_wpAt_mono h (fun ov s₁ h₁ => wpAt_of_wpAny (wpAny_bind (wpAny_standAt (wpAny_bind (wpAny_holding (wpAny_mono h₁ (fun fx s₂ h₂ => ?_) fun _ _ x => x)))))) fun _ _ x => x)
  exact h₂
section
variable {prog : Program} {w : World} {A : Around} {E : Value → Shared → Prop} {s : Shared} {h₀ : Heap} {L : Addr} {m mg mb : Str → Option Value} {news : List (Addr × Obj)} {K : Frag} {p : Program} {loose : List Str} {mean : ExcName → Option Value} {x C D f f2 cc cda so : Addr} {ox : Obj} {odx : Option Obj}
/-- super(), also where the frame has cells of its own -/
theorem my_node {body : List Stmt} {q : Str} {scope : Scope} {p0 p1 : Pos} {attr : Str} {whole : Sem Value} {fd : FuncData} {ar : Arg} {vs : Array Value} {file : Str} {tf : Tok} {oc ccl cl : Value} {od cdd cld : Option Addr} {osl ccs csl : Array (Option Value)} {cdD : ClassData} {Q : Value → Shared → Prop} {cells : List (Str × Addr)}
    (F : Fr h₀ L s.heap m) (X₀ : K.In h₀) (N : News h₀ L s.heap news) (T : Top p loose mean mg mb h₀)
    (hcl : cells.lookup ("__class__" : Str) = some cc)
    (hf : K.lookup f = some ⟨oc, od, .func fd, osl⟩) (hp : (fd.params.posonlyargs ++ fd.params.args).head? = some ar) (hv : m ar.arg = some (.ref x)) (I : InstAt s.heap x ox C odx)
    (hcode : K.lookup cda = some ⟨ccl, cdd, .fields vs, ccs⟩) (hvs : vs[2]? = some (.str file tf)) (hfile : ((prog.main.file : Str) == file) = true)
    (hcell : K.lookup cc = some ⟨cl, cld, .cell (some (.ref D)), csl⟩) (hD : clsIn K D = some cdD) (hsub : mroIn K C (.ref D) = some true) (hsuper : nsIn K mainGlobals "super" = some none)
    (hat : (attr == ("__class__" : Str)) = false) (hks : scope.names.lookup ("super" : Str) = some .globalImplicit) (hkc : scope.names.lookup ("__class__" : Str) = some .free) (hka : scope.names.lookup ar.arg = some .local) (hk : scope.kind = .function)
    (htop : (prog.main.scope.names.lookup ("super" : Str)).isSome = false) (hboot : bootBuiltins "super" = some (.type "super"))
    (h : ∀ so h', Fr h₀ L h' m → News h₀ L h' ((so, ks_superObj D x C) :: news) → (∀ p ∈ news, p.1 < so) → Q (.ref so) { s with heap := h' }) :
    _root_.PySem.wpAt (model prog w) A (.func body (envX q scope L f (.ref cda) cells)) (attributeBase (.Call (.Name "super" p0) [] [] p1) attr (envX q scope L f (.ref cda) cells) whole) Q E s := by
  have X : K.In s.heap := X₀.keeps F.keep
  obtain ⟨hh, g, d, t, os⟩ := s
  obtain ⟨oD, hD1, hD2⟩ : ∃ oD, hh.get? D = some oD ∧ oD.data = .cls cdD := by
    unfold clsIn at hD
    split at hD
    · rename_i c d cd' sl ho
      cases hD
      exact ⟨_, X _ _ ho, rfl⟩
    · cases hD
  refine ks_wpAt_super_base (env := envX q scope L f (.ref cda) cells) hks hkc hat rfl (X _ _ hf) rfl hp rfl (X _ _ hcode) rfl hvs hfile htop ?_
  refine ks_loadName_global hk hks (loadGlobal_builtin (env := envX q scope L f (.ref cda) cells) (T.g.keeps F.keep) (mg_none_of X₀ T.g hsuper) (T.b.keeps F.keep) ((T.builtins _ (by decide +kernel)).trans hboot) ⟨rfl, ?_⟩)
  refine wpAny_loadName_free hk hkc hcl ⟨_, X _ _ hcell, rfl⟩ ?_
  refine wpAny_loadName_local hk hka F.ns hv ?_
  refine ks_wpAny_isType_cls hD1 hD2 ⟨rfl, ?_⟩
  refine ks_wpAny_call_super hD1 hD2 I.at_ I.cls (fun c e => ?_) (looks_mroIn X hsub) (fun h' e k => ?_)
  · have := I.no
    unfold notCls at this
    rw [e] at this
    exact Bool.noConfusion this
  · obtain ⟨F', N', l'⟩ := ks_newsPush (s := ⟨hh, g, d, t, os⟩) F N rfl e k
    exact h _ _ F' N' l'
end
theorem slot_wd_get : Slot "wrapper_descriptor" "__get__" "wrapper_descriptor.__get__" := .of (owner := "wrapper_descriptor") (n := "__get__") (by rw [typeLookup_type, builtinLookup_eq_fast]; kernel_rfl) (by decide +kernel) (by decide +kernel) (by decide +kernel)
  (by first | exact .inl (by decide +kernel) | exact .inr (by decide +kernel)) (by rw [isSubtype_type]; kernel_rfl)
theorem entry_wd_get : entryFor table "wrapper_descriptor.__get__" = some Builtin.«wrapper_descriptor.__get__» := entryFor_of_tree (by kernel_rfl)
theorem args_wd_get (a b c : Value) : argsOk "wrapper_descriptor.__get__" ⟨[a, b, c], []⟩ := by unfold argsOk; kernel_rfl
theorem type_dict_init : typeOf (.builtin "dict.__init__") = pure (.type "wrapper_descriptor") := by show builtinType _ = _; rw [builtinType_eq_fast]; kernel_rfl
abbrev mwObj (i : String) (x : Addr) : Obj := { cls := .type "method-wrapper", dict := none, data := .fields #[.builtin i, .ref x], slots := #[] }
theorem kind_wd_get : builtinKind "wrapper_descriptor.__get__" = some .slot := by rw [builtinKind_eq_fast]; decide +kernel
theorem split_wd_get : splitId "wrapper_descriptor.__get__" = some ("wrapper_descriptor", "__get__") := by decide +kernel
theorem sub_wd : isSubtype (.type "wrapper_descriptor") (.type "wrapper_descriptor") = pure true := by rw [isSubtype_type]; kernel_rfl
theorem inst_wd (M : Model) (h : Heap) : Looks M h (isInstance (.builtin "dict.__init__") (.type "wrapper_descriptor")) true := by
  unfold isInstance
  exact (Looks.of_pure type_dict_init).andThen (Looks.of_pure sub_wd)
section
variable {prog : Program} {w : World} {M : Model} {A : Around} {E : Value → Shared → Prop} {h : Heap} {g : Array GenState} {d : Drawn} {t : Nat} {os : OsState}
theorem wd_get {x C : Addr} {ox : Obj} {Q : Value → Shared → Prop} (hx : h.get? x = some ox) (hc : ox.cls = .ref C) (hsub : Looks (model prog w) h (isSubtype (.ref C) (.type "dict")) true)
    (hq : Q (.ref h.objs.size) ⟨h.push (mwObj "dict.__init__" x), g, d, t, os⟩) :
    wpAny (model prog w) A (call (.builtin "wrapper_descriptor.__get__") [.builtin "dict.__init__", .ref x, .ref C]) Q E ⟨h, g, d, t, os⟩ := by
  refine wpAny_call ?_
  refine codeAny_call_builtin slot_wd_get.plain entry_wd_get ?_
  refine @check_slot (model prog w) _ _ ⟨h, g, d, t, os⟩ "wrapper_descriptor.__get__" "wrapper_descriptor" "__get__" (.builtin "dict.__init__") [.ref x, .ref C] [] _ kind_wd_get split_wd_get (inst_wd _ _) (args_wd_get _ _ _) ?_
  have e : ".".intercalate ("dict.__init__".cutAt '.').dropLast = "dict" := by decide +kernel
  have hsub' : Looks (model prog w) h (isSubtype (.ref C) (.type (".".intercalate ("dict.__init__".cutAt '.').dropLast))) true := by rw [e]; exact hsub
  obtain ⟨oc, od, odt, osl⟩ := ox
  dsimp only at hc
  subst hc
  unfold Builtin.«wrapper_descriptor.__get__»
  repeat lk
  all_goals exact hq
/-- super().__init__, where the next in line is dict -/
theorem super_ga_init {so D x C : Addr} {ox : Obj} {l₀ l : List Value} {K : Frag} {tk : Tok} {Q : Fin → Shared → Prop}
    (hso : h.get? so = some (ks_superObj D x C)) (hno : Looks (model prog w) h (opaqueClassAbove (.ref C)) none)
    (hC : Looks (model prog w) h (mroOf (.ref C)) l₀) (hl : (l₀.dropWhile (· != .ref D)).drop 1 = l) (X : K.In h)
    (hf : alongIn K "__init__" l = some (some (.builtin "dict.__init__"))) (hx : h.get? x = some ox) (hc : ox.cls = .ref C) (hsub : Looks (model prog w) h (isSubtype (.ref C) (.type "dict")) true) (hxC : x ≠ C)
    (hq : Q (.done (.ret (.ref h.objs.size))) ⟨h.push (mwObj "dict.__init__" x), g, d, t, os⟩) :
    wpAny (model prog w) A (Builtin.«super.__getattribute__» ⟨[.ref so, .str "__init__" tk], []⟩) Q E ⟨h, g, d, t, os⟩ := by
  have hlk := slot_wd_get.lookup
  have htd := type_dict_init
  have hne : (Value.ref x == Value.ref C) = false := by simp [hxC]
  have hn : (("__init__" : Str) == ("__class__" : Str)) = false := by decide
  have hdt : (ks_superObj D x C).data = .fields #[.ref D, .ref x, .ref C] := rfl
  have f0 : (#[.ref D, .ref x, .ref C] : Array Value)[0]? = some (.ref D) := rfl
  have f1 : (#[.ref D, .ref x, .ref C] : Array Value)[1]? = some (.ref x) := rfl
  have f2 : (#[.ref D, .ref x, .ref C] : Array Value)[2]? = some (.ref C) := rfl
  unfold Builtin.«super.__getattribute__»
  repeat (first
    | (with_reducible refine wpAny_field hso hdt f0 ?_) | (with_reducible refine wpAny_field hso hdt f1 ?_) | (with_reducible refine wpAny_field hso hdt f2 ?_)
    | (with_reducible refine ks_wpAny_notOpaque hno ?_)
    | (with_reducible refine Looks.at hC ?_; rw [hl])
    | (refine ks_forIn_along X (fun _ _ => rfl) rfl ?_ hf)
    | (with_reducible refine wpAny_of_eq htd ?_)
    | (with_reducible refine wpAny_of_eq hlk ?_)
    | (with_reducible refine wd_get hx hc hsub ?_)
    | (simp only [hn, hne, Bool.or_false, Bool.false_eq_true, if_false])
    | wp_step
    | dsimp only)
  all_goals exact hq
theorem getMethod_super_init {so D x C : Addr} {ox : Obj} {l₀ l : List Value} {K : Frag} {pl : Sem Bool} {Q : Value × List Value → Shared → Prop}
    (hso : h.get? so = some (ks_superObj D x C)) (hno : Looks (model prog w) h (opaqueClassAbove (.ref C)) none)
    (hC : Looks (model prog w) h (mroOf (.ref C)) l₀) (hl : (l₀.dropWhile (· != .ref D)).drop 1 = l) (X : K.In h)
    (hf : alongIn K "__init__" l = some (some (.builtin "dict.__init__"))) (hx : h.get? x = some ox) (hc : ox.cls = .ref C) (hsub : Looks (model prog w) h (isSubtype (.ref C) (.type "dict")) true) (hxC : x ≠ C)
    (hq : Q (.ref h.objs.size, []) ⟨h.push (mwObj "dict.__init__" x), g, d, t + 1, os⟩) :
    wpAny (model prog w) A (getMethod (.ref so) "__init__" pl) Q E ⟨h, g, d, t, os⟩ := by
  have hlk := F.ks_slot_super_ga.lookup
  have hcan := F.ks_canon_super_ga
  have hT : ∀ t', (⟨h, g, d, t', os⟩ : Shared).TypeIs (.ref so) "super" := fun _ => ⟨_, hso, rfl⟩
  unfold getMethod
  refine wpAny_bind (wpAny_specialOf (hT _) hlk ?_)
  show wpAny _ _ (if (Manifest.canonical "super.__getattribute__" != "object.__getattribute__") = true then _ else _) _ _ _
  rw [if_pos hcan]
  unfold getAttr getAttrBy
  refine wpAny_bind (wpAny_bind (wpAny_mkText (wpAny_holding (wpAny_bind (wpAny_typeOf (hT _) (wpAny_bind (wpAny_of_eq hlk ?_)))))))
  show wpAny _ _ (getAttrByItsOwn (.ref so) (.str "__init__" t) (.type "super") (.builtin "super.__getattribute__") true false) _ _ _
  unfold getAttrByItsOwn hookBefore callGetattribute boundAndCalled
  refine wpAny_bind (wpAny_of_eq (show (if onTheHeap (.type "super") then typeLookup (.type "super") "__getattr__" else pure none) = pure none from rfl) ?_)
  refine wpAny_bind (wpAny_attempt (wpAny_holding ?_))
  show wpAny _ _ (bindSpecial (.builtin "super.__getattribute__") (.ref so) >>= _) _ _ _
  refine wpAny_bind (wpAny_of_eq (F.ks_slot_super_ga.bind _) ?_)
  refine wpAny_mono (Q := fun v s' => v = .ref h.objs.size ∧ s' = ⟨h.push (mwObj "dict.__init__" x), g, d, t + 1, os⟩) (E := fun _ _ => False)
    (wpAny_call_entry F.ks_slot_super_ga (hT _) F.ks_entry_super_ga (super_ga_init hso hno hC hl X hf hx hc hsub hxC ⟨_, rfl, rfl, rfl⟩) (F.ks_gaArgs_super _ _)) (fun v s' hv => ?_) fun _ _ z => z.elim
  obtain ⟨rfl, rfl⟩ := hv
  exact wpAny_pure (wpAny_pure hq)
theorem dict_init_none {x C : Addr} {ox : Obj} {Q : Fin → Shared → Prop} (hx : h.get? x = some ox) (hc : ox.cls = .ref C) (hod : Looks (model prog w) h (isSubtype (.ref C) (.type "collections.OrderedDict")) false)
    (hq : Q (.done (.ret .none)) ⟨h, g, d, t, os⟩) : wpAny (model prog w) A (Builtin.«dict.__init__» ⟨[.ref x], []⟩) Q E ⟨h, g, d, t, os⟩ := by
  obtain ⟨oc, od, odt, osl⟩ := ox
  dsimp only at hc
  subst hc
  unfold Builtin.«dict.__init__»
  repeat lk
  all_goals exact hq
theorem kind_dict_init : builtinKind "dict.__init__" = some .slot := by rw [builtinKind_eq_fast]; decide +kernel
theorem bound_dict_init (x : Addr) : checkBoundCall "dict.__init__" ⟨[.ref x], []⟩ = pure () := by kernel_rfl
theorem call_mw_init {q x C : Addr} {ox : Obj} {Q : Value → Shared → Prop} (hqo : h.get? q = some (mwObj "dict.__init__" x)) (hx : h.get? x = some ox) (hc : ox.cls = .ref C) (hod : Looks (model prog w) h (isSubtype (.ref C) (.type "collections.OrderedDict")) false)
    (hq : Q .none ⟨h, g, d, t, os⟩) : wpAny (model prog w) A (call (.ref q) []) Q E ⟨h, g, d, t, os⟩ := by
  refine wpAny_call (codeAny_of_tree ?_)
  show wpAny _ A.in1 (callAny (.ref q) _) _ _ _
  unfold callAny
  refine wpAny_bind (wpAny_load hqo ?_)
  dsimp only
  rw [if_pos (by decide)]
  show wpAny _ _ (if (Value.type "method-wrapper" != Value.type "method") = true then (checkBoundCall "dict.__init__" ⟨[.ref x], []⟩ >>= fun _ => again (.builtin "dict.__init__" ⟨[.ref x], []⟩)) else _) _ _ _
  rw [if_pos (by decide)]
  refine wpAny_bind (wpAny_of_eq (bound_dict_init x) ?_)
  refine wpAny_pure ⟨plainId_quiet (by decide +kernel) _, codeAny_builtin F.entry_dict_init ?_⟩
  refine dict_init_none hx hc hod ?_
  exact hq
end
section
variable {prog : Program} {w : World} {A : Around} {E : Value → Shared → Prop} {s : Shared} {h₀ : Heap} {L : Addr} {m : Str → Option Value} {news : List (Addr × Obj)} {K : Frag} {x C D so q : Addr} {ox : Obj} {odx : Option Obj}
/-- super().__init__ at a dict subclass -/
theorem my_super_init {pl : Sem Bool} {Q : Value × List Value → Shared → Prop} (F : Fr h₀ L s.heap m) (X₀ : K.In h₀) (N : News h₀ L s.heap news) (hso : (so, ks_superObj D x C) ∈ news) (I : InstAt s.heap x ox C odx) (ho : nsIn K cStatics "thirdparty.any" = some none)
    (hm : ks_superIn K C D "__init__" = some (some (.builtin "dict.__init__"))) (hd : mroIn K C (.type "dict") = some true)
    (h : ∀ q h', Fr h₀ L h' m → News h₀ L h' ((q, mwObj "dict.__init__" x) :: news) → (∀ p ∈ news, p.1 < q) → Q (.ref q, []) { s with heap := h', toks := s.toks + 1 }) : wpAny (model prog w) A (getMethod (.ref so) "__init__" pl) Q E s := by
  have X : K.In s.heap := X₀.keeps F.keep
  obtain ⟨hh, g, d, t, os⟩ := s
  cases hc : clsIn K C with
  | none => unfold ks_superIn at hm; rw [hc] at hm; cases hm
  | some cd =>
    unfold ks_superIn at hm
    rw [hc] at hm
    refine getMethod_super_init (N _ hso).1 (looks_opaque X ho) (l₀ := cd.mro) ?_ rfl X hm I.at_ I.cls (looks_mroIn X hd) (ks_ne X I hc) ?_
    · exact fun A Q E s k q => wpAny_bind ((looks_clsIn X hc) A _ E s k (wpAny_pure q))
    · obtain ⟨F', N', l'⟩ := ks_newsPush (s := ⟨hh, g, d, t, os⟩) (o := mwObj "dict.__init__" x) F N rfl (Heap.get?_push_at rfl rfl) (fun b o e => Heap.get?_push_of_some _ e)
      exact h _ _ F' N' l'
theorem my_call_mw {Q : Value → Shared → Prop} (F : Fr h₀ L s.heap m) (X₀ : K.In h₀) (N : News h₀ L s.heap news) (hq : (q, mwObj "dict.__init__" x) ∈ news) (I : InstAt s.heap x ox C odx) (hd : mroIn K C (.type "collections.OrderedDict") = some false)
    (h : Q .none s) : wpAny (model prog w) A (call (.ref q) []) Q E s := by
  obtain ⟨hh, g, d, t, os⟩ := s
  exact call_mw_init (N _ hq).1 I.at_ I.cls (looks_mroIn (X₀.keeps F.keep) hd) h
end
end Mine
end
section
open PySem PySem.W PySem.Calls PyProof.Rows Builtin Builtin.ObjectAttr
set_option Elab.async false
set_option maxRecDepth 100000
set_option maxHeartbeats 1000000
namespace Mine
def makesDIn (K : Frag) (C : Addr) : Bool := match K.lookup C with
  | some ⟨_, _, .cls cd, sl⟩ => !cd.hasDel && (sl.toList[4]?).join == some (.builtin "dict.__new__") && !cd.mro.isEmpty && cd.mro.contains (.ref C) && cd.mro.contains (.type "dict") &&
      !(cd.mro.any fun | .type n => !["dict", "object", "collections.defaultdict", "collections.OrderedDict"].contains n | _ => false) &&
      specialIn K (.ref C) "__call__" == some (some (.builtin "type.__call__")) && instIn K (.ref C) (.type "type") == some true
  | _ => false
structure MakesD (M : Model) (h : Heap) (C : Addr) : Prop where
  obj : ∃ oc od cd sl, h.get? C = some ⟨oc, od, .cls cd, sl⟩ ∧ cd.hasDel = false ∧ cd.mro.isEmpty = false ∧ (cd.mro.any fun | .type n => !["dict", "object", "collections.defaultdict", "collections.OrderedDict"].contains n | _ => false) = false
  made : Looks M h (Bind.madeBy (.ref C)) (some "dict.__new__")
  base : Looks M h (Bind.staticBase (.ref C)) (.ref C)
  self : Looks M h (isSubtype (.ref C) (.ref C)) true
  top : Looks M h (isSubtype (.ref C) (.type "dict")) true
  call : Looks M h (specialOf (.ref C) "__call__") (some (.builtin "type.__call__"))
  typ : Looks M h (isInstance (.ref C) (.type "type")) true
theorem makesD_of {K : Frag} {M : Model} {h : Heap} (X : K.In h) {C : Addr} (e : makesDIn K C = true) : MakesD M h C := by
  unfold makesDIn at e
  split at e
  · rename_i oc od cd sl ho
    simp only [Bool.and_eq_true, Bool.not_eq_true', beq_iff_eq] at e
    obtain ⟨⟨⟨⟨⟨⟨⟨e2, e3⟩, e4⟩, e5⟩, e6⟩, e1⟩, e7⟩, e8⟩ := e
    have hc : clsIn K C = some cd := by unfold clsIn; rw [ho]
    have hm : Looks M h (mroOf (.ref C)) cd.mro := (looks_clsIn X hc).andThen .now
    obtain ⟨c, l, hl⟩ : ∃ c l, cd.mro = c :: l := by cases q : cd.mro with | nil => rw [q] at e4; cases e4 | cons c l => exact ⟨c, l, rfl⟩
    have made : Looks M h (Bind.madeBy (.ref C)) (some "dict.__new__") := by
      intro A Q E s k q
      unfold Bind.madeBy
      refine wpAny_bind (hm A _ E s k ?_)
      rw [hl, List.forIn_cons]
      refine wpAny_bind (wpAny_bind (wpAny_bind (wpAny_bind (wpAny_loadPart (k _ _ (X _ _ ho)) (wpAny_pure ?_)))))
      dsimp only
      rw [← Array.getElem?_toList, e3]
      exact wpAny_pure (wpAny_pure (wpAny_pure q))
    refine ⟨⟨oc, od, cd, sl, X _ _ ho, e2, e4, e1⟩, made, ?_, looks_mroIn X ?_, looks_mroIn X ?_, looks_specialIn X e7, looks_instIn X e8⟩
    · intro A Q E s k q
      unfold Bind.staticBase
      refine wpAny_bind (hm A _ E s k ?_)
      rw [hl, List.forIn_cons]
      exact wpAny_bind (wpAny_bind (wpAny_bind (made A _ E s k (wpAny_pure (wpAny_pure (wpAny_pure q))))))
    · unfold mroIn; rw [hc, Option.bind_some, if_neg (by rw [e4]; decide), e5]
    · unfold mroIn; rw [hc, Option.bind_some, if_neg (by rw [e4]; decide), e6]
  · cases e
abbrev dObj (C dx : Addr) : Obj := { cls := .ref C, dict := some dx, data := .dict #[] }
theorem dn_args (a b : Value) : argsOk "dict.__new__" ⟨[a, b], []⟩ := by unfold argsOk; kernel_rfl
theorem dn_kind : builtinKind "dict.__new__" = some .builtinFn := by rw [builtinKind_eq_fast]; decide +kernel
theorem dn_split : splitId "dict.__new__" = some ("dict", "__new__") := by decide +kernel
section
variable {prog : Program} {w : World} {A : Around} {K : Frag} {C : Addr} {R : Result → Shared → Prop} {h : Heap} {g : Array GenState} {d : Drawn} {t : Nat} {os : OsState}
theorem new_D {v : Value} (Y : MakesD (model prog w) h C)
    (hq : R (.ok (.ret (.ref (h.objs.size + 1)))) ⟨(h.push emptyDict).push (dObj C h.objs.size), g, d, t, os⟩) :
    codeAny (model prog w) A (.call (.builtin "dict.__new__") ⟨[.ref C, v], []⟩) R ⟨h, g, d, t, os⟩ := by
  obtain ⟨⟨oc, od, cd, sl, hC, e2, e4, e1⟩, made, base, self, top, call, typ⟩ := Y
  have ha := dn_args (.ref C) v
  refine codeAny_call_builtin F.kt_plain_dict_new F.kt_entry_dict_new ?_
  have hm : Looks (model prog w) h (mroOf (.ref C)) cd.mro := ((Looks.ld (part := none) hC).andThen .now).andThen .now
  have tail : wpAny (model prog w) A.in1 (do
      let x ← alloc { cls := .type "dict", data := .dict #[] }
      let y ← newObj (.ref C) (.dict #[]) (some x)
      ret y) (fun fin s' => match fin with | .done f => R (.ok f) s' | .again c' => c'.quiet = true ∧ codeAny (model prog w) A c' R s') (fun e s' => R (.error e) s') ⟨h, g, d, t, os⟩ := by
    refine wpAny_bind (wpAny_alloc (wpAny_bind ?_))
    have e : newObj (.ref C) (.dict #[]) (some h.objs.size) = newObjAsIs (.ref C) (.dict #[]) (some h.objs.size) := by
      unfold newObj
      dsimp only
      rw [if_neg (by rw [sizeLine_eq]; decide)]
      try rfl
    show wpAny _ _ (newObj (.ref C) (.dict #[]) (some h.objs.size)) _ _ _
    rw [e]
    unfold newObjAsIs classHasDel
    refine wpAny_bind (wpAny_alloc (wpAny_bind (wpAny_bind (wpAny_load (Heap.get?_push_of_some _ (Heap.get?_push_of_some _ hC)) (wpAny_pure ?_)))))
    rw [e2]
    refine wpAny_pure (wpAny_pure ?_)
    show R _ _
    rw [Heap.size_push]
    exact hq
  simp only [checkBuiltinCall, dn_kind, dn_split]
  cases hsig : Manifest.signature? "dict.__new__" with
  | none =>
    repeat (first | simp only [bne_self_eq_false, Bool.false_eq_true, if_false] | lk)
    all_goals (rw [if_neg (by intro hh; exact Bool.noConfusion (e1.symm.trans hh))]; exact tail)
  | some sg =>
    simp only [argsOk, hsig] at ha
    have hck : Looks (model prog w) h (Bind.checkArgs "dict.__new__" sg ⟨[.ref C, v], []⟩) () := Looks.of_pure ha
    repeat (first | simp only [bne_self_eq_false, Bool.false_eq_true, if_false] | lk)
    all_goals (rw [if_neg (by intro hh; exact Bool.noConfusion (e1.symm.trans hh))]; exact tail)

theorem make_Dcore {v init : Value} (Y : MakesD (model prog w) h C) (hi : Looks (model prog w) h (typeLookup (.ref C) "__init__") (some init))
    (hb : ∀ self, Looks (model prog w) h (bindSpecial init self) (init, [self]))
    (hq : codeAny (model prog w) (A.under (.builtin "type.__call__" ⟨[.ref C, v], []⟩)) (.call init ⟨[.ref (h.objs.size + 1), v], []⟩) (InitBack (h.objs.size + 1) R) ⟨(h.push emptyDict).push (dObj C h.objs.size), g, d, t, os⟩) :
    codeAny (model prog w) A (.call (.ref C) ⟨[v], []⟩) R ⟨h, g, d, t, os⟩ := by
  have Y' := Y
  obtain ⟨⟨oc, od, cd, sl, hC, e2, e4, e1⟩, made, base, self, top, call, typ⟩ := Y
  refine codeAny_of_tree ?_
  show wpAny _ _ (callAny (.ref C) _) _ _ _
  refine nd_load hC ?_
  show wpAny _ _ (callAny.viaDunder (.ref C) _) _ _ _
  unfold callAny.viaDunder
  refine wpAny_bind (call.at ?_)
  dsimp only
  rw [tc_bind]
  refine wpAny_bind (wpAny_pure (wpAny_bind (wpAny_pure ?_)))
  refine wpAny_pure (a := Fin.again (.call (.builtin "type.__call__") ⟨[.ref C, v], []⟩)) (And.intro rfl ?_)
  refine codeAny_call_builtin_at (Code.quiet_builtin _ (by decide +kernel)) entry_typeCall (check_slot tc_kind tc_split typ (tc_args _ _ _) ?_)
  unfold Builtin.«type.__call__»
  have hm : Looks (model prog w) h (mroOf (.ref C)) cd.mro := ((Looks.ld (part := none) hC).andThen .now).andThen .now
  repeat (first | simp only [e4, Bool.false_eq_true, if_false] | with_reducible refine wpAny_call ?_ | lk)
  refine new_D Y' ?_
  have k : ∀ b o, h.get? b = some o → ((h.push emptyDict).push (dObj C h.objs.size)).get? b = some o := fun b o e => Heap.get?_push_of_some _ (Heap.get?_push_of_some _ e)
  have hx : ((h.push emptyDict).push (dObj C h.objs.size)).get? (h.objs.size + 1) = some (dObj C h.objs.size) := by heap_get
  have t1 : Looks (model prog w) ((h.push emptyDict).push (dObj C h.objs.size)) (typeOf (.ref (h.objs.size + 1))) (.ref C) := (Looks.ld hx).andThen .now
  have s1 := self.keeps k
  have i1 := hi.keeps k
  have b1 := (hb (.ref (h.objs.size + 1))).keeps k
  unfold isInstance callSpecial? specialOf
  repeat (first | with_reducible refine wpAny_call ?_ | lk)
  refine codeAny_mono hq fun r s' z => ?_
  rcases r with e | (v | _ | _ | _) <;> first | exact z | exact z.elim | skip
  obtain ⟨rfl, z⟩ := z
  exact wpAny_pure (wpAny_pure z)
end
section
variable {prog : Program} {w : World} {A : Around} {K : Frag} {C x : Addr} {s : Shared} {h₀ : Heap} {L : Addr} {m : Str → Option Value} {news : List (Addr × Obj)} {R : Result → Shared → Prop}
theorem make_D {v : Value} {fI : Addr} (F : Fr h₀ L s.heap m) (N : News h₀ L s.heap news) (X₀ : K.In h₀) (hm : makesDIn K C = true)
    (hi : findIn K (.ref C) "__init__" = some (some (.ref fI))) (hf : typeIn K (.ref fI) = some (.type "function"))
    (h : ∀ x dx h', Fr h₀ L h' m → News h₀ L h' ((x, dObj C dx) :: (dx, dictOf [] 0) :: news) → (∀ p ∈ news, p.1 < dx) → dx < x →
      codeAny (model prog w) (A.under (.builtin "type.__call__" ⟨[.ref C, v], []⟩)) (.call (.ref fI) ⟨[.ref x, v], []⟩) (InitBack x R) { s with heap := h' }) :
    codeAny (model prog w) A (.call (.ref C) ⟨[v], []⟩) R s := by
  have X : K.In s.heap := X₀.keeps F.keep
  obtain ⟨hh, g, d, t, os⟩ := s
  refine make_Dcore (makesD_of X hm) (looks_findIn X hi) (fun self => bind_fn X self hf) (h _ hh.objs.size _ ((F.push _).push _) ?_ (fun p hp => Heap.lt_size (N p hp).1) (Nat.lt_succ_self _))
  have := (N.push F emptyDict).push (F.push _) (dObj C hh.objs.size)
  rwa [Heap.size_push] at this
end
end Mine
end
section
open PySem PySem.W PySem.Calls PyProof.Rows
set_option Elab.async false
set_option maxRecDepth 100000
set_option maxHeartbeats 1000000
namespace Mine
theorem type_str_new : typeOf (.builtin "str.__new__") = pure (.type "builtin_function_or_method") := by show builtinType _ = _; rw [builtinType_eq_fast]; kernel_rfl
theorem bf_noget : typeLookup (.type "builtin_function_or_method") "__get__" = pure none := by rw [typeLookup_type, builtinLookup_eq_fast]; kernel_rfl
section
variable {prog : Program} {w : World} {M : Model} {A : Around} {E : Value → Shared → Prop} {h : Heap} {g : Array GenState} {d : Drawn} {t : Nat} {os : OsState}
/-- super(D, x), x a class -/
theorem call_super_cls {D x : Addr} {oD ox : Obj} {cdD cdx : ClassData} {Q : Value → Shared → Prop}
    (hD : h.get? D = some oD) (hDt : oD.data = .cls cdD) (hx : h.get? x = some ox) (hxt : ox.data = .cls cdx)
    (hsub : Looks (model prog w) h (isSubtype (.ref x) (.ref D)) true)
    (hq : ∀ h', h'.get? h.objs.size = some (ks_superObj D x x) → (∀ y o, h.get? y = some o → h'.get? y = some o) → Q (.ref h.objs.size) ⟨h', g, d, t, os⟩) :
    wpAny (model prog w) A (call (.type "super") [.ref D, .ref x]) Q E ⟨h, g, d, t, os⟩ := by
  refine ks_callType_codesW (Q₁ := fun obj s₁ => obj = .ref h.objs.size ∧ s₁ = ⟨h.push { cls := .type "super", data := .fields #[.none, .none, .none] }, g, d, t, os⟩) F.ks_called_super (ks_wpAny_checkTypeCall_super hD hDt) F.ks_entry_super_init
    (ks_code_super_new _ _ ⟨rfl, rfl⟩) fun obj s₁ h₁ => ?_
  obtain ⟨rfl, rfl⟩ := h₁
  have up : ∀ y o, h.get? y = some o → (h.push { cls := .type "super", data := .fields #[.none, .none, .none] }).get? y = some o := fun y o e => Heap.get?_push_of_some _ e
  have hso : (h.push { cls := .type "super", data := .fields #[.none, .none, .none] }).get? h.objs.size = some { cls := .type "super", dict := none, data := .fields #[.none, .none, .none], slots := #[] } := Heap.get?_push_at rfl rfl
  have hD' := up _ _ hD
  have hx' := up _ _ hx
  have hsub' := hsub.keeps up
  refine ⟨⟨_, hso, rfl⟩, F.ks_initArgs_super _ _ _, ?_⟩
  unfold Builtin.«super.__init__» noKeywords
  repeat (first | (with_reducible refine ks_wpAny_isType_cls hD' hDt ?_) | (with_reducible refine ks_wpAny_isType_cls hx' hxt ?_) | (with_reducible refine Looks.at hsub' ?_) | (with_reducible refine ks_wpAny_super_set3 hso ?_) | wp_step)
  all_goals first
    | (intro h' e k; exact ⟨rfl, hq h' e fun y o ey => k y o (Nat.ne_of_lt (Heap.lt_size ey)) (up y o ey)⟩)
    | (refine ks_wpAny_super_set3 hso ?_; intro h' e k; exact ⟨rfl, hq h' e fun y o ey => k y o (Nat.ne_of_lt (Heap.lt_size ey)) (up y o ey)⟩)
/-- super().__new__, where the next in line is str -/
theorem super_ga_new {so D C : Addr} {l₀ l : List Value} {K : Frag} {tk : Tok} {Q : Fin → Shared → Prop}
    (hso : h.get? so = some (ks_superObj D C C)) (hno : Looks (model prog w) h (opaqueClassAbove (.ref C)) none)
    (hC : Looks (model prog w) h (mroOf (.ref C)) l₀) (hl : (l₀.dropWhile (· != .ref D)).drop 1 = l) (X : K.In h)
    (hf : alongIn K "__new__" l = some (some (.builtin "str.__new__")))
    (hq : Q (.done (.ret (.builtin "str.__new__"))) ⟨h, g, d, t, os⟩) :
    wpAny (model prog w) A (Builtin.«super.__getattribute__» ⟨[.ref so, .str "__new__" tk], []⟩) Q E ⟨h, g, d, t, os⟩ := by
  have hlk := bf_noget
  have htd := type_str_new
  have hn : (("__new__" : Str) == ("__class__" : Str)) = false := by decide
  have hdt : (ks_superObj D C C).data = .fields #[.ref D, .ref C, .ref C] := rfl
  have f0 : (#[.ref D, .ref C, .ref C] : Array Value)[0]? = some (.ref D) := rfl
  have f1 : (#[.ref D, .ref C, .ref C] : Array Value)[1]? = some (.ref C) := rfl
  have f2 : (#[.ref D, .ref C, .ref C] : Array Value)[2]? = some (.ref C) := rfl
  have hho : handedOut (.builtin "str.__new__") = pure (.builtin "str.__new__") := by kernel_rfl
  unfold Builtin.«super.__getattribute__»
  repeat (first
    | (with_reducible refine wpAny_field hso hdt f0 ?_) | (with_reducible refine wpAny_field hso hdt f1 ?_) | (with_reducible refine wpAny_field hso hdt f2 ?_)
    | (with_reducible refine ks_wpAny_notOpaque hno ?_)
    | (with_reducible refine Looks.at hC ?_; rw [hl])
    | (refine ks_forIn_along X (fun _ _ => rfl) rfl ?_ hf)
    | (with_reducible refine wpAny_of_eq htd ?_)
    | (with_reducible refine wpAny_of_eq hlk ?_)
    | (with_reducible refine wpAny_of_eq hho ?_)
    | (simp only [hn, Bool.or_false, Bool.false_eq_true, if_false])
    | wp_step
    | dsimp only)
  all_goals exact hq
theorem getMethod_super_new {so D C : Addr} {l₀ l : List Value} {K : Frag} {pl : Sem Bool} {Q : Value × List Value → Shared → Prop}
    (hso : h.get? so = some (ks_superObj D C C)) (hno : Looks (model prog w) h (opaqueClassAbove (.ref C)) none)
    (hC : Looks (model prog w) h (mroOf (.ref C)) l₀) (hl : (l₀.dropWhile (· != .ref D)).drop 1 = l) (X : K.In h)
    (hf : alongIn K "__new__" l = some (some (.builtin "str.__new__")))
    (hq : Q (.builtin "str.__new__", []) ⟨h, g, d, t + 1, os⟩) :
    wpAny (model prog w) A (getMethod (.ref so) "__new__" pl) Q E ⟨h, g, d, t, os⟩ := by
  have hlk := F.ks_slot_super_ga.lookup
  have hcan := F.ks_canon_super_ga
  have hho : handedOut (.builtin "str.__new__") = pure (.builtin "str.__new__") := by kernel_rfl
  have hT : ∀ t', (⟨h, g, d, t', os⟩ : Shared).TypeIs (.ref so) "super" := fun _ => ⟨_, hso, rfl⟩
  unfold getMethod
  refine wpAny_bind (wpAny_specialOf (hT _) hlk ?_)
  show wpAny _ _ (if (Manifest.canonical "super.__getattribute__" != "object.__getattribute__") = true then _ else _) _ _ _
  rw [if_pos hcan]
  unfold getAttr getAttrBy
  refine wpAny_bind (wpAny_bind (wpAny_mkText (wpAny_holding (wpAny_bind (wpAny_typeOf (hT _) (wpAny_bind (wpAny_of_eq hlk ?_)))))))
  show wpAny _ _ (getAttrByItsOwn (.ref so) (.str "__new__" t) (.type "super") (.builtin "super.__getattribute__") true false) _ _ _
  unfold getAttrByItsOwn hookBefore callGetattribute boundAndCalled
  refine wpAny_bind (wpAny_of_eq (show (if onTheHeap (.type "super") then typeLookup (.type "super") "__getattr__" else pure none) = pure none from rfl) ?_)
  refine wpAny_bind (wpAny_attempt (wpAny_holding ?_))
  show wpAny _ _ (bindSpecial (.builtin "super.__getattribute__") (.ref so) >>= _) _ _ _
  refine wpAny_bind (wpAny_of_eq (F.ks_slot_super_ga.bind _) ?_)
  refine wpAny_mono (Q := fun v s' => v = .builtin "str.__new__" ∧ s' = ⟨h, g, d, t + 1, os⟩) (E := fun _ _ => False)
    (wpAny_call_entry F.ks_slot_super_ga (hT _) F.ks_entry_super_ga (super_ga_new hso hno hC hl X hf ⟨_, rfl, rfl, rfl⟩) (F.ks_gaArgs_super _ _)) (fun v s' hv => ?_) fun _ _ z => z.elim
  obtain ⟨rfl, rfl⟩ := hv
  refine wpAny_of_eq hho ?_
  exact wpAny_pure hq
end
end Mine
end
section
open PySem PySem.W PySem.Calls PyProof.Rows Builtin
set_option Elab.async false
set_option maxRecDepth 100000
set_option maxHeartbeats 1000000
namespace Mine
def makesSIn (K : Frag) (C : Addr) : Bool := match K.lookup C with
  | some ⟨_, _, .cls cd, _⟩ => !cd.hasDel && !cd.mro.isEmpty && cd.mro.contains (.type "str")
  | _ => false
abbrev sObj (C dx : Addr) (x : Str) (t : Tok) : Obj := { cls := .ref C, dict := some dx, data := .prim (.str x t) }
theorem sn_args (a : Value) (x : Str) (t : Tok) : argsOk "str.__new__" ⟨[a, .str x t], []⟩ := by unfold argsOk; kernel_rfl
theorem sn_kind : builtinKind "str.__new__" = some .builtinFn := by rw [builtinKind_eq_fast]; decide +kernel
theorem sn_split : splitId "str.__new__" = some ("str", "__new__") := by decide +kernel
theorem sn_plain : plainId "str.__new__" = true := by decide +kernel
theorem sn_entry : entryFor table "str.__new__" = some Builtin.«str.__new__» := entryFor_of_tree (by kernel_rfl)
section
variable {prog : Program} {w : World} {A : Around} {K : Frag} {C : Addr} {R : Result → Shared → Prop} {h : Heap} {g : Array GenState} {d : Drawn} {t : Nat} {os : OsState}
theorem new_S {oc : Value} {od : Option Addr} {cd : ClassData} {sl : Array (Option Value)} {x : Str} {tk : Tok} (hC : h.get? C = some ⟨oc, od, .cls cd, sl⟩) (e2 : cd.hasDel = false)
    (hlen : x.length ≤ sizeLine) (top : Looks (model prog w) h (isSubtype (.ref C) (.type "str")) true) (base : Looks (model prog w) h (Bind.staticBase (.ref C)) (.type "str")) (made : Looks (model prog w) h (Bind.madeBy (.type "str")) (some "str.__new__"))
    (hq : ∀ tk', R (.ok (.ret (.ref (h.objs.size + 1)))) ⟨(h.push emptyDict).push (sObj C h.objs.size x tk'), g, d, t + 1, os⟩) :
    codeAny (model prog w) A (.call (.builtin "str.__new__") ⟨[.ref C, .str x tk], []⟩) R ⟨h, g, d, t, os⟩ := by
  have ha := sn_args (.ref C) x tk
  refine codeAny_call_builtin sn_plain sn_entry ?_
  have tail : wpAny (model prog w) A.in1 (if x.length > sizeLine then Sem.unsupported "str:memory" else do
      let tk' ← fresh
      pure (Value.str x tk')) (fun a s' => wpAny (model prog w) A.in1 (do
          let y ← newObj (Value.ref C) (Data.prim a) (some h.objs.size)
          ret y)
        (fun fin s' => match fin with | .done f => R (.ok f) s' | .again c' => c'.quiet = true ∧ codeAny (model prog w) A c' R s') (fun e s' => R (.error e) s') s')
      (fun e s' => R (.error e) s') ⟨h.push emptyDict, g, d, t, os⟩ := by
    rw [if_neg (Nat.not_lt.mpr hlen)]
    refine wpAny_bind (wpAny_fresh ?_)
    refine wpAny_pure (wpAny_bind ?_)
    have e : ∀ tk', newObj (.ref C) (.prim (.str x tk')) (some h.objs.size) = newObjAsIs (.ref C) (.prim (.str x tk')) (some h.objs.size) := fun tk' => by
      unfold newObj
      dsimp only [Data.pastItsLine]
      rw [if_neg (Nat.not_lt.mpr hlen)]
    rw [e]
    unfold newObjAsIs classHasDel
    refine wpAny_bind (wpAny_alloc (wpAny_bind (wpAny_bind (wpAny_load (Heap.get?_push_of_some _ (Heap.get?_push_of_some _ hC)) (wpAny_pure ?_)))))
    rw [e2]
    refine wpAny_pure (wpAny_pure ?_)
    show R _ _
    have := hq t
    rw [Heap.size_push]
    exact this
  simp only [checkBuiltinCall, sn_kind, sn_split]
  cases hsig : Manifest.signature? "str.__new__" with
  | none =>
    repeat (first | simp only [bne_self_eq_false, Bool.false_eq_true, if_false] | lk)
    all_goals exact tail
  | some sg =>
    simp only [argsOk, hsig] at ha
    have hck : Looks (model prog w) h (Bind.checkArgs "str.__new__" sg ⟨[.ref C, .str x tk], []⟩) () := Looks.of_pure ha
    repeat (first | simp only [bne_self_eq_false, Bool.false_eq_true, if_false] | lk)
    all_goals exact tail
end

section
variable {prog : Program} {w : World} {A : Around} {E : Value → Shared → Prop} {s : Shared} {h₀ : Heap} {L : Addr} {m mg mb : Str → Option Value} {news : List (Addr × Obj)} {K : Frag} {p : Program} {loose : List Str} {mean : ExcName → Option Value} {C D f cc cda so : Addr}
theorem my_super_new {pl : Sem Bool} {Q : Value × List Value → Shared → Prop} (F : Fr h₀ L s.heap m) (X₀ : K.In h₀) (N : News h₀ L s.heap news) (hso : (so, ks_superObj D C C) ∈ news) (ho : nsIn K cStatics "thirdparty.any" = some none)
    (hm : ks_superIn K C D "__new__" = some (some (.builtin "str.__new__")))
    (h : Q (.builtin "str.__new__", []) { s with toks := s.toks + 1 }) : wpAny (model prog w) A (getMethod (.ref so) "__new__" pl) Q E s := by
  have X : K.In s.heap := X₀.keeps F.keep
  obtain ⟨hh, g, d, t, os⟩ := s
  cases hc : clsIn K C with
  | none => unfold ks_superIn at hm; rw [hc] at hm; cases hm
  | some cd =>
    unfold ks_superIn at hm
    rw [hc] at hm
    exact getMethod_super_new (N _ hso).1 (looks_opaque X ho) (l₀ := cd.mro) (fun A Q E s k q => wpAny_bind ((looks_clsIn X hc) A _ E s k (wpAny_pure q))) rfl X hm h
/-- super() in a __new__ -/
theorem my_node_cls {body : List Stmt} {q : Str} {scope : Scope} {p0 p1 : Pos} {attr : Str} {whole : Sem Value} {fd : FuncData} {ar : Arg} {vs : Array Value} {file : Str} {tf : Tok} {oc ccl cl : Value} {od cdd cld : Option Addr} {osl ccs csl : Array (Option Value)} {cdD cdx : ClassData} {Q : Value → Shared → Prop} {cells : List (Str × Addr)} {x : Addr}
    (F : Fr h₀ L s.heap m) (X₀ : K.In h₀) (N : News h₀ L s.heap news) (T : Top p loose mean mg mb h₀)
    (hcl : cells.lookup ("__class__" : Str) = some cc)
    (hf : K.lookup f = some ⟨oc, od, .func fd, osl⟩) (hp : (fd.params.posonlyargs ++ fd.params.args).head? = some ar) (hv : m ar.arg = some (.ref x)) (hx : clsIn K x = some cdx)
    (hcode : K.lookup cda = some ⟨ccl, cdd, .fields vs, ccs⟩) (hvs : vs[2]? = some (.str file tf)) (hfile : ((prog.main.file : Str) == file) = true)
    (hcell : K.lookup cc = some ⟨cl, cld, .cell (some (.ref D)), csl⟩) (hD : clsIn K D = some cdD) (hsub : mroIn K x (.ref D) = some true) (hsuper : nsIn K mainGlobals "super" = some none)
    (hat : (attr == ("__class__" : Str)) = false) (hks : scope.names.lookup ("super" : Str) = some .globalImplicit) (hkc : scope.names.lookup ("__class__" : Str) = some .free) (hka : scope.names.lookup ar.arg = some .local) (hk : scope.kind = .function)
    (htop : (prog.main.scope.names.lookup ("super" : Str)).isSome = false) (hboot : bootBuiltins "super" = some (.type "super"))
    (h : ∀ so h', Fr h₀ L h' m → News h₀ L h' ((so, ks_superObj D x x) :: news) → (∀ p ∈ news, p.1 < so) → Q (.ref so) { s with heap := h' }) :
    _root_.PySem.wpAt (model prog w) A (.func body (envX q scope L f (.ref cda) cells)) (attributeBase (.Call (.Name "super" p0) [] [] p1) attr (envX q scope L f (.ref cda) cells) whole) Q E s := by
  have X : K.In s.heap := X₀.keeps F.keep
  obtain ⟨hh, g, d, t, os⟩ := s
  have clsAt : ∀ {a : Addr} {cd : ClassData}, clsIn K a = some cd → ∃ o, hh.get? a = some o ∧ o.data = .cls cd := fun {a cd} hc => by
    unfold clsIn at hc
    split at hc
    · rename_i c d cd' sl ho
      cases hc
      exact ⟨_, X _ _ ho, rfl⟩
    · cases hc
  obtain ⟨oD, hD1, hD2⟩ := clsAt hD
  obtain ⟨ox, hx1, hx2⟩ := clsAt hx
  refine ks_wpAt_super_base (env := envX q scope L f (.ref cda) cells) hks hkc hat rfl (X _ _ hf) rfl hp rfl (X _ _ hcode) rfl hvs hfile htop ?_
  refine ks_loadName_global hk hks (loadGlobal_builtin (env := envX q scope L f (.ref cda) cells) (T.g.keeps F.keep) (mg_none_of X₀ T.g hsuper) (T.b.keeps F.keep) ((T.builtins _ (by decide +kernel)).trans hboot) ⟨rfl, ?_⟩)
  refine wpAny_loadName_free hk hkc hcl ⟨_, X _ _ hcell, rfl⟩ ?_
  refine wpAny_loadName_local hk hka F.ns hv ?_
  refine ks_wpAny_isType_cls hD1 hD2 ⟨rfl, ?_⟩
  refine call_super_cls hD1 hD2 hx1 hx2 (looks_mroIn X hsub) (fun h' e k => ?_)
  obtain ⟨F', N', l'⟩ := ks_newsPush (s := ⟨hh, g, d, t, os⟩) F N rfl e k
  exact h _ _ F' N' l'
end

section
variable {prog : Program} {w : World} {A : Around} {E : Value → Shared → Prop} {s : Shared} {h₀ : Heap} {L : Addr} {m : Str → Option Value} {news : List (Addr × Obj)} {K : Frag} {C : Addr}
theorem my_str_new {oc : Value} {od : Option Addr} {cd : ClassData} {sl : Array (Option Value)} {x : Str} {tk : Tok} {Q : Value → Shared → Prop} (F : Fr h₀ L s.heap m) (X₀ : K.In h₀) (N : News h₀ L s.heap news) (hC : K.lookup C = some ⟨oc, od, .cls cd, sl⟩) (e2 : cd.hasDel = false) (hlen : x.length ≤ sizeLine)
    (htop : mroIn K C (.type "str") = some true) (hb : peek K ⟨prog, w.params⟩ (Bind.staticBase (.ref C)) = some (.type "str")) (hmd : peek K ⟨prog, w.params⟩ (Bind.madeBy (.type "str")) = some (some "str.__new__"))
    (h : ∀ x' dx tk' h', Fr h₀ L h' m → News h₀ L h' ((x', sObj C dx x tk') :: (dx, dictOf [] 0) :: news) → (∀ p ∈ news, p.1 < dx) → dx < x' → Q (.ref x') { s with heap := h', toks := s.toks + 1 }) :
    wpAny (model prog w) A (call (.builtin "str.__new__") [.ref C, .str x tk]) Q E s := by
  have X : K.In s.heap := X₀.keeps F.keep
  obtain ⟨hh, g, d, t, os⟩ := s
  refine wpAny_call (new_S (X _ _ hC) e2 hlen (looks_mroIn X htop) (Looks.of_peek (M := model prog w) X hb) (Looks.of_peek (M := model prog w) X hmd) fun tk' => ?_)
  refine h (hh.objs.size + 1) hh.objs.size tk' _ ((F.push _).push _) ?_ (fun p hp => Heap.lt_size (N p hp).1) (Nat.lt_succ_self _)
  have := (N.push F emptyDict).push (F.push _) (sObj C hh.objs.size x tk')
  rwa [Heap.size_push] at this
end
end Mine
end
section
open PySem PySem.W PySem.Calls PyProof.Rows Builtin Builtin.ObjectAttr
set_option Elab.async false
set_option maxRecDepth 100000
set_option maxHeartbeats 1000000
namespace Mine
section
variable {prog : Program} {w : World} {A : Around} {K : Frag} {C x : Addr} {s : Shared} {h₀ : Heap} {L : Addr} {m : Str → Option Value} {news : List (Addr × Obj)} {R : Result → Shared → Prop}
theorem my_osa_open {ox : Obj} {od : Option Obj} {cd : ClassData} {name : Str} {tk : Tok} {v : Value} {r : Option Value} (X : K.In s.heap) (I : InstAt s.heap x ox C od) (hc : clsIn K C = some cd) (hpass : ∀ self, refuseLoop self "__setattr__" cd.mro = pure ()) (hob : mroIn K C (.type "object") = some true) (ht : takerIn K C name = some r)
    (h : ∀ b, wpAny (model prog w) A.in1 (match r with | some a => setByDescriptor a (.ref x) v | none => storeInOwnDict (.ref x) (.ref C) (.str name tk) name v b)
      (fun fin s' => match fin with | .done f => R (.ok f) s' | .again c' => c'.quiet = true ∧ codeAny (model prog w) A c' R s') (fun e s' => R (.error e) s') s) :
    codeAny (model prog w) A (.call (.builtin "object.__setattr__") ⟨[.ref x, .str name tk, v], []⟩) R s := by
  have SF := PySem.F.store_object
  have sub : Looks (model prog w) s.heap (isInstance (.ref x) (.type "object")) true := I.type.andThen (looks_mroIn X hob)
  refine codeAny_call_builtin SF.slot.plain SF.entry (@check_slot (model prog w) _ _ s "object.__setattr__" "object" "__setattr__" (.ref x) [.str name tk, v] [] _ SF.kind SF.split sub (SF.args (.ref x) (.str name tk) v) ?_)
  obtain ⟨attr, ha, hr⟩ := Option.bind_eq_some_iff.mp ht
  have hm : Looks (model prog w) s.heap (mroOf (.ref C)) cd.mro := (looks_clsIn X hc).andThen .now
  have L3 : Looks (model prog w) s.heap (storeTaker? attr) r := by
    cases attr with
    | none => cases hr; exact .now
    | some a =>
      obtain ⟨b, hb, rfl⟩ := Option.map_eq_some_iff.mp hr
      refine (looks_takesIn X hb).andThen ?_
      cases b <;> exact .now
  rw [osa_eq, refuse_eq]
  refine wpAny_bind (wpAny_bind (I.type.here (wpAny_bind (hm.here ?_))))
  rw [hpass]
  refine wpAny_pure (wpAny_bind (I.type.here (wpAny_bind ((looks_findIn X ha).here (wpAny_bind (L3.here ?_))))))
  exact h _
theorem my_osa_descr {ox : Obj} {od : Option Obj} {cd : ClassData} {name : Str} {tk : Tok} {v : Value} {p : Addr} {T i : String} (S : Slot T "__set__" i) (X : K.In s.heap) (I : InstAt s.heap x ox C od) (hc : clsIn K C = some cd) (hpass : ∀ self, refuseLoop self "__setattr__" cd.mro = pure ()) (hob : mroIn K C (.type "object") = some true) (ht : takerIn K C name = some (some (.ref p)))
    (hT : typeIn K (.ref p) = some (.type T)) (h : codeAny (model prog w) A.in1 (.call (.builtin i) ⟨[.ref p, .ref x, v], []⟩) (fun r s' => match r with | .ok (.ret _) => R (.ok (.ret .none)) s' | .ok _ => False | .error e => R (.error e) s') s) :
    codeAny (model prog w) A (.call (.builtin "object.__setattr__") ⟨[.ref x, .str name tk, v], []⟩) R s := by
  refine my_osa_open X I hc hpass hob ht fun _ => ?_
  refine wpAny_bind (wpAny_rule (wpAny_bind (wpAny_holding (wpAny_bind (wpAny_bind ((looks_typeIn X hT).here ((Looks.of_pure S.lookup).here (wpAny_holding ?_))))))))
  rw [S.bind]
  refine wpAny_bind (wpAny_pure (wpAny_bind (wpAny_call (codeAny_mono h fun r s' z => ?_))))
  rcases r with e | (v | _ | _ | _) <;> first | exact z | exact wpAny_pure (wpAny_pure z)
/-- self.name = v, a slot, at the ledger's head -/
theorem my_set_slot {E : Value → Shared → Prop} {ox ox' : Obj} {od : Option Obj} {cd : ClassData} {name : Str} {v : Value} {p i : Nat} {post : List (Addr × Obj)} {Q : Unit → Shared → Prop} (F : Fr h₀ L s.heap m) (X₀ : K.In h₀) (N : News h₀ L s.heap ((x, ox) :: post)) (h2 : ∀ q ∈ post, q.1 ≠ x) (I : InstAt s.heap x ox C od)
    (hs : findIn K (.ref C) "__setattr__" = some (some (.builtin "object.__setattr__"))) (hc : clsIn K C = some cd) (hpass : ∀ self, refuseLoop self "__setattr__" cd.mro = pure ()) (hob : mroIn K C (.type "object") = some true) (ht : takerIn K C name = some (some (.ref p)))
    (hT : typeIn K (.ref p) = some (.type "member_descriptor")) (hp : slotIn K p C = some i) (hi : i < 1000)
    (e : { ox with slots := (ox.slots ++ Array.replicate (i + 1 - ox.slots.size) none).setIfInBounds i (some v) } = ox') (hf : ox'.isFreed = false)
    (h : ∀ h', Fr h₀ L h' m → News h₀ L h' ((x, ox') :: post) → Q () { s with heap := h', toks := s.toks + 1 }) :
    wpAny (model prog w) A (setAttr (.ref x) name v) Q E s := by
  have X : K.In s.heap := X₀.keeps F.keep
  refine set_plain X I hs ?_
  refine my_osa_descr (s := { s with toks := s.toks + 1 }) KF.slot_mset X I hc hpass hob ht hT ?_
  refine slot_set (s := { s with toks := s.toks + 1 }) (pre := []) F N X I hp hi (fun _ hq => nomatch hq) h2 e hf fun h' F' N' => ?_
  exact h h' F' N'
end
end Mine
end
section
open PySem PySem.W PySem.Calls PyProof.Rows Builtin Builtin.ObjectAttr
set_option Elab.async false
set_option maxRecDepth 100000
set_option maxHeartbeats 1000000
namespace Mine
def NewBack {prog : Program} {w : World} (C : Addr) (R : Result → Shared → Prop) (r : Result) (s' : Shared) : Prop := match r with
  | .ok (.ret (.ref x)) => (Looks (model prog w) s'.heap (typeOf (.ref x)) (.ref C) ∧ Looks (model prog w) s'.heap (isSubtype (.ref C) (.ref C)) true ∧ Looks (model prog w) s'.heap (typeLookup (.ref C) "__init__") (some (.builtin "object.__init__")) ∧
      Looks (model prog w) s'.heap (Bind.madeBy (.ref C)) none ∧ Looks (model prog w) s'.heap (isSubtype (.ref C) (.type "object")) true) ∧ R (.ok (.ret (.ref x))) s'
  | .ok _ => False
  | .error e => R (.error e) s'
theorem oi_args2 (a : Value) (x : Str) (t : Tok) : argsOk "object.__init__" ⟨[a, .str x t], []⟩ := by unfold argsOk; kernel_rfl
section
variable {prog : Program} {w : World} {A : Around} {K : Frag} {C fN : Addr} {R : Result → Shared → Prop} {h : Heap} {g : Array GenState} {d : Drawn} {t : Nat} {os : OsState}
theorem make_Ncore {x : Str} {tk : Tok} {oc : Value} {od : Option Addr} {cd : ClassData} {sl : Array (Option Value)} (hC : h.get? C = some ⟨oc, od, .cls cd, sl⟩) (e4 : cd.mro.isEmpty = false)
    (made : Looks (model prog w) h (Bind.madeBy (.ref C)) none) (call : Looks (model prog w) h (specialOf (.ref C) "__call__") (some (.builtin "type.__call__"))) (typ : Looks (model prog w) h (isInstance (.ref C) (.type "type")) true)
    (hga : ∀ {A : Around} {Q : Value → Shared → Prop} {E : Value → Shared → Prop}, Q (.ref fN) ⟨h, g, d, t + 1, os⟩ → wpAny (model prog w) A (getAttr (.ref C) "__new__") Q E ⟨h, g, d, t, os⟩)
    (hq : codeAny (model prog w) (A.under (.builtin "type.__call__" ⟨[.ref C, .str x tk], []⟩)) (.call (.ref fN) ⟨[.ref C, .str x tk], []⟩) (NewBack (prog := prog) (w := w) C R) ⟨h, g, d, t + 1, os⟩) :
    codeAny (model prog w) A (.call (.ref C) ⟨[.str x tk], []⟩) R ⟨h, g, d, t, os⟩ := by
  refine codeAny_of_tree ?_
  show wpAny _ _ (callAny (.ref C) _) _ _ _
  refine nd_load hC ?_
  show wpAny _ _ (callAny.viaDunder (.ref C) _) _ _ _
  unfold callAny.viaDunder
  refine wpAny_bind (call.at ?_)
  dsimp only
  rw [tc_bind]
  refine wpAny_bind (wpAny_pure (wpAny_bind (wpAny_pure ?_)))
  refine wpAny_pure (a := Fin.again (.call (.builtin "type.__call__") ⟨[.ref C, .str x tk], []⟩)) (And.intro rfl ?_)
  refine codeAny_call_builtin_at (Code.quiet_builtin _ (by decide +kernel)) entry_typeCall (check_slot tc_kind tc_split typ (tc_args _ _ _) ?_)
  unfold Builtin.«type.__call__»
  have hm : Looks (model prog w) h (mroOf (.ref C)) cd.mro := ((Looks.ld (part := none) hC).andThen .now).andThen .now
  repeat (first | simp only [e4, Bool.false_eq_true, if_false] | with_reducible refine hga ?_ | with_reducible refine wpAny_call ?_ | lk)
  refine codeAny_mono hq fun r s' z => ?_
  cases r with
  | error e => exact z
  | ok fl =>
    cases fl with
    | ret v =>
      cases v with
      | ref a =>
        obtain ⟨⟨t1, s1, i1, m1, o1⟩, z⟩ := z
        obtain ⟨h', g', d', t', os'⟩ := s'
        have b1 : Looks (model prog w) h' (bindSpecial (.builtin "object.__init__") (.ref a)) (.builtin "object.__init__", [.ref a]) := Looks.of_pure (oi_bind _)
        have oi : codeAny (model prog w) (A.under (.builtin "type.__call__" ⟨[.ref C, .str x tk], []⟩)) (.call (.builtin "object.__init__") ⟨[.ref a, .str x tk], []⟩) (InitBack a R) ⟨h', g', d', t', os'⟩ := by
          refine codeAny_call_builtin oi_plain entry_oi (@check_slot (model prog w) _ _ ⟨h', g', d', t', os'⟩ "object.__init__" "object" "__init__" (.ref a) [.str x tk] [] _ oi_kind oi_split (t1.andThen o1) (oi_args2 _ _ _) ?_)
          unfold Builtin.«object.__init__»
          repeat lk
          all_goals exact ⟨rfl, z⟩
        unfold isInstance callSpecial? specialOf
        repeat (first | with_reducible refine wpAny_call ?_ | lk)
        refine codeAny_mono oi fun r s' z => ?_
        rcases r with e | (v | _ | _ | _) <;> first | exact z | exact z.elim | skip
        obtain ⟨rfl, z⟩ := z
        exact wpAny_pure (wpAny_pure z)

      | _ => exact (show False from z).elim
    | _ => exact (show False from z).elim
end
end Mine
end
section
open PySem PySem.W PySem.Calls PyProof.Rows Builtin
set_option Elab.async false
set_option maxRecDepth 100000
set_option maxHeartbeats 1000000
namespace Mine
theorem ty_str_ty : typeOf (.type "str") = pure (.type "type") := by kernel_rfl
section
variable {prog : Program} {w : World} {A : Around} {E : Value → Shared → Prop} {h : Heap} {g : Array GenState} {d : Drawn} {t : Nat} {os : OsState} {C x : Addr} {ox : Obj}
theorem nested_str {dep : Int} {tk : Tok} {Q : Fin → Shared → Prop} (L0 : Looks (model prog w) h (typeOf (.ref x)) (.ref C)) (L1 : Looks (model prog w) h (isSubtype (.ref C) (.type "str")) true)
    (hq : Q (.done (.ret (.bool true))) ⟨h, g, d, t, os⟩) : wpAny (model prog w) A (Builtin.«isinstance.nested» ⟨[.ref x, .type "str", .int dep tk], []⟩) Q E ⟨h, g, d, t, os⟩ := by
  have L2 : Looks (model prog w) h (typeOf (.type "str")) (.type "type") := Looks.of_pure ty_str_ty
  unfold Builtin.«isinstance.nested»
  repeat lk
  all_goals exact hq
end
end Mine
namespace Mine
theorem sub_tup : isSubtype (.type "tuple") (.type "tuple") = pure true := by rw [isSubtype_type]; kernel_rfl
section
variable {prog : Program} {w : World} {A : Around} {E : Value → Shared → Prop} {h : Heap} {g : Array GenState} {d : Drawn} {t : Nat} {os : OsState} {C x D : Addr} {ox : Obj}
theorem nested_tup {tk : Tok} {Q : Fin → Shared → Prop} (L0 : Looks (model prog w) h (typeOf (.ref x)) (.ref C)) (L1 : Looks (model prog w) h (isSubtype (.ref C) (.type "str")) true)
    (hD : h.get? D = some { cls := .type "tuple", data := .seq #[.type "str", .type "bytes"] }) (hCD : C ≠ D)
    (hq : Q (.done (.ret (.bool true))) ⟨h, g, d, t, os⟩) : wpAny (model prog w) A (Builtin.«isinstance.nested» ⟨[.ref x, .ref D, .int 0 tk], []⟩) Q E ⟨h, g, d, t, os⟩ := by
  have L2 : Looks (model prog w) h (isSubtype (.type "tuple") (.type "tuple")) true := Looks.of_pure sub_tup
  have hne : (Value.ref C == Value.ref D) = false := by simp [hCD]
  unfold Builtin.«isinstance.nested»
  repeat (first | simp only [hne, Bool.false_eq_true, if_false] | with_reducible refine wpAny_call ?_ | lk)
  refine codeAny_call_builtin (by decide +kernel) entry_isinstance_nested (wpAny_of_eq (show checkBuiltinCall "isinstance.nested" ⟨[.ref x, .type "str", rawInt (0 + 1)], []⟩ = pure () from by kernel_rfl) ?_)
  refine nested_str L0 L1 ?_
  repeat lk
  all_goals exact hq
end
end Mine
namespace Mine
section
variable {prog : Program} {w : World} {A : Around} {E : Value → Shared → Prop} {s : Shared} {h₀ : Heap} {L : Addr} {m : Str → Option Value} {news : List (Addr × Obj)} {K : Frag} {C x D : Addr} {ox : Obj} {od : Option Obj} {Q : Value → Shared → Prop}
theorem my_isinst_tup (F : Fr h₀ L s.heap m) (X₀ : K.In h₀) (N : News h₀ L s.heap news) (I : InstAt s.heap x ox C od) (hm : mroIn K C (.type "str") = some true) (hD : (D, ({ cls := .type "tuple", data := .seq #[.type "str", .type "bytes"] } : Obj)) ∈ news) (hC : (K.lookup C).isSome = true)
    (h : Q (.bool true) s) : wpAny (model prog w) A (call (.builtin "isinstance") [.ref x, .ref D]) Q E s := by
  have X : K.In s.heap := X₀.keeps F.keep
  have hCD : C ≠ D := by
    rintro rfl
    obtain ⟨o, ho⟩ := Option.isSome_iff_exists.mp hC
    have := X₀ _ _ ho
    rw [(N _ hD).2.2] at this
    cases this
  obtain ⟨hh, g, d, t, os⟩ := s
  refine call_isinstance_of ?_ (by intro e; cases e)
  exact nested_tup I.type (looks_mroIn X hm) (N _ hD).1 hCD h
theorem my_isinst_str (F : Fr h₀ L s.heap m) (X₀ : K.In h₀) (I : InstAt s.heap x ox C od) (hm : mroIn K C (.type "str") = some true)
    (h : Q (.bool true) s) : wpAny (model prog w) A (call (.builtin "isinstance") [.ref x, .type "str"]) Q E s := by
  have X : K.In s.heap := X₀.keeps F.keep
  obtain ⟨hh, g, d, t, os⟩ := s
  refine call_isinstance_of ?_ (by intro e; cases e)
  exact nested_str I.type (looks_mroIn X hm) h
end
end Mine
end
section
namespace Mine
open PySem

/-! plain text laws, over lists of numbers -/

def rep1 (a : Nat) (z : List Nat) (l : List Nat) : List Nat := l.flatMap fun c => if c = a then z else [c]

def rep2 (a b : Nat) (z : List Nat) : List Nat → List Nat
  | [] => []
  | [c] => [c]
  | c :: d :: r => if c = a ∧ d = b then z ++ rep2 a b z r else c :: rep2 a b z (d :: r)

theorem rep1_nil (a z) : rep1 a z [] = [] := rfl
theorem rep1_cons (a z c l) : rep1 a z (c :: l) = (if c = a then z else [c]) ++ rep1 a z l := rfl
theorem rep1_append (a z) (l r : List Nat) : rep1 a z (l ++ r) = rep1 a z l ++ rep1 a z r := by
  simp [rep1]
theorem rep1_rep (a z c k) (h : c ≠ a) : rep1 a z (List.replicate k c) = List.replicate k c := by
  induction k with
  | zero => rfl
  | succ k ih => rw [List.replicate_succ, rep1_cons, if_neg h, ih]; rfl

theorem rep2_hit (a b z r) : rep2 a b z (a :: b :: r) = z ++ rep2 a b z r := by simp [rep2]
theorem rep2_ne (a b z c r) (h : c ≠ a) : rep2 a b z (c :: r) = c :: rep2 a b z r := by
  cases r with
  | nil => rfl
  | cons d r => simp [rep2, h]
theorem rep2_miss (a b z c r) (h : r.head? ≠ some b) : rep2 a b z (c :: r) = c :: rep2 a b z r := by
  cases r with
  | nil => rfl
  | cons d r =>
    have : d ≠ b := fun e => h (by rw [e]; rfl)
    simp [rep2, this]

/-- a run, and the text behind it -/
def bs (k : Nat) (t : List Nat) : List Nat := List.replicate k 92 ++ t
theorem bs_zero (t) : bs 0 t = t := rfl
theorem bs_succ (k t) : bs (k + 1) t = 92 :: bs k t := by simp [bs, List.replicate_succ]
theorem bs_bs (j k t) : bs j (bs k t) = bs (j + k) t := by simp [bs, ← List.append_assoc, List.replicate_append_replicate]
theorem bs_snoc (k t) : bs (k + 1) t = bs k (92 :: t) := by rw [← bs_bs k 1]; rfl
theorem bs_append (k t u) : bs k t ++ u = bs k (t ++ u) := by simp [bs]

/-- the text of pairs -/
abbrev PL := List (Nat × List Nat)
def txt : PL → List Nat
  | [] => []
  | (r, s) :: t => bs r (s ++ txt t)

def signOk (s : List Nat) : Prop := 92 ∉ s ∧ s ≠ [] ∧ (s.length = 1 ∨ ∀ c ∈ s, 128 ≤ c)
/-- a run ahead of a sign, many; a run at the end -/
def Ok : PL → Prop
  | [] => True
  | (_, s) :: t => (s = [] ∧ t = []) ∨ (signOk s ∧ Ok t)

theorem rep2_bs_end (k z r) (hk : k ≠ 92) : rep2 92 k z (bs r []) = bs r [] := by
  induction r with
  | zero => rfl
  | succ r ih =>
    rw [bs_succ, rep2_miss, ih]
    cases r with
    | zero => simp [bs]
    | succ r => rw [bs_succ]; simp; exact fun e => hk e.symm

theorem rep2_bs (k z r c t) (hk : k ≠ 92) (hc : c ≠ 92) (hne : c ≠ k) : rep2 92 k z (bs r (c :: t)) = bs r (c :: rep2 92 k z t) := by
  induction r with
  | zero => rw [bs_zero, bs_zero, rep2_ne _ _ _ _ _ hc]
  | succ r ih =>
    rw [bs_succ, rep2_miss, ih, bs_succ]
    cases r with
    | zero => simp [bs]; exact hne
    | succ r => rw [bs_succ]; simp; exact fun e => hk e.symm

theorem rep2_bs_hit0 (k z t) (hk : k ≠ 92) : rep2 92 k z (bs 0 (k :: t)) = bs 0 (k :: rep2 92 k z t) := by
  rw [bs_zero, bs_zero, rep2_ne _ _ _ _ _ hk]
theorem rep2_bs_hit (k z r t) (hk : k ≠ 92) : rep2 92 k z (bs (r + 1) (k :: t)) = bs r (z ++ rep2 92 k z t) := by
  induction r with
  | zero => rw [bs_succ, bs_zero, bs_zero, rep2_hit]
  | succ r ih =>
    rw [bs_succ, rep2_miss, ih, bs_succ]
    rw [bs_succ]; simp; exact fun e => hk e.symm

theorem rep2_92_end (r) : rep2 92 92 [92] (bs r []) = bs ((r + 1) / 2) [] := by
  induction r using Nat.strongRecOn with
  | ind r ih =>
    match r with
    | 0 => rfl
    | 1 => rfl
    | r + 2 =>
      rw [bs_succ, bs_succ, rep2_hit, ih r (by omega)]
      have : (r + 2 + 1) / 2 = (r + 1) / 2 + 1 := by omega
      rw [this, bs_succ]; rfl
theorem rep2_92 (r c t) (hc : c ≠ 92) : rep2 92 92 [92] (bs r (c :: t)) = bs ((r + 1) / 2) (c :: rep2 92 92 [92] t) := by
  induction r using Nat.strongRecOn with
  | ind r ih =>
    match r with
    | 0 => rw [bs_zero, rep2_ne _ _ _ _ _ hc]; rfl
    | 1 =>
      rw [bs_succ, bs_zero, rep2_miss, rep2_ne _ _ _ _ _ hc]
      · rfl
      · simp [hc]
    | r + 2 =>
      rw [bs_succ, bs_succ, rep2_hit, ih r (by omega)]
      have : (r + 2 + 1) / 2 = (r + 1) / 2 + 1 := by omega
      rw [this, bs_succ]; rfl

/-- a sign's signs that are no backslash pass -/
theorem rep2_pass (k z) : ∀ (s t : List Nat), 92 ∉ s → rep2 92 k z (s ++ t) = s ++ rep2 92 k z t
  | [], _, _ => rfl
  | c :: s, t, h => by
    have h1 : c ≠ 92 := fun e => h (e ▸ List.mem_cons_self ..)
    have h2 : 92 ∉ s := fun m => h (List.mem_cons_of_mem _ m)
    rw [List.cons_append, rep2_ne _ _ _ _ _ h1, rep2_pass k z s t h2]; rfl

/-! pair maps -/
def mapP (f : Nat × List Nat → Nat × List Nat) (ps : PL) : PL := ps.map f

/-- one step of a reader of backslash + k -/
def stepK (k : Nat) (z : List Nat) (p : Nat × List Nat) : Nat × List Nat := if p.2 = [k] ∧ 0 < p.1 then (p.1 - 1, z) else p
theorem rep2_txt (k z) (hk : k ≠ 92) (hk2 : k < 128) : ∀ (ps : PL), Ok ps → rep2 92 k z (txt ps) = txt (ps.map (stepK k z))
  | [], _ => rfl
  | (r, s) :: t, h => by
    show rep2 92 k z (bs r (s ++ txt t)) = txt (stepK k z (r, s) :: t.map (stepK k z))
    rcases h with ⟨rfl, rfl⟩ | ⟨⟨h1, h2, h3⟩, ht⟩
    · have : stepK k z (r, ([] : List Nat)) = (r, []) := by simp [stepK]
      rw [this]
      show rep2 92 k z (bs r []) = bs r []
      exact rep2_bs_end k z r hk
    · have ih := rep2_txt k z hk hk2 t ht
      match s, h2 with
      | c :: s, _ =>
        have hc : c ≠ 92 := fun e => h1 (e ▸ List.mem_cons_self ..)
        have hs : 92 ∉ s := fun m => h1 (List.mem_cons_of_mem _ m)
        by_cases hck : c = k
        · have hs0 : s = [] := by
            rcases h3 with h3 | h3
            · simpa using h3
            · have := h3 c (List.mem_cons_self ..); omega
          subst hs0; subst hck
          match r with
          | 0 =>
            have : stepK c z (0, [c]) = (0, [c]) := by simp [stepK]
            rw [this]
            show rep2 92 c z (bs 0 (c :: txt t)) = bs 0 ([c] ++ txt (t.map (stepK c z)))
            rw [rep2_bs_hit0 _ _ _ hk, ih]; rfl
          | r + 1 =>
            have : stepK c z (r + 1, [c]) = (r, z) := by simp [stepK]
            rw [this]
            show rep2 92 c z (bs (r + 1) (c :: txt t)) = bs r (z ++ txt (t.map (stepK c z)))
            rw [rep2_bs_hit _ _ _ _ hk, ih]
        · have : stepK k z (r, c :: s) = (r, c :: s) := by simp [stepK, hck]
          rw [this]
          show rep2 92 k z (bs r (c :: (s ++ txt t))) = bs r (c :: (s ++ txt (t.map (stepK k z))))
          rw [rep2_bs _ _ _ _ _ hk hc hck, rep2_pass _ _ _ _ hs, ih]

def half (p : Nat × List Nat) : Nat × List Nat := ((p.1 + 1) / 2, p.2)
theorem rep92_txt : ∀ (ps : PL), Ok ps → rep2 92 92 [92] (txt ps) = txt (ps.map half)
  | [], _ => rfl
  | (r, s) :: t, h => by
    show rep2 92 92 [92] (bs r (s ++ txt t)) = bs ((r + 1) / 2) (s ++ txt (t.map half))
    rcases h with ⟨rfl, rfl⟩ | ⟨⟨h1, h2, h3⟩, ht⟩
    · exact rep2_92_end r
    · have ih := rep92_txt t ht
      match s, h2 with
      | c :: s, _ =>
        have hc : c ≠ 92 := fun e => h1 (e ▸ List.mem_cons_self ..)
        have hs : 92 ∉ s := fun m => h1 (List.mem_cons_of_mem _ m)
        show rep2 92 92 [92] (bs r (c :: (s ++ txt t))) = bs ((r + 1) / 2) (c :: (s ++ txt (t.map half)))
        rw [rep2_92 _ _ _ hc, rep2_pass _ _ _ _ hs, ih]

end Mine
end
section
namespace Mine
open PySem

/-! the writer -/
def esc (l : List Nat) : List Nat :=
  rep1 13 [92, 110] (rep1 10 [92, 110] (rep2 13 10 [92, 110] (rep1 44 [92, 44] (rep1 59 [92, 59] (rep1 92 [92, 92] (rep2 92 78 [10] l))))))
def unq (l : List Nat) : List Nat :=
  rep2 92 92 [92] (rep2 92 59 [59] (rep2 92 44 [44] (rep2 92 110 [10] (rep2 13 10 [10] (rep2 92 78 [92, 110] l)))))
def unesc : List Nat → List Nat
  | [] => []
  | [c] => [c]
  | c :: d :: r => if c = 92 ∧ d ∈ [92, 44, 59, 58, 110, 78] then (if d ∈ [110, 78] then 10 else d) :: unesc r else c :: unesc (d :: r)

/-- the law's own list functions -/
def restF : Bool → PL → PL
  | _, [] => []
  | cut, (r, s) :: t =>
    let r' := if s = [78] ∧ 0 < r then r - 1 else r
    let s' := if s = [78] ∧ 0 < r then [10] else s
    if cut = true ∧ r' = 0 ∧ s' = [10] then restF false t else (r', if s' = [13] then [10] else s') :: restF (decide (s' = [13])) t
def raiseP (k : Nat) (p : Nat × List Nat) : Nat × List Nat :=
  if p.2 = [10] then ((2 * p.1 + 1) * 2 ^ (k - 1), [110]) else if p.2 = [44] ∨ p.2 = [59] then ((p.1 + 1) * 2 ^ k - 1, p.2) else (p.1 * 2 ^ k, p.2)
def passP (p : Nat × List Nat) : Nat × List Nat :=
  if (p.2 = [110] ∨ p.2 = [78]) ∧ p.1 % 2 = 1 then (p.1 / 2, [10])
  else if p.2 = [110] ∨ p.2 = [78] ∨ p.2 = [44] ∨ p.2 = [59] ∨ p.2 = [58] then (p.1 / 2, p.2) else ((p.1 + 1) / 2, p.2)

/-! what the writer makes of pairs -/
def dP (p : Nat × List Nat) : Nat × List Nat :=
  if p.2 = [78] ∧ 0 < p.1 then (2 * (p.1 - 1), [10]) else if p.2 = [44] ∨ p.2 = [59] then (2 * p.1 + 1, p.2) else (2 * p.1, p.2)

theorem rep1_92 (k t) : rep1 92 [92, 92] (bs k t) = bs (2 * k) (rep1 92 [92, 92] t) := by
  induction k with
  | zero => rfl
  | succ k ih => rw [bs_succ, rep1_cons, ih, show 2 * (k + 1) = 2 * k + 1 + 1 by omega, bs_succ, bs_succ]; rfl
theorem rep1_bs (a z k t) (h : a ≠ 92) : rep1 a z (bs k t) = bs k (rep1 a z t) := by
  unfold bs; rw [rep1_append, rep1_rep _ _ _ _ (Ne.symm h)]
theorem rep1_free (a z) : ∀ s : List Nat, a ∉ s → rep1 a z s = s
  | [], _ => rfl
  | c :: s, h => by
    rw [rep1_cons, if_neg (fun e => h (by rw [e]; exact List.mem_cons_self ..)), rep1_free a z s fun m => h (List.mem_cons_of_mem _ m)]; rfl

def G (l : List Nat) : List Nat := rep1 44 [92, 44] (rep1 59 [92, 59] (rep1 92 [92, 92] (rep2 92 78 [10] l)))
def F (l : List Nat) : List Nat := rep1 13 [92, 110] (rep1 10 [92, 110] (rep2 13 10 [92, 110] l))
theorem esc_eq (l) : esc l = F (G l) := rfl

/-- a sign that is one sign, or beyond ascii -/
theorem sign_not {s : List Nat} (h : signOk s) {k : Nat} (hk : k < 128) (hne : s ≠ [k]) : k ∉ s := by
  obtain ⟨_, h2, h3⟩ := h
  intro m
  rcases h3 with h3 | h3
  · match s, h3 with
    | [c], _ => simp at m; subst m; exact hne rfl
  · have := h3 k m; omega

theorem G_txt : ∀ ps : PL, Ok ps → G (txt ps) = txt (ps.map dP) := by
  intro ps h
  unfold G
  rw [rep2_txt 78 [10] (by decide) (by decide) ps h]
  induction ps with
  | nil => rfl
  | cons p t ih =>
    obtain ⟨r, s⟩ := p
    rcases h with ⟨rfl, rfl⟩ | ⟨hs, ht⟩
    · have e1 : stepK 78 [10] (r, ([] : List Nat)) = (r, []) := by simp [stepK]
      have e2 : dP (r, ([] : List Nat)) = (2 * r, []) := by simp [dP]
      simp only [List.map_cons, List.map_nil, e1, e2]
      show rep1 44 _ (rep1 59 _ (rep1 92 _ (bs r []))) = bs (2 * r) []
      rw [rep1_92, rep1_bs _ _ _ _ (by decide), rep1_bs _ _ _ _ (by decide)]; rfl
    · have ih := ih ht
      by_cases c1 : s = [78] ∧ 0 < r
      · obtain ⟨rfl, hr⟩ := c1
        have e1 : stepK 78 [10] (r, [78]) = (r - 1, [10]) := by simp [stepK, hr]
        have e2 : dP (r, [78]) = (2 * (r - 1), [10]) := by simp [dP, hr]
        simp only [List.map_cons, e1, e2]
        show rep1 44 _ (rep1 59 _ (rep1 92 _ (bs (r - 1) ([10] ++ txt _)))) = bs (2 * (r - 1)) ([10] ++ txt _)
        rw [rep1_92, rep1_bs _ _ _ _ (by decide), rep1_bs _ _ _ _ (by decide), ← ih]
        simp only [rep1_append]; rfl
      · have e1 : stepK 78 [10] (r, s) = (r, s) := by simp only [stepK]; rw [if_neg c1]
        simp only [List.map_cons, e1]
        show rep1 44 _ (rep1 59 _ (rep1 92 _ (bs r (s ++ txt _)))) = _
        rw [rep1_92, rep1_bs _ _ _ _ (by decide), rep1_bs _ _ _ _ (by decide), rep1_append, rep1_free 92 _ s hs.1]
        by_cases c2 : s = [59]
        · subst c2
          have e2 : dP (r, [59]) = (2 * r + 1, [59]) := by simp [dP]
          rw [e2]
          show _ = bs (2 * r + 1) ([59] ++ txt _)
          rw [← ih, bs_snoc]
          simp only [rep1_append]; rfl
        · rw [rep1_append, rep1_free 59 _ s (sign_not hs (by decide) c2)]
          by_cases c3 : s = [44]
          · subst c3
            have e2 : dP (r, [44]) = (2 * r + 1, [44]) := by simp [dP]
            rw [e2]
            show _ = bs (2 * r + 1) ([44] ++ txt _)
            rw [← ih, bs_snoc]
            simp only [rep1_append]; rfl
          · rw [rep1_append, rep1_free 44 _ s (sign_not hs (by decide) c3), ih]
            have e2 : dP (r, s) = (2 * r, s) := by simp only [dP]; rw [if_neg c1, if_neg (by simp [c2, c3])]
            rw [e2]; rfl

theorem F_pass (c t) (h1 : c ≠ 13) (h2 : c ≠ 10) : F (c :: t) = c :: F t := by
  unfold F; rw [rep2_ne _ _ _ _ _ h1, rep1_cons, if_neg h2, List.singleton_append, rep1_cons, if_neg h1]; rfl
theorem F_lf (t) : F (10 :: t) = 92 :: 110 :: F t := by
  unfold F; rw [rep2_ne _ _ _ _ _ (by decide), rep1_cons, if_pos rfl, rep1_append]; rfl
theorem F_crlf (t) : F (13 :: 10 :: t) = 92 :: 110 :: F t := by
  unfold F; rw [rep2_hit, rep1_append, rep1_append]; rfl
theorem F_cr (t) (h : t.head? ≠ some 10) : F (13 :: t) = 92 :: 110 :: F t := by
  unfold F; rw [rep2_miss _ _ _ _ _ h, rep1_cons, if_neg (by decide), List.singleton_append, rep1_cons, if_pos rfl]; rfl
theorem F_bs (k t) : F (bs k t) = bs k (F t) := by
  induction k with
  | zero => rfl
  | succ k ih => rw [bs_succ, F_pass _ _ (by decide) (by decide), ih, bs_succ]
theorem F_free : ∀ (s t : List Nat), 13 ∉ s → 10 ∉ s → F (s ++ t) = s ++ F t
  | [], _, _, _ => rfl
  | c :: s, t, h1, h2 => by
    rw [List.cons_append, F_pass _ _ (fun e => h1 (e ▸ List.mem_cons_self ..)) (fun e => h2 (e ▸ List.mem_cons_self ..)),
      F_free s t (fun m => h1 (List.mem_cons_of_mem _ m)) (fun m => h2 (List.mem_cons_of_mem _ m))]; rfl

theorem F_txt : ∀ ps : PL, Ok ps → F (txt (ps.map dP)) = txt ((restF false ps).map (raiseP 1)) ∧ F (13 :: txt (ps.map dP)) = 92 :: 110 :: txt ((restF true ps).map (raiseP 1)) := by
  intro ps h
  induction ps with
  | nil => exact ⟨rfl, rfl⟩
  | cons p t ih =>
    obtain ⟨r, s⟩ := p
    rcases h with ⟨rfl, rfl⟩ | ⟨hs, ht⟩
    · have e2 : dP (r, ([] : List Nat)) = (2 * r, []) := by simp [dP]
      have hr : ∀ b, restF b [(r, [])] = [(r, [])] := by intro b; simp [restF]
      have e3 : raiseP 1 (r, ([] : List Nat)) = (2 * r, []) := by simp [raiseP]; omega
      have e4 : F (bs (2 * r) []) = bs (2 * r) [] := F_bs _ _
      constructor
      · simp only [List.map_cons, List.map_nil, e2, hr, e3]; exact e4
      · simp only [List.map_cons, List.map_nil, e2, hr, e3]
        show F (13 :: bs (2 * r) []) = 92 :: 110 :: bs (2 * r) []
        rw [F_cr, e4]
        cases r with
        | zero => simp [bs]
        | succ r => rw [show 2 * (r + 1) = 2 * r + 1 + 1 by omega, bs_succ]; simp
    · obtain ⟨ih1, ih2⟩ := ih ht
      have A : F (txt (((r, s) :: t).map dP)) = txt ((restF false ((r, s) :: t)).map (raiseP 1)) := by
        by_cases c1 : s = [78] ∧ 0 < r
        · obtain ⟨rfl, hr⟩ := c1
          have e2 : dP (r, [78]) = (2 * (r - 1), [10]) := by simp [dP, hr]
          have e3 : restF false ((r, [78]) :: t) = (r - 1, [10]) :: restF false t := by simp [restF, hr]
          have e4 : raiseP 1 (r - 1, [10]) = (2 * (r - 1) + 1, [110]) := by simp [raiseP]
          rw [List.map_cons, e2, e3, List.map_cons, e4]
          show F (bs (2 * (r - 1)) (10 :: txt _)) = bs (2 * (r - 1) + 1) (110 :: txt _)
          rw [F_bs, F_lf, ih1, bs_snoc]
        · by_cases c2 : s = [13]
          · subst c2
            have e2 : dP (r, [13]) = (2 * r, [13]) := by simp [dP]
            have e3 : restF false ((r, [13]) :: t) = (r, [10]) :: restF true t := by simp [restF]
            have e4 : raiseP 1 (r, [10]) = (2 * r + 1, [110]) := by simp [raiseP]
            rw [List.map_cons, e2, e3, List.map_cons, e4]
            show F (bs (2 * r) (13 :: txt _)) = bs (2 * r + 1) (110 :: txt _)
            rw [F_bs, ih2, bs_snoc]
          · by_cases c3 : s = [10]
            · subst c3
              have e2 : dP (r, [10]) = (2 * r, [10]) := by simp [dP]
              have e3 : restF false ((r, [10]) :: t) = (r, [10]) :: restF false t := by simp [restF]
              have e4 : raiseP 1 (r, [10]) = (2 * r + 1, [110]) := by simp [raiseP]
              rw [List.map_cons, e2, e3, List.map_cons, e4]
              show F (bs (2 * r) (10 :: txt _)) = bs (2 * r + 1) (110 :: txt _)
              rw [F_bs, F_lf, ih1, bs_snoc]
            · have e3 : restF false ((r, s) :: t) = (r, s) :: restF false t := by
                simp only [restF]; rw [if_neg c1, if_neg c1, if_neg (by simp), if_neg c2, decide_eq_false c2]
              have e4 : raiseP 1 (r, s) = dP (r, s) := by
                simp only [raiseP, dP]; rw [if_neg c3, if_neg c1]
                by_cases c5 : s = [44] ∨ s = [59]
                · rw [if_pos c5, if_pos c5]; congr 1; omega
                · rw [if_neg c5, if_neg c5]; congr 1; omega
              have e5 : (dP (r, s)).2 = s := by
                simp only [dP]; rw [if_neg c1]; split <;> rfl
              rw [List.map_cons, e3, List.map_cons, e4]
              generalize dP (r, s) = q at e5
              obtain ⟨k, s'⟩ := q
              dsimp only at e5; subst e5
              show F (bs k (s' ++ txt _)) = bs k (s' ++ txt _)
              rw [F_bs, F_free _ _ (sign_not hs (by decide) c2) (sign_not hs (by decide) c3), ih1]
      refine ⟨A, ?_⟩
      by_cases c0 : (s = [78] ∧ r = 1) ∨ (s = [10] ∧ r = 0)
      · have e2 : dP (r, s) = (0, [10]) := by rcases c0 with ⟨rfl, rfl⟩ | ⟨rfl, rfl⟩ <;> rfl
        have e3 : restF true ((r, s) :: t) = restF false t := by
          rcases c0 with ⟨rfl, rfl⟩ | ⟨rfl, rfl⟩ <;> simp [restF]
        rw [List.map_cons, e2, e3]
        show F (13 :: 10 :: txt _) = _
        rw [F_crlf, ih1]
      · have e3 : restF true ((r, s) :: t) = restF false ((r, s) :: t) := by
          have hno : ¬ ((if s = [78] ∧ 0 < r then r - 1 else r) = 0 ∧ (if s = [78] ∧ 0 < r then [10] else s) = [10]) := by
            intro hh
            apply c0
            by_cases c1 : s = [78] ∧ 0 < r
            · rw [if_pos c1] at hh; left; exact ⟨c1.1, by omega⟩
            · rw [if_neg c1, if_neg c1] at hh; right; exact ⟨hh.2, hh.1⟩
          revert hno
          simp only [restF]
          generalize (if s = [78] ∧ 0 < r then r - 1 else r) = r'
          generalize (if s = [78] ∧ 0 < r then [10] else s) = s'
          intro hno
          simp [hno]
        rw [e3, F_cr, A]
        intro hh
        apply c0
        rw [List.map_cons] at hh
        by_cases c1 : s = [78] ∧ 0 < r
        · obtain ⟨rfl, hr⟩ := c1
          have e2 : dP (r, [78]) = (2 * (r - 1), [10]) := by simp [dP, hr]
          rw [e2] at hh
          change (bs (2 * (r - 1)) _).head? = _ at hh
          left; refine ⟨rfl, ?_⟩
          by_cases hr1 : r = 1
          · exact hr1
          · rw [show 2 * (r - 1) = 2 * (r - 1) - 1 + 1 by omega, bs_succ] at hh; simp at hh
        · have : ∃ k, dP (r, s) = (k, s) ∧ (s = [10] → k = 2 * r) := by
            simp only [dP]; rw [if_neg c1]
            split
            · rename_i c5; exact ⟨_, rfl, fun e => by rw [e] at c5; simp at c5⟩
            · exact ⟨_, rfl, fun _ => rfl⟩
          obtain ⟨k, e2, hk⟩ := this
          rw [e2] at hh
          change (bs k (s ++ _)).head? = _ at hh
          cases k with
          | succ k => rw [bs_succ] at hh; simp at hh
          | zero =>
            rw [bs_zero] at hh
            match s, hs, hh with
            | c :: s, hs, hh =>
              have : c = 10 := by simpa using hh
              subst this
              have hs0 : s = [] := by
                rcases hs.2.2 with h3 | h3
                · simpa using h3
                · have := h3 10 (List.mem_cons_self ..); omega
              subst hs0
              right; exact ⟨rfl, by have := hk rfl; omega⟩

theorem esc_txt (ps : PL) (h : Ok ps) : esc (txt ps) = txt ((restF false ps).map (raiseP 1)) := by
  rw [esc_eq, G_txt ps h, (F_txt ps h).1]
end Mine
end
section
namespace Mine
open PySem

/-! the one-pass reader -/
theorem unesc_ne (c t) (h : c ≠ 92) : unesc (c :: t) = c :: unesc t := by
  cases t with
  | nil => rfl
  | cons d r => simp [unesc, h]
theorem unesc_miss (t : List Nat) (h : ∀ d ∈ t.head?, d ∉ [92, 44, 59, 58, 110, 78]) : unesc (92 :: t) = 92 :: unesc t := by
  cases t with
  | nil => rfl
  | cons d r =>
    have h1 := h d (by simp)
    conv => lhs; unfold unesc
    rw [if_neg (fun hh => h1 hh.2)]
theorem unesc_hit (d t) (h : d ∈ [92, 44, 59, 58, 110, 78]) : unesc (92 :: d :: t) = (if d ∈ [110, 78] then 10 else d) :: unesc t := by
  conv => lhs; unfold unesc
  rw [if_pos ⟨rfl, h⟩]
theorem unesc_two (t) : unesc (92 :: 92 :: t) = 92 :: unesc t := by rw [unesc_hit 92 t (by decide)]; rfl
theorem unesc_even (m t) : unesc (bs (2 * m) t) = bs m (unesc t) := by
  induction m with
  | zero => rfl
  | succ m ih => rw [show 2 * (m + 1) = 2 * m + 1 + 1 by omega, bs_succ, bs_succ, unesc_two, ih, bs_succ]
theorem unesc_odd (m t) : unesc (bs (2 * m + 1) t) = bs m (unesc (92 :: t)) := by
  rw [bs_snoc, unesc_even]

theorem unesc_pass : ∀ (s t : List Nat), 92 ∉ s → unesc (s ++ t) = s ++ unesc t
  | [], _, _ => rfl
  | c :: s, t, h => by
    rw [List.cons_append, unesc_ne _ _ (fun e => h (e ▸ List.mem_cons_self ..)), unesc_pass s t (fun m => h (List.mem_cons_of_mem _ m))]; rfl

theorem unesc_txt : ∀ ps : PL, Ok ps → unesc (txt ps) = txt (ps.map passP)
  | [], _ => rfl
  | (r, s) :: t, h => by
    rcases h with ⟨rfl, rfl⟩ | ⟨hs, ht⟩
    · have e : passP (r, ([] : List Nat)) = ((r + 1) / 2, []) := by simp [passP]
      rw [List.map_cons, e]
      show unesc (bs r []) = bs ((r + 1) / 2) []
      rcases Nat.mod_two_eq_zero_or_one r with hr | hr
      · rw [show r = 2 * (r / 2) by omega, unesc_even, show (2 * (r / 2) + 1) / 2 = r / 2 by omega]; rfl
      · rw [show r = 2 * (r / 2) + 1 by omega, unesc_odd, show (2 * (r / 2) + 1 + 1) / 2 = r / 2 + 1 by omega, bs_snoc]; rfl
    · have ih := unesc_txt t ht
      rw [List.map_cons]
      show unesc (bs r (s ++ txt t)) = _
      rcases Nat.mod_two_eq_zero_or_one r with hr | hr
      · have e : passP (r, s) = (r / 2, s) := by
          unfold passP; dsimp only
          rw [if_neg (by omega)]
          split
          · rfl
          · congr 1; omega
        rw [e]
        show _ = bs (r / 2) (s ++ txt _)
        rw [← ih, ← unesc_pass _ _ hs.1, ← unesc_even, show 2 * (r / 2) = r by omega]
      · have er : r = 2 * (r / 2) + 1 := by omega
        rw [er, unesc_odd, ← er]
        match s, hs with
        | c :: s, hs =>
          have hc : c ≠ 92 := fun e => hs.1 (e ▸ List.mem_cons_self ..)
          by_cases hk : c ∈ [92, 44, 59, 58, 110, 78]
          · have hs0 : s = [] := by
              rcases hs.2.2 with h3 | h3
              · simpa using h3
              · have := h3 c (List.mem_cons_self ..)
                simp at hk; omega
            subst hs0
            show bs (r / 2) (unesc (92 :: c :: txt t)) = _
            rw [unesc_hit _ _ hk, ih]
            by_cases hn : c = 110 ∨ c = 78
            · have e : passP (r, [c]) = (r / 2, [10]) := by
                unfold passP; dsimp only; rw [if_pos ⟨by simpa using hn, hr⟩]
              rw [e, if_pos (by simpa using hn)]; rfl
            · have e : passP (r, [c]) = (r / 2, [c]) := by
                unfold passP; dsimp only
                rw [if_neg (fun hh => hn (by simpa using hh.1)), if_pos]
                simp at hk hn ⊢; omega
              rw [e, if_neg (by simpa using hn)]; rfl
          · have e : passP (r, c :: s) = ((r + 1) / 2, c :: s) := by
              unfold passP; dsimp only
              rw [if_neg, if_neg]
              · intro hh; apply hk
                rcases hh with hh | hh | hh | hh | hh <;> (have := (List.cons.inj hh).1; simp [this])
              · intro hh; apply hk
                rcases hh.1 with hh | hh <;> (have := (List.cons.inj hh).1; simp [this])
            rw [e]
            show bs (r / 2) (unesc (92 :: ((c :: s) ++ txt t))) = bs ((r + 1) / 2) ((c :: s) ++ txt _)
            rw [unesc_miss _ (by intro d hd; simp at hd; rw [← hd]; exact hk), unesc_pass _ _ hs.1, ih, show (r + 1) / 2 = r / 2 + 1 by omega, bs_snoc]

/-! what is rested -/
def restedP (p : Nat × List Nat) : Prop := p.2 ≠ [13] ∧ (p.2 = [78] → p.1 = 0)
theorem ok_cons {r s t} (h : Ok ((r, s) :: t)) : (s = [] ∧ t = []) ∨ (signOk s ∧ Ok t) := h
theorem ok_mk {p : Nat × List Nat} {t : PL} (h : signOk p.2) (ht : Ok t) : Ok (p :: t) := .inr ⟨h, ht⟩
theorem ok_end {p : Nat × List Nat} (h : p.2 = []) : Ok [p] := .inl ⟨h, rfl⟩
theorem signOk_10 : signOk [10] := ⟨by decide, by decide, .inl rfl⟩
theorem signOk_110 : signOk [110] := ⟨by decide, by decide, .inl rfl⟩
theorem restF_cases (b : Bool) (r : Nat) (s : List Nat) (t : PL) : restF b ((r, s) :: t) = restF false t ∨
    ∃ r' s' c, restF b ((r, s) :: t) = (r', s') :: restF c t ∧ (s' = [10] ∨ (s' = s ∧ r' = r ∧ s ≠ [13] ∧ ¬ (s = [78] ∧ 0 < r))) := by
  have e : restF b ((r, s) :: t) = if b = true ∧ (if s = [78] ∧ 0 < r then r - 1 else r) = 0 ∧ (if s = [78] ∧ 0 < r then [10] else s) = [10] then restF false t else
    ((if s = [78] ∧ 0 < r then r - 1 else r), if (if s = [78] ∧ 0 < r then [10] else s) = [13] then [10] else (if s = [78] ∧ 0 < r then [10] else s)) :: restF (decide ((if s = [78] ∧ 0 < r then [10] else s) = [13])) t := by
    conv => lhs; unfold restF
  rw [e]
  by_cases c : b = true ∧ (if s = [78] ∧ 0 < r then r - 1 else r) = 0 ∧ (if s = [78] ∧ 0 < r then [10] else s) = [10]
  · rw [if_pos c]; exact .inl rfl
  · rw [if_neg c]
    refine .inr ⟨_, _, _, rfl, ?_⟩
    by_cases c1 : s = [78] ∧ 0 < r
    · left; rw [if_pos c1]; split <;> rfl
    · rw [if_neg c1, if_neg c1]
      by_cases c2 : s = [13]
      · left; rw [if_pos c2]
      · right; rw [if_neg c2]; exact ⟨rfl, rfl, c2, c1⟩
theorem restF_ok : ∀ (ps : PL) (b : Bool), Ok ps → Ok (restF b ps)
  | [], _, _ => trivial
  | (r, s) :: t, b, h => by
    rcases ok_cons h with ⟨rfl, rfl⟩ | ⟨hs, ht⟩
    · have : restF b [(r, [])] = [(r, [])] := by simp [restF]
      rw [this]; exact ok_end rfl
    · have h2 := fun b => restF_ok t b ht
      rcases restF_cases b r s t with e | ⟨r', s', c, e, e2⟩
      · rw [e]; exact h2 _
      · rw [e]
        refine ok_mk ?_ (h2 _)
        rcases e2 with rfl | ⟨rfl, _⟩
        · exact signOk_10
        · exact hs
theorem restF_rested : ∀ (ps : PL) (b : Bool), ∀ p ∈ restF b ps, restedP p
  | [], _, p, hp => by simp [restF] at hp
  | (r, s) :: t, b, p, hp => by
    have h2 := fun b => restF_rested t b
    rcases restF_cases b r s t with e | ⟨r', s', c, e, e2⟩
    · rw [e] at hp; exact h2 _ p hp
    · rw [e] at hp
      rcases List.mem_cons.mp hp with rfl | hp
      · rcases e2 with rfl | ⟨rfl, rfl, e3, e4⟩
        · exact ⟨by simp, by simp⟩
        · refine ⟨e3, fun hh => ?_⟩
          dsimp only at hh ⊢
          have : ¬ 0 < r' := fun h0 => e4 ⟨hh, h0⟩
          omega
      · exact h2 _ p hp
theorem restF_id : ∀ (ps : PL), (∀ p ∈ ps, restedP p ∧ p.2 ≠ [10]) → restF false ps = ps
  | [], _ => rfl
  | (r, s) :: t, h => by
    obtain ⟨⟨h1, h2⟩, h3⟩ := h (r, s) (List.mem_cons_self ..)
    dsimp only at h1 h2 h3
    have ih := restF_id t fun p hp => h p (List.mem_cons_of_mem _ hp)
    have c1 : ¬ (s = [78] ∧ 0 < r) := fun hh => by have := h2 hh.1; omega
    unfold restF
    simp only [if_neg c1, if_neg h1, decide_eq_false h1, ih]
    simp

theorem raise_ok (k : Nat) : ∀ (ps : PL), Ok ps → Ok (ps.map (raiseP k))
  | [], _ => trivial
  | (r, s) :: t, h => by
    rcases ok_cons h with ⟨rfl, rfl⟩ | ⟨hs, ht⟩
    · exact ok_end (by simp [raiseP])
    · rw [List.map_cons]
      refine ok_mk ?_ (raise_ok k t ht)
      unfold raiseP; dsimp only
      repeat' split
      all_goals first | exact signOk_110 | exact hs
theorem raise_rested (k : Nat) {p : Nat × List Nat} (h : restedP p) : restedP (raiseP k p) ∧ (raiseP k p).2 ≠ [10] := by
  obtain ⟨r, s⟩ := p
  obtain ⟨h1, h2⟩ := h
  dsimp only at h1 h2
  unfold raiseP; dsimp only
  split
  · exact ⟨⟨by simp, by simp⟩, by simp⟩
  · rename_i h3
    split
    · rename_i h4
      refine ⟨⟨h1, fun e => ?_⟩, h3⟩
      dsimp only at e; rw [e] at h4; simp at h4
    · exact ⟨⟨h1, fun e => by dsimp only at e ⊢; rw [h2 e]; simp⟩, h3⟩
theorem raise_succ (k : Nat) (hk : 1 ≤ k) {p : Nat × List Nat} (h : restedP p) : raiseP 1 (raiseP k p) = raiseP (k + 1) p := by
  obtain ⟨r, s⟩ := p
  obtain ⟨h1, h2⟩ := h
  dsimp only at h1 h2
  have e : 2 ^ (k + 1) = 2 * 2 ^ k := by rw [Nat.pow_succ]; omega
  have e1 : 2 ^ k = 2 * 2 ^ (k - 1) := by
    obtain ⟨j, rfl⟩ : ∃ j, k = j + 1 := ⟨k - 1, by omega⟩
    rw [Nat.add_sub_cancel, Nat.pow_succ]; omega
  by_cases h3 : s = [10]
  · subst h3
    have a1 : raiseP k (r, [10]) = ((2 * r + 1) * 2 ^ (k - 1), [110]) := by simp [raiseP]
    have a2 : raiseP (k + 1) (r, [10]) = ((2 * r + 1) * 2 ^ k, [110]) := by simp [raiseP]
    have a3 : ∀ x, raiseP 1 (x, [110]) = (x * 2, [110]) := by intro x; simp [raiseP]
    rw [a1, a2, a3, e1]
    congr 1
    rw [Nat.mul_assoc, Nat.mul_comm (2 ^ (k - 1)) 2]
  · by_cases h4 : s = [44] ∨ s = [59]
    · have a1 : ∀ j x, raiseP j (x, s) = ((x + 1) * 2 ^ j - 1, s) := by intro j x; unfold raiseP; dsimp only; rw [if_neg h3, if_pos h4]
      rw [a1, a1, a1, e]
      congr 1
      have : 1 ≤ (r + 1) * 2 ^ k := Nat.mul_pos (by omega) (Nat.two_pow_pos _)
      rw [Nat.sub_add_cancel this, Nat.pow_one, Nat.mul_assoc, Nat.mul_comm (2 ^ k) 2]
    · have a1 : ∀ j x, raiseP j (x, s) = (x * 2 ^ j, s) := by intro j x; unfold raiseP; dsimp only; rw [if_neg h3, if_neg h4]
      rw [a1, a1, a1, e]
      congr 1
      rw [Nat.pow_one, Nat.mul_assoc, Nat.mul_comm (2 ^ k) 2]

/-- written k + 1 times over -/
def escN : Nat → List Nat → List Nat
  | 0, l => l
  | k + 1, l => esc (escN k l)
theorem escN_txt (ps : PL) (h : Ok ps) (k : Nat) : escN (k + 1) (txt ps) = txt ((restF false ps).map (raiseP (k + 1))) := by
  induction k with
  | zero => exact esc_txt ps h
  | succ k ih =>
    show esc (escN (k + 1) (txt ps)) = _
    rw [ih, esc_txt _ (raise_ok _ _ (restF_ok _ _ h)), restF_id]
    · congr 1
      rw [List.map_map]
      refine List.map_congr_left fun p hp => ?_
      exact raise_succ (k + 1) (by omega) (restF_rested _ _ p hp)
    · intro p hp
      obtain ⟨q, hq, rfl⟩ := List.mem_map.mp hp
      exact raise_rested _ (restF_rested _ _ q hq)

theorem pass_raise1 {p : Nat × List Nat} : passP (raiseP 1 p) = p := by
  obtain ⟨r, s⟩ := p
  by_cases h3 : s = [10]
  · subst h3; simp [raiseP, passP]
    try omega
  · by_cases h4 : s = [44] ∨ s = [59]
    · rcases h4 with rfl | rfl <;> simp [raiseP, passP] <;> omega
    · have a1 : raiseP 1 (r, s) = (r * 2, s) := by unfold raiseP; dsimp only; rw [if_neg h3, if_neg h4]
      rw [a1]
      unfold passP; dsimp only
      rw [if_neg (by omega)]
      split <;> (congr 1; omega)
theorem pass_raise (k : Nat) (hk : 1 ≤ k) (p : Nat × List Nat) : passP (raiseP (k + 1) p) = raiseP k p := by
  obtain ⟨r, s⟩ := p
  have e : 2 ^ (k + 1) = 2 * 2 ^ k := by rw [Nat.pow_succ]; omega
  have e1 : 2 ^ k = 2 * 2 ^ (k - 1) := by
    obtain ⟨j, rfl⟩ : ∃ j, k = j + 1 := ⟨k - 1, by omega⟩
    rw [Nat.add_sub_cancel, Nat.pow_succ]; omega
  by_cases h3 : s = [10]
  · subst h3
    have a1 : raiseP k (r, [10]) = ((2 * r + 1) * 2 ^ (k - 1), [110]) := by simp [raiseP]
    have a2 : raiseP (k + 1) (r, [10]) = ((2 * r + 1) * 2 ^ k, [110]) := by simp [raiseP]
    rw [a1, a2, e1]
    have : (2 * r + 1) * (2 * 2 ^ (k - 1)) = 2 * ((2 * r + 1) * 2 ^ (k - 1)) := by rw [← Nat.mul_assoc, Nat.mul_comm (2 * r + 1) 2, Nat.mul_assoc]
    rw [this]
    unfold passP; dsimp only
    rw [if_neg (by omega), if_pos (by simp)]
    congr 1; omega
  · by_cases h4 : s = [44] ∨ s = [59]
    · have a1 : ∀ j x, raiseP j (x, s) = ((x + 1) * 2 ^ j - 1, s) := by intro j x; unfold raiseP; dsimp only; rw [if_neg h3, if_pos h4]
      rw [a1, a1, e]
      have h5 : 1 ≤ (r + 1) * 2 ^ k := Nat.mul_pos (by omega) (Nat.two_pow_pos _)
      have : (r + 1) * (2 * 2 ^ k) = 2 * ((r + 1) * 2 ^ k) := by rw [← Nat.mul_assoc, Nat.mul_comm (r + 1) 2, Nat.mul_assoc]
      rw [this]
      unfold passP; dsimp only
      rw [if_neg (by rcases h4 with rfl | rfl <;> simp), if_pos (by rcases h4 with rfl | rfl <;> simp)]
      congr 1; omega
    · have a1 : ∀ j x, raiseP j (x, s) = (x * 2 ^ j, s) := by intro j x; unfold raiseP; dsimp only; rw [if_neg h3, if_neg h4]
      rw [a1, a1, e]
      have : r * (2 * 2 ^ k) = 2 * (r * 2 ^ k) := by rw [← Nat.mul_assoc, Nat.mul_comm r 2, Nat.mul_assoc]
      rw [this]
      unfold passP; dsimp only
      rw [if_neg (by omega)]
      split <;> (congr 1; omega)

def unescN : Nat → List Nat → List Nat
  | 0, l => l
  | k + 1, l => unesc (unescN k l)
theorem unescN_succ (k l) : unescN (k + 1) l = unescN k (unesc l) := by
  induction k with
  | zero => rfl
  | succ k ih => show unesc (unescN (k + 1) l) = _; rw [ih]; rfl
theorem unescN_txt (qs : PL) (h : Ok qs) (k : Nat) : unescN (k + 1) (txt (qs.map (raiseP (k + 1)))) = txt qs := by
  induction k with
  | zero =>
    show unesc (txt (qs.map (raiseP 1))) = _
    rw [unesc_txt _ (raise_ok _ _ h), List.map_map]
    congr 1
    conv => rhs; rw [← List.map_id qs]
    exact List.map_congr_left fun p _ => pass_raise1
  | succ k ih =>
    rw [unescN_succ, unesc_txt _ (raise_ok _ _ h), List.map_map]
    have : qs.map (passP ∘ raiseP (k + 1 + 1)) = qs.map (raiseP (k + 1)) := List.map_congr_left fun p _ => pass_raise (k + 1) (by omega) p
    rw [this, ih]
/-- along the way -/
theorem unescN_part (qs : PL) (h : Ok qs) (k j : Nat) : unescN j (txt (qs.map (raiseP (k + 1 + j)))) = txt (qs.map (raiseP (k + 1))) := by
  induction j generalizing k with
  | zero => rfl
  | succ j ih =>
    rw [unescN_succ, unesc_txt _ (raise_ok _ _ h), List.map_map]
    have : qs.map (passP ∘ raiseP (k + 1 + (j + 1))) = qs.map (raiseP (k + 1 + j)) := List.map_congr_left fun p _ => pass_raise (k + 1 + j) (by omega) p
    rw [this, ih]

/-! the chained reader, where no n stands behind a run -/
theorem step_ok (k z) (hz : signOk z) : ∀ (ps : PL), Ok ps → Ok (ps.map (stepK k z))
  | [], _ => trivial
  | (r, s) :: t, h => by
    rcases ok_cons h with ⟨rfl, rfl⟩ | ⟨hs, ht⟩
    · exact ok_end (by simp [stepK])
    · rw [List.map_cons]
      refine ok_mk ?_ (step_ok k z hz t ht)
      by_cases c : s = [k] ∧ 0 < r
      · rw [show stepK k z (r, s) = (r - 1, z) by unfold stepK; dsimp only; rw [if_pos c]]; exact hz
      · rw [show stepK k z (r, s) = (r, s) by unfold stepK; dsimp only; rw [if_neg c]]; exact hs
theorem no13_txt : ∀ (ps : PL), (∀ p ∈ ps, 13 ∉ p.2) → 13 ∉ txt ps
  | [], _ => by simp [txt]
  | (r, s) :: t, h => by
    have h1 := h (r, s) (List.mem_cons_self ..)
    have h2 := no13_txt t fun p hp => h p (List.mem_cons_of_mem _ hp)
    show 13 ∉ bs r (s ++ txt t)
    unfold bs
    simp only [List.mem_append, List.mem_replicate, not_or]
    exact ⟨by simp, h1, h2⟩
theorem rep2_no (a b z) : ∀ l : List Nat, a ∉ l → rep2 a b z l = l
  | [], _ => rfl
  | c :: l, h => by
    have h1 : c ≠ a := fun e => h (by rw [e]; exact List.mem_cons_self ..)
    rw [rep2_ne _ _ _ _ _ h1, rep2_no a b z l (fun m => h (List.mem_cons_of_mem _ m))]

theorem unq_txt (qs : PL) (h : Ok qs) (hr : ∀ p ∈ qs, restedP p) (hn : ∀ p ∈ qs, p.2 ≠ [110]) : unq (txt (qs.map (raiseP 1))) = txt qs := by
  have ok1 := raise_ok 1 qs h
  have r1 : ∀ p ∈ qs.map (raiseP 1), restedP p ∧ p.2 ≠ [10] := by
    intro p hp
    obtain ⟨q, hq, rfl⟩ := List.mem_map.mp hp
    exact raise_rested _ (hr q hq)
  have e1 : rep2 92 78 [92, 110] (txt (qs.map (raiseP 1))) = txt (qs.map (raiseP 1)) := by
    rw [rep2_txt 78 _ (by decide) (by decide) _ ok1]
    congr 1
    conv => rhs; rw [← List.map_id (qs.map (raiseP 1))]
    refine List.map_congr_left fun p hp => ?_
    have := (r1 p hp).1.2
    unfold stepK
    rw [if_neg]
    · rfl
    · intro hh; have := this hh.1; omega
  have sgn : ∀ {ps : PL}, Ok ps → ∀ p ∈ ps, p.2 = [] ∨ signOk p.2 := by
    intro ps
    induction ps with
    | nil => intro _ p hp; simp at hp
    | cons q t ih =>
      obtain ⟨r, s⟩ := q
      intro hh p hp
      rcases ok_cons hh with ⟨rfl, rfl⟩ | ⟨hs, ht⟩
      · simp at hp; subst hp; left; rfl
      · rcases List.mem_cons.mp hp with rfl | hp
        · right; exact hs
        · exact ih ht p hp
  have e2 : rep2 13 10 [10] (txt (qs.map (raiseP 1))) = txt (qs.map (raiseP 1)) := by
    refine rep2_no _ _ _ _ (no13_txt _ fun p hp => ?_)
    rcases sgn ok1 p hp with h0 | h0
    · rw [h0]; simp
    · exact sign_not h0 (by decide) (r1 p hp).1.1
  unfold unq
  rw [e1, e2, rep2_txt 110 _ (by decide) (by decide) _ ok1, rep2_txt 44 _ (by decide) (by decide) _ (step_ok 110 [10] signOk_10 _ ok1),
    rep2_txt 59 _ (by decide) (by decide) _ (step_ok 44 [44] ⟨by decide, by decide, .inl rfl⟩ _ (step_ok 110 [10] signOk_10 _ ok1)),
    rep92_txt _ (step_ok 59 [59] ⟨by decide, by decide, .inl rfl⟩ _ (step_ok 44 [44] ⟨by decide, by decide, .inl rfl⟩ _ (step_ok 110 [10] signOk_10 _ ok1)))]
  simp only [List.map_map]
  congr 1
  conv => rhs; rw [← List.map_id qs]
  refine List.map_congr_left fun p hp => ?_
  have h110 := hn p hp
  obtain ⟨r, s⟩ := p
  dsimp only at h110
  simp only [Function.comp, id]
  by_cases h3 : s = [10]
  · subst h3; simp [raiseP, stepK, half]
    try omega
  · by_cases h4 : s = [44] ∨ s = [59]
    · rcases h4 with rfl | rfl
      · have a : raiseP 1 (r, [44]) = (2 * r + 1, [44]) := by simp [raiseP]; omega
        rw [a]; simp [stepK, half]; omega
      · have a : raiseP 1 (r, [59]) = (2 * r + 1, [59]) := by simp [raiseP]; omega
        rw [a]; simp [stepK, half]; omega
    · have a1 : raiseP 1 (r, s) = (r * 2, s) := by unfold raiseP; dsimp only; rw [if_neg h3, if_neg h4]
      have h5 : s ≠ [44] := fun e => h4 (.inl e)
      have h6 : s ≠ [59] := fun e => h4 (.inr e)
      rw [a1]; simp [stepK, half, h110, h5, h6]; omega

theorem restF_no110 : ∀ (ps : PL) (b : Bool), (∀ p ∈ ps, p.2 ≠ [110]) → ∀ p ∈ restF b ps, p.2 ≠ [110]
  | [], _, _, p, hp => by simp [restF] at hp
  | (r, s) :: t, b, h, p, hp => by
    have h1 := h (r, s) (List.mem_cons_self ..)
    have h2 := fun b => restF_no110 t b fun p hp => h p (List.mem_cons_of_mem _ hp)
    rcases restF_cases b r s t with e | ⟨r', s', c, e, e2⟩
    · rw [e] at hp; exact h2 _ p hp
    · rw [e] at hp
      rcases List.mem_cons.mp hp with rfl | hp
      · rcases e2 with rfl | ⟨rfl, _⟩
        · simp
        · exact h1
      · exact h2 _ p hp
theorem unq_esc (ps : PL) (h : Ok ps) (hn : ∀ p ∈ ps, p.2 ≠ [110]) : unq (esc (txt ps)) = txt (restF false ps) := by
  rw [esc_txt ps h, unq_txt _ (restF_ok _ _ h) (restF_rested _ _) (restF_no110 _ _ hn)]
end Mine
end
section
open PySem PySem.W PyProof.Rows
set_option Elab.async false
set_option maxRecDepth 100000
namespace Mine
section
variable {prog : Program} {w : World} {A : Around} {E : Value → Shared → Prop} {s : Shared} {x y z : Str} {t u v : Tok} {Q : Value → Shared → Prop}
open Builtin Builtin.Str
theorem replace_len (x y z : Str) : (Txt.replace x y z).length ≤ x.length + (x.length + 1) * z.length := by
  unfold Txt.replace
  split
  · omega
  · have h1 := StrLaws.occ_length_le x y 0 x.length (x.length + 1)
    have hy : (glued y (partsBetween x (occurrences x y 0 x.length (x.length + 1)) y.length)).length = x.length := by rw [StrLaws.glued_between_self]
    rw [size_glued, length_partsBetween, Nat.add_sub_cancel] at hy
    rw [size_glued, length_partsBetween, Nat.add_sub_cancel]
    have h2 : (occurrences x y 0 x.length (x.length + 1)).length * z.length ≤ (x.length + 1) * z.length := Nat.mul_le_mul_right _ h1
    omega
/-- str.replace of two written texts, the tokens told -/
theorem my_replace (n : Nat) (h1 : @LE.le Nat _ 1 s.toks) (hu : @Ne Nat u 0) (hv : @Ne Nat v 0) (huv : @Ne Nat u v) (hyz : (y == z) = false) (hz : z.length = n) (hx : x.length + (x.length + 1) * n ≤ 16777216)
    (hq : ∀ t' k, 1 ≤ k → (Txt.replace x y z).length ≤ x.length + (x.length + 1) * n → Q (.str (Txt.replace x y z) t') { s with toks := k }) :
    wpAny (model prog w) A (call (.builtin "str.replace") [.str x t, .str y u, .str z v]) Q E s := by
  subst hz
  refine wpAny_with_toks h1 ?_
  exact SC.replace hu hv huv hyz hx fun t' k hk => hq t' k hk (replace_len x y z)
end
section
variable {M : Model} {A : Around} {E : Value → Shared → Prop} {s : Shared} {env : Env} {st : Stmt} {rest : List Stmt} {Q : Flow → Shared → Prop}
theorem execs_cons_toks (h1 : @LE.le Nat _ 1 s.toks) (h : wpAny M A (exec st env) (fun f s' => 1 ≤ s'.toks → match f with | .next => wpAny M A (execs rest env) Q E s' | f => Q f s') E s) : wpAny M A (execs (st :: rest) env) Q E s := by
  refine wpAny_execs_cons (wpAny_with_toks h1 ?_)
  exact wpAny_mono h (fun f s' x h => x h) (fun _ _ x _ => x)
end
theorem sub_self {news : Led} : ∀ p ∈ news, p ∈ news := fun _ h => h
theorem sub_cons {q : Addr × Obj} {news news' : Led} (h : ∀ p ∈ news, p ∈ news') : ∀ p ∈ news, p ∈ q :: news' := fun p hp => List.mem_cons_of_mem _ (h p hp)
end Mine
end
section
open PySem PySem.W PyProof.Rows
set_option Elab.async false
set_option maxRecDepth 100000
namespace Mine
def cat (r : List Str) : List Nat := r.flatMap (·.cps.toList)
theorem cat_nil : cat [] = [] := rfl
theorem cat_cons (a : Str) (r : List Str) : cat (a :: r) = a.cps.toList ++ cat r := rfl
theorem cat_snoc (r : List Str) (a : Str) : cat (r ++ [a]) = cat r ++ a.cps.toList := by simp [cat]
def ofL (l : List Nat) : Str := ⟨l.toArray⟩
theorem ofL_toList (x : Str) : ofL x.cps.toList = x := by cases x; rfl
theorem ofL_len (l : List Nat) : (ofL l).length = l.length := by simp [ofL, Str.length]
theorem len_toList (x : Str) : x.cps.toList.length = x.length := by simp [Str.length]
theorem strs_pairs : ∀ {vs : List Value} {rs : List Str}, StrsAre vs rs → ∃ l : List (Str × Tok), strValues l = vs ∧ l.map (·.1) = rs
  | _, _, .nil => ⟨[], rfl, rfl⟩
  | _, _, .cons y t r => by
    obtain ⟨l, h1, h2⟩ := strs_pairs r
    exact ⟨(y, t) :: l, by subst h1; rfl, by subst h2; rfl⟩
theorem join_cat : ∀ rs : List Str, Str.join (Str.ofString "") rs = ofL (cat rs)
  | [] => rfl
  | [x] => by
    show x = _
    apply Str.ext'
    apply Array.toList_inj.mp
    simp [cat, ofL]
  | x :: y :: r => by
    have ih := join_cat (y :: r)
    show x ++ Str.ofString "" ++ Str.join (Str.ofString "") (y :: r) = _
    rw [ih]
    have : Str.ofString "" = Str.empty := by decide +kernel
    rw [this, Str.append_empty]
    apply Str.ext'
    apply Array.toList_inj.mp
    simp [cat, ofL, Str.cps_append]
theorem cat_len : ∀ rs : List Str, (rs.map (·.length)).sum = (cat rs).length
  | [] => rfl
  | x :: r => by rw [List.map_cons, List.sum_cons, cat_len r, cat_cons, List.length_append, len_toList]
section
variable {prog : Program} {w : World} {A : Around} {E : Value → Shared → Prop} {s : Shared}
theorem my_join {Q : Value → Shared → Prop} {D : Addr} {vs : List Value} {rs : List Str} {t : Tok} (hl : s.heap.IsList D vs.toArray) (hS : StrsAre vs rs) (hsum : (cat rs).length ≤ 16777216)
    (hq : ∀ t' k, Q (.str (ofL (cat rs)) t') { s with toks := k }) : wpAny (model prog w) A (call (.builtin "str.join") [.str (Str.ofString "") t, .ref D]) Q E s := by
  obtain ⟨l, h1, h2⟩ := strs_pairs hS
  subst h1
  refine SC.join hl h2 ?_ ?_
  · unfold JoinOk Builtin.Str.tooLong
    rw [StrLaws.joinTotal, cat_len]
    have : (Str.ofString "").length = 0 := by decide +kernel
    rw [this, sizeLine_eq, Nat.mul_zero, Nat.add_zero]
    simp; exact hsum
  · intro t' k
    have : Txt.join (Str.ofString "") rs = ofL (cat rs) := by
      unfold Txt.join; rw [StrLaws.glued_eq_join, join_cat]
    rw [this]; exact hq t' k
end

theorem fr_congr {h₀ h : Heap} {L : Addr} {m m' : Str → Option Value} (F : Fr h₀ L h m) (e : ∀ y, m y = m' y) : Fr h₀ L h m' := by
  have : m = m' := funext e
  subst this; exact F

/-- a turn's end: one int name, one list of texts -/
def TurnEnd (h₀ : Heap) (L : Addr) (s : Shared) (m₀ : Str → Option Value) (x : Str) (D : Addr) (news : Led) (P : Int → List Str → Prop) (μ : Int → Nat) (i : Int) (Q : Flow → Shared → Prop) (f : Flow) (s₂ : Shared) : Prop :=
  match f with
  | .ret v => Q (.ret v) s₂
  | .brk => Q .next s₂
  | _ => ∃ i' ti vs rs n h' tk, s₂ = { s with heap := h', toks := tk } ∧ Fr h₀ L h' (fun y => if y = x then some (.int i' ti) else m₀ y) ∧ News h₀ L h' ((D, listOf vs n) :: news) ∧ StrsAre vs.toList rs ∧ P i' rs ∧ μ i' < μ i
section
variable {prog : Program} {w : World} {A : Around} {E : Value → Shared → Prop} {Q : Flow → Shared → Prop} {s : Shared} {env : Env} {h₀ : Heap} {L : Addr}
theorem while_ir {test : Expr} {body : List Stmt} {pos : Pos} {m₀ : Str → Option Value} {x : Str} {D : Addr} {news : Led} {i₀ : Int} {t₀ : Tok} {n₀ : Nat} (P : Int → List Str → Prop) (μ : Int → Nat)
    (F : Fr h₀ L s.heap m₀) (N : News h₀ L s.heap ((D, listOf #[] n₀) :: news)) (hk : m₀ x = some (.int i₀ t₀)) (hp : P i₀ [])
    (turn : ∀ i ti vs rs n h tk, StrsAre vs rs → P i rs → Fr h₀ L h (fun y => if y = x then some (.int i ti) else m₀ y) → News h₀ L h ((D, listOf vs.toArray n) :: news) →
      wpAny (model prog w) A (isTrue test env (eval test env)) (fun b s₂ =>
        if b = true then wpAny (model prog w) A (execs body env) (TurnEnd h₀ L s m₀ x D news P μ i Q) E s₂ else Q .next s₂) E { s with heap := h, toks := tk })
    (hE : PassesOwn (model prog w) A env E := by passes_own) :
    wpAny (model prog w) A (exec (.While test body [] pos) env) Q E s := by
  refine While_inv2 (fun n m nx => ∃ i ti vs rs e, n = μ i ∧ (∀ y, m y = if y = x then some (.int i ti) else m₀ y) ∧ nx = (D, listOf (List.toArray vs) e) :: news ∧ StrsAre vs rs ∧ P i rs) F N
    ⟨i₀, t₀, [], [], n₀, rfl, fun y => by by_cases h : y = x <;> simp [h, hk], rfl, .nil, hp⟩ ?_ hE
  rintro n m₁ nx h tk F₁ N₁ ⟨i, ti, vs, rs, e, rfl, hm, rfl, hS, hP⟩
  refine wpAny_mono (turn i ti vs rs e h tk hS hP (fr_congr F₁ hm) N₁) (fun b s₂ p => ?_) fun _ _ x => x
  cases b with
  | false => simpa using p
  | true =>
    simp only [if_true] at p ⊢
    refine wpAny_mono p (fun f s₃ q => ?_) fun _ _ x => x
    cases f with
    | ret v => exact q
    | brk => exact q
    | next =>
      obtain ⟨i', ti', vs', rs', n', h', tk', rfl, F', N', hS', hP', hm'⟩ := q
      exact ⟨h', tk', _, _, μ i', rfl, F', N', hm', i', ti', vs'.toList, rs', n', rfl, fun _ => rfl, by simp, hS', hP'⟩
    | cont =>
      obtain ⟨i', ti', vs', rs', n', h', tk', rfl, F', N', hS', hP', hm'⟩ := q
      exact ⟨h', tk', _, _, μ i', rfl, F', N', hm', i', ti', vs'.toList, rs', n', rfl, fun _ => rfl, by simp, hS', hP'⟩
end

/-! one sign of a text -/
theorem drop_at {x : Str} {i : Int} (h0 : 0 ≤ i) (h1 : i < (x.length : Int)) : ∃ c, x.cps.toList.drop i.toNat = c :: x.cps.toList.drop (i.toNat + 1) ∧ Txt.item x i = ⟨#[c]⟩ := by
  have hl : i.toNat < x.cps.toList.length := by rw [len_toList]; omega
  refine ⟨x.cps.toList[i.toNat], List.drop_eq_getElem_cons hl, ?_⟩
  have : (x.cps.toList[i.toNat] : Nat) = x.cps[i.toNat]'(by simpa using hl) := by simp
  unfold Txt.item Txt.charAt
  rw [StrLaws.at_nonneg (n := x.cps.toList[i.toNat]) h0 (by rw [this]; exact Array.getElem?_eq_getElem _)]
  rfl
def Held (P : Prop) : Prop := P
theorem Held.out {P : Prop} (h : Held P) : P := h
end Mine
end
section
open PySem PySem.W PyProof.Rows
namespace Mine
def unescS (x : Str) : Str := ofL (unesc x.cps.toList)
theorem strs_push {vs : List Value} {rs : List Str} {y : Str} {t : Tok} (h : StrsAre vs rs) : StrsAre (vs.toArray.push (.str y t)).toList (rs ++ [y]) := by
  rw [Array.toList_push]; exact StrsAre.append' h (.cons y t .nil)
def UnP (x : Str) (i : Int) (r : List Str) : Prop := 0 ≤ i ∧ i ≤ (x.length : Int) ∧ (r.length : Int) ≤ i ∧ cat r ++ unesc (x.cps.toList.drop i.toNat) = unesc x.cps.toList
theorem fr_twice {h₀ h : Heap} {L : Addr} {x : Str} {v1 v2 : Value} {m₀ : Str → Option Value} (F : Fr h₀ L h (fun y => if y = x then some v1 else if y = x then some v2 else m₀ y)) : Fr h₀ L h (fun y => if y = x then some v1 else m₀ y) :=
  fr_congr F fun y => by by_cases hy : y = x <;> simp [hy]
theorem isBs (c : Nat) : ((⟨#[c]⟩ : Str) == Str.ofString "\\") = decide (c = 92) := by
  have : Str.ofString "\\" = ⟨#[92]⟩ := by decide +kernel
  rw [this, Bool.eq_iff_iff]; simp
theorem in_set (c : Nat) : (!(Builtin.Str.occurrences (Str.ofString "\\,;:nN") ⟨#[c]⟩ 0 (Str.ofString "\\,;:nN").length 1).isEmpty) = decide (c ∈ [92, 44, 59, 58, 110, 78]) := by
  rw [StrLaws.found_one]
  have : (Str.ofString "\\,;:nN").cps.toList = [92, 44, 59, 58, 110, 78] := by decide +kernel
  rw [this]
theorem in_nN (c : Nat) : (!(Builtin.Str.occurrences (Str.ofString "nN") ⟨#[c]⟩ 0 (Str.ofString "nN").length 1).isEmpty) = decide (c ∈ [110, 78]) := by
  rw [StrLaws.found_one]
  have : (Str.ofString "nN").cps.toList = [110, 78] := by decide +kernel
  rw [this]
theorem empt {b : Bool} {d : Bool} (h : (!b) = d) : b = !d := by rw [← h, Bool.not_not]
theorem un_one {x : Str} {i : Int} {r : List Str} (h : UnP x i r) (hlt : i < (x.length : Int))
    (hno : (Txt.item x i == Str.ofString "\\") = false ∨ ¬ (i + 1 < (x.length : Int)) ∨ (Builtin.Str.occurrences (Str.ofString "\\,;:nN") (Txt.item x (i + 1)) 0 (Str.ofString "\\,;:nN").length 1).isEmpty = true) :
    UnP x (i + 1) (r ++ [Txt.item x i]) := by
  obtain ⟨h0, h1, h2, h3⟩ := h
  obtain ⟨c, hd, hi⟩ := drop_at h0 hlt
  refine ⟨by omega, by omega, by simp; omega, ?_⟩
  rw [cat_snoc, hi, List.append_assoc]
  have e : (i + 1).toNat = i.toNat + 1 := by omega
  rw [e, ← h3, hd]
  congr 1
  show [c] ++ unesc _ = _
  by_cases hc : c = 92
  · subst hc
    rw [unesc_miss]
    · rfl
    · intro d hdd
      rcases hno with hno | hno | hno
      · rw [hi, isBs] at hno; simp at hno
      · have : x.cps.toList.drop (i.toNat + 1) = [] := by
          apply List.drop_eq_nil_of_le; rw [len_toList]; omega
        rw [this] at hdd; simp at hdd
      · by_cases hl2 : i + 1 < (x.length : Int)
        · obtain ⟨d', hd', hi'⟩ := drop_at (by omega : 0 ≤ i + 1) hl2
          rw [e] at hd'
          rw [hd'] at hdd
          have : d' = d := by simpa using hdd
          subst this
          rw [hi'] at hno
          have := empt (in_set d')
          rw [hno] at this
          simpa using this.symm
        · have : x.cps.toList.drop (i.toNat + 1) = [] := by
            apply List.drop_eq_nil_of_le; rw [len_toList]; omega
          rw [this] at hdd; simp at hdd
  · rw [unesc_ne _ _ hc]; rfl
theorem un_two {x : Str} {i : Int} {r : List Str} (h : UnP x i r) (hlt : i < (x.length : Int)) (hb : (Txt.item x i == Str.ofString "\\") = true) (hl2 : i + 1 < (x.length : Int))
    (hs : (Builtin.Str.occurrences (Str.ofString "\\,;:nN") (Txt.item x (i + 1)) 0 (Str.ofString "\\,;:nN").length 1).isEmpty = false) (z : Str)
    (hz : ((Builtin.Str.occurrences (Str.ofString "nN") (Txt.item x (i + 1)) 0 (Str.ofString "nN").length 1).isEmpty = false ∧ z = Str.ofString "\n") ∨
      ((Builtin.Str.occurrences (Str.ofString "nN") (Txt.item x (i + 1)) 0 (Str.ofString "nN").length 1).isEmpty = true ∧ z = Txt.item x (i + 1))) :
    UnP x (i + 2) (r ++ [z]) := by
  obtain ⟨h0, h1, h2, h3⟩ := h
  obtain ⟨c, hd, hi⟩ := drop_at h0 hlt
  obtain ⟨d, hd', hi'⟩ := drop_at (by omega : 0 ≤ i + 1) hl2
  have e : (i + 1).toNat = i.toNat + 1 := by omega
  rw [e] at hd'
  rw [hi, isBs] at hb
  have hc : c = 92 := by simpa using hb
  subst hc
  rw [hi'] at hs hz
  have hds : d ∈ [92, 44, 59, 58, 110, 78] := by
    have := empt (in_set d)
    rw [hs] at this
    have := (Bool.not_eq_false' (b := decide _)).mp this.symm
    exact of_decide_eq_true this
  refine ⟨by omega, by omega, by simp; omega, ?_⟩
  rw [cat_snoc, List.append_assoc]
  have e2 : (i + 2).toNat = i.toNat + 1 + 1 := by omega
  rw [e2, ← h3, hd, hd', unesc_hit _ _ hds]
  congr 1
  rcases hz with ⟨hz, rfl⟩ | ⟨hz, rfl⟩
  · have hn : d ∈ [110, 78] := by
      have := empt (in_nN d)
      rw [hz] at this
      have := (Bool.not_eq_false' (b := decide _)).mp this.symm
      exact of_decide_eq_true this
    rw [if_pos hn]
    have : (Str.ofString "\n").cps.toList = [10] := by decide +kernel
    rw [this]; rfl
  · have hn : d ∉ [110, 78] := by
      have := empt (in_nN d)
      rw [hz] at this; simpa using this.symm
    rw [if_neg hn]; rfl
theorem un_end {x : Str} {i : Int} {r : List Str} (h : UnP x i r) (hge : ¬ i < (x.length : Int)) : ofL (cat r) = unescS x ∧ (cat r).length ≤ x.length := by
  obtain ⟨h0, h1, h2, h3⟩ := h
  have : x.cps.toList.drop i.toNat = [] := by apply List.drop_eq_nil_of_le; rw [len_toList]; omega
  rw [this] at h3
  have h4 : cat r = unesc x.cps.toList := by rw [← h3]; simp [unesc]
  refine ⟨by unfold unescS; rw [h4], ?_⟩
  rw [h4, ← len_toList]
  have key : ∀ n (l : List Nat), l.length ≤ n → (unesc l).length ≤ l.length := by
    intro n
    induction n with
    | zero => intro l hl; cases l with
      | nil => simp [unesc]
      | cons _ _ => simp at hl
    | succ n ih =>
      intro l hl
      match l, hl with
      | [], _ => simp [unesc]
      | [c], _ => simp [unesc]
      | c :: d :: r, hl =>
        have h1 := ih r (by simp at hl; omega)
        have h2 := ih (d :: r) (by simp at hl ⊢; omega)
        unfold unesc
        split
        · simp; omega
        · simp at h2 ⊢; omega
  exact key _ _ (Nat.le_refl _)
end Mine
end
section
open PySem PySem.W PyProof.Rows
open PySem.Builtin
set_option maxRecDepth 100000
namespace Mine
def utf8L (l : List Nat) : List UInt8 := l.flatMap Str.utf8Of
theorem utf8L_nil : utf8L [] = [] := rfl
theorem utf8L_cons (c : Nat) (l : List Nat) : utf8L (c :: l) = Str.utf8Of c ++ utf8L l := rfl
theorem utf8L_append (a b : List Nat) : utf8L (a ++ b) = utf8L a ++ utf8L b := by simp [utf8L]
def plainC (c : Nat) : Prop := c < 128 ∨ c = 233
theorem utf8Of_lt {c : Nat} (h : c < 128) : Str.utf8Of c = [c.toUInt8] := by unfold Str.utf8Of; rw [if_pos h]
theorem utf8Of_233 : Str.utf8Of 233 = [195, 169] := by decide +kernel
theorem utf8Of_len {c : Nat} (h : plainC c) : 1 ≤ (Str.utf8Of c).length ∧ (Str.utf8Of c).length ≤ 2 := by
  rcases h with h | rfl
  · rw [utf8Of_lt h]; simp
  · rw [utf8Of_233]; simp
theorem at_lt (b : Array UInt8) (p c : Nat) (h : c < 128) (hb : b.getD p 0 = c.toUInt8) : Bytes.utf8At b p = (.char c, p + 1) := by
  have e : (c.toUInt8).toNat = c := by simp; omega
  unfold Bytes.utf8At
  simp only [hb, e]
  rw [if_pos h]
theorem at_233 (b : Array UInt8) (p : Nat) (hb : b.getD p 0 = 195) (hb1 : b[p + 1]? = some 169) : Bytes.utf8At b p = (.char 233, p + 2) := by
  unfold Bytes.utf8At
  simp only [hb]
  have e : (195 : UInt8).toNat = 195 := rfl
  simp only [e]
  simp [List.range_succ, hb1, Except.bind]
theorem dec_loop (b : List UInt8) (f : Nat → Nat × Array Nat × _codecs.Faults → Sem (ForInStep (Nat × Array Nat × _codecs.Faults))) (st : _codecs.Faults)
    (H1 : ∀ x p c next out, p < b.length → Bytes.utf8At b.toArray p = (.char c, next) → out.size ≤ sizeLine → f x (p, out, st) = pure (.yield (next, out ++ [c].toArray, st)))
    (H2 : ∀ x p out, b.length ≤ p → out.size ≤ sizeLine → f x (p, out, st) = pure (.done (p, out, st))) :
    ∀ (rest pre : List Nat) (k n : Nat), (∀ c ∈ rest, plainC c) → b = utf8L (pre ++ rest) → (pre ++ rest).length ≤ sizeLine → rest.length ≤ n →
      forIn (List.range' k n) ((utf8L pre).length, pre.toArray, st) f = pure (b.length, (pre ++ rest).toArray, st)
  | [], pre, k, 0, _, hb, _, _ => by
    rw [List.append_nil] at hb
    subst hb; simp
  | [], pre, k, n + 1, _, hb, hs, _ => by
    rw [List.append_nil] at hb hs
    rw [List.range'_succ, List.forIn_cons, H2 _ _ _ (by rw [hb]; exact Nat.le_refl _) (by simpa using hs), List.append_nil]
    subst hb; rfl
  | c :: rest, pre, k, 0, _, _, _, hn => by simp at hn
  | c :: rest, pre, k, n + 1, hp, hb, hs, hn => by
    have hc := hp c (List.mem_cons_self ..)
    have hlen := utf8Of_len hc
    have e1 : pre ++ c :: rest = (pre ++ [c]) ++ rest := by simp
    have ih := dec_loop b f st H1 H2 rest (pre ++ [c]) (k + 1) n (fun d hd => hp d (List.mem_cons_of_mem _ hd)) (by rw [hb, e1]) (by rw [← e1]; exact hs) (by simp at hn; omega)
    have hb2 : b = utf8L pre ++ (Str.utf8Of c ++ utf8L rest) := by rw [hb, utf8L_append, utf8L_cons]
    have hlt : (utf8L pre).length < b.length := by rw [hb2]; simp; omega
    have hat : Bytes.utf8At b.toArray (utf8L pre).length = (.char c, (utf8L (pre ++ [c])).length) := by
      rw [utf8L_append]
      rcases hc with hc | rfl
      · rw [at_lt _ _ c hc]
        · simp [utf8L, utf8Of_lt hc]
        · rw [hb2, utf8Of_lt hc]; simp [Array.getD]
      · rw [at_233]
        · simp [utf8L, utf8Of_233]
        · rw [hb2, utf8Of_233]; simp [Array.getD]
        · rw [hb2, utf8Of_233]; simp
    rw [List.range'_succ, List.forIn_cons, H1 _ _ _ _ _ hlt hat (by simp at hs ⊢; omega)]
    have e2 : pre.toArray ++ [c].toArray = (pre ++ [c]).toArray := by simp
    rw [e2]
    show forIn (List.range' (k + 1) n) _ f = _
    rw [ih, e1]
theorem run_utf8 (id : String) (l : List Nat) (hp : ∀ c ∈ l, plainC c) (hs : l.length ≤ sizeLine) :
    _codecs.runDecoder id _codecs.utf8Decoder none true (utf8L l).toArray 0 [] = pure (l.toArray, (utf8L l).length) := by
  unfold _codecs.runDecoder
  simp only [Std.Legacy.Range.forIn_eq_forIn_range']
  have hsz : ([:(utf8L l).toArray.size] : Std.Legacy.Range).size = (utf8L l).length := by simp [Std.Legacy.Range.size]
  rw [hsz]
  have hle : l.length ≤ (utf8L l).length := by
    clear hs hsz
    induction l with
    | nil => simp
    | cons c l ih =>
      have := ih fun d hd => hp d (List.mem_cons_of_mem _ hd)
      have := utf8Of_len (hp c (List.mem_cons_self ..))
      rw [utf8L_cons]; simp; omega
  have key := dec_loop (utf8L l) ?f {} ?H1 ?H2 l [] 0 (utf8L l).length hp (by simp) (by simpa using hs) hle
  case f => exact fun x __s =>
    if __s.snd.fst.size > sizeLine then do
      unsupported "str:memory"
      if __s.fst ≥ (utf8L l).toArray.size then pure (ForInStep.done (__s.fst, __s.snd.fst, __s.snd.snd))
      else
        match _codecs.utf8Decoder.find true (utf8L l).toArray __s.fst with
        | _codecs.Found.text cs nxt => pure (ForInStep.yield (nxt, __s.snd.fst ++ cs.toArray, __s.snd.snd))
        | _codecs.Found.refuse tag => do
          unsupported (toString id ++ toString ":" ++ toString tag)
          pure (ForInStep.yield (__s.fst, __s.snd.fst, __s.snd.snd))
        | _codecs.Found.bad stop reason mayGrow =>
          if (mayGrow && !true) = true then do
            rule (toString id ++ toString ".held-back")
            pure (ForInStep.done (__s.fst, __s.snd.fst, __s.snd.snd))
          else do
            rule (toString id ++ toString ".fault")
            let __x ← _codecs.decodeFault id __s.snd.snd none _codecs.utf8Decoder.own _codecs.utf8Decoder.name (utf8L l).toArray __s.fst stop reason
            pure (ForInStep.yield (__x.2.snd, __s.snd.fst ++ __x.2.fst, __x.fst))
    else
      if __s.fst ≥ (utf8L l).toArray.size then pure (ForInStep.done (__s.fst, __s.snd.fst, __s.snd.snd))
      else
        match _codecs.utf8Decoder.find true (utf8L l).toArray __s.fst with
        | _codecs.Found.text cs nxt => pure (ForInStep.yield (nxt, __s.snd.fst ++ cs.toArray, __s.snd.snd))
        | _codecs.Found.refuse tag => do
          unsupported (toString id ++ toString ":" ++ toString tag)
          pure (ForInStep.yield (__s.fst, __s.snd.fst, __s.snd.snd))
        | _codecs.Found.bad stop reason mayGrow =>
          if (mayGrow && !true) = true then do
            rule (toString id ++ toString ".held-back")
            pure (ForInStep.done (__s.fst, __s.snd.fst, __s.snd.snd))
          else do
            rule (toString id ++ toString ".fault")
            let __x ← _codecs.decodeFault id __s.snd.snd none _codecs.utf8Decoder.own _codecs.utf8Decoder.name (utf8L l).toArray __s.fst stop reason
            pure (ForInStep.yield (__x.2.snd, __s.snd.fst ++ __x.2.fst, __x.fst))
  case H1 =>
    intro x p c next out hlt hat hout
    dsimp only
    rw [if_neg (Nat.not_lt.mpr hout), if_neg (by simpa using hlt)]
    have : _codecs.utf8Decoder.find true (utf8L l).toArray p = .text [c] next := by
      show (match Bytes.utf8At (utf8L l).toArray p with
        | (.char c, nxt) => _codecs.Found.char c nxt
        | (.bad _ stop reason, _) => _) = _
      rw [hat]; rfl
    rw [this]
  case H2 =>
    intro x p out hge hout
    dsimp only
    rw [if_neg (Nat.not_lt.mpr hout), if_pos (by simpa using hge)]
  rw [List.nil_append] at key
  exact congrArg (fun m => Sem.bind m fun __s => pure (__s.snd.fst, __s.fst)) key
theorem enc_loop {σ : Type} (f : Nat → σ → Sem (ForInStep σ)) (s0 s1 : σ) (n : Nat) (h0 : n = 0 → s0 = s1) (H1 : ∀ k, 0 < n → f k s0 = pure (.yield s1)) (H2 : ∀ k, f k s1 = pure (.done s1)) :
    forIn (List.range' 0 n) s0 f = pure s1 := by
  match n, h0, H1 with
  | 0, h0, _ => rw [h0 rfl]; rfl
  | 1, _, H1 =>
    rw [List.range'_succ, List.forIn_cons, H1 _ (by omega)]; rfl
  | n + 2, _, H1 =>
    rw [List.range'_succ, List.forIn_cons, H1 _ (by omega)]
    show forIn (List.range' 1 (n + 1)) s1 f = _
    rw [List.range'_succ, List.forIn_cons, H2]; rfl
theorem not_sur {c : Nat} (h : plainC c) : Str.isSurrogate c = false := by
  unfold Str.isSurrogate
  rcases h with h | rfl
  · simp; omega
  · decide
theorem foldl_utf8 : ∀ (l : List Nat) (acc : Array UInt8), l.foldl (fun acc y => acc ++ (Str.utf8Of y).toArray) acc = acc ++ (utf8L l).toArray
  | [], acc => by simp [utf8L]
  | c :: l, acc => by rw [List.foldl_cons, foldl_utf8 l, utf8L_cons]; simp
theorem run_encode (id : String) (x : Str) (v : Value) (hp : ∀ c ∈ x.cps.toList, plainC c) (hs : (utf8L x.cps.toList).length ≤ sizeLine) :
    _codecs.encodeNarrow id _codecs.utf8Codec none v x = pure (utf8L x.cps.toList).toArray := by
  unfold _codecs.encodeNarrow
  simp only [Std.Legacy.Range.forIn_eq_forIn_range']
  have hsz : ([:x.length] : Std.Legacy.Range).size = x.length := by simp [Std.Legacy.Range.size]
  rw [hsz]
  rw [enc_loop _ _ (x.length, (utf8L x.cps.toList).toArray, {}) _ ?h0 ?H1 ?H2]
  case h0 =>
    intro h
    have : x.cps.toList = [] := by apply List.eq_nil_of_length_eq_zero; rw [len_toList]; exact h
    rw [this, h]; rfl
  case H2 =>
    intro k
    dsimp only
    rw [if_neg (by simpa using Nat.not_lt.mpr hs)]
    have : x.cps[x.length]? = none := Array.getElem?_eq_none (Nat.le_refl _)
    rw [this]
  case H1 =>
    intro k hk
    dsimp only
    rw [if_neg (by simp)]
    have h0 : x.cps[0]? = some x.cps[0] := Array.getElem?_eq_getElem hk
    rw [h0]
    dsimp only
    have hc : _codecs.utf8Codec.bad x.cps[0] = false := not_sur (hp _ (by rw [Array.mem_toList_iff]; exact Array.getElem_mem hk))
    rw [hc, if_pos (by rfl)]
    have hall : ∀ c ∈ x.cps.toList, _codecs.utf8Codec.bad c = false := fun c hcc => not_sur (hp c hcc)
    have e1 : x.cps.extract 0 = x.cps := by simp
    rw [e1]
    have e2 : Array.findIdx? _codecs.utf8Codec.bad x.cps = none := by
      rw [Array.findIdx?_eq_none_iff]
      intro c hcc; exact hall c (by simpa using hcc)
    rw [e2]
    simp only [Option.getD_none, Nat.zero_add, e1]
    congr 3
    rw [← Array.foldl_toList]
    congr 1
    exact (foldl_utf8 _ _).trans (by simp)
  rfl
end Mine
end
section
open PySem PySem.W PyProof.Rows
open PySem.Builtin
set_option maxRecDepth 100000
namespace Mine
theorem bdec_args2 (a b : Value) : argsOk "bytes.decode" ⟨[a, b], []⟩ := by
  unfold argsOk; rw [signature?_of (id := "bytes.decode") (n := ['e', 'd', 'o', 'c', 'e', 'd']) (o := ['s', 'e', 't', 'y', 'b']) (by kernel_rfl) FB.owner_bytes]; kernel_rfl
theorem bdec_entry {c : UInt8} {cs : List UInt8} {t u : Tok} : «bytes.decode» ⟨[.bytes (c :: cs).toArray t, .str (PySem.Str.ofString "utf-8") u], []⟩ = (mkStr (PySem.Str.ofString "utf-8") >>= fun _ => mkStr (PySem.Str.ofString "utf-8") >>= fun e => mkStr (PySem.Str.ofString "bytes.decode") >>= fun d =>
    call (.builtin "_codecs.decode.text") [.bytes (c :: cs).toArray t, e, .none, d] >>= fun v => ret v) := by kernel_rfl
theorem meets_bdec {c : UInt8} {cs : List UInt8} {t u : Tok} {x : PySem.Str} {n : Nat} (hd : ∀ id, _codecs.runDecoder id _codecs.utf8Decoder none true (c :: cs).toArray 0 [] = pure (x.cps, n)) :
    Meets («bytes.decode» ⟨[.bytes (c :: cs).toArray t, .str (PySem.Str.ofString "utf-8") u], []⟩) (fun _ R s => x.length ≤ sizeLine ∧ ∀ t' k, R (.ok (.ret (.str x t'))) { s with toks := k }) := by
  refine .of_wp fun prog w A R s hS => ?_
  obtain ⟨hsz, h⟩ := hS
  rw [bdec_entry]
  refine wpAny_bind (wpAny_mkStr ?_ (by decide))
  refine wpAny_bind (wpAny_mkStr ?_ (by decide))
  refine wpAny_bind (wpAny_mkStr ?_ (by decide))
  exact wpAny_bind (call_function_meets KBd.kind_text KBd.plain_text KBd.entry_text (KBd.args_text _ _ _ _) (KBd.meets_text hd) ⟨hsz, wpAny_pure ⟨_, rfl, h _ _⟩⟩)
section
variable {prog : Program} {w : World} {A : Around} {E : Value → Shared → Prop} {s : Shared}
theorem my_decode {l : List Nat} {t u : Tok} {Q : Value → Shared → Prop} (h1 : @LE.le Nat _ 1 s.toks) (hne : l ≠ []) (hp : ∀ c ∈ l, plainC c) (hs : l.length ≤ 16777216) (h : ∀ t' k, 1 ≤ k → Q (.str (ofL l) t') { s with toks := k }) :
    wpAny (model prog w) A (call (.builtin "bytes.decode") [.bytes (utf8L l).toArray t, .str (PySem.Str.ofString "utf-8") u]) Q E s := by
  refine wpAny_with_toks h1 ?_
  have hd : ∀ id, _codecs.runDecoder id _codecs.utf8Decoder none true (utf8L l).toArray 0 [] = pure ((ofL l).cps, (utf8L l).length) := fun id => run_utf8 id l hp (by rw [sizeLine_eq]; exact hs)
  have hne' : ∃ c cs, utf8L l = c :: cs := by
    match l, hne with
    | a :: r, _ =>
      have := utf8Of_len (hp a (List.mem_cons_self ..))
      rw [utf8L_cons]
      cases hh : Str.utf8Of a with
      | nil => rw [hh] at this; simp at this
      | cons c cs => exact ⟨c, cs ++ utf8L r, rfl⟩
  obtain ⟨c, cs, e⟩ := hne'
  rw [e] at hd ⊢
  exact call_meets FB.slot_bytes_decode (typeIs_bytes _ _ _) FB.entry_bytes_decode (bdec_args2 _ _) (meets_bdec hd) ⟨by rw [ofL_len, sizeLine_eq]; exact hs, fun t' k hk => h t' k hk⟩

theorem enc_entry {x : PySem.Str} {t u : Tok} : «str.encode» ⟨[.str x t, .str (PySem.Str.ofString "utf-8") u], []⟩ = (do ret (← _codecs.encodeRoad "str.encode" (.str x t) x (PySem.Str.ofString "utf-8") none)) := by
  first | rfl | kernel_rfl
theorem meets_enc {x : PySem.Str} {t u : Tok} (hp : ∀ c ∈ x.cps.toList, plainC c) (hs : (utf8L x.cps.toList).length ≤ sizeLine) :
    Meets («str.encode» ⟨[.str x t, .str (PySem.Str.ofString "utf-8") u], []⟩) (fun _ R s => ∀ t' k, R (.ok (.ret (.bytes (utf8L x.cps.toList).toArray t'))) { s with toks := k }) := by
  refine .of_wp fun prog w A R s h => ?_
  rw [enc_entry, encodeRoad_utf8, run_encode _ _ _ hp hs]
  refine wpAny_bind (wpAny_bind ?_)
  refine wpAny_pure ?_
  exact wpAny_mkBytes (wpAny_pure ⟨_, rfl, h _ _⟩) (by rw [List.size_toArray]; exact hs)
theorem my_encode {x : PySem.Str} {t u : Tok} {Q : Value → Shared → Prop} (h1 : @LE.le Nat _ 1 s.toks) (hp : ∀ c ∈ x.cps.toList, plainC c) (hs : x.length ≤ 8000000) (h : ∀ t' k, 1 ≤ k → Q (.bytes (utf8L x.cps.toList).toArray t') { s with toks := k }) :
    wpAny (model prog w) A (call (.builtin "str.encode") [.str x t, .str (PySem.Str.ofString "utf-8") u]) Q E s := by
  refine wpAny_with_toks h1 ?_
  have hs' : (utf8L x.cps.toList).length ≤ sizeLine := by
    have : ∀ l : List Nat, (∀ c ∈ l, plainC c) → (utf8L l).length ≤ 2 * l.length := by
      intro l
      induction l with
      | nil => intro _; simp [utf8L]
      | cons c l ih =>
        intro hp
        have := ih fun d hd => hp d (List.mem_cons_of_mem _ hd)
        have := utf8Of_len (hp c (List.mem_cons_self ..))
        rw [utf8L_cons]; simp; omega
    have := this _ hp
    rw [len_toList] at this
    rw [sizeLine_eq]; omega
  exact call_meets F.slot_str_encode (typeIs_str _ _ _) F.entry_str_encode (F.args_str_encode_2 _ _) (meets_enc hp hs') (fun t' k hk => h t' k hk)
end
end Mine
end
section
open PySem PySem.W PyProof.Rows
set_option maxRecDepth 100000
namespace Mine
section
variable {α : Type} [DecidableEq α]
def repG (a b : α) (z : List α) : List α → List α
  | [] => []
  | [c] => [c]
  | c :: d :: r => if c = a ∧ d = b then z ++ repG a b z r else c :: repG a b z (d :: r)
theorem repG_miss (a b : α) (z : List α) (c : α) (r : List α) (h : ¬ (c = a ∧ r[0]? = some b)) : repG a b z (c :: r) = c :: repG a b z r := by
  cases r with
  | nil => rfl
  | cons d r =>
    conv => lhs; unfold repG
    rw [if_neg (fun hh => h ⟨hh.1, by simp [hh.2]⟩)]
theorem repG_hit (a b : α) (z r : List α) : repG a b z (a :: b :: r) = z ++ repG a b z r := by simp [repG]
def AtG (L : List α) (p q : α) (k : Nat) : Prop := L[k]? = some p ∧ L[k + 1]? = some q
theorem repG_none (p q : α) (z : List α) : ∀ M : List α, (∀ k, ¬ AtG M p q k) → repG p q z M = M
  | [], _ => rfl
  | c :: r, h => by
    rw [repG_miss, repG_none p q z r (fun k hk => h (k + 1) ⟨by simpa using hk.1, by simpa using hk.2⟩)]
    intro hh
    exact h 0 ⟨by simp [hh.1], by simpa using hh.2⟩
theorem repG_first (p q : α) (z : List α) : ∀ (n : Nat) (M : List α), (∀ k, k < n → ¬ AtG M p q k) → AtG M p q n → repG p q z M = M.take n ++ z ++ repG p q z (M.drop (n + 2))
  | 0, M, _, h => by
    match M, h with
    | c :: d :: r, h =>
      have h1 : c = p := by simpa using h.1
      have h2 : d = q := by simpa using h.2
      subst h1; subst h2
      rw [repG_hit]; simp
    | [c], h => simp [AtG] at h
    | [], h => simp [AtG] at h
  | n + 1, M, hn, h => by
    match M, h with
    | c :: r, h =>
      have ih := repG_first p q z n r (fun k hk hh => hn (k + 1) (by omega) ⟨by simpa using hh.1, by simpa using hh.2⟩) ⟨by simpa using h.1, by simpa using h.2⟩
      rw [repG_miss, ih]
      · simp
      · intro hh
        exact hn 0 (by omega) ⟨by simp [hh.1], by simpa using hh.2⟩
    | [], h => simp [AtG] at h
def GTo (At : Nat → Prop) (w : Nat) : Nat → List Nat → Nat → Prop
  | a, [], f => a = f
  | a, c :: r, f => a ≤ c ∧ At c ∧ (∀ k, a ≤ k → k < c → ¬ At k) ∧ GTo At w (c + w) r f
theorem gto_snoc {At : Nat → Prop} {w : Nat} : ∀ {cuts : List Nat} {a f i : Nat}, GTo At w a cuts f → f ≤ i → At i → (∀ k, f ≤ k → k < i → ¬ At k) → GTo At w a (cuts ++ [i]) (i + w)
  | [], a, f, i, h, h1, h2, h3 => by
    have : a = f := h
    subst this
    exact ⟨h1, h2, h3, rfl⟩
  | c :: r, a, f, i, h, h1, h2, h3 => ⟨h.1, h.2.1, h.2.2.1, gto_snoc h.2.2.2 h1 h2 h3⟩
def glue (L z : List α) : Nat → List Nat → List α
  | a, [] => L.drop a
  | a, c :: r => (L.drop a).take (c - a) ++ z ++ glue L z (c + 2) r
theorem glue_rep (L z : List α) (p q : α) : ∀ (cuts : List Nat) (a f : Nat), GTo (AtG L p q) 2 a cuts f → (∀ k, f ≤ k → ¬ AtG L p q k) → glue L z a cuts = repG p q z (L.drop a)
  | [], a, f, h, hf => by
    have : a = f := h
    subst this
    show L.drop a = _
    rw [repG_none]
    intro k hk
    refine hf (a + k) (by omega) ⟨?_, ?_⟩
    · have := hk.1; rw [List.getElem?_drop] at this; exact this
    · have := hk.2; rw [List.getElem?_drop] at this; rw [Nat.add_assoc]; exact this
  | c :: r, a, f, h, hf => by
    show (L.drop a).take (c - a) ++ z ++ glue L z (c + 2) r = _
    rw [glue_rep L z p q r (c + 2) f h.2.2.2 hf, repG_first p q z (c - a) (L.drop a)]
    · rw [List.drop_drop]
      have : a + (c - a + 2) = c + 2 := by have := h.1; omega
      rw [this]
    · intro k hk hh
      refine h.2.2.1 (a + k) (by omega) (by have := h.1; omega) ⟨?_, ?_⟩
      · have := hh.1; rw [List.getElem?_drop] at this; exact this
      · have := hh.2; rw [List.getElem?_drop] at this; rw [Nat.add_assoc]; exact this
    · have e : a + (c - a) = c := by have := h.1; omega
      refine ⟨?_, ?_⟩
      · rw [List.getElem?_drop, e]; exact h.2.1.1
      · rw [List.getElem?_drop, ← Nat.add_assoc, e]; exact h.2.1.2
end
theorem rep2_eq (a b : Nat) (z : List Nat) : ∀ l : List Nat, rep2 a b z l = repG a b z l
  | [] => rfl
  | [_] => rfl
  | c :: d :: r => by
    have h1 := rep2_eq a b z r
    have h2 := rep2_eq a b z (d :: r)
    unfold rep2 repG
    rw [h1, h2]

/-! the texts' side -/
open Builtin Builtin.Str in
theorem at_str (x : Str) (p q k : Nat) : StrLaws.At x ⟨#[p, q]⟩ x.length k ↔ AtG x.cps.toList p q k := by
  have hl : (⟨#[p, q]⟩ : Str).length = 2 := rfl
  unfold StrLaws.At AtG
  rw [StrLaws.subAt_eq, hl]
  constructor
  · rintro ⟨h1, h2⟩
    have h3 : (x.cps.toList.drop k).take 2 = [p, q] := by simpa using h2
    have e0 : (x.cps.toList.drop k)[0]? = some p := by
      have := congrArg (fun l => l[0]?) h3
      simpa using this
    have e1 : (x.cps.toList.drop k)[1]? = some q := by
      have := congrArg (fun l => l[1]?) h3
      simpa using this
    rw [List.getElem?_drop] at e0 e1
    exact ⟨by simpa using e0, e1⟩
  · rintro ⟨h1, h2⟩
    have hlen : k + 1 < x.cps.toList.length := (List.getElem?_eq_some_iff.mp h2).1
    rw [len_toList] at hlen
    refine ⟨by omega, ?_⟩
    have hd : x.cps.toList.drop k = p :: q :: x.cps.toList.drop (k + 2) := by
      obtain ⟨a1, a2⟩ := List.getElem?_eq_some_iff.mp h1
      obtain ⟨b1, b2⟩ := List.getElem?_eq_some_iff.mp h2
      rw [List.drop_eq_getElem_cons a1, a2, List.drop_eq_getElem_cons b1, b2]
    rw [hd]; simp
theorem chain_gto (x : Str) (p q : Nat) : ∀ (cuts : List Nat) (a f : Nat), StrLaws.ChainG x ⟨#[p, q]⟩ x.length a cuts f → GTo (AtG x.cps.toList p q) 2 a cuts f
  | [], a, f, h => (show f = a from h).symm
  | c :: r, a, f, h => by
    obtain ⟨h1, h2, h3, h4⟩ := h
    exact ⟨h1, (at_str x p q c).mp h2, fun k hk1 hk2 hh => h3 k hk1 hk2 ((at_str x p q k).mpr hh), chain_gto x p q r _ f h4⟩
theorem join_glue (x z : Str) : ∀ (cuts : List Nat) (a : Nat), (Str.join z (StrLaws.partsFrom x 2 a cuts)).cps.toList = glue x.cps.toList z.cps.toList a cuts
  | [], a => by
    show (Builtin.Str.strSub x a x.length).cps.toList = _
    rw [StrLaws.strSub_toList]
    exact List.take_of_length_le (by rw [List.length_drop, len_toList]; exact Nat.le_refl _)
  | c :: r, a => by
    obtain ⟨p, q, e⟩ := StrLaws.partsFrom_ne x 2 (c + 2) r
    have ih := join_glue x z r (c + 2)
    show (Str.join z (Builtin.Str.strSub x a c :: StrLaws.partsFrom x 2 (c + 2) r)).cps.toList = _
    rw [e] at ih ⊢
    show (Builtin.Str.strSub x a c ++ z ++ Str.join z (p :: q)).cps.toList = _
    rw [Str.cps_append, Str.cps_append, Array.toList_append, Array.toList_append, ih, StrLaws.strSub_toList]
    rfl
theorem replace2 (x z : Str) (p q : Nat) : Txt.replace x ⟨#[p, q]⟩ z = ofL (rep2 p q z.cps.toList x.cps.toList) := by
  have hl : (⟨#[p, q]⟩ : Str).length = 2 := rfl
  obtain ⟨f, h1, h2⟩ := StrLaws.occ_tight x ⟨#[p, q]⟩ (by rw [hl]; omega)
  have h3 := glue_rep x.cps.toList z.cps.toList p q _ _ _ (chain_gto x p q _ _ _ h1) (fun k hk hh => h2 k hk ((at_str x p q k).mpr hh))
  rw [List.drop_zero] at h3
  rw [rep2_eq, ← h3]
  unfold Txt.replace
  have h20 : ((2 : Nat) == 0) = false := rfl
  rw [hl, h20, Bool.false_and, Bool.or_false]
  cases he : (Builtin.Str.occurrences x ⟨#[p, q]⟩ 0 x.length (x.length + 1)).isEmpty
  · rw [if_neg Bool.false_ne_true, StrLaws.glued_eq_join, StrLaws.partsBetween_eq]
    apply Str.ext'
    apply Array.toList_inj.mp
    rw [join_glue]; simp [ofL]
  · rw [if_pos rfl, List.isEmpty_iff.mp he]
    show x = ofL (x.cps.toList.drop 0)
    rw [List.drop_zero, ofL_toList]
theorem rep1_join (c : Nat) (z : Str) : ∀ parts : List Str, (∀ p ∈ parts, c ∉ p.cps.toList) → rep1 c z.cps.toList (Str.join ⟨#[c]⟩ parts).cps.toList = (Str.join z parts).cps.toList
  | [], _ => rfl
  | [p], h => rep1_free c _ _ (h p (List.mem_singleton.mpr rfl))
  | p :: q :: r, h => by
    have ih := rep1_join c z (q :: r) fun a ha => h a (List.mem_cons_of_mem _ ha)
    show rep1 c _ (p ++ ⟨#[c]⟩ ++ Str.join ⟨#[c]⟩ (q :: r)).cps.toList = (p ++ z ++ Str.join z (q :: r)).cps.toList
    simp only [Str.cps_append, Array.toList_append]
    rw [rep1_append, rep1_append, ih, rep1_free c _ _ (h p (List.mem_cons_self ..))]
    show p.cps.toList ++ rep1 c z.cps.toList [c] ++ _ = _
    simp [rep1]
theorem replace1 (x z : Str) (c : Nat) : Txt.replace x ⟨#[c]⟩ z = ofL (rep1 c z.cps.toList x.cps.toList) := by
  have h := rep1_join c z _ (StrLaws.split_free x c)
  rw [StrLaws.join_split] at h
  rw [h, StrLaws.replace_one, ofL_toList]
end Mine
end
section
open PySem PySem.W PyProof.Rows
set_option Elab.async false
set_option maxRecDepth 100000
namespace Mine
local macro_rules | `(tactic| k_room) => `(tactic| ktr_room)
local macro_rules | `(tactic| walk_at "forall") => `(tactic| ((with_reducible show (@LE.le Nat _ 1 _) → _); (try dsimp only); intro hT9))
local macro_rules | `(tactic| walk_at "execs cons") => `(tactic| k_dflt (refine execs_cons_toks (by first | assumption | (dsimp only; omega)) ?_))
local macro_rules | `(tactic| walk_at "call builtin:str.replace") => `(tactic| ((with_reducible show wpAny _ _ (call (Value.builtin "str.replace") [Value.str _ _, Value.str _ _, Value.str _ _]) _ _ _); k_dflt (first | refine my_replace 1 (by dsimp only; omega) (by omega) (by omega) (by omega) (by decide +kernel) (by decide +kernel) (by omega) ?_ | refine my_replace 2 (by dsimp only; omega) (by omega) (by omega) (by omega) (by decide +kernel) (by decide +kernel) (by omega) ?_); intro t9 k9 hk9 hl9; (try dsimp only)))
def escS (x : Str) : Str := Txt.replace (Txt.replace (Txt.replace (Txt.replace (Txt.replace (Txt.replace (Txt.replace x "\\N" "\n") "\\" "\\\\") ";" "\\;") "," "\\,") "\r\n" "\\n") "\n" "\\n") "\r" "\\n"
def unqS (x : Str) : Str := Txt.replace (Txt.replace (Txt.replace (Txt.replace (Txt.replace (Txt.replace x "\\N" "\\n") "\r\n" "\n") "\\n" "\n") "\\," ",") "\\;" ";") "\\\\" "\\"
set_option maxHeartbeats 2000000 in
theorem esc_c (w : World) (mean : ExcName → Option Value) (mg mb : Str → Option Value) (x : Str) (t : Tok) :
   CCt w mean mg mb (.ref 61) [.str x t] (fun _ => x.length ≤ 4096) (fun news v news' => news' = news ∧ ∃ t', v = .str (escS x) t') := by
  unfold CCt
  k_fill
  w_top off
  intro dp un gd cn cs a ccd cl outer A₀ base h₀ L m news s Q E B F X N T hk hdp hun htk hx hret
  refine wpAny_call ?_
  k_dflt cell_enter
  k_steps
  exact hret _ _ _ _ (by assumption) (cb_drop (by assumption) (sub_cons sub_self)) ⟨rfl, _, rfl⟩
set_option maxHeartbeats 2000000 in
theorem unq_c (w : World) (mean : ExcName → Option Value) (mg mb : Str → Option Value) (x : Str) (t : Tok) :
   CCt w mean mg mb (.ref 68) [.str x t] (fun _ => x.length ≤ 4096) (fun news v news' => news' = news ∧ ∃ t', v = .str (unqS x) t') := by
  unfold CCt
  k_fill
  w_top off
  intro dp un gd cn cs a ccd cl outer A₀ base h₀ L m news s Q E B F X N T hk hdp hun htk hx hret
  refine wpAny_call ?_
  k_dflt cell_enter
  k_steps
  exact hret _ _ _ _ (by assumption) (cb_drop (by assumption) (sub_cons sub_self)) ⟨rfl, _, rfl⟩
end Mine
end
section
open PySem PySem.W PyProof.Rows
open PySem.Builtin
set_option maxRecDepth 100000
namespace Mine
theorem ofL_cps (l : List Nat) : (ofL l).cps.toList = l := rfl
theorem lit_N : Str.ofString "\\N" = ⟨#[92, 78]⟩ := by decide +kernel
theorem lit_bn : Str.ofString "\\n" = ⟨#[92, 110]⟩ := by decide +kernel
theorem lit_bb : Str.ofString "\\\\" = ⟨#[92, 92]⟩ := by decide +kernel
theorem lit_b : Str.ofString "\\" = ⟨#[92]⟩ := by decide +kernel
theorem lit_bc : Str.ofString "\\," = ⟨#[92, 44]⟩ := by decide +kernel
theorem lit_bs : Str.ofString "\\;" = ⟨#[92, 59]⟩ := by decide +kernel
theorem lit_c : Str.ofString "," = ⟨#[44]⟩ := by decide +kernel
theorem lit_s : Str.ofString ";" = ⟨#[59]⟩ := by decide +kernel
theorem lit_lf : Str.ofString "\n" = ⟨#[10]⟩ := by decide +kernel
theorem lit_cr : Str.ofString "\r" = ⟨#[13]⟩ := by decide +kernel
theorem lit_crlf : Str.ofString "\r\n" = ⟨#[13, 10]⟩ := by decide +kernel
theorem escS_eq (x : Str) : escS x = ofL (esc x.cps.toList) := by
  unfold escS esc
  simp only [lit_N, lit_bn, lit_bb, lit_b, lit_bc, lit_bs, lit_c, lit_s, lit_lf, lit_cr, lit_crlf, replace1, replace2, ofL_cps]
theorem unqS_eq (x : Str) : unqS x = ofL (unq x.cps.toList) := by
  unfold unqS unq
  simp only [lit_N, lit_bn, lit_bb, lit_b, lit_bc, lit_bs, lit_c, lit_s, lit_lf, lit_cr, lit_crlf, replace1, replace2, ofL_cps]

/-! the octets' side -/
theorem at_bytes (b : Array UInt8) (p q : UInt8) (k : Nat) : (b.extract k (k + 2) == #[p, q]) = true ↔ AtG b.toList p q k := by
  unfold AtG
  rw [beq_iff_eq, ← Array.toList_inj, Array.toList_extract]
  have e : b.toList.extract k (k + 2) = (b.toList.drop k).take 2 := by simp [List.extract_eq_take_drop]
  rw [e]
  constructor
  · intro h3
    have e0 : (b.toList.drop k)[0]? = some p := by
      have := congrArg (fun l => l[0]?) h3
      simpa using this
    have e1 : (b.toList.drop k)[1]? = some q := by
      have := congrArg (fun l => l[1]?) h3
      simpa using this
    rw [List.getElem?_drop] at e0 e1
    exact ⟨by simpa using e0, e1⟩
  · rintro ⟨h1, h2⟩
    obtain ⟨a1, a2⟩ := List.getElem?_eq_some_iff.mp h1
    obtain ⟨b1, b2⟩ := List.getElem?_eq_some_iff.mp h2
    rw [List.drop_eq_getElem_cons a1, a2, List.drop_eq_getElem_cons b1, b2]; simp
theorem occB_gto (b : Array UInt8) (p q : UInt8) : ∃ f, GTo (AtG b.toList p q) 2 0 (Bytes.occurrences b #[p, q] 0 b.size) f ∧ ∀ k, f ≤ k → ¬ AtG b.toList p q k := by
  unfold Bytes.occurrences
  have hs : (#[p, q] : Array UInt8).size = 2 := rfl
  simp only [hs, Nat.zero_add]
  have hm : (List.range (b.size + 1 - 2)).map (fun x => x + 0) = List.range (b.size + 1 - 2) := by simp
  rw [hm]
  have key : ∀ n, let st := (List.range n).foldl (fun (acc : List Nat × Nat) (i : Nat) => if (decide (i ≥ acc.2) && b.extract i (i + 2) == #[p, q]) = true then (i :: acc.1, i + 2) else acc) ([], 0)
      GTo (AtG b.toList p q) 2 0 st.1.reverse st.2 ∧ ∀ k, st.2 ≤ k → k < n → ¬ AtG b.toList p q k := by
    intro n
    induction n with
    | zero => exact ⟨rfl, fun k _ hk => absurd hk (Nat.not_lt_zero _)⟩
    | succ n ih =>
      dsimp only at ih ⊢
      rw [List.range_succ, List.foldl_append, List.foldl_cons, List.foldl_nil]
      generalize (List.range n).foldl _ _ = st at ih ⊢
      obtain ⟨ih1, ih2⟩ := ih
      split
      · rename_i hc
        rw [Bool.and_eq_true, decide_eq_true_eq] at hc
        dsimp only
        rw [List.reverse_cons]
        exact ⟨gto_snoc ih1 hc.1 ((at_bytes b p q n).mp hc.2) ih2, fun k h1 h2 => by omega⟩
      · rename_i hc
        refine ⟨ih1, fun k h1 h2 hA => ?_⟩
        by_cases hk : k < n
        · exact ih2 k h1 hk hA
        · have : k = n := by omega
          subst this
          exact hc (by rw [Bool.and_eq_true, decide_eq_true_eq]; exact ⟨h1, (at_bytes b p q k).mpr hA⟩)
  obtain ⟨h1, h2⟩ := key (b.size + 1 - 2)
  refine ⟨_, h1, fun k hk hA => ?_⟩
  by_cases hl : k < b.size + 1 - 2
  · exact h2 k hk hl hA
  · have := (List.getElem?_eq_some_iff.mp hA.2).1
    simp at this; omega
def partsB (b : Array UInt8) : Nat → List Nat → List (Array UInt8)
  | a, [] => [b.extract a b.size]
  | a, c :: r => b.extract a c :: partsB b (c + 2) r
theorem between_eq (b : Array UInt8) : ∀ (cuts : List Nat) (ps : Array (Array UInt8)) (a : Nat),
    (let st := cuts.foldl (fun (x : Array (Array UInt8) × Nat) (p : Nat) => (x.1.push (b.extract x.2 p), p + 2)) (ps, a)
     (st.1.push (b.extract st.2 b.size)).toList) = ps.toList ++ partsB b a cuts
  | [], ps, a => by simp [partsB]
  | c :: r, ps, a => by
    have := between_eq b r (ps.push (b.extract a c)) (c + 2)
    dsimp only at this ⊢
    rw [List.foldl_cons, this]; simp [partsB]
theorem joined_tail (sep : Array UInt8) : ∀ (parts : List (Array UInt8)) (out : Array UInt8) (k : Nat),
    ((parts.zipIdx (k + 1)).foldl (fun out (x : Array UInt8 × Nat) => (if x.2 > 0 then out ++ sep else out) ++ x.1) out).toList = out.toList ++ parts.flatMap fun p => sep.toList ++ p.toList
  | [], out, k => by simp
  | p :: r, out, k => by
    rw [List.zipIdx_cons, List.foldl_cons, joined_tail sep r]
    simp
theorem joined_glue (b z : Array UInt8) : ∀ (cuts : List Nat) (a : Nat), (Bytes.joined z (partsB b a cuts)).toList = glue b.toList z.toList a cuts := by
  have key : ∀ (cuts : List Nat) (a : Nat), (b.extract a (match cuts with | [] => b.size | c :: _ => c)).toList ++ ((partsB b a cuts).tail.flatMap fun p => z.toList ++ p.toList) = glue b.toList z.toList a cuts := by
    intro cuts
    induction cuts with
    | nil =>
      intro a
      show (b.extract a b.size).toList ++ [] = b.toList.drop a
      rw [List.append_nil, Array.toList_extract, List.extract_eq_take_drop]
      exact List.take_of_length_le (by simp)
    | cons c r ih =>
      intro a
      show (b.extract a c).toList ++ ((partsB b (c + 2) r).flatMap fun p => z.toList ++ p.toList) = (b.toList.drop a).take (c - a) ++ z.toList ++ glue b.toList z.toList (c + 2) r
      rw [← ih (c + 2), Array.toList_extract, List.extract_eq_take_drop]
      cases r <;> simp [partsB]
  intro cuts a
  rw [← key cuts a]
  unfold Bytes.joined
  cases cuts with
  | nil =>
    show ((([b.extract a b.size] : List (Array UInt8)).zipIdx 0).foldl _ #[]).toList = _
    simp [partsB]
  | cons c r =>
    show (((b.extract a c :: partsB b (c + 2) r).zipIdx 0).foldl _ #[]).toList = _
    rw [List.zipIdx_cons, List.foldl_cons]
    have := joined_tail z (partsB b (c + 2) r) (b.extract a c) 0
    simp only [Nat.zero_add] at this ⊢
    simp only [gt_iff_lt, Nat.lt_irrefl, if_false]
    rw [show (#[] ++ b.extract a c : Array UInt8) = b.extract a c by simp]
    rw [this]; rfl
def brep (b : Array UInt8) (p q : UInt8) (z : Array UInt8) : Array UInt8 := (repG p q z.toList b.toList).toArray
theorem replaceB (b z : Array UInt8) (p q : UInt8) : (if (Bytes.occurrences b #[p, q] 0 b.size).isEmpty = true then b else Bytes.joined z (Bytes.between b 2 (Bytes.occurrences b #[p, q] 0 b.size))) = brep b p q z := by
  obtain ⟨f, h1, h2⟩ := occB_gto b p q
  have h3 := glue_rep b.toList z.toList p q _ _ _ h1 h2
  rw [List.drop_zero] at h3
  unfold brep
  rw [← h3]
  cases he : (Bytes.occurrences b #[p, q] 0 b.size).isEmpty
  · rw [if_neg Bool.false_ne_true]
    apply Array.toList_inj.mp
    have := between_eq b (Bytes.occurrences b #[p, q] 0 b.size) #[] 0
    unfold Bytes.between
    dsimp only at this ⊢
    rw [this]
    show (Bytes.joined z ([] ++ partsB b 0 _)).toList = _
    rw [List.nil_append, joined_glue]
  · rw [if_pos rfl, List.isEmpty_iff.mp he]
    show b = (b.toList.drop 0).toArray
    simp
theorem brepl_args3 (a b c : Value) : argsOk "bytes.replace" ⟨[a, b, c], []⟩ := by
  unfold argsOk; rw [signature?_of (id := "bytes.replace") (n := ['e', 'c', 'a', 'l', 'p', 'e', 'r']) (o := ['s', 'e', 't', 'y', 'b']) (by kernel_rfl) FB.owner_bytes]; kernel_rfl
theorem brepl_slot : Slot "bytes" "replace" "bytes.replace" :=
  .of (owner := "bytes") (n := "replace") (by rw [typeLookup_type, builtinLookup_eq_fast]; kernel_rfl) (by decide +kernel) (by decide +kernel) (by decide +kernel)
    (by first | exact .inl (by decide +kernel) | exact .inr (by decide +kernel)) (by rw [isSubtype_type]; kernel_rfl)
theorem brepl_type : typeOf (.builtin "bytes.replace") = pure (.type "method_descriptor") := by show builtinType _ = _; rw [builtinType_eq_fast]; kernel_rfl
theorem brepl_entry : entryFor table "bytes.replace" = some Builtin.«bytes.replace» := entryFor_of_tree (by kernel_rfl)
theorem payload_eq (b : Array UInt8) (t : Tok) : Bytes.payload (.bytes b t) = pure b := by first | rfl | kernel_rfl
theorem occB_len (b : Array UInt8) (p q : UInt8) : (Bytes.occurrences b #[p, q] 0 b.size).length ≤ b.size := by
  unfold Bytes.occurrences
  rw [List.length_reverse]
  have key : ∀ (l : List Nat) (st : List Nat × Nat), (l.foldl (fun (acc : List Nat × Nat) (i : Nat) => if (decide (i ≥ acc.2) && b.extract i (i + (#[p, q] : Array UInt8).size) == #[p, q]) = true then (i :: acc.1, i + (#[p, q] : Array UInt8).size) else acc) st).1.length ≤ st.1.length + l.length := by
    intro l
    induction l with
    | nil => intro st; simp
    | cons c l ih =>
      intro st
      rw [List.foldl_cons]
      refine Nat.le_trans (ih _) ?_
      split <;> simp <;> omega
  refine Nat.le_trans (key _ _) ?_
  have hs : (#[p, q] : Array UInt8).size = 2 := rfl
  simp [hs]
def unqB (b : Array UInt8) : Array UInt8 := brep (brep (brep (brep (brep (brep b 92 78 #[92, 110]) 13 10 #[10]) 92 110 #[10]) 92 44 #[44]) 92 59 #[59]) 92 92 #[92]
theorem brep_len (b z : Array UInt8) (p q : UInt8) : (brep b p q z).size ≤ b.size + b.size * z.size := by
  have key : ∀ l : List UInt8, (repG p q z.toList l).length ≤ l.length + l.length * z.size := by
    intro l
    have : ∀ n (l : List UInt8), l.length ≤ n → (repG p q z.toList l).length ≤ l.length + l.length * z.size := by
      intro n
      induction n with
      | zero => intro l hl; cases l with
        | nil => simp [repG]
        | cons _ _ => simp at hl
      | succ n ih =>
        intro l hl
        match l, hl with
        | [], _ => simp [repG]
        | [c], _ => simp [repG]
        | c :: d :: r, hl =>
          have h1 := ih r (by simp at hl; omega)
          have h2 := ih (d :: r) (by simp at hl ⊢; omega)
          unfold repG
          split
          · rw [List.length_append]
            simp only [List.length_cons, Array.length_toList]
            have : (r.length + 1 + 1) * z.size = r.length * z.size + z.size + z.size := by rw [Nat.add_mul, Nat.add_mul, Nat.one_mul]
            omega
          · simp only [List.length_cons] at h2 ⊢
            have : (r.length + 1 + 1) * z.size = (r.length + 1) * z.size + z.size := by rw [Nat.add_mul _ 1, Nat.one_mul]
            omega
    exact this _ _ (Nat.le_refl _)
  have := key b.toList
  unfold brep
  simpa using this
theorem meets_brepl (b z : Array UInt8) (p q : UInt8) (t u v : Tok) (hb : b.size + b.size * z.size ≤ 16777216) :
    Meets («bytes.replace» ⟨[.bytes b t, .bytes #[p, q] u, .bytes z v], []⟩) (fun _ R s => ∀ t' k, R (.ok (.ret (.bytes (brep b p q z) t'))) { s with toks := k }) := by
  refine .of_wp fun prog w A R s h => ?_
  show wpAny _ _ (Bytes.bytesLike _ (.bytes #[p, q] u) >>= fun r => _) _ _ s
  refine wpAny_bind (wpAny_of_eq KBd.like_eq ?_)
  show wpAny _ _ (Bytes.bytesLike _ (.bytes z v) >>= fun r => _) _ _ s
  refine wpAny_bind (wpAny_of_eq KBd.like_eq ?_)
  show wpAny _ _ (Bytes.bytesLike _ (.bytes #[p, q] u) >>= fun r => _) _ _ s
  refine wpAny_bind (wpAny_of_eq KBd.like_eq ?_)
  show wpAny _ _ (Bytes.bytesLike _ (.bytes z v) >>= fun r => _) _ _ s
  refine wpAny_bind (wpAny_of_eq KBd.like_eq ?_)
  show wpAny _ _ (Bytes.payload (.bytes b t) >>= fun r => _) _ _ s
  refine wpAny_bind (wpAny_of_eq (payload_eq b t) ?_)
  show wpAny _ _ (if ((Bytes.occurrences b #[p, q] 0 b.size).isEmpty || (false && z.isEmpty)) = true then (do rule _; ret (← Bytes.Kind.bytes.same (.bytes b t))) else
    if Bytes.tooLong (b.size + (Bytes.occurrences b #[p, q] 0 b.size).length * z.size) = true then _ else
      (do ret (← Bytes.Kind.bytes.new (Bytes.joined z (Bytes.between b 2 (Bytes.occurrences b #[p, q] 0 b.size)))))) _ _ s
  rw [Bool.false_and, Bool.or_false]
  have hr := replaceB b z p q
  cases he : (Bytes.occurrences b #[p, q] 0 b.size).isEmpty
  · rw [he, if_neg Bool.false_ne_true] at hr
    rw [if_neg Bool.false_ne_true]
    have hl : Bytes.tooLong (b.size + (Bytes.occurrences b #[p, q] 0 b.size).length * z.size) = false := by
      have h2 : (Bytes.occurrences b #[p, q] 0 b.size).length * z.size ≤ b.size * z.size := Nat.mul_le_mul_right _ (occB_len b p q)
      unfold Bytes.tooLong sizeLine
      have e : (2 : Nat) ^ 24 = 16777216 := by decide
      exact decide_eq_false (by omega)
    rw [hl, if_neg Bool.false_ne_true, hr]
    refine wpAny_bind ?_
    show wpAny _ _ (mkBytes _) _ _ _
    refine wpAny_mkBytes (wpAny_pure ⟨_, rfl, h _ _⟩) ?_
    rw [sizeLine_eq]
    exact Nat.le_trans (brep_len b z p q) hb
  · rw [he, if_pos rfl] at hr
    rw [if_pos rfl]
    refine wpAny_bind (wpAny_rule ?_)
    refine wpAny_bind ?_
    have hsame : Bytes.Kind.bytes.same (.bytes b t) = pure (.bytes b t) := by first | rfl | kernel_rfl
    rw [hsame]
    refine wpAny_pure (wpAny_pure ⟨_, rfl, ?_⟩)
    have h9 := h t s.toks
    rw [← hr] at h9
    exact h9
section
variable {prog : Program} {w : World} {A : Around} {E : Value → Shared → Prop} {s : Shared}
theorem my_breplace {b z : Array UInt8} {p q : UInt8} {t u v : Tok} {Q : Value → Shared → Prop} (n : Nat) (h1 : @LE.le Nat _ 1 s.toks) (hz : z.size = n) (hb : b.size + b.size * n ≤ 16777216)
    (h : ∀ t' k, 1 ≤ k → (brep b p q z).size ≤ b.size + b.size * n → Q (.bytes (brep b p q z) t') { s with toks := k }) :
    wpAny (model prog w) A (call (.builtin "bytes.replace") [.bytes b t, .bytes #[p, q] u, .bytes z v]) Q E s := by
  subst hz
  refine wpAny_with_toks h1 ?_
  refine call_meets brepl_slot (typeIs_bytes _ _ _) brepl_entry (brepl_args3 _ _ _) (meets_brepl b z p q t u v hb) ?_
  intro t' k hk
  exact h t' k hk (brep_len b z p q)
theorem my_breplace0 {b z : Array UInt8} {p q : UInt8} {t u v : Tok} {Q : Value → Shared → Prop} (n : Nat) (hz : z.size = n) (hb : b.size + b.size * n ≤ 16777216)
    (h : ∀ t' k, (brep b p q z).size ≤ b.size + b.size * n → Q (.bytes (brep b p q z) t') { s with toks := k }) :
    wpAny (model prog w) A (call (.builtin "bytes.replace") [.bytes b t, .bytes #[p, q] u, .bytes z v]) Q E s := by
  subst hz
  refine call_meets brepl_slot (typeIs_bytes _ _ _) brepl_entry (brepl_args3 _ _ _) (meets_brepl b z p q t u v hb) ?_
  intro t' k
  exact h t' k (brep_len b z p q)
theorem getm_breplace {M : Model} {b : Array UInt8} {t : Tok} {pl : Sem Bool} {Q : Value × List Value → Shared → Prop} (h : Q (.builtin "bytes.replace", [.bytes b t]) s) : wpAny M A (getMethod (.bytes b t) "replace" pl) Q E s := by
  with_reducible exact KBd.method_of (.bytes b t) (typeIs_bytes _ _ _) brepl_slot brepl_type KBd.noRef h
end
end Mine
end
section
open PySem PySem.W PyProof.Rows PyProof.Rows.LCg PyProof.Rows.LCp
set_option Elab.async false
set_option maxRecDepth 100000
namespace Mine
abbrev Prs := List (Int × Str)
abbrev tupOf (r : Int) (t1 : Tok) (s : Str) (t2 : Tok) : Obj := { cls := .type "tuple", data := .seq #[.int r t1, .str s t2] 0 }
def PairAt (news : Led) (v : Value) (p : Int × Str) : Prop := ∃ a t1 t2, v = .ref a ∧ (a, tupOf p.1 t1 p.2 t2) ∈ news
inductive PairsAt (news : Led) : List Value → Prs → Prop
  | nil : PairsAt news [] []
  | cons {v : Value} {p : Int × Str} {vs : List Value} {ps : Prs} : PairAt news v p → PairsAt news vs ps → PairsAt news (v :: vs) (p :: ps)
theorem PairAt.mono {news news' : Led} {v : Value} {p : Int × Str} (h : PairAt news v p) (hs : ∀ q ∈ news, q ∈ news') : PairAt news' v p := by
  obtain ⟨a, t1, t2, e, hm⟩ := h
  exact ⟨a, t1, t2, e, hs _ hm⟩
theorem PairsAt.mono {news news' : Led} {vs : List Value} {ps : Prs} (h : PairsAt news vs ps) (hs : ∀ q ∈ news, q ∈ news') : PairsAt news' vs ps := by
  induction h with
  | nil => exact .nil
  | cons h1 _ ih => exact .cons (h1.mono hs) ih
theorem PairsAt.length {news : Led} {vs : List Value} {ps : Prs} (h : PairsAt news vs ps) : vs.length = ps.length := by
  induction h with
  | nil => rfl
  | cons _ _ ih => simp [ih]
theorem PairsAt.snoc {news : Led} {vs : List Value} {ps : Prs} {v : Value} {p : Int × Str} (h : PairsAt news vs ps) (hp : PairAt news v p) : PairsAt news (vs ++ [v]) (ps ++ [p]) := by
  induction h with
  | nil => exact .cons hp .nil
  | cons h1 _ ih => exact .cons h1 ih
theorem PairsAt.append {news : Led} {vs vs' : List Value} {ps ps' : Prs} (h : PairsAt news vs ps) (h' : PairsAt news vs' ps') : PairsAt news (vs ++ vs') (ps ++ ps') := by
  induction h with
  | nil => exact h'
  | cons h1 _ ih => exact .cons h1 ih
theorem PairsAt.at {news : Led} {vs : List Value} {ps : Prs} (h : PairsAt news vs ps) : ∀ (i : Nat) (v : Value), vs[i]? = some v → ∃ p, ps[i]? = some p ∧ PairAt news v p := by
  induction h with
  | nil => intro i v e; simp at e
  | cons h1 _ ih =>
    intro i v e
    cases i with
    | zero => simp at e; subst e; exact ⟨_, rfl, h1⟩
    | succ i => exact ih i v (by simpa using e)
def PairsIn (news : Led) (v : Value) (ps : Prs) : Prop := ∃ a vs n, v = .ref a ∧ (a, listOf (List.toArray vs) n) ∈ news ∧ PairsAt news vs ps
theorem PairsIn.mono {news news' : Led} {v : Value} {ps : Prs} (h : PairsIn news v ps) (hs : ∀ q ∈ news, q ∈ news') : PairsIn news' v ps := by
  obtain ⟨a, vs, n, e, hm, hp⟩ := h
  exact ⟨a, vs, n, e, hs _ hm, hp.mono hs⟩

section
variable {prog : Program} {w : World} {A : Around} {E : Value → Shared → Prop} {s : Shared} {h₀ : Heap} {L : Addr} {m : Str → Option Value} {env : Env}
/-- a comprehension over pairs: an invariant over what was taken, what was made, the ledger -/
theorem compP_ind {elt : Expr} {x x₂ : Str} {scope : Scope} {cl : List (Str × Addr)} {S : Led → Prop} {Fin : List Value → Led → Prop} {vs : List Value} {ps : Prs} (R : Prs → List Value → Led → Prop)
    (hA : ∀ pre ys nw, R pre ys nw → PairsAt nw vs ps)
    (turn : ∀ (pre : Prs) (p : Int × Str) (post : Prs) (ys : List Value) (nw : Led) (I : Addr) (oI : Obj) (C : Addr) (oC : Obj) (D : Addr) (m₂ : Str → Option Value) (h : Heap) (tk : Nat) (E' : Value → Shared → Prop) (t1 t2 : Tok), ps = pre ++ p :: post → R pre ys nw → NsObj oC m₂ → m₂ x = some (.int p.1 t1) → m₂ x₂ = some (.str p.2 t2) →
      Fr h₀ L h m → News h₀ L h ((I, oI) :: (C, oC) :: (D, lst ys) :: nw) → Off3 I C D nw → ((@Ne Nat I C) ∧ (@Ne Nat I D) ∧ (@Ne Nat C D)) →
      wpAny (model prog w) A (eval elt (compEnvC scope cl C env)) (CompEnd h₀ L m { s with heap := h, toks := tk } I oI C oC D (lst ys) S (fun y nw' => R (pre ++ [p]) (ys ++ [y]) nw')) E' { s with heap := h, toks := tk })
    (fin : ∀ ys nw, R ps ys nw → Fin ys nw) :
    ∀ (n i : Nat) (ys : List Value) (nw : Led), i + n = ps.length → R (ps.take i) ys nw → CompRestP prog w A h₀ L m env elt x x₂ scope cl s S (fun i v => vs.toArray[i]? = some v) Fin n i ys nw := by
  intro n
  induction n with
  | zero =>
    intro i ys nw hi hR
    have : i = ps.length := by omega
    subst this
    rw [List.take_length] at hR
    exact CompRestP.zero (fin ys nw hR)
  | succ n ih =>
    intro i ys nw hi hR
    refine CompRestP.succ ?_
    intro v hv
    have hv' : vs[i]? = some v := by simpa using hv
    obtain ⟨p, hp, a, t1, t2, rfl, hm⟩ := (hA _ _ _ hR).at i v hv'
    refine ⟨a, _, _, _, _, rfl, hm, rfl, rfl, ?_⟩
    intro I oI C oC D m₂ h tk E' hC hx hx2 F N off ne
    have hlt : i < ps.length := (List.getElem?_eq_some_iff.mp hp).1
    have hs : ps.take (i + 1) = ps.take i ++ [p] := by simp [List.take_add_one, hp]
    have e : ps = ps.take i ++ p :: ps.drop (i + 1) := by
      have ht := List.take_append_drop (i + 1) ps
      rw [hs, List.append_assoc] at ht
      exact ht.symm
    refine wpAny_mono (turn _ p _ ys nw I oI C oC D m₂ h tk E' t1 t2 e hR hC hx hx2 F N off ne) (fun y s₂ hq => ?_) fun _ _ e => e
    obtain ⟨h', tk', nw', e', F', N', off', hS, hr⟩ := hq
    exact ⟨h', tk', nw', e', F', N', off', hS, ih (i + 1) _ nw' (by omega) (by rw [hs]; exact hr)⟩
end
def elemS (p : Int × Str) : Str := Txt.mul (Str.ofString "\\") p.1 ++ p.2
def textS (ps : Prs) : Str := ofL (cat (ps.map elemS))
def Bd (ps : Prs) : Prop := ps.length ≤ 9 ∧ ∀ p ∈ ps, 0 ≤ p.1 ∧ p.1 ≤ 1000 ∧ p.2.length ≤ 1
theorem foldl_rep (n : Nat) : ∀ (k : Nat) (acc : Array Nat), ((List.replicate k (#[n] : Array Nat)).foldl (· ++ ·) acc).toList = acc.toList ++ List.replicate k n
  | 0, acc => by simp
  | k + 1, acc => by rw [List.replicate_succ, List.foldl_cons, foldl_rep n k]; simp [List.replicate_succ]
theorem mul_toList (r : Int) : (Txt.mul (Str.ofString "\\") r).cps.toList = List.replicate r.toNat 92 := by
  have e : Str.ofString "\\" = ⟨#[92]⟩ := by decide +kernel
  rw [e]
  unfold Txt.mul
  split
  · have : r.toNat = 0 := by omega
    rw [this]; rfl
  · split
    · rename_i h
      have : r.toNat = 1 := by
        have : r = 1 := by simpa [Str.length] using h
        omega
      rw [this]; rfl
    · show ((List.replicate r.toNat (#[92] : Array Nat)).foldl (· ++ ·) #[]).toList = _
      rw [foldl_rep]; simp
theorem elem_toList (p : Int × Str) : (elemS p).cps.toList = List.replicate p.1.toNat 92 ++ p.2.cps.toList := by
  unfold elemS
  rw [Str.cps_append, Array.toList_append, mul_toList]
theorem cat_bd : ∀ ps : Prs, (∀ p ∈ ps, 0 ≤ p.1 ∧ p.1 ≤ 1000 ∧ p.2.length ≤ 1) → (cat (ps.map elemS)).length ≤ 1001 * ps.length
  | [], _ => by simp [cat]
  | p :: ps, h => by
    have ih := cat_bd ps fun q hq => h q (List.mem_cons_of_mem _ hq)
    obtain ⟨h0, h1, h2⟩ := h p (List.mem_cons_self ..)
    rw [List.map_cons, cat_cons, List.length_append, elem_toList, List.length_append, List.length_replicate, len_toList, List.length_cons]
    omega
theorem strs_snoc {vs : List Value} {rs : List Str} {y : Str} {t : Tok} (h : StrsAre vs rs) : StrsAre (vs ++ [.str y t]) (rs ++ [y]) := StrsAre.append' h (.cons y t .nil)
end Mine
end
section
open PySem PySem.Spec PySem.W PyProof.Rows PyProof.Rows.LCg PyProof.Rows.LCp
set_option Elab.async false
set_option maxRecDepth 100000
namespace Mine
/-- a turn's end of a loop over pairs -/
def PTurn (h₀ : Heap) (L : Addr) (s : Shared) (J : (Str → Option Value) → Led → Prop) (I : Addr) (oI : Obj) (Q : Flow → Shared → Prop) (f : Flow) (s₂ : Shared) : Prop :=
  match f with
  | .ret v => Q (.ret v) s₂
  | .brk => Q .next s₂
  | _ => ∃ h' tk m' nw, s₂ = { s with heap := h', toks := tk } ∧ Fr h₀ L h' m' ∧ News h₀ L h' ((I, oI) :: nw) ∧ (∀ q ∈ nw, q.1 ≠ I) ∧ J m' nw
section
variable {prog : Program} {w : World} {A : Around} {E : Value → Shared → Prop} {Q : Flow → Shared → Prop} {s : Shared} {env : Env} {h₀ : Heap}
theorem for_pairs {x1 x2 : Str} {p1 p2 tp pos : Pos} {k : Nat} {iter : Expr} {body : List Stmt} {l : Addr} {n : Nat} {vs : List Value} {ps : Prs} {m : Str → Option Value} {news : Led} (J : Prs → (Str → Option Value) → Led → Prop)
    (hh : A.handled = none) (F : Fr h₀ env.locals s.heap m) (N : News h₀ env.locals s.heap news) (h0 : J [] m news)
    (hJ : ∀ pre m nw, J pre m nw → (l, listOf (List.toArray vs) n) ∈ nw ∧ PairsAt nw vs ps)
    (hev : ∀ Q' : Value → Shared → Prop, Q' (.ref l) s → wpAny (model prog w) A (eval iter env) Q' E s)
    (hx1 : env.kindOf x1 = some .local) (hx2 : env.kindOf x2 = some .local)
    (hp : (env.scope.kind == .class || (env.scope.kind == .module && env.locals != env.globals)) = false)
    (turn : ∀ (pre : Prs) (p : Int × Str) (post : Prs) (m₁ : Str → Option Value) (nw : Led) (h : Heap) (tk : Nat) (I : Addr) (oI : Obj) (t1 t2 : Tok), ps = pre ++ p :: post → J pre m₁ nw → (∀ q ∈ nw, q.1 ≠ I) →
      Fr h₀ env.locals h (fun y => if y = x2 then some (.str p.2 t2) else if y = x1 then some (.int p.1 t1) else m₁ y) → News h₀ env.locals h ((I, oI) :: nw) →
      wpAny (model prog w) A (execs body env) (PTurn h₀ env.locals s (J (pre ++ [p])) I oI Q) E { s with heap := h, toks := tk })
    (done : ∀ m' nw h' tk, Fr h₀ env.locals h' m' → News h₀ env.locals h' nw → J ps m' nw → Q .next { s with heap := h', toks := tk })
    (hs : ∀ x, foldedSetIterable iter env x = pure x := by intro _; rfl)
    (hE : PassesOwn (model prog w) A env E := by passes_own) :
    wpAny (model prog w) A (exec (.For (.Tuple [.Name x1 p1, .Name x2 p2] k tp) iter body [] pos) env) Q E s := by
  refine wpAny_For (hev _ ?_) hs
  obtain ⟨hm0, hP0⟩ := hJ _ _ _ h0
  have hl : s.heap.IsList l vs.toArray := ⟨_, (N _ hm0).1, rfl, _, rfl⟩
  have hlt : l < s.heap.objs.size := Heap.lt_size (N _ hm0).1
  have hne : l ≠ s.heap.objs.size := Nat.ne_of_lt hlt
  refine wpAny_pyIter_list hl ?_
  have W := Walks.list (prog := prog) (w := w) hh s.heap.objs.size l hne vs.toArray
  generalize hI : s.heap.objs.size = I at W hne ⊢
  have hIL : env.locals ≠ I := by rw [← hI]; exact Nat.ne_of_lt F.ns.lt
  have hI₀ : h₀.get? I = none := by rw [← hI]; exact next_is_new F
  have hsz : vs.toArray.size = ps.length := by rw [List.size_toArray]; exact hP0.length
  rw [hsz] at W
  have hget : ∀ o : Obj, o.isFreed = false → (s.heap.push o).get? I = some o := fun o ho => by rw [← hI]; exact Heap.get?_push_size _ ho
  refine codeAny_forLoop_any (R := fun r s' => match r with | .ok f => Q f s' | .error e => cameBackBy (model prog w) A env E e s')
    (fun k s' => ∃ h' tk m' nw i, s' = { s with heap := h', toks := tk } ∧ (h'.IsListIter I l i ∧ h'.IsList l vs.toArray) ∧ Fr h₀ env.locals h' m' ∧ News h₀ env.locals h' nw ∧ (∀ q ∈ nw, q.1 ≠ I) ∧ J (ps.take i) m' nw ∧ i ≤ ps.length ∧ k = ps.length + 1 - i) ?_ (ps.length + 1)
    ⟨_, s.toks, m, news, 0, rfl, ⟨⟨_, hget _ rfl, rfl, rfl⟩, hl.push _⟩, F.push _, (fun p hp => ⟨Heap.get?_push_of_some _ (N p hp).1, (N p hp).2⟩), (fun q hq => by rw [← hI]; exact Nat.ne_of_lt (Heap.lt_size (N q hq).1)), h0, Nat.zero_le _, rfl⟩
  rintro k s' ⟨h', tk, m', nw, i, rfl, hst', F', N', hoff, hJ', hi, rfl⟩
  have next : ∀ h₁ : Heap, (∀ b o, b ∉ [I] → h'.get? b = some o → h₁.get? b = some o) → Fr h₀ env.locals h₁ m' ∧ News h₀ env.locals h₁ nw := fun h₁ hk₁ =>
    ⟨fr_but F' hk₁ hIL hI₀, news_but N' hk₁ hoff⟩
  by_cases hlt' : i < ps.length
  · refine W.item i _ _ _ hlt' hst' fun v h₁ tk₁ hPv hst₁ hk₁ => ?_
    obtain ⟨F₁, N₁⟩ := next h₁ hk₁
    obtain ⟨hm1, hP1⟩ := hJ _ _ _ hJ'
    obtain ⟨p, hpi, a, t1, t2, rfl, hma⟩ := hP1.at i v (by simpa using hPv)
    have ht : IsTup h₁ a #[.int p.1 t1, .str p.2 t2] := ⟨_, (N₁ _ hma).1, rfl, _, rfl⟩
    refine wpAny_letOwnedTupleGo_listiter hst₁.1 ?_
    refine assign_Tuple_tuple hh ht rfl rfl fun h₅ he => ?_
    have he' : ∀ b o, h₁.get? b = some o → h₅.get? b = some o := fun b o e => he b o (Nat.ne_of_lt (Heap.lt_size e)) e
    have F₅ := F₁.keeps he'
    refine assignInOrder_cons (wpAny_assign_Name (wpAny_storeName_local hx1 F₅.ns (fun h₆ hn₆ hs₆ => ?_) hp))
    refine assignInOrder_cons (wpAny_assign_Name (wpAny_storeName_local hx2 hn₆ (fun h₃ hn₃ hs₃ => ?_) hp))
    refine assignInOrder_nil ?_
    have old3 : ∀ b o, b ≠ env.locals → h₁.get? b = some o → h₃.get? b = some o := fun b o hb e => hs₃.extBut b o hb (hs₆.extBut b o hb (he' b o e))
    have F₃ : Fr h₀ env.locals h₃ (fun y => if y = x2 then some (.str p.2 t2) else if y = x1 then some (.int p.1 t1) else m' y) := (F₅.set hn₆ hs₆).set hn₃ hs₃
    have hst₃ : h₃.IsListIter I l (i + 1) ∧ h₃.IsList l vs.toArray := by
      refine ⟨hst₁.1.at fun o e => old3 I o (Ne.symm hIL) e, hst₁.2.at fun o e => old3 l o ?_ e⟩
      exact (N' _ hm1).2.1
    obtain ⟨oI, heI, rI⟩ := id hst₃.1
    have N₃ : News h₀ env.locals h₃ ((I, oI) :: nw) := fun q hq => by
      rcases List.mem_cons.mp hq with rfl | hq
      · exact ⟨heI, Ne.symm hIL, hI₀⟩
      · exact ⟨old3 _ _ (N₁ q hq).2.1 (N₁ q hq).1, (N₁ q hq).2⟩
    have hs1 : ps.take (i + 1) = ps.take i ++ [p] := by simp [List.take_add_one, hpi]
    have e : ps = ps.take i ++ p :: ps.drop (i + 1) := by
      have ht := List.take_append_drop (i + 1) ps
      rw [hs1, List.append_assoc] at ht
      exact ht.symm
    refine wpAny_mono (wpAny_passesOwn hE (turn _ p _ m' nw h₃ _ I oI t1 t2 e hJ' hoff F₃ N₃)) (fun f s₃ h₃' => ?_) fun _ _ e => e
    cases f with
    | ret v => exact h₃'
    | brk => exact h₃'
    | cont =>
      obtain ⟨h₄, tk₄, m₄, nw₄, rfl, F₄, N₄, off₄, J₄⟩ := h₃'
      refine ⟨ps.length + 1 - (i + 1), by omega, h₄, tk₄, m₄, nw₄, i + 1, rfl, ⟨⟨oI, (N₄ _ (List.mem_cons_self ..)).1, rI⟩, ?_⟩, F₄, fun q hq => N₄ q (List.mem_cons_of_mem _ hq), off₄, by rw [hs1]; exact J₄, hlt', rfl⟩
      exact ⟨_, (N₄ _ (List.mem_cons_of_mem _ (hJ _ _ _ J₄).1)).1, rfl, _, rfl⟩
    | next =>
      obtain ⟨h₄, tk₄, m₄, nw₄, rfl, F₄, N₄, off₄, J₄⟩ := h₃'
      refine ⟨ps.length + 1 - (i + 1), by omega, h₄, tk₄, m₄, nw₄, i + 1, rfl, ⟨⟨oI, (N₄ _ (List.mem_cons_self ..)).1, rI⟩, ?_⟩, F₄, fun q hq => N₄ q (List.mem_cons_of_mem _ hq), off₄, by rw [hs1]; exact J₄, hlt', rfl⟩
      exact ⟨_, (N₄ _ (List.mem_cons_of_mem _ (hJ _ _ _ J₄).1)).1, rfl, _, rfl⟩
  · have hin : i = ps.length := by omega
    subst hin
    rw [List.take_length] at hJ'
    refine W.done _ _ _ hst' fun h₁ tk₁ hk₁ => wpAny_execs_nil ?_
    obtain ⟨F₁, N₁⟩ := next h₁ hk₁
    exact done m' nw h₁ tk₁ F₁ N₁ hJ'
end
end Mine
end
section
open PySem PySem.W PyProof.Rows
set_option Elab.async false
set_option maxRecDepth 100000
namespace Mine
local macro_rules | `(tactic| k_room) => `(tactic| ktr_room)
local macro_rules | `(tactic| walk_at "forall") => `(tactic| ((with_reducible show (@LE.le Nat _ 1 _) → _); (try dsimp only); intro hT9))
local macro_rules | `(tactic| walk_at "exec While Compare cons nil") => `(tactic| refine Held.out ?_)
local macro_rules | `(tactic| walk_at "call builtin:str.join") => `(tactic| refine Held.out ?_)
local macro_rules | `(tactic| walk_at "TurnEnd") => `(tactic| (dsimp only [TurnEnd]; refine Held.out ?_))
set_option maxHeartbeats 4000000 in
theorem unesc_c (w : World) (mean : ExcName → Option Value) (mg mb : Str → Option Value) (x : Str) (t : Tok) :
   CC w mean mg mb (.ref 45) [.str x t] (fun _ => x.length ≤ 4096) (fun news v news' => news' = news ∧ ∃ t', v = .str (unescS x) t') := by
  unfold CC
  k_fill
  w_top off
  intro dp un gd cn cs a ccd cl outer A₀ base h₀ L m news s Q E B F X N T hk hdp hun hx hret
  refine wpAny_call ?_
  k_dflt cell_enter
  k_steps
  show wpAny _ _ _ _ _ _
  rename Fr _ _ _ _ => lF
  rename News _ _ _ _ => lN
  refine while_ir (x := Str.ofString "i") (UnP x) (fun i => x.length - i.toNat) lF lN (by with_unfolding_all rfl) ⟨by decide, by omega, by decide, rfl⟩ ?_
  intro i ti vs rs n h tk hS hP F2 N2
  have hP0 := hP.1
  have hP1 := hP.2.1
  have hP2 := hP.2.2.1
  clear lF lN
  dsimp only
  have hvl : vs.length = rs.length := hS.length
  k_steps
  · refine ⟨_, _, _, _, _, _, _, rfl, fr_twice (by assumption), by assumption, strs_push hS, un_one hP (by assumption) (.inr (.inr (by assumption))), by omega⟩
  · refine ⟨_, _, _, _, _, _, _, rfl, fr_twice (by assumption), by assumption, strs_push hS, un_two hP (by assumption) (by assumption) (by assumption) (by assumption) _ (.inr ⟨by assumption, rfl⟩), by omega⟩
  · refine ⟨_, _, _, _, _, _, _, rfl, fr_twice (by assumption), by assumption, strs_push hS, un_two hP (by assumption) (by assumption) (by assumption) (by assumption) _ (.inl ⟨by assumption, rfl⟩), by omega⟩
  · refine ⟨_, _, _, _, _, _, _, rfl, fr_twice (by assumption), by assumption, strs_push hS, un_one hP (by assumption) (.inr (.inl (by assumption))), by omega⟩
  · refine ⟨_, _, _, _, _, _, _, rfl, fr_twice (by assumption), by assumption, strs_push hS, un_one hP (by assumption) (.inl (by assumption)), by omega⟩
  · show wpAny _ _ _ _ _ _
    obtain ⟨e1, e2⟩ := un_end hP (by assumption)
    refine my_join (News.isList (by assumption) (List.Mem.head _)) hS (by omega) ?_
    intro t' k
    rw [e1]
    k_steps
    exact hret _ _ _ _ (by assumption) (cb_drop (by assumption) (sub_cons sub_self)) ⟨rfl, _, rfl⟩
end Mine
end
section
open PySem PySem.W PyProof.Rows
set_option Elab.async false
set_option maxRecDepth 100000
namespace Mine
local macro_rules | `(tactic| k_room) => `(tactic| ktr_room)
local macro_rules | `(tactic| walk_at "forall") => `(tactic| ((with_reducible show (@LE.le Nat _ 1 _) → _); (try dsimp only); intro hT9))
local macro_rules | `(tactic| walk_at "execs cons") => `(tactic| k_dflt (refine execs_cons_toks (by first | assumption | (dsimp only; omega)) ?_))
local macro_rules | `(tactic| walk_at "call builtin:str.replace") => `(tactic| ((with_reducible show wpAny _ _ (call (Value.builtin "str.replace") [Value.str _ _, Value.str _ _, Value.str _ _]) _ _ _); k_dflt (first | refine my_replace 1 (by dsimp only; omega) (by omega) (by omega) (by omega) (by decide +kernel) (by decide +kernel) (by omega) ?_ | refine my_replace 2 (by dsimp only; omega) (by omega) (by omega) (by omega) (by decide +kernel) (by decide +kernel) (by omega) ?_); intro t9 k9 hk9 hl9; (try dsimp only)))
local macro_rules | `(tactic| walk_at "call builtin:bytes.decode") => `(tactic| ((with_reducible show wpAny _ _ (call (Value.builtin "bytes.decode") [Value.bytes _ _, Value.str _ _]) _ _ _); k_dflt (refine my_decode (by dsimp only; omega) (by assumption) (by assumption) (by omega) ?_); intro t9 k9 hk9; (try dsimp only)))
local macro_rules | `(tactic| walk_at "getMethod bytes") => `(tactic| (with_reducible refine getm_breplace ?_))
local macro_rules | `(tactic| walk_at "call builtin:bytes.replace") => `(tactic| ((with_reducible show wpAny _ _ (call (Value.builtin "bytes.replace") [Value.bytes _ _, Value.bytes _ _, Value.bytes _ _]) _ _ _); k_dflt (first | refine my_breplace0 1 (by rfl) (by omega) ?_ | refine my_breplace0 2 (by rfl) (by omega) ?_); intro t9 k9 hl9; (try dsimp only)))
set_option maxHeartbeats 2000000 in
theorem escB_c (w : World) (mean : ExcName → Option Value) (mg mb : Str → Option Value) (l : List Nat) (t : Tok) :
   CCt w mean mg mb (.ref 61) [.bytes (utf8L l).toArray t] (fun _ => l ≠ [] ∧ (∀ c ∈ l, plainC c) ∧ l.length ≤ 4096) (fun news v news' => news' = news ∧ ∃ t', v = .str (escS (ofL l)) t') := by
  unfold CCt
  k_fill
  w_top off
  intro dp un gd cn cs a ccd cl outer A₀ base h₀ L m news s Q E B F X N T hk hdp hun htk ⟨hne, hpl, hx⟩ hret
  have hxl : (ofL l).length ≤ 4096 := by rw [ofL_len]; exact hx
  refine wpAny_call ?_
  k_dflt cell_enter
  k_steps
  exact hret _ _ _ _ (by assumption) (cb_drop (by assumption) (sub_cons sub_self)) ⟨rfl, _, rfl⟩
set_option maxHeartbeats 2000000 in
theorem unqB_c (w : World) (mean : ExcName → Option Value) (mg mb : Str → Option Value) (b : Array UInt8) (t : Tok) :
   CC w mean mg mb (.ref 68) [.bytes b t] (fun _ => b.size ≤ 8192) (fun news v news' => news' = news ∧ ∃ t', v = .bytes (unqB b) t') := by
  unfold CC
  k_fill
  w_top off
  intro dp un gd cn cs a ccd cl outer A₀ base h₀ L m news s Q E B F X N T hk hdp hun hx hret
  refine wpAny_call ?_
  k_dflt cell_enter
  k_steps
  exact hret _ _ _ _ (by assumption) (cb_drop (by assumption) (sub_cons sub_self)) ⟨rfl, _, rfl⟩
end Mine
end
section
open PySem PySem.W PyProof.Rows PyProof.Rows.LCg PyProof.Rows.LCp
set_option Elab.async false
set_option maxRecDepth 100000
namespace Mine
local macro_rules | `(tactic| walk_at "own pad 0") => `(tactic| skip)
local macro_rules | `(tactic| walk_at "own pad 1") => `(tactic| skip)
local macro_rules | `(tactic| k_room) => `(tactic| ktr_room)
local macro_rules | `(tactic| walk_at "SrcLP") => `(tactic| refine Held.out ?_)
local macro_rules | `(tactic| walk_at "CompEnd") => `(tactic| refine Held.out ?_)
local macro_rules | `(tactic| walk_at "call builtin:str.join") => `(tactic| refine Held.out ?_)
set_option maxHeartbeats 2000000 in
theorem text_c (w : World) (mean : ExcName → Option Value) (mg mb : Str → Option Value) (v : Value) (ps : Prs) :
   CC w mean mg mb (.ref 352) [v] (fun news => PairsIn news v ps ∧ Bd ps) (fun news v news' => news' = news ∧ ∃ t', v = .str (textS ps) t') := by
  unfold CC
  k_fill
  w_top off
  intro dp un gd cn cs a ccd cl outer A₀ base h₀ L m news s Q E B F X N T hk hdp hun ⟨⟨l, vs, n, hv, hm, hP⟩, hb1, hb2⟩ hret
  subst hv
  refine wpAny_call ?_
  k_dflt cell_enter
  k_steps
  show LCp.SrcLP _ _ _ _ _ _ _ _ _ _ _ _ _ _ _
  rename Fr _ _ _ _ => lF
  rename News _ _ _ _ => lN
  refine LCp.SrcLP.ledger (by rfl) lF lN hm (by rw [sizeLine_eq]; simp [hP.length]; omega) ?_
  intro g
  refine compP_ind (ps := ps) (fun pre ys nw => nw = news ∧ StrsAre ys (pre.map elemS)) (fun pre ys nw h => by rw [h.1]; exact hP) ?turn ?fin _ _ _ _ (by simp [hP.length]) ⟨rfl, .nil⟩
  case turn =>
    rintro pre p post ys nw I' oI' C' oC' D' m' h' tk' E' t1 t2 hps ⟨rfl, hS⟩ hC' hx' hy' F' N' off' ne'
    obtain ⟨hp0, hp1, hp2⟩ := hb2 p (by rw [hps]; simp)
    k_steps
    exact ⟨_, _, _, rfl, by assumption, by assumption, off', .inr ⟨_, hm, rfl, n, rfl⟩, rfl, by rw [List.map_append]; exact strs_snoc hS⟩
  case fin =>
    rintro ys nw ⟨rfl, hS⟩
    intro D h' tk' F' N' off'
    k_steps
    show wpAny _ _ _ _ _ _
    refine my_join (News.isList (by assumption) (List.Mem.head _)) hS (by have := cat_bd ps hb2; omega) ?_
    intro t' k
    k_steps
    exact hret _ _ _ _ (by assumption) (cb_drop (by assumption) (sub_cons sub_self)) ⟨rfl, _, rfl⟩
end Mine
end
section
open PySem PySem.W PyProof.Rows PyProof.Rows.LCg PyProof.Rows.LCp
set_option Elab.async false
set_option maxRecDepth 100000
namespace Mine
local macro_rules | `(tactic| walk_at "own pad 0") => `(tactic| skip)
local macro_rules | `(tactic| walk_at "own pad 1") => `(tactic| skip)
local macro_rules | `(tactic| walk_at "own pad 2") => `(tactic| skip)
local macro_rules | `(tactic| k_room) => `(tactic| ktr_room)
local macro_rules | `(tactic| walk_at "exec For Tuple Name cons nil") => `(tactic| refine Held.out ?_)
local macro_rules | `(tactic| walk_at "exec For Tuple") => `(tactic| refine Held.out ?_)
local macro_rules | `(tactic| walk_at "PTurn") => `(tactic| refine Held.out ?_)
local macro_rules | `(tactic| walk_at "call builtin:list.append") => `(tactic| refine Held.out ?_)
def restStep (st : Prs × Bool) (p : Int × Str) : Prs × Bool :=
  let q : Int × Str := if (p.2 == Str.ofString "N") = true ∧ p.1 > 0 then (p.1 - 1, Str.ofString "\n") else p
  if st.2 = true ∧ q.1 = 0 ∧ (q.2 == Str.ofString "\n") = true then (st.1, false)
  else (st.1 ++ [(q.1, if (q.2 == Str.ofString "\r") = true then Str.ofString "\n" else q.2)], q.2 == Str.ofString "\r")
def restA (ps : Prs) : Prs × Bool := ps.foldl restStep ([], false)
theorem news_swap {h₀ h : Heap} {L : Addr} {a b : Addr × Obj} {r : Led} (N : News h₀ L h (a :: b :: r)) : News h₀ L h (b :: a :: r) := fun q hq => N q (by
  rcases List.mem_cons.mp hq with rfl | hq
  · exact List.mem_cons_of_mem _ (List.mem_cons_self ..)
  · rcases List.mem_cons.mp hq with rfl | hq
    · exact List.mem_cons_self ..
    · exact List.mem_cons_of_mem _ (List.mem_cons_of_mem _ hq))
theorem fr_at {h₀ h : Heap} {L : Addr} {m : Str → Option Value} {x : Str} {v : Value} (F : Fr h₀ L h m) (hx : m x = some v) : Fr h₀ L h (fun y => if y = x then some v else m y) :=
  fr_congr F fun y => by
    by_cases h1 : y = x
    · rw [if_pos h1, h1, hx]
    · rw [if_neg h1]
theorem at2 {m : Str → Option Value} {x y : Str} {v w : Value} (hx : m x = some v) (hy : m y = some w) : m = fun z => if z = x then some v else if z = y then some w else m z := by
  funext z
  by_cases h1 : z = x
  · rw [if_pos h1, h1, hx]
  · rw [if_neg h1]
    by_cases h2 : z = y
    · rw [if_pos h2, h2, hy]
    · rw [if_neg h2]
theorem fr_in2 {h₀ h : Heap} {L : Addr} {m : Str → Option Value} {a b x y : Str} {va vb : Option Value} {v w : Value} (F : Fr h₀ L h (fun z => if z = a then va else if z = b then vb else m z)) (hx : m x = some v) (hy : m y = some w) :
    Fr h₀ L h (fun z => if z = a then va else if z = b then vb else if z = x then some v else if z = y then some w else m z) :=
  fr_congr F fun z => by
    by_cases h1 : z = a
    · simp [h1]
    · by_cases h2 : z = b
      · simp [h2]
      · rw [if_neg h1, if_neg h2, if_neg h1, if_neg h2]; exact congrFun (at2 hx hy) z
def RJ (D l : Addr) (n : Nat) (vs : List Value) (ps : Prs) (news : Led) (pre : Prs) (m : Str → Option Value) (nw : Led) : Prop :=
  ∃ tl vsR nR cut, nw = (D, listOf (List.toArray vsR) nR) :: tl ∧ (∀ q ∈ tl, q.1 ≠ D) ∧ (∀ q ∈ news, q ∈ tl) ∧ PairsAt tl vsR (restA pre).1 ∧ (restA pre).2 = cut ∧ m (Str.ofString "rested") = some (.ref D) ∧ m (Str.ofString "cut") = some (.bool cut)
theorem restA_snoc (pre : Prs) (p : Int × Str) : restA (pre ++ [p]) = restStep (restA pre) p := by unfold restA; rw [List.foldl_append]; rfl
theorem nl_nl : (Str.ofString "\n" == Str.ofString "\n") = true := by decide +kernel
theorem nl_cr : (Str.ofString "\n" == Str.ofString "\r") = false := by decide +kernel
theorem st_NS {st : Prs × Bool} {p : Int × Str} (hN : (p.2 == Str.ofString "N") = true) (h0 : 0 < p.1) (hc : st.2 = true) (h1 : p.1 - 1 = 0) : restStep st p = (st.1, false) := by
  unfold restStep; dsimp only
  rw [if_pos (c := _ ∧ _) ⟨hN, h0⟩, if_pos ⟨hc, h1, nl_nl⟩]
theorem st_NA {st : Prs × Bool} {p : Int × Str} (hN : (p.2 == Str.ofString "N") = true) (h0 : 0 < p.1) (h : st.2 = false ∨ p.1 - 1 ≠ 0) : restStep st p = (st.1 ++ [(p.1 - 1, Str.ofString "\n")], Str.ofString "\n" == Str.ofString "\r") := by
  unfold restStep; dsimp only
  rw [if_pos (c := _ ∧ _) ⟨hN, h0⟩, if_neg, nl_cr, if_neg Bool.false_ne_true]
  rintro ⟨h1, h2, _⟩
  rcases h with h | h
  · rw [h] at h1; cases h1
  · exact h h2
theorem st_S {st : Prs × Bool} {p : Int × Str} (hN : (p.2 == Str.ofString "N") = false ∨ ¬ 0 < p.1) (hc : st.2 = true) (h0 : p.1 = 0) (hs : (p.2 == Str.ofString "\n") = true) : restStep st p = (st.1, false) := by
  unfold restStep; dsimp only
  have hn : ¬ ((p.2 == Str.ofString "N") = true ∧ p.1 > 0) := by
    rintro ⟨h1, h2⟩
    rcases hN with hN | hN
    · rw [hN] at h1; cases h1
    · exact hN h2
  rw [if_neg hn, if_pos ⟨hc, h0, hs⟩]
theorem st_A {st : Prs × Bool} {p : Int × Str} (b : Bool) (hN : (p.2 == Str.ofString "N") = false ∨ ¬ 0 < p.1) (h : st.2 = false ∨ p.1 ≠ 0 ∨ (p.2 == Str.ofString "\n") = false) (hr : (p.2 == Str.ofString "\r") = b) :
    restStep st p = (st.1 ++ [(p.1, if b = true then Str.ofString "\n" else p.2)], p.2 == Str.ofString "\r") := by
  unfold restStep; dsimp only
  have hn : ¬ ((p.2 == Str.ofString "N") = true ∧ p.1 > 0) := by
    rintro ⟨h1, h2⟩
    rcases hN with hN | hN
    · rw [hN] at h1; cases h1
    · exact hN h2
  rw [if_neg hn, if_neg, hr]
  rintro ⟨h1, h2, h3⟩
  rcases h with h | h | h
  · rw [h] at h1; cases h1
  · exact h h2
  · rw [h] at h3; cases h3
theorem st_At {st : Prs × Bool} {p : Int × Str} (hN : (p.2 == Str.ofString "N") = false ∨ ¬ 0 < p.1) (h : st.2 = false ∨ p.1 ≠ 0 ∨ (p.2 == Str.ofString "\n") = false) (hr : (p.2 == Str.ofString "\r") = true) :
    restStep st p = (st.1 ++ [(p.1, Str.ofString "\n")], p.2 == Str.ofString "\r") := by rw [st_A true hN h hr, if_pos rfl]
theorem st_Af {st : Prs × Bool} {p : Int × Str} (hN : (p.2 == Str.ofString "N") = false ∨ ¬ 0 < p.1) (h : st.2 = false ∨ p.1 ≠ 0 ∨ (p.2 == Str.ofString "\n") = false) (hr : (p.2 == Str.ofString "\r") = false) :
    restStep st p = (st.1 ++ [(p.1, p.2)], p.2 == Str.ofString "\r") := by rw [st_A false hN h hr, if_neg Bool.false_ne_true]
theorem upd_app {D : Addr} {vsR : List Value} {nR : Nat} {v : Value} {pre tl : Led} (hp : ∀ q ∈ pre, q.1 ≠ D) (ht : ∀ q ∈ tl, q.1 ≠ D) :
    Upd D (listOf (List.toArray vsR) nR) (listOf ((List.toArray vsR).push v) (nR + 1)) (pre ++ (D, listOf (List.toArray vsR) nR) :: tl) (pre ++ (D, listOf (List.toArray (vsR ++ [v])) (nR + 1)) :: tl) := by
  rw [← List.push_toArray]
  induction pre with
  | nil => exact .head ht
  | cons a r ih => exact .tail (hp a (List.mem_cons_self ..)) (ih fun q hq => hp q (List.mem_cons_of_mem _ hq))
theorem restStep_len (st : Prs × Bool) (p : Int × Str) : (restStep st p).1.length ≤ st.1.length + 1 := by
  unfold restStep; dsimp only
  generalize (if (p.2 == Str.ofString "N") = true ∧ p.1 > 0 then (p.1 - 1, Str.ofString "\n") else p) = q
  split
  · exact Nat.le_succ _
  · simp
theorem restA_len : ∀ ps : Prs, (restA ps).1.length ≤ ps.length := by
  have key : ∀ (ps : Prs) (st : Prs × Bool), (ps.foldl restStep st).1.length ≤ st.1.length + ps.length := by
    intro ps
    induction ps with
    | nil => intro st; simp
    | cons p r ih =>
      intro st
      rw [List.foldl_cons]
      have h1 := ih (restStep st p)
      have h2 := restStep_len st p
      simp only [List.length_cons]; omega
  intro ps
  have := key ps ([], false)
  simpa [restA] using this
section
variable {h₀ h' : Heap} {L D l I a : Addr} {oI : Obj} {n nR : Nat} {vs vsR : List Value} {ps news tl : _} {pre : Prs} {p : Int × Str} {m' : Str → Option Value} {s : Shared} {tk : Nat} {Q : Flow → Shared → Prop} {cut' : Bool} {r : Int} {t1 t2 : Tok} {z : Str}
theorem end_sw {rest : Led} (lG : Fr h₀ L h' m') (lM : News h₀ L h' rest) (hr : ∀ q ∈ (I, oI) :: (D, listOf (List.toArray vsR) nR) :: tl, q ∈ rest) (hoff : ∀ q ∈ (D, listOf (List.toArray vsR) nR) :: tl, q.1 ≠ I) (htl : ∀ q ∈ tl, q.1 ≠ D) (hsub : ∀ q ∈ news, q ∈ tl)
    (hPR : PairsAt tl vsR (restA pre).1) (hst : restStep (restA pre) p = ((restA pre).1, cut')) (hmr : m' (Str.ofString "rested") = some (.ref D)) (hmc : m' (Str.ofString "cut") = some (.bool cut')) :
    PTurn h₀ L s (RJ D l n vs ps news (pre ++ [p])) I oI Q .next { s with heap := h', toks := tk } :=
  ⟨h', tk, m', _, rfl, lG, fun q hq => lM q (hr q hq), hoff, tl, vsR, nR, cut', rfl, htl, hsub, by rw [restA_snoc, hst]; exact hPR, by rw [restA_snoc, hst], hmr, hmc⟩
theorem end_ap {rest : Led} (lG : Fr h₀ L h' m') (lM : News h₀ L h' ((a, tupOf r t1 z t2) :: rest)) (hr : ∀ q ∈ (I, oI) :: (D, listOf (List.toArray (vsR ++ [.ref a])) (nR + 1)) :: (a, tupOf r t1 z t2) :: tl, q ∈ (a, tupOf r t1 z t2) :: rest) (hoff : ∀ q ∈ (D, listOf (List.toArray vsR) nR) :: tl, q.1 ≠ I) (htl : ∀ q ∈ tl, q.1 ≠ D) (hsub : ∀ q ∈ news, q ∈ tl)
    (haI : @Ne Nat a I) (haD : @Ne Nat a D)
    (hPR : PairsAt tl vsR (restA pre).1) (hst : restStep (restA pre) p = ((restA pre).1 ++ [(r, z)], cut')) (hmr : m' (Str.ofString "rested") = some (.ref D)) (hmc : m' (Str.ofString "cut") = some (.bool cut')) :
    PTurn h₀ L s (RJ D l n vs ps news (pre ++ [p])) I oI Q .next { s with heap := h', toks := tk } := by
  refine ⟨h', tk, m', _, rfl, lG, fun q hq => lM q (hr q hq), ?_, (a, tupOf r t1 z t2) :: tl, vsR ++ [.ref a], nR + 1, cut', rfl, ?_, fun q hq => List.mem_cons_of_mem _ (hsub q hq), ?_, by rw [restA_snoc, hst], hmr, hmc⟩
  · intro q hq
    rcases List.mem_cons.mp hq with rfl | hq
    · exact hoff (D, listOf (List.toArray vsR) nR) (List.mem_cons_self ..)
    · rcases List.mem_cons.mp hq with rfl | hq
      · exact haI
      · exact hoff q (List.mem_cons_of_mem _ hq)
  · intro q hq
    rcases List.mem_cons.mp hq with rfl | hq
    · exact haD
    · exact htl q hq
  · rw [restA_snoc, hst]
    exact (hPR.mono fun q hq => List.mem_cons_of_mem _ hq).snoc ⟨a, t1, t2, rfl, List.mem_cons_self ..⟩
end
set_option maxHeartbeats 4000000 in
theorem rested_c (w : World) (mean : ExcName → Option Value) (mg mb : Str → Option Value) (v : Value) (ps : Prs) :
   CC w mean mg mb (.ref 359) [v] (fun news => PairsIn news v ps ∧ Bd ps) (fun news v news' => (∀ q ∈ news, q ∈ news') ∧ PairsIn news' v (restA ps).1) := by
  unfold CC
  k_fill
  w_top off
  intro dp un gd cn cs a ccd cl outer A₀ base h₀ L m news s Q E B F X N T hk hdp hun ⟨⟨l, vs, n, hv, hm, hP⟩, hb1, hb2⟩ hret
  subst hv
  refine wpAny_call ?_
  k_dflt cell_enter
  k_steps
  show wpAny _ _ _ _ _ _
  rename Fr _ _ _ _ => lF
  rename News _ _ _ _ => lN
  rename (∀ p ∈ news, p.1 < _) => l1a
  rename (_ ∧ AllLt _ news) => l1b
  refine for_pairs (n := n) (vs := vs) (ps := ps) (RJ _ l n vs ps news) rfl lF (news_swap lN) ⟨_, [], 0, false, rfl, (by
    intro q hq
    rcases List.mem_cons.mp hq with rfl | hq
    · exact Nat.ne_of_gt l1b.1
    · exact Nat.ne_of_lt (l1a q hq)), (fun q hq => List.mem_cons_of_mem _ hq), .nil, rfl, (by with_unfolding_all rfl), (by with_unfolding_all rfl)⟩ ?hJ (fun Q' h => ld lF rfl h) (by rfl) (by rfl) (by rfl) ?turn ?done
  case hJ =>
    rintro pre m nw ⟨tl, vsR, nR, cut, rfl, htl, hsub, hPR, hcut, hmr, hmc⟩
    exact ⟨List.mem_cons_of_mem _ (hsub _ hm), hP.mono fun q hq => List.mem_cons_of_mem _ (hsub q hq)⟩
  case done =>
    rintro m' nw h' tk F' N' ⟨tl, vsR, nR, cut, rfl, htl, hsub, hPR, hcut, hmr, hmc⟩
    have F3 := fr_at F' hmr
    clear lF lN
    dsimp only
    k_steps
    exact hret _ _ _ _ (by assumption) (cb_drop (by assumption) sub_self) ⟨fun q hq => List.mem_cons_of_mem _ (hsub q hq), _, vsR, nR, rfl, List.mem_cons_self .., hPR.mono fun q hq => List.mem_cons_of_mem _ hq⟩
  case turn =>
    rintro pre p post m₁ nw h tk I oI t1 t2 hps ⟨tl, vsR, nR, cut, rfl, htl, hsub, hPR, hcut, hmr, hmc⟩ hoff F2 N2
    have F3 := fr_in2 F2 hmr hmc
    obtain ⟨hp0, hp1, hp2⟩ := hb2 p (by rw [hps]; simp)
    clear F2 lF lN
    dsimp only
    have hDI : _ ≠ I := hoff _ (List.mem_cons_self ..)
    have hID := Ne.symm hDI
    have hvl : vsR.toArray.size ≤ sizeLine := by
      have h1 := restA_len pre
      have h2 : pre.length ≤ ps.length := by rw [hps]; simp
      rw [sizeLine_eq, List.size_toArray, hPR.length]; omega
    k_steps
    all_goals try (show wpAny _ _ _ _ _ _)
    all_goals try (rename Fr _ _ _ _ => lF; rename News _ _ _ _ => lN)
    all_goals try (first
      | (refine append_K lF lN (upd_app (pre := [_, _]) (by intro q hq; simp only [List.mem_cons, List.not_mem_nil, or_false] at hq; rcases hq with rfl | rfl; (· k_ne); (· exact hID)) htl) ?_ hvl; intro h9 F9 N9; (simp only [List.cons_append, List.nil_append] at N9); k_steps)
      | (refine append_K lF lN (upd_app (pre := [_, _, _]) (by intro q hq; simp only [List.mem_cons, List.not_mem_nil, or_false] at hq; rcases hq with rfl | rfl | rfl; (· k_ne); (· k_ne); (· exact hID)) htl) ?_ hvl; intro h9 F9 N9; (simp only [List.cons_append, List.nil_append] at N9); k_steps))
    all_goals (rename Fr _ _ _ _ => lG; rename News _ _ _ _ => lM)
    all_goals (first
      | exact end_sw lG lM (fun q hq => by simp only [List.mem_cons] at hq ⊢; rcases hq with h | h | h <;> simp [h]) hoff htl hsub hPR (by first | exact st_NS (by assumption) (by assumption) (hcut.trans (by assumption)) (by assumption) | exact st_S (.inl (by assumption)) (hcut.trans (by assumption)) (by assumption) (by assumption) | exact st_S (.inr (by assumption)) (hcut.trans (by assumption)) (by assumption) (by assumption)) (by with_unfolding_all rfl) (by with_unfolding_all rfl)
      | exact end_ap lG lM (fun q hq => by simp only [List.mem_cons] at hq ⊢; rcases hq with h | h | h | h <;> simp [h]) hoff htl hsub (by k_ne) (by k_ne) hPR (by first
          | exact st_NA (by assumption) (by assumption) (.inl (hcut.trans (by assumption)))
          | exact st_NA (by assumption) (by assumption) (.inr (by assumption))
          | exact st_At (by first | exact .inl (by assumption) | exact .inr (by assumption)) (by first | exact .inl (hcut.trans (by assumption)) | exact .inr (.inl (by assumption)) | exact .inr (.inr (by assumption))) (by assumption)
          | exact st_Af (by first | exact .inl (by assumption) | exact .inr (by assumption)) (by first | exact .inl (hcut.trans (by assumption)) | exact .inr (.inl (by assumption)) | exact .inr (.inr (by assumption))) (by assumption)) (by with_unfolding_all rfl) (by with_unfolding_all rfl)
      | (exfalso; omega))
end Mine
end
section
open PySem PySem.W PyProof.Rows PyProof.Rows.LCg PyProof.Rows.LCp
set_option Elab.async false
set_option maxRecDepth 100000
namespace Mine
local macro_rules | `(tactic| walk_at "own pad 0") => `(tactic| skip)
local macro_rules | `(tactic| walk_at "own pad 1") => `(tactic| skip)
local macro_rules | `(tactic| walk_at "own pad 2") => `(tactic| skip)
local macro_rules | `(tactic| walk_at "own pad 3") => `(tactic| skip)
local macro_rules | `(tactic| k_room) => `(tactic| ktr_room)
local macro_rules | `(tactic| walk_at "exec For Tuple Name cons nil") => `(tactic| refine Held.out ?_)
local macro_rules | `(tactic| walk_at "PTurn") => `(tactic| refine Held.out ?_)
local macro_rules | `(tactic| walk_at "call builtin:list.append") => `(tactic| refine Held.out ?_)
local macro_rules | `(tactic| walk_at "call ref") => `(tactic| ((with_reducible show wpAny _ _ (call (Value.ref 352) _ _) _ _ _); refine Held.out ?_))
def LJ (K : (Str → Option Value) → Prop) (nm : Str) (f : Int × Str → Int × Str) (D : Addr) (news : Led) (pre : Prs) (m : Str → Option Value) (nw : Led) : Prop :=
  ∃ tl vsR nR, nw = (D, listOf (List.toArray vsR) nR) :: tl ∧ (∀ q ∈ tl, q.1 ≠ D) ∧ (∀ q ∈ news, q ∈ tl) ∧ PairsAt tl vsR (pre.map f) ∧ m nm = some (.ref D) ∧ K m
section
variable {h₀ h' : Heap} {L D I a : Addr} {oI : Obj} {nR : Nat} {vsR : List Value} {news tl : Led} {pre : Prs} {p : Int × Str} {m' : Str → Option Value} {s : Shared} {tk : Nat} {Q : Flow → Shared → Prop} {r : Int} {t1 t2 : Tok} {z : Str} {nm : Str} {f : Int × Str → Int × Str} {K : (Str → Option Value) → Prop}
theorem end_map {rest : Led} (lG : Fr h₀ L h' m') (lM : News h₀ L h' ((a, tupOf r t1 z t2) :: rest)) (hr : ∀ q ∈ (I, oI) :: (D, listOf (List.toArray (vsR ++ [.ref a])) (nR + 1)) :: (a, tupOf r t1 z t2) :: tl, q ∈ (a, tupOf r t1 z t2) :: rest) (hoff : ∀ q ∈ (D, listOf (List.toArray vsR) nR) :: tl, q.1 ≠ I) (htl : ∀ q ∈ tl, q.1 ≠ D) (hsub : ∀ q ∈ news, q ∈ tl)
    (haI : @Ne Nat a I) (haD : @Ne Nat a D)
    (hPR : PairsAt tl vsR (pre.map f)) (hst : f p = (r, z)) (hmr : m' nm = some (.ref D)) (hK : K m') :
    PTurn h₀ L s (LJ K nm f D news (pre ++ [p])) I oI Q .next { s with heap := h', toks := tk } := by
  refine ⟨h', tk, m', _, rfl, lG, fun q hq => lM q (hr q hq), ?_, (a, tupOf r t1 z t2) :: tl, vsR ++ [.ref a], nR + 1, rfl, ?_, fun q hq => List.mem_cons_of_mem _ (hsub q hq), ?_, hmr, hK⟩
  · intro q hq
    rcases List.mem_cons.mp hq with rfl | hq
    · exact hoff (D, listOf (List.toArray vsR) nR) (List.mem_cons_self ..)
    · rcases List.mem_cons.mp hq with rfl | hq
      · exact haI
      · exact hoff q (List.mem_cons_of_mem _ hq)
  · intro q hq
    rcases List.mem_cons.mp hq with rfl | hq
    · exact haD
    · exact htl q hq
  · rw [List.map_append]
    have e : [p].map f = [(r, z)] := by simp [hst]
    rw [e]
    exact (hPR.mono fun q hq => List.mem_cons_of_mem _ hq).snoc ⟨a, t1, t2, rfl, List.mem_cons_self ..⟩
theorem fr_in1 {h : Heap} {m : Str → Option Value} {x a b : Str} {va vb : Option Value} {v : Value} (F : Fr h₀ L h (fun z => if z = a then va else if z = b then vb else m z)) (hx : m x = some v) :
    Fr h₀ L h (fun z => if z = a then va else if z = b then vb else if z = x then some v else m z) :=
  fr_congr F fun z => by
    by_cases h1 : z = a
    · simp [h1]
    · by_cases h2 : z = b
      · simp [h2]
      · rw [if_neg h1, if_neg h2, if_neg h1, if_neg h2]
        by_cases h3 : z = x
        · rw [if_pos h3, h3, hx]
        · rw [if_neg h3]
end
def raiseI (k : Int) (p : Int × Str) : Int × Str :=
  if (p.2 == Str.ofString "\n") = true then ((2 * p.1 + 1) * 2 ^ (k - 1).toNat, Str.ofString "n")
  else if (p.2 == Str.ofString ",") = true ∨ (p.2 == Str.ofString ";") = true then ((p.1 + 1) * 2 ^ k.toNat - 1, p.2) else (p.1 * 2 ^ k.toNat, p.2)
theorem ra_1 {k : Int} {p : Int × Str} (h : (p.2 == Str.ofString "\n") = true) : raiseI k p = ((2 * p.1 + 1) * 2 ^ (k - 1).toNat, Str.ofString "n") := by unfold raiseI; rw [if_pos h]
theorem ra_2 {k : Int} {p : Int × Str} (h : (p.2 == Str.ofString "\n") = false) (h2 : (p.2 == Str.ofString ",") = true ∨ (p.2 == Str.ofString ";") = true) : raiseI k p = ((p.1 + 1) * 2 ^ k.toNat - 1, p.2) := by
  unfold raiseI; rw [if_neg (by rw [h]; exact Bool.false_ne_true), if_pos h2]
theorem ra_3 {k : Int} {p : Int × Str} (h : (p.2 == Str.ofString "\n") = false) (h2 : (p.2 == Str.ofString ",") = false) (h3 : (p.2 == Str.ofString ";") = false) : raiseI k p = (p.1 * 2 ^ k.toNat, p.2) := by
  unfold raiseI; rw [if_neg (by rw [h]; exact Bool.false_ne_true), if_neg (by rw [h2, h3]; simp)]
def Bd7 (ps : Prs) : Prop := ps.length ≤ 9 ∧ ∀ p ∈ ps, 0 ≤ p.1 ∧ p.1 ≤ 7 ∧ p.2.length ≤ 1
theorem raise_bd {ps : Prs} {k : Int} (h : Bd7 ps) (h1 : 1 ≤ k) (h4 : k ≤ 4) : Bd (ps.map (raiseI k)) := by
  refine ⟨by rw [List.length_map]; exact h.1, fun q hq => ?_⟩
  obtain ⟨p, hp, rfl⟩ := List.mem_map.mp hq
  obtain ⟨h0, h7, hl⟩ := h.2 p hp
  have hn : (Str.ofString "n").length = 1 := by decide +kernel
  have hk : k = 1 ∨ k = 2 ∨ k = 3 ∨ k = 4 := by omega
  unfold raiseI
  rcases hk with rfl | rfl | rfl | rfl
  all_goals
    simp only [show ((1 : Int) - 1).toNat = 0 from rfl, show ((2 : Int) - 1).toNat = 1 from rfl, show ((3 : Int) - 1).toNat = 2 from rfl, show ((4 : Int) - 1).toNat = 3 from rfl, show (1 : Int).toNat = 1 from rfl, show (2 : Int).toNat = 2 from rfl, show (3 : Int).toNat = 3 from rfl, show (4 : Int).toNat = 4 from rfl]
    split
    · dsimp only; refine ⟨by omega, by omega, by omega⟩
    · split
      · dsimp only; refine ⟨by omega, by omega, hl⟩
      · dsimp only; refine ⟨by omega, by omega, hl⟩
set_option maxHeartbeats 4000000 in
theorem raised_c (w : World) (mean : ExcName → Option Value) (mg mb : Str → Option Value) (v : Value) (ps : Prs) (k : Int) (kt : Tok) :
   CC2 w mean mg mb (.ref 366) [v, .int k kt] (fun news => PairsIn news v ps ∧ Bd7 ps ∧ 1 ≤ k ∧ k ≤ 4) (fun news v news' => (∀ q ∈ news, q ∈ news') ∧ ∃ t', v = .str (textS (ps.map (raiseI k))) t') := by
  unfold CC2
  k_fill
  w_top off
  intro dp un gd cn cs a ccd cl outer A₀ base h₀ L m news s Q E B F X N T hk hdp hun ⟨⟨l, vs, n, hv, hm, hP⟩, ⟨hb1, hb2⟩, hk1, hk4⟩ hret
  subst hv
  refine wpAny_call ?_
  k_dflt cell_enter
  k_steps
  show wpAny _ _ _ _ _ _
  rename Fr _ _ _ _ => lF
  rename News _ _ _ _ => lN
  rename (∀ p ∈ news, p.1 < _) => l1a
  refine for_pairs (n := n) (vs := vs) (ps := ps) (LJ (fun m => m (Str.ofString "times") = some (.int k kt)) (Str.ofString "raised") (raiseI k) _ news) rfl lF lN ⟨_, [], 0, rfl, (fun q hq => Nat.ne_of_lt (l1a q hq)), sub_self, .nil, (by with_unfolding_all rfl), (by with_unfolding_all rfl)⟩ ?hJ (fun Q' h => ld lF rfl h) (by rfl) (by rfl) (by rfl) ?turn ?done
  case hJ =>
    rintro pre m nw ⟨tl, vsR, nR, rfl, htl, hsub, hPR, hmr, hmt⟩
    exact ⟨List.mem_cons_of_mem _ (hsub _ hm), hP.mono fun q hq => List.mem_cons_of_mem _ (hsub q hq)⟩
  case done =>
    rintro m' nw h' tk F' N' ⟨tl, vsR, nR, rfl, htl, hsub, hPR, hmr, hmt⟩
    have F3 := fr_at F' hmr
    clear lF lN
    dsimp only
    k_steps
    show wpAny _ _ _ _ _ _
    refine (text_c w mean mg mb _ (ps.map (raiseI k))).use (by assumption) (by assumption) (by assumption) (by assumption) (by assumption) (by rfl) (by ktr_room) (by ktr_units) ?hpre ?hret
    case hpre => exact ⟨⟨_, vsR, nR, rfl, List.mem_cons_self .., hPR.mono fun q hq => List.mem_cons_of_mem _ hq⟩, raise_bd ⟨hb1, hb2⟩ hk1 hk4⟩
    case hret =>
      rintro v h9 tk9 news9 F9 N9 ⟨rfl, t9, rfl⟩
      k_steps
      exact hret _ _ _ _ (by assumption) (by assumption) ⟨fun q hq => List.mem_cons_of_mem _ (hsub q hq), _, rfl⟩
  case turn =>
    rintro pre p post m₁ nw h tk I oI t1 t2 hps ⟨tl, vsR, nR, rfl, htl, hsub, hPR, hmr, hmt⟩ hoff F2 N2
    have F3 := fr_in2 F2 hmr hmt
    obtain ⟨hp0, hp1, hp2⟩ := hb2 p (by rw [hps]; simp)
    clear F2 lF lN
    dsimp only
    have hDI : _ ≠ I := hoff _ (List.mem_cons_self ..)
    have hID := Ne.symm hDI
    have hvl : vsR.toArray.size ≤ sizeLine := by
      have h2 : pre.length ≤ ps.length := by rw [hps]; simp
      rw [sizeLine_eq, List.size_toArray, hPR.length, List.length_map]; omega
    k_steps
    all_goals try (show wpAny _ _ _ _ _ _)
    all_goals (rename Fr _ _ _ _ => lF; rename News _ _ _ _ => lN)
    all_goals (refine append_K lF lN (upd_app (pre := [_, _]) (by intro q hq; simp only [List.mem_cons, List.not_mem_nil, or_false] at hq; rcases hq with rfl | rfl; (· k_ne); (· exact hID)) htl) ?_ hvl; intro h9 F9 N9; (simp only [List.cons_append, List.nil_append] at N9); k_steps)
    all_goals (rename Fr _ _ _ _ => lG; rename News _ _ _ _ => lM)
    all_goals (exact end_map lG lM (fun q hq => by simp only [List.mem_cons] at hq ⊢; rcases hq with h | h | h | h <;> simp [h]) hoff htl hsub (by k_ne) (by k_ne) hPR (by first
      | exact ra_1 (by assumption)
      | exact ra_2 (by assumption) (.inl (by assumption))
      | exact ra_2 (by assumption) (.inr (by assumption))
      | exact ra_3 (by assumption) (by assumption) (by assumption)) (by with_unfolding_all rfl) (by with_unfolding_all rfl))
end Mine
end
section
open PySem PySem.W PyProof.Rows PyProof.Rows.LCg PyProof.Rows.LCp
set_option Elab.async false
set_option maxRecDepth 100000
namespace Mine
local macro_rules | `(tactic| walk_at "own pad 0") => `(tactic| skip)
local macro_rules | `(tactic| walk_at "own pad 1") => `(tactic| skip)
local macro_rules | `(tactic| walk_at "own pad 2") => `(tactic| skip)
local macro_rules | `(tactic| walk_at "own pad 3") => `(tactic| skip)
local macro_rules | `(tactic| walk_at "own pad 4") => `(tactic| skip)
local macro_rules | `(tactic| k_room) => `(tactic| ktr_room)
local macro_rules | `(tactic| walk_at "exec For Tuple Name cons nil") => `(tactic| refine Held.out ?_)
local macro_rules | `(tactic| walk_at "PTurn") => `(tactic| refine Held.out ?_)
local macro_rules | `(tactic| walk_at "call builtin:list.append") => `(tactic| refine Held.out ?_)
local macro_rules | `(tactic| walk_at "call ref") => `(tactic| ((with_reducible show wpAny _ _ (call (Value.ref 352) _ _) _ _ _); refine Held.out ?_))
def inNN (x : Str) : Bool := [Str.ofString "n", Str.ofString "N"].any fun y => y == x
def inSet (x : Str) : Bool := [Str.ofString "n", Str.ofString "N", Str.ofString ",", Str.ofString ";", Str.ofString ":"].any fun y => y == x
def passI (p : Int × Str) : Int × Str :=
  if inNN p.2 = true ∧ Int.fmod p.1 2 = 1 then (Int.fdiv p.1 2, Str.ofString "\n")
  else if inSet p.2 = true then (Int.fdiv p.1 2, p.2) else (Int.fdiv (p.1 + 1) 2, p.2)
theorem pass_bd {ps : Prs} (h : Bd7 ps) : Bd (ps.map passI) := by
  refine ⟨by rw [List.length_map]; exact h.1, fun q hq => ?_⟩
  obtain ⟨p, hp, rfl⟩ := List.mem_map.mp hq
  obtain ⟨h0, h7, hl⟩ := h.2 p hp
  have hn : (Str.ofString "\n").length = 1 := by decide +kernel
  have e1 : Int.fdiv p.1 2 = p.1 / 2 := Int.fdiv_eq_ediv_of_nonneg _ (by omega)
  have e2 : Int.fdiv (p.1 + 1) 2 = (p.1 + 1) / 2 := Int.fdiv_eq_ediv_of_nonneg _ (by omega)
  unfold passI
  rw [e1, e2]
  split
  · dsimp only; refine ⟨by omega, by omega, by omega⟩
  · split
    · dsimp only; refine ⟨by omega, by omega, hl⟩
    · dsimp only; refine ⟨by omega, by omega, hl⟩
theorem pa_1 {p : Int × Str} (h : inNN p.2 = true) (h2 : Int.fmod p.1 2 = 1) : passI p = (Int.fdiv p.1 2, Str.ofString "\n") := by unfold passI; rw [if_pos ⟨h, h2⟩]
theorem pa_2 {p : Int × Str} (h : inNN p.2 = false ∨ Int.fmod p.1 2 ≠ 1) (h2 : inSet p.2 = true) : passI p = (Int.fdiv p.1 2, p.2) := by
  unfold passI; rw [if_neg, if_pos h2]
  rintro ⟨h3, h4⟩
  rcases h with h | h
  · rw [h] at h3; cases h3
  · exact h h4
theorem pa_3 {p : Int × Str} (h : inNN p.2 = false ∨ Int.fmod p.1 2 ≠ 1) (h2 : inSet p.2 = false) : passI p = (Int.fdiv (p.1 + 1) 2, p.2) := by
  unfold passI; rw [if_neg, if_neg (by rw [h2]; exact Bool.false_ne_true)]
  rintro ⟨h3, h4⟩
  rcases h with h | h
  · rw [h] at h3; cases h3
  · exact h h4
set_option maxHeartbeats 4000000 in
theorem passed_c (w : World) (mean : ExcName → Option Value) (mg mb : Str → Option Value) (v : Value) (ps : Prs) :
   CC2 w mean mg mb (.ref 373) [v] (fun news => PairsIn news v ps ∧ Bd7 ps) (fun news v news' => (∀ q ∈ news, q ∈ news') ∧ ∃ t', v = .str (textS (ps.map (passI))) t') := by
  unfold CC2
  k_fill
  w_top off
  intro dp un gd cn cs a ccd cl outer A₀ base h₀ L m news s Q E B F X N T hk hdp hun ⟨⟨l, vs, n, hv, hm, hP⟩, ⟨hb1, hb2⟩⟩ hret
  subst hv
  refine wpAny_call ?_
  k_dflt cell_enter
  k_steps
  show wpAny _ _ _ _ _ _
  rename Fr _ _ _ _ => lF
  rename News _ _ _ _ => lN
  rename (∀ p ∈ news, p.1 < _) => l1a
  refine for_pairs (n := n) (vs := vs) (ps := ps) (LJ (fun _ => True) (Str.ofString "passed") (passI) _ news) rfl lF lN ⟨_, [], 0, rfl, (fun q hq => Nat.ne_of_lt (l1a q hq)), sub_self, .nil, (by with_unfolding_all rfl), trivial⟩ ?hJ (fun Q' h => ld lF rfl h) (by rfl) (by rfl) (by rfl) ?turn ?done
  case hJ =>
    rintro pre m nw ⟨tl, vsR, nR, rfl, htl, hsub, hPR, hmr, hmt⟩
    exact ⟨List.mem_cons_of_mem _ (hsub _ hm), hP.mono fun q hq => List.mem_cons_of_mem _ (hsub q hq)⟩
  case done =>
    rintro m' nw h' tk F' N' ⟨tl, vsR, nR, rfl, htl, hsub, hPR, hmr, hmt⟩
    have F3 := fr_at F' hmr
    clear lF lN
    dsimp only
    k_steps
    show wpAny _ _ _ _ _ _
    refine (text_c w mean mg mb _ (ps.map (passI))).use (by assumption) (by assumption) (by assumption) (by assumption) (by assumption) (by rfl) (by ktr_room) (by ktr_units) ?hpre ?hret
    case hpre => exact ⟨⟨_, vsR, nR, rfl, List.mem_cons_self .., hPR.mono fun q hq => List.mem_cons_of_mem _ hq⟩, pass_bd ⟨hb1, hb2⟩⟩
    case hret =>
      rintro v h9 tk9 news9 F9 N9 ⟨rfl, t9, rfl⟩
      k_steps
      exact hret _ _ _ _ (by assumption) (by assumption) ⟨fun q hq => List.mem_cons_of_mem _ (hsub q hq), _, rfl⟩
  case turn =>
    rintro pre p post m₁ nw h tk I oI t1 t2 hps ⟨tl, vsR, nR, rfl, htl, hsub, hPR, hmr, hmt⟩ hoff F2 N2
    have F3 := fr_in1 F2 hmr
    obtain ⟨hp0, hp1, hp2⟩ := hb2 p (by rw [hps]; simp)
    clear F2 lF lN
    dsimp only
    have hDI : _ ≠ I := hoff _ (List.mem_cons_self ..)
    have hID := Ne.symm hDI
    have hvl : vsR.toArray.size ≤ sizeLine := by
      have h2 : pre.length ≤ ps.length := by rw [hps]; simp
      rw [sizeLine_eq, List.size_toArray, hPR.length, List.length_map]; omega
    k_steps
    all_goals try (show wpAny _ _ _ _ _ _)
    all_goals (rename Fr _ _ _ _ => lF; rename News _ _ _ _ => lN)
    all_goals (first
      | (refine append_K lF lN (upd_app (pre := [_, _, _]) (by intro q hq; simp only [List.mem_cons, List.not_mem_nil, or_false] at hq; rcases hq with rfl | rfl | rfl; (· k_ne); (· k_ne); (· exact hID)) htl) ?_ hvl; intro h9 F9 N9; (simp only [List.cons_append, List.nil_append] at N9); k_steps)
      | (refine append_K lF lN (upd_app (pre := [_, _, _, _]) (by intro q hq; simp only [List.mem_cons, List.not_mem_nil, or_false] at hq; rcases hq with rfl | rfl | rfl | rfl; (· k_ne); (· k_ne); (· k_ne); (· exact hID)) htl) ?_ hvl; intro h9 F9 N9; (simp only [List.cons_append, List.nil_append] at N9); k_steps))
    all_goals (rename Fr _ _ _ _ => lG; rename News _ _ _ _ => lM)
    all_goals (exact end_map lG lM (fun q hq => by simp only [List.mem_cons] at hq ⊢; rcases hq with h | h | h | h <;> simp [h]) hoff htl hsub (by k_ne) (by k_ne) hPR (by first
      | exact pa_1 (by assumption) (by assumption)
      | exact pa_2 (.inl (by assumption)) (by assumption)
      | exact pa_2 (.inr (by assumption)) (by assumption)
      | exact pa_3 (.inl (by assumption)) (by assumption)
      | exact pa_3 (.inr (by assumption)) (by assumption)) (by with_unfolding_all rfl) trivial)
end Mine
end
section
open PySem PySem.Spec PySem.W PyProof.Rows PyProof.Rows.LCg PyProof.Rows.LCp
set_option Elab.async false
set_option maxRecDepth 100000
namespace Mine
/-- a turn's end of a loop over values -/
def VTurn (h₀ : Heap) (L : Addr) (s : Shared) (J : (Str → Option Value) → Led → Prop) (I : Addr) (oI : Obj) (Q : Flow → Shared → Prop) (f : Flow) (s₂ : Shared) : Prop :=
  match f with
  | .ret v => Q (.ret v) s₂
  | .brk => Q .next s₂
  | _ => ∃ h' tk m' nw, s₂ = { s with heap := h', toks := tk } ∧ Fr h₀ L h' m' ∧ News h₀ L h' ((I, oI) :: nw) ∧ (∀ q ∈ nw, q.1 ≠ I) ∧ J m' nw
section
variable {prog : Program} {w : World} {A : Around} {E : Value → Shared → Prop} {Q : Flow → Shared → Prop} {s : Shared} {env : Env} {h₀ : Heap}
theorem for_vals {x1 : Str} {p1 pos : Pos} {iter : PySem.Expr} {body : List Stmt} {l : Addr} {n : Nat} {vs : List Value} {m : Str → Option Value} {news : Led} (J : List Value → (Str → Option Value) → Led → Prop)
    (hh : A.handled = none) (F : Fr h₀ env.locals s.heap m) (N : News h₀ env.locals s.heap news) (h0 : J [] m news)
    (hJ : ∀ pre m nw, J pre m nw → (l, listOf (List.toArray vs) n) ∈ nw)
    (hev : ∀ Q' : Value → Shared → Prop, Q' (.ref l) s → wpAny (model prog w) A (eval iter env) Q' E s)
    (hx1 : env.kindOf x1 = some .local)
    (hp : (env.scope.kind == .class || (env.scope.kind == .module && env.locals != env.globals)) = false)
    (turn : ∀ (pre : List Value) (p : Value) (post : List Value) (m₁ : Str → Option Value) (nw : Led) (h : Heap) (tk : Nat) (I : Addr) (oI : Obj), vs = pre ++ p :: post → J pre m₁ nw → (∀ q ∈ nw, q.1 ≠ I) →
      Fr h₀ env.locals h (fun y => if y = x1 then some p else m₁ y) → News h₀ env.locals h ((I, oI) :: nw) →
      wpAny (model prog w) A (execs body env) (VTurn h₀ env.locals s (J (pre ++ [p])) I oI Q) E { s with heap := h, toks := tk })
    (done : ∀ m' nw h' tk, Fr h₀ env.locals h' m' → News h₀ env.locals h' nw → J vs m' nw → Q .next { s with heap := h', toks := tk })
    (hs : ∀ x, foldedSetIterable iter env x = pure x := by intro _; rfl)
    (hE : PassesOwn (model prog w) A env E := by passes_own) :
    wpAny (model prog w) A (exec (.For (.Name x1 p1) iter body [] pos) env) Q E s := by
  refine wpAny_For (hev _ ?_) hs
  have hm0 := hJ _ _ _ h0
  have hl : s.heap.IsList l vs.toArray := ⟨_, (N _ hm0).1, rfl, _, rfl⟩
  have hlt : l < s.heap.objs.size := Heap.lt_size (N _ hm0).1
  have hne : l ≠ s.heap.objs.size := Nat.ne_of_lt hlt
  refine wpAny_pyIter_list hl ?_
  have W := Walks.list (prog := prog) (w := w) hh s.heap.objs.size l hne vs.toArray
  generalize hI : s.heap.objs.size = I at W hne ⊢
  have hIL : env.locals ≠ I := by rw [← hI]; exact Nat.ne_of_lt F.ns.lt
  have hI₀ : h₀.get? I = none := by rw [← hI]; exact next_is_new F
  have hsz : vs.toArray.size = vs.length := List.size_toArray
  rw [hsz] at W
  have hget : ∀ o : Obj, o.isFreed = false → (s.heap.push o).get? I = some o := fun o ho => by rw [← hI]; exact Heap.get?_push_size _ ho
  refine codeAny_forLoop_any (R := fun r s' => match r with | .ok f => Q f s' | .error e => cameBackBy (model prog w) A env E e s')
    (fun k s' => ∃ h' tk m' nw i, s' = { s with heap := h', toks := tk } ∧ (h'.IsListIter I l i ∧ h'.IsList l vs.toArray) ∧ Fr h₀ env.locals h' m' ∧ News h₀ env.locals h' nw ∧ (∀ q ∈ nw, q.1 ≠ I) ∧ J (vs.take i) m' nw ∧ i ≤ vs.length ∧ k = vs.length + 1 - i) ?_ (vs.length + 1)
    ⟨_, s.toks, m, news, 0, rfl, ⟨⟨_, hget _ rfl, rfl, rfl⟩, hl.push _⟩, F.push _, (fun p hp => ⟨Heap.get?_push_of_some _ (N p hp).1, (N p hp).2⟩), (fun q hq => by rw [← hI]; exact Nat.ne_of_lt (Heap.lt_size (N q hq).1)), h0, Nat.zero_le _, rfl⟩
  rintro k s' ⟨h', tk, m', nw, i, rfl, hst', F', N', hoff, hJ', hi, rfl⟩
  have next : ∀ h₁ : Heap, (∀ b o, b ∉ [I] → h'.get? b = some o → h₁.get? b = some o) → Fr h₀ env.locals h₁ m' ∧ News h₀ env.locals h₁ nw := fun h₁ hk₁ =>
    ⟨fr_but F' hk₁ hIL hI₀, news_but N' hk₁ hoff⟩
  by_cases hlt' : i < vs.length
  · refine W.item i _ _ _ hlt' hst' fun v h₁ tk₁ hPv hst₁ hk₁ => ?_
    obtain ⟨F₁, N₁⟩ := next h₁ hk₁
    have hm1 := hJ _ _ _ hJ'
    have hpi : vs[i]? = some v := by simpa using hPv
    refine wpAny_pure ?_
    refine wpAny_assign_Name (wpAny_storeName_local (s := { s with heap := h₁, toks := tk₁ }) hx1 F₁.ns (fun h₃ hn₃ hs₃ => ?_) hp)
    have old3 : ∀ b o, b ≠ env.locals → h₁.get? b = some o → h₃.get? b = some o := fun b o hb e => hs₃.extBut b o hb e
    have F₃ : Fr h₀ env.locals h₃ (fun y => if y = x1 then some v else m' y) := F₁.set hn₃ hs₃
    have hst₃ : h₃.IsListIter I l (i + 1) ∧ h₃.IsList l vs.toArray := by
      refine ⟨hst₁.1.at fun o e => old3 I o (Ne.symm hIL) e, hst₁.2.at fun o e => old3 l o ?_ e⟩
      exact (N' _ hm1).2.1
    obtain ⟨oI, heI, rI⟩ := id hst₃.1
    have N₃ : News h₀ env.locals h₃ ((I, oI) :: nw) := fun q hq => by
      rcases List.mem_cons.mp hq with rfl | hq
      · exact ⟨heI, Ne.symm hIL, hI₀⟩
      · exact ⟨old3 _ _ (N₁ q hq).2.1 (N₁ q hq).1, (N₁ q hq).2⟩
    have hs1 : vs.take (i + 1) = vs.take i ++ [v] := by simp [List.take_add_one, hpi]
    have e : vs = vs.take i ++ v :: vs.drop (i + 1) := by
      have ht := List.take_append_drop (i + 1) vs
      rw [hs1, List.append_assoc] at ht
      exact ht.symm
    refine wpAny_mono (wpAny_passesOwn hE (turn _ v _ m' nw h₃ _ I oI e hJ' hoff F₃ N₃)) (fun f s₃ h₃' => ?_) fun _ _ e => e
    cases f with
    | ret v => exact h₃'
    | brk => exact h₃'
    | cont =>
      obtain ⟨h₄, tk₄, m₄, nw₄, rfl, F₄, N₄, off₄, J₄⟩ := h₃'
      refine ⟨vs.length + 1 - (i + 1), by omega, h₄, tk₄, m₄, nw₄, i + 1, rfl, ⟨⟨oI, (N₄ _ (List.mem_cons_self ..)).1, rI⟩, ?_⟩, F₄, fun q hq => N₄ q (List.mem_cons_of_mem _ hq), off₄, by rw [hs1]; exact J₄, hlt', rfl⟩
      exact ⟨_, (N₄ _ (List.mem_cons_of_mem _ (hJ _ _ _ J₄))).1, rfl, _, rfl⟩
    | next =>
      obtain ⟨h₄, tk₄, m₄, nw₄, rfl, F₄, N₄, off₄, J₄⟩ := h₃'
      refine ⟨vs.length + 1 - (i + 1), by omega, h₄, tk₄, m₄, nw₄, i + 1, rfl, ⟨⟨oI, (N₄ _ (List.mem_cons_self ..)).1, rI⟩, ?_⟩, F₄, fun q hq => N₄ q (List.mem_cons_of_mem _ hq), off₄, by rw [hs1]; exact J₄, hlt', rfl⟩
      exact ⟨_, (N₄ _ (List.mem_cons_of_mem _ (hJ _ _ _ J₄))).1, rfl, _, rfl⟩
  · have hin : i = vs.length := by omega
    subst hin
    rw [List.take_length] at hJ'
    refine W.done _ _ _ hst' fun h₁ tk₁ hk₁ => wpAny_execs_nil ?_
    obtain ⟨F₁, N₁⟩ := next h₁ hk₁
    exact done m' nw h₁ tk₁ F₁ N₁ hJ'
end
end Mine
end
section
open PySem PySem.W PySem.Calls PyProof.Rows
set_option Elab.async false
set_option maxRecDepth 100000
namespace Mine
theorem inst_newsD {h₀ h : Heap} {L x C dx : Addr} {news : List (Addr × Obj)} {od : Obj} {da : Data} {sl : Array (Option Value)} (N : News h₀ L h news) (h1 : (x, (⟨.ref C, some dx, da, sl⟩ : Obj)) ∈ news) (h2 : (dx, od) ∈ news) (hn : notCls ⟨.ref C, some dx, da, sl⟩ = true) :
    InstAt h x ⟨.ref C, some dx, da, sl⟩ C (some od) := ⟨(N _ h1).1, rfl, hn, (N _ h2).1⟩

theorem my_wpAt_CallStar {M : Model} {A : Around} {c : Code} {E : Value → Shared → Prop} {s : Shared} {env : Env} {o : PySem.Expr} {name : Str} {apos pos : Pos} {args : List PySem.Expr} {kws : List Keyword} {Q : Value → Shared → Prop}
    (h : _root_.PySem.wpAt M A c (attributeBase o name env (eval o env)) (fun ov s₁ => wpAny M A (getAttr ov name true) (fun f s₂ => wpAny M A (callWith pos f [] (backTo pos (starEach args env)) (backToKw pos (keywordEach kws env))) Q E s₂) E s₁) E s)
    (he : eval (.Call (.Attribute o name apos) args kws pos) env = (do
      let ov ← attributeBase o name env (eval o env)
      standAt apos.atName
      let (f, first) ← holding [ov] (do pure (← getAttr ov name true, []))
      callWith pos f first (backTo pos (starEach args env)) (backToKw pos (keywordEach kws env))) := by rfl) :
    _root_.PySem.wpAt M A c (eval (.Call (.Attribute o name apos) args kws pos) env) Q E s := by
  rw [he]
  refine _root_.PySem.wpAt_bind (ks_wpAt_mono h (fun ov s₁ h₁ => wpAt_of_wpAny (wpAny_bind (wpAny_standAt (wpAny_bind (wpAny_holding (wpAny_bind (wpAny_mono h₁ (fun fx s₂ h₂ => wpAny_pure ?_) fun _ _ x => x))))))) fun _ _ x => x)
  exact h₂
theorem my_wpAny_CallStar {M : Model} {A : Around} {E : Value → Shared → Prop} {s : Shared} {env : Env} {o : PySem.Expr} {name : Str} {apos pos : Pos} {args : List PySem.Expr} {kws : List Keyword} {Q : Value → Shared → Prop}
    (h : wpAny M A (eval o env) (fun ov s₁ => wpAny M A (getAttr ov name true) (fun f s₂ => wpAny M A (callWith pos f [] (backTo pos (starEach args env)) (backToKw pos (keywordEach kws env))) Q E s₂) E s₁) E s)
    (he : eval (.Call (.Attribute o name apos) args kws pos) env = (do
      let ov ← eval o env
      standAt apos.atName
      let (f, first) ← holding [ov] (do pure (← getAttr ov name true, []))
      callWith pos f first (backTo pos (starEach args env)) (backToKw pos (keywordEach kws env))) := by rfl) :
    wpAny M A (eval (.Call (.Attribute o name apos) args kws pos) env) Q E s := by
  rw [he]
  refine wpAny_bind (wpAny_mono h (fun ov s₁ h₁ => (wpAny_bind (wpAny_standAt (wpAny_bind (wpAny_holding (wpAny_bind (wpAny_mono h₁ (fun fx s₂ h₂ => wpAny_pure ?_) fun _ _ x => x))))))) fun _ _ x => x)
  exact h₂
section
variable {prog : Program} {w : World} {M : Model} {A : Around} {E : Value → Shared → Prop} {h : Heap} {g : Array GenState} {d : Drawn} {t : Nat} {os : OsState}
theorem getAttr_super {so D x C f : Addr} {of : Obj} {l₀ l : List Value} {K : Frag} {name : Str} {expr : Bool} {Q : Value → Shared → Prop}
    (hso : h.get? so = some (ks_superObj D x C)) (hno : Looks (model prog w) h (opaqueClassAbove (.ref C)) none)
    (hC : Looks (model prog w) h (mroOf (.ref C)) l₀) (hl : (l₀.dropWhile (· != .ref D)).drop 1 = l) (X : K.In h)
    (hf : alongIn K name l = some (some (.ref f))) (hfo : h.get? f = some of) (hfc : of.cls = .type "function") (hxC : x ≠ C) (hn : (name == ("__class__" : Str)) = false)
    (hq : Q (.ref h.objs.size) ⟨h.push (methodObj (.ref f) (.ref x)), g, d, t + 1, os⟩) :
    wpAny (model prog w) A (getAttr (.ref so) name expr) Q E ⟨h, g, d, t, os⟩ := by
  have hlk := F.ks_slot_super_ga.lookup
  have hT : ∀ t', (⟨h, g, d, t', os⟩ : Shared).TypeIs (.ref so) "super" := fun _ => ⟨_, hso, rfl⟩
  unfold getAttr getAttrBy
  refine wpAny_bind (wpAny_mkText (wpAny_holding (wpAny_bind (wpAny_typeOf (hT _) (wpAny_bind (wpAny_of_eq hlk ?_))))))
  show wpAny _ _ (getAttrByItsOwn (.ref so) (.str name t) (.type "super") (.builtin "super.__getattribute__") true expr) _ _ _
  unfold getAttrByItsOwn hookBefore callGetattribute boundAndCalled
  rw [show (expr && onTheHeap (.builtin "super.__getattribute__")) = false by cases expr <;> rfl]
  rw [if_neg Bool.false_ne_true]
  refine wpAny_bind (wpAny_of_eq (show (if onTheHeap (.type "super") then typeLookup (.type "super") "__getattr__" else pure none) = pure none from rfl) ?_)
  refine wpAny_bind (wpAny_attempt (wpAny_holding ?_))
  show wpAny _ _ (bindSpecial (.builtin "super.__getattribute__") (.ref so) >>= _) _ _ _
  refine wpAny_bind (wpAny_of_eq (F.ks_slot_super_ga.bind _) ?_)
  refine wpAny_mono (Q := fun v s' => v = .ref h.objs.size ∧ s' = ⟨h.push (methodObj (.ref f) (.ref x)), g, d, t + 1, os⟩) (E := fun _ _ => False)
    (wpAny_call_entry F.ks_slot_super_ga (hT _) F.ks_entry_super_ga (ks_wpAny_super_ga hso hno hC hl X hf hfo hfc hxC hn ⟨_, rfl, rfl, rfl⟩) (F.ks_gaArgs_super _ _)) (fun v s' hv => ?_) fun _ _ z => z.elim
  obtain ⟨rfl, rfl⟩ := hv
  exact wpAny_pure hq
end
section
variable {prog : Program} {w : World} {A : Around} {E : Value → Shared → Prop} {s : Shared} {h₀ : Heap} {L : Addr} {m : Str → Option Value} {news : List (Addr × Obj)} {K : Frag} {x C D so f2 : Addr} {ox : Obj} {odx : Option Obj}
theorem my_super_attr {name : Str} {expr : Bool} {Q : Value → Shared → Prop} (F : Fr h₀ L s.heap m) (X₀ : K.In h₀) (N : News h₀ L s.heap news) (hso : (so, ks_superObj D x C) ∈ news) (I : InstAt s.heap x ox C odx) (ho : nsIn K cStatics "thirdparty.any" = some none)
    (hm : ks_superIn K C D name = some (some (.ref f2))) (ht : typeIn K (.ref f2) = some (.type "function")) (hn : (name == ("__class__" : Str)) = false)
    (h : ∀ q h', Fr h₀ L h' m → News h₀ L h' ((q, methodObj (.ref f2) (.ref x)) :: news) → (∀ p ∈ news, p.1 < q) → Q (.ref q) { s with heap := h', toks := s.toks + 1 }) : wpAny (model prog w) A (getAttr (.ref so) name expr) Q E s := by
  have X : K.In s.heap := X₀.keeps F.keep
  obtain ⟨hh, g, d, t, os⟩ := s
  cases hc : clsIn K C with
  | none => unfold ks_superIn at hm; rw [hc] at hm; cases hm
  | some cd =>
    unfold ks_superIn at hm
    rw [hc] at hm
    obtain ⟨of, hof, hofc⟩ : ∃ of, hh.get? f2 = some of ∧ of.cls = .type "function" := by
      have ht' : (K.lookup f2).map (·.cls) = some (.type "function") := ht
      cases z : K.lookup f2 with
      | none => rw [z] at ht'; cases ht'
      | some of => rw [z] at ht'; exact ⟨of, X _ _ z, Option.some.inj ht'⟩
    refine getAttr_super (N _ hso).1 (looks_opaque X ho) (l₀ := cd.mro) ?_ rfl X hm hof hofc (ks_ne X I hc) hn ?_
    · exact fun A Q E s k q => wpAny_bind ((looks_clsIn X hc) A _ E s k (wpAny_pure q))
    · obtain ⟨F', N', l'⟩ := ks_newsPush (s := ⟨hh, g, d, t, os⟩) (o := methodObj (.ref f2) (.ref x)) F N rfl (Heap.get?_push_at rfl rfl) (fun b o e => Heap.get?_push_of_some _ e)
      exact h _ _ F' N' l'
end

theorem callWith_mw0 {M : Model} {A : Around} {E : Value → Shared → Prop} {s : Shared} {h₀ : Heap} {L : Addr} {news : List (Addr × Obj)} {env : Env} {pos : Pos} {i : String} {q x : Addr} {first : List Value} {Q : Value → Shared → Prop} (N : News h₀ L s.heap news) (hq : (q, mwObj i x) ∈ news)
    (h : wpAny M A (call (.ref q) (first ++ [])) Q E s) : wpAny M A (callWith pos (.ref q) first (backTo pos (starEach [] env)) []) Q E s :=
  callWith_of (P := fun h => h.get? q = some (mwObj i x)) rfl (fun h hP => ⟨.machine, .inr (.inl rfl), fun A E Q s k hq' => wpAny_bind (wpAny_load (k _ _ hP) (by
    show wpAny _ _ (if (Value.type "method-wrapper" != Value.type "method") = true then _ else _) _ _ _
    rw [if_pos (by decide)]
    exact wpAny_pure hq'))⟩) (evalArgs_nil3 ⟨News.get N hq, h⟩)
end Mine
end
section
open PySem PySem.W PySem.Calls PyProof.Rows
set_option Elab.async false
set_option maxRecDepth 100000
namespace Mine
theorem slot_dict_ga : Slot "dict" "__getattribute__" "dict.__getattribute__" := .of (owner := "dict") (n := "__getattribute__") (by rw [typeLookup_type, builtinLookup_eq_fast]; kernel_rfl) (by decide +kernel) (by decide +kernel) (by decide +kernel)
  (by first | exact .inl (by decide +kernel) | exact .inr (by decide +kernel)) (by rw [isSubtype_type]; kernel_rfl)
theorem entry_dict_ga : entryFor table "dict.__getattribute__" = some Builtin.«object.__getattribute__» :=
  entryFor_alias (id' := "object.__getattribute__") (by rw [fastTable_eq_tree]; kernel_rfl) (by decide +kernel) (by decide +kernel) (by rw [fastTable_eq_tree]; kernel_rfl)
theorem args_dict_ga (a b : Value) : argsOk "dict.__getattribute__" ⟨[a, b], []⟩ := by unfold argsOk; kernel_rfl
theorem kind_dict_ga : builtinKind "dict.__getattribute__" = some .slot := by rw [builtinKind_eq_fast]; decide +kernel
theorem split_dict_ga : splitId "dict.__getattribute__" = some ("dict", "__getattribute__") := by decide +kernel
section
variable {prog : Program} {w : World} {A : Around} {E : Value → Shared → Prop} {s : Shared} {K : Frag} {x C f L : Addr} {ox : Obj} {od : Obj} {name : Str} {expr : Bool} {h₀ : Heap} {m : Str → Option Value} {news : List (Addr × Obj)} {es : List DictEntry} {n : Nat} {Q : Value → Shared → Prop}
/-- a bound method of a dict subclass's object -/
theorem my_attr_bound (F : Fr h₀ L s.heap m) (X₀ : K.In h₀) (N : News h₀ L s.heap news) (I : InstAt s.heap x ox C (some (dictOf es n))) (hga : findIn K (.ref C) "__getattribute__" = some (some (.builtin "dict.__getattribute__"))) (hk : findIn K (.ref C) "__getattr__" = some none)
    (hd : mroIn K C (.type "dict") = some true)
    (hh : hasDictIn K C = true) (ha : findIn K (.ref C) name = some (some (.ref f))) (hf : isFn K (.ref f) = true)
    (hgf : specialIn K (.ref f) "__get__" = some (some (.builtin "function.__get__"))) (ht : takesIn K (.ref f) = some false) (hc : copiedNames.contains name = false) (hl : getL name es = some none)
    (h : ∀ q h', Fr h₀ L h' m → News h₀ L h' ((q, methodObj (.ref f) (.ref x)) :: news) → (∀ p ∈ news, p.1 < q) → Q (.ref q) { s with heap := h', toks := s.toks + 1 }) : wpAny (model prog w) A (getAttr (.ref x) name expr) Q E s := by
  have X : K.In s.heap := X₀.keeps F.keep
  have hq := h s.heap.objs.size _ (F.push _) (N.push F _) fun p hp => Heap.lt_size (N p hp).1
  obtain ⟨hh0, g, d, t, os⟩ := s
  have L0 := I.type (M := model prog w)
  have L1 := looks_findIn (M := model prog w) X hga
  have L2 := looks_findIn (M := model prog w) X hk
  have L3 := looks_find (M := model prog w) X I (findObj_fn hh ha hgf ht hc (by show lookIn name (dictOf es n) = _; rw [lookIn_dict, hl]))
  have L4 : Looks (model prog w) hh0 (isInstance (.ref x) (.type "dict")) true := L0.andThen (looks_mroIn X hd)
  unfold getAttr getAttrBy
  refine wpAny_bind (wpAny_mkText (wpAny_holding (wpAny_bind (L0.at (wpAny_bind (L1.at ?_))))))
  show wpAny _ _ (getAttrByItsOwn (.ref x) (.str name t) (.ref C) (.builtin "dict.__getattribute__") true expr) _ _ _
  unfold getAttrByItsOwn hookBefore callGetattribute boundAndCalled
  rw [show (expr && onTheHeap (.builtin "dict.__getattribute__")) = false by cases expr <;> rfl]
  rw [if_neg Bool.false_ne_true]
  refine wpAny_bind (L2.at ?_)
  refine wpAny_bind (wpAny_attempt (wpAny_holding ?_))
  show wpAny _ _ (bindSpecial (.builtin "dict.__getattribute__") (.ref x) >>= _) _ _ _
  refine wpAny_bind (wpAny_of_eq (slot_dict_ga.bind _) ?_)
  refine wpAny_mono (Q := fun v s' => v = .ref hh0.objs.size ∧ s' = ⟨hh0.push (methodObj (.ref f) (.ref x)), g, d, t + 1, os⟩) (E := fun _ _ => False) ?_ (fun v s' hv => ?_) fun _ _ z => z.elim
  · refine wpAny_call ?_
    refine codeAny_call_builtin slot_dict_ga.plain entry_dict_ga ?_
    refine @check_slot (model prog w) _ _ ⟨hh0, g, d, t + 1, os⟩ "dict.__getattribute__" "dict" "__getattribute__" (.ref x) [.str name t] [] _ kind_dict_ga split_dict_ga L4 (args_dict_ga _ _) ?_
    unfold Builtin.«object.__getattribute__»
    refine wpAny_bind (wpAny_pure ?_)
    refine wpAny_bind (wpAny_pure ?_)
    refine wpAny_bind (L0.at ?_)
    refine wpAny_bind (L3.at ?_)
    show wpAny _ _ (holding [.ref f] (call (.builtin "function.__get__") [.ref f, .ref x, .ref C]) >>= ret) _ _ _
    refine wpAny_bind (wpAny_holding (wpAny_call (fn_get (s := ⟨hh0, g, d, t + 1, os⟩) X (beq_iff_eq.mp hf) ?_)))
    exact wpAny_pure ⟨rfl, rfl⟩
  · obtain ⟨rfl, rfl⟩ := hv
    exact wpAny_pure hq
end
end Mine
end
section
open PySem PySem.W PySem.Calls PyProof.Rows Builtin Builtin.ObjectAttr
set_option Elab.async false
set_option maxRecDepth 100000
namespace Mine
theorem slot_md_get : Slot "method_descriptor" "__get__" "method_descriptor.__get__" := .of (owner := "method_descriptor") (n := "__get__") (by rw [typeLookup_type, builtinLookup_eq_fast]; kernel_rfl) (by decide +kernel) (by decide +kernel) (by decide +kernel)
  (by first | exact .inl (by decide +kernel) | exact .inr (by decide +kernel)) (by rw [isSubtype_type]; kernel_rfl)
theorem md_noset : typeLookup (.type "method_descriptor") "__set__" = pure none := by rw [typeLookup_type, builtinLookup_eq_fast]; kernel_rfl
theorem md_nodel : typeLookup (.type "method_descriptor") "__delete__" = pure none := by rw [typeLookup_type, builtinLookup_eq_fast]; kernel_rfl
theorem entry_md_get : entryFor table "method_descriptor.__get__" = some Builtin.«method_descriptor.__get__» := entryFor_of_tree (by kernel_rfl)
theorem args_md_get (a b c : Value) : argsOk "method_descriptor.__get__" ⟨[a, b, c], []⟩ := by unfold argsOk; kernel_rfl
theorem kind_md_get : builtinKind "method_descriptor.__get__" = some .slot := by rw [builtinKind_eq_fast]; decide +kernel
theorem split_md_get : splitId "method_descriptor.__get__" = some ("method_descriptor", "__get__") := by decide +kernel
theorem sub_md : isSubtype (.type "method_descriptor") (.type "method_descriptor") = pure true := by rw [isSubtype_type]; kernel_rfl
theorem inst_md (M : Model) (h : Heap) : Looks M h (isInstance (.builtin "dict.items") (.type "method_descriptor")) true := by
  unfold isInstance
  exact (Looks.of_pure F.type_dict_items).andThen (Looks.of_pure sub_md)
abbrev bfObj (i : String) (x : Addr) : Obj := { cls := .type "builtin_function_or_method", dict := none, data := .fields #[.builtin i, .ref x], slots := #[] }
section
variable {prog : Program} {w : World} {M : Model} {A : Around} {E : Value → Shared → Prop} {h : Heap} {g : Array GenState} {d : Drawn} {t : Nat} {os : OsState}
theorem md_get {x : Addr} {n : Nat} {Q : Value → Shared → Prop} (hx : h.get? x = some (dictOf [] n))
    (hq : Q (.ref h.objs.size) ⟨h.push (bfObj "dict.items" x), g, d, t, os⟩) :
    wpAny (model prog w) A (call (.builtin "method_descriptor.__get__") [.builtin "dict.items", .ref x, .type "dict"]) Q E ⟨h, g, d, t, os⟩ := by
  refine wpAny_call ?_
  refine codeAny_call_builtin slot_md_get.plain entry_md_get ?_
  refine @check_slot (model prog w) _ _ ⟨h, g, d, t, os⟩ "method_descriptor.__get__" "method_descriptor" "__get__" (.builtin "dict.items") [.ref x, .type "dict"] [] _ kind_md_get split_md_get (inst_md _ _) (args_md_get _ _ _) ?_
  have e : ".".intercalate ("dict.items".cutAt '.').dropLast = "dict" := by decide +kernel
  have hsub' : Looks (model prog w) h (isSubtype (.type "dict") (.type (".".intercalate ("dict.items".cutAt '.').dropLast))) true := by rw [e]; exact Looks.of_pure isSubtype_dict_dict
  have hsub2 : Looks (model prog w) h (isSubtype (.type "dict") (.type "dict")) true := Looks.of_pure isSubtype_dict_dict
  have hc : Manifest.toldItsClass.contains "dict.items" = false := by decide +kernel
  unfold Builtin.«method_descriptor.__get__»
  repeat (first | simp only [hc, Bool.false_eq_true, if_false] | lk)
  all_goals exact hq
theorem find_items {x : Addr} {n : Nat} (hx : h.get? x = some (dictOf [] n)) : Looks (model prog w) h (find (.ref x) (.type "dict") "items") (.bind (.builtin "method_descriptor.__get__") (.builtin "dict.items")) := by
  have L1 : Looks (model prog w) h (typeLookup (.type "dict") "items") (some (.builtin "dict.items")) := Looks.of_pure F.slot_dict_items.lookup
  have L2 : Looks (model prog w) h (typeOf (.builtin "dict.items")) (.type "method_descriptor") := Looks.of_pure F.type_dict_items
  have L3 : Looks (model prog w) h (typeLookup (.type "method_descriptor") "__get__") (some (.builtin "method_descriptor.__get__")) := Looks.of_pure slot_md_get.lookup
  have L4 : Looks (model prog w) h (typeLookup (.type "method_descriptor") "__set__") none := Looks.of_pure md_noset
  have L5 : Looks (model prog w) h (typeLookup (.type "method_descriptor") "__delete__") none := Looks.of_pure md_nodel
  intro A Q E s k q
  obtain ⟨hh, g, d, t, os⟩ := s
  have hx' := k _ _ hx
  replace L1 := L1.keeps k
  replace L2 := L2.keeps k
  replace L3 := L3.keeps k
  replace L4 := L4.keeps k
  replace L5 := L5.keeps k
  unfold find
  repeat lk
  all_goals exact q
end

theorem sub_dict_module : isSubtype (.type "dict") (.type "module") = pure false := by rw [isSubtype_type]; kernel_rfl
theorem entry_hasattr : entryFor table "hasattr" = some Builtin.«hasattr» := entryFor_of_tree (by kernel_rfl)
theorem plain_hasattr : plainId "hasattr" = true := by decide +kernel
theorem kind_hasattr : builtinKind "hasattr" = none := by decide +kernel
theorem check_hasattr (a b : Value) : checkBuiltinCall "hasattr" ⟨[a, b], []⟩ = pure () := by kernel_rfl
section
variable {prog : Program} {w : World} {M : Model} {A : Around} {E : Value → Shared → Prop} {h : Heap} {g : Array GenState} {d : Drawn} {t : Nat} {os : OsState}
theorem getAttrBy_items {x : Addr} {n : Nat} {tk : Tok} {Q : Value → Shared → Prop} (hx : h.get? x = some (dictOf [] n)) (hq : Q (.ref h.objs.size) ⟨h.push (bfObj "dict.items" x), g, d, t, os⟩) :
    wpAny (model prog w) A (getAttrBy (.ref x) (.str "items" tk) false) Q E ⟨h, g, d, t, os⟩ := by
  have L0 : Looks (model prog w) h (typeOf (.ref x)) (.type "dict") := (Looks.ld hx).andThen .now
  have L1 : Looks (model prog w) h (typeLookup (.type "dict") "__getattribute__") (some (.builtin "dict.__getattribute__")) := Looks.of_pure slot_dict_ga.lookup
  have L4 : Looks (model prog w) h (isInstance (.ref x) (.type "dict")) true := L0.andThen (Looks.of_pure isSubtype_dict_dict)
  unfold getAttrBy
  refine wpAny_holding (wpAny_bind (L0.at (wpAny_bind (L1.at ?_))))
  show wpAny _ _ (getAttrByItsOwn (.ref x) (.str "items" tk) (.type "dict") (.builtin "dict.__getattribute__") false false) _ _ _
  unfold getAttrByItsOwn hookBefore callGetattribute boundAndCalled
  rw [show (false && onTheHeap (.builtin "dict.__getattribute__")) = false from rfl]
  rw [if_neg Bool.false_ne_true]
  refine wpAny_bind (wpAny_of_eq (show (if onTheHeap (.type "dict") then typeLookup (.type "dict") "__getattr__" else pure none) = pure none from rfl) ?_)
  refine wpAny_bind (wpAny_attempt (wpAny_holding ?_))
  show wpAny _ _ (bindSpecial (.builtin "dict.__getattribute__") (.ref x) >>= _) _ _ _
  refine wpAny_bind (wpAny_of_eq (slot_dict_ga.bind _) ?_)
  refine wpAny_mono (Q := fun v s' => v = .ref h.objs.size ∧ s' = ⟨h.push (bfObj "dict.items" x), g, d, t, os⟩) (E := fun _ _ => False) ?_ (fun v s' hv => ?_) fun _ _ z => z.elim
  · refine wpAny_call ?_
    refine codeAny_call_builtin slot_dict_ga.plain entry_dict_ga ?_
    refine @check_slot (model prog w) _ _ ⟨h, g, d, t, os⟩ "dict.__getattribute__" "dict" "__getattribute__" (.ref x) [.str "items" tk] [] _ kind_dict_ga split_dict_ga L4 (args_dict_ga _ _) ?_
    unfold Builtin.«object.__getattribute__»
    refine wpAny_bind (wpAny_pure ?_)
    refine wpAny_bind (wpAny_pure ?_)
    refine wpAny_bind (L0.at ?_)
    refine wpAny_bind ((find_items hx).at ?_)
    show wpAny _ _ (holding [.builtin "dict.items"] (call (.builtin "method_descriptor.__get__") [.builtin "dict.items", .ref x, .type "dict"]) >>= ret) _ _ _
    refine wpAny_bind (wpAny_holding (md_get hx ?_))
    exact wpAny_pure ⟨rfl, rfl⟩
  · obtain ⟨rfl, rfl⟩ := hv
    exact wpAny_pure hq
theorem hasattr_items {x : Addr} {n : Nat} {tk : Tok} {Q : Value → Shared → Prop} (hx : h.get? x = some (dictOf [] n)) (hq : Q (.bool true) ⟨h.push (bfObj "dict.items" x), g, d, t, os⟩) :
    wpAny (model prog w) A (call (.builtin "hasattr") [.ref x, .str "items" tk]) Q E ⟨h, g, d, t, os⟩ := by
  have L0 : Looks (model prog w) h (typeOf (.ref x)) (.type "dict") := (Looks.ld hx).andThen .now
  have L1 : Looks (model prog w) h (typeLookup (.type "dict") "items") (some (.builtin "dict.items")) := Looks.of_pure F.slot_dict_items.lookup
  have L2 : Looks (model prog w) h (typeLookup (.type "dict") "__getattribute__") (some (.builtin "dict.__getattribute__")) := Looks.of_pure slot_dict_ga.lookup
  have L3 : Looks (model prog w) h (isSubtype (.type "dict") (.type "module")) false := Looks.of_pure sub_dict_module
  refine wpAny_call (codeAny_call_builtin plain_hasattr entry_hasattr (wpAny_of_eq (check_hasattr _ _) ?_))
  unfold Builtin.«hasattr» getAttrBy?
  repeat (first | (with_reducible refine getAttrBy_items hx ?_) | (with_reducible refine wpAny_attempt ?_) | lk)
  all_goals exact hq
end

def ApartOf (I : Addr) (news : List (Addr × Obj)) : Prop := ∀ p ∈ news, p.1 ≠ I
abbrev itObj (d : Addr) (n : Nat) : Obj := { cls := .type "dict_itemiterator", dict := none, data := .fields #[.none, .bool false, .ref d, .int 0 0, .int 0 0, .int n 0, .none, .none], slots := #[] }
abbrev viewObj (d : Addr) : Obj := { cls := .type "dict_items", data := .fields #[.ref d] }
section
variable {prog : Program} {w : World} {A : Around} {E : Value → Shared → Prop} {s : Shared} {h₀ : Heap} {L : Addr} {m : Str → Option Value} {news : List (Addr × Obj)}
theorem isDictOf_nil {o : Obj} (hd : o.IsDictOf (PySem.strKind prog w) []) : ∃ n, o = dictOf [] n := by
  obtain ⟨es, ep, ⟨h1, h2, h3⟩, h4, h5, h6, h7⟩ := hd
  obtain ⟨oc, od, odt, osl⟩ := o
  dsimp only at h1 h2 h3 h4
  subst h1 h2 h3 h4
  have : es.toList = [] := by
    generalize es.toList = l at h6
    cases h6
    rfl
  have : es = #[] := Array.toList_inj.mp (by rw [this])
  subst this
  exact ⟨ep, rfl⟩
theorem my_hasattr {x : Addr} {n : Nat} {tk : Tok} {Q : Value → Shared → Prop} (F : Fr h₀ L s.heap m) (N : News h₀ L s.heap news) (hx : (x, dictOf [] n) ∈ news)
    (h : ∀ h', Fr h₀ L h' m → News h₀ L h' news → Q (.bool true) { s with heap := h' }) : wpAny (model prog w) A (call (.builtin "hasattr") [.ref x, .str "items" tk]) Q E s := by
  obtain ⟨hh, g, d, t, os⟩ := s
  exact hasattr_items (N _ hx).1 (h _ (F.push _) (fun q hq => ⟨Heap.get?_push_of_some _ (N q hq).1, (N q hq).2⟩))
theorem dictAt_nil {h : Heap} {d : Addr} {n : Nat} (hd : h.get? d = some (dictOf [] n)) : h.DictAt (PySem.strKind prog w) d [] n :=
  ⟨_, #[], hd, ⟨rfl, rfl, rfl⟩, rfl, fun e he => by simp at he, Pairs.nil, List.nodup_nil⟩
theorem my_iter_view {v d : Addr} {n : Nat} {Q : Value → Shared → Prop} (F : Fr h₀ L s.heap m) (N : News h₀ L s.heap news) (hv : (v, viewObj d) ∈ news) (hd : (d, dictOf [] n) ∈ news)
    (h : ∀ I h', Fr h₀ L h' m → News h₀ L h' ((I, itObj d n) :: news) → (∀ p ∈ news, p.1 < I) → ApartOf I news → Q (.ref I) { s with heap := h' }) : wpAny (model prog w) A (call (.builtin "iter") [.ref v]) Q E s := by
  refine call_function_entry (by decide +kernel) (by decide +kernel) kdk_entry_iter (kdk_args_iter _) ?_
  unfold Builtin.«iter»
  refine wpAny_bind (m := someArgs "iter" 1 2 _) (wpAny_of_eq (a := [Value.ref v]) (by first | rfl | kernel_rfl!) ?_)
  show wpAny _ _ (pyIter (.ref v) >>= _) _ _ _
  refine wpAny_bind (wpAny_pyIter_items (knd := PySem.strKind prog w) ⟨_, (N _ hv).1, rfl, rfl⟩ (dictAt_nil (N _ hd).1) ?_)
  exact wpAny_pure ⟨_, rfl, h _ _ (F.push _) (News.push F N _ rfl) (fun q hq => Heap.lt_size (N q hq).1) (fun q hq => Nat.ne_of_lt (Heap.lt_size (N q hq).1))⟩
end
section
variable {prog : Program} {w : World} {A : Around} {E : Value → Shared → Prop} {s : Shared} {h₀ : Heap} {m : Str → Option Value} {news : List (Addr × Obj)} {env : Env} {target iter : PySem.Expr} {body : List Stmt} {pos : Pos} {Q : Flow → Shared → Prop}
theorem loop_items_empty {it d : Addr} {n : Nat} (hh : A.handled = none) (F : Fr h₀ env.locals s.heap m) (N : News h₀ env.locals s.heap ((it, itObj d n) :: news)) (hd : (d, dictOf [] n) ∈ news) (hap : ∀ p ∈ news, p.1 ≠ it)
    (h : ∀ h' tk, Fr h₀ env.locals h' m → News h₀ env.locals h' news → Q .next { s with heap := h', toks := tk }) :
    codeAny (model prog w) A (.forLoop target (.ref it) body [] env) (fun r s' => match r with | .ok f => Q f s' | .error e => cameBackBy (model prog w) A env E e s') s := by
  refine codeAny_forLoop_any (fun k s' => s' = s) ?_ 0 rfl
  rintro k s' rfl
  refine wpAny_pyNext_items_end (knd := PySem.strKind prog w) (kvs := []) (i := 0) (ep := n) (ok := .none) (ov := .none) (d := d) hh (N _ (.head _)).1 (dictAt_nil (N _ (.tail _ hd)).1) rfl fun h' hx => ?_
  dsimp only
  refine wpAny_execs_nil ?_
  have keep : ∀ b o, b ≠ it → s'.heap.get? b = some o → h'.get? b = some o := fun b o hb e => hx b o hb e
  obtain ⟨oL, es, ep, hL, r⟩ := F.ns
  refine h h' s'.toks ⟨⟨oL, es, ep, keep _ _ (Ne.symm (N _ (.head _)).2.1) hL, r⟩, fun b o e => keep b o ?_ (F.keep b o e), F.above⟩ (fun q hq => ⟨keep _ _ (hap q hq) (N q (.tail _ hq)).1, (N q (.tail _ hq)).2⟩)
  rintro rfl
  rw [(N _ (.head _)).2.2] at e; cases e
/-- for .. in it: it an item iterator of an empty dict -/
theorem for_iter_empty {it d : Addr} {n : Nat} (hh : A.handled = none) (F : Fr h₀ env.locals s.heap m) (N : News h₀ env.locals s.heap ((it, itObj d n) :: news)) (hd : (d, dictOf [] n) ∈ news) (hap : ApartOf it news)
    (hev : ∀ Q' : Value → Shared → Prop, Q' (.ref it) s → wpAny (model prog w) A (eval iter env) Q' E s)
    (h : ∀ h' tk, Fr h₀ env.locals h' m → News h₀ env.locals h' news → Q .next { s with heap := h', toks := tk })
    (hs : ∀ x, foldedSetIterable iter env x = pure x := by intro _; rfl) :
    wpAny (model prog w) A (exec (.For target iter body [] pos) env) Q E s :=
  wpAny_For (hev _ (kcp_self (N _ (.head _)).1 (loop_items_empty hh F N hd hap h))) hs
/-- for .. in v: v an items view of an empty dict -/
theorem for_view_empty {h₁ : Heap} {m₁ : Str → Option Value} (_ : Fr h₀ env.locals h₁ m₁) (hh : A.handled = none)
    (hev : wpAny (model prog w) A (eval iter env) (fun v s₁ => ∃ va d n m news, v = .ref va ∧ Fr h₀ env.locals s₁.heap m ∧ News h₀ env.locals s₁.heap news ∧ (va, viewObj d) ∈ news ∧ (d, dictOf [] n) ∈ news ∧
      ∀ h' tk, Fr h₀ env.locals h' m → News h₀ env.locals h' news → Q .next { s₁ with heap := h', toks := tk }) E s)
    (hs : ∀ x, foldedSetIterable iter env x = pure x := by intro _; rfl) :
    wpAny (model prog w) A (exec (.For target iter body [] pos) env) Q E s := by
  refine wpAny_For (wpAny_mono hev (fun v s₁ hv => ?_) fun _ _ e => e) hs
  obtain ⟨va, d, n, m, news, rfl, F, N, hv, hd, h⟩ := hv
  refine wpAny_pyIter_items (knd := PySem.strKind prog w) ⟨_, (N _ hv).1, rfl, rfl⟩ (dictAt_nil (N _ hd).1) ?_
  exact loop_items_empty (s := { s₁ with heap := s₁.heap.push (itObj d n) }) hh (F.push _) (News.push F N _ rfl) hd (fun q hq => Nat.ne_of_lt (Heap.lt_size (N q hq).1)) h
end
end Mine
end
section
open PySem PySem.W PyProof.Rows PyProof.Rows.LCg PyProof.Rows.LCp
set_option Elab.async false
set_option maxRecDepth 100000
namespace Mine
local macro_rules | `(tactic| walk_at "own MC8 0") => `(tactic| (refine' kps_both (vs := []) (front := [(("self" : Str), Value.ref _)]) (ex := []) (nr := "args") (nm := "kwargs") ?k1 ?k2 ?k3 ?k4 ?k5 ?kA ?kF ?kK ?k6 ?k7 ?k8 ?kN ?kP ?kS ?kT ?kB ?_ ?c2 ?c3 ?c4 ?c5; (case kA => exact rfl); (case kF => exact rfl); (case kK => first | assumption | exact rfl); (case k1 => k_asm); (case k2 => k_asm); (case k3 => k_asm); (case k4 => k_asm); (case k5 => k_asm); (case k6 => k_is); (case k7 => k_is); (case k8 => k_room); (case kN => exact rfl); (case kP => exact rfl); (case kS => exact fun _ => rfl); (case kT => exact fun _ _ => rfl); (case kB => exact fun _ _ => locs rfl); (case c5 => decide); (case c2 => exact rfl); (case c3 => exact rfl); (case c4 => exact rfl); intro C' D' g' L' h' tk' l1 l2 hs' FG' F' N' B' X' T'; (try k_lt l1); (try k_lt2 l2); (try dsimp only [List.reverse_cons, List.reverse_nil, List.nil_append, List.cons_append, List.append_nil, List.length_nil, Nat.zero_add, Nat.add_zero, kwEs] at F' N'); (try dsimp only); (try k_lift B')))
local macro_rules | `(tactic| k_room) => `(tactic| ktr_room)
local macro_rules | `(tactic| k_mem) => `(tactic| ((repeat (first | assumption | refine List.mem_cons_of_mem _ ?_)); done))
local macro_rules | `(tactic| k_inst) => `(tactic| (refine' inst_newsD ?N ?h1 ?h2 ?h3; (case N => k_asm); (case h1 => k_mem); (case h2 => k_mem); (case h3 => rfl)))
local macro_rules | `(tactic| walk_at "subscriptTail Name Slice ref ref") => `(tactic| (k_here; (with_reducible show wpAny _ _ (subscriptTail _ (PySem.Expr.Slice _ _ none _) (Value.ref _) (Value.ref _)) _ _ _); k_dflt (refine' my_tup_from (a := 1) ?e ?F ?N ?l ?p ?q ?z ?_; (case e => rfl); (case F => k_asm); (case N => k_asm); (case l => k_mem); (case p => decide); (case q => decide); (case z => decide)); intro D' h' F' N' l1; (try k_lt l1); (try dsimp only [List.drop] at N')))
local macro_rules | `(tactic| walk_at "exec Assign cons DictComp") => `(tactic| (k_here; k_dflt (refine' my_empty_dictcomp (by k_asm) (modules_low (Top.nolimit (by k_asm))) ?h ?hsw ?hL ?hh ?hclos ?hcell ?hkind ?hnames ?hy ?hp ?hs; (case hsw => with_unfolding_all rfl); (case hL => with_unfolding_all rfl); (case hh => with_unfolding_all rfl); (case hclos => with_unfolding_all rfl); (case hcell => decide); (case hkind => with_unfolding_all rfl); (case hnames => decide); (case hy => with_unfolding_all rfl); (case hp => with_unfolding_all rfl); (case hs => intro _; with_unfolding_all rfl))))
local macro_rules | `(tactic| walk_at "Exists") => `(tactic| (k_dflt (refine ⟨_, _, rfl, ⟨_, (News.get (by k_asm) (List.mem_cons_self ..)), rfl, _, rfl⟩, by k_asm, by k_asm, ?_⟩); intro D' h' tk' F' N' lD' lS'; (try k_lt lD')))
local macro_rules | `(tactic| walk_at "wpAt") => `(tactic| (dsimp only; ks_step "execs cons"; refine ks_wpAt_execs_cons ?_))
local macro_rules | `(tactic| walk_at "wpAt") => `(tactic| k_dflt (ks_step "exec Expr"; refine ks_wpAt_Expr_any ?_))
local macro_rules | `(tactic| walk_at "wpAt") => `(tactic| k_dflt (ks_step "exec Assign"; first | refine ks_wpAt_Assign_Name ?_ | refine ks_wpAt_Assign_Attr ?_))
local macro_rules | `(tactic| walk_at "wpAt") => `(tactic| k_dflt (ks_step "eval Call"; first | refine ks_wpAt_MethodCall ?_ | refine my_wpAt_CallStar (kws := _ :: _) ?_))
local macro_rules | `(tactic| walk_at "wpAt") => `(tactic| (ks_step "attributeBase Call"; k_here; k_dflt (refine my_node (by k_asm) (by k_asm) (by k_asm) (by k_asm) (by rfl) (by k_is) (by rfl) (by rfl) (by k_inst) (by k_is) (by rfl) (by first | rfl | decide +kernel) (by k_is) (by k_is) (by k_is) (by k_is) (by decide) (by rfl) (by rfl) (by rfl) (by rfl) (by decide +kernel) (by first | boot_by_name | rfl | kernel_rfl) ?_; intro so' h' F' N' l1; (try k_lt l1))))
local macro_rules | `(tactic| walk_at "exec For") => `(tactic| refine Held.out ?_)
local macro_rules | `(tactic| walk_at "call builtin:hasattr") => `(tactic| (k_here; k_dflt (refine' my_hasattr ?k1 ?k2 ?k3 ?_; (case k1 => k_asm); (case k2 => k_asm); (case k3 => k_mem); intro h' F' N')))
local macro_rules | `(tactic| walk_at "call builtin:iter") => `(tactic| (k_here; k_dflt (refine' my_iter_view ?k1 ?k2 ?k3 ?k4 ?_; (case k1 => k_asm); (case k2 => k_asm); (case k3 => k_mem); (case k4 => k_mem); intro I' h' F' N' l1 l9; (try k_lt l1))))
local macro_rules | `(tactic| walk_at "VTurn") => `(tactic| refine Held.out ?_)
local macro_rules | `(tactic| walk_at "getMethod ref") => `(tactic| (k_here; ks_any; k_dflt (refine' my_super_init ?k1 ?k2 ?k3 ?k4 ?k5 ?k6 ?k7 ?k8 ?_; (case k1 => k_asm); (case k2 => k_asm); (case k3 => k_asm); (case k4 => k_mem); (case k5 => k_inst); (case k6 => k_is); (case k7 => ks_is); (case k8 => k_is); intro q' h' F' N' l1; (try k_lt l1))))
local macro_rules | `(tactic| walk_at "getAttr ref") => `(tactic| (k_here; ks_any; k_dflt (refine' my_super_attr ?k1 ?k2 ?k3 ?k4 ?k5 ?k6 ?k7 ?k8 ?k9 ?_; (case k1 => k_asm); (case k2 => k_asm); (case k3 => k_asm); (case k4 => k_mem); (case k5 => k_inst); (case k6 => k_is); (case k7 => ks_is); (case k8 => k_is); (case k9 => decide); intro q' h' F' N' l1; (try k_lt l1))))
local macro_rules | `(tactic| walk_at "getAttr ref") => `(tactic| (k_here; k_dflt (refine' my_attr_bound (es := []) (n := 0) ?k1 ?k2 ?k3 ?k4 ?k5 ?k6 ?k7 ?k8 ?k9 ?k10 ?k11 ?k12 ?k13 ?k14 ?_; (case k4 => k_inst); (case k1 => k_asm); (case k2 => k_asm); (case k3 => k_asm); (case k5 => k_is); (case k6 => k_is); (case k7 => k_is); (case k8 => k_is); (case k9 => k_is); (case k10 => k_is); (case k11 => k_is); (case k12 => k_is); (case k13 => decide +kernel); (case k14 => k_get)); intro q' h' F' N' l1; (try k_lt l1)))
local macro_rules | `(tactic| walk_at "eval Call Attribute") => `(tactic| (k_here; (with_reducible show wpAny _ _ (eval (PySem.Expr.Call (PySem.Expr.Attribute _ _ _) (PySem.Expr.Starred _ _ :: _) (_ :: _) _) _) _ _ _); k_dflt (refine my_wpAny_CallStar ?_)))
local macro_rules | `(tactic| walk_at "call ref") => `(tactic| (k_here; k_dflt (refine' my_call_mw ?k1 ?k2 ?k3 ?k4 ?k5 ?k6 ?_; (case k1 => k_asm); (case k2 => k_asm); (case k3 => k_asm); (case k4 => k_mem); (case k5 => k_inst); (case k6 => k_is))))
local macro_rules | `(tactic| walk_at "call ref") => `(tactic| (k_here; k_dflt (refine' call_meth ?k1 ?k2 ?_; (case k1 => k_asm); (case k2 => k_mem); walk_at "own MC8 0")))
local macro_rules | `(tactic| walk_at "callWith ref") => `(tactic| (k_here; k_dflt (refine' callWith_mw0 ?k1 ?k2 ?_; (case k1 => k_asm); (case k2 => k_mem); (try dsimp only [List.nil_append]))))
local macro_rules | `(tactic| walk_at "callWith ref") => `(tactic| (k_here; (with_reducible show wpAny _ _ (callWith _ (Value.ref _) _ (backTo _ (starEach [PySem.Expr.Starred _ _] _)) (backToKw _ (keywordEach [_] _))) _ _ _); k_dflt (refine' callWith_SS (vs := []) ?k1 ?k2 ?k3 ?k4 ?k5 ?k6 ?kL ?kx ?ky ?_; (case k1 => k_asm); (case k2 => k_asm); (case kx => intro QA sA FA NA hA; first | exact nameX_L FA rfl hA | exact ld FA rfl hA); (case ky => intro QA sA FA NA hA; first | exact nameX_L FA rfl hA | exact nameX_C NA (by rfl) (by k_mem) (by assumption) hA); (case k3 => k_mem); (case k4 => decide); (case k5 => k_mem); (case k6 => k_asm); (case kL => first | (intro hA FA NA; refine' keeps_K ?kLa hA ?kLb; (case kLb => exact Frag.In.keeps (by k_asm) (Fr.keep FA)); (case kLa => k_is)) | (intro hA FA NA; refine' keeps_M ?kLa hA ⟨News.get NA ?kLc, ?kLb⟩; (case kLc => k_mem); (case kLb => exact Frag.In.keeps (by k_asm) (Fr.keep FA)); (case kLa => k_is))); intro h' F' N'; (try dsimp only [List.nil_append, List.cons_append, List.append_nil]))))
abbrev pObj (dx : Addr) : Obj := { cls := .ref 279, dict := some dx, data := .dict #[] }
/-- a def's contract, told of its code -/
def CA2 (d u : Nat) (w : World) (mean : ExcName → Option Value) (mg mb : Str → Option Value) (f : Value) (vs : List Value) (Pre : Led → Prop) (Post : Led → Value → Led → Prop) : Prop :=
  ∀ (dp un : Nat) (gd : Option (List Code)) (cn : Str) (cs : Scope) (a : Addr) (ccd : Value) (cl : List (Str × Addr)) (outer : List Env) (A₀ : Around) (base h₀ : Heap) (L : Addr) (m : Str → Option Value) (news : Led) (s : Shared) (R : Result → Shared → Prop),
    Below A₀ base outer h₀ → Fr h₀ L s.heap m → Frag.In (Mine.hd.heap_39 w.params) h₀ → News h₀ L s.heap news → TopL mean mg mb h₀ → cs.kind = .function → dp + d < recursionLimit → un + u < cLine → Pre news →
    (∀ (v : Value) (h' : Heap) (tk' : Nat) (news' : Led), Fr h₀ L h' m → News h₀ L h' news' → Post news v news' → R (.ok (.ret v)) { s with heap := h', toks := tk' }) →
    codeAny (model PySem.Challenge.rw_fc0078_01.row.toRowW.prog w) (ktrTop dp un gd cn cs L a ccd cl outer) (.call f ⟨vs, []⟩) R s
theorem CA2.use {d u : Nat} {w : World} {mean : ExcName → Option Value} {mg mb : Str → Option Value} {f : Value} {vs : List Value} {Pre : Led → Prop} {Post : Led → Value → Led → Prop} (h : CA2 d u w mean mg mb f vs Pre Post)
    {dp un : Nat} {gd : Option (List Code)} {cn : Str} {cs : Scope} {a : Addr} {ccd : Value} {cl : List (Str × Addr)} {outer : List Env} {A₀ : Around} {base h₀ : Heap} {L : Addr} {m : Str → Option Value} {news : Led} {s : Shared} {R : Result → Shared → Prop}
    (B : Below A₀ base outer h₀) (F : Fr h₀ L s.heap m) (X : Frag.In (Mine.hd.heap_39 w.params) h₀) (N : News h₀ L s.heap news) (T : TopL mean mg mb h₀) (hk : cs.kind = .function) (hdp : dp + d < recursionLimit) (hun : un + u < cLine) (hpre : Pre news)
    (hret : ∀ (v : Value) (h' : Heap) (tk' : Nat) (news' : Led), Fr h₀ L h' m → News h₀ L h' news' → Post news v news' → R (.ok (.ret v)) { s with heap := h', toks := tk' }) :
    codeAny (model PySem.Challenge.rw_fc0078_01.row.toRowW.prog w) (ktrTop dp un gd cn cs L a ccd cl outer) (.call f ⟨vs, []⟩) R s :=
  h dp un gd cn cs a ccd cl outer A₀ base h₀ L m news s R B F X N T hk hdp hun hpre hret
set_option maxHeartbeats 8000000 in
theorem cinit_c (w : World) (mean : ExcName → Option Value) (mg mb : Str → Option Value) (x dx : Addr) :
   CA2 8 64 w mean mg mb (.ref 84) [.ref x] (fun news => (x, pObj dx) ∈ news ∧ (dx, dictOf [] 0) ∈ news) (fun news v news' => v = .none ∧ (∀ q ∈ news, q ∈ news')) := by
  unfold CA2
  k_fill
  w_top off
  intro dp un gd cn cs a ccd cl outer A₀ base h₀ L m news s R B F X N T hk hdp hun ⟨hx1, hx2⟩ hret
  (refine' kps_both (vs := []) (front := [(("self" : Str), Value.ref x)]) (ex := []) (nr := "args") (nm := "kwargs") ?k1 ?k2 ?k3 ?k4 ?k5 ?kA ?kF ?kK ?k6 ?k7 ?k8 ?kN ?kP ?kS ?kT ?kB ?_ ?c2 ?c3 ?c4 ?c5; (case kA => exact rfl); (case kF => exact rfl); (case kK => first | assumption | exact rfl); (case k1 => k_asm); (case k2 => k_asm); (case k3 => k_asm); (case k4 => k_asm); (case k5 => k_asm); (case k6 => k_is); (case k7 => k_is); (case k8 => k_room); (case kN => exact rfl); (case kP => exact rfl); (case kS => exact fun _ => rfl); (case kT => exact fun _ _ => rfl); (case kB => exact fun _ _ => locs rfl); (case c5 => decide); (case c2 => exact rfl); (case c3 => exact rfl); (case c4 => exact rfl); intro C' D' g' L' h' tk' l1 l2 hs' FG' F' N' B' X' T'; (try k_lt l1); (try k_lt2 l2); (try dsimp only [List.reverse_cons, List.reverse_nil, List.nil_append, List.cons_append, List.append_nil, List.length_nil, Nat.zero_add, Nat.add_zero, kwEs] at F' N'); (try dsimp only); (try k_lift B'))
  have lo' : (dictOf [] 0).IsDictOf (PySem.strKind PySem.Challenge.rw_fc0078_01.row.toRowW.prog w) [] := kp_isDict (ex := []) 0 0 List.nodup_nil
  have fs' : PyProof.V.FlatPairs PySem.PyData.str ([] : List (Str × Value)) [] := .nil
  k_steps
  show wpAny _ _ _ _ _ _
  clear lo' fs'
  rename Obj.IsDictOf _ _ _ => lX
  obtain ⟨nD, hnD⟩ := isDictOf_nil lX
  subst hnD
  rename Fr _ _ _ _ => lF
  rename News _ _ _ _ => lN
  refine' for_vals (vs := [_]) (n := 0) (fun pre m nw => nw = _ ∧ (pre = [] → m = _)) rfl lF lN ⟨rfl, fun _ => rfl⟩ ?hJ (fun Q' h => ld lF rfl h) (by rfl) (by rfl) ?turn ?done
  case hJ =>
    rintro pre m nw ⟨rfl, _⟩
    exact List.mem_cons_self ..
  case done =>
    rintro m' nw h' tk F' N' ⟨rfl, _⟩
    clear lF lN
    dsimp only
    k_steps
    exact hret _ _ _ _ (by assumption) (cb_drop (by assumption) fun q hq => by simp only [List.mem_cons]; simp only [hq, or_true]) ⟨rfl, sub_self⟩
  case turn =>
    rintro pre p post m₁ nw h tk I oI hps ⟨rfl, hm⟩ hoff F2 N2
    have hp1 : pre = [] := by cases pre with | nil => rfl | cons a b => simp at hps
    subst hp1
    have hm1 := hm rfl
    subst hm1
    simp only [List.nil_append, List.cons.injEq] at hps
    obtain ⟨rfl, hpost⟩ := hps
    clear lF lN hpost hm
    dsimp only
    k_steps
    show wpAny _ _ _ _ _ _
    rename Fr _ _ _ _ => lF
    rename News _ _ _ _ => lN
    refine' for_iter_empty rfl lF lN ?hd (by assumption) (fun Q' h => ld lF rfl h) ?_
    case hd => k_mem
    intro h' tk' F' N'
    clear lF lN
    dsimp only
    k_steps
    exact ⟨_, _, _, _, rfl, by assumption, cb_drop (by assumption) (fun q hq => List.mem_cons_of_mem _ hq), hoff, rfl, fun h => by simp at h⟩
end Mine
end
section
open PySem PySem.W PyProof.Rows PyProof.Rows.LCg PyProof.Rows.LCp
set_option Elab.async false
set_option maxRecDepth 100000
namespace Mine
local macro_rules | `(tactic| walk_at "own MC9 0") => `(tactic| (refine' kps_both (vs := []) (front := [(("self" : Str), Value.ref _)]) (ex := []) (nr := "args") (nm := "kwargs") ?k1 ?k2 ?k3 ?k4 ?k5 ?kA ?kF ?kK ?k6 ?k7 ?k8 ?kN ?kP ?kS ?kT ?kB ?_ ?c2 ?c3 ?c4 ?c5; (case kA => exact rfl); (case kF => exact rfl); (case kK => first | assumption | exact rfl); (case k1 => k_asm); (case k2 => k_asm); (case k3 => k_asm); (case k4 => k_asm); (case k5 => k_asm); (case k6 => k_is); (case k7 => k_is); (case k8 => k_room); (case kN => exact rfl); (case kP => exact rfl); (case kS => exact fun _ => rfl); (case kT => exact fun _ _ => rfl); (case kB => exact fun _ _ => locs rfl); (case c5 => decide); (case c2 => exact rfl); (case c3 => exact rfl); (case c4 => exact rfl); intro C' D' g' L' h' tk' l1 l2 hs' FG' F' N' B' X' T'; (try k_lt l1); (try k_lt2 l2); (try dsimp only [List.reverse_cons, List.reverse_nil, List.nil_append, List.cons_append, List.append_nil, List.length_nil, Nat.zero_add, Nat.add_zero, kwEs] at F' N'); (try dsimp only); (try k_lift B')))
local macro_rules | `(tactic| k_room) => `(tactic| ktr_room)
local macro_rules | `(tactic| k_mem) => `(tactic| ((repeat (first | assumption | refine List.mem_cons_of_mem _ ?_)); done))
local macro_rules | `(tactic| k_inst) => `(tactic| (refine' inst_newsD ?N ?h1 ?h2 ?h3; (case N => k_asm); (case h1 => k_mem); (case h2 => k_mem); (case h3 => rfl)))
local macro_rules | `(tactic| walk_at "subscriptTail Name Slice ref ref") => `(tactic| (k_here; (with_reducible show wpAny _ _ (subscriptTail _ (PySem.Expr.Slice _ _ none _) (Value.ref _) (Value.ref _)) _ _ _); k_dflt (refine' my_tup_from (a := 1) ?e ?F ?N ?l ?p ?q ?z ?_; (case e => rfl); (case F => k_asm); (case N => k_asm); (case l => k_mem); (case p => decide); (case q => decide); (case z => decide)); intro D' h' F' N' l1; (try k_lt l1); (try dsimp only [List.drop] at N')))
local macro_rules | `(tactic| walk_at "exec Assign cons DictComp") => `(tactic| (k_here; k_dflt (refine' my_empty_dictcomp (by k_asm) (modules_low (Top.nolimit (by k_asm))) ?h ?hsw ?hL ?hh ?hclos ?hcell ?hkind ?hnames ?hy ?hp ?hs; (case hsw => with_unfolding_all rfl); (case hL => with_unfolding_all rfl); (case hh => with_unfolding_all rfl); (case hclos => with_unfolding_all rfl); (case hcell => decide); (case hkind => with_unfolding_all rfl); (case hnames => decide); (case hy => with_unfolding_all rfl); (case hp => with_unfolding_all rfl); (case hs => intro _; with_unfolding_all rfl))))
local macro_rules | `(tactic| walk_at "Exists") => `(tactic| refine Held.out ?_)
local macro_rules | `(tactic| walk_at "Exists") => `(tactic| (k_dflt (refine ⟨_, _, rfl, ⟨_, (News.get (by k_asm) (List.mem_cons_self ..)), rfl, _, rfl⟩, by k_asm, by k_asm, ?_⟩); intro D' h' tk' F' N' lD' lS'; (try k_lt lD')))
local macro_rules | `(tactic| walk_at "wpAt") => `(tactic| (dsimp only; ks_step "execs cons"; refine ks_wpAt_execs_cons ?_))
local macro_rules | `(tactic| walk_at "wpAt") => `(tactic| k_dflt (ks_step "exec Expr"; refine ks_wpAt_Expr_any ?_))
local macro_rules | `(tactic| walk_at "wpAt") => `(tactic| k_dflt (ks_step "exec Assign"; first | refine ks_wpAt_Assign_Name ?_ | refine ks_wpAt_Assign_Attr ?_))
local macro_rules | `(tactic| walk_at "wpAt") => `(tactic| k_dflt (ks_step "eval Call"; first | refine ks_wpAt_MethodCall ?_ | refine my_wpAt_CallStar (kws := _ :: _) ?_))
local macro_rules | `(tactic| walk_at "wpAt") => `(tactic| (ks_step "attributeBase Call"; k_here; k_dflt (refine my_node (by k_asm) (by k_asm) (by k_asm) (by k_asm) (by rfl) (by k_is) (by rfl) (by rfl) (by k_inst) (by k_is) (by rfl) (by first | rfl | decide +kernel) (by k_is) (by k_is) (by k_is) (by k_is) (by decide) (by rfl) (by rfl) (by rfl) (by rfl) (by decide +kernel) (by first | boot_by_name | rfl | kernel_rfl) ?_; intro so' h' F' N' l1; (try k_lt l1))))
local macro_rules | `(tactic| walk_at "exec For") => `(tactic| refine Held.out ?_)
local macro_rules | `(tactic| walk_at "call builtin:hasattr") => `(tactic| (k_here; k_dflt (refine' my_hasattr ?k1 ?k2 ?k3 ?_; (case k1 => k_asm); (case k2 => k_asm); (case k3 => k_mem); intro h' F' N')))
local macro_rules | `(tactic| walk_at "call builtin:iter") => `(tactic| (k_here; k_dflt (refine' my_iter_view ?k1 ?k2 ?k3 ?k4 ?_; (case k1 => k_asm); (case k2 => k_asm); (case k3 => k_mem); (case k4 => k_mem); intro I' h' F' N' l1 l9; (try k_lt l1))))
local macro_rules | `(tactic| walk_at "VTurn") => `(tactic| refine Held.out ?_)
local macro_rules | `(tactic| walk_at "getMethod ref") => `(tactic| (k_here; ks_any; k_dflt (refine' my_super_init ?k1 ?k2 ?k3 ?k4 ?k5 ?k6 ?k7 ?k8 ?_; (case k1 => k_asm); (case k2 => k_asm); (case k3 => k_asm); (case k4 => k_mem); (case k5 => k_inst); (case k6 => k_is); (case k7 => ks_is); (case k8 => k_is); intro q' h' F' N' l1; (try k_lt l1))))
local macro_rules | `(tactic| walk_at "getAttr ref") => `(tactic| (k_here; ks_any; k_dflt (refine' my_super_attr ?k1 ?k2 ?k3 ?k4 ?k5 ?k6 ?k7 ?k8 ?k9 ?_; (case k1 => k_asm); (case k2 => k_asm); (case k3 => k_asm); (case k4 => k_mem); (case k5 => k_inst); (case k6 => k_is); (case k7 => ks_is); (case k8 => k_is); (case k9 => decide); intro q' h' F' N' l1; (try k_lt l1))))
local macro_rules | `(tactic| walk_at "getAttr ref") => `(tactic| (k_here; k_dflt (refine' my_attr_bound (es := []) (n := 0) ?k1 ?k2 ?k3 ?k4 ?k5 ?k6 ?k7 ?k8 ?k9 ?k10 ?k11 ?k12 ?k13 ?k14 ?_; (case k4 => k_inst); (case k1 => k_asm); (case k2 => k_asm); (case k3 => k_asm); (case k5 => k_is); (case k6 => k_is); (case k7 => k_is); (case k8 => k_is); (case k9 => k_is); (case k10 => k_is); (case k11 => k_is); (case k12 => k_is); (case k13 => decide +kernel); (case k14 => k_get)); intro q' h' F' N' l1; (try k_lt l1)))
local macro_rules | `(tactic| walk_at "eval Call Attribute") => `(tactic| (k_here; (with_reducible show wpAny _ _ (eval (PySem.Expr.Call (PySem.Expr.Attribute _ _ _) (PySem.Expr.Starred _ _ :: _) (_ :: _) _) _) _ _ _); k_dflt (refine my_wpAny_CallStar ?_)))
local macro_rules | `(tactic| walk_at "call ref") => `(tactic| (k_here; k_dflt (refine' my_call_mw ?k1 ?k2 ?k3 ?k4 ?k5 ?k6 ?_; (case k1 => k_asm); (case k2 => k_asm); (case k3 => k_asm); (case k4 => k_mem); (case k5 => k_inst); (case k6 => k_is))))
local macro_rules | `(tactic| walk_at "call ref") => `(tactic| (k_here; k_dflt (refine' call_meth ?k1 ?k2 ?_; (case k1 => k_asm); (case k2 => k_mem); walk_at "own MC9 0")))
local macro_rules | `(tactic| walk_at "callWith ref") => `(tactic| (k_here; k_dflt (refine' callWith_mw0 ?k1 ?k2 ?_; (case k1 => k_asm); (case k2 => k_mem); (try dsimp only [List.nil_append]))))
local macro_rules | `(tactic| walk_at "callWith ref") => `(tactic| (k_here; (with_reducible show wpAny _ _ (callWith _ (Value.ref _) _ (backTo _ (starEach [PySem.Expr.Starred _ _] _)) (backToKw _ (keywordEach [_] _))) _ _ _); k_dflt (refine' callWith_SS (vs := []) ?k1 ?k2 ?k3 ?k4 ?k5 ?k6 ?kL ?kx ?ky ?_; (case k1 => k_asm); (case k2 => k_asm); (case kx => intro QA sA FA NA hA; first | exact nameX_L FA rfl hA | exact ld FA rfl hA); (case ky => intro QA sA FA NA hA; first | exact nameX_L FA rfl hA | exact nameX_C NA (by rfl) (by k_mem) (by assumption) hA); (case k3 => k_mem); (case k4 => decide); (case k5 => k_mem); (case k6 => k_asm); (case kL => first | (intro hA FA NA; refine' keeps_K ?kLa hA ?kLb; (case kLb => exact Frag.In.keeps (by k_asm) (Fr.keep FA)); (case kLa => k_is)) | (intro hA FA NA; refine' keeps_M ?kLa hA ⟨News.get NA ?kLc, ?kLb⟩; (case kLc => k_mem); (case kLb => exact Frag.In.keeps (by k_asm) (Fr.keep FA)); (case kLa => k_is))); intro h' F' N'; (try dsimp only [List.nil_append, List.cons_append, List.append_nil]))))
local macro_rules | `(tactic| walk_at "call ref") => `(tactic| (k_dflt (refine' call_meth ?k1 ?k2 ?_; (case k1 => k_asm); (case k2 => k_mem)); (try dsimp only); refine Held.out ?_))
set_option maxHeartbeats 8000000 in
theorem init_c (w : World) (mean : ExcName → Option Value) (mg mb : Str → Option Value) (x dx : Addr) :
   CA2 10 80 w mean mg mb (.ref 240) [.ref x, .none] (fun news => (x, pObj dx) ∈ news ∧ (dx, dictOf [] 0) ∈ news) (fun news v news' => v = .none ∧ (∀ q ∈ news, q ∈ news')) := by
  unfold CA2
  k_fill
  w_top off
  intro dp un gd cn cs a ccd cl outer A₀ base h₀ L m news s R B F X N T hk hdp hun ⟨hx1, hx2⟩ hret
  (refine' kpc_both (vs := [Value.none]) (n0 := "self") (nr := "args") (nm := "kwargs") ?k1 ?k2 ?k3 ?k4 ?k5 ?kA ?kF ?kK ?k6 ?k7 ?k8 ?kP ?kS ?kT ?h0 ?h1 ?h2 ?hc ?hp ?_ ?c2 ?c3 ?c4; (case kA => exact rfl); (case kF => exact rfl); (case kK => first | assumption | exact rfl); (case k1 => k_asm); (case k2 => k_asm); (case k3 => k_asm); (case k4 => k_asm); (case k5 => k_asm); (case k6 => k_is); (case k7 => k_is); (case k8 => k_room); (case kP => exact rfl); (case kS => exact fun _ => rfl); (case kT => exact fun _ _ => rfl); (case h0 => exact rfl); (case h1 => exact rfl); (case h2 => exact rfl); (case hc => exact fun _ => rfl); (case hp => exact fun _ => rfl); (case c2 => exact rfl); (case c3 => exact rfl); (case c4 => exact rfl); intro C' D' c' o' g' L' h' tk' l1 l2 l3 l4 l5 hs' ho' FG' F' N' B' X' T'; (try k_lt l1); (try k_lt2 l2); (try k_lt2 l3); (try k_lt2 l4); (try k_lt l5); (try dsimp only); (try k_lift B'))
  have lo' : (dictOf [] 0).IsDictOf (PySem.strKind PySem.Challenge.rw_fc0078_01.row.toRowW.prog w) [] := kp_isDict (ex := []) 0 0 List.nodup_nil
  have fs' : PyProof.V.FlatPairs PySem.PyData.str ([] : List (Str × Value)) [] := .nil
  k_steps
  show codeAny _ _ _ _ _
  refine (cinit_c w mean mg mb x dx).use (by assumption) (by assumption) (by assumption) (by assumption) (by assumption) (by rfl) (by ktr_room) (by ktr_units) ⟨by k_mem, by k_mem⟩ ?_
  rintro v h9 tk9 news9 F9 N9 ⟨rfl, hsub⟩
  have hnd := hsub _ (List.mem_cons_of_mem _ (List.mem_cons_of_mem _ (List.mem_cons_self ..)))
  have hnd2 : ∀ q ∈ news, q ∈ news9 := fun q hq => hsub q (by simp only [List.mem_cons]; simp only [hq, or_true])
  clear hsub
  dsimp only
  k_steps
  show wpAny _ _ _ _ _ _
  rename Fr _ _ _ _ => lF
  refine for_view_empty lF rfl ?_
  k_steps
  unfold Held
  refine ⟨_, _, _, _, _, rfl, by assumption, by assumption, by k_mem, by k_mem, ?_⟩
  intro h' tk' F' N'
  dsimp only
  k_steps
  exact hret _ _ _ _ (by assumption) (cb_drop (by assumption) (fun q hq => List.mem_cons_of_mem _ (hnd2 q hq))) ⟨rfl, sub_self⟩
end Mine
end
section
open PySem PySem.W PyProof.Rows PyProof.Rows.LCg PyProof.Rows.LCp
set_option Elab.async false
set_option maxRecDepth 100000
namespace Mine
set_option maxHeartbeats 4000000 in
theorem params_c (w : World) (mean : ExcName → Option Value) (mg mb : Str → Option Value) :
   CA2 14 120 w mean mg mb (.ref 279) [.none] (fun _ => True) (fun news v news' => ∀ q ∈ news, q ∈ news') := by
  unfold CA2
  k_fill
  w_top off
  intro dp un gd cn cs a ccd cl outer A₀ base h₀ L m news s R B F X N T hk hdp hun _ hret
  refine make_D F N X (by kernel_rfl) (by k_is) (by k_is) ?_
  intro x dx h' F' N' l1 l2
  have e1 : (Code.builtin "type.__call__" ⟨[Value.ref 279, Value.none], []⟩).weight ≤ 3 := by decide +kernel
  have e2 : (Code.builtin "type.__call__" ⟨[Value.ref 279, Value.none], []⟩).cUnits ≤ 36 := by decide +kernel
  refine (init_c w mean mg mb x dx).use B F' X N' T hk (by ktr_room) (by ktr_units) ⟨List.mem_cons_self .., List.mem_cons_of_mem _ (List.mem_cons_self ..)⟩ ?_
  rintro v h9 tk9 news9 F9 N9 ⟨rfl, hsub⟩
  exact ⟨rfl, hret _ _ _ _ F9 N9 fun q hq => hsub q (List.mem_cons_of_mem _ (List.mem_cons_of_mem _ hq))⟩
end Mine
end
section
open PySem PySem.W PySem.Calls PyProof.Rows PyProof.Rows.LCg PyProof.Rows.LCp
set_option Elab.async false
set_option maxRecDepth 100000
namespace Mine
local macro_rules | `(tactic| k_room) => `(tactic| ktr_room)
local macro_rules | `(tactic| walk_at "wpAt") => `(tactic| (dsimp only; ks_step "execs cons"; refine ks_wpAt_execs_cons ?_))
local macro_rules | `(tactic| walk_at "wpAt") => `(tactic| k_dflt (ks_step "exec Expr"; refine ks_wpAt_Expr_any ?_))
local macro_rules | `(tactic| walk_at "wpAt") => `(tactic| k_dflt (ks_step "exec Assign"; first | refine ks_wpAt_Assign_Name ?_ | refine ks_wpAt_Assign_Attr ?_))
local macro_rules | `(tactic| walk_at "wpAt") => `(tactic| k_dflt (ks_step "eval Call"; refine ks_wpAt_MethodCall ?_))
local macro_rules | `(tactic| walk_at "wpAt") => `(tactic| (ks_step "attributeBase Call"; k_here; k_dflt (refine my_node_cls (by k_asm) (by k_asm) (by k_asm) (by k_asm) (by rfl) (by k_is) (by rfl) (by rfl) (by k_is) (by k_is) (by rfl) (by first | rfl | decide +kernel) (by k_is) (by k_is) (by k_is) (by k_is) (by decide) (by rfl) (by rfl) (by rfl) (by rfl) (by decide +kernel) (by first | boot_by_name | rfl | kernel_rfl) ?_; intro so' h' F' N' l1; (try k_lt l1))))
local macro_rules | `(tactic| walk_at "getMethod ref") => `(tactic| (k_here; ks_any; k_dflt (refine' my_super_new ?k1 ?k2 ?k3 ?k4 ?k6 ?k7 ?_; (case k1 => k_asm); (case k2 => k_asm); (case k3 => k_asm); (case k4 => k_mem); (case k6 => k_is); (case k7 => ks_is))))
local macro_rules | `(tactic| walk_at "call builtin:str.__new__") => `(tactic| refine Held.out ?_)
local macro_rules | `(tactic| walk_at "setAttr ref") => `(tactic| refine Held.out ?_)
local macro_rules | `(tactic| walk_at "setAttr") => `(tactic| refine Held.out ?_)
local macro_rules | `(tactic| walk_at "call ref") => `(tactic| ((with_reducible show wpAny _ _ (call (Value.ref 279) _ _) _ _ _); refine Held.out ?_))
set_option maxHeartbeats 8000000 in
theorem new_c (w : World) (mean : ExcName → Option Value) (mg mb : Str → Option Value) (x : Str) (t : Tok) :
   CA2 18 160 w mean mg mb (.ref 306) [.ref 335, .str x t] (fun _ => x.length ≤ 4096)
     (fun news v news' => ∃ xa dx tk sl, v = .ref xa ∧ (xa, (⟨.ref 335, some dx, .prim (.str x tk), sl⟩ : Obj)) ∈ news' ∧ (dx, dictOf [] 0) ∈ news' ∧ (∀ q ∈ news, q ∈ news')) := by
  unfold CA2
  k_fill
  w_top off
  intro dp un gd cn cs a ccd cl outer A₀ base h₀ L m news s R B F X N T hk hdp hun hx hret
  (refine' ks_code_super ?k1 ?k2 ?k3 ?k4 ?k5 ?kA ?kF ?kK ?k6 ?k7 ?k8 ?k9 ?kB ?_ ?c1 ?c2 ?c3 ?c4; (case kA => exact rfl); (case kF => exact rfl); (case kK => first | assumption | exact rfl); (case k1 => k_asm); (case k2 => k_asm); (case k3 => k_asm); (case k4 => k_asm); (case k5 => k_asm); (case k6 => k_is); (case k7 => k_is); (case k8 => k_room); (case k9 => first | exact BindsTo.of_eq rfl | exact binds_K (by k_in) rfl (by k_is) rfl rfl rfl); (case kB => exact locs rfl); (case c1 => decide); (case c2 => exact rfl); (case c3 => exact rfl); (case c4 => exact rfl); intro g' L' h' FG' F' N' B' X' T' l1; (try k_lt l1); (try dsimp only); (try k_lift B'))
  k_steps
  show wpAny _ _ _ _ _ _
  rename Fr _ _ _ _ => lF
  rename News _ _ _ _ => lN
  refine' my_str_new lF (by assumption) lN ?hC ?he ?hlen (by k_is) ?hb ?hmd ?_
  case hC => k_is
  case he => rfl
  case hlen => rw [sizeLine_eq]; omega
  case hb => kernel_rfl
  case hmd => kernel_rfl
  intro xa dx tk1 h1 F1 N1 l1 l2
  have hap : ∀ q ∈ (dx, dictOf [] 0) :: _, q.1 ≠ xa := fun q hq => by
    rcases List.mem_cons.mp hq with rfl | hq
    · exact Nat.ne_of_lt l2
    · exact Nat.ne_of_lt (Nat.lt_trans (l1 q hq) l2)
  clear lF lN l1
  k_steps
  show wpAny _ _ _ _ _ _
  rename Fr _ _ _ _ => lF
  rename News _ _ _ _ => lN
  refine' my_set_slot (od := some (dictOf [] 0)) lF (by assumption) lN hap ⟨News.get lN (List.mem_cons_self ..), rfl, rfl, News.get lN (List.mem_cons_of_mem _ (List.mem_cons_self ..))⟩ ?hs ?hc ?hpass ?hob ?ht ?hT ?hp ?hi ?e ?hf ?_
  case hs => k_is
  case hc => k_is
  case hpass => intro self; kernel_rfl
  case hob => k_is
  case ht => k_is
  case hT => k_is
  case hp => k_is
  case hi => decide
  case e => rfl
  case hf => rfl
  intro h2 F2 N2
  clear lF lN
  k_steps
  show wpAny _ _ _ _ _ _
  rename Fr _ _ _ _ => lF
  rename News _ _ _ _ => lN
  refine wpAny_call ?_
  refine (params_c w mean mg mb).use (by assumption) lF (by assumption) lN (by assumption) (by rfl) (by ktr_room) (by ktr_units) trivial ?_
  intro v h9 tk9 news9 F9 N9 hsub
  have N10 := cb_drop N9 hsub
  clear lF lN hsub N9
  dsimp only
  k_steps
  show wpAny _ _ _ _ _ _
  rename Fr _ _ _ _ => lF
  rename News _ _ _ _ => lN
  refine' my_set_slot (od := some (dictOf [] 0)) lF (by assumption) lN hap ⟨News.get lN (List.mem_cons_self ..), rfl, rfl, News.get lN (List.mem_cons_of_mem _ (List.mem_cons_self ..))⟩ ?hs ?hc ?hpass ?hob ?ht ?hT ?hp ?hi ?e ?hf ?_
  case hs => k_is
  case hc => k_is
  case hpass => intro self; kernel_rfl
  case hob => k_is
  case ht => k_is
  case hT => k_is
  case hp => k_is
  case hi => decide
  case e => rfl
  case hf => rfl
  intro h4 F4 N4
  clear lF lN
  k_steps
  exact hret _ _ _ _ (by assumption) (by assumption) ⟨_, _, _, _, rfl, List.mem_cons_self .., List.mem_cons_of_mem _ (List.mem_cons_self ..), fun q hq => by simp only [List.mem_cons]; simp only [hq, or_true]⟩
end Mine
end
section
open PySem PySem.W PyProof.Rows PyProof.Rows.LCg PyProof.Rows.LCp
set_option Elab.async false
set_option maxRecDepth 100000
namespace Mine
set_option maxHeartbeats 4000000 in
/-- vText(x) -/
theorem vtext_c (w : World) (mean : ExcName → Option Value) (mg mb : Str → Option Value) (x : Str) (t : Tok) :
   CA2 22 200 w mean mg mb (.ref 335) [.str x t] (fun _ => x.length ≤ 4096)
     (fun news v news' => ∃ xa dx tk sl, v = .ref xa ∧ (xa, (⟨.ref 335, some dx, .prim (.str x tk), sl⟩ : Obj)) ∈ news' ∧ (dx, dictOf [] 0) ∈ news' ∧ (∀ q ∈ news, q ∈ news')) := by
  unfold CA2
  k_fill
  w_top off
  intro dp un gd cn cs a ccd cl outer A₀ base h₀ L m news s R B F X N T hk hdp hun hx hret
  have XX := X.keeps F.keep
  obtain ⟨hh, g, d, tt, os⟩ := s
  have e1 : (Code.builtin "type.__call__" ⟨[Value.ref 335, Value.str x t], []⟩).weight ≤ 3 := Nat.le_of_ble_eq_true rfl
  have e2 : (Code.builtin "type.__call__" ⟨[Value.ref 335, Value.str x t], []⟩).cUnits ≤ 36 := Nat.le_of_ble_eq_true rfl
  have hany : (clsIn (Mine.hd.heap_39 w.params) 335).any (fun cd => !cd.mro.isEmpty) = true := by kernel_rfl
  obtain ⟨cd, hc, hmro⟩ := any_some hany
  have hmro : cd.mro.isEmpty = false := by simpa using hmro
  obtain ⟨oc, od, sl, hC⟩ : ∃ oc od sl, (Mine.hd.heap_39 w.params).lookup 335 = some ⟨oc, od, .cls cd, sl⟩ := by
    unfold clsIn at hc
    split at hc
    · rename_i c d cd' sl ho
      cases hc
      exact ⟨_, _, _, ho⟩
    · cases hc
  refine make_Ncore (fN := 306) (XX _ _ hC) hmro (Looks.of_peek XX (by kernel_rfl)) (looks_specialIn XX (by k_is)) (looks_instIn XX (by k_is)) ?hga ?hq
  case hga =>
    intro A Q E hq
    refine' cls_sm (s := ⟨hh, g, d, tt, os⟩) F X ?a1 ?a2 ?a3 ?a4 ?a5 hq
    case a1 => k_is
    case a2 => k_is
    case a3 => k_is
    case a4 => k_is
    case a5 => k_handed
  case hq =>
    refine (new_c w mean mg mb x t).use B (s := ⟨hh, g, d, tt + 1, os⟩) F X N T hk (by ktr_room) (by ktr_units) hx ?_
    rintro v h9 tk9 news9 F9 N9 ⟨xa, dx, tk, sl, rfl, hm, hd, hsub⟩
    have X9 := X.keeps F9.keep
    refine ⟨⟨?_, looks_mroIn X9 (by k_is), looks_findIn X9 (by k_is), Looks.of_peek X9 (by kernel_rfl), looks_mroIn X9 (by k_is)⟩, hret _ _ _ _ F9 N9 ⟨xa, dx, tk, sl, rfl, hm, hd, hsub⟩⟩
    exact (Looks.ld (N9 _ hm).1).andThen .now
end Mine
end
section
open PySem PySem.W
set_option Elab.async false
namespace Mine
def toP (p : Int × Str) : Nat × List Nat := (p.1.toNat, p.2.cps.toList)
theorem cat_txt : ∀ ps : Prs, cat (ps.map elemS) = txt (ps.map toP)
  | [] => rfl
  | p :: ps => by
    rw [List.map_cons, List.map_cons, cat_cons, elem_toList, cat_txt ps]
    show _ = bs p.1.toNat (p.2.cps.toList ++ txt (ps.map toP))
    rw [bs, List.append_assoc]
theorem textS_txt (ps : Prs) : textS ps = ofL (txt (ps.map toP)) := by unfold textS; rw [cat_txt]
theorem sign_iff {s : Str} {c : String} {n : Nat} (hc : Str.ofString c = ofL [n]) : (s == Str.ofString c) = true ↔ s.cps.toList = [n] := by
  rw [hc, beq_iff_eq]
  constructor
  · rintro rfl; rfl
  · intro h
    rw [← ofL_toList s, h]
theorem sN : Str.ofString "N" = ofL [78] := by decide +kernel
theorem sn : Str.ofString "n" = ofL [110] := by decide +kernel
theorem sLF : Str.ofString "\n" = ofL [10] := by decide +kernel
theorem sCR : Str.ofString "\r" = ofL [13] := by decide +kernel
theorem sC : Str.ofString "," = ofL [44] := by decide +kernel
theorem sS : Str.ofString ";" = ofL [59] := by decide +kernel
theorem sD : Str.ofString ":" = ofL [58] := by decide +kernel
theorem raiseI_toP {p : Int × Str} {k : Int} (h : 0 ≤ p.1) (hk : 1 ≤ k) : toP (raiseI k p) = raiseP k.toNat (toP p) := by
  have e1 : (k - 1).toNat = k.toNat - 1 := by omega
  have hp : p.1 = (p.1.toNat : Int) := (Int.toNat_of_nonneg h).symm
  unfold raiseI raiseP toP
  dsimp only
  rw [e1]
  simp only [sign_iff sLF, sign_iff sC, sign_iff sS]
  generalize p.1.toNat = n at hp
  rw [hp]
  split
  · simp only [sn]
    refine Prod.ext ?_ rfl
    show ((2 * (n : Int) + 1) * 2 ^ (k.toNat - 1)).toNat = _
    have : ((2 * (n : Int) + 1) * 2 ^ (k.toNat - 1)) = (((2 * n + 1) * 2 ^ (k.toNat - 1) : Nat) : Int) := by push_cast; rfl
    rw [this, Int.toNat_natCast]
  · split
    · refine Prod.ext ?_ rfl
      show (((n : Int) + 1) * 2 ^ k.toNat - 1).toNat = _
      have : (((n : Int) + 1) * 2 ^ k.toNat) = (((n + 1) * 2 ^ k.toNat : Nat) : Int) := by push_cast; rfl
      rw [this]
      omega
    · refine Prod.ext ?_ rfl
      show ((n : Int) * 2 ^ k.toNat).toNat = _
      have : ((n : Int) * 2 ^ k.toNat) = ((n * 2 ^ k.toNat : Nat) : Int) := by push_cast; rfl
      rw [this, Int.toNat_natCast]
theorem passI_toP {p : Int × Str} (h : 0 ≤ p.1) : toP (passI p) = passP (toP p) := by
  have e1 : Int.fdiv p.1 2 = p.1 / 2 := Int.fdiv_eq_ediv_of_nonneg _ (by omega)
  have e2 : Int.fdiv (p.1 + 1) 2 = (p.1 + 1) / 2 := Int.fdiv_eq_ediv_of_nonneg _ (by omega)
  have e3 : Int.fmod p.1 2 = p.1 % 2 := Int.fmod_eq_emod_of_nonneg _ (by omega)
  have hs : ∀ (c : String) (n : Nat), Str.ofString c = ofL [n] → ((Str.ofString c == p.2) = true ↔ p.2.cps.toList = [n]) := fun c n hc => by
    rw [← sign_iff hc, beq_iff_eq, beq_iff_eq]; exact eq_comm
  have i1 : inNN p.2 = true ↔ (p.2.cps.toList = [110] ∨ p.2.cps.toList = [78]) := by
    unfold inNN
    simp only [List.any_cons, List.any_nil, Bool.or_false, Bool.or_eq_true, hs _ _ sn, hs _ _ sN]
  have i2 : inSet p.2 = true ↔ (p.2.cps.toList = [110] ∨ p.2.cps.toList = [78] ∨ p.2.cps.toList = [44] ∨ p.2.cps.toList = [59] ∨ p.2.cps.toList = [58]) := by
    unfold inSet
    simp only [List.any_cons, List.any_nil, Bool.or_false, Bool.or_eq_true, hs _ _ sn, hs _ _ sN, hs _ _ sC, hs _ _ sS, hs _ _ sD]
  have m : (p.1 % 2 = 1) ↔ p.1.toNat % 2 = 1 := by omega
  unfold passI passP toP
  dsimp only
  rw [e1, e2, e3]
  simp only [i1, i2, m]
  split
  · rw [sLF]; refine Prod.ext ?_ rfl; show (p.1 / 2).toNat = _; omega
  · split
    · refine Prod.ext ?_ rfl; show (p.1 / 2).toNat = _; omega
    · refine Prod.ext ?_ rfl; show ((p.1 + 1) / 2).toNat = _; omega
end Mine
end
section
open PySem PySem.W
set_option Elab.async false
namespace Mine
theorem fold_toP : ∀ (ps : Prs) (out : Prs) (cut : Bool), (∀ p ∈ ps, 0 ≤ p.1) → (ps.foldl restStep (out, cut)).1.map toP = out.map toP ++ restF cut (ps.map toP)
  | [], out, cut, _ => by simp [restF]
  | p :: ps, out, cut, h => by
    have h0 := h p (List.mem_cons_self ..)
    have ht : ∀ q ∈ ps, 0 ≤ q.1 := fun q hq => h q (List.mem_cons_of_mem _ hq)
    have hN := sign_iff (s := p.2) sN
    obtain ⟨r, s⟩ := p
    dsimp only at h0 hN
    rw [List.foldl_cons, List.map_cons]
    have hr : (r > 0) ↔ 0 < r.toNat := by omega
    -- the pair behind the first step
    have hq : ∃ r' s', (if (s == Str.ofString "N") = true ∧ r > 0 then (r - 1, Str.ofString "\n") else (r, s)) = (r', s') ∧ 0 ≤ r' ∧
        r'.toNat = (if s.cps.toList = [78] ∧ 0 < r.toNat then r.toNat - 1 else r.toNat) ∧ s'.cps.toList = (if s.cps.toList = [78] ∧ 0 < r.toNat then [10] else s.cps.toList) := by
      by_cases c : s.cps.toList = [78] ∧ 0 < r.toNat
      · rw [if_pos ⟨hN.mpr c.1, hr.mpr c.2⟩, if_pos c, if_pos c]
        exact ⟨_, _, rfl, by have := hr.mpr c.2; omega, by omega, by rw [sLF]; rfl⟩
      · rw [if_neg (fun q => c ⟨hN.mp q.1, hr.mp q.2⟩), if_neg c, if_neg c]
        exact ⟨_, _, rfl, h0, rfl, rfl⟩
    obtain ⟨r', s', e, hr', er, es⟩ := hq
    have step : restStep (out, cut) (r, s) = if cut = true ∧ r' = 0 ∧ (s' == Str.ofString "\n") = true then (out, false) else (out ++ [(r', if (s' == Str.ofString "\r") = true then Str.ofString "\n" else s')], s' == Str.ofString "\r") := by
      unfold restStep
      dsimp only
      rw [e]
    rw [step]
    show _ = _ ++ restF cut ((r.toNat, s.cps.toList) :: ps.map toP)
    unfold restF
    dsimp only
    rw [← er, ← es]
    have hz : r' = 0 ↔ r'.toNat = 0 := by omega
    have c1 := sign_iff (s := s') sLF
    have c2 := sign_iff (s := s') sCR
    by_cases c : cut = true ∧ r'.toNat = 0 ∧ s'.cps.toList = [10]
    · rw [if_pos ⟨c.1, hz.mpr c.2.1, c1.mpr c.2.2⟩, if_pos c]
      exact fold_toP ps out false ht
    · rw [if_neg (fun q => c ⟨q.1, hz.mp q.2.1, c1.mp q.2.2⟩), if_neg c, fold_toP ps _ _ ht, List.map_append, List.append_assoc]
      congr 1
      have d : (s' == Str.ofString "\r") = decide (s'.cps.toList = [13]) := by
        by_cases q : s'.cps.toList = [13]
        · rw [decide_eq_true q]; exact c2.mpr q
        · rw [decide_eq_false q]
          cases z : s' == Str.ofString "\r" with
          | false => rfl
          | true => exact absurd (c2.mp z) q
      rw [d]
      show [toP _] ++ _ = _ :: _
      have t : toP (r', if decide (s'.cps.toList = [13]) = true then Str.ofString "\n" else s') = (r'.toNat, if s'.cps.toList = [13] then [10] else s'.cps.toList) := by
        unfold toP
        refine Prod.ext rfl ?_
        dsimp only
        by_cases q : s'.cps.toList = [13]
        · rw [if_pos q, if_pos (decide_eq_true q), sLF]; rfl
        · rw [if_neg q, if_neg (by rw [decide_eq_false q]; exact Bool.false_ne_true)]
      rw [t]
      rfl
theorem restA_toP {ps : Prs} (h : ∀ p ∈ ps, 0 ≤ p.1) : (restA ps).1.map toP = restF false (ps.map toP) := by
  unfold restA
  rw [fold_toP ps [] false h]
  rfl
end Mine
end
section
open PySem PySem.W
set_option Elab.async false
namespace Mine
theorem fold_bd : ∀ (ps : Prs) (out : Prs) (cut : Bool), (∀ p ∈ ps, 0 ≤ p.1 ∧ p.1 ≤ 7 ∧ p.2.length ≤ 1) → (∀ p ∈ out, 0 ≤ p.1 ∧ p.1 ≤ 7 ∧ p.2.length ≤ 1) →
    ((ps.foldl restStep (out, cut)).1.length ≤ out.length + ps.length ∧ ∀ p ∈ (ps.foldl restStep (out, cut)).1, 0 ≤ p.1 ∧ p.1 ≤ 7 ∧ p.2.length ≤ 1)
  | [], out, cut, _, ho => ⟨by simp, ho⟩
  | p :: ps, out, cut, h, ho => by
    obtain ⟨h0, h7, hl⟩ := h p (List.mem_cons_self ..)
    have ht : ∀ q ∈ ps, 0 ≤ q.1 ∧ q.1 ≤ 7 ∧ q.2.length ≤ 1 := fun q hq => h q (List.mem_cons_of_mem _ hq)
    have hn : (Str.ofString "\n").length = 1 := by decide +kernel
    rw [List.foldl_cons]
    have hq : 0 ≤ (if (p.2 == Str.ofString "N") = true ∧ p.1 > 0 then (p.1 - 1, Str.ofString "\n") else p).1 ∧ (if (p.2 == Str.ofString "N") = true ∧ p.1 > 0 then (p.1 - 1, Str.ofString "\n") else p).1 ≤ 7 ∧ (if (p.2 == Str.ofString "N") = true ∧ p.1 > 0 then (p.1 - 1, Str.ofString "\n") else p).2.length ≤ 1 := by
      split
      · dsimp only; refine ⟨by omega, by omega, by omega⟩
      · exact ⟨h0, h7, hl⟩
    have st : restStep (out, cut) p = if cut = true ∧ (if (p.2 == Str.ofString "N") = true ∧ p.1 > 0 then (p.1 - 1, Str.ofString "\n") else p).1 = 0 ∧ ((if (p.2 == Str.ofString "N") = true ∧ p.1 > 0 then (p.1 - 1, Str.ofString "\n") else p).2 == Str.ofString "\n") = true then (out, false)
      else (out ++ [((if (p.2 == Str.ofString "N") = true ∧ p.1 > 0 then (p.1 - 1, Str.ofString "\n") else p).1, if ((if (p.2 == Str.ofString "N") = true ∧ p.1 > 0 then (p.1 - 1, Str.ofString "\n") else p).2 == Str.ofString "\r") = true then Str.ofString "\n" else (if (p.2 == Str.ofString "N") = true ∧ p.1 > 0 then (p.1 - 1, Str.ofString "\n") else p).2)], (if (p.2 == Str.ofString "N") = true ∧ p.1 > 0 then (p.1 - 1, Str.ofString "\n") else p).2 == Str.ofString "\r") := rfl
    rw [st]
    generalize (if (p.2 == Str.ofString "N") = true ∧ p.1 > 0 then (p.1 - 1, Str.ofString "\n") else p) = q at hq ⊢
    split
    · have := fold_bd ps out false ht ho
      refine ⟨by have := this.1; simp only [List.length_cons]; omega, this.2⟩
    · have := fold_bd ps (out ++ [(q.1, if (q.2 == Str.ofString "\r") = true then Str.ofString "\n" else q.2)]) (q.2 == Str.ofString "\r") ht (fun z hz => by
        rcases List.mem_append.mp hz with hz | hz
        · exact ho z hz
        · obtain rfl := List.mem_singleton.mp hz
          refine ⟨hq.1, hq.2.1, ?_⟩
          dsimp only
          split
          · omega
          · exact hq.2.2)
      refine ⟨by have := this.1; simp only [List.length_append, List.length_cons, List.length_nil] at this ⊢; omega, this.2⟩
theorem rest_bd7 {ps : Prs} (h : Bd7 ps) : Bd7 (restA ps).1 := by
  have := fold_bd ps [] false h.2 (fun _ hp => nomatch hp)
  refine ⟨Nat.le_trans this.1 (by simpa using h.1), this.2⟩
end Mine
end
section
open PySem PySem.W
set_option Elab.async false
namespace Mine
theorem map_raise {qs : Prs} {k : Int} (h : ∀ p ∈ qs, 0 ≤ p.1) (hk : 1 ≤ k) : (qs.map (raiseI k)).map toP = (qs.map toP).map (raiseP k.toNat) := by
  rw [List.map_map, List.map_map]
  exact List.map_congr_left fun p hp => raiseI_toP (h p hp) hk
theorem map_pass {qs : Prs} (h : ∀ p ∈ qs, 0 ≤ p.1) : (qs.map passI).map toP = (qs.map toP).map passP := by
  rw [List.map_map, List.map_map]
  exact List.map_congr_left fun p hp => passI_toP (h p hp)
theorem rest_nonneg {ps : Prs} (h : Bd7 ps) : ∀ p ∈ (restA ps).1, 0 ≤ p.1 := fun p hp => ((rest_bd7 h).2 p hp).1
theorem bd7_nonneg {ps : Prs} (h : Bd7 ps) : ∀ p ∈ ps, 0 ≤ p.1 := fun p hp => (h.2 p hp).1
/-- the reader over the text -/
theorem law_pass {ps : Prs} (h : Bd7 ps) (ok : Ok (ps.map toP)) : unescS (textS ps) = textS (ps.map passI) := by
  rw [textS_txt, textS_txt, map_pass (bd7_nonneg h)]
  unfold unescS
  show ofL (unesc (txt (ps.map toP))) = _
  rw [unesc_txt _ ok]
/-- the writer, i + 1 times over -/
theorem law_escN {ps : Prs} (h : Bd7 ps) (ok : Ok (ps.map toP)) (k : Nat) : ofL (escN (k + 1) (txt (ps.map toP))) = textS ((restA ps).1.map (raiseI ((k + 1 : Nat) : Int))) := by
  rw [textS_txt, map_raise (rest_nonneg h) (by omega), restA_toP (bd7_nonneg h), Int.toNat_natCast, escN_txt _ ok]
theorem law_unescN {ps : Prs} (h : Bd7 ps) (ok : Ok (ps.map toP)) (k : Nat) : ofL (unescN (k + 1) (escN (k + 1) (txt (ps.map toP)))) = textS (restA ps).1 := by
  rw [textS_txt, restA_toP (bd7_nonneg h), escN_txt _ ok, unescN_txt _ (restF_ok _ _ ok)]
theorem law_esc1 {ps : Prs} (h : Bd7 ps) (ok : Ok (ps.map toP)) : escS (textS ps) = textS ((restA ps).1.map (raiseI 1)) := by
  rw [escS_eq]
  have := law_escN h ok 0
  rw [textS_txt ps]
  exact this
theorem law_unq {ps : Prs} (h : Bd7 ps) (ok : Ok (ps.map toP)) (hn : ∀ p ∈ ps.map toP, p.2 ≠ [110]) : unqS (escS (textS ps)) = textS (restA ps).1 := by
  rw [unqS_eq, escS_eq, textS_txt ps, textS_txt, restA_toP (bd7_nonneg h)]
  show ofL (unq (esc (txt (ps.map toP)))) = _
  rw [unq_esc _ ok hn]
end Mine
end
section
open PySem PySem.W
set_option Elab.async false
namespace Mine
theorem u8_inj {a c : Nat} (ha : a < 256) (hc : c < 256) (h : c.toUInt8 = a.toUInt8) : c = a := by
  have := congrArg UInt8.toNat h
  simp at this
  omega
theorem u8_ne {a c : Nat} (ha : a < 128) (hc : 128 ≤ c) (hc2 : c < 256) : c.toUInt8 ≠ a.toUInt8 := fun h => by
  have := u8_inj (by omega) hc2 h
  omega
theorem head_utf8 {b : Nat} (hb : b < 128) {d : Nat} {r : List Nat} (hd : plainC d) (h : (utf8L (d :: r))[0]? = some b.toUInt8) : d = b := by
  rw [utf8L_cons] at h
  rcases hd with hd | rfl
  · rw [utf8Of_lt hd] at h
    exact u8_inj (by omega) (by omega) (Option.some.inj h)
  · rw [utf8Of_233] at h
    exact absurd (Option.some.inj h) (u8_ne (c := 195) hb (by omega) (by omega))
theorem repG_utf8 {a b : Nat} (ha : a < 128) (hb : b < 128) (z : List Nat) : ∀ (n : Nat) (l : List Nat), l.length ≤ n → (∀ c ∈ l, plainC c) → repG a.toUInt8 b.toUInt8 (utf8L z) (utf8L l) = utf8L (repG a b z l)
  | _, [], _, _ => rfl
  | 0, _ :: _, h, _ => by simp at h
  | n + 1, [c], _, hp => by
    show repG _ _ _ (utf8L [c]) = utf8L [c]
    rw [utf8L_cons]
    rcases hp c (List.mem_cons_self ..) with hc | rfl
    · rw [utf8Of_lt hc]; rfl
    · rw [utf8Of_233]
      show repG _ _ _ [195, 169] = [195, 169]
      have n1 : (195 : UInt8) ≠ a.toUInt8 := u8_ne (c := 195) ha (by omega) (by omega)
      rw [repG_miss _ _ _ (195 : UInt8) _ (fun q => n1 q.1)]
      rfl
  | n + 1, c :: d :: r, hl, hp => by
    have hr : ∀ x ∈ d :: r, plainC x := fun x hx => hp x (List.mem_cons_of_mem _ hx)
    have ih1 := repG_utf8 ha hb z n (d :: r) (by simp at hl ⊢; omega) hr
    have ih2 := repG_utf8 ha hb z n r (by simp at hl; omega) (fun x hx => hr x (List.mem_cons_of_mem _ hx))
    by_cases q : c = a ∧ d = b
    · obtain ⟨rfl, rfl⟩ := q
      rw [repG_hit, utf8L_append, utf8L_cons, utf8L_cons, utf8Of_lt ha, utf8Of_lt hb, ← ih2]
      exact repG_hit _ _ _ _
    · rw [repG_miss a b z c (d :: r) (fun h => q ⟨h.1, by simpa using h.2⟩), utf8L_cons, utf8L_cons c (repG a b z (d :: r)), ← ih1]
      rcases hp c (List.mem_cons_self ..) with hc | rfl
      · rw [utf8Of_lt hc]
        exact repG_miss _ _ _ _ _ fun h => q ⟨u8_inj (by omega) (by omega) h.1, head_utf8 hb (hr d (List.mem_cons_self ..)) h.2⟩
      · rw [utf8Of_233]
        have n1 : (195 : UInt8) ≠ a.toUInt8 := u8_ne (c := 195) ha (by omega) (by omega)
        have n2 : (169 : UInt8) ≠ a.toUInt8 := u8_ne (c := 169) ha (by omega) (by omega)
        show repG _ _ _ ((195 : UInt8) :: 169 :: utf8L (d :: r)) = (195 : UInt8) :: 169 :: repG a.toUInt8 b.toUInt8 (utf8L z) (utf8L (d :: r))
        rw [repG_miss _ _ _ (195 : UInt8) _ (fun q => n1 q.1), repG_miss _ _ _ (169 : UInt8) _ (fun q => n2 q.1)]
end Mine
end
section
open PySem PySem.W
set_option Elab.async false
namespace Mine
theorem repG_plain {a b : Nat} {z : List Nat} (hz : ∀ c ∈ z, plainC c) : ∀ (n : Nat) (l : List Nat), l.length ≤ n → (∀ c ∈ l, plainC c) → ∀ c ∈ repG a b z l, plainC c
  | _, [], _, _ => fun _ h => nomatch h
  | 0, _ :: _, h, _ => by simp at h
  | n + 1, [c], _, hp => hp
  | n + 1, c :: d :: r, hl, hp => by
    have hr : ∀ x ∈ d :: r, plainC x := fun x hx => hp x (List.mem_cons_of_mem _ hx)
    have ih1 := repG_plain (a := a) (b := b) hz n (d :: r) (by simp at hl ⊢; omega) hr
    have ih2 := repG_plain (a := a) (b := b) hz n r (by simp at hl; omega) (fun x hx => hr x (List.mem_cons_of_mem _ hx))
    intro x hx
    unfold repG at hx
    split at hx
    · rcases List.mem_append.mp hx with h | h
      · exact hz x h
      · exact ih2 x h
    · rcases List.mem_cons.mp hx with rfl | h
      · exact hp _ (List.mem_cons_self ..)
      · exact ih1 x h
theorem brep_utf8 {a b : Nat} (ha : a < 128) (hb : b < 128) (z l : List Nat) (zb : Array UInt8) (hz : zb.toList = utf8L z) (hp : ∀ c ∈ l, plainC c) : brep (utf8L l).toArray a.toUInt8 b.toUInt8 zb = (utf8L (rep2 a b z l)).toArray := by
  unfold brep
  rw [hz, rep2_eq]
  show (repG _ _ _ (utf8L l)).toArray = _
  rw [repG_utf8 ha hb z _ l (Nat.le_refl _) hp]
theorem rep2_plain {a b : Nat} {z l : List Nat} (hz : ∀ c ∈ z, plainC c) (hp : ∀ c ∈ l, plainC c) : ∀ c ∈ rep2 a b z l, plainC c := by
  rw [rep2_eq]; exact repG_plain hz _ l (Nat.le_refl _) hp
theorem pz (l : List Nat) (h : l.all (fun c => decide (c < 128)) = true) : ∀ c ∈ l, plainC c := fun c hc => .inl (by simpa using List.all_eq_true.mp h c hc)
/-- the chained reader over octets -/
theorem unqB_utf8 {l : List Nat} (hp : ∀ c ∈ l, plainC c) : unqB (utf8L l).toArray = (utf8L (unq l)).toArray := by
  have p1 := rep2_plain (a := 92) (b := 78) (pz [92, 110] rfl) hp
  have p2 := rep2_plain (a := 13) (b := 10) (pz [10] rfl) p1
  have p3 := rep2_plain (a := 92) (b := 110) (pz [10] rfl) p2
  have p4 := rep2_plain (a := 92) (b := 44) (pz [44] rfl) p3
  have p5 := rep2_plain (a := 92) (b := 59) (pz [59] rfl) p4
  unfold unqB
  rw [show (brep (utf8L l).toArray 92 78 #[92, 110]) = _ from brep_utf8 (a := 92) (b := 78) (by omega) (by omega) [92, 110] l _ (by decide +kernel) hp]
  rw [show (brep (utf8L _).toArray 13 10 #[10]) = _ from brep_utf8 (a := 13) (b := 10) (by omega) (by omega) [10] _ _ (by decide +kernel) p1]
  rw [show (brep (utf8L _).toArray 92 110 #[10]) = _ from brep_utf8 (a := 92) (b := 110) (by omega) (by omega) [10] _ _ (by decide +kernel) p2]
  rw [show (brep (utf8L _).toArray 92 44 #[44]) = _ from brep_utf8 (a := 92) (b := 44) (by omega) (by omega) [44] _ _ (by decide +kernel) p3]
  rw [show (brep (utf8L _).toArray 92 59 #[59]) = _ from brep_utf8 (a := 92) (b := 59) (by omega) (by omega) [59] _ _ (by decide +kernel) p4]
  rw [show (brep (utf8L _).toArray 92 92 #[92]) = _ from brep_utf8 (a := 92) (b := 92) (by omega) (by omega) [92] _ _ (by decide +kernel) p5]
  rfl
end Mine
end
section
open PySem PySem.W
set_option Elab.async false
namespace Mine
theorem rep1_plain {a : Nat} {z l : List Nat} (hz : ∀ c ∈ z, plainC c) (hp : ∀ c ∈ l, plainC c) : ∀ c ∈ rep1 a z l, plainC c := by
  intro x hx
  unfold rep1 at hx
  obtain ⟨c, hc, hx⟩ := List.mem_flatMap.mp hx
  split at hx
  · exact hz x hx
  · rw [List.mem_singleton.mp hx]; exact hp c hc
theorem esc_plain {l : List Nat} (hp : ∀ c ∈ l, plainC c) : ∀ c ∈ esc l, plainC c := by
  unfold esc
  exact rep1_plain (pz _ rfl) (rep1_plain (pz _ rfl) (rep2_plain (pz _ rfl) (rep1_plain (pz _ rfl) (rep1_plain (pz _ rfl) (rep1_plain (pz _ rfl) (rep2_plain (pz _ rfl) hp))))))
theorem escN_plain {l : List Nat} (hp : ∀ c ∈ l, plainC c) : ∀ k, ∀ c ∈ escN k l, plainC c
  | 0 => hp
  | k + 1 => esc_plain (escN_plain hp k)
theorem txt_plain : ∀ {ps : PL}, (∀ p ∈ ps, ∀ c ∈ p.2, plainC c) → ∀ c ∈ txt ps, plainC c
  | [], _ => fun _ h => nomatch h
  | (r, s) :: t, h => by
    intro x hx
    rcases List.mem_append.mp (show x ∈ List.replicate r 92 ++ (s ++ txt t) from hx) with hx | hx
    · rw [(List.mem_replicate.mp hx).2]; exact .inl (by omega)
    · rcases List.mem_append.mp hx with hx | hx
      · exact h _ (List.mem_cons_self ..) x hx
      · exact txt_plain (fun p hp => h p (List.mem_cons_of_mem _ hp)) x hx
theorem law_unqB {ps : Prs} (h : Bd7 ps) (ok : Ok (ps.map toP)) (hn : ∀ p ∈ ps.map toP, p.2 ≠ [110]) (hp : ∀ p ∈ ps.map toP, ∀ c ∈ p.2, plainC c) :
    unqB (utf8L (escS (textS ps)).cps.toList).toArray = (utf8L (textS (restA ps).1).cps.toList).toArray := by
  have e : (escS (textS ps)).cps.toList = esc (txt (ps.map toP)) := by rw [escS_eq, textS_txt]; rfl
  have e2 : textS (restA ps).1 = ofL (unq (escS (textS ps)).cps.toList) := by rw [← law_unq h ok hn, unqS_eq]
  rw [e2, unqB_utf8 (by rw [e]; exact esc_plain (txt_plain hp))]
  rfl
end Mine
end
section
open PySem PySem.W
set_option Elab.async false
namespace Mine
theorem cat_lenM (M : Nat) : ∀ ps : Prs, (∀ p ∈ ps, 0 ≤ p.1 ∧ p.1 ≤ M ∧ p.2.length ≤ 1) → (cat (ps.map elemS)).length ≤ (M + 1) * ps.length
  | [], _ => by simp [cat]
  | p :: ps, h => by
    have ih := cat_lenM M ps fun q hq => h q (List.mem_cons_of_mem _ hq)
    obtain ⟨h0, h1, h2⟩ := h p (List.mem_cons_self ..)
    rw [List.map_cons, cat_cons, List.length_append, elem_toList, List.length_append, List.length_replicate, len_toList, List.length_cons, Nat.mul_succ]
    omega
theorem raise_len {ps : Prs} {k : Int} (h : Bd7 ps) (h1 : 1 ≤ k) (h4 : k ≤ 4) : (textS (ps.map (raiseI k))).length ≤ 1161 := by
  have hn : (Str.ofString "n").length = 1 := by decide +kernel
  unfold textS
  rw [ofL_len]
  refine Nat.le_trans (cat_lenM 128 _ fun q hq => ?_) (by rw [List.length_map]; have := h.1; omega)
  obtain ⟨p, hp, rfl⟩ := List.mem_map.mp hq
  obtain ⟨h0, h7, hl⟩ := h.2 p hp
  have hk : k = 1 ∨ k = 2 ∨ k = 3 ∨ k = 4 := by omega
  unfold raiseI
  rcases hk with rfl | rfl | rfl | rfl
  all_goals
    simp only [show ((1 : Int) - 1).toNat = 0 from rfl, show ((2 : Int) - 1).toNat = 1 from rfl, show ((3 : Int) - 1).toNat = 2 from rfl, show ((4 : Int) - 1).toNat = 3 from rfl, show (1 : Int).toNat = 1 from rfl, show (2 : Int).toNat = 2 from rfl, show (3 : Int).toNat = 3 from rfl, show (4 : Int).toNat = 4 from rfl]
    split
    · dsimp only; refine ⟨by omega, by omega, by omega⟩
    · split
      · dsimp only; refine ⟨by omega, by omega, hl⟩
      · dsimp only; refine ⟨by omega, by omega, hl⟩
theorem text_len {ps : Prs} (h : Bd7 ps) : (textS ps).length ≤ 72 := by
  unfold textS
  rw [ofL_len]
  exact Nat.le_trans (cat_lenM 7 _ h.2) (by have := h.1; omega)
end Mine
end
section
open PySem PySem.W PySem.Calls PyProof.Rows Builtin Builtin.Str
set_option Elab.async false
set_option maxRecDepth 100000
set_option maxHeartbeats 1000000
namespace Mine
theorem check_meth {M : Model} {A : Around} {E : Value → Shared → Prop} {s : Shared} {i owner n : String} {self : Value} {rest : List Value} {kw : List (Str × Value)} {Q : Unit → Shared → Prop}
    (hk : builtinKind i = some .method) (hs : splitId i = some (owner, n)) (hi : Looks M s.heap (isInstance self (.type owner)) true) (ha : argsOk i ⟨self :: rest, kw⟩) (q : Q () s) :
    wpAny M A (checkBuiltinCall i ⟨self :: rest, kw⟩) Q E s := by
  simp only [checkBuiltinCall, hk, hs]
  refine wpAny_bind (hi.here ?_)
  simp only [Bool.not_true, Bool.false_eq_true, if_false]
  cases hsig : Manifest.signature? i with
  | none => exact wpAny_pure q
  | some sig =>
    simp only [argsOk, hsig] at ha
    have h2 : Bind.checkArgs i sig ⟨self :: rest, kw⟩ = pure () := ha
    show wpAny M A (Bind.checkArgs i sig ⟨self :: rest, kw⟩) Q E s
    rw [h2]; exact wpAny_pure q
section
variable {prog : Program} {w : World} {A : Around} {E : Value → Shared → Prop} {s : Shared} {h₀ : Heap} {L : Addr} {m : Str → Option Value} {news : List (Addr × Obj)} {K : Frag} {C x D : Addr} {ox : Obj} {es : List DictEntry} {n : Nat} {pl : Sem Bool} {name : Str}
/-- a method of a str subclass's object -/
theorem my_method_S {Q : Value × List Value → Shared → Prop} {f tf : Value} (F : Fr h₀ L s.heap m) (X₀ : K.In h₀) (I : InstAt s.heap x ox C (some (dictOf es n))) (hg : plainGet K C name = true)
    (hf : findIn K (.ref C) name = some (some f)) (ht : typeIn K f = some tf) (htf : (tf != .type "function" && tf != .type "method_descriptor" && tf != .type "wrapper_descriptor") = false) (hl : getL name es = some none) (h : Q (f, [.ref x]) s) : wpAny (model prog w) A (getMethod (.ref x) name pl) Q E s := by
  have X : K.In s.heap := X₀.keeps F.keep
  unfold getMethod specialOf
  refine wpAny_bind (wpAny_bind (I.type.here ((looks_findIn X (plainGet_of hg).1).here ?_)))
  dsimp only
  rw [PySem.F.canon_object_ga, if_neg (by decide)]
  refine wpAny_bind (wpAny_bind (I.type.here ((looks_findIn X (plainGet_of hg).2).here ?_)))
  refine wpAny_bind (wpAny_bind (I.type.here ((looks_findIn X hf).here (wpAny_bind ((looks_typeIn X ht).here ?_)))))
  rw [htf, if_neg (by decide +kernel)]
  refine wpAny_bind (wpAny_loadPart I.at_ ?_)
  have hd := I.dict
  cases e : ox.dict with
  | none => exact wpAny_bind (wpAny_rule (wpAny_pure h))
  | some dx =>
    rw [e] at hd
    refine wpAny_bind (wpAny_bind (wpAny_loadPart hd ?_))
    rw [nsLook_of (show lookIn name (dictOf es n) = some none by rw [lookIn_dict, hl])]
    refine wpAny_pure ?_
    exact wpAny_bind (wpAny_rule (wpAny_pure h))
/-- str.replace on a str subclass's object -/
theorem my_replace_ref {xs y z : Str} {tx u v : Tok} {Q : Value → Shared → Prop} (k₀ : Nat) (F : Fr h₀ L s.heap m) (X₀ : K.In h₀) (I : InstAt s.heap x ox C (some (dictOf es n))) (hm : mroIn K C (.type "str") = some true) (hox : ox.data = .prim (.str xs tx))
    (h1 : @LE.le Nat _ 1 s.toks) (hu : @Ne Nat u 0) (hv : @Ne Nat v 0) (huv : @Ne Nat u v) (hyz : (y == z) = false) (hz : z.length = k₀) (hx : xs.length + (xs.length + 1) * k₀ ≤ 16777216)
    (hq : ∀ t' k, 1 ≤ k → (Txt.replace xs y z).length ≤ xs.length + (xs.length + 1) * k₀ → Q (.str (Txt.replace xs y z) t') { s with toks := k }) :
    wpAny (model prog w) A (call (.builtin "str.replace") [.ref x, .str y u, .str z v]) Q E s := by
  subst hz
  refine wpAny_with_toks h1 ?_
  have X : K.In s.heap := X₀.keeps F.keep
  obtain ⟨hh, g, d, t, os⟩ := s
  have sub : Looks (model prog w) hh (isInstance (.ref x) (.type "str")) true := I.type.andThen (looks_mroIn X hm)
  have hl : tooLong (xs.length + (occurrences xs y 0 xs.length (xs.length + 1)).length * z.length) = false := by
    have h1 := StrLaws.occ_length_le xs y 0 xs.length (xs.length + 1)
    have h2 : (occurrences xs y 0 xs.length (xs.length + 1)).length * z.length ≤ (xs.length + 1) * z.length := Nat.mul_le_mul_right _ h1
    unfold tooLong sizeLine
    exact decide_eq_false (by omega)
  refine wpAny_call ?_
  refine codeAny_call_builtin PySem.F.slot_str_replace.plain PySem.F.entry_str_replace ?_
  refine @check_meth (model prog w) _ _ ⟨hh, g, d, t, os⟩ "str.replace" "str" "replace" (.ref x) [.str y u, .str z v] [] _ (by rw [builtinKind_eq_fast]; decide +kernel) (by decide +kernel) sub (PySem.F.args_str_replace_3 _ _ _) ?_
  unfold «str.replace» strSelf textOf
  refine wpAny_bind (wpAny_bind (wpAny_bind ?_))
  have L5 : Looks (model prog w) hh (asStr? (.ref x)) (some xs) := by
    refine (Looks.ld I.at_).andThen ?_
    rw [hox]
    exact .now
  refine L5.at ?_
  refine wpAny_pure (wpAny_pure ?_)
  show wpAny _ _ (if ((occurrences xs y 0 xs.length (xs.length + 1)).isEmpty || (y.length == 0 && z.length == 0)) = true then (do rule "str.replace.nothing"; ret (← strUnchanged (.ref x) xs)) else
          (do let same ← isSame (.str y u) (.str z v)
              if same = true then (do rule "str.replace.old-is-new"; ret (← strUnchanged (.ref x) xs)) else
              if tooLong (xs.length + (occurrences xs y 0 xs.length (xs.length + 1)).length * z.length) = true then unsupported "str.replace:memory" else
              retStr (glued z (partsBetween xs (occurrences xs y 0 xs.length (xs.length + 1)) y.length)))) _ _ _
  have hq' := fun t' k hk => hq t' k hk (replace_len xs y z)
  unfold Txt.replace at hq'
  cases hc : ((occurrences xs y 0 xs.length (xs.length + 1)).isEmpty || (y.length == 0 && z.length == 0))
  · rw [hc] at hq'
    simp only [Bool.false_eq_true, if_false] at hq' ⊢
    rw [isSame_str_other y z u v (by simp [hu, hv]) (by simp [huv]) hyz, hl]
    refine wpAny_bind (wpAny_pure ?_)
    simp only [Bool.false_eq_true, if_false]
    exact wpAny_bind (wpAny_mkStr (wpAny_pure (fun hk => hq' _ _ hk)) (fits_replaced y hx))
  · rw [hc] at hq'
    simp only [if_true] at hq' ⊢
    exact wpAny_bind (wpAny_rule (wpAny_bind (wpAny_mkStr (wpAny_pure (fun hk => hq' _ _ hk)) (by rw [sizeLine_eq]; omega))))
end
end Mine
end
section
open PySem PySem.W PyProof.Rows
set_option Elab.async false
set_option maxRecDepth 100000
namespace Mine
local macro_rules | `(tactic| walk_at "own pad 0") => `(tactic| skip)
local macro_rules | `(tactic| walk_at "own pad 1") => `(tactic| skip)
local macro_rules | `(tactic| walk_at "own pad 2") => `(tactic| skip)
local macro_rules | `(tactic| k_room) => `(tactic| ktr_room)
local macro_rules | `(tactic| k_mem) => `(tactic| ((repeat (first | assumption | refine List.mem_cons_of_mem _ ?_)); done))
local macro_rules | `(tactic| k_inst) => `(tactic| (refine' inst_newsD ?N ?h1 ?h2 ?h3; (case N => k_asm); (case h1 => k_mem); (case h2 => k_mem); (case h3 => rfl)))
local macro_rules | `(tactic| walk_at "call builtin:isinstance") => `(tactic| (k_here; k_dflt (first
  | (refine' my_isinst_tup ?k1 ?k2 ?k3 ?k4 ?k5 ?k6 ?k7 ?_; (case k1 => k_asm); (case k2 => k_asm); (case k3 => k_asm); (case k4 => k_inst); (case k5 => k_is); (case k6 => k_mem); (case k7 => kernel_rfl))
  | (refine' my_isinst_str ?k1 ?k2 ?k4 ?k5 ?_; (case k1 => k_asm); (case k2 => k_asm); (case k4 => k_inst); (case k5 => k_is)))))
local macro_rules | `(tactic| walk_at "forall") => `(tactic| ((with_reducible show (@LE.le Nat _ 1 _) → _); (try dsimp only); intro hT9))
local macro_rules | `(tactic| walk_at "execs cons") => `(tactic| k_dflt (refine execs_cons_toks (by first | assumption | (dsimp only; omega)) ?_))
local macro_rules | `(tactic| walk_at "call builtin:str.replace") => `(tactic| ((with_reducible show wpAny _ _ (call (Value.builtin "str.replace") [Value.str _ _, Value.str _ _, Value.str _ _]) _ _ _); k_dflt (first | refine my_replace 1 (by dsimp only; omega) (by omega) (by omega) (by omega) (by decide +kernel) (by decide +kernel) (by omega) ?_ | refine my_replace 2 (by dsimp only; omega) (by omega) (by omega) (by omega) (by decide +kernel) (by decide +kernel) (by omega) ?_); intro t9 k9 hk9 hl9; (try dsimp only)))
local macro_rules | `(tactic| walk_at "call builtin:str.replace") => `(tactic| ((with_reducible show wpAny _ _ (call (Value.builtin "str.replace") [Value.ref _, Value.str _ _, Value.str _ _]) _ _ _); k_dflt (refine' my_replace_ref 1 ?k1 ?k2 ?k3 ?k4 ?k5 ?k6 ?k7 ?k8 ?k9 ?k10 ?k11 ?k12 ?_; (case k1 => k_asm); (case k2 => k_asm); (case k3 => k_inst); (case k4 => k_is); (case k5 => rfl); (case k6 => (dsimp only; omega)); (case k7 => omega); (case k8 => omega); (case k9 => omega); (case k10 => decide +kernel); (case k11 => decide +kernel); (case k12 => omega)); intro t9 k9 hk9 hl9; (try dsimp only)))
local macro_rules | `(tactic| walk_at "getMethod ref") => `(tactic| (k_here; k_dflt (refine' my_method_S ?k1 ?k2 ?k3 ?k4 ?k5 ?k6 ?k7 ?k8 ?_; (case k1 => k_asm); (case k2 => k_asm); (case k3 => k_inst); (case k4 => k_is); (case k5 => k_is); (case k6 => k_is); (case k7 => decide +kernel); (case k8 => rfl))))
set_option maxHeartbeats 4000000 in
theorem escv_c (w : World) (mean : ExcName → Option Value) (mg mb : Str → Option Value) (x : Str) (xa dx : Addr) (tx : Tok) (sl : Array (Option Value)) :
   CCt w mean mg mb (.ref 61) [.ref xa] (fun news => x.length ≤ 4096 ∧ (xa, (⟨.ref 335, some dx, .prim (.str x tx), sl⟩ : Obj)) ∈ news ∧ (dx, dictOf [] 0) ∈ news) (fun news v news' => news' = news ∧ ∃ t', v = .str (escS x) t') := by
  unfold CCt
  k_fill
  w_top off
  intro dp un gd cn cs a ccd cl outer A₀ base h₀ L m news s Q E B F X N T hk hdp hun htk ⟨hx, hm1, hm2⟩ hret
  refine wpAny_call ?_
  k_dflt cell_enter
  k_steps
  exact hret _ _ _ _ (by assumption) (cb_drop (by assumption) (sub_cons sub_self)) ⟨rfl, _, rfl⟩
end Mine
end
section
open PySem PySem.W PyProof.Rows
set_option Elab.async false
set_option maxRecDepth 100000
namespace Mine
local macro_rules | `(tactic| walk_at "own pad 0") => `(tactic| skip)
local macro_rules | `(tactic| walk_at "own pad 1") => `(tactic| skip)
local macro_rules | `(tactic| walk_at "own pad 2") => `(tactic| skip)
local macro_rules | `(tactic| walk_at "own pad 3") => `(tactic| skip)
local macro_rules | `(tactic| walk_at "own pad 4") => `(tactic| skip)
local macro_rules | `(tactic| walk_at "own pad 5") => `(tactic| skip)
local macro_rules | `(tactic| walk_at "own pad 6") => `(tactic| skip)
/-- a def's contract, one that calls others, at a time behind the first -/
def CC2t (w : World) (mean : ExcName → Option Value) (mg mb : Str → Option Value) (f : Value) (vs : List Value) (Pre : Led → Prop) (Post : Led → Value → Led → Prop) : Prop :=
  ∀ (dp un : Nat) (gd : Option (List Code)) (cn : Str) (cs : Scope) (a : Addr) (ccd : Value) (cl : List (Str × Addr)) (outer : List Env) (A₀ : Around) (base h₀ : Heap) (L : Addr) (m : Str → Option Value) (news : Led) (s : Shared) (Q E : Value → Shared → Prop),
    Below A₀ base outer h₀ → Fr h₀ L s.heap m → Frag.In (Mine.hd.heap_39 w.params) h₀ → News h₀ L s.heap news → TopL mean mg mb h₀ → cs.kind = .function → dp + 24 < recursionLimit → un + 192 < cLine → 1 ≤ s.toks → Pre news →
    (∀ (v : Value) (h' : Heap) (tk' : Nat) (news' : Led), Fr h₀ L h' m → News h₀ L h' news' → Post news v news' → Q v { s with heap := h', toks := tk' }) →
    wpAny (model PySem.Challenge.rw_fc0078_01.row.toRowW.prog w) (ktrTop dp un gd cn cs L a ccd cl outer) (call f vs) Q E s
theorem CC2t.use {w : World} {mean : ExcName → Option Value} {mg mb : Str → Option Value} {f : Value} {vs : List Value} {Pre : Led → Prop} {Post : Led → Value → Led → Prop} (h : CC2t w mean mg mb f vs Pre Post)
    {dp un : Nat} {gd : Option (List Code)} {cn : Str} {cs : Scope} {a : Addr} {ccd : Value} {cl : List (Str × Addr)} {outer : List Env} {A₀ : Around} {base h₀ : Heap} {L : Addr} {m : Str → Option Value} {news : Led} {s : Shared} {Q E : Value → Shared → Prop}
    (B : Below A₀ base outer h₀) (F : Fr h₀ L s.heap m) (X : Frag.In (Mine.hd.heap_39 w.params) h₀) (N : News h₀ L s.heap news) (T : TopL mean mg mb h₀) (hk : cs.kind = .function) (hdp : dp + 24 < recursionLimit) (hun : un + 192 < cLine) (htk : 1 ≤ s.toks) (hpre : Pre news)
    (hret : ∀ (v : Value) (h' : Heap) (tk' : Nat) (news' : Led), Fr h₀ L h' m → News h₀ L h' news' → Post news v news' → Q v { s with heap := h', toks := tk' }) :
    wpAny (model PySem.Challenge.rw_fc0078_01.row.toRowW.prog w) (ktrTop dp un gd cn cs L a ccd cl outer) (call f vs) Q E s :=
  h dp un gd cn cs a ccd cl outer A₀ base h₀ L m news s Q E B F X N T hk hdp hun htk hpre hret
theorem gm_encode {M : Model} {A : Around} {E : Value → Shared → Prop} {s : Shared} {x : Str} {t : Tok} {pl : Sem Bool} {Q : Value × List Value → Shared → Prop} (h : Q (.builtin "str.encode", [.str x t]) s) : wpAny M A (getMethod (.str x t) "encode" pl) Q E s := by
  with_reducible exact GM.of (.str x t) (typeIs_str _ _ _) PySem.F.slot_str_encode PySem.F.type_str_encode GM.noRef h
local macro_rules | `(tactic| k_room) => `(tactic| ktr_room)
local macro_rules | `(tactic| walk_at "forall") => `(tactic| ((with_reducible show (@LE.le Nat _ 1 _) → _); (try dsimp only); intro hT9))
local macro_rules | `(tactic| walk_at "execs cons") => `(tactic| k_dflt (refine execs_cons_toks (by first | assumption | (dsimp only; omega)) ?_))
local macro_rules | `(tactic| walk_at "call ref") => `(tactic| ((with_reducible show wpAny _ _ (call (Value.ref 61) _ _) _ _ _); refine Held.out ?_))
local macro_rules | `(tactic| walk_at "call builtin:str.encode") => `(tactic| refine Held.out ?_)
local macro_rules | `(tactic| walk_at "getMethod str") => `(tactic| (k_here; k_dflt (refine gm_encode ?_)))
set_option maxHeartbeats 4000000 in
theorem toical_c (w : World) (mean : ExcName → Option Value) (mg mb : Str → Option Value) (x : Str) (xa dx : Addr) (tx : Tok) (sl : Array (Option Value)) :
   CC2t w mean mg mb (.ref 313) [.ref xa] (fun news => x.length ≤ 4096 ∧ (escS x).length ≤ 4096 ∧ (∀ c ∈ (escS x).cps.toList, plainC c) ∧ (xa, (⟨.ref 335, some dx, .prim (.str x tx), sl⟩ : Obj)) ∈ news ∧ (dx, dictOf [] 0) ∈ news)
     (fun news v news' => news' = news ∧ ∃ t', v = .bytes (utf8L (escS x).cps.toList).toArray t') := by
  unfold CC2t
  k_fill
  w_top off
  intro dp un gd cn cs a ccd cl outer A₀ base h₀ L m news s Q E B F X N T hk hdp hun htk ⟨hx, hx2, hpl, hm1, hm2⟩ hret
  refine wpAny_call ?_
  k_dflt cell_enter
  k_steps
  show wpAny _ _ _ _ _ _
  refine wpAny_with_toks (show @LE.le Nat _ 1 _ from by dsimp only; omega) ?_
  refine (escv_c w mean mg mb x xa dx tx sl).use (by assumption) (by assumption) (by assumption) (by assumption) (by assumption) (by rfl) (by ktr_room) (by ktr_units) (by dsimp only; omega) ?hpre ?hret
  case hpre => exact ⟨hx, hm1, hm2⟩
  case hret =>
    rintro v h9 tk9 news9 F9 N9 ⟨rfl, t9, rfl⟩
    dsimp only
    intro hT8
    k_steps
    show wpAny _ _ _ _ _ _
    refine my_encode (by dsimp only; omega) hpl (by omega) ?_
    intro t7 k7 hk7
    k_steps
    exact hret _ _ _ _ (by assumption) (by assumption) ⟨rfl, _, rfl⟩
end Mine
end
section
open PySem PySem.W PyProof.Rows
set_option Elab.async false
set_option maxRecDepth 100000
namespace Mine
def usualL : List Int := [2, 1, 10, 19, 56, 9, 26, 48, 69, 3]
local macro_rules | `(tactic| k_room) => `(tactic| ktr_room)
set_option maxHeartbeats 4000000 in
theorem usual_c (w : World) (mean : ExcName → Option Value) (mg mb : Str → Option Value) :
   CC w mean mg mb (.ref 347) [] (fun _ => True) (fun news v news' => ∃ l vs, v = .ref l ∧ news' = (l, listOf (List.toArray vs) 0) :: news ∧ (∀ p ∈ news, p.1 < l) ∧ IntsAre vs usualL) := by
  unfold CC
  k_fill
  w_top off
  intro dp un gd cn cs a ccd cl outer A₀ base h₀ L m news s Q E B F X N T hk hdp hun _ hret
  refine wpAny_call ?_
  k_dflt cell_enter
  k_steps
  exact hret _ _ _ _ (by assumption) (by assumption) ⟨_, _, rfl, rfl, (by assumption), (by unfold usualL; repeat (first | exact IntsAre.nil | refine IntsAre.cons _ _ ?_))⟩
end Mine
end
section
open PySem PySem.W PyProof.Rows PyProof.Rows.LCg
set_option Elab.async false
set_option maxRecDepth 100000
namespace Mine
theorem ints10 {vs : List Value} {ns : List Int} (h : IntsAre vs ns) (hl : ns.length = 10) : ∃ n0 n1 n2 n3 n4 n5 n6 n7 n8 n9 : Int, ∃ t0 t1 t2 t3 t4 t5 t6 t7 t8 t9 : Tok, vs = [.int n0 t0, .int n1 t1, .int n2 t2, .int n3 t3, .int n4 t4, .int n5 t5, .int n6 t6, .int n7 t7, .int n8 t8, .int n9 t9] ∧ ns = [n0, n1, n2, n3, n4, n5, n6, n7, n8, n9] := by
  rcases h with _ | ⟨n0, t0, h⟩; · simp at hl
  rcases h with _ | ⟨n1, t1, h⟩; · simp at hl
  rcases h with _ | ⟨n2, t2, h⟩; · simp at hl
  rcases h with _ | ⟨n3, t3, h⟩; · simp at hl
  rcases h with _ | ⟨n4, t4, h⟩; · simp at hl
  rcases h with _ | ⟨n5, t5, h⟩; · simp at hl
  rcases h with _ | ⟨n6, t6, h⟩; · simp at hl
  rcases h with _ | ⟨n7, t7, h⟩; · simp at hl
  rcases h with _ | ⟨n8, t8, h⟩; · simp at hl
  rcases h with _ | ⟨n9, t9, h⟩; · simp at hl
  rcases h with _ | ⟨n10, t10, h⟩
  · exact ⟨n0, n1, n2, n3, n4, n5, n6, n7, n8, n9, t0, t1, t2, t3, t4, t5, t6, t7, t8, t9, rfl, rfl⟩
  · simp at hl
theorem nums_ok (l : List Int) : ((l.take 10).map (fun b => Int.fmod b 72) ++ usualL.drop ((((l.take 10).map (fun b => Int.fmod b 72)).length : Nat) : Int).toNat).length = 10 ∧ ∀ n ∈ ((l.take 10).map (fun b => Int.fmod b 72) ++ usualL.drop ((((l.take 10).map (fun b => Int.fmod b 72)).length : Nat) : Int).toNat), 0 ≤ n ∧ n < 72 := by
  constructor
  · simp only [List.length_append, List.length_map, List.length_take, List.length_drop]
    have : usualL.length = 10 := rfl
    omega
  · intro n hn
    rcases List.mem_append.mp hn with h | h
    · obtain ⟨b, _, rfl⟩ := List.mem_map.mp h
      exact ⟨Int.fmod_nonneg_of_pos b (by decide), Int.fmod_lt_of_pos b (by decide)⟩
    · have h2 := List.mem_of_mem_drop h
      have : ∀ m ∈ usualL, 0 ≤ m ∧ m < 72 := by decide
      exact this n h2
section
variable {prog : Program} {w : World} {A : Around} {E : Value → Shared → Prop} {s : Shared} {h₀ : Heap} {L : Addr} {m : Str → Option Value} {env : Env}
theorem ints_at {vs : List Value} {ns : List Int} (h : IntsAre vs ns) : ∀ (i : Nat) (v : Value), vs[i]? = some v → ∃ n t, ns[i]? = some n ∧ v = .int n t := by
  induction h with
  | nil => intro i v e; simp at e
  | cons n t _ ih =>
    intro i v e
    cases i with
    | zero => simp at e; subst e; exact ⟨_, _, rfl, rfl⟩
    | succ i => exact ih i v (by simpa using e)
/-- a comprehension over ints: an invariant over what was taken, what was made, the ledger -/
theorem compI_ind {elt : Expr} {x : Str} {scope : Scope} {cl : List (Str × Addr)} {S : Led → Prop} {Fin : List Value → Led → Prop} {vs : List Value} {ns : List Int} (hA : IntsAre vs ns) (R : List Int → List Value → Led → Prop)
    (turn : ∀ (pre : List Int) (p : Int) (post : List Int) (ys : List Value) (nw : Led) (I : Addr) (oI : Obj) (C : Addr) (oC : Obj) (D : Addr) (m₂ : Str → Option Value) (h : Heap) (tk : Nat) (E' : Value → Shared → Prop) (t1 : Tok), ns = pre ++ p :: post → R pre ys nw → NsObj oC m₂ → m₂ x = some (.int p t1) →
      Fr h₀ L h m → News h₀ L h ((I, oI) :: (C, oC) :: (D, lst ys) :: nw) → Off3 I C D nw → ((@Ne Nat I C) ∧ (@Ne Nat I D) ∧ (@Ne Nat C D)) →
      wpAny (model prog w) A (eval elt (compEnvC scope cl C env)) (CompEnd h₀ L m { s with heap := h, toks := tk } I oI C oC D (lst ys) S (fun y nw' => R (pre ++ [p]) (ys ++ [y]) nw')) E' { s with heap := h, toks := tk })
    (fin : ∀ ys nw, R ns ys nw → Fin ys nw) :
    ∀ (n i : Nat) (ys : List Value) (nw : Led), i + n = ns.length → R (ns.take i) ys nw → CompRest prog w A h₀ L m env elt x scope cl s S (fun i v => vs.toArray[i]? = some v) Fin n i ys nw := by
  intro n
  induction n with
  | zero =>
    intro i ys nw hi hR
    have : i = ns.length := by omega
    subst this
    rw [List.take_length] at hR
    exact CompRest.zero (fin ys nw hR)
  | succ n ih =>
    intro i ys nw hi hR
    refine CompRest.succ ?_
    intro v I oI C oC D m₂ h tk E' hv hC hx F N off ne
    obtain ⟨p, t1, hp, rfl⟩ := ints_at hA i v (by simpa using hv)
    have hlt : i < ns.length := (List.getElem?_eq_some_iff.mp hp).1
    have hs : ns.take (i + 1) = ns.take i ++ [p] := by simp [List.take_add_one, hp]
    have e : ns = ns.take i ++ p :: ns.drop (i + 1) := by
      have ht := List.take_append_drop (i + 1) ns
      rw [hs, List.append_assoc] at ht
      exact ht.symm
    refine wpAny_mono (turn _ p _ ys nw I oI C oC D m₂ h tk E' t1 e hR hC hx F N off ne) (fun y s₂ hq => ?_) fun _ _ e => e
    obtain ⟨h', tk', nw', e', F', N', off', hS, hr⟩ := hq
    exact ⟨h', tk', nw', e', F', N', off', hS, ih (i + 1) _ nw' (by omega) (by rw [hs]; exact hr)⟩
end
def signsS : Str := Str.ofString "nN,;:a\n\r\u00e9"
def sgI (n : Int) : Int × Str := (Int.fmod n 8, Txt.item signsS (Int.fdiv n 8))
theorem two_led {h₀ h : Heap} {L a b : Addr} {oa ob : Obj} (N : News h₀ L h [(a, oa), (b, ob)]) : ∃ led : Led, (a, oa) ∈ led ∧ (b, ob) ∈ led ∧ News h₀ L h led := ⟨_, List.mem_cons_self .., List.mem_cons_of_mem _ (List.mem_cons_self ..), N⟩
theorem two_ledK {h₀ h : Heap} {L a b : Addr} {oa ob : Obj} {P : Prop} (N : News h₀ L h [(a, oa), (b, ob)]) (k : ∀ led : Led, (a, oa) ∈ led → (b, ob) ∈ led → News h₀ L h led → P) : P := k _ (List.mem_cons_self ..) (List.mem_cons_of_mem _ (List.mem_cons_self ..)) N
theorem pairs_absK {h₀ h : Heap} {L : Addr} {news : Led} {v : Value} {ps : Prs} {P : Prop} (N : News h₀ L h news) (hp : PairsIn news v ps) (k : ∀ led : Led, PairsIn led v ps → News h₀ L h led → P) : P := k _ hp N
def psOf (n1 n2 n3 n4 n5 n6 n7 n8 n9 : Int) : Prs := [n1, n2, n3, n4, n5, n6, n7, n8].map sgI ++ [(Int.fmod n9 8, Str.ofString "")]
theorem comp_end_tup {h₀ : Heap} {L I C D T : Addr} {m : Str → Option Value} {s₁ : Shared} {oI oC oD oT : Obj} {S : Led → Prop} {rest : Value → Led → Prop} {h' : Heap} {tk : Nat} {nw : Led}
    (F : Fr h₀ L h' m) (N : News h₀ L h' ((T, oT) :: (I, oI) :: (C, oC) :: (D, oD) :: nw)) (n1 : @Ne Nat T I) (n2 : @Ne Nat T C) (n3 : @Ne Nat T D) (off : Off3 I C D nw) (hS : S ((T, oT) :: nw)) (r : rest (.ref T) ((T, oT) :: nw)) :
    CompEnd h₀ L m s₁ I oI C oC D oD S rest (.ref T) { s₁ with heap := h', toks := tk } :=
  CompEnd.intro F N ((T, oT) :: nw) (fun q hq => by
    simp only [List.mem_cons] at hq ⊢
    rcases hq with h | h | h | h | h <;> simp [h]) ⟨⟨n1, n2, n3⟩, off⟩ hS r
end Mine
end
section
open PySem PySem.W
set_option Elab.async false
set_option maxRecDepth 100000
namespace Mine
theorem rep1_ne {a : Nat} {z l : List Nat} (hz : z ≠ []) (h : l ≠ []) : rep1 a z l ≠ [] := by
  cases l with
  | nil => exact absurd rfl h
  | cons c t =>
    rw [rep1_cons]
    split
    · simp [hz]
    · simp
theorem rep2_ne0 {a b : Nat} {z : List Nat} (hz : z ≠ []) {l : List Nat} (h : l ≠ []) : rep2 a b z l ≠ [] := by
  match l, h with
  | [c], _ => simp [rep2]
  | c :: d :: t, _ =>
    unfold rep2
    split
    · simp [hz]
    · simp
theorem esc_ne {l : List Nat} (h : l ≠ []) : esc l ≠ [] := by
  unfold esc
  exact rep1_ne (by simp) (rep1_ne (by simp) (rep2_ne0 (by simp) (rep1_ne (by simp) (rep1_ne (by simp) (rep1_ne (by simp) (rep2_ne0 (by simp) h))))))
theorem escN_ne {l : List Nat} (h : l ≠ []) : ∀ k, escN k l ≠ []
  | 0 => h
  | k + 1 => esc_ne (escN_ne h k)
theorem escS_ofL (l : List Nat) : escS (ofL l) = ofL (esc l) := escS_eq (ofL l)
theorem toList_ofL (l : List Nat) : (ofL l).cps.toList = l := rfl

/-- what the law asks of its pairs -/
structure Scr (ps : Prs) : Prop where
  bd : Bd7 ps
  ok : Ok (ps.map toP)
  pl : ∀ p ∈ ps.map toP, ∀ c ∈ p.2, plainC c
  ne : txt (ps.map toP) ≠ []
/-- written i times -/
def up (ps : Prs) (i : Nat) : Str := ofL (escN i (txt (ps.map toP)))
theorem up_zero (ps : Prs) : up ps 0 = textS ps := (textS_txt ps).symm
theorem up_succ {ps : Prs} (h : Scr ps) (i : Nat) : up ps (i + 1) = textS ((restA ps).1.map (raiseI ((i + 1 : Nat) : Int))) := law_escN h.bd h.ok i
theorem up_esc (ps : Prs) (i : Nat) : escS (up ps i) = up ps (i + 1) := escS_ofL _
theorem up_len {ps : Prs} (h : Scr ps) (i : Nat) (hi : i ≤ 4) : (up ps i).length ≤ 4096 := by
  cases i with
  | zero => rw [up_zero]; have := text_len h.bd; omega
  | succ i => rw [up_succ h]; have := raise_len (rest_bd7 h.bd) (k := ((i + 1 : Nat) : Int)) (by omega) (by omega); omega
theorem up_plain {ps : Prs} (h : Scr ps) (i : Nat) : ∀ c ∈ (up ps i).cps.toList, plainC c := escN_plain (txt_plain h.pl) i
theorem up_ne {ps : Prs} (h : Scr ps) (i : Nat) : (up ps i).cps.toList ≠ [] := escN_ne h.ne i
/-- still to be read i times -/
def dn (ps : Prs) (i : Nat) : Str := if i = 0 then textS (restA ps).1 else textS ((restA ps).1.map (raiseI (i : Int)))
theorem dn_up {ps : Prs} (h : Scr ps) (i : Nat) (hi : 1 ≤ i) : dn ps i = up ps i := by
  obtain ⟨j, rfl⟩ : ∃ j, i = j + 1 := ⟨i - 1, by omega⟩
  rw [up_succ h]; rfl
theorem dn_len {ps : Prs} (h : Scr ps) (i : Nat) (hi : i ≤ 4) : (dn ps i).length ≤ 4096 := by
  unfold dn
  split
  · have := text_len (rest_bd7 h.bd); omega
  · have := raise_len (rest_bd7 h.bd) (k := (i : Int)) (by omega) (by omega); omega
theorem dn_un {ps : Prs} (h : Scr ps) (i : Nat) : unescS (dn ps (i + 1)) = dn ps i := by
  have e : dn ps (i + 1) = ofL (txt ((restF false (ps.map toP)).map (raiseP (i + 1)))) := by
    show textS ((restA ps).1.map (raiseI ((i + 1 : Nat) : Int))) = _
    rw [textS_txt, map_raise (rest_nonneg h.bd) (by omega), restA_toP (bd7_nonneg h.bd), Int.toNat_natCast]
  rw [e]
  show ofL (unesc (txt ((restF false (ps.map toP)).map (raiseP (i + 1))))) = _
  cases i with
  | zero =>
    have := unescN_txt _ (restF_ok _ false h.ok) 0
    have e2 : unesc (txt ((restF false (ps.map toP)).map (raiseP (0 + 1)))) = txt (restF false (ps.map toP)) := this
    rw [e2]
    show _ = textS (restA ps).1
    rw [textS_txt, restA_toP (bd7_nonneg h.bd)]
  | succ i =>
    have := unescN_part _ (restF_ok _ false h.ok) i 1
    have e2 : unesc (txt ((restF false (ps.map toP)).map (raiseP (i + 1 + 1)))) = txt ((restF false (ps.map toP)).map (raiseP (i + 1))) := this
    rw [e2]
    show _ = textS ((restA ps).1.map (raiseI ((i + 1 : Nat) : Int)))
    rw [textS_txt, map_raise (rest_nonneg h.bd) (by omega), restA_toP (bd7_nonneg h.bd), Int.toNat_natCast]
/-! the script's pairs -/
def calmI (p : Int × Str) : Int × Str := (p.1, if (p.2 == Str.ofString "n") = true then Str.ofString "e" else p.2)
theorem sg_item : ∀ k : Fin 9, ∃ c, (Txt.item signsS ((k.val : Nat) : Int)).cps.toList = [c] ∧ c ≠ 92 ∧ (c < 128 ∨ c = 233) := by
  intro k
  have h : ∀ k : Fin 9, (match (Txt.item signsS ((k.val : Nat) : Int)).cps.toList with | [c] => decide (c ≠ 92 ∧ (c < 128 ∨ c = 233)) | _ => false) = true := by decide +kernel
  have := h k
  split at this
  · rename_i c e
    exact ⟨c, e, of_decide_eq_true this⟩
  · cases this
def SgOk (p : Int × Str) : Prop := 0 ≤ p.1 ∧ p.1 ≤ 7 ∧ ∃ c, p.2.cps.toList = [c] ∧ c ≠ 92 ∧ (c < 128 ∨ c = 233)
theorem sg_ok {n : Int} (h0 : 0 ≤ n) (h1 : n < 72) : SgOk (sgI n) := by
  have e1 : Int.fdiv n 8 = n / 8 := Int.fdiv_eq_ediv_of_nonneg _ (by decide)
  have e2 : Int.fmod n 8 = n % 8 := Int.fmod_eq_emod_of_nonneg _ (by decide)
  unfold SgOk sgI
  rw [e1, e2]
  refine ⟨by dsimp only; omega, by dsimp only; omega, ?_⟩
  have hk : (n / 8).toNat < 9 := by omega
  have := sg_item ⟨(n / 8).toNat, hk⟩
  have e3 : (((n / 8).toNat : Nat) : Int) = n / 8 := by omega
  rw [e3] at this
  exact this
theorem calm_ok {p : Int × Str} (h : SgOk p) : SgOk (calmI p) := by
  obtain ⟨h0, h1, c, e, hc⟩ := h
  refine ⟨h0, h1, ?_⟩
  unfold calmI
  dsimp only
  split
  · exact ⟨101, by decide +kernel, by decide, by decide⟩
  · exact ⟨c, e, hc⟩
theorem scr_of {ps : Prs} {r : Int} {e : Str} (hl : ps.length = 8) (h : ∀ p ∈ ps, SgOk p) (h0 : 0 ≤ r) (h7 : r ≤ 7) (he : e.cps.toList = []) : Scr (ps ++ [(r, e)]) := by
  have hlen : ∀ p, SgOk p → p.2.length = 1 := fun p ⟨_, _, c, e, _⟩ => by rw [← len_toList, e]; rfl
  have hok : ∀ ps : Prs, (∀ p ∈ ps, SgOk p) → Ok ((ps ++ [(r, e)]).map toP) := by
    intro ps
    induction ps with
    | nil => intro _; exact .inl ⟨he, rfl⟩
    | cons p t ih =>
      intro h
      refine .inr ⟨?_, ih fun q hq => h q (List.mem_cons_of_mem _ hq)⟩
      obtain ⟨_, _, c, e, hc, _⟩ := h p (List.mem_cons_self ..)
      refine ⟨?_, ?_, ?_⟩
      · rw [e]; simp; exact fun x => hc x.symm
      · rw [e]; simp
      · rw [e]; exact .inl rfl
  refine ⟨⟨by simp [hl], fun p hp => ?_⟩, hok ps h, ?_, ?_⟩
  · rcases List.mem_append.mp hp with hp | hp
    · have := h p hp
      exact ⟨this.1, this.2.1, by rw [hlen p this]; exact Nat.le_refl _⟩
    · rw [List.mem_singleton.mp hp]
      exact ⟨h0, h7, by rw [← len_toList]; show e.cps.toList.length ≤ 1; rw [he]; simp⟩
  · intro q hq c hc
    obtain ⟨p, hp, rfl⟩ := List.mem_map.mp hq
    rcases List.mem_append.mp hp with hp | hp
    · obtain ⟨_, _, d, e, _, hd⟩ := h p hp
      have hc : c ∈ p.2.cps.toList := hc
      rw [e] at hc
      rw [List.mem_singleton.mp hc]
      exact hd
    · rw [List.mem_singleton.mp hp] at hc
      have hc : c ∈ e.cps.toList := hc
      rw [he] at hc
      cases hc
  · match ps, hl with
    | p :: t, _ =>
      obtain ⟨_, _, d, e, _, _⟩ := h p (List.mem_cons_self ..)
      intro hx
      have hx : List.replicate p.1.toNat 92 ++ (p.2.cps.toList ++ txt ((t ++ _).map toP)) = [] := hx
      rw [e] at hx
      simp at hx
theorem psOf_scr {n1 n2 n3 n4 n5 n6 n7 n8 n9 : Int} (h : ∀ n ∈ [n1, n2, n3, n4, n5, n6, n7, n8, n9], 0 ≤ n ∧ n < 72) : Scr (psOf n1 n2 n3 n4 n5 n6 n7 n8 n9) := by
  have e2 : Int.fmod n9 8 = n9 % 8 := Int.fmod_eq_emod_of_nonneg _ (by decide)
  refine scr_of rfl (fun p hp => ?_) (by rw [e2]; omega) (by rw [e2]; omega) (by decide +kernel)
  obtain ⟨n, hn, rfl⟩ := List.mem_map.mp hp
  have := h n (List.mem_append_left [n9] hn)
  exact sg_ok this.1 this.2
theorem calm_scr {n1 n2 n3 n4 n5 n6 n7 n8 n9 : Int} (h : ∀ n ∈ [n1, n2, n3, n4, n5, n6, n7, n8, n9], 0 ≤ n ∧ n < 72) : Scr ((psOf n1 n2 n3 n4 n5 n6 n7 n8 n9).map calmI) := by
  have e2 : Int.fmod n9 8 = n9 % 8 := Int.fmod_eq_emod_of_nonneg _ (by decide)
  unfold psOf
  rw [List.map_append]
  refine scr_of rfl (fun p hp => ?_) (by dsimp only; rw [e2]; omega) (by dsimp only; rw [e2]; omega) ?_
  rotate_left
  · have e3 : (Str.ofString "" == Str.ofString "n") = false := by decide +kernel
    dsimp only
    rw [e3]
    decide +kernel
  obtain ⟨q, hq, rfl⟩ := List.mem_map.mp hp
  obtain ⟨n, hn, rfl⟩ := List.mem_map.mp hq
  have := h n (List.mem_append_left [n9] hn)
  exact calm_ok (sg_ok this.1 this.2)
theorem calm_no (ps : Prs) : ∀ p ∈ (ps.map calmI).map toP, p.2 ≠ [110] := by
  intro p hp
  obtain ⟨q, hq, rfl⟩ := List.mem_map.mp hp
  obtain ⟨q, _, rfl⟩ := List.mem_map.mp hq
  show (calmI q).2.cps.toList ≠ [110]
  unfold calmI
  dsimp only
  split
  · decide +kernel
  · rename_i hne
    intro e
    exact hne ((sign_iff sn).mpr e)
theorem bd_of7 {ps : Prs} (h : Bd7 ps) : Bd ps := ⟨h.1, fun p hp => ⟨(h.2 p hp).1, by have := (h.2 p hp).2.1; omega, (h.2 p hp).2.2⟩⟩
theorem times_ok (n : Int) : ∃ T : Nat, 1 + Int.fmod n 4 = (T : Int) ∧ 1 ≤ T ∧ T ≤ 4 := by
  have e : Int.fmod n 4 = n % 4 := Int.fmod_eq_emod_of_nonneg _ (by decide)
  exact ⟨(1 + Int.fmod n 4).toNat, by omega, by omega, by omega⟩
def Has (m : Str → Option Value) (pv tv gv : Value) : Prop := m (Str.ofString "pairs") = some pv ∧ m (Str.ofString "times") = some tv ∧ m (Str.ofString "good") = some gv
theorem fr_four {h₀ h : Heap} {L : Addr} {m : Str → Option Value} {pv tv gv v : Value} (F : PyProof.Rows.Fr h₀ L h m) (h1 : Has m pv tv gv) (h2 : m (Str.ofString "made") = some v) :
    PyProof.Rows.Fr h₀ L h (fun y => if y = Str.ofString "made" then some v else if y = Str.ofString "good" then some gv else if y = Str.ofString "times" then some tv else if y = Str.ofString "pairs" then some pv else m y) := by
  obtain ⟨h3, h4, h5⟩ := h1
  refine fr_congr F fun y => ?_
  by_cases e1 : y = Str.ofString "made"
  · rw [if_pos e1, e1, h2]
  · rw [if_neg e1]
    by_cases e2 : y = Str.ofString "good"
    · rw [if_pos e2, e2, h5]
    · rw [if_neg e2]
      by_cases e3 : y = Str.ofString "times"
      · rw [if_pos e3, e3, h4]
      · rw [if_neg e3]
        by_cases e4 : y = Str.ofString "pairs"
        · rw [if_pos e4, e4, h3]
        · rw [if_neg e4]
theorem has_step {m : Str → Option Value} {pv tv gv a : Value} (h : Has m pv tv gv) : Has (fun y => if y = Str.ofString "step" then some a else m y) pv tv gv :=
  ⟨(if_neg (by decide +kernel)).trans h.1, (if_neg (by decide +kernel)).trans h.2.1, (if_neg (by decide +kernel)).trans h.2.2⟩
theorem up_rest {ps : Prs} (h : Scr ps) {T : Nat} (hT : 1 ≤ T) : up ps T = textS ((restA ps).1.map (raiseI (T : Int))) := by
  obtain ⟨j, rfl⟩ : ∃ j, T = j + 1 := ⟨T - 1, by omega⟩
  exact up_succ h j
theorem my_eq_str {prog : Program} {w : World} {A : Around} {E : Value → Shared → Prop} {s : Shared} {x y : Str} {t u : Tok} {Q : Value → Shared → Prop} (e : x = y) (h : Q (.bool true) s) : wpAny (model prog w) A (compareOp .Eq (.str x t) (.str y u)) Q E s := by
  subst e
  refine PyProof.Rows.eq_str ?_
  rw [beq_self_eq_true]
  exact h
theorem my_eq_bytes {prog : Program} {w : World} {A : Around} {E : Value → Shared → Prop} {s : Shared} {x y : Array UInt8} {t u : Tok} {Q : Value → Shared → Prop} (e : x = y) (h : Q (.bool true) s) : wpAny (model prog w) A (compareOp .Eq (.bytes x t) (.bytes y u)) Q E s := by
  subst e
  refine eq_bytes ?_
  rw [beq_self_eq_true]
  exact h
theorem utf8_len : ∀ l : List Nat, (∀ c ∈ l, plainC c) → (utf8L l).length ≤ 2 * l.length
  | [], _ => by simp [utf8L_nil]
  | c :: l, h => by
    have h1 := utf8_len l fun d hd => h d (List.mem_cons_of_mem _ hd)
    have h2 := utf8Of_len (h c (List.mem_cons_self ..))
    rw [utf8L_cons, List.length_append, List.length_cons]
    omega
/-- the calm text, written once -/
theorem esc_up {ps : Prs} (h : Scr ps) : escS (ofL (textS ps).cps.toList) = textS ((restA ps).1.map (raiseI 1)) := by
  rw [ofL_toList]
  exact law_esc1 h.bd h.ok
theorem unq_dn {ps : Prs} (h : Scr ps) (hn : ∀ p ∈ ps.map toP, p.2 ≠ [110]) : unqS (textS ((restA ps).1.map (raiseI 1))) = textS (restA ps).1 := by
  rw [← law_esc1 h.bd h.ok]
  exact law_unq h.bd h.ok hn
theorem unqB_dn {ps : Prs} (h : Scr ps) (hn : ∀ p ∈ ps.map toP, p.2 ≠ [110]) : unqB (utf8L (textS ((restA ps).1.map (raiseI 1))).cps.toList).toArray = (utf8L (textS (restA ps).1).cps.toList).toArray := by
  rw [← law_esc1 h.bd h.ok]
  exact law_unqB h.bd h.ok hn h.pl
theorem esc1_plain {ps : Prs} (h : Scr ps) : ∀ c ∈ (textS ((restA ps).1.map (raiseI 1))).cps.toList, plainC c := by
  have e : up ps 1 = textS ((restA ps).1.map (raiseI 1)) := up_succ h 0
  rw [← e]
  exact up_plain h 1
theorem esc1_len {ps : Prs} (h : Scr ps) : (textS ((restA ps).1.map (raiseI 1))).length ≤ 4096 := by
  have e : up ps 1 = textS ((restA ps).1.map (raiseI 1)) := up_succ h 0
  rw [← e]
  exact up_len h 1 (by decide)
theorem text_plain {ps : Prs} (h : Scr ps) : ∀ c ∈ (textS ps).cps.toList, plainC c := by
  rw [← up_zero]; exact up_plain h 0
theorem text_ne {ps : Prs} (h : Scr ps) : (textS ps).cps.toList ≠ [] := by
  rw [← up_zero]; exact up_ne h 0
theorem rest_plain {ps : Prs} (h : Scr ps) (hn : ∀ p ∈ ps.map toP, p.2 ≠ [110]) : ∀ c ∈ (textS (restA ps).1).cps.toList, plainC c := by
  rw [← unq_dn h hn, unqS_eq]
  show ∀ c ∈ unq _, plainC c
  unfold unq
  exact rep2_plain (pz _ rfl) (rep2_plain (pz _ rfl) (rep2_plain (pz _ rfl) (rep2_plain (pz _ rfl) (rep2_plain (pz _ rfl) (rep2_plain (pz _ rfl) (esc1_plain h))))))
theorem calm_1 {p : Int × Str} (h : (p.2 == Str.ofString "n") = true) : calmI p = (p.1, Str.ofString "e") := by unfold calmI; rw [if_pos h]
theorem calm_2 {p : Int × Str} (h : (p.2 == Str.ofString "n") = false) : calmI p = p := by unfold calmI; rw [if_neg (by rw [h]; exact Bool.false_ne_true)]
end Mine
end
section
open PySem PySem.Spec PySem.W PyProof.Rows PyProof.Rows.LCg PyProof.Rows.LCp
set_option Elab.async false
set_option maxRecDepth 100000
namespace Mine
theorem rangeSize_nat0 (n : Nat) : Builtin.Range.rangeSize 0 (n : Int) 1 = (n : Int) := by
  unfold Builtin.Range.rangeSize
  simp
  try omega
theorem range_small0 (n : Nat) (hn : n ≤ 1000) : Builtin.Range.small 0 (n : Int) 1 = true := by
  unfold Builtin.Range.small
  rw [rangeSize_nat0]
  unfold Builtin.Range.rangeFitsLong
  simp
  try omega
/-- a turn's end of a loop over a range -/
def RTurn (h₀ : Heap) (L : Addr) (s : Shared) (J : (Str → Option Value) → Led → Prop) (I : Addr) (oI : Obj) (Q : Flow → Shared → Prop) (f : Flow) (s₂ : Shared) : Prop :=
  match f with
  | .ret v => Q (.ret v) s₂
  | .brk => Q .next s₂
  | _ => ∃ h' tk m' nw, s₂ = { s with heap := h', toks := tk } ∧ Fr h₀ L h' m' ∧ News h₀ L h' ((I, oI) :: nw) ∧ (∀ q ∈ nw, q.1 ≠ I) ∧ J m' nw
section
variable {prog : Program} {w : World} {A : Around} {E : Value → Shared → Prop} {Q : Flow → Shared → Prop} {s : Shared} {env : Env} {h₀ : Heap}
/-- for x in range(n), the time told to be behind the first -/
theorem for_rangeT {x1 : Str} {p1 pos : Pos} {iter : PySem.Expr} {body : List Stmt} {n : Nat} {m : Str → Option Value} {news : Led} (J : Nat → (Str → Option Value) → Led → Prop)
    (hh : A.handled = none) (F : Fr h₀ env.locals s.heap m) (N : News h₀ env.locals s.heap news) (hT : @LE.le Nat _ 1 s.toks) (h0 : J 0 m news) (hn : n ≤ 1000)
    (hev : ∀ Q' E' : Value → Shared → Prop, (∀ r h tk t u v, Fr h₀ env.locals h m → News h₀ env.locals h news → IsRange h r 0 (n : Int) 1 t u v → Q' (.ref r) { s with heap := h, toks := tk }) → wpAny (model prog w) A (eval iter env) Q' E' s)
    (hx1 : env.kindOf x1 = some .local)
    (hp : (env.scope.kind == .class || (env.scope.kind == .module && env.locals != env.globals)) = false)
    (turn : ∀ (i : Nat) (t : Tok) (m₁ : Str → Option Value) (nw : Led) (h : Heap) (tk : Nat) (I : Addr) (oI : Obj), i < n → @LE.le Nat _ 1 tk → J i m₁ nw → (∀ q ∈ nw, q.1 ≠ I) →
      Fr h₀ env.locals h (fun y => if y = x1 then some (.int (i : Int) t) else m₁ y) → News h₀ env.locals h ((I, oI) :: nw) →
      wpAny (model prog w) A (execs body env) (RTurn h₀ env.locals s (J (i + 1)) I oI Q) E { s with heap := h, toks := tk })
    (done : ∀ m' nw h' tk, @LE.le Nat _ 1 tk → Fr h₀ env.locals h' m' → News h₀ env.locals h' nw → J n m' nw → Q .next { s with heap := h', toks := tk })
    (hs : ∀ x, foldedSetIterable iter env x = pure x := by intro _; rfl)
    (hE : PassesOwn (model prog w) A env E := by passes_own) :
    wpAny (model prog w) A (exec (.For (.Name x1 p1) iter body [] pos) env) Q E s := by
  refine wpAny_For (wpAny_with_toks hT (hev _ _ ?_)) hs
  intro r hh0 tk0 t0 u0 v0 F N hr hT0
  have hT0 : @LE.le Nat _ 1 tk0 := hT0
  have hsz : Builtin.Range.rangeSize 0 (n : Int) 1 = (n : Int) := rangeSize_nat0 n
  have hsm : Builtin.Range.small 0 (n : Int) 1 = true := range_small0 n hn
  refine wpAny_pyIter_range hr hsm ?_
  have W : Walks prog w A hh0.objs.size [hh0.objs.size] [hh0.objs.size] n (fun i v => i < n ∧ ∃ t, v = .int (0 + i * 1) t)
      (fun i h => IsRangeIter h hh0.objs.size (0 + (i : Nat) * 1) ((n : Int) - (i : Nat)) 1) := (Walks.range hh _ 0 1 n).bound
  have hnew := next_is_new F
  have hIL : env.locals ≠ hh0.objs.size := Nat.ne_of_lt F.ns.lt
  have hoff0 : ∀ q ∈ news, q.1 ≠ hh0.objs.size := fun q hq => Nat.ne_of_lt (Heap.lt_size (N q hq).1)
  have hit : IsRangeIter (hh0.push { cls := .type "range_iterator", data := .fields #[rawInt 0, rawInt (Builtin.Range.rangeSize 0 (n : Int) 1), rawInt 1] }) hh0.objs.size (0 + ((0 : Nat) : Int) * 1) ((n : Int) - ((0 : Nat) : Int)) 1 := by
    show IsRangeIter _ _ _ _ _; rw [hsz]; simpa using Heap.get?_push_size _ rfl
  have F1 := F.push { cls := .type "range_iterator", data := .fields #[rawInt 0, rawInt (Builtin.Range.rangeSize 0 (n : Int) 1), rawInt 1] }
  have N1 : News h₀ env.locals (hh0.push { cls := .type "range_iterator", data := .fields #[rawInt 0, rawInt (Builtin.Range.rangeSize 0 (n : Int) 1), rawInt 1] }) news := fun p hp => ⟨Heap.get?_push_of_some _ (N p hp).1, (N p hp).2⟩
  show codeAny _ _ (.forLoop _ (.ref hh0.objs.size) _ _ _) _ _
  generalize hh0.objs.size = I at *
  refine codeAny_forLoop_any (R := fun r s' => match r with | .ok f => Q f s' | .error e => cameBackBy (model prog w) A env E e s')
    (fun k s' => ∃ h' tk m' nw i, s' = { s with heap := h', toks := tk } ∧ @LE.le Nat _ 1 tk ∧ IsRangeIter h' I (0 + (i : Nat) * 1) ((n : Int) - (i : Nat)) 1 ∧ Fr h₀ env.locals h' m' ∧ News h₀ env.locals h' nw ∧ (∀ q ∈ nw, q.1 ≠ I) ∧ J i m' nw ∧ i ≤ n ∧ k = n + 1 - i) ?_ (n + 1)
    ⟨_, tk0, m, news, 0, rfl, hT0, hit, F1, N1, hoff0, h0, Nat.zero_le _, rfl⟩
  rintro k s' ⟨h', tk, m', nw, i, rfl, hT', hst', F', N', hoff, hJ', hi, rfl⟩
  have next : ∀ h₁ : Heap, (∀ b o, b ∉ [I] → h'.get? b = some o → h₁.get? b = some o) → Fr h₀ env.locals h₁ m' ∧ News h₀ env.locals h₁ nw := fun h₁ hk₁ =>
    ⟨fr_but F' hk₁ hIL hnew, news_but N' hk₁ hoff⟩
  by_cases hlt' : i < n
  · refine wpAny_with_toks (show @LE.le Nat _ 1 _ from hT') (W.item i _ _ _ hlt' hst' fun v h₁ tk₁ hPv hst₁ hk₁ hT₁ => ?_)
    have hT₁ : @LE.le Nat _ 1 tk₁ := hT₁
    obtain ⟨F₁, N₁⟩ := next h₁ hk₁
    obtain ⟨_, t, rfl⟩ := hPv
    refine wpAny_pure ?_
    refine wpAny_assign_Name (wpAny_storeName_local (s := { s with heap := h₁, toks := tk₁ }) hx1 F₁.ns (fun h₃ hn₃ hs₃ => ?_) hp)
    have old3 : ∀ b o, b ≠ env.locals → h₁.get? b = some o → h₃.get? b = some o := fun b o hb e => hs₃.extBut b o hb e
    have F₃ : Fr h₀ env.locals h₃ (fun y => if y = x1 then some (.int (i : Int) t) else m' y) := by
      have := F₁.set hn₃ hs₃
      rw [Int.mul_one, Int.zero_add] at this
      exact this
    have hst₃ : IsRangeIter h₃ I (0 + ((i + 1 : Nat) : Int) * 1) ((n : Int) - ((i + 1 : Nat) : Int)) 1 := old3 I _ (Ne.symm hIL) hst₁
    have N₃ : News h₀ env.locals h₃ ((I, _) :: nw) := fun q hq => by
      rcases List.mem_cons.mp hq with rfl | hq
      · exact ⟨hst₃, Ne.symm hIL, hnew⟩
      · exact ⟨old3 _ _ (N₁ q hq).2.1 (N₁ q hq).1, (N₁ q hq).2⟩
    refine wpAny_mono (wpAny_passesOwn hE (wpAny_with_toks (show @LE.le Nat _ 1 _ from Nat.le_add_left 1 tk₁) (wpAny_mono (turn i t m' nw h₃ (tk₁ + 1) I _ hlt' (Nat.le_add_left 1 tk₁) hJ' hoff F₃ N₃) (fun f s₃ h₃' hk => And.intro (show @LE.le Nat _ 1 s₃.toks from hk) h₃') fun _ _ e _ => e))) (fun f s₃ h₃' => ?_) fun _ _ e => e
    obtain ⟨hT4, h₃'⟩ := h₃'
    cases f with
    | ret v => exact h₃'
    | brk => exact h₃'
    | cont =>
      obtain ⟨h₄, tk₄, m₄, nw₄, rfl, F₄, N₄, off₄, J₄⟩ := h₃'
      exact ⟨n + 1 - (i + 1), by omega, h₄, tk₄, m₄, nw₄, i + 1, rfl, hT4, (N₄ _ (List.mem_cons_self ..)).1, F₄, fun q hq => N₄ q (List.mem_cons_of_mem _ hq), off₄, J₄, hlt', rfl⟩
    | next =>
      obtain ⟨h₄, tk₄, m₄, nw₄, rfl, F₄, N₄, off₄, J₄⟩ := h₃'
      exact ⟨n + 1 - (i + 1), by omega, h₄, tk₄, m₄, nw₄, i + 1, rfl, hT4, (N₄ _ (List.mem_cons_self ..)).1, F₄, fun q hq => N₄ q (List.mem_cons_of_mem _ hq), off₄, J₄, hlt', rfl⟩
  · have hin : i = n := by omega
    subst hin
    refine wpAny_with_toks (show @LE.le Nat _ 1 _ from hT') (W.done _ _ _ hst' fun h₁ tk₁ hk₁ hT₁ => wpAny_execs_nil ?_)
    obtain ⟨F₁, N₁⟩ := next h₁ hk₁
    exact done m' nw h₁ tk₁ hT₁ F₁ N₁ hJ'
end
end Mine
end
section
open PySem PySem.W PyProof.Rows
set_option Elab.async false
set_option maxRecDepth 100000
namespace Mine
local macro_rules | `(tactic| k_room) => `(tactic| ktr_room)
local macro_rules | `(tactic| k_mem) => `(tactic| ((repeat (first | assumption | refine List.mem_cons_of_mem _ ?_)); done))
local macro_rules | `(tactic| walk_at "call ref") => `(tactic| ((with_reducible show wpAny _ _ (call (Value.ref _) _ _) _ _ _); refine Held.out ?_))
local macro_rules | `(tactic| walk_at "subscriptTail") => `(tactic| ((with_reducible show wpAny _ _ (subscriptTail _ (PySem.Expr.Slice (some (PySem.Expr.Call _ _ _ _)) _ none _) (Value.ref _) (Value.ref _)) _ _ _); refine Held.out ?_))
local macro_rules | `(tactic| walk_at "call builtin:len") => `(tactic| refine Held.out ?_)
local macro_rules | `(tactic| walk_at "binaryOp Add ref ref") => `(tactic| refine Held.out ?_)
local macro_rules | `(tactic| walk_at "execs cons") => `(tactic| refine Held.out ?_)
local macro_rules | `(tactic| walk_at "subscriptTail") => `(tactic| ((with_reducible show wpAny _ _ (subscriptTail _ _ (Value.ref _) (Value.int _ _)) _ _ _); k_dflt (refine' item_litK ?k1 ?k2 ?k3 ?k4 ?_ ?k6; (case k1 => exact News.isList (by k_asm) (by k_mem)); (case k2 => decide); (case k3 => decide); (case k4 => rfl); (case k6 => with_unfolding_all rfl))))
local macro_rules | `(tactic| walk_at "subscriptTail Name Slice ref ref") => `(tactic| ((with_reducible show wpAny _ _ (subscriptTail _ (PySem.Expr.Slice (some (PySem.Expr.Constant _ _ _)) (some (PySem.Expr.Constant _ _ _)) none _) (Value.ref _) (Value.ref _)) _ _ _); refine Held.out ?_))
local macro_rules | `(tactic| walk_at "eval ListComp") => `(tactic| (k_here; k_dflt (refine LCg.ListComp_U (F₀ := by k_asm) (by with_unfolding_all rfl) (by decide) (by rfl) (by decide) (by rfl) ?_)))
local macro_rules | `(tactic| walk_at "CompSrc") => `(tactic| ((with_reducible show LCg.CompSrc _ _ _ _ _ _ _ (PySem.Expr.Tuple _ _ _) _ _ _ _ _ _); refine Held.out ?_))
local macro_rules | `(tactic| walk_at "subscriptTail") => `(tactic| ((with_reducible show wpAny _ _ (subscriptTail _ _ (Value.str _ _) (Value.int _ _)) _ _ _); k_dflt (refine KXi.item (n := 9) (by decide +kernel) (by omega) (by assumption) (by decide) ?_); intro hlen1))
local macro_rules | `(tactic| walk_at "CompEnd") => `(tactic| ((with_reducible show LCg.CompEnd _ _ _ _ _ _ _ _ _ _ _ _ (Value.ref _) _); refine Held.out ?_))
local macro_rules | `(tactic| k_inst) => `(tactic| (refine' inst_newsD ?N ?h1 ?h2 ?h3; (case N => k_asm); (case h1 => k_mem); (case h2 => k_mem); (case h3 => rfl)))
local macro_rules | `(tactic| walk_at "getMethod ref") => `(tactic| (k_here; k_dflt (refine' my_method_S ?k1 ?k2 ?k3 ?k4 ?k5 ?k6 ?k7 ?k8 ?_; (case k1 => k_asm); (case k2 => k_asm); (case k3 => k_inst); (case k4 => k_is); (case k5 => k_is); (case k6 => k_is); (case k7 => decide +kernel); (case k8 => rfl))))
local macro_rules | `(tactic| walk_at "getMethod bytes") => `(tactic| (k_here; k_dflt (refine KBd.method ?_)))
local macro_rules | `(tactic| walk_at "getMethod str") => `(tactic| (k_here; k_dflt (refine gm_encode ?_)))
local macro_rules | `(tactic| walk_at "call builtin:bytes.decode") => `(tactic| refine Held.out ?_)
local macro_rules | `(tactic| walk_at "call builtin:str.encode") => `(tactic| refine Held.out ?_)
local macro_rules | `(tactic| walk_at "RTurn") => `(tactic| refine Held.out ?_)
local macro_rules | `(tactic| walk_at "compareOp Eq str str") => `(tactic| (k_here; k_dflt (refine my_eq_str (by with_reducible rfl) ?_)))
local macro_rules | `(tactic| walk_at "SrcLP") => `(tactic| refine Held.out ?_)
local macro_rules | `(tactic| walk_at "compareOp Eq bytes bytes") => `(tactic| (k_here; k_dflt (refine my_eq_bytes (by with_reducible rfl) ?_)))
set_option maxHeartbeats 8000000 in
theorem law_holds : PySem.Challenge.rw_fc0078_01.Holds := Mine.hd (by
  w_strict (
    w_top off
    k_go0
    all_goals try k_fold
    k_steps
    show wpAny _ _ _ _ _ _
    refine wpAny_execs_cons ?_
    k_steps
    show wpAny _ _ _ _ _ _
    refine wpAny_execs_cons ?_
    k_steps
    show wpAny _ _ _ _ _ _
    rename Fr _ _ _ _ => lF
    rename News _ _ _ _ => lN
    refine (usual_c _ _ _ _).use (by assumption) lF (by assumption) lN (by assumption) (by rfl) (by ktr_room) (by ktr_units) trivial ?_
    rintro v h1 tk1 news1 F1 N1 ⟨l, vs1, rfl, rfl, hl1, hU⟩
    clear lF lN
    rename IntsAre _ (List.map _ _) => hI8
    k_steps
    show wpAny _ _ _ _ _ _
    refine len_ints_fit (News.isList N1 (List.mem_cons_of_mem _ (List.mem_cons_self ..))) hI8 (by simp only [List.length_map, List.length_take]; omega) ?_
    k_steps
    show wpAny _ _ _ _ _ _
    refine kba_turn (value' := PySem.Expr.Name (PySem.Str.ofString "_") ⟨0, 0, 0, 0⟩) (fun _ => rfl) ?_
    refine kmk_slice_ints F1 N1 (News.isList N1 (List.mem_cons_self ..)) (IsPart.int _ _) IsPart.none hU (kmk_from hU (Int.natCast_nonneg _)) rfl ?_ (by with_unfolding_all rfl) (by kmk_pure) (by rw [sizeLine_eq, List.size_toArray, hU.length]; decide)
    intro D2 ws2 h2 F2 N2 hl2 hI2 _ _
    clear F1 N1
    k_steps
    show wpAny _ _ _ _ _ _
    refine kmk_add_ints F2 N2 (News.isList N2 (List.mem_cons_of_mem _ (List.mem_cons_of_mem _ (List.mem_cons_self ..)))) (News.isList N2 (List.mem_cons_self ..)) hI8 hI2 ?_ ?hz
    case hz => rw [sizeLine_eq]; simp only [List.length_map, List.length_take, List.length_drop]; have : usualL.length = 10 := rfl; omega
    intro D3 us h3 F3 N3 hl3 hI3
    obtain ⟨hn1, hn2⟩ := nums_ok _
    generalize (_ ++ _ : List Int) = ns at hI3 hn1 hn2
    obtain ⟨n0, n1, n2, n3, n4, n5, n6, n7, n8, n9, t0, t1, t2, t3, t4, t5, t6, t7, t8, t9, rfl, rfl⟩ := ints10 hI3 hn1
    have N3 : News _ _ h3 [(D3, _)] := fun p hp => N3 p (by rw [List.mem_singleton] at hp; subst hp; exact List.mem_cons_self ..)
    k_steps
    refine wpAny_execs_cons ?_
    k_steps
    refine wpAny_execs_cons ?_
    k_steps
    show wpAny _ _ _ _ _ _
    rename Fr _ _ _ _ => lF
    rename News _ _ _ _ => lN
    refine kmk_slice_lit (zs := [.int n1 t1, .int n2 t2, .int n3 t3, .int n4 t4, .int n5 t5, .int n6 t6, .int n7 t7, .int n8 t8]) lF lN (News.isList lN (List.mem_cons_self ..)) (IsPart.int _ _) (IsPart.int _ _) rfl ?_ (by with_unfolding_all rfl) (by kmk_pure) (Nat.le_of_ble_eq_true rfl)
    intro D4 h4 F4 N4 hl4
    k_steps
    show LCg.CompSrc _ _ _ _ _ _ _ _ _ _ _ _ _ _
    refine two_ledK N4 ?_
    clear N4
    intro led hm4 hm3 N4
    refine LCg.CompSrc.ledger (by rfl) F4 N4 hm4 (Nat.le_of_ble_eq_true rfl) ?_
    intro g
    have hI4 : IntsAre [.int n1 t1, .int n2 t2, .int n3 t3, .int n4 t4, .int n5 t5, .int n6 t6, .int n7 t7, .int n8 t8] [n1, n2, n3, n4, n5, n6, n7, n8] := by repeat (first | exact IntsAre.nil | refine IntsAre.cons _ _ ?_)
    refine compI_ind hI4 (fun pre ys nw => (∀ q ∈ led, q ∈ nw) ∧ PairsAt nw ys (pre.map sgI)) ?turn ?fin 8 0 [] _ rfl ⟨sub_self, .nil⟩
    case turn =>
      rintro pre p post ys nw I' oI' C' oC' D' m' h' tk' E' t1' hps ⟨hsub, hP⟩ hC' hx' F' N' off' ne'
      have hp01 : 0 ≤ p ∧ p < 72 := hn2 p (by have : p ∈ [n1, n2, n3, n4, n5, n6, n7, n8] := (by rw [hps]; simp); exact List.mem_cons_of_mem _ (List.mem_append_left [n9] this))
      have hp0 : 0 ≤ Int.fdiv p 8 := by rw [Int.fdiv_eq_ediv_of_nonneg _ (by decide)]; omega
      have hp1 : Int.fdiv p 8 < ((9 : Nat) : Int) := by rw [Int.fdiv_eq_ediv_of_nonneg _ (by decide)]; omega
      clear F4 N4
      k_steps
      show LCg.CompEnd _ _ _ _ _ _ _ _ _ _ _ _ _ _
      rename Fr _ _ _ _ => lF
      rename News _ _ _ _ => lN
      refine comp_end_tup lF lN (by k_ne) (by k_ne) (by k_ne) off' (.inr ⟨_, List.mem_cons_of_mem _ (hsub _ hm4), rfl, _, rfl⟩) (And.intro (fun q hq => List.mem_cons_of_mem _ (hsub q hq)) ?_)
      rw [List.map_append]
      exact (hP.mono fun q hq => List.mem_cons_of_mem _ hq).snoc ⟨_, _, _, rfl, List.mem_cons_self ..⟩
    case fin =>
      rintro ys nw ⟨hsub, hP⟩
      intro D5 h5 tk5 F5 N5 off5
      have hm3 := hsub _ hm3
      clear F4 N4 hm4 hsub
      k_steps
      show wpAny _ _ _ _ _ _
      rename Fr _ _ _ _ => lF
      rename News _ _ _ _ => lN
      refine kmk_add_lit (zs := ys ++ [_]) lF lN (News.isList lN (List.mem_cons_of_mem _ (List.mem_cons_of_mem _ (List.mem_cons_self ..)))) (News.isList lN (List.mem_cons_self ..)) rfl ?_ ?hz
      case hz => rw [sizeLine_eq]; simp [hP.length]
      intro D6 h6 F6 N6 hl6
      refine pairs_absK N6 (ps := psOf n1 n2 n3 n4 n5 n6 n7 n8 n9) ⟨D6, _, _, rfl, List.mem_cons_self .., (hP.mono fun q hq => ?_).append (.cons ?_ .nil)⟩ ?_
      · exact List.mem_cons_of_mem _ (List.mem_cons_of_mem _ (List.mem_cons_of_mem _ (List.mem_cons_of_mem _ hq)))
      · exact ⟨_, _, _, rfl, List.mem_cons_of_mem _ (List.mem_cons_of_mem _ (List.mem_cons_self ..))⟩
      clear N6 lF lN hm3 hP
      intro led6 hP N6
      have hSc : Scr (psOf n1 n2 n3 n4 n5 n6 n7 n8 n9) := psOf_scr fun n hn => hn2 n (List.mem_cons_of_mem _ hn)
      have hSm : Scr ((psOf n1 n2 n3 n4 n5 n6 n7 n8 n9).map calmI) := calm_scr fun n hn => hn2 n (List.mem_cons_of_mem _ hn)
      generalize psOf n1 n2 n3 n4 n5 n6 n7 n8 n9 = ps at hP hSc hSm
      k_steps
      refine wpAny_execs_cons ?_
      k_steps
      show wpAny _ _ _ _ _ _
      rename Fr _ _ _ _ => lF
      rename News _ _ _ _ => lN
      refine (text_c _ _ _ _ _ ps).use (by assumption) lF (by assumption) lN (by assumption) (by rfl) (by ktr_room) (by ktr_units) ⟨hP, bd_of7 hSc.bd⟩ ?_
      rintro v h7 tk7 news7 F7 N7 ⟨rfl, t7, rfl⟩
      obtain ⟨T, hz, hT1, hT4⟩ := times_ok n0
      have hz : 1 + Int.fmod ([n0, n1, n2, n3, n4, n5, n6, n7, n8, n9].getD (Int.toNat 0) 0) 4 = (T : Int) := hz
      rw [hz] at F7
      clear lF lN
      k_steps
      refine wpAny_execs_cons ?_
      k_steps
      show wpAny _ _ _ _ _ _
      rename Fr _ _ _ _ => lF
      rename News _ _ _ _ => lN
      refine (unesc_c _ _ _ _ _ _).use (by assumption) lF (by assumption) lN (by assumption) (by rfl) (by ktr_room) (by ktr_units) (Nat.le_trans (text_len hSc.bd) (by decide)) ?_
      rintro v h8 tk8 news8 F8 N8 ⟨rfl, t8, rfl⟩
      rw [law_pass hSc.bd hSc.ok]
      clear lF lN
      k_steps
      show wpAny _ _ _ _ _ _
      rename Fr _ _ _ _ => lF
      rename News _ _ _ _ => lN
      refine (passed_c _ _ _ _ _ ps).use (by assumption) lF (by assumption) lN (by assumption) (by rfl) (by ktr_room) (by ktr_units) ⟨hP, hSc.bd⟩ ?_
      rintro v h9 tk9 news9 F9 N9 ⟨hs9, t9, rfl⟩
      have hP := hP.mono hs9
      clear lF lN
      k_steps
      rename Fr _ _ _ _ => lF
      rename News _ _ _ _ => lN
      refine wpAny_execs_cons ?_
      refine for_rangeT (n := T) (fun i m nw => PairsIn nw (.ref D6) ps ∧ ∃ tt t, Has m (.ref D6) (.int (T : Int) tt) (.bool true) ∧ m (Str.ofString "made") = some (.str (up ps i) t)) (by rfl) lF lN ?tok ?base (by omega) ?hev (by rfl) (by rfl) ?turn ?done
      case tok => dsimp only; omega
      case base => exact ⟨hP, _, t7, ⟨rfl, rfl, rfl⟩, by rw [up_zero]; rfl⟩
      case hev =>
        intro Q' E' hq
        k_steps
        exact hq _ _ _ _ _ _ (by assumption) (by assumption) (by assumption)
      case turn =>
        rintro i t m₁ nw h tk I oI hi hT9 ⟨hP, tt9, t9, hH, hM⟩ hoff F2 N2
        have F3 := fr_four F2 (has_step hH) ((if_neg (by decide +kernel)).trans hM)
        clear F2 lF lN
        refine wpAny_execs_cons ?_
        k_steps
        show wpAny _ _ _ _ _ _
        refine wpAny_with_toks (show @LE.le Nat _ 1 _ from hT9) ?_
        refine wpAny_call ?_
        refine (vtext_c _ _ _ _ (up ps i) t9).use (by assumption) F3 (by assumption) N2 (by assumption) (by rfl) (by ktr_room) (by ktr_units) (up_len hSc i (by omega)) ?_
        rintro v h5 tk5 news5 F5 N5 ⟨xa, dx, tkx, slx, rfl, hmx, hmd, hs5⟩
        intro hT5
        have hT5 : @LE.le Nat _ 1 tk5 := hT5
        clear F3 N2
        k_steps
        show wpAny _ _ _ _ _ _
        refine (toical_c _ _ _ _ (up ps i) xa dx tkx slx).use (by assumption) F5 (by assumption) N5 (by assumption) (by rfl) (by ktr_room) (by ktr_units) hT5 ⟨up_len hSc i (by omega), by rw [up_esc]; exact up_len hSc (i + 1) (by omega), by rw [up_esc]; exact up_plain hSc (i + 1), hmx, hmd⟩ ?_
        rintro v h6 tk6 news6 F6 N6 ⟨rfl, t6, rfl⟩
        rw [up_esc]
        clear F5 N5
        k_steps
        show wpAny _ _ _ _ _ _
        refine my_decode (by dsimp only; omega) (up_ne hSc (i + 1)) (up_plain hSc (i + 1)) (by rw [len_toList]; exact Nat.le_trans (up_len hSc (i + 1) (by omega)) (by decide)) ?_
        intro t7 k7 hk7
        rw [ofL_toList]
        k_steps
        rename Fr _ _ _ _ => lF
        rename News _ _ _ _ => lN
        exact ⟨_, _, _, nw, rfl, lF, fun q hq => lN q (hs5 q hq), hoff, hP, tt9, t7, ⟨rfl, rfl, rfl⟩, rfl⟩
      case done =>
        rintro m' nw h' tk hT9 F2 N2 ⟨hP, tt9, t9, hH, hM⟩
        rw [up_rest hSc hT1] at hM
        have F3 := fr_four F2 hH hM
        clear F2 lF lN
        dsimp only
        k_steps
        refine wpAny_execs_cons ?_
        k_steps
        show wpAny _ _ _ _ _ _
        rename Fr _ _ _ _ => lF
        rename News _ _ _ _ => lN
        refine (rested_c _ _ _ _ _ ps).use (by assumption) lF (by assumption) lN (by assumption) (by rfl) (by ktr_room) (by ktr_units) ⟨hP, bd_of7 hSc.bd⟩ ?_
        rintro v h3 tk3 news3 F3 N3 ⟨hs3, hPr⟩
        have hP := hP.mono hs3
        clear lF lN
        k_steps
        show wpAny _ _ _ _ _ _
        rename Fr _ _ _ _ => lF
        rename News _ _ _ _ => lN
        refine (raised_c _ _ _ _ _ (restA ps).1 _ _).use (by assumption) lF (by assumption) lN (by assumption) (by rfl) (by ktr_room) (by ktr_units) ⟨hPr, rest_bd7 hSc.bd, by omega, by omega⟩ ?_
        rintro v h4 tk4 news4 F4 N4 ⟨hs4, t4, rfl⟩
        have hP := hP.mono hs4
        clear lF lN
        k_steps
        refine wpAny_execs_cons ?_
        rename Fr _ _ _ _ => lF
        rename News _ _ _ _ => lN
        refine for_rangeT (n := T) (fun i m nw => PairsIn nw (.ref D6) ps ∧ ∃ tt t, Has m (.ref D6) (.int (T : Int) tt) (.bool true) ∧ m (Str.ofString "made") = some (.str (dn ps (T - i)) t)) (by rfl) lF lN ?tok ?base (by omega) ?hev (by rfl) (by rfl) ?turn ?done
        case tok => dsimp only; omega
        case base => exact ⟨hP, _, t9, ⟨rfl, rfl, rfl⟩, by rw [Nat.sub_zero, dn_up hSc T hT1, up_rest hSc hT1]; rfl⟩
        case hev =>
          intro Q' E' hq
          k_steps
          exact hq _ _ _ _ _ _ (by assumption) (by assumption) (by assumption)
        case turn =>
          rintro i t m₁ nw h tk I oI hi hT9 ⟨hP, tt9, t9, hH, hM⟩ hoff F2 N2
          obtain ⟨j, hj⟩ : ∃ j, T - i = j + 1 := ⟨T - i - 1, by omega⟩
          have hj1 : T - (i + 1) = j := by omega
          rw [hj] at hM
          have F3 := fr_four F2 (has_step hH) ((if_neg (by decide +kernel)).trans hM)
          clear F2 lF lN
          refine wpAny_execs_cons ?_
          k_steps
          show wpAny _ _ _ _ _ _
          refine (unesc_c _ _ _ _ _ _).use (by assumption) F3 (by assumption) N2 (by assumption) (by rfl) (by ktr_room) (by ktr_units) (dn_len hSc (j + 1) (by omega)) ?_
          rintro v h5 tk5 news5 F5 N5 ⟨rfl, t5, rfl⟩
          rw [dn_un hSc j]
          clear F3
          k_steps
          rename Fr _ _ _ _ => lF
          exact ⟨_, _, _, nw, rfl, lF, by assumption, hoff, hP, tt9, t5, ⟨rfl, rfl, rfl⟩, by rw [hj1]; rfl⟩
        case done =>
          rintro m' nw h' tk hT9 F2 N2 ⟨hP, tt9, t9, hH, hM⟩
          rw [Nat.sub_self] at hM
          have hM : m' (Str.ofString "made") = some (.str (textS (restA ps).1) t9) := hM
          have F3 := fr_four F2 hH hM
          clear F2 lF lN
          dsimp only
          k_steps
          refine wpAny_execs_cons ?_
          k_steps
          show wpAny _ _ _ _ _ _
          rename Fr _ _ _ _ => lF
          rename News _ _ _ _ => lN
          refine (rested_c _ _ _ _ _ ps).use (by assumption) lF (by assumption) lN (by assumption) (by rfl) (by ktr_room) (by ktr_units) ⟨hP, bd_of7 hSc.bd⟩ ?_
          rintro v h3 tk3 news3 F3 N3 ⟨hs3, hPr⟩
          have hP := hP.mono hs3
          clear lF lN
          k_steps
          show wpAny _ _ _ _ _ _
          rename Fr _ _ _ _ => lF
          rename News _ _ _ _ => lN
          refine (text_c _ _ _ _ _ (restA ps).1).use (by assumption) lF (by assumption) lN (by assumption) (by rfl) (by ktr_room) (by ktr_units) ⟨hPr, bd_of7 (rest_bd7 hSc.bd)⟩ ?_
          rintro v h4 tk4 news4 F4 N4 ⟨rfl, t4, rfl⟩
          clear lF lN
          k_steps
          refine wpAny_execs_cons ?_
          k_steps
          show LCp.SrcLP _ _ _ _ _ _ _ _ _ _ _ _ _ _ _
          rename Fr _ _ _ _ => lF
          rename News _ _ _ _ => lN
          have hP9 := hP
          obtain ⟨l9, vs9, n9', hv9, hm9, hPA⟩ := hP9
          cases hv9
          refine LCp.SrcLP.ledger (by rfl) lF lN hm9 (by rw [sizeLine_eq, List.size_toArray, hPA.length]; have := hSc.bd.1; omega) ?_
          intro g
          refine compP_ind (ps := ps) (fun pre ys nw => (∀ q ∈ news4, q ∈ nw) ∧ PairsAt nw ys (pre.map calmI)) (fun pre ys nw h => hPA.mono h.1) ?turn ?fin _ _ _ _ (by rw [Nat.zero_add, List.size_toArray, hPA.length]) ⟨sub_self, .nil⟩
          case turn =>
            rintro pre p post ys nw I' oI' C' oC' D' m' h' tk' E' t1 t2 hps ⟨hsub, hPC⟩ hC' hx' hy' F' N' off' ne'
            clear lF lN
            k_steps
            all_goals show LCg.CompEnd _ _ _ _ _ _ _ _ _ _ _ _ _ _
            all_goals (rename Fr _ _ _ _ => lF; rename News _ _ _ _ => lN)
            all_goals refine comp_end_tup lF lN (by k_ne) (by k_ne) (by k_ne) off' (.inr ⟨_, List.mem_cons_of_mem _ (hsub _ hm9), rfl, _, rfl⟩) (And.intro (fun q hq => List.mem_cons_of_mem _ (hsub q hq)) ?_)
            all_goals rw [List.map_append]
            · refine (hPC.mono fun q hq => List.mem_cons_of_mem _ hq).snoc ?_
              rw [calm_1 (by assumption)]
              exact ⟨_, _, _, rfl, List.mem_cons_self ..⟩
            · refine (hPC.mono fun q hq => List.mem_cons_of_mem _ hq).snoc ?_
              rw [calm_2 (by assumption)]
              exact ⟨_, _, _, rfl, List.mem_cons_self ..⟩
          case fin =>
            rintro ys nw ⟨hsub, hPC⟩
            intro D8 h8 tk8 F8 N8 off8
            have hPc : PairsIn ((D8, LCg.lst ys) :: nw) (.ref D8) (ps.map calmI) := ⟨D8, ys, ys.length, rfl, List.mem_cons_self .., hPC.mono fun q hq => List.mem_cons_of_mem _ hq⟩
            have hno := calm_no ps
            generalize ps.map calmI = cs at hSm hPc hno
            clear lF lN
            k_steps
            refine wpAny_execs_cons ?_
            k_steps
            show wpAny _ _ _ _ _ _
            rename Fr _ _ _ _ => lF
            rename News _ _ _ _ => lN
            refine (text_c _ _ _ _ _ cs).use (by assumption) lF (by assumption) lN (by assumption) (by rfl) (by ktr_room) (by ktr_units) ⟨hPc, bd_of7 hSm.bd⟩ ?_
            rintro v h1 tk1 news1 F1 N1 ⟨rfl, t1, rfl⟩
            clear lF lN
            k_steps
            show wpAny _ _ _ _ _ _
            refine my_encode (by dsimp only; omega) (text_plain hSm) (Nat.le_trans (text_len hSm.bd) (by decide)) ?_
            intro t2 k2 hk2
            k_steps
            show wpAny _ _ _ _ _ _
            rename Fr _ _ _ _ => lF
            rename News _ _ _ _ => lN
            refine (escB_c _ _ _ _ _ _).use (by assumption) lF (by assumption) lN (by assumption) (by rfl) (by ktr_room) (by ktr_units) hk2 ⟨text_ne hSm, text_plain hSm, by rw [len_toList]; exact Nat.le_trans (text_len hSm.bd) (by decide)⟩ ?_
            rintro v h3 tk3 news3 F3 N3 ⟨rfl, t3, rfl⟩
            rw [esc_up hSm]
            clear lF lN
            k_steps
            refine wpAny_execs_cons ?_
            k_steps
            show wpAny _ _ _ _ _ _
            rename Fr _ _ _ _ => lF
            rename News _ _ _ _ => lN
            refine (rested_c _ _ _ _ _ cs).use (by assumption) lF (by assumption) lN (by assumption) (by rfl) (by ktr_room) (by ktr_units) ⟨hPc, bd_of7 hSm.bd⟩ ?_
            rintro v h4 tk4 news4 F4 N4 ⟨hs4, hPr⟩
            have hPc := hPc.mono hs4
            clear lF lN
            k_steps
            show wpAny _ _ _ _ _ _
            rename Fr _ _ _ _ => lF
            rename News _ _ _ _ => lN
            refine (text_c _ _ _ _ _ (restA cs).1).use (by assumption) lF (by assumption) lN (by assumption) (by rfl) (by ktr_room) (by ktr_units) ⟨hPr, bd_of7 (rest_bd7 hSm.bd)⟩ ?_
            rintro v h5 tk5 news5 F5 N5 ⟨rfl, t5, rfl⟩
            clear lF lN
            k_steps
            refine wpAny_execs_cons ?_
            k_steps
            show wpAny _ _ _ _ _ _
            rename Fr _ _ _ _ => lF
            rename News _ _ _ _ => lN
            refine (rested_c _ _ _ _ _ cs).use (by assumption) lF (by assumption) lN (by assumption) (by rfl) (by ktr_room) (by ktr_units) ⟨hPc, bd_of7 hSm.bd⟩ ?_
            rintro v h6 tk6 news6 F6 N6 ⟨hs6, hPr⟩
            clear lF lN
            k_steps
            show wpAny _ _ _ _ _ _
            rename Fr _ _ _ _ => lF
            rename News _ _ _ _ => lN
            refine wpAny_with_toks (show @LE.le Nat _ 1 _ from by dsimp only; omega) ?_
            refine (raised_c _ _ _ _ _ (restA cs).1 _ _).use (by assumption) lF (by assumption) lN (by assumption) (by rfl) (by ktr_room) (by ktr_units) ⟨hPr, rest_bd7 hSm.bd, by decide, by decide⟩ ?_
            rintro v h7 tk7 news7 F7 N7 ⟨hs7, t7, rfl⟩
            intro hT7
            have hT7 : @LE.le Nat _ 1 tk7 := hT7
            clear lF lN
            k_steps
            show wpAny _ _ _ _ _ _
            rename Fr _ _ _ _ => lF
            rename News _ _ _ _ => lN
            refine (unq_c _ _ _ _ _ _).use (by assumption) lF (by assumption) lN (by assumption) (by rfl) (by ktr_room) (by ktr_units) hT7 (esc1_len hSm) ?_
            rintro v h8 tk8 news8 F8 N8 ⟨rfl, t8, rfl⟩
            rw [unq_dn hSm hno]
            clear lF lN
            k_steps
            refine wpAny_execs_cons ?_
            k_steps
            show wpAny _ _ _ _ _ _
            refine my_encode (by dsimp only; omega) (esc1_plain hSm) (Nat.le_trans (esc1_len hSm) (by decide)) ?_
            intro t9 k9 hk9
            k_steps
            show wpAny _ _ _ _ _ _
            rename Fr _ _ _ _ => lF
            rename News _ _ _ _ => lN
            refine (unqB_c _ _ _ _ _ _).use (by assumption) lF (by assumption) lN (by assumption) (by rfl) (by ktr_room) (by ktr_units) (by rw [List.size_toArray]; refine Nat.le_trans (utf8_len _ (esc1_plain hSm)) ?_; rw [len_toList]; have := esc1_len hSm; omega) ?_
            rintro v h10 tk10 news10 F10 N10 ⟨rfl, t10, rfl⟩
            rw [unqB_dn hSm hno]
            clear lF lN
            k_steps
            show wpAny _ _ _ _ _ _
            refine my_encode (by dsimp only; omega) (rest_plain hSm hno) (Nat.le_trans (text_len (rest_bd7 hSm.bd)) (by decide)) ?_
            intro t11 k11 hk11
            k_steps))
end Mine
end
theorem PySem.Challenge.cw_fc0078_01_holds : PySem.Challenge.rw_fc0078_01.Holds := by
  exact Mine.law_holds
