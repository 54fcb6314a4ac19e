import PyProof.Rows.All
import Wide.All
import OpenK.AllK
import Wide.FinOn
import PyProof.ExcClass3
import KE.KTab
import PyProof.Rows.TupAdd
import KE.KTryDeep
import KE.RegKTryDeep
import KE.LcTurns
import KE.KOwnIter
import KE.KDictIter
import KE.KLcPair
import PyProof.Draws
import PyProof.EnumMake
import Lean
import PySem.Challenge.RW_vy0016_01
set_option Elab.async false
set_option maxRecDepth 100000
set_option maxHeartbeats 16000000
set_option rowWalk.seconds 0
set_option linter.unusedVariables false
set_option pp.deepTerms false
set_option pp.maxSteps 20000
set_option pp.proofs false
section
open PySem PySem.W PyProof.Rows
namespace Mine
open_top hd for PySem.Challenge.rw_vy0016_01
end Mine
end
section
open PySem PySem.W PyProof.Rows PySem.Spec PySem.Calls
namespace Mine
theorem up_neAll {b a : Nat} (h : @LT.lt Nat _ b a) {l : List (Addr × Obj)} (k : AllLt b l) : ∀ p ∈ l, p.1 ≠ a := tbn_neAll (tbn_up h k)
end Mine
end
section
open PySem PySem.W PyProof.Rows PySem.Spec PySem.Calls PyProof.V
namespace Mine
section
variable {prog : Program} {w : World} {A₀ A : Around} {s : Shared} {base h₀ : Heap} {outer : List Env} {L : Addr} {m mg mb : Str → Option Value} {env : Env} {news : List (Addr × Obj)} {K : Frag} {p : Program} {loose : List Str} {mean : ExcName → Option Value}
  {R : Result → Shared → Prop} {name qual : Str} {params : Arguments} {body : List Stmt} {scope : Scope} {dV kV doc pm cdv ct oc : Value} {an od : Option Addr} {osl : Array (Option Value)} {f cc : Addr} {args : Args} {binds : List (Str × Value)}

/-- the callee's frame, its activation known (for super()) -/
theorem frameAt {E : Value → Shared → Prop} (B : Below A₀ base outer h₀) (F : Fr h₀ L s.heap m) (N : News h₀ L s.heap news) (hlim : h₀.NoLimit) (hA : A.frames = some (env :: outer)) (hf : env.frame = some L) (hke : env.scope.kind = .function)
    (hloc : ∀ y ∈ binds, scope.names.lookup y.1 = some .local)
    (h : ∀ g L' h₁, Fr h₀ L g m → Fr g L' h₁ (fun y => binds.reverse.lookup y) → News g L' h₁ news → Below A base (env :: outer) g → h₀.StaysIn g → (∀ p ∈ news, p.1 < L') →
      _root_.PySem.wpAt (model prog w) (A.deeper (ksEnv qual scope L' f cdv cc)) (.func body (ksEnv qual scope L' f cdv cc)) (execs body (ksEnv qual scope L' f cdv cc))
        (fun fl s' => LeaveK h₀ L m g R (match fl with | .ret v => v | _ => .none) s')
        (fun e s' => wpAny (model prog w) (A.deeper (ksEnv qual scope L' f cdv cc)) (leaving (ksEnv qual scope L' f cdv cc) e) (fun _ s'' => R (.error e) s'') (fun e' s'' => R (.error e') s'') s')
        { s with heap := h₁, toks := s.toks + binds.length })
    (hcell : ∀ x ∈ scope.names, x.2 ≠ .cell) (hk : scope.kind = .function) :
    wpAny (model prog w) A.in1 (newFunctionEnv scope mainGlobals [("__class__", cc)] binds (qual ++ ".<locals>.") (some f) cdv none builtinsNs) (fun env' s₂ => s₂.heap.NoLimit ∧ codeAny (model prog w) A (.func body env') R s₂) E s := by
  obtain ⟨FG, BG, st, lv⟩ := groundX (R := R) B F N hA hf hke
  refine wpAny_newFunctionEnv hcell hloc (fun h₁ hns hsb => ⟨(hlim.keeps F.keep).fresh _ hsb, ks_codeAny_funcAt ?_⟩) hk
  have hk₁ : ∀ b o, s.heap.get? b = some o → h₁.get? b = some o := fun b o e => hsb.extBut b o (Nat.ne_of_lt (Heap.lt_size e)) (Heap.get?_push_of_some _ e)
  exact ks_wpAt_mono (h _ s.heap.objs.size h₁ FG ⟨hns, fun b o e => hk₁ b o (of_hideAll _ e), Nat.le_of_eq (hideAll_size _ _)⟩
    (fun p hp => ⟨hk₁ _ _ (N p hp).1, Nat.ne_of_lt (Heap.lt_size (N p hp).1), hideAll_none _ (List.mem_map_of_mem hp)⟩) BG st (fun p hp => Heap.lt_size (N p hp).1)) (fun fl s' hl => lv _ _ hl) fun _ _ y => y

/-- a def that says super(), with one rest of keywords -/
theorem superMore {nm : Str} {ex front : List (Str × Value)} {g₁ : Addr → Sem (List (Str × Value))}
    (B : Below A₀ base outer h₀) (F : Fr h₀ L s.heap m) (X₀ : K.In h₀) (N : News h₀ L s.heap news) (T : Top p loose mean mg mb h₀) (hA : A.frames = some (env :: outer)) (hf : env.frame = some L) (hke : env.scope.kind = .function)
    (ho : K.lookup f = some ⟨oc, od, .func (ksFn name qual params body scope dV kV doc pm an cdv ct cc), osl⟩) (hcd : codeIn K cdv qual = true) (hroom : A.depth < recursionLimit)
    (hx : args.kw.filter (fun x => !ownKw params x.1) = ex) (hnm : params.kwarg.map (·.arg) = some nm) (hn : kwDistinct ex = true)
    (_hfr : peek K ⟨prog, w.params⟩ (bindArgs (fnCut (ksFn name qual params body scope dV kV doc pm an cdv ct cc)) (argsCut params args)) = some front)
    (hp : peekA K ⟨prog, w.params⟩ (bindArgs (ksFn name qual params body scope dV kV doc pm an cdv ct cc) args) = some (dictOf [] 0, g₁))
    (hk₁ : ∀ D, g₁ D = (forIn ex PUnit.unit (fun x _ => (nsSet D x.1 x.2 >>= fun _ => pure (ForInStep.yield PUnit.unit))) >>= fun _ => pure (front ++ [(nm, Value.ref D)])))
    (hloc : ∀ D, ∀ y ∈ front ++ [(nm, Value.ref D)], scope.names.lookup y.1 = some .local)
    (h : ∀ D o g L' h₁ tk, (∀ p ∈ news, p.1 < D) → (D == sysModules) = false → o.IsDictOf (strKind prog w) ex → Fr h₀ L g m → Fr g L' h₁ (fun y => (front ++ [(nm, Value.ref D)]).reverse.lookup y) → News g L' h₁ ((D, o) :: news) → Below A base (env :: outer) g → K.In g → Top p loose mean mg mb g → D < L' →
      _root_.PySem.wpAt (model prog w) (A.deeper (ksEnv qual scope L' f cdv cc)) (.func body (ksEnv qual scope L' f cdv cc)) (execs body (ksEnv qual scope L' f cdv cc))
        (fun fl s' => LeaveK h₀ L m g R (match fl with | .ret v => v | _ => .none) s')
        (fun e s' => wpAny (model prog w) (A.deeper (ksEnv qual scope L' f cdv cc)) (leaving (ksEnv qual scope L' f cdv cc) e) (fun _ s'' => R (.error e) s'') (fun e' s'' => R (.error e') s'') s')
        { s with heap := h₁, toks := tk })
    (hco : scope.isCoroutine = false) (hgen : scope.isGenerator = false) (hk : scope.kind = .function)
    (hcell : ∀ x ∈ scope.names, x.2 ≠ .cell) : codeAny (model prog w) A (.call (.ref f) args) R s := by
  have _ := hx
  have _ := hnm
  have hn' := kwDistinct_nodup hn
  refine codeAny_call_function (fd := ksFn name qual params body scope dV kV doc pm an cdv ct cc) (body := body) hroom ((X₀.keeps F.keep) _ _ ho) rfl hco hgen rfl (codeRec_of (X₀.keeps F.keep) hcd) ?_
  refine wp_of_peekA (o := dictOf [] 0) F N (X₀.keeps F.keep) rfl _ g₁ hp fun h' F' N' l => ?_
  rw [hk₁]
  refine wpAny_bind (kp_fill ex { s with heap := h' } [] 0 F' N' (fun p hp => Nat.ne_of_lt (l p hp)) (fun _ he => nomatch he) (fun _ he => nomatch he) hn' fun h'' F'' N'' => wpAny_pure ?_)
  exact frameAt (s := { s with heap := h'', toks := s.toks + ex.length }) B F'' N'' T.nolimit hA hf hke (hloc _)
    (fun g L' h₁ FG FL NG BG st lt => h _ _ g L' h₁ _ l (F.notModules (modules_low T.nolimit)) (kp_isDict s.toks (0 + ex.length) hn') FG FL NG BG (X₀.keeps st) (T.keeps st) (lt _ (.head _))) hcell hk

/-- a def that says super(), with a rest of places and a rest of keywords -/
theorem superBoth {vs : List Value} {nm nr : Str} {ex front : List (Str × Value)} {g₁ : Addr → Sem (List (Str × Value))} {g₂ : Addr → Addr → Sem (List (Str × Value))}
    (B : Below A₀ base outer h₀) (F : Fr h₀ L s.heap m) (X₀ : K.In h₀) (N : News h₀ L s.heap news) (T : Top p loose mean mg mb h₀) (hA : A.frames = some (env :: outer)) (hf : env.frame = some L) (hke : env.scope.kind = .function)
    (ho : K.lookup f = some ⟨oc, od, .func (ksFn name qual params body scope dV kV doc pm an cdv ct cc), osl⟩) (hcd : codeIn K cdv qual = true) (hroom : A.depth < recursionLimit)
    (hv : args.pos.drop (params.posonlyargs.length + params.args.length) = vs) (hx : args.kw.filter (fun x => !ownKw params x.1) = ex) (hnr : params.vararg.map (·.arg) = some nr) (hnm : params.kwarg.map (·.arg) = some nm) (hn : kwDistinct ex = true)
    (_hfr : peek K ⟨prog, w.params⟩ (bindArgs (fnCut (ksFn name qual params body scope dV kV doc pm an cdv ct cc)) (argsCut params args)) = some front)
    (hp : peekA K ⟨prog, w.params⟩ (bindArgs (ksFn name qual params body scope dV kV doc pm an cdv ct cc) args) = some (({ cls := .type "tuple", data := .seq vs.toArray } : Obj), g₁))
    (hp₂ : ∀ D, peekA K ⟨prog, w.params⟩ (g₁ D) = some (dictOf [] 0, g₂ D))
    (hk₂ : ∀ C D, g₂ C D = (forIn ex PUnit.unit (fun x _ => (nsSet D x.1 x.2 >>= fun _ => pure (ForInStep.yield PUnit.unit))) >>= fun _ => pure (front ++ [(nr, Value.ref C)] ++ [(nm, Value.ref D)])))
    (hloc : ∀ C D, ∀ y ∈ front ++ [(nr, Value.ref C)] ++ [(nm, Value.ref D)], scope.names.lookup y.1 = some .local)
    (h : ∀ C D o g L' h₁ tk, (∀ p ∈ news, p.1 < C) → C < D → (D == sysModules) = false → o.IsDictOf (strKind prog w) ex → Fr h₀ L g m → Fr g L' h₁ (fun y => (front ++ [(nr, Value.ref C)] ++ [(nm, Value.ref D)]).reverse.lookup y) →
      News g L' h₁ ((D, o) :: (C, ({ cls := .type "tuple", data := .seq vs.toArray } : Obj)) :: news) → Below A base (env :: outer) g → K.In g → Top p loose mean mg mb g → D < L' →
      _root_.PySem.wpAt (model prog w) (A.deeper (ksEnv qual scope L' f cdv cc)) (.func body (ksEnv qual scope L' f cdv cc)) (execs body (ksEnv qual scope L' f cdv cc))
        (fun fl s' => LeaveK h₀ L m g R (match fl with | .ret v => v | _ => .none) s')
        (fun e s' => wpAny (model prog w) (A.deeper (ksEnv qual scope L' f cdv cc)) (leaving (ksEnv qual scope L' f cdv cc) e) (fun _ s'' => R (.error e) s'') (fun e' s'' => R (.error e') s'') s')
        { s with heap := h₁, toks := tk })
    (hco : scope.isCoroutine = false) (hgen : scope.isGenerator = false) (hk : scope.kind = .function)
    (hcell : ∀ x ∈ scope.names, x.2 ≠ .cell) : codeAny (model prog w) A (.call (.ref f) args) R s := by
  have _ := hv
  have _ := hx
  have _ := hnr
  have _ := hnm
  have hn' := kwDistinct_nodup hn
  refine codeAny_call_function (fd := ksFn name qual params body scope dV kV doc pm an cdv ct cc) (body := body) hroom ((X₀.keeps F.keep) _ _ ho) rfl hco hgen rfl (codeRec_of (X₀.keeps F.keep) hcd) ?_
  refine wp_of_peekA (o := ({ cls := .type "tuple", data := .seq vs.toArray } : Obj)) F N (X₀.keeps F.keep) rfl _ g₁ hp fun h' F' N' l => ?_
  refine wp_of_peekA (s := { s with heap := h' }) (o := dictOf [] 0) F' N' (X₀.keeps F'.keep) rfl _ (g₂ s.heap.objs.size) (hp₂ _) fun h'' F'' N'' l' => ?_
  rw [hk₂]
  refine wpAny_bind (kp_fill ex { s with heap := h'' } [] 0 F'' N'' (fun p hp => Nat.ne_of_lt (l' p hp)) (fun _ he => nomatch he) (fun _ he => nomatch he) hn' fun h₃ F₃ N₃ => wpAny_pure ?_)
  exact frameAt (s := { s with heap := h₃, toks := s.toks + ex.length }) B F₃ N₃ T.nolimit hA hf hke (hloc _ _)
    (fun g L' h₁ FG FL NG BG st lt => h _ _ _ g L' h₁ _ l (l' _ (.head _)) (F'.notModules (modules_low T.nolimit)) (kp_isDict s.toks (0 + ex.length) hn') FG FL NG BG (X₀.keeps st) (T.keeps st) (lt _ (.head _))) hcell hk
end
end Mine
end
section
open PySem PySem.W PyProof.Rows PySem.Spec PySem.Calls PyProof.V Builtin Builtin.ObjectAttr
namespace Mine
theorem args_getattr_3 (a b c : Value) : argsOk "getattr" ⟨[a, b, c], []⟩ := by unfold argsOk; kernel_rfl

section
variable {prog : Program} {w : World} {A : Around} {E : Value → Shared → Prop} {s : Shared} {K : Frag} {x C f L p : Addr} {ox : Obj} {od : Option Obj} {name : Str} {h₀ : Heap} {m : Str → Option Value} {news : List (Addr × Obj)} {es : List DictEntry} {n : Nat} {Q : Value → Shared → Prop} {t : Tok} {dflt v : Value}

theorem getattr3_oids (X : K.In s.heap) (I : InstAt s.heap x ox C od) (hmod : subIn K (.ref C) (.type "module") = some false)
    (h : wpAny (model prog w) A.in1 (getAttrBy? (.ref x) (.str (Str.ofString "oids") t)) (fun r s' => match r with | some v => Q v s' | none => Q dflt s') E s) :
    wpAny (model prog w) A (call (.builtin "getattr") [.ref x, .str (Str.ofString "oids") t, dflt]) Q E s := by
  obtain ⟨hh, g, d, tk, os⟩ := s
  have L0 := I.type (M := model prog w)
  have L1 := looks_subIn (M := model prog w) X hmod
  have L2 : Looks (model prog w) hh (isInstance (.ref x) (.type "module")) false := L0.andThen L1
  refine Calls.call_function_entry KB.kind_getattr KB.plain_getattr KB.entry_getattr (args_getattr_3 _ _ _) ?_
  unfold Builtin.«getattr»
  refine wpAny_bind (wpAny_of_eq (a := [.ref x, .str (Str.ofString "oids") t, dflt]) (by first | rfl | kernel_rfl) ?_)
  dsimp only
  refine wpAny_bind (wpAny_of_eq (a := ()) (by first | rfl | kernel_rfl) ?_)
  refine wpAny_bind (wpAny_of_eq (a := none) (by first | rfl | kernel_rfl) ?_)
  dsimp only
  refine wpAny_bind ?_
  show wpAny _ _ (isInstance (.ref x) (.type "module") >>= _) _ _ _
  refine wpAny_bind (L2.at ?_)
  show wpAny _ _ (pure 0) _ _ _
  refine wpAny_pure ?_
  simp only [show ((0 : Nat) == 1) = false from rfl, Bool.false_eq_true, if_false]
  refine wpAny_bind (wpAny_mono h (fun r s' hr => ?_) fun _ _ e => e)
  cases r with
  | some v => exact wpAny_pure ⟨_, rfl, hr⟩
  | none => exact wpAny_pure ⟨_, rfl, hr⟩

theorem getattr3_name (X : K.In s.heap) (I : InstAt s.heap x ox C od) (hmod : subIn K (.ref C) (.type "module") = some false)
    (h : wpAny (model prog w) A.in1 (getAttrBy? (.ref x) (.str (Str.ofString "name") t)) (fun r s' => match r with | some v => Q v s' | none => Q dflt s') E s) :
    wpAny (model prog w) A (call (.builtin "getattr") [.ref x, .str (Str.ofString "name") t, dflt]) Q E s := by
  obtain ⟨hh, g, d, tk, os⟩ := s
  have L0 := I.type (M := model prog w)
  have L1 := looks_subIn (M := model prog w) X hmod
  have L2 : Looks (model prog w) hh (isInstance (.ref x) (.type "module")) false := L0.andThen L1
  refine Calls.call_function_entry KB.kind_getattr KB.plain_getattr KB.entry_getattr (args_getattr_3 _ _ _) ?_
  unfold Builtin.«getattr»
  refine wpAny_bind (wpAny_of_eq (a := [.ref x, .str (Str.ofString "name") t, dflt]) (by first | rfl | kernel_rfl) ?_)
  dsimp only
  refine wpAny_bind (wpAny_of_eq (a := ()) (by first | rfl | kernel_rfl) ?_)
  refine wpAny_bind (wpAny_of_eq (a := none) (by first | rfl | kernel_rfl) ?_)
  dsimp only
  refine wpAny_bind ?_
  show wpAny _ _ (isInstance (.ref x) (.type "module") >>= _) _ _ _
  refine wpAny_bind (L2.at ?_)
  show wpAny _ _ (pure 0) _ _ _
  refine wpAny_pure ?_
  simp only [show ((0 : Nat) == 1) = false from rfl, Bool.false_eq_true, if_false]
  refine wpAny_bind (wpAny_mono h (fun r s' hr => ?_) fun _ _ e => e)
  cases r with
  | some v => exact wpAny_pure ⟨_, rfl, hr⟩
  | none => exact wpAny_pure ⟨_, rfl, hr⟩

/-- the road of getAttrBy on an object of an own class -/
theorem gab_open {fill expr : Bool} (X : K.In s.heap) (I : InstAt s.heap x ox C od) (hga : findIn K (.ref C) "__getattribute__" = some (some (.builtin "object.__getattribute__")))
    (h : wpAny (model prog w) A.in1 (Builtin.«proto.getattr_hooked» ⟨[.ref x, .str name t], []⟩)
      (fun fin s' => match fin with | .done (.ret v) => wpAny (model prog w) A (handedOut v) Q E s' | _ => False) (fun e s' => wpAny (model prog w) A (noteIf fill (.ref x) (.str name t) e) (fun _ s'' => E e s'') E s') s) :
    wpAny (model prog w) A (getAttrBy (.ref x) (.str name t) fill expr) Q E s := by
  obtain ⟨hh, g, d, tk, os⟩ := s
  have L0 := I.type (M := model prog w)
  have L1 := looks_findIn (M := model prog w) X hga
  unfold getAttrBy
  refine wpAny_holding (wpAny_bind (L0.at (wpAny_bind (L1.at ?_))))
  show wpAny _ _ (getAttrEveryday _ _ _) _ _ _
  refine wpAny_bind (wpAny_onRaise (wpAny_runValue (codeAny_builtin F.plainObj_entry_getattr_hooked (wpAny_mono h (fun fin s' z => ?_) fun _ _ z => z))))
  rcases fin with (_ | _ | _ | _) | _ <;> first | exact z | exact z.elim

theorem gab_value {fill expr : Bool} (X : K.In s.heap) (I : InstAt s.heap x ox C od) (hga : findIn K (.ref C) "__getattribute__" = some (some (.builtin "object.__getattribute__")))
    (hf : findObj K C od name = some (.value v)) (hh : handedIn v = true) (h : Q v s) : wpAny (model prog w) A (getAttrBy (.ref x) (.str name t) fill expr) Q E s := by
  refine gab_open X I hga ?_
  obtain ⟨hh', g, d, tk, os⟩ := s
  have L0 := I.type (M := model prog w)
  have L1 := looks_find (M := model prog w) X I hf
  refine wpAny_bind (wpAny_pure (wpAny_bind (L0.at (wpAny_bind (L1.at ?_)))))
  refine wpAny_pure ?_
  show wpAny _ _ (handedOut v) _ _ _
  rw [handedOut_of hh]; exact wpAny_pure h

theorem gab_bind {fill expr : Bool} {g a : Value} (X : K.In s.heap) (I : InstAt s.heap x ox C od) (hga : findIn K (.ref C) "__getattribute__" = some (some (.builtin "object.__getattribute__")))
    (hf : findObj K C od name = some (.bind g a)) (hk : findIn K (.ref C) "__getattr__" = some none)
    (h : wpAny (model prog w) A.in1 (call g [a, .ref x, .ref C]) (fun v s' => wpAny (model prog w) A (handedOut v) Q E s') (fun e s' => wpAny (model prog w) A (noteIf fill (.ref x) (.str name t) e) (fun _ s'' => E e s'') E s') s) :
    wpAny (model prog w) A (getAttrBy (.ref x) (.str name t) fill expr) Q E s := by
  refine gab_open X I hga ?_
  obtain ⟨hh', gg, d, tk, os⟩ := s
  have L0 := I.type (M := model prog w)
  have L1 := looks_find (M := model prog w) X I hf
  have L2 := looks_findIn (M := model prog w) X hk
  refine wpAny_bind (wpAny_pure (wpAny_bind (L0.at (wpAny_bind (L1.at (wpAny_bind (L2.at ?_)))))))
  show wpAny _ _ (holding [a] (call g [a, .ref x, .ref C]) >>= ret) _ _ _
  exact wpAny_bind (wpAny_holding (wpAny_mono h (fun v s' z => wpAny_pure z) fun _ _ z => z))

theorem gab_miss {expr : Bool} {cd : ClassData} (X : K.In s.heap) (I : InstAt s.heap x ox C od) (hga : findIn K (.ref C) "__getattribute__" = some (some (.builtin "object.__getattribute__"))) (hk : findIn K (.ref C) "__getattr__" = some none)
    (hf : findObj K C od name = some .missing) (hcd : clsIn K C = some cd) (hw : cd.name.cps.foldl (fun k c => k + (Str.utf8Of c).length) 0 ≤ 100) (hl : cd.name.toString.length ≤ 60) (hn : name.length ≤ 60) (hh : A.handled = none)
    (h : ∀ h' tk e, Heap.NewAttrErr s.heap h' e (.ref x) name → E (.ref e) { s with heap := h', toks := tk }) : wpAny (model prog w) A (getAttrBy (.ref x) (.str name t) false expr) Q E s := by
  refine gab_open X I hga ?_
  obtain ⟨hh', gg, d, tk, os⟩ := s
  have L0 := I.type (M := model prog w)
  have L1 := looks_find (M := model prog w) X I hf
  have L2 := looks_findIn (M := model prog w) X hk
  have L3 := looks_clsIn (M := model prog w) X hcd
  refine wpAny_bind (wpAny_pure (wpAny_bind (L0.at (wpAny_bind (L1.at (wpAny_bind (L2.at ?_)))))))
  show wpAny _ _ (noSuchAttribute (.ref x) name) _ _ _
  unfold noSuchAttribute typeNameOfCut shownTypeOf
  refine wpAny_bind (wpAny_bind (wpAny_bind (L0.at ?_)))
  rw [if_neg (by simp)]
  refine wpAny_pure ?_
  show wpAny _ _ (classData C >>= _) _ _ _
  refine wpAny_bind (L3.at ?_)
  rw [if_pos hw]
  refine wpAny_pure ?_
  refine wpAny_raiseAttrError hh (fun h' tk e hx => ?_) ?_
  · exact wpAny_pure (h h' tk e hx)
  · rw [strLen_append, strLen_append, PySem.ofString_length, PySem.ofString_length, sizeLine_eq]
    have e1 : "'".length = 1 := by decide
    have e1' : (toString "'").length = 1 := by decide
    have e2 : (toString "' object has no attribute '").length = 27 := by decide
    have e3 : (toString cd.name.toString).length = cd.name.toString.length := rfl
    simp only [String.length_append]
    omega

theorem gab?_value (X : K.In s.heap) (I : InstAt s.heap x ox C od) (hga : findIn K (.ref C) "__getattribute__" = some (some (.builtin "object.__getattribute__")))
    {Q : Option Value → Shared → Prop} (hf : findObj K C od name = some (.value v)) (hh : handedIn v = true) (h : Q (some v) s) : wpAny (model prog w) A (getAttrBy? (.ref x) (.str name t)) Q E s := by
  unfold getAttrBy?
  exact wpAny_bind (wpAny_attempt (gab_value X I hga hf hh (wpAny_pure h)))

theorem gab?_bind {g a : Value} (X : K.In s.heap) (I : InstAt s.heap x ox C od) (hga : findIn K (.ref C) "__getattribute__" = some (some (.builtin "object.__getattribute__")))
    {Q : Option Value → Shared → Prop} (hf : findObj K C od name = some (.bind g a)) (hk : findIn K (.ref C) "__getattr__" = some none)
    (h : wpAny (model prog w) A.in1 (call g [a, .ref x, .ref C]) (fun v s' => wpAny (model prog w) A (handedOut v) (fun v => Q (some v)) (fun _ _ => False) s') (fun _ _ => False) s) :
    wpAny (model prog w) A (getAttrBy? (.ref x) (.str name t)) Q E s := by
  unfold getAttrBy?
  refine wpAny_bind (wpAny_attempt (gab_bind X I hga hf hk (wpAny_mono h (fun v s' hv => wpAny_mono hv (fun v s' z => wpAny_pure z) fun _ _ z => z.elim) fun _ _ z => z.elim)))

theorem gab?_miss {cd : ClassData} (X : K.In s.heap) (I : InstAt s.heap x ox C od) (hga : findIn K (.ref C) "__getattribute__" = some (some (.builtin "object.__getattribute__"))) (hk : findIn K (.ref C) "__getattr__" = some none)
    {Q : Option Value → Shared → Prop} (hf : findObj K C od name = some .missing) (hcd : clsIn K C = some cd) (hw : cd.name.cps.foldl (fun k c => k + (Str.utf8Of c).length) 0 ≤ 100) (hl : cd.name.toString.length ≤ 60) (hn : name.length ≤ 60) (hh : A.handled = none)
    (h : ∀ h' tk, (∀ b o, s.heap.get? b = some o → h'.get? b = some o) → Q none { s with heap := h', toks := tk }) : wpAny (model prog w) A (getAttrBy? (.ref x) (.str name t)) Q E s := by
  unfold getAttrBy?
  refine wpAny_bind (wpAny_attempt (gab_miss X I hga hk hf hcd hw hl hn hh fun h' tk e hx => ?_))
  obtain ⟨t', u', he⟩ := hx.there
  refine wpAny_bind (wpAny_isInstance (T := "AttributeError") (b := true) ⟨_, he, rfl⟩ sub_AttributeError ?_)
  exact wpAny_pure (h _ _ hx.keeps)

/-- getattr(None, 'name', dflt) -/
theorem getattr3_none (hA : A.handled = none) (h : ∀ h' tk, (∀ b o, s.heap.get? b = some o → h'.get? b = some o) → Q dflt { s with heap := h', toks := tk }) :
    wpAny (model prog w) A (call (.builtin "getattr") [.none, .str (Str.ofString "name") t, dflt]) Q E s := by
  obtain ⟨hp, g, d, tk, os⟩ := s
  refine Calls.call_function_entry KB.kind_getattr KB.plain_getattr KB.entry_getattr (args_getattr_3 _ _ _) ?_
  unfold Builtin.«getattr»
  refine wpAny_bind (wpAny_of_eq (a := [.none, .str (Str.ofString "name") t, dflt]) (by first | rfl | kernel_rfl) ?_)
  dsimp only
  refine wpAny_bind (wpAny_of_eq (a := ()) (by first | rfl | kernel_rfl) ?_)
  refine wpAny_bind (wpAny_of_eq (a := none) (by first | rfl | kernel_rfl) ?_)
  dsimp only
  refine wpAny_bind (wpAny_of_eq (a := (0 : Nat)) (by first | rfl | kernel_rfl) ?_)
  simp only [show ((0 : Nat) == 1) = false from rfl, Bool.false_eq_true, if_false]
  have hT : ∀ s' : Shared, s'.TypeIs (.none) "NoneType" := fun _ => rfl
  have hmiss : typeLookup (.type "NoneType") (Str.ofString "name") = pure none := am_miss_of_fast (by kernel_rfl)
  have f1 := sub_AttributeError
  have f3 := F.slot_NoneType_getattribute.lookup
  have f4 := F.slot_NoneType_getattribute.bind (.none)
  have f5 := am_none_getattr_none
  have hA' : A.in1.in1.handled = none := hA
  refine wpAny_bind ?_
  unfold getAttrBy? getAttrBy
  repeat (any_goals (first | assumption | ((with_reducible show wpAny _ _ (call (Value.builtin "object.__getattribute__") _ _) _ _ _); refine call_meets F.slot_NoneType_getattribute (hT _) F.entry_object_getattribute (F.args_object_getattribute_2 _ _) (meets_getattribute_miss_none _ _ hmiss (by size_fits)) ⟨hA, fun h' tk' e hx => ?_⟩) | wp_step))
  obtain ⟨t', u', he⟩ := hx.there
  show wpAny _ _ (getattributeRaised _ _ _ _ _ _ _) _ _ _
  unfold getattributeRaised
  refine wpAny_bind (wpAny_isInstance (T := "AttributeError") (b := true) ⟨_, he, rfl⟩ sub_AttributeError ?_)
  show wpAny _ _ (hookBehind _ _ >>= _) _ _ _
  refine wpAny_bind ?_
  show wpAny _ _ (typeLookup (.type "NoneType") "__getattr__") _ _ _
  rw [f5]
  refine wpAny_pure ?_
  refine wpAny_throw ?_
  refine wpAny_bind (wpAny_isInstance (T := "AttributeError") (b := true) ⟨_, he, rfl⟩ sub_AttributeError ?_)
  exact wpAny_pure (wpAny_pure ⟨_, rfl, h _ _ hx.keeps⟩)
end
end Mine
end
section
open PySem PySem.W PyProof.Rows PySem.Spec PySem.Calls PyProof.V
namespace Mine

/-! ## plain data -/
inductive Kind where
  | lit (c : Str)
  | seq (ms : List Nat)
  | oneOf (ms : List Nat)
  | look (neg : Bool) (m : Nat)
  | more (m : Nat)
  | opt (m : Nat)

structure Ex where
  a : Addr
  d : Addr
  t : Addr
  nm : Str
  k : Kind
  o : Obj

def Ex.own (e : Ex) : Nat := if e.nm = Str.ofString "right" then 1 else 0

abbrev tupObj (vs : List Value) : Obj := { cls := .type "tuple", data := .seq vs.toArray }
abbrev listObj (vs : List Value) (n : Nat) : Obj := { cls := .type "list", data := .seq vs.toArray n }
abbrev litObj (d : Addr) (c nm : Str) (it : Option Value) (t1 t2 : Tok) : Obj := { cls := .ref 336, dict := some d, data := .plain, slots := #[some (.str c t1), it, some (.str nm t2)] }
abbrev cmpObj (C d t : Addr) (nm : Str) (it : Option Value) (t2 : Tok) : Obj := { cls := .ref C, dict := some d, data := .plain, slots := #[some (.ref t), it, some (.str nm t2)] }
abbrev lookObj (d t : Addr) (neg : Bool) (nm : Str) (it : Option Value) (t2 : Tok) : Obj := { cls := .ref 458, dict := some d, data := .plain, slots := #[some (.bool neg), some (.ref t), it, some (.str nm t2)] }
abbrev quantObj (d t : Addr) (mx : Value) (mn : Int) (nm : Str) (it : Option Value) (t1 t2 : Tok) : Obj := { cls := .ref 504, dict := some d, data := .plain, slots := #[some mx, some (.int mn t1), some (.ref t), it, some (.str nm t2)] }
abbrev nodeObj (ea d ch : Addr) (txt : Str) (p q : Nat) (t1 t2 t3 : Tok) : Obj :=
  { cls := .ref 212, dict := some d, data := .plain, slots := #[some (.ref ch), some (.int (q : Int) t1), some (.ref ea), some (.str txt t2), some (.int (p : Int) t3)] }
abbrev infBits : UInt64 := 9218868437227405312

/-- what the object looks like -/
def Ex.instOk (e : Ex) : Prop := match e.k with
  | .lit c => ∃ it t1 t2, e.o = litObj e.d c e.nm it t1 t2
  | .seq _ => ∃ it t2, e.o = cmpObj 394 e.d e.t e.nm it t2
  | .oneOf _ => ∃ it t2, e.o = cmpObj 420 e.d e.t e.nm it t2
  | .look neg _ => ∃ it t2, e.o = lookObj e.d e.t neg e.nm it t2
  | .more _ => ∃ it tf t1 t2, e.o = quantObj e.d e.t (.float infBits tf) 1 e.nm it t1 t2
  | .opt _ => ∃ it tm t1 t2, e.o = quantObj e.d e.t (.int 1 tm) 0 e.nm it t1 t2

def addrOf (Γ : List Ex) (i : Nat) : Addr := ((Γ[i]?).map (·.a)).getD 0

def memsOf (Γ : List Ex) : Kind → Option (List Value)
  | .lit _ => none
  | .seq ms => some (ms.map fun m => .ref (addrOf Γ m))
  | .oneOf ms => some (ms.map fun m => .ref (addrOf Γ m))
  | .look _ m => some [.ref (addrOf Γ m)]
  | .more m => some [.ref (addrOf Γ m)]
  | .opt m => some [.ref (addrOf Γ m)]

def ExOk (Γ : List Ex) (imm : List (Addr × Obj)) (e : Ex) : Prop :=
  (e.a, e.o) ∈ imm ∧ e.instOk ∧ ∀ vs, memsOf Γ e.k = some vs → (e.t, tupObj vs) ∈ imm

/-! ## what the expressions match: den i p = (end, nodes of the name 'right') -/
abbrev Den := Nat → Nat → Option (Nat × Nat)

def seqRun (den : Den) : List Nat → Nat → Option (Nat × Nat)
  | [], p => some (p, 0)
  | m :: ms, p => match den m p with
    | none => none
    | some (q, c) => match seqRun den ms q with
      | none => none
      | some (q', c') => some (q', c + c')
def seqDec (den : Den) (μ : Nat → Nat → Nat) (b len : Nat) : List Nat → Nat → Prop
  | [], _ => True
  | m :: ms, p => μ m p < b ∧ ∀ q c, den m p = some (q, c) → seqDec den μ b len ms q
def oneRun (den : Den) : List Nat → Nat → Option (Nat × Nat)
  | [], _ => none
  | m :: ms, p => match den m p with
    | some r => some r
    | none => oneRun den ms p
def moreRun (den : Den) (m len : Nat) : Nat → Nat → Nat × Nat × Nat
  | 0, p => (p, 0, 0)
  | f + 1, p => if p < len then (match den m p with
    | none => (p, 0, 0)
    | some (q, c) => let r := moreRun den m len f q; (r.1, r.2.1 + 1, c + r.2.2)) else (p, 0, 0)

def GoodAt (Γ : List Ex) (txt : Str) (den : Den) (μ : Nat → Nat → Nat) (e : Ex) (i p : Nat) : Prop := match e.k with
  | .lit c => den i p = if Txt.startswith3 txt c (p : Int) = true then some (p + c.length, e.own) else none
  | .seq ms => (∀ m ∈ ms, m < Γ.length) ∧ den i p = (seqRun den ms p).map (fun r => (r.1, e.own + r.2)) ∧ seqDec den μ (μ i p) txt.length ms p
  | .oneOf ms => (∀ m ∈ ms, m < Γ.length ∧ μ m p < μ i p) ∧ den i p = (oneRun den ms p).map (fun r => (r.1, e.own + r.2))
  | .look neg m => m < Γ.length ∧ μ m p < μ i p ∧ den i p = if (den m p).isNone = neg then some (p, e.own) else none
  | .more m => m < Γ.length ∧ (∀ p', p ≤ p' → p' < txt.length → μ m p' < μ i p) ∧ (∀ p' q c, den m p' = some (q, c) → p' < q) ∧
      den i p = (let r := moreRun den m txt.length (txt.length - p) p; if 1 ≤ r.2.1 then some (r.1, e.own + r.2.2) else none)
  | .opt m => m < Γ.length ∧ (p < txt.length → μ m p < μ i p) ∧
      den i p = (if p < txt.length then (match den m p with | none => some (p, e.own) | some (q, c) => some (q, e.own + c)) else some (p, e.own))

structure Good (Γ : List Ex) (txt : Str) (den : Den) (μ : Nat → Nat → Nat) : Prop where
  bnd : ∀ i p q c, p ≤ txt.length → den i p = some (q, c) → p ≤ q ∧ q ≤ txt.length
  at_ : ∀ (i : Nat) (e : Ex) (p : Nat), Γ[i]? = some e → p ≤ txt.length → GoodAt Γ txt den μ e i p
  nmLen : ∀ (i : Nat) (e : Ex), Γ[i]? = some e → e.nm.length ≤ 1000
  litLen : ∀ (i : Nat) (e : Ex) (c : Str), Γ[i]? = some e → e.k = .lit c → c.length ≤ 1000
  mlen : ∀ (i : Nat) (e : Ex) (vs : List Value), Γ[i]? = some e → memsOf Γ e.k = some vs → vs.length ≤ 1000

/-! ## nodes in the heap -/
def Kids (R : Addr → Nat → Nat → Nat → Nat → Prop) : List Value → List Nat → Prop
  | [], [] => True
  | v :: vs, c :: cs => (∃ a i p q, v = .ref a ∧ R a i p q c) ∧ Kids R vs cs
  | _, _ => False

def NodeOk (Γ : List Ex) (txt : Str) (imm : List (Addr × Obj)) : Nat → Addr → Nat → Nat → Nat → Nat → Prop
  | 0, _, _, _, _, _ => False
  | h + 1, a, i, p, q, c => ∃ e d ch vs n cs t1 t2 t3, Γ[i]? = some e ∧ (a, nodeObj e.a d ch txt p q t1 t2 t3) ∈ imm ∧ (d, dictOf [] 0) ∈ imm ∧ (ch, listObj vs n) ∈ imm ∧ vs.length ≤ 1000000 ∧
      Kids (NodeOk Γ txt imm h) vs cs ∧ c = e.own + cs.sum

theorem Kids.mono {R R' : Addr → Nat → Nat → Nat → Nat → Prop} (h : ∀ a i p q c, R a i p q c → R' a i p q c) : ∀ {vs : List Value} {cs : List Nat}, Kids R vs cs → Kids R' vs cs
  | [], [], _ => trivial
  | _ :: _, _ :: _, ⟨⟨a, i, p, q, e, r⟩, k⟩ => ⟨⟨a, i, p, q, e, h _ _ _ _ _ r⟩, Kids.mono h k⟩
  | [], _ :: _, k => k.elim
  | _ :: _, [], k => k.elim
theorem Kids.snoc {R : Addr → Nat → Nat → Nat → Nat → Prop} {a i p q c : Nat} (r : R a i p q c) : ∀ {vs : List Value} {cs : List Nat}, Kids R vs cs → Kids R (vs ++ [.ref a]) (cs ++ [c])
  | [], [], _ => ⟨⟨a, i, p, q, rfl, r⟩, trivial⟩
  | _ :: _, _ :: _, ⟨x, k⟩ => ⟨x, Kids.snoc r k⟩
  | [], _ :: _, k => k.elim
  | _ :: _, [], k => k.elim
theorem NodeOk.mono {Γ : List Ex} {txt : Str} {imm imm' : List (Addr × Obj)} (hs : ∀ p ∈ imm, p ∈ imm') : ∀ {h h' : Nat} {a i p q c : Nat}, h ≤ h' → NodeOk Γ txt imm h a i p q c → NodeOk Γ txt imm' h' a i p q c
  | 0, _, _, _, _, _, _, _, x => x.elim
  | h + 1, 0, _, _, _, _, _, l, _ => absurd l (by omega)
  | h + 1, h' + 1, _, _, _, _, _, l, ⟨e, d, ch, vs, n, cs, t1, t2, t3, x1, x2, x2', x3, x4, x5, x6⟩ =>
    ⟨e, d, ch, vs, n, cs, t1, t2, t3, x1, hs _ x2, hs _ x2', hs _ x3, x4, Kids.mono (fun _ _ _ _ _ r => NodeOk.mono hs (Nat.le_of_succ_le_succ l) r) x5, x6⟩

/-! ## the state of a parse -/
structure Row where
  r : Addr
  o : Obj
  own : Nat
  kvs : List (Int × Value)
structure Pr where
  a : Addr
  k : Nat
  r : Addr
structure DO where
  d : Addr
  o : Obj
  t : Addr
  prs : List Pr
structure St where
  oc : Obj
  oed : Obj
  rows : List Row
  ds : List DO

/-- what does not change in a parse -/
structure PP where
  Γ : List Ex
  txt : Str
  den : Den
  μ : Nat → Nat → Nat
  C : Addr
  ER : Addr
  ED : Addr
  B : Nat

abbrev Row.cell (x : Row) : Addr × Obj := (x.r, x.o)
abbrev DO.cell (x : DO) : Addr × Obj := (x.d, x.o)
def St.mut (σ : St) (P : PP) : List (Addr × Obj) := (P.C, σ.oc) :: (P.ED, σ.oed) :: (σ.rows.map Row.cell ++ σ.ds.map DO.cell)

def ckvFrom : Nat → List Row → List (Int × Value)
  | _, [] => []
  | n, x :: r => ((n : Int), .ref x.r) :: ckvFrom (n + 1) r
abbrev ckv (rows : List Row) : List (Int × Value) := ckvFrom 0 rows

/-- the answer to expression i at place p, as a value -/
def ResOk (P : PP) (imm : List (Addr × Obj)) (i p : Nat) (v : Value) : Prop := match P.den i p with
  | none => v = .none
  | some (q, c) => ∃ nd, v = .ref nd ∧ NodeOk P.Γ P.txt imm (P.μ i p + 1) nd i p q c
def CellOk (P : PP) (imm : List (Addr × Obj)) (i : Nat) (kv : Int × Value) : Prop := ∃ p : Nat, kv.1 = p ∧ p ≤ P.txt.length ∧ (kv.2 = .ref 220 ∨ ResOk P imm i p kv.2)

def RowOk (w : World) (P : PP) (imm : List (Addr × Obj)) (x : Row) : Prop :=
  x.own < P.Γ.length ∧ x.o.IsDictOf (intKind PySem.Challenge.rw_vy0016_01.row.prog w) x.kvs ∧ (x.r == sysModules) = false ∧ ∀ kv ∈ x.kvs, CellOk P imm x.own kv

def DObj (imm : List (Addr × Obj)) (x : DO) : Prop :=
  (x.o = dictOf [] 0 ∧ x.prs = []) ∨ ∃ hsh tk n, x.o = dictOf [⟨hsh, .str (Str.ofString "oids") tk, .ref x.t⟩] n ∧ (x.t, tupObj (x.prs.map fun r => .ref r.a)) ∈ imm ∧ ∀ r ∈ x.prs, ∃ tk, (r.a, tupObj [.int (r.k : Int) tk, .ref r.r]) ∈ imm

structure DOk (P : PP) (σ : St) (imm : List (Addr × Obj)) (i : Nat) (x : DO) : Prop where
  obj : DObj imm x
  mine : ∀ r ∈ x.prs, ∀ y, σ.rows[r.k]? = some y → y.r = r.r → y.own = i
  old : ∀ r ∈ x.prs, r.r ∈ (σ.mut P ++ imm).map (·.1)
  all : ∀ (k : Nat) (y : Row), σ.rows[k]? = some y → y.own = i → ∃ r ∈ x.prs, r.k = k ∧ r.r = y.r
  len : x.prs.length ≤ P.B + 1
  len0 : (∀ y ∈ σ.rows, y.own ≠ i) → x.prs.length ≤ P.B

def ErrVal (P : PP) (v : Value) : Prop := v = .none ∨ ∃ (i : Nat) (e : Ex), P.Γ[i]? = some e ∧ v = .ref e.a
def ErrOk (P : PP) (o : Obj) : Prop := ∃ h1 t1 t1' h2 t2 z tz h3 t3 v n, o = dictOf [⟨h1, .str (Str.ofString "text") t1, .str P.txt t1'⟩, ⟨h2, .str (Str.ofString "pos") t2, .int z tz⟩, ⟨h3, .str (Str.ofString "expr") t3, v⟩] n ∧ -1 ≤ z ∧ z ≤ P.txt.length ∧ ErrVal P v

structure Inv (w : World) (P : PP) (σ : St) (imm : List (Addr × Obj)) : Prop where
  good : Good P.Γ P.txt P.den P.μ
  exs : ∀ (i : Nat) (e : Ex), P.Γ[i]? = some e → ExOk P.Γ imm e
  err : ∃ ft t, (P.ER, ({ cls := .ref 94, dict := some P.ED, data := .fields ft, slots := #[] } : Obj)) ∈ imm ∧ ft = #[.ref t, .none, .none, .none, .bool false, .none] ∧ ∃ vs, (t, tupObj vs) ∈ imm
  dsl : σ.ds.length = P.Γ.length
  ds : ∀ (i : Nat) (e : Ex), P.Γ[i]? = some e → ∃ x, σ.ds[i]? = some x ∧ x.d = e.d ∧ DOk P σ imm i x
  oc : σ.oc.IsDictOf (intKind PySem.Challenge.rw_vy0016_01.row.prog w) (ckv σ.rows)
  rows : ∀ x ∈ σ.rows, RowOk w P imm x
  owns : (σ.rows.map (·.own)).Nodup
  ed : ErrOk P σ.oed
  nod : ((σ.mut P).map (·.1)).Nodup
  off : ∀ p ∈ σ.mut P, ∀ q ∈ imm, p.1 ≠ q.1
  lowC : (P.C == sysModules) = false
  txtLen : P.txt.length ≤ 1000
  exLen : P.Γ.length ≤ 1000
  B : P.B ≤ 1000

/-- (k, p) is asked and not answered yet -/
def InProg (σ : St) (k : Nat) (p : Int) : Prop := ∃ x, σ.rows[k]? = some x ∧ valueAt x.kvs p = some (.ref 220)
end Mine
end
section
open PySem PySem.W PyProof.Rows PySem.Spec PySem.Calls PyProof.V
namespace Mine

section
variable {prog : Program} {w : World} {A : Around} {E : Value → Shared → Prop} {s : Shared} {env : Env} {h₀ : Heap}

theorem letOwned_tup {target : Expr} {I t : Addr} {i : Nat} {v : Value} {Q : Unit → Shared → Prop} (hit : s.heap.IsTupleIter I t i) (hQ : Q () s) :
    wpAny (model prog w) A (letOwnedTupleGo target (.ref I) v) Q E s := by
  obtain ⟨o, ho, hc, hd⟩ := hit
  have key : ∀ a, wpAny (model prog w) A (load I >>= fun o => match o.cls, o.data with
    | .type n, .fields vs =>
      if ["enumerate", "zip", "dict_itemiterator", "dict_reverseitemiterator", "odict_iterator", "itertools.zip_longest", "itertools.pairwise"].contains n && vs[0]? == some (rawInt a) then
        (rule "for.unpacks-the-owned-tuple" >>= fun _ => updateField I 0 .none) else pure ()
    | _, _ => pure ()) Q E s := fun a => by
    refine wpAny_bind (wpAny_load ho ?_)
    rw [hc, hd]
    dsimp only
    rw [if_neg (by
      have : (["enumerate", "zip", "dict_itemiterator", "dict_reverseitemiterator", "odict_iterator", "itertools.zip_longest", "itertools.pairwise"] : List String).contains "tuple_iterator" = false := by decide
      rw [this]; simp)]
    exact wpAny_pure hQ
  cases target <;> cases v <;> first | exact wpAny_pure hQ | exact key _

/-- the end of a turn -/
def TurnOk (h₀ : Heap) (L : Addr) (I : Addr) (o : Obj) (J : (Str → Option Value) → List (Addr × Obj) → Prop) (s s₃ : Shared) : Prop :=
  ∃ h' tk' m' led', s₃ = { s with heap := h', toks := tk' } ∧ Fr h₀ L h' m' ∧ News h₀ L h' ((I, o) :: led') ∧ (∀ p ∈ led', p.1 ≠ I) ∧ J m' led'

theorem for_tuple {target : Expr} {body orelse : List Stmt} {t : Addr} {vs : List Value} {n₀ : Nat} {L : Addr} {m : Str → Option Value} {led : List (Addr × Obj)} {Q : Flow → Shared → Prop}
    (J : Nat → (Str → Option Value) → List (Addr × Obj) → Prop)
    (hL : env.locals = L) (hh : A.handled = none) (hJ : ∀ i m led, J i m led → (t, ({ cls := .type "tuple", data := .seq vs.toArray n₀ } : Obj)) ∈ led)
    (F : Fr h₀ L s.heap m) (N : News h₀ L s.heap led) (h0 : J 0 m led)
    (turn : ∀ i v m led' I o h tk, vs[i]? = some v → J i m led' → Fr h₀ L h m → News h₀ L h ((I, o) :: led') → (∀ p ∈ led', p.1 ≠ I) → (∀ p ∈ led, p.1 < I) →
      wpAny (model prog w) A (assign target env v) (fun _ s₂ => wpAny (model prog w) A (execs body env) (fun f s₃ => match f with
        | .brk => Q .next s₃
        | .ret v => Q (.ret v) s₃
        | _ => TurnOk h₀ L I o (J (i + 1)) s s₃) (fun _ _ => False) s₂) (fun _ _ => False) { s with heap := h, toks := tk })
    (done : ∀ m led' h tk, J vs.length m led' → Fr h₀ L h m → News h₀ L h led' →
      wpAny (model prog w) A (execs orelse env) Q (fun _ _ => False) { s with heap := h, toks := tk }) :
    wpAny (model prog w) A (pyIter (.ref t)) (fun it s₂ => codeAny (model prog w) A (.forLoop target it body orelse env) (fun r s' => match r with | .ok f => Q f s' | .error e => cameBackBy (model prog w) A env E e s') s₂) E s := by
  subst hL
  have hmt : ∀ {h led'} i m I o, J i m led' → News h₀ env.locals h ((I, o) :: led') → h.IsTuple t vs.toArray := fun i m I o hj N' => ⟨_, (N' _ (.tail _ (hJ i m _ hj))).1, rfl, _, rfl⟩
  have ht : s.heap.IsTuple t vs.toArray := ⟨_, (N _ (hJ 0 m led h0)).1, rfl, _, rfl⟩
  refine wpAny_pyIter_tuple ht ?_
  have hlt : ∀ p ∈ led, p.1 < s.heap.objs.size := fun p hp => Heap.lt_size (N p hp).1
  have hLlt : env.locals < s.heap.objs.size := F.ns.lt
  have hI0 : h₀.get? s.heap.objs.size = none := by
    cases q : h₀.get? s.heap.objs.size with
    | none => rfl
    | some o => exact absurd (Heap.lt_size (F.keep _ _ q)) (Nat.lt_irrefl _)
  have hIL : s.heap.objs.size ≠ env.locals := (Nat.ne_of_lt hLlt).symm
  refine codeAny_forLoop_any
    (fun k s' => ∃ h' tk m' led' i o, s' = { s with heap := h', toks := tk } ∧ Fr h₀ env.locals h' m' ∧ News h₀ env.locals h' ((s.heap.objs.size, o) :: led') ∧ (∀ p ∈ led', p.1 ≠ s.heap.objs.size) ∧ J i m' led' ∧
      (o.cls = .type "tuple_iterator" ∧ o.data = .fields #[.ref t, .int i 0]) ∧ i ≤ vs.length ∧ k = vs.length + 1 - i) ?_ (vs.length + 1)
    ⟨s.heap.push { cls := .type "tuple_iterator", data := .fields #[.ref t, .int 0 0] }, s.toks, m, led, 0, _, rfl, F.push _, News.push F N _, (fun p hp => Nat.ne_of_lt (hlt p hp)), h0, ⟨rfl, rfl⟩, Nat.zero_le _, rfl⟩
  rintro k s' ⟨h', tk, m', led', i, o, rfl, F', N', hne', hJ', ⟨hoc, hod⟩, hi, rfl⟩
  have hit : h'.IsTupleIter s.heap.objs.size t i := ⟨o, (N' _ (.head _)).1, hoc, hod⟩
  have htu := hmt i m' _ o hJ' N'
  have htI : t ≠ s.heap.objs.size := by
    have := hne' _ (hJ i m' led' hJ')
    exact this
  by_cases hlt' : i < vs.length
  · refine wpAny_pyNext_tuple_item (x := vs[i]) hit htu (by simp [hlt']) fun h₁ hit₁ hs₁ => ?_
    obtain ⟨o₁, ho₁, hc₁, hd₁⟩ := id hit₁
    have F₁ : Fr h₀ env.locals h₁ m' := ⟨F'.ns.at' fun o e => (hs₁.2 _ hIL.symm).trans e, fun b o e => (hs₁.2 b (fun q => by rw [q, hI0] at e; cases e)).trans (F'.keep b o e), F'.above⟩
    have N₁ : News h₀ env.locals h₁ ((s.heap.objs.size, o₁) :: led') := fun p hp => by
      rcases List.mem_cons.mp hp with rfl | hp
      · exact ⟨ho₁, hIL, hI0⟩
      · exact ⟨(hs₁.2 _ (hne' p hp)).trans (N' p (.tail _ hp)).1, (N' p (.tail _ hp)).2⟩
    refine letOwned_tup (i := i + 1) hit₁ ?_
    refine wpAny_mono (turn i vs[i] m' led' _ o₁ h₁ _ (by simp [hlt']) hJ' F₁ N₁ hne' hlt) (fun _ s₂ h₂ => wpAny_mono h₂ (fun f s₃ h₃ => ?_) fun _ _ e => e.elim) fun _ _ e => e.elim
    have fin : TurnOk h₀ env.locals s.heap.objs.size o₁ (J (i + 1)) s s₃ → ∃ m, m < vs.length + 1 - i ∧ ∃ h' tk m' led' i o, s₃ = { s with heap := h', toks := tk } ∧ Fr h₀ env.locals h' m' ∧ News h₀ env.locals h' ((s.heap.objs.size, o) :: led') ∧ (∀ p ∈ led', p.1 ≠ s.heap.objs.size) ∧ J i m' led' ∧
      (o.cls = .type "tuple_iterator" ∧ o.data = .fields #[.ref t, .int i 0]) ∧ i ≤ vs.length ∧ m = vs.length + 1 - i := by
      rintro ⟨h₂, tk₂, m₂, led₂, e, F₂, N₂, hne₂, hJ₂⟩
      exact ⟨vs.length + 1 - (i + 1), by omega, h₂, tk₂, m₂, led₂, i + 1, o₁, e, F₂, N₂, hne₂, hJ₂, ⟨hc₁, hd₁⟩, hlt', rfl⟩
    cases f with
    | ret v => exact h₃
    | brk => exact h₃
    | next => exact fin h₃
    | cont => exact fin h₃
  · have hin : i = vs.length := by omega
    subst hin
    refine wpAny_pyNext_tuple_end hh hit htu (by simp) fun h₁ he₁ => ?_
    have F₁ : Fr h₀ env.locals h₁ m' := ⟨F'.ns.at' fun o e => he₁ _ o hIL.symm e, fun b o e => he₁ b o (fun q => by rw [q, hI0] at e; cases e) (F'.keep b o e), F'.above⟩
    have N₁ : News h₀ env.locals h₁ led' := fun p hp => ⟨he₁ _ _ (hne' p hp) (N' p (.tail _ hp)).1, (N' p (.tail _ hp)).2⟩
    exact wpAny_mono (done m' led' h₁ _ hJ' F₁ N₁) (fun _ _ x => x) fun _ _ e => e.elim
end
end Mine
end
section
open PySem PySem.W PyProof.Rows PySem.Spec PySem.Calls PyProof.V
namespace Mine

/-- what is not of the ledger stays, and what is new in the ledger is new -/
structure Kept (h h' : Heap) (news news' : List (Addr × Obj)) : Prop where
  same : ∀ b o, h.get? b = some o → (∀ p ∈ news, p.1 ≠ b) → h'.get? b = some o
  new : ∀ p ∈ news', (∃ z ∈ news, z.1 = p.1) ∨ h.get? p.1 = none
theorem kept {h g h' : Heap} {news news' led : List (Addr × Obj)} {L' : Addr} {m' : Str → Option Value} (G : GSub h g (news.map (·.1))) (F : Fr g L' h' m') (N : News g L' h' led) (hs : ∀ p ∈ news', p ∈ led) : Kept h h' news news' :=
  ⟨fun b o e n => F.keep b o (G b o e fun hm => by obtain ⟨p, hp, q⟩ := List.mem_map.mp hm; exact n p hp q), fun p hp => by
    by_cases hm : p.1 ∈ news.map (·.1)
    · obtain ⟨z, hz, q⟩ := List.mem_map.mp hm; exact .inl ⟨z, hz, q⟩
    · right
      cases e : h.get? p.1 with
      | none => rfl
      | some o => have := (N p (hs p hp)).2.2; rw [G _ _ e hm] at this; cases this⟩

/-- what a call of the def at f does, wherever it is called -/
def Calls (w : World) (p : Program) (loose : List Str) (mean : ExcName → Option Value) (mg mb : Str → Option Value) (D U : Nat) (f : Addr) (args : List Value) (news : List (Addr × Obj)) (Post : Value → List (Addr × Obj) → Prop) : Prop :=
  ∀ (dp un : Nat) (gd : Option (List Code)) (cn : Str) (cs : Scope) (a : Addr) (ccd : Value) (cl : List (Str × Addr)) (outer : List Env) (A₀ : Around) (base h₀ : Heap) (L : Addr) (m : Str → Option Value) (s : Shared) (Q E : Value → Shared → Prop),
    Below A₀ base outer h₀ → Fr h₀ L s.heap m → (Mine.hd.heap_39 w.params).In h₀ → News h₀ L s.heap news → Top p loose mean mg mb h₀ → cs.kind = .function → dp + D < recursionLimit → un + U < cLine →
    (∀ r news' h' tk', Fr h₀ L h' m → News h₀ L h' news' → Kept s.heap h' news news' → Post r news' → Q r { s with heap := h', toks := tk' }) →
    wpAny (model PySem.Challenge.rw_vy0016_01.row.prog w) (ktrTop dp un gd cn cs L a ccd cl outer) (call (.ref f) args) Q E s

theorem Calls.use {w : World} {p : Program} {loose : List Str} {mean : ExcName → Option Value} {mg mb : Str → Option Value} {D U : Nat} {f : Addr} {args : List Value} {news : List (Addr × Obj)} {Post : Value → List (Addr × Obj) → Prop}
    {dp un : Nat} {gd : Option (List Code)} {cn : Str} {cs : Scope} {a : Addr} {ccd : Value} {cl : List (Str × Addr)} {outer : List Env} {A₀ : Around} {base h₀ : Heap} {L : Addr} {m : Str → Option Value} {s : Shared} {Q E : Value → Shared → Prop}
    (B : Below A₀ base outer h₀) (F : Fr h₀ L s.heap m) (X : (Mine.hd.heap_39 w.params).In h₀) (N : News h₀ L s.heap news) (T : Top p loose mean mg mb h₀) (hk : cs.kind = .function) (C : Calls w p loose mean mg mb D U f args news Post)
    (hd : dp + D < recursionLimit) (hu : un + U < cLine)
    (ret : ∀ r news' h' tk', Fr h₀ L h' m → News h₀ L h' news' → Post r news' → Q r { s with heap := h', toks := tk' }) :
    wpAny (model PySem.Challenge.rw_vy0016_01.row.prog w) (ktrTop dp un gd cn cs L a ccd cl outer) (call (.ref f) args) Q E s := C _ _ _ _ _ _ _ _ _ _ _ _ _ _ _ _ _ B F X N T hk hd hu fun r news' h' tk' a b _ d => ret r news' h' tk' a b d

/-- a call, and things that it does not touch -/
theorem Calls.useX {w : World} {p : Program} {loose : List Str} {mean : ExcName → Option Value} {mg mb : Str → Option Value} {D U : Nat} {f : Addr} {args : List Value} {news ext : List (Addr × Obj)} {Post : Value → List (Addr × Obj) → Prop}
    {dp un : Nat} {gd : Option (List Code)} {cn : Str} {cs : Scope} {a : Addr} {ccd : Value} {cl : List (Str × Addr)} {outer : List Env} {A₀ : Around} {base h₀ : Heap} {L : Addr} {m : Str → Option Value} {s : Shared} {Q E : Value → Shared → Prop}
    (B : Below A₀ base outer h₀) (F : Fr h₀ L s.heap m) (X : (Mine.hd.heap_39 w.params).In h₀) (N : News h₀ L s.heap news) (Nx : News h₀ L s.heap ext) (hx : ∀ q ∈ ext, ∀ p ∈ news, p.1 ≠ q.1) (T : Top p loose mean mg mb h₀) (hk : cs.kind = .function) (C : Calls w p loose mean mg mb D U f args news Post)
    (hd : dp + D < recursionLimit) (hu : un + U < cLine)
    (ret : ∀ r news' h' tk', Fr h₀ L h' m → News h₀ L h' (ext ++ news') → (∀ q ∈ ext, ∀ p ∈ news', p.1 ≠ q.1) → Post r news' → Q r { s with heap := h', toks := tk' }) :
    wpAny (model PySem.Challenge.rw_vy0016_01.row.prog w) (ktrTop dp un gd cn cs L a ccd cl outer) (call (.ref f) args) Q E s :=
  C _ _ _ _ _ _ _ _ _ _ _ _ _ _ _ _ _ B F X N T hk hd hu fun r news' h' tk' a b c d => ret r news' h' tk' a (fun p hp => (List.mem_append.mp hp).elim (fun hp => ⟨c.same _ _ (Nx p hp).1 (hx p hp), (Nx p hp).2⟩) (b p)) (fun q hq p hp e => by
    rcases c.new p hp with ⟨z, hz, e'⟩ | hn
    · exact hx q hq z hz (e'.trans e)
    · have := (Nx q hq).1; rw [← e, hn] at this; cases this) d

structure Step (P : PP) (σ : St) (imm : List (Addr × Obj)) (σ' : St) (imm' : List (Addr × Obj)) : Prop where
  ext : ∃ ex, imm' = ex ++ imm ∧ ∀ q ∈ ex, ∀ p ∈ σ.mut P ++ imm, p.1 < q.1
  rows : ∃ nr, σ'.rows.map (fun x => (x.r, x.own)) = σ.rows.map (fun x => (x.r, x.own)) ++ nr ∧ ∀ y ∈ nr, ∀ p ∈ σ.mut P ++ imm, p.1 < y.1
  ds : σ'.ds.map (·.d) = σ.ds.map (·.d)
  prog : ∀ k p, InProg σ' k p → InProg σ k p

def Later (P : PP) (σ : St) (n : Nat) : Prop := ∀ (k : Nat) (x : Row) (q : Int), σ.rows[k]? = some x → valueAt x.kvs q = some (.ref 220) → n < P.μ x.own q.toNat

def MC (w : World) (p : Program) (loose : List Str) (mean : ExcName → Option Value) (mg mb : Str → Option Value) (P : PP) (i q : Nat) : Prop :=
  i < P.Γ.length → q ≤ P.txt.length → ∀ (σ : St) (imm : List (Addr × Obj)) (tt tq : Tok), Inv w P σ imm → Later P σ (P.μ i q) →
    Calls w p loose mean mg mb (4 * P.μ i q + 8) (40 * P.μ i q + 100) 266 [.ref (addrOf P.Γ i), .str P.txt tt, .int (q : Int) tq, .ref P.C, .ref P.ER] (σ.mut P ++ imm)
      (fun v news' => ∃ σ' imm', news' = σ'.mut P ++ imm' ∧ Inv w P σ' imm' ∧ Step P σ imm σ' imm' ∧ ResOk P imm' i q v)

theorem mut_rows {P : PP} {σ : St} {x : Row} (h : x ∈ σ.rows) : x.cell ∈ σ.mut P := .tail _ (.tail _ (List.mem_append_left _ (List.mem_map_of_mem h)))
theorem mut_ds {P : PP} {σ : St} {x : DO} (h : x ∈ σ.ds) : x.cell ∈ σ.mut P := .tail _ (.tail _ (List.mem_append_right _ (List.mem_map_of_mem h)))
theorem mut_oc {P : PP} {σ : St} : (P.C, σ.oc) ∈ σ.mut P := .head _
theorem mut_oed {P : PP} {σ : St} : (P.ED, σ.oed) ∈ σ.mut P := .tail _ (.head _)

theorem News.sub {h₀ h : Heap} {L : Addr} {n n' : List (Addr × Obj)} (N : News h₀ L h n) (hs : ∀ p ∈ n', p ∈ n) : News h₀ L h n' := fun p hp => N p (hs p hp)

/-- what is read of an expression's class -/
structure ClsF (K : Frag) (C um : Addr) (j : Nat) : Prop where
  ga : findIn K (.ref C) "__getattribute__" = some (some (.builtin "object.__getattribute__"))
  gt : findIn K (.ref C) "__getattr__" = some none
  plain : ∀ n, plainGet K C n = true
  oids : findIn K (.ref C) (Str.ofString "oids") = some none
  nomod : subIn K (.ref C) (.type "module") = some false
  hasDict : hasDictIn K C = true
  isCls : isClsIn K C = true
  over : plainOver K C = true
  sa : findIn K (.ref C) "__setattr__" = some (some (.builtin "object.__setattr__"))
  taker : takerIn K C (Str.ofString "oids") = some none
  nm : findIn K (.ref C) (Str.ofString "name") = some (some (.ref 298))
  nmSlot : slotIn K 298 C = some j
  umKeep : keepIn K (.ref um) = true
  umFn : isFn K (.ref um) = true
  um : findIn K (.ref C) (Str.ofString "_uncached_match") = some (some (.ref um))
  mc : findIn K (.ref C) (Str.ofString "match_core") = some (some (.ref 266))
  mcKeep : keepIn K (.ref 266) = true
  mcFn : isFn K (.ref 266) = true
  nmGet : specialIn K (.ref 298) "__get__" = some (some (.builtin "member_descriptor.__get__"))
  nmTake : takesIn K (.ref 298) = some true
  cd : ∃ cd, clsIn K C = some cd ∧ cd.name.cps.foldl (fun k c => k + (Str.utf8Of c).length) 0 ≤ 100 ∧ cd.name.toString.length ≤ 60

end Mine
end
section
open PySem PySem.W PyProof.Rows PySem.Spec PySem.Calls
namespace Mine
theorem cls_lit (w : World) : ClsF (Mine.hd.heap_39 w.params) 336 325 2 := by
  exact ⟨by k_is, by k_is, fun n => (show plainGet _ _ (Str.ofString "x") = true by k_is), by k_is, by k_is, by k_is, by k_is, by k_is, by k_is, by k_is, by k_is, by k_is, by k_is, by k_is, by k_is, by k_is, by k_is, by k_is, by k_is, by k_is, ⟨_, by k_is, by decide +kernel, by decide +kernel⟩⟩
theorem cls_seq (w : World) : ClsF (Mine.hd.heap_39 w.params) 394 384 2 := by
  exact ⟨by k_is, by k_is, fun n => (show plainGet _ _ (Str.ofString "x") = true by k_is), by k_is, by k_is, by k_is, by k_is, by k_is, by k_is, by k_is, by k_is, by k_is, by k_is, by k_is, by k_is, by k_is, by k_is, by k_is, by k_is, by k_is, ⟨_, by k_is, by decide +kernel, by decide +kernel⟩⟩
theorem cls_oneOf (w : World) : ClsF (Mine.hd.heap_39 w.params) 420 410 2 := by
  exact ⟨by k_is, by k_is, fun n => (show plainGet _ _ (Str.ofString "x") = true by k_is), by k_is, by k_is, by k_is, by k_is, by k_is, by k_is, by k_is, by k_is, by k_is, by k_is, by k_is, by k_is, by k_is, by k_is, by k_is, by k_is, by k_is, ⟨_, by k_is, by decide +kernel, by decide +kernel⟩⟩
theorem cls_look (w : World) : ClsF (Mine.hd.heap_39 w.params) 458 447 3 := by
  exact ⟨by k_is, by k_is, fun n => (show plainGet _ _ (Str.ofString "x") = true by k_is), by k_is, by k_is, by k_is, by k_is, by k_is, by k_is, by k_is, by k_is, by k_is, by k_is, by k_is, by k_is, by k_is, by k_is, by k_is, by k_is, by k_is, ⟨_, by k_is, by decide +kernel, by decide +kernel⟩⟩
theorem cls_quant (w : World) : ClsF (Mine.hd.heap_39 w.params) 504 493 4 := by
  exact ⟨by k_is, by k_is, fun n => (show plainGet _ _ (Str.ofString "x") = true by k_is), by k_is, by k_is, by k_is, by k_is, by k_is, by k_is, by k_is, by k_is, by k_is, by k_is, by k_is, by k_is, by k_is, by k_is, by k_is, by k_is, by k_is, ⟨_, by k_is, by decide +kernel, by decide +kernel⟩⟩
end Mine
end
section
open PySem PySem.W PyProof.Rows PySem.Spec PySem.Calls
namespace Mine
theorem fr_grow {h₀ h h' : Heap} {L : Addr} {m : Str → Option Value} (F : Fr h₀ L h m) (k : ∀ b o, h.get? b = some o → h'.get? b = some o) : Fr h₀ L h' m :=
  ⟨F.ns.at' fun o e => k _ o e, fun b o e => k b o (F.keep b o e), F.above⟩
theorem news_grow {h₀ h h' : Heap} {L : Addr} {led : List (Addr × Obj)} (N : News h₀ L h led) (k : ∀ b o, h.get? b = some o → h'.get? b = some o) : News h₀ L h' led :=
  fun p hp => ⟨k _ _ (N p hp).1, (N p hp).2⟩

section
variable {prog : Program} {w : World} {A : Around} {E : Value → Shared → Prop} {s : Shared} {K : Frag} {C um : Addr} {j : Nat} {h₀ : Heap} {L : Addr} {m : Str → Option Value} {led : List (Addr × Obj)} {Q : Value → Shared → Prop} {t : Tok} {e : Ex} {x : DO} {t0 : Addr}

theorem inst_ex (N : News h₀ L s.heap led) (hC : e.o.cls = .ref C) (hd : e.o.dict = some e.d) (hn : notCls e.o = true) (he : (e.a, e.o) ∈ led) (hx : (x.d, x.o) ∈ led) (hxd : x.d = e.d) : InstAt s.heap e.a e.o C (some x.o) :=
  ⟨(N _ he).1, hC, hn, by rw [hd]; rw [← hxd]; exact (N _ hx).1⟩

theorem getattr_oids (F : Fr h₀ L s.heap m) (X : K.In h₀) (N : News h₀ L s.heap led) (hcls : ClsF K C um j) (hC : e.o.cls = .ref C) (hd : e.o.dict = some e.d) (hn : notCls e.o = true) (he : (e.a, e.o) ∈ led) (hx : (x.d, x.o) ∈ led) (hxd : x.d = e.d)
    (ho : DObj led x) (h0 : (t0, tupObj []) ∈ led) (hh : A.handled = none)
    (h : ∀ h' tk t', Fr h₀ L h' m → News h₀ L h' led → (t', tupObj (x.prs.map fun r => .ref r.a)) ∈ led → (∀ r ∈ x.prs, ∃ tk, (r.a, tupObj [.int (r.k : Int) tk, .ref r.r]) ∈ led) → Q (.ref t') { s with heap := h', toks := tk }) :
    wpAny (model prog w) A (call (.builtin "getattr") [.ref e.a, .str (Str.ofString "oids") t, .ref t0]) Q E s := by
  have X' := X.keeps F.keep
  have II := inst_ex N hC hd hn he hx hxd
  refine getattr3_oids X' II hcls.nomod ?_
  rcases ho with ⟨ho, hp⟩ | ⟨hsh, tk, n, ho, ht, hr⟩
  · obtain ⟨cd, c1, c2, c3⟩ := hcls.cd
    refine gab?_miss X' II hcls.ga hcls.gt ?_ c1 c2 c3 (by decide) hh fun h' tk k => ?_
    · have hd' := hcls.hasDict
      unfold hasDictIn at hd'
      rw [c1] at hd'
      unfold findObj
      rw [c1, Option.bind_some, hcls.oids, Option.bind_some]
      have hdd : cd.hasDict = true := hd'
      have hl : lookIn (Str.ofString "oids") (dictOf [] 0) = some none := by rw [lookIn_dict]; rfl
      have hcp : copiedNames.contains (Str.ofString "oids") = false := by decide +kernel
      simp only [ho, PySem.W.ownOf, hdd, if_true, hl, Option.bind_some, hcp, Bool.false_and, Bool.false_eq_true, if_false]
    · refine h h' tk t0 (fr_grow F k) (news_grow N k) (by rw [hp]; exact h0) (by rw [hp]; intro r hr; cases hr)
  · refine gab?_value (v := .ref x.t) X' II hcls.ga ?_ rfl ?_
    · rw [ho]
      exact findObj_own (attr := none) hcls.hasDict hcls.oids rfl (by rw [lookIn_dict]; unfold getL; rfl)
    · exact h _ _ _ F N ht hr
end
end Mine
end
section
open PySem PySem.W PyProof.Rows PySem.Spec PySem.Calls PyProof.V
namespace Mine

/-! ## lists -/
theorem mem_erase_or {α : Type} {l : List α} {i : Nat} {x y : α} (hx : l[i]? = some x) (hy : y ∈ l) : y = x ∨ y ∈ l.eraseIdx i := by
  obtain ⟨j, hj⟩ := List.getElem?_of_mem hy
  by_cases h : j = i
  · subst h; rw [hx] at hj; exact .inl (Option.some.inj hj).symm
  · exact .inr (List.mem_eraseIdx_iff_getElem?.mpr ⟨j, h, hj⟩)
theorem mem_set_or {α : Type} {l : List α} {i : Nat} {v y : α} (hy : y ∈ l.set i v) : y = v ∨ y ∈ l.eraseIdx i := by
  obtain ⟨j, hj⟩ := List.getElem?_of_mem hy
  rw [List.getElem?_set] at hj
  by_cases h : i = j
  · subst h
    rw [if_pos rfl] at hj
    split at hj
    · exact .inl (Option.some.inj hj).symm
    · cases hj
  · rw [if_neg h] at hj
    exact .inr (List.mem_eraseIdx_iff_getElem?.mpr ⟨j, fun e => h e.symm, hj⟩)
theorem erase_ne {α β : Type} {f : α → β} {l : List α} {i : Nat} {x : α} (hn : (l.map f).Nodup) (hx : l[i]? = some x) : ∀ y ∈ l.eraseIdx i, f y ≠ f x := by
  intro y hy e
  obtain ⟨j, hj, hy'⟩ := List.mem_eraseIdx_iff_getElem?.mp hy
  have hi := (List.getElem?_eq_some_iff.mp hx).1
  have hj' := (List.getElem?_eq_some_iff.mp hy').1
  have a : (l.map f)[i]? = some (f x) := by rw [List.getElem?_map, hx]; rfl
  have b : (l.map f)[j]? = some (f x) := by rw [List.getElem?_map, hy']; simp [e]
  have := List.pairwise_iff_getElem.mp hn
  have hi2 : i < (l.map f).length := by simpa using hi
  have hj2 : j < (l.map f).length := by simpa using hj'
  have a' : (l.map f)[i] = f x := by have := List.getElem?_eq_getElem hi2; rw [a] at this; exact (Option.some.inj this).symm
  have b' : (l.map f)[j] = f x := by have := List.getElem?_eq_getElem hj2; rw [b] at this; exact (Option.some.inj this).symm
  rcases Nat.lt_or_gt_of_ne hj with h | h
  · exact this j i hj2 hi2 h (b'.trans a'.symm)
  · exact this i j hi2 hj2 h (a'.trans b'.symm)
theorem mem_of_erase {α : Type} {l : List α} {i : Nat} {y : α} (h : y ∈ l.eraseIdx i) : y ∈ l := List.mem_of_mem_eraseIdx h

theorem nodup_range {l : List Int} (hn : l.Nodup) : ∀ (n : Nat), (∀ x ∈ l, 0 ≤ x ∧ x < (n : Int)) → l.length ≤ n := by
  intro n
  induction n generalizing l with
  | zero =>
    intro h
    cases l with
    | nil => exact Nat.le_refl _
    | cons x r => have := h x (.head _); omega
  | succ n ih =>
    intro h
    have h1 : (l.filter (fun x => decide (x ≠ (n : Int)))).length ≤ n := ih (hn.filter _) fun x hx => by
      obtain ⟨a, b⟩ := List.mem_filter.mp hx
      have b' : x ≠ (n : Int) := of_decide_eq_true b
      have := h x a
      omega
    have h2 : l.length ≤ (l.filter (fun x => decide (x ≠ (n : Int)))).length + 1 := by
      clear ih h h1
      induction l with
      | nil => simp
      | cons x r ih =>
        obtain ⟨hx, hr⟩ := List.nodup_cons.mp hn
        by_cases e : x = (n : Int)
        · have : r.filter (fun x => decide (x ≠ (n : Int))) = r := List.filter_eq_self.mpr fun y hy => decide_eq_true (fun q => hx (by rw [e, ← q]; exact hy))
          rw [List.filter_cons_of_neg (by simp [e]), this]
          simp
        · rw [List.filter_cons_of_pos (by simp [e])]
          have := ih hr
          simp only [List.length_cons]; omega
    omega

/-! ## the cache's rows -/
theorem ckvFrom_at : ∀ (rows : List Row) (n : Nat) (k : Nat), valueAt (ckvFrom n rows) ((n + k : Nat) : Int) = (rows[k]?).map fun x => .ref x.r
  | [], n, k => by simp [ckvFrom, valueAt]
  | x :: r, n, 0 => by simp [ckvFrom, valueAt]
  | x :: r, n, k + 1 => by
    have h := ckvFrom_at r (n + 1) k
    have e : ((n + (k + 1) : Nat) : Int) = ((n + 1 + k : Nat) : Int) := by omega
    rw [e, List.getElem?_cons_succ, ← h]
    unfold valueAt
    rw [show ckvFrom n (x :: r) = ((n : Int), .ref x.r) :: ckvFrom (n + 1) r from rfl, List.find?_cons_of_neg (by simp; omega)]
theorem ckv_at (rows : List Row) (k : Nat) : valueAt (ckv rows) (k : Int) = (rows[k]?).map fun x => .ref x.r := by
  have := ckvFrom_at rows 0 k
  rwa [Nat.zero_add] at this
theorem ckvFrom_length : ∀ (rows : List Row) (n : Nat), (ckvFrom n rows).length = rows.length
  | [], _ => rfl
  | _ :: r, n => by simp [ckvFrom, ckvFrom_length r (n + 1)]
theorem ckvFrom_snoc : ∀ (rows : List Row) (n : Nat) (x : Row), ckvFrom n (rows ++ [x]) = ckvFrom n rows ++ [(((n + rows.length : Nat) : Int), Value.ref x.r)]
  | [], n, x => by simp [ckvFrom]
  | y :: r, n, x => by
    have := ckvFrom_snoc r (n + 1) x
    simp only [List.cons_append, ckvFrom, this, List.length_cons]
    congr 3
    have : n + 1 + r.length = n + (r.length + 1) := by omega
    rw [this]
theorem ckvFrom_keys : ∀ (rows : List Row) (n : Nat), ∀ kv ∈ ckvFrom n rows, kv.1 < ((n + rows.length : Nat) : Int)
  | [], _, _, h => by cases h
  | x :: r, n, kv, h => by
    rcases List.mem_cons.mp h with rfl | h
    · simp only [List.length_cons]; omega
    · have := ckvFrom_keys r (n + 1) kv h
      simp only [List.length_cons]; omega
theorem ckv_snoc (rows : List Row) (x : Row) : ckv (rows ++ [x]) = stored (ckv rows) (rows.length : Int) (.ref x.r) := by
  unfold stored
  rw [if_neg (by
    intro h
    obtain ⟨kv, hk, e⟩ := List.any_eq_true.mp h
    have := ckvFrom_keys rows 0 kv hk
    have e' : kv.1 = (rows.length : Int) := of_decide_eq_true e
    rw [Nat.zero_add] at this
    omega)]
  have := ckvFrom_snoc rows 0 x
  rw [Nat.zero_add] at this
  exact this
theorem ckvFrom_set : ∀ (rows : List Row) (n k : Nat) (y y' : Row), rows[k]? = some y → y'.r = y.r → ckvFrom n (rows.set k y') = ckvFrom n rows
  | [], _, _, _, _, h, _ => by simp at h
  | x :: r, n, 0, y, y', h, e => by
    simp only [List.getElem?_cons_zero, Option.some.injEq] at h
    subst h
    simp [ckvFrom, e]
  | x :: r, n, k + 1, y, y', h, e => by
    simp only [List.getElem?_cons_succ] at h
    simp only [List.set_cons_succ, ckvFrom, ckvFrom_set r (n + 1) k y y' h e]

theorem valueAt_stored (kvs : List (Int × Value)) (k k' : Int) (v : Value) : valueAt (stored kvs k v) k' = if k' = k then some v else valueAt kvs k' := by
  have hmap : ∀ (l : List (Int × Value)), valueAt (l.map fun kv => if kv.1 = k then (kv.1, v) else kv) k' = if k' = k then (valueAt l k').map (fun _ => v) else valueAt l k' := by
    intro l
    induction l with
    | nil => simp [valueAt]
    | cons a r ih =>
      simp only [List.map_cons]
      unfold valueAt at ih ⊢
      by_cases h1 : a.1 = k
      · rw [if_pos h1]
        by_cases h2 : k' = k
        · subst h2
          rw [List.find?_cons_of_pos (by simp [h1]), List.find?_cons_of_pos (by simp [h1])]
          simp
        · rw [List.find?_cons_of_neg (by simp only [decide_eq_true_eq]; exact fun e => h2 (e.symm.trans h1)), List.find?_cons_of_neg (by simp only [decide_eq_true_eq]; exact fun e => h2 (e.symm.trans h1))]
          exact ih
      · rw [if_neg h1]
        by_cases h3 : a.1 = k'
        · rw [List.find?_cons_of_pos (by simp [h3]), List.find?_cons_of_pos (by simp [h3])]
          rw [if_neg (fun e => h1 (h3.trans e))]
        · rw [List.find?_cons_of_neg (by simp [h3]), List.find?_cons_of_neg (by simp [h3])]
          exact ih
  unfold stored
  by_cases h : kvs.any (fun kv => kv.1 = k) = true
  · rw [if_pos h, hmap]
    by_cases e : k' = k
    · rw [if_pos e, if_pos e]
      subst e
      obtain ⟨kv, hk, e'⟩ := List.any_eq_true.mp h
      have : (valueAt kvs k').isSome = true := by
        unfold valueAt
        rw [Option.isSome_map, List.find?_isSome]
        exact ⟨kv, hk, e'⟩
      obtain ⟨u, hu⟩ := Option.isSome_iff_exists.mp this
      rw [hu]; rfl
    · rw [if_neg e, if_neg e]
  · rw [if_neg h]
    have hno : ∀ kv ∈ kvs, ¬ kv.1 = k := fun kv hk e => h (List.any_eq_true.mpr ⟨kv, hk, decide_eq_true e⟩)
    unfold valueAt
    rw [List.find?_append]
    by_cases e : k' = k
    · subst e
      have : kvs.find? (fun kv => decide (kv.1 = k')) = none := List.find?_eq_none.mpr fun kv hk => by simpa using hno kv hk
      rw [this]; simp
    · rw [if_neg e]
      cases hq : kvs.find? (fun kv => decide (kv.1 = k')) with
      | some u => rfl
      | none => simp only [Option.none_or]; rw [List.find?_cons_of_neg (by simp; exact fun q => e q.symm)]; rfl
theorem mem_stored {kvs : List (Int × Value)} {k : Int} {v : Value} {kv : Int × Value} (h : kv ∈ stored kvs k v) : kv = (k, v) ∨ kv ∈ kvs := by
  unfold stored at h
  split at h
  · obtain ⟨a, ha, rfl⟩ := List.mem_map.mp h
    split
    · rename_i e; left; rw [e]
    · exact .inr ha
  · rcases List.mem_append.mp h with h | h
    · exact .inr h
    · exact .inl (List.mem_singleton.mp h)
theorem valueAt_mem {kvs : List (Int × Value)} {k : Int} {v : Value} (h : valueAt kvs k = some v) : (k, v) ∈ kvs := by
  unfold valueAt at h
  obtain ⟨kv, h1, h2⟩ := Option.map_eq_some_iff.mp h
  have := List.mem_of_find?_eq_some h1
  have e : kv.1 = k := by simpa using List.find?_some h1
  obtain ⟨a, b⟩ := kv
  simp only at e h2
  subst e h2
  exact this
end Mine
end
section
open PySem PySem.W PyProof.Rows PySem.Spec PySem.Calls PyProof.V
namespace Mine

theorem map_set_same {α β : Type} {f : α → β} {l : List α} {k : Nat} {y y' : α} (h : l[k]? = some y) (e : f y' = f y) : (l.set k y').map f = l.map f := by
  apply List.ext_getElem?
  intro i
  simp only [List.getElem?_map, List.getElem?_set]
  by_cases hk : k = i
  · subst hk
    rw [if_pos rfl, h]
    have : k < l.length := (List.getElem?_eq_some_iff.mp h).1
    simp [this, e]
  · rw [if_neg hk]

theorem addrs_eq (P : PP) (σ : St) : (σ.mut P).map (·.1) = P.C :: P.ED :: (σ.rows.map (·.r) ++ σ.ds.map (·.d)) := by
  simp [St.mut, List.map_append, List.map_map, Function.comp_def]

theorem DOk.of_addrs {P : PP} {σ σ' : St} {imm imm' : List (Addr × Obj)} {i : Nat} {x : DO} (h : DOk P σ imm i x) (hs : ∀ p ∈ imm, p ∈ imm')
    (ha : ∀ a ∈ (σ.mut P).map (·.1), a ∈ (σ'.mut P).map (·.1)) (hr : σ'.rows.map (fun y => (y.r, y.own)) = σ.rows.map (fun y => (y.r, y.own))) : DOk P σ' imm' i x := by
  have at_ : ∀ (k : Nat) (y : Row), σ'.rows[k]? = some y → ∃ y0, σ.rows[k]? = some y0 ∧ y0.r = y.r ∧ y0.own = y.own := fun k y hy => by
    have e := congrArg (fun l => l[k]?) hr
    simp only [List.getElem?_map, hy, Option.map_some] at e
    cases h0 : σ.rows[k]? with
    | none => rw [h0] at e; cases e
    | some y0 => rw [h0] at e; have := Option.some.inj e; exact ⟨y0, rfl, (congrArg Prod.fst this).symm, (congrArg Prod.snd this).symm⟩
  refine ⟨?_, fun r hr' y hy e => ?_, fun r hr' => ?_, fun k y hy e => ?_, h.len, fun hno => h.len0 fun y hy => ?_⟩
  · rcases h.obj with h | ⟨a, b, c, h1, h2, h3⟩
    · exact .inl h
    · exact .inr ⟨a, b, c, h1, hs _ h2, fun r hr => let ⟨tk, h⟩ := h3 r hr; ⟨tk, hs _ h⟩⟩
  · obtain ⟨y0, h0, e1, e2⟩ := at_ _ _ hy
    rw [← e2]; exact h.mine r hr' y0 h0 (e1.trans e)
  · have := h.old r hr'
    rw [List.map_append, List.mem_append] at this ⊢
    rcases this with q | q
    · exact .inl (ha _ q)
    · right
      obtain ⟨p, hp, e⟩ := List.mem_map.mp q
      exact List.mem_map.mpr ⟨p, hs p hp, e⟩
  · obtain ⟨y0, h0, e1, e2⟩ := at_ _ _ hy
    obtain ⟨r, a, b, c⟩ := h.all k y0 h0 (e2.trans e)
    exact ⟨r, a, b, c.trans e1⟩
  · obtain ⟨k, hk⟩ := List.getElem?_of_mem hy
    have e := congrArg (fun l => l[k]?) hr
    simp only [List.getElem?_map, hk, Option.map_some] at e
    cases h0 : σ'.rows[k]? with
    | none => rw [h0] at e; cases e
    | some y0 =>
      rw [h0] at e
      have := Option.some.inj e
      have e2 := congrArg Prod.snd this
      have := hno y0 (List.mem_of_getElem? h0)
      exact fun q => this (by simp only at e2; rw [e2]; exact q)

theorem ResOk.mono {P : PP} {imm imm' : List (Addr × Obj)} {i p : Nat} {v : Value} (h : ResOk P imm i p v) (hs : ∀ p ∈ imm, p ∈ imm') : ResOk P imm' i p v := by
  unfold ResOk at *
  split at h
  · exact h
  · obtain ⟨nd, e, h⟩ := h
    exact ⟨nd, e, h.mono hs (Nat.le_refl _)⟩
theorem CellOk.mono {P : PP} {imm imm' : List (Addr × Obj)} {i : Nat} {kv : Int × Value} (h : CellOk P imm i kv) (hs : ∀ p ∈ imm, p ∈ imm') : CellOk P imm' i kv :=
  let ⟨p, a, b, c⟩ := h; ⟨p, a, b, c.imp id fun r => r.mono hs⟩
theorem RowOk.mono {w : World} {P : PP} {imm imm' : List (Addr × Obj)} {x : Row} (h : RowOk w P imm x) (hs : ∀ p ∈ imm, p ∈ imm') : RowOk w P imm' x :=
  ⟨h.1, h.2.1, h.2.2.1, fun kv hk => (h.2.2.2 kv hk).mono hs⟩
theorem ExOk.mono {Γ : List Ex} {imm imm' : List (Addr × Obj)} {e : Ex} (h : ExOk Γ imm e) (hs : ∀ p ∈ imm, p ∈ imm') : ExOk Γ imm' e := ⟨hs _ h.1, h.2.1, fun vs hv => hs _ (h.2.2 vs hv)⟩

theorem Row.len {w : World} {P : PP} {imm : List (Addr × Obj)} {x : Row} (h : RowOk w P imm x) : x.kvs.length ≤ P.txt.length + 1 := by
  obtain ⟨_, ⟨es, ep, _, _, _, _, hn⟩, _, hc⟩ := h
  have := nodup_range hn (P.txt.length + 1) fun z hz => by
    obtain ⟨kv, hk, rfl⟩ := List.mem_map.mp hz
    obtain ⟨p, e, hp, _⟩ := hc kv hk
    omega
  simpa using this

/-- a cell of a row is written -/
theorem Inv.setRow {w : World} {P : PP} {σ : St} {imm : List (Addr × Obj)} (I : Inv w P σ imm) {k : Nat} {y : Row} (hk : σ.rows[k]? = some y) {q : Int} {v : Value} {o' : Obj}
    (ho : o'.IsDictOf (intKind PySem.Challenge.rw_vy0016_01.row.prog w) (stored y.kvs q v)) (hv : CellOk P imm y.own (q, v)) :
    Inv w P { σ with rows := σ.rows.set k { y with o := o', kvs := stored y.kvs q v } } imm := by
  have hm : (σ.rows.set k { y with o := o', kvs := stored y.kvs q v }).map (fun z => (z.r, z.own)) = σ.rows.map (fun z => (z.r, z.own)) := map_set_same hk rfl
  have hmr : (σ.rows.set k { y with o := o', kvs := stored y.kvs q v }).map (·.r) = σ.rows.map (·.r) := map_set_same hk rfl
  have hmo : (σ.rows.set k { y with o := o', kvs := stored y.kvs q v }).map (·.own) = σ.rows.map (·.own) := map_set_same hk rfl
  have had : (({ σ with rows := σ.rows.set k { y with o := o', kvs := stored y.kvs q v } } : St).mut P).map (·.1) = (σ.mut P).map (·.1) := by
    rw [addrs_eq, addrs_eq]; simp only [hmr]
  refine { good := I.good, exs := I.exs, err := I.err, dsl := I.dsl, ds := fun i e he => ?_, oc := ?_, rows := fun z hz => ?_, owns := ?_, ed := I.ed, nod := ?_, off := fun p hp z hz => ?_, lowC := I.lowC, txtLen := I.txtLen, exLen := I.exLen, B := I.B }
  · obtain ⟨x, a, b, c⟩ := I.ds i e he
    exact ⟨x, a, b, c.of_addrs (fun _ h => h) (fun _ h => by rw [had]; exact h) hm⟩
  · show σ.oc.IsDictOf _ (ckvFrom 0 (σ.rows.set k _))
    rw [ckvFrom_set _ _ _ y { y with o := o', kvs := stored y.kvs q v } hk rfl]; exact I.oc
  · rcases mem_set_or hz with rfl | hz
    · obtain ⟨a, _, c, d⟩ := I.rows y (List.mem_of_getElem? hk)
      exact ⟨a, ho, c, fun kv hkv => (mem_stored hkv).elim (fun e => by rw [e]; exact hv) (d kv)⟩
    · exact I.rows z (mem_of_erase hz)
  · show ((σ.rows.set k _).map (·.own)).Nodup
    rw [hmo]; exact I.owns
  · rw [had]; exact I.nod
  · have : p.1 ∈ (σ.mut P).map (·.1) := by rw [← had]; exact List.mem_map_of_mem hp
    obtain ⟨p', hp', e⟩ := List.mem_map.mp this
    rw [← e]; exact I.off p' hp' z hz

theorem Inv.setErr {w : World} {P : PP} {σ : St} {imm : List (Addr × Obj)} (I : Inv w P σ imm) {o' : Obj} (ho : ErrOk P o') : Inv w P { σ with oed := o' } imm := by
  have had : (({ σ with oed := o' } : St).mut P).map (·.1) = (σ.mut P).map (·.1) := by rw [addrs_eq, addrs_eq]
  refine { good := I.good, exs := I.exs, err := I.err, dsl := I.dsl, ds := fun i e he => ?_, oc := I.oc, rows := I.rows, owns := I.owns, ed := ho, nod := ?_, off := fun p hp z hz => ?_, lowC := I.lowC, txtLen := I.txtLen, exLen := I.exLen, B := I.B }
  · obtain ⟨x, a, b, c⟩ := I.ds i e he
    exact ⟨x, a, b, c.of_addrs (fun _ h => h) (fun _ h => by rw [had]; exact h) rfl⟩
  · rw [had]; exact I.nod
  · have : p.1 ∈ (σ.mut P).map (·.1) := by rw [← had]; exact List.mem_map_of_mem hp
    obtain ⟨p', hp', e⟩ := List.mem_map.mp this
    rw [← e]; exact I.off p' hp' z hz

/-- new things that stay as they are -/
theorem Inv.more {w : World} {P : PP} {σ : St} {imm ex : List (Addr × Obj)} (I : Inv w P σ imm) (hex : ∀ q ∈ ex, ∀ p ∈ σ.mut P ++ imm, p.1 < q.1) : Inv w P σ (ex ++ imm) := by
  have hs : ∀ p ∈ imm, p ∈ ex ++ imm := fun p hp => List.mem_append_right _ hp
  refine { good := I.good, exs := fun i e he => (I.exs i e he).mono hs, err := let ⟨ft, t, a, b, vs, c⟩ := I.err; ⟨ft, t, hs _ a, b, vs, hs _ c⟩, dsl := I.dsl, ds := fun i e he => ?_, oc := I.oc, rows := fun z hz => (I.rows z hz).mono hs, owns := I.owns, ed := I.ed, nod := I.nod, off := fun p hp z hz => ?_, lowC := I.lowC, txtLen := I.txtLen, exLen := I.exLen, B := I.B }
  · obtain ⟨x, a, b, c⟩ := I.ds i e he
    exact ⟨x, a, b, c.of_addrs hs (fun _ h => h) rfl⟩
  · rcases List.mem_append.mp hz with hz | hz
    · exact Nat.ne_of_lt (hex z hz p (List.mem_append_left _ hp))
    · exact I.off p hp z hz

theorem Step.refl (P : PP) (σ : St) (imm : List (Addr × Obj)) : Step P σ imm σ imm := ⟨⟨[], rfl, fun _ h => nomatch h⟩, ⟨[], (List.append_nil _).symm, fun _ h => nomatch h⟩, rfl, fun _ _ h => h⟩
theorem Step.imm {P : PP} {σ σ' : St} {imm imm' : List (Addr × Obj)} (S : Step P σ imm σ' imm') : ∀ p ∈ imm, p ∈ imm' := fun p hp => let ⟨ex, e, _⟩ := S.ext; by rw [e]; exact List.mem_append_right _ hp
theorem Step.addrs {P : PP} {σ σ' : St} {imm imm' : List (Addr × Obj)} (S : Step P σ imm σ' imm') : ∀ p ∈ σ.mut P ++ imm, ∃ p' ∈ σ'.mut P ++ imm', p'.1 = p.1 := by
  intro p hp
  have : p.1 ∈ (σ'.mut P ++ imm').map (·.1) := by
    have h : p.1 ∈ (σ.mut P ++ imm).map (·.1) := List.mem_map_of_mem hp
    rw [List.map_append, addrs_eq, List.mem_append] at h ⊢
    rcases h with h | h
    · left
      obtain ⟨nr, e, _⟩ := S.rows
      have er : σ'.rows.map (·.r) = σ.rows.map (·.r) ++ nr.map (·.1) := by
        have := congrArg (List.map Prod.fst) e
        simpa [List.map_append, List.map_map, Function.comp_def] using this
      rw [er, S.ds]
      simp only [List.mem_cons, List.mem_append] at h ⊢
      rcases h with h | h | h | h
      · exact .inl h
      · exact .inr (.inl h)
      · exact .inr (.inr (.inl (.inl h)))
      · exact .inr (.inr (.inr h))
    · right
      obtain ⟨z, hz, e⟩ := List.mem_map.mp h
      exact List.mem_map.mpr ⟨z, S.imm z hz, e⟩
  obtain ⟨p', a, b⟩ := List.mem_map.mp this
  exact ⟨p', a, b⟩
theorem Step.trans {P : PP} {σ σ' σ'' : St} {imm imm' imm'' : List (Addr × Obj)} (S : Step P σ imm σ' imm') (S' : Step P σ' imm' σ'' imm'') : Step P σ imm σ'' imm'' := by
  obtain ⟨ex, e1, h1⟩ := S.ext
  obtain ⟨ex', e2, h2⟩ := S'.ext
  obtain ⟨nr, e3, h3⟩ := S.rows
  obtain ⟨nr', e4, h4⟩ := S'.rows
  refine ⟨⟨ex' ++ ex, by rw [e2, e1, List.append_assoc], fun q hq p hp => ?_⟩, ⟨nr ++ nr', by rw [e4, e3, List.append_assoc], fun y hy p hp => ?_⟩, S'.ds.trans S.ds, fun k p h => S.prog k p (S'.prog k p h)⟩
  · rcases List.mem_append.mp hq with hq | hq
    · obtain ⟨p', a, b⟩ := S.addrs p hp
      rw [← b]; exact h2 q hq p' a
    · exact h1 q hq p hp
  · rcases List.mem_append.mp hy with hy | hy
    · exact h3 y hy p hp
    · obtain ⟨p', a, b⟩ := S.addrs p hp
      rw [← b]; exact h4 y hy p' a
/-- a row stays where it is -/
theorem Step.row {P : PP} {σ σ' : St} {imm imm' : List (Addr × Obj)} (S : Step P σ imm σ' imm') {k : Nat} {y : Row} (h : σ.rows[k]? = some y) : ∃ y', σ'.rows[k]? = some y' ∧ y'.r = y.r ∧ y'.own = y.own := by
  obtain ⟨nr, e, _⟩ := S.rows
  have q := congrArg (fun l => l[k]?) e
  have hk : k < (σ.rows.map fun x => (x.r, x.own)).length := by simpa using (List.getElem?_eq_some_iff.mp h).1
  simp only [List.getElem?_append_left hk, List.getElem?_map, h, Option.map_some] at q
  cases h0 : σ'.rows[k]? with
  | none => rw [h0] at q; cases q
  | some y' => rw [h0] at q; have := Option.some.inj q; exact ⟨y', rfl, congrArg Prod.fst this, congrArg Prod.snd this⟩
theorem Step.setRow {P : PP} {σ : St} {imm : List (Addr × Obj)} {k : Nat} {y : Row} (hk : σ.rows[k]? = some y) {q : Int} {v : Value} {o' : Obj} (hv : v ≠ .ref 220) :
    Step P σ imm { σ with rows := σ.rows.set k { y with o := o', kvs := stored y.kvs q v } } imm := by
  refine ⟨⟨[], rfl, fun _ h => nomatch h⟩, ⟨[], by rw [List.append_nil]; exact map_set_same hk rfl, fun _ h => nomatch h⟩, rfl, ?_⟩
  rintro k' p ⟨x, hx, hp⟩
  rw [show ({ σ with rows := σ.rows.set k { y with o := o', kvs := stored y.kvs q v } } : St).rows = σ.rows.set k { y with o := o', kvs := stored y.kvs q v } from rfl, List.getElem?_set] at hx
  by_cases e : k = k'
  · subst e
    rw [if_pos rfl] at hx
    split at hx
    · cases hx
      simp only [valueAt_stored] at hp
      split at hp
      · exact absurd (Option.some.inj hp) hv
      · exact ⟨y, hk, hp⟩
    · cases hx
  · rw [if_neg e] at hx; exact ⟨x, hx, hp⟩
theorem Step.setErr {P : PP} {σ : St} {imm : List (Addr × Obj)} {o' : Obj} : Step P σ imm { σ with oed := o' } imm :=
  ⟨⟨[], rfl, fun _ h => nomatch h⟩, ⟨[], (List.append_nil _).symm, fun _ h => nomatch h⟩, rfl, fun _ _ h => h⟩
theorem Step.more {P : PP} {σ : St} {imm ex : List (Addr × Obj)} (hex : ∀ q ∈ ex, ∀ p ∈ σ.mut P ++ imm, p.1 < q.1) : Step P σ imm σ (ex ++ imm) :=
  ⟨⟨ex, rfl, hex⟩, ⟨[], (List.append_nil _).symm, fun _ h => nomatch h⟩, rfl, fun _ _ h => h⟩

/-- an expression gets its row -/
theorem Inv.newRow {w : World} {P : PP} {σ : St} {imm ex : List (Addr × Obj)} (I : Inv w P σ imm) {i : Nat} {e : Ex} (he : P.Γ[i]? = some e) {x : DO} (hx : σ.ds[i]? = some x) (hno : ∀ y ∈ σ.rows, y.own ≠ i)
    {r t' pa : Addr} {oc' or od' : Obj} {hsh : Int} {tk tk' : Tok} {n : Nat}
    (hoc : oc'.IsDictOf (intKind PySem.Challenge.rw_vy0016_01.row.prog w) (stored (ckv σ.rows) (σ.rows.length : Int) (.ref r))) (hor : or.IsDictOf (intKind PySem.Challenge.rw_vy0016_01.row.prog w) [])
    (hlow : (r == sysModules) = false) (hod : od' = dictOf [⟨hsh, .str (Str.ofString "oids") tk, .ref t'⟩] n)
    (ht : (t', tupObj (.ref pa :: x.prs.map fun r => .ref r.a)) ∈ ex) (hp : (pa, tupObj [.int (σ.rows.length : Int) tk', .ref r]) ∈ ex) (hprs : ∀ z ∈ x.prs, ∃ tk, (z.a, tupObj [.int (z.k : Int) tk, .ref z.r]) ∈ imm)
    (hr : ∀ p ∈ σ.mut P ++ imm, p.1 < r) (hex : ∀ q ∈ ex, ∀ p ∈ σ.mut P ++ imm, p.1 < q.1) (hre : ∀ q ∈ ex, r ≠ q.1) :
    Inv w P { σ with oc := oc', rows := σ.rows ++ [⟨r, or, i, []⟩], ds := σ.ds.set i ⟨x.d, od', t', ⟨pa, σ.rows.length, r⟩ :: x.prs⟩ } (ex ++ imm) ∧
    Step P σ imm { σ with oc := oc', rows := σ.rows ++ [⟨r, or, i, []⟩], ds := σ.ds.set i ⟨x.d, od', t', ⟨pa, σ.rows.length, r⟩ :: x.prs⟩ } (ex ++ imm) := by
  have hs : ∀ p ∈ imm, p ∈ ex ++ imm := fun p hp => List.mem_append_right _ hp
  have hi : i < σ.ds.length := (List.getElem?_eq_some_iff.mp hx).1
  have hds : (σ.ds.set i ⟨x.d, od', t', ⟨pa, σ.rows.length, r⟩ :: x.prs⟩).map (·.d) = σ.ds.map (·.d) := map_set_same hx rfl
  have ha0 : ∀ a ∈ (σ.mut P).map (·.1), a < r := fun a h => by
    obtain ⟨p, hp, rfl⟩ := List.mem_map.mp h
    exact hr p (List.mem_append_left _ hp)
  have hin : ∀ a, a ∈ (({ σ with oc := oc', rows := σ.rows ++ [⟨r, or, i, []⟩], ds := σ.ds.set i ⟨x.d, od', t', ⟨pa, σ.rows.length, r⟩ :: x.prs⟩ } : St).mut P).map (·.1) ↔ a = r ∨ a ∈ (σ.mut P).map (·.1) := fun a => by
    rw [addrs_eq, addrs_eq]
    simp only [hds, List.map_append, List.map_cons, List.map_nil, List.mem_cons, List.mem_append, List.not_mem_nil, or_false]
    constructor
    · rintro (h | h | (h | h) | h) <;> simp [h]
    · rintro (h | h | h | h | h) <;> simp [h]
  have hrows : ∀ (k : Nat) (y : Row), (σ.rows ++ [⟨r, or, i, []⟩])[k]? = some y → σ.rows[k]? = some y ∨ (k = σ.rows.length ∧ y = ⟨r, or, i, []⟩) := fun k y h => by
    rw [List.getElem?_append] at h
    split at h
    · exact .inl h
    · rename_i hk
      have : k - σ.rows.length = 0 := by
        cases q : k - σ.rows.length with
        | zero => rfl
        | succ n => rw [q] at h; simp at h
      rw [this] at h
      simp only [List.getElem?_cons_zero, Option.some.injEq] at h
      exact .inr ⟨by omega, h.symm⟩
  constructor
  · refine { good := I.good, exs := fun i e he => (I.exs i e he).mono hs, err := let ⟨ft, t, a, b, vs, c⟩ := I.err; ⟨ft, t, hs _ a, b, vs, hs _ c⟩, dsl := by simpa using I.dsl, ds := fun i' e' he' => ?_, oc := ?_, rows := fun z hz => ?_, owns := ?_, ed := I.ed, nod := ?_, off := fun p hp z hz => ?_, lowC := I.lowC, txtLen := I.txtLen, exLen := I.exLen, B := I.B }
    · have lift : ∀ a : Addr, a ∈ (σ.mut P ++ imm).map (·.1) → a ∈ ((({ σ with oc := oc', rows := σ.rows ++ [⟨r, or, i, []⟩], ds := σ.ds.set i ⟨x.d, od', t', ⟨pa, σ.rows.length, r⟩ :: x.prs⟩ } : St).mut P) ++ (ex ++ imm)).map (·.1) := fun a h => by
        rw [List.map_append, List.mem_append] at h ⊢
        rcases h with h | h
        · exact .inl ((hin a).mpr (.inr h))
        · right
          obtain ⟨z, hz, e⟩ := List.mem_map.mp h
          exact List.mem_map.mpr ⟨z, hs z hz, e⟩
      have ltr : ∀ a : Addr, a ∈ (σ.mut P ++ imm).map (·.1) → a < r := fun a h => by
        obtain ⟨p, hp, rfl⟩ := List.mem_map.mp h
        exact hr p hp
      by_cases e : i = i'
      · subst e
        rw [he] at he'
        cases he'
        obtain ⟨x', hx', hxd, ok⟩ := I.ds i e he
        rw [hx] at hx'
        cases hx'
        refine ⟨⟨x.d, od', t', ⟨pa, σ.rows.length, r⟩ :: x.prs⟩, by rw [List.getElem?_set]; simp [hi], hxd, ?_⟩
        refine ⟨.inr ⟨hsh, tk, n, hod, List.mem_append_left _ ht, fun z hz => ?_⟩, fun z hz y hy q => ?_, fun z hz => ?_, fun k y hy q => ?_, ?_, fun h => ?_⟩
        · rcases List.mem_cons.mp hz with rfl | hz
          · exact ⟨_, List.mem_append_left _ hp⟩
          · obtain ⟨u, hu⟩ := hprs z hz; exact ⟨u, hs _ hu⟩
        · rcases hrows _ _ hy with h | ⟨_, rfl⟩
          · rcases List.mem_cons.mp hz with rfl | hz
            · exact absurd (List.getElem?_eq_some_iff.mp h).1 (Nat.lt_irrefl _)
            · exact ok.mine z hz y h q
          · rfl
        · rcases List.mem_cons.mp hz with rfl | hz
          · rw [List.map_append, List.mem_append]
            exact .inl ((hin r).mpr (.inl rfl))
          · exact lift _ (ok.old z hz)
        · rcases hrows _ _ hy with h | ⟨rfl, rfl⟩
          · obtain ⟨z, a, b, c⟩ := ok.all k y h q
            exact ⟨z, .tail _ a, b, c⟩
          · exact ⟨_, .head _, rfl, rfl⟩
        · simp only [List.length_cons]
          have := ok.len0 hno
          omega
        · exact absurd rfl (h ⟨r, or, i, []⟩ (by simp))
      · obtain ⟨x', hx', hxd, ok⟩ := I.ds i' e' he'
        refine ⟨x', by rw [List.getElem?_set, if_neg e]; exact hx', hxd, ?_⟩
        refine ⟨?_, fun z hz y hy q => ?_, fun z hz => lift _ (ok.old z hz), fun k y hy q => ?_, ok.len, fun h => ok.len0 fun y hy => h y (List.mem_append_left _ hy)⟩
        · rcases ok.obj with h | ⟨a, b, c, h1, h2, h3⟩
          · exact .inl h
          · exact .inr ⟨a, b, c, h1, hs _ h2, fun r hr => let ⟨tk, h⟩ := h3 r hr; ⟨tk, hs _ h⟩⟩
        · rcases hrows _ _ hy with h | ⟨_, rfl⟩
          · exact ok.mine z hz y h q
          · have := ltr _ (ok.old z hz)
            rw [← q] at this
            exact absurd this (Nat.lt_irrefl _)
        · rcases hrows _ _ hy with h | ⟨_, rfl⟩
          · exact ok.all k y h q
          · exact absurd q e
    · show oc'.IsDictOf _ (ckv (σ.rows ++ [⟨r, or, i, []⟩]))
      rw [ckv_snoc]; exact hoc
    · rcases List.mem_append.mp hz with hz | hz
      · exact (I.rows z hz).mono hs
      · obtain rfl := List.mem_singleton.mp hz
        have : i < P.Γ.length := (List.getElem?_eq_some_iff.mp he).1
        exact ⟨this, hor, hlow, fun _ h => nomatch h⟩
    · show ((σ.rows ++ [(⟨r, or, i, []⟩ : Row)]).map (·.own)).Nodup
      rw [List.map_append]
      refine List.nodup_append.mpr ⟨I.owns, by simp, fun a ha b hb => ?_⟩
      obtain ⟨y, hy, rfl⟩ := List.mem_map.mp ha
      simp only [List.map_cons, List.map_nil, List.mem_singleton] at hb
      subst hb
      exact hno y hy
    · have hn := I.nod
      rw [addrs_eq] at hn ⊢
      simp only [hds, List.map_append, List.map_cons, List.map_nil]
      have hrn : r ∉ (P.C :: P.ED :: (σ.rows.map (·.r) ++ σ.ds.map (·.d))) := fun h => by
        have := ha0 r (by rw [addrs_eq]; exact h)
        exact absurd this (Nat.lt_irrefl _)
      have hperm : List.Perm (r :: (P.C :: P.ED :: (σ.rows.map (·.r) ++ σ.ds.map (·.d)))) (P.C :: P.ED :: ((σ.rows.map (·.r) ++ [r]) ++ σ.ds.map (·.d))) := by
        rw [List.append_assoc]
        refine (List.Perm.swap _ _ _).trans (List.Perm.cons _ ((List.Perm.swap _ _ _).trans (List.Perm.cons _ ?_)))
        exact (List.perm_middle (a := r) (l₁ := σ.rows.map (·.r)) (l₂ := σ.ds.map (·.d))).symm
      exact hperm.nodup_iff.mp (List.nodup_cons.mpr ⟨hrn, hn⟩)
    · have h1 := (hin p.1).mp (List.mem_map_of_mem hp)
      rcases h1 with h1 | h1
      · rcases List.mem_append.mp hz with hz | hz
        · rw [h1]; exact hre z hz
        · rw [h1]; exact (Nat.ne_of_lt (hr z (List.mem_append_right _ hz))).symm
      · obtain ⟨p', hp', e⟩ := List.mem_map.mp h1
        rw [← e]
        rcases List.mem_append.mp hz with hz | hz
        · exact Nat.ne_of_lt (hex z hz p' (List.mem_append_left _ hp'))
        · exact I.off p' hp' z hz
  · refine ⟨⟨ex, rfl, hex⟩, ⟨[(r, i)], by simp, fun y hy p hp => ?_⟩, hds, ?_⟩
    · rw [List.mem_singleton.mp hy]; exact hr p hp
    · rintro k p ⟨y, hy, hv⟩
      rcases hrows _ _ hy with h | ⟨_, rfl⟩
      · exact ⟨y, h, hv⟩
      · cases hv
end Mine
end
section
open PySem PySem.W PyProof.Rows PySem.Spec PySem.Calls PyProof.V
namespace Mine

def Later' (P : PP) (σ : St) (n : Nat) : Prop := ∀ (k : Nat) (x : Row) (q : Int), σ.rows[k]? = some x → valueAt x.kvs q = some (.ref 220) → n ≤ P.μ x.own q.toNat

theorem Later'.toLater {P : PP} {σ : St} {n k : Nat} (h : Later' P σ n) (hk : k < n) : Later P σ k := fun k' x q hx hv => Nat.lt_of_lt_of_le hk (h k' x q hx hv)
theorem Step.later' {P : PP} {σ σ' : St} {imm imm' : List (Addr × Obj)} (S : Step P σ imm σ' imm') {n : Nat} (h : Later' P σ n) : Later' P σ' n := fun k x q hx hv => by
  obtain ⟨y, hy, hyv⟩ := S.prog k q ⟨x, hx, hv⟩
  obtain ⟨y', hy', _, ho⟩ := S.row hy
  rw [hx] at hy'; cases hy'
  rw [ho]; exact h k y q hy hyv
theorem Step.later {P : PP} {σ σ' : St} {imm imm' : List (Addr × Obj)} (S : Step P σ imm σ' imm') {n : Nat} (h : Later P σ n) : Later P σ' n := fun k x q hx hv => by
  obtain ⟨y, hy, hyv⟩ := S.prog k q ⟨x, hx, hv⟩
  obtain ⟨y', hy', _, ho⟩ := S.row hy
  rw [hx] at hy'; cases hy'
  rw [ho]; exact h k y q hy hyv

abbrev St.put (σ : St) (k : Nat) (y : Row) (o' : Obj) (q : Int) (v : Value) : St := { σ with rows := σ.rows.set k { y with o := o', kvs := stored y.kvs q v } }

theorem put_at {σ : St} {k k' : Nat} {y x : Row} {o' : Obj} {q : Int} {v : Value} (h : (σ.put k y o' q v).rows[k']? = some x) : (k' = k ∧ x = { y with o := o', kvs := stored y.kvs q v }) ∨ (k' ≠ k ∧ σ.rows[k']? = some x) := by
  rw [show (σ.put k y o' q v).rows = σ.rows.set k { y with o := o', kvs := stored y.kvs q v } from rfl, List.getElem?_set] at h
  by_cases e : k = k'
  · subst e
    rw [if_pos rfl] at h
    split at h
    · exact .inl ⟨rfl, (Option.some.inj h).symm⟩
    · cases h
  · rw [if_neg e] at h; exact .inr ⟨fun q => e q.symm, h⟩

theorem put_later {P : PP} {σ : St} {k i q : Nat} {y : Row} {o' : Obj} (hk : σ.rows[k]? = some y) (ho : y.own = i) (h : Later P σ (P.μ i q)) : Later' P (σ.put k y o' (q : Int) (.ref 220)) (P.μ i q) := fun k' x p hx hv => by
  rcases put_at hx with ⟨rfl, rfl⟩ | ⟨_, hx⟩
  · simp only [valueAt_stored] at hv
    split at hv
    · rename_i e; subst e; rw [show ({ y with o := o', kvs := stored y.kvs (q : Int) (.ref 220) } : Row).own = i from ho]; exact Nat.le_refl _
    · exact Nat.le_of_lt (h k' y p hk hv)
  · exact Nat.le_of_lt (h _ _ _ hx hv)

theorem put_addrs (P : PP) {σ : St} {k : Nat} {y : Row} {o' : Obj} {q : Int} {v : Value} (hk : σ.rows[k]? = some y) : ((σ.put k y o' q v).mut P).map (·.1) = (σ.mut P).map (·.1) := by
  rw [addrs_eq, addrs_eq]
  have : (σ.put k y o' q v).rows.map (·.r) = σ.rows.map (·.r) := map_set_same hk rfl
  rw [this]

/-- a question asked, what came between, and its answer -/
theorem Step.close {P : PP} {σ σ' : St} {imm imm' : List (Addr × Obj)} {k : Nat} {y y' : Row} {q : Int} {v : Value} {o1 o2 : Obj} (hk : σ.rows[k]? = some y) (S : Step P (σ.put k y o1 q (.ref 220)) imm σ' imm') (hk' : σ'.rows[k]? = some y') (hv : v ≠ .ref 220) :
    Step P σ imm (σ'.put k y' o2 q v) imm' := by
  have ha : ∀ p ∈ σ.mut P ++ imm, ∃ p' ∈ (σ.put k y o1 q (.ref 220)).mut P ++ imm, p'.1 = p.1 := fun p hp => by
    have h : p.1 ∈ ((σ.put k y o1 q (.ref 220)).mut P ++ imm).map (·.1) := by
      rw [List.map_append, put_addrs P hk, ← List.map_append]; exact List.mem_map_of_mem hp
    obtain ⟨p', a, b⟩ := List.mem_map.mp h
    exact ⟨p', a, b⟩
  obtain ⟨ex, e, h1⟩ := S.ext
  obtain ⟨nr, e2, h2⟩ := S.rows
  refine ⟨⟨ex, e, fun z hz p hp => ?_⟩, ⟨nr, ?_, fun z hz p hp => ?_⟩, S.ds, ?_⟩
  · obtain ⟨p', a, b⟩ := ha p hp
    rw [← b]; exact h1 z hz p' a
  · have e3 : (σ'.put k y' o2 q v).rows.map (fun x => (x.r, x.own)) = σ'.rows.map (fun x => (x.r, x.own)) := map_set_same hk' rfl
    have e4 : (σ.put k y o1 q (.ref 220)).rows.map (fun x => (x.r, x.own)) = σ.rows.map (fun x => (x.r, x.own)) := map_set_same hk rfl
    rw [e3, e2, e4]
  · obtain ⟨p', a, b⟩ := ha p hp
    rw [← b]; exact h2 z hz p' a
  · rintro k' p ⟨x, hx, hp⟩
    rcases put_at hx with ⟨rfl, rfl⟩ | ⟨hne, hx⟩
    · simp only [valueAt_stored] at hp
      split at hp
      · exact absurd (Option.some.inj hp) hv
      · rename_i hpq
        obtain ⟨x2, hx2, hp2⟩ := S.prog k' p ⟨y', hk', hp⟩
        rcases put_at hx2 with ⟨_, rfl⟩ | ⟨h, _⟩
        · simp only [valueAt_stored, if_neg hpq] at hp2
          exact ⟨y, hk, hp2⟩
        · exact absurd rfl h
    · obtain ⟨x2, hx2, hp2⟩ := S.prog k' p ⟨x, hx, hp⟩
      rcases put_at hx2 with ⟨h, _⟩ | ⟨_, hx2⟩
      · exact absurd h hne
      · exact ⟨x2, hx2, hp2⟩

theorem put_self {σ : St} {k : Nat} {y : Row} {o' : Obj} {q : Int} {v : Value} (hk : σ.rows[k]? = some y) : (σ.put k y o' q v).rows[k]? = some { y with o := o', kvs := stored y.kvs q v } := by
  have := (List.getElem?_eq_some_iff.mp hk).1
  rw [show (σ.put k y o' q v).rows = σ.rows.set k { y with o := o', kvs := stored y.kvs q v } from rfl, List.getElem?_set]
  simp [this]
theorem res_ne {P : PP} {h₀ h : Heap} {L a : Addr} {led imm : List (Addr × Obj)} {i q : Nat} {v : Value} {K : Frag} (X : K.In h₀) (hl : ∃ o, K.lookup a = some o) (N : News h₀ L h led) (hs : ∀ p ∈ imm, p ∈ led) (h : ResOk P imm i q v) : v ≠ .ref a := by
  intro e
  obtain ⟨o, ho⟩ := hl
  unfold ResOk at h
  split at h
  · rw [h] at e; cases e
  · obtain ⟨nd, e', hn⟩ := h
    rw [e] at e'
    cases e'
    obtain ⟨e, d, ch, vs, n, cs, t1, t2, t3, x1, x2, _⟩ := hn
    have := (N _ (hs _ x2)).2.2
    rw [show h₀.get? a = some o from X a o ho] at this
    cases this

/-- the ledger, opened at a row -/
theorem open_row {w : World} {P : PP} {σ : St} {imm : List (Addr × Obj)} (I : Inv w P σ imm) {k : Nat} {y : Row} (hy : σ.rows[k]? = some y) :
    ∃ R : List (Addr × Obj), (∀ p ∈ (y.r, y.o) :: R, p ∈ σ.mut P ++ imm) ∧ (∀ p ∈ R, p.1 ≠ y.r) ∧ (∀ p ∈ σ.mut P ++ imm, p.1 ≠ y.r → p ∈ R) ∧
      ∀ o' q v, ∀ p ∈ (σ.put k y o' q v).mut P ++ imm, p ∈ (y.r, o') :: R := by
  have hn := I.nod
  rw [addrs_eq] at hn
  obtain ⟨n1, n2⟩ := List.nodup_cons.mp hn
  obtain ⟨n3, n4⟩ := List.nodup_cons.mp n2
  obtain ⟨n5, n6, n7⟩ := List.nodup_append.mp n4
  simp only [List.mem_cons, List.mem_append, not_or] at n1 n3
  have hym := List.mem_of_getElem? hy
  have hyr : y.r ∈ σ.rows.map (·.r) := List.mem_map_of_mem hym
  refine ⟨(P.C, σ.oc) :: (P.ED, σ.oed) :: ((σ.rows.eraseIdx k).map Row.cell ++ σ.ds.map DO.cell) ++ imm, fun p hp => ?_, fun p hp => ?_, fun p hp hne => ?_, fun o' q v p hp => ?_⟩
  · rcases List.mem_cons.mp hp with rfl | hp
    · exact List.mem_append_left _ (mut_rows hym)
    rcases List.mem_append.mp hp with hp | hp
    · refine List.mem_append_left _ ?_
      rcases List.mem_cons.mp hp with rfl | hp
      · exact mut_oc
      rcases List.mem_cons.mp hp with rfl | hp
      · exact mut_oed
      rcases List.mem_append.mp hp with hp | hp
      · obtain ⟨z, hz, rfl⟩ := List.mem_map.mp hp
        exact mut_rows (mem_of_erase hz)
      · obtain ⟨z, hz, rfl⟩ := List.mem_map.mp hp
        exact mut_ds hz
    · exact List.mem_append_right _ hp
  · rcases List.mem_append.mp hp with hp | hp
    · rcases List.mem_cons.mp hp with rfl | hp
      · exact fun e => n1.2.1 (show P.C ∈ _ from (show P.C = y.r from e) ▸ hyr)
      rcases List.mem_cons.mp hp with rfl | hp
      · exact fun e => n3.1 (show P.ED ∈ _ from (show P.ED = y.r from e) ▸ hyr)
      rcases List.mem_append.mp hp with hp | hp
      · obtain ⟨z, hz, rfl⟩ := List.mem_map.mp hp
        exact erase_ne n5 hy z hz
      · obtain ⟨z, hz, rfl⟩ := List.mem_map.mp hp
        exact fun e => n7 _ hyr _ (List.mem_map_of_mem hz) e.symm
    · exact fun e => I.off _ (mut_rows hym) p hp e.symm
  · rcases List.mem_append.mp hp with hp | hp
    · refine List.mem_append_left _ ?_
      rcases List.mem_cons.mp hp with rfl | hp
      · exact .head _
      rcases List.mem_cons.mp hp with rfl | hp
      · exact .tail _ (.head _)
      rcases List.mem_append.mp hp with hp | hp
      · obtain ⟨z, hz, rfl⟩ := List.mem_map.mp hp
        rcases mem_erase_or hy hz with rfl | hz
        · exact absurd rfl hne
        · exact .tail _ (.tail _ (List.mem_append_left _ (List.mem_map_of_mem hz)))
      · exact .tail _ (.tail _ (List.mem_append_right _ hp))
    · exact List.mem_append_right _ hp
  · rcases List.mem_append.mp hp with hp | hp
    · rcases List.mem_cons.mp hp with rfl | hp
      · exact .tail _ (List.mem_append_left _ (.head _))
      rcases List.mem_cons.mp hp with rfl | hp
      · exact .tail _ (List.mem_append_left _ (.tail _ (.head _)))
      rcases List.mem_append.mp hp with hp | hp
      · obtain ⟨z, hz, rfl⟩ := List.mem_map.mp hp
        rcases mem_set_or hz with rfl | hz
        · exact .head _
        · exact .tail _ (List.mem_append_left _ (.tail _ (.tail _ (List.mem_append_left _ (List.mem_map_of_mem hz)))))
      · exact .tail _ (List.mem_append_left _ (.tail _ (.tail _ (List.mem_append_right _ hp))))
    · exact .tail _ (List.mem_append_right _ hp)

/-- the ledger, opened at the error's dict -/
theorem open_err {w : World} {P : PP} {σ : St} {imm : List (Addr × Obj)} (I : Inv w P σ imm) :
    ∃ R : List (Addr × Obj), (∀ p ∈ (P.ED, σ.oed) :: R, p ∈ σ.mut P ++ imm) ∧ (∀ p ∈ R, p.1 ≠ P.ED) ∧ (∀ p ∈ σ.mut P ++ imm, p.1 ≠ P.ED → p ∈ R) ∧
      ∀ o', ∀ p ∈ ({ σ with oed := o' } : St).mut P ++ imm, p ∈ (P.ED, o') :: R := by
  have hn := I.nod
  rw [addrs_eq] at hn
  obtain ⟨n1, n2⟩ := List.nodup_cons.mp hn
  obtain ⟨n3, n4⟩ := List.nodup_cons.mp n2
  simp only [List.mem_cons, List.mem_append, not_or] at n1 n3
  refine ⟨(P.C, σ.oc) :: (σ.rows.map Row.cell ++ σ.ds.map DO.cell) ++ imm, fun p hp => ?_, fun p hp => ?_, fun p hp hne => ?_, fun o' p hp => ?_⟩
  · rcases List.mem_cons.mp hp with rfl | hp
    · exact List.mem_append_left _ mut_oed
    rcases List.mem_append.mp hp with hp | hp
    · refine List.mem_append_left _ ?_
      rcases List.mem_cons.mp hp with rfl | hp
      · exact mut_oc
      · exact .tail _ (.tail _ hp)
    · exact List.mem_append_right _ hp
  · rcases List.mem_append.mp hp with hp | hp
    · rcases List.mem_cons.mp hp with rfl | hp
      · exact fun e => n1.1 e
      rcases List.mem_append.mp hp with hp | hp
      · obtain ⟨z, hz, rfl⟩ := List.mem_map.mp hp
        exact fun e => n3.1 (show P.ED ∈ _ from (show z.r = P.ED from e) ▸ List.mem_map_of_mem hz)
      · obtain ⟨z, hz, rfl⟩ := List.mem_map.mp hp
        exact fun e => n3.2 (show P.ED ∈ _ from (show z.d = P.ED from e) ▸ List.mem_map_of_mem hz)
    · exact fun e => I.off _ mut_oed p hp e.symm
  · rcases List.mem_append.mp hp with hp | hp
    · refine List.mem_append_left _ ?_
      rcases List.mem_cons.mp hp with rfl | hp
      · exact .head _
      rcases List.mem_cons.mp hp with rfl | hp
      · exact absurd rfl hne
      · exact .tail _ hp
    · exact List.mem_append_right _ hp
  · rcases List.mem_append.mp hp with hp | hp
    · rcases List.mem_cons.mp hp with rfl | hp
      · exact .tail _ (List.mem_append_left _ (.head _))
      rcases List.mem_cons.mp hp with rfl | hp
      · exact .head _
      · exact .tail _ (List.mem_append_left _ (.tail _ hp))
    · exact .tail _ (List.mem_append_right _ hp)
end Mine
end
section
open PySem PySem.W PyProof.Rows PySem.Spec PySem.Calls PyProof.V
namespace Mine
theorem rows_few {w : World} {P : PP} {σ : St} {imm : List (Addr × Obj)} (I : Inv w P σ imm) : σ.rows.length ≤ 1000 := by
  have h := nodup_range (l := (σ.rows.map (·.own)).map (fun n : Nat => (n : Int))) ?_ P.Γ.length ?_
  · simp only [List.length_map] at h; have := I.exLen; omega
  · refine List.pairwise_map.mpr ?_
    exact I.owns.imp fun h e => h (Int.ofNat.inj e)
  · intro z hz
    obtain ⟨n, hn, rfl⟩ := List.mem_map.mp hz
    obtain ⟨y, hy, rfl⟩ := List.mem_map.mp hn
    have := (I.rows y hy).1
    omega
theorem stored_ckv_len (rows : List Row) (r : Addr) : (stored (ckv rows) (rows.length : Int) (.ref r)).length = rows.length + 1 := by
  rw [← ckv_snoc rows ⟨r, { cls := .none, data := .plain }, 0, []⟩, ckvFrom_length, List.length_append]; rfl
theorem snoc_at {α : Type} {l : List α} {x : α} : (l ++ [x])[l.length]? = some x := by simp
theorem no_row {P : PP} {σ : St} {imm : List (Addr × Obj)} {i : Nat} {x : DO} (xok : DOk P σ imm i x)
    (hpast : ∀ k r, k < (x.prs.map fun r => Value.ref r.a).length → x.prs[k]? = some r → valueAt (ckv σ.rows) (r.k : Int) ≠ some (.ref r.r)) : ∀ y ∈ σ.rows, y.own ≠ i := by
  intro y hy e
  obtain ⟨k, hk⟩ := List.getElem?_of_mem hy
  obtain ⟨r, hr, rfl, hrr⟩ := xok.all k y hk e
  obtain ⟨n, hn⟩ := List.getElem?_of_mem hr
  have := (List.getElem?_eq_some_iff.mp hn).1
  refine hpast n r (by simpa using this) hn ?_
  rw [ckv_at, hk, hrr]; rfl

/-- the ledger, opened at the cache and at one expression's dict, two fresh things ahead -/
theorem else_led {w : World} {P : PP} {σ : St} {imm led' : List (Addr × Obj)} (I : Inv w P σ imm) {i : Nat} {x : DO} (hx : σ.ds[i]? = some x) {t0 d1 : Addr} {o0 o1 : Obj} (hl : led' = (t0, o0) :: (σ.mut P ++ imm)) (h0 : ∀ p ∈ σ.mut P ++ imm, p.1 < t0) (h1 : ∀ p ∈ led', p.1 < d1) :
    ∃ R : List (Addr × Obj), (∀ p ∈ (P.C, σ.oc) :: (x.d, x.o) :: (d1, o1) :: (t0, o0) :: R, p ∈ (d1, o1) :: led') ∧ (∀ p ∈ (x.d, x.o) :: (d1, o1) :: (t0, o0) :: R, p.1 ≠ P.C) ∧ (∀ p ∈ R, p.1 ≠ x.d) ∧ P.C ≠ x.d ∧ x.d < t0 ∧ t0 < d1 ∧ (∀ p ∈ R, p ∈ σ.mut P ++ imm) ∧
      (∀ p ∈ imm, p ∈ R) ∧
      ∀ oc' or od' t' prs' ex, ∀ p ∈ ({ σ with oc := oc', rows := σ.rows ++ [⟨d1, or, i, []⟩], ds := σ.ds.set i ⟨x.d, od', t', prs'⟩ } : St).mut P ++ (ex ++ imm), p ∈ (P.C, oc') :: (x.d, od') :: (d1, or) :: (ex ++ R) := by
  have hn := I.nod
  rw [addrs_eq] at hn
  obtain ⟨n1, n2⟩ := List.nodup_cons.mp hn
  obtain ⟨n3, n4⟩ := List.nodup_cons.mp n2
  obtain ⟨n5, n6, n7⟩ := List.nodup_append.mp n4
  simp only [List.mem_cons, List.mem_append, not_or] at n1 n3
  have hxm : x.d ∈ σ.ds.map (·.d) := List.mem_map_of_mem (List.mem_of_getElem? hx)
  have hxmem : (x.d, x.o) ∈ σ.mut P ++ imm := List.mem_append_left _ (mut_ds (List.mem_of_getElem? hx))
  have hCmem : (P.C, σ.oc) ∈ σ.mut P ++ imm := List.mem_append_left _ mut_oc
  have ht0 : t0 < d1 := h1 (t0, o0) (by rw [hl]; exact .head _)
  have hRin : ∀ p ∈ (P.ED, σ.oed) :: (σ.rows.map Row.cell ++ (σ.ds.eraseIdx i).map DO.cell) ++ imm, p ∈ σ.mut P ++ imm := fun p hp => by
    rcases List.mem_append.mp hp with hp | hp
    · rcases List.mem_cons.mp hp with rfl | hp
      · exact List.mem_append_left _ mut_oed
      · rcases List.mem_append.mp hp with hp | hp
        · obtain ⟨y, hy, rfl⟩ := List.mem_map.mp hp
          exact List.mem_append_left _ (mut_rows hy)
        · obtain ⟨y, hy, rfl⟩ := List.mem_map.mp hp
          exact List.mem_append_left _ (mut_ds (mem_of_erase hy))
    · exact List.mem_append_right _ hp
  refine ⟨(P.ED, σ.oed) :: (σ.rows.map Row.cell ++ (σ.ds.eraseIdx i).map DO.cell) ++ imm, fun p hp => ?_, fun p hp => ?_, fun p hp => ?_, fun e => n1.2.2 (e ▸ hxm), h0 _ hxmem, ht0, hRin, fun p hp => List.mem_append_right _ hp, ?_⟩
  · rw [hl]
    rcases List.mem_cons.mp hp with rfl | hp
    · exact .tail _ (.tail _ hCmem)
    rcases List.mem_cons.mp hp with rfl | hp
    · exact .tail _ (.tail _ hxmem)
    rcases List.mem_cons.mp hp with rfl | hp
    · exact .head _
    rcases List.mem_cons.mp hp with rfl | hp
    · exact .tail _ (.head _)
    · exact .tail _ (.tail _ (hRin p hp))
  · rcases List.mem_cons.mp hp with rfl | hp
    · exact fun e => n1.2.2 (show P.C ∈ _ from (show x.d = P.C from e) ▸ hxm)
    rcases List.mem_cons.mp hp with rfl | hp
    · exact fun e => absurd (Nat.lt_trans (h0 _ hCmem) ht0) (by rw [show d1 = P.C from e]; exact Nat.lt_irrefl _)
    rcases List.mem_cons.mp hp with rfl | hp
    · exact fun e => absurd (h0 _ hCmem) (by rw [show t0 = P.C from e]; exact Nat.lt_irrefl _)
    rcases List.mem_append.mp hp with hp | hp
    · rcases List.mem_cons.mp hp with rfl | hp
      · exact fun e => n1.1 e.symm
      · rcases List.mem_append.mp hp with hp | hp
        · obtain ⟨y, hy, rfl⟩ := List.mem_map.mp hp
          exact fun e => n1.2.1 (e ▸ List.mem_map_of_mem hy)
        · obtain ⟨y, hy, rfl⟩ := List.mem_map.mp hp
          exact fun e => n1.2.2 (e ▸ List.mem_map_of_mem (mem_of_erase hy))
    · exact fun e => I.off _ mut_oc p hp e.symm
  · rcases List.mem_append.mp hp with hp | hp
    · rcases List.mem_cons.mp hp with rfl | hp
      · exact fun e => n3.2 (show P.ED ∈ _ from (show P.ED = x.d from e) ▸ hxm)
      · rcases List.mem_append.mp hp with hp | hp
        · obtain ⟨y, hy, rfl⟩ := List.mem_map.mp hp
          exact n7 _ (List.mem_map_of_mem hy) _ hxm
        · obtain ⟨y, hy, rfl⟩ := List.mem_map.mp hp
          exact erase_ne n6 hx y hy
    · exact fun e => I.off _ (mut_ds (List.mem_of_getElem? hx)) p hp e.symm
  · intro oc' or od' t' prs' ex p hp
    rcases List.mem_append.mp hp with hp | hp
    · rcases List.mem_cons.mp hp with rfl | hp
      · exact .head _
      rcases List.mem_cons.mp hp with rfl | hp
      · exact .tail _ (.tail _ (.tail _ (List.mem_append_right _ (.head _))))
      rcases List.mem_append.mp hp with hp | hp
      · obtain ⟨z, hz, rfl⟩ := List.mem_map.mp hp
        rcases List.mem_append.mp hz with hz | hz
        · exact .tail _ (.tail _ (.tail _ (List.mem_append_right _ (List.mem_append_left _ (.tail _ (List.mem_append_left _ (List.mem_map_of_mem hz)))))))
        · rw [List.mem_singleton.mp hz]; exact .tail _ (.tail _ (.head _))
      · obtain ⟨z, hz, rfl⟩ := List.mem_map.mp hp
        rcases mem_set_or hz with rfl | hz
        · exact .tail _ (.head _)
        · exact .tail _ (.tail _ (.tail _ (List.mem_append_right _ (List.mem_append_left _ (.tail _ (List.mem_append_right _ (List.mem_map_of_mem hz)))))))
    · rcases List.mem_append.mp hp with hp | hp
      · exact .tail _ (.tail _ (.tail _ (List.mem_append_left _ hp)))
      · exact .tail _ (.tail _ (.tail _ (List.mem_append_right _ (List.mem_append_right _ hp))))
end Mine
end
section
open PySem PySem.W PyProof.Rows PySem.Spec PySem.Calls PyProof.V
namespace Mine
theorem sub_mid {A ex B led : List (Addr × Obj)} (hl : led = A ++ B) : ∀ p ∈ A ++ (ex ++ B), p ∈ ex ++ led := by
  intro p hp
  rw [hl]
  simp only [List.mem_append] at hp ⊢
  rcases hp with h | h | h <;> simp [h]
theorem fresh3 {led : List (Addr × Obj)} {d nd l : Addr} {lo no do_ : Obj} (h1 : ∀ p ∈ led, p.1 < d) (h2 : @LT.lt Nat _ d nd) (h3 : @LT.lt Nat _ nd l) : ∀ q ∈ [(l, lo), (nd, no), (d, do_)], ∀ p ∈ led, p.1 < q.1 := by
  intro q hq p hp
  have := h1 p hp
  rcases List.mem_cons.mp hq with rfl | hq
  · exact Nat.lt_trans (Nat.lt_trans this h2) h3
  rcases List.mem_cons.mp hq with rfl | hq
  · exact Nat.lt_trans this h2
  · rw [List.mem_singleton.mp hq]; exact this
theorem sub_mid' {A ex B led : List (Addr × Obj)} (hl : ∀ p ∈ A ++ B, p ∈ led) : ∀ p ∈ A ++ (ex ++ B), p ∈ ex ++ led := by
  intro p hp
  simp only [List.mem_append] at hp hl ⊢
  rcases hp with h | h | h
  · exact .inr (hl p (.inl h))
  · exact .inl h
  · exact .inr (hl p (.inr h))
theorem fresh3' {led : List (Addr × Obj)} {l d nd : Addr} {lo no do_ : Obj} (h1 : ∀ p ∈ led, p.1 < l) (h2 : @LT.lt Nat _ l d) (h3 : @LT.lt Nat _ d nd) : ∀ q ∈ [(nd, no), (d, do_), (l, lo)], ∀ p ∈ led, p.1 < q.1 := by
  intro q hq p hp
  have := h1 p hp
  rcases List.mem_cons.mp hq with rfl | hq
  · exact Nat.lt_trans (Nat.lt_trans this h2) h3
  rcases List.mem_cons.mp hq with rfl | hq
  · exact Nat.lt_trans this h2
  · rw [List.mem_singleton.mp hq]; exact this
/-- a node is made without children -/
theorem leaf_post {w : World} {P : PP} {σ : St} {imm led : List (Addr × Obj)} {i q q' : Nat} {e : Ex} {d nd l : Addr} {t1 t2 t3 : Tok} {n : Nat} (I : Inv w P σ imm) (he : P.Γ[i]? = some e) (hl : led = σ.mut P ++ imm)
    (h1 : ∀ p ∈ led, p.1 < d) (h2 : @LT.lt Nat _ d nd) (h3 : @LT.lt Nat _ nd l) (hden : P.den i q = some (q', e.own)) :
    ∃ imm', (∀ p ∈ σ.mut P ++ imm', p ∈ (l, listObj [] n) :: (nd, nodeObj e.a d l P.txt q q' t1 t2 t3) :: (d, dictOf [] 0) :: led) ∧ Inv w P σ imm' ∧ Step P σ imm σ imm' ∧ ResOk P imm' i q (.ref nd) := by
  have hf := fresh3 (lo := listObj [] n) (no := nodeObj e.a d l P.txt q q' t1 t2 t3) (do_ := dictOf [] 0) h1 h2 h3
  rw [hl] at hf
  refine ⟨[(l, listObj [] n), (nd, nodeObj e.a d l P.txt q q' t1 t2 t3), (d, dictOf [] 0)] ++ imm, sub_mid hl, I.more hf, Step.more hf, ?_⟩
  unfold ResOk
  rw [hden]
  exact ⟨nd, rfl, e, d, l, [], n, [], t1, t2, t3, he, .tail _ (.head _), .tail _ (.tail _ (.head _)), .head _, Nat.zero_le _, trivial, by simp⟩
/-- a node is made of nodes -/
theorem node_res {P : PP} {imm : List (Addr × Obj)} {i q q' : Nat} {e : Ex} {d nd l : Addr} {t1 t2 t3 : Tok} {n k : Nat} {vs : List Value} {cs : List Nat} (he : P.Γ[i]? = some e)
    (hn : (nd, nodeObj e.a d l P.txt q q' t1 t2 t3) ∈ imm) (hd : (d, dictOf [] 0) ∈ imm) (hl : (l, listObj vs n) ∈ imm) (hv : vs.length ≤ 1000000) (hk : Kids (NodeOk P.Γ P.txt imm k) vs cs) (hkm : k ≤ P.μ i q) (hden : P.den i q = some (q', e.own + cs.sum)) : ResOk P imm i q (.ref nd) := by
  unfold ResOk
  rw [hden]
  exact ⟨nd, rfl, e, d, l, vs, n, cs, t1, t2, t3, he, hn, hd, hl, hv, Kids.mono (fun _ _ _ _ _ h => h.mono (fun _ h => h) hkm) hk, rfl⟩
theorem list_post {w : World} {P : PP} {σ : St} {imm led : List (Addr × Obj)} {i q q' : Nat} {e : Ex} {d nd l : Addr} {t1 t2 t3 : Tok} {n k : Nat} {vs : List Value} {cs : List Nat} (I : Inv w P σ imm) (he : P.Γ[i]? = some e) (hs3 : ∀ p ∈ σ.mut P ++ imm, p ∈ led)
    (h1 : ∀ p ∈ led, p.1 < l) (h2 : @LT.lt Nat _ l d) (h3 : @LT.lt Nat _ d nd) (hv : vs.length ≤ 1000000) (hk : Kids (NodeOk P.Γ P.txt imm k) vs cs) (hkm : k ≤ P.μ i q) (hden : P.den i q = some (q', e.own + cs.sum)) :
    ∃ imm', (∀ p ∈ σ.mut P ++ imm', p ∈ (nd, nodeObj e.a d l P.txt q q' t1 t2 t3) :: (d, dictOf [] 0) :: (l, listObj vs n) :: led) ∧ Inv w P σ imm' ∧ Step P σ imm σ imm' ∧ ResOk P imm' i q (.ref nd) := by
  have hf := fresh3' (lo := listObj vs n) (no := nodeObj e.a d l P.txt q q' t1 t2 t3) (do_ := dictOf [] 0) h1 h2 h3
  refine ⟨[(nd, nodeObj e.a d l P.txt q q' t1 t2 t3), (d, dictOf [] 0), (l, listObj vs n)] ++ imm, sub_mid' hs3, I.more fun z hz p hp => hf z hz p (hs3 p hp), Step.more fun z hz p hp => hf z hz p (hs3 p hp), ?_⟩
  exact node_res he (.head _) (.tail _ (.head _)) (.tail _ (.tail _ (.head _))) hv (Kids.mono (fun _ _ _ _ _ h => h.mono (fun p hp => List.mem_append_right _ hp) (Nat.le_refl _)) hk) hkm hden
theorem oneRun_drop {den : Den} {ms : List Nat} {n mm q : Nat} (h : ms[n]? = some mm) : oneRun den (ms.drop n) q = match den mm q with | some r => some r | none => oneRun den (ms.drop (n + 1)) q := by
  rw [List.drop_eq_getElem_cons (List.getElem?_eq_some_iff.mp h).1, (List.getElem?_eq_some_iff.mp h).2, oneRun]
  all_goals (cases den mm q <;> rfl)
end Mine
end
section
open PySem PySem.W PyProof.Rows PySem.Spec PySem.Calls
namespace Mine
theorem gen_fr {h₀ h : Heap} {L : Addr} {m : Str → Option Value} (F : Fr h₀ L h m) {P : Prop} (k : ∀ m', m' = m → Fr h₀ L h m' → P) : P := k _ rfl F
theorem gen_led {h₀ h : Heap} {L : Addr} {led : List (Addr × Obj)} (N : News h₀ L h led) {P : Prop} (k : ∀ led', led' = led → News h₀ L h led' → P) : P := k _ rfl N
theorem fr_same {h₀ h : Heap} {L : Addr} {m m' : Str → Option Value} (F : Fr h₀ L h m) (e : m = m') : Fr h₀ L h m' := e ▸ F
theorem DObj.mono {imm imm' : List (Addr × Obj)} {x : DO} (h : DObj imm x) (hs : ∀ p ∈ imm, p ∈ imm') : DObj imm' x := by
  rcases h with h | ⟨a, b, c, h1, h2, h3⟩
  · exact .inl h
  · exact .inr ⟨a, b, c, h1, hs _ h2, fun r hr => let ⟨tk, h⟩ := h3 r hr; ⟨tk, hs _ h⟩⟩
theorem dict_not_tuple {prog : Program} {w : World} {K : Type} [DecidableEq K] {knd : KeyKind prog w K} {o : Obj} {kvs : List (K × Value)} (h : o.IsDictOf knd kvs) : o.cls ≠ Value.type "tuple" := by
  obtain ⟨es, ep, h, _⟩ := h
  rw [h.1]; decide

/-- the dict of an expression, to one who asks for another name than oids -/
theorem DObj.shape {imm : List (Addr × Obj)} {x : DO} (h : DObj imm x) : ∃ es n, x.o = dictOf es n ∧ ∀ name : Str, name ≠ Str.ofString "oids" → getL name es = some none := by
  rcases h with ⟨h, _⟩ | ⟨a, b, c, h1, h2, h3⟩
  · exact ⟨[], 0, h, fun _ _ => rfl⟩
  · refine ⟨_, _, h1, fun name hn => ?_⟩
    have : (Value.str (Str.ofString "oids") b).isStr name = false := by
      show (Str.ofString "oids" == name) = false
      exact beq_eq_false_iff_ne.mpr fun e => hn e.symm
    unfold getL
    rw [List.find?_cons_of_neg (by simp [this]), List.find?_nil]
    rfl

def umOf : Kind → Addr
  | .lit _ => 325
  | .seq _ => 384
  | .oneOf _ => 410
  | .look _ _ => 447
  | .more _ => 493
  | .opt _ => 493

/-- an expression at hand -/
structure SelfAt (K : Frag) (e : Ex) (C : Addr) (j : Nat) : Prop where
  cls : ClsF K C (umOf e.k) j
  hC : e.o.cls = .ref C
  hd : e.o.dict = some e.d
  hn : notCls e.o = true
  nm : ∃ t, (e.o.slots[j]?).join = some (.str e.nm t)

section
variable {prog : Program} {w : World} {A : Around} {E : Value → Shared → Prop} {s : Shared} {K : Frag} {C : Addr} {j : Nat} {h₀ : Heap} {L : Addr} {m : Str → Option Value} {led imm : List (Addr × Obj)} {t : Tok} {e : Ex} {x : DO} {P : PP} {σ : St} {i : Nat}

theorem self_inst (N : News h₀ L s.heap led) (S : SelfAt K e C j) (he : (e.a, e.o) ∈ led) (hx : (x.d, x.o) ∈ led) (hxd : x.d = e.d) (ho : DObj imm x) :
    ∃ es n, InstAt s.heap e.a e.o C (some (dictOf es n)) ∧ ∀ name : Str, name ≠ Str.ofString "oids" → getL name es = some none := by
  obtain ⟨es, n, h1, h2⟩ := ho.shape
  have := inst_ex N S.hC S.hd S.hn he hx hxd
  rw [h1] at this
  exact ⟨es, n, this, h2⟩

theorem self_um {pl : Sem Bool} {Q : Value × List Value → Shared → Prop} (F : Fr h₀ L s.heap m) (X : K.In h₀) (N : News h₀ L s.heap led) (S : SelfAt K e C j) (he : (e.a, e.o) ∈ led) (hx : (x.d, x.o) ∈ led) (hxd : x.d = e.d) (ho : DObj imm x)
    (h : Q (.ref (umOf e.k), [.ref e.a]) s) : wpAny (model prog w) A (getMethod (.ref e.a) "_uncached_match" pl) Q E s := by
  obtain ⟨es, n, I, hl⟩ := self_inst N S he hx hxd ho
  exact method_inst F X I (S.cls.plain _) S.cls.um S.cls.umFn (hl _ (by decide +kernel)) h

theorem self_mc {pl : Sem Bool} {Q : Value × List Value → Shared → Prop} (F : Fr h₀ L s.heap m) (X : K.In h₀) (N : News h₀ L s.heap led) (S : SelfAt K e C j) (he : (e.a, e.o) ∈ led) (hx : (x.d, x.o) ∈ led) (hxd : x.d = e.d) (ho : DObj imm x)
    (h : ∀ f, f = 266 → keepIn K (.ref f) = true → Q (.ref f, [.ref e.a]) s) : wpAny (model prog w) A (getMethod (.ref e.a) "match_core" pl) Q E s := by
  obtain ⟨es, n, I, hl⟩ := self_inst N S he hx hxd ho
  exact method_inst F X I (S.cls.plain _) S.cls.mc S.cls.mcFn (hl _ (by decide +kernel)) (h 266 rfl S.cls.mcKeep)

theorem self_name {expr : Bool} {Q : Value → Shared → Prop} (F : Fr h₀ L s.heap m) (X : K.In h₀) (N : News h₀ L s.heap led) (S : SelfAt K e C j) (he : (e.a, e.o) ∈ led) (hx : (x.d, x.o) ∈ led) (hxd : x.d = e.d) (ho : DObj imm x)
    (h : ∀ t, Q (.str e.nm t) { s with toks := s.toks + 1 }) : wpAny (model prog w) A (getAttr (.ref e.a) "name" expr) Q E s := by
  obtain ⟨es, n, I, hl⟩ := self_inst N S he hx hxd ho
  obtain ⟨t, ht⟩ := S.nm
  exact get_slot F X I (S.cls.plain _) S.cls.isCls S.cls.nm S.cls.nmGet S.cls.nmTake S.cls.nmSlot ht rfl (h t)

theorem upd_mid {d : Addr} {o o' : Obj} : ∀ {pre post : List (Addr × Obj)}, (∀ p ∈ pre, p.1 ≠ d) → (∀ p ∈ post, p.1 ≠ d) → Upd d o o' (pre ++ (d, o) :: post) (pre ++ (d, o') :: post)
  | [], _, _, h2 => .head h2
  | _ :: _, _, h1, h2 => .tail (h1 _ (.head _)) (upd_mid (fun p hp => h1 p (.tail _ hp)) h2)

theorem self_set_oids {Q : Unit → Shared → Prop} {v : Value} {g : Obj → List (Addr × Obj)} (F : Fr h₀ L s.heap m) (X : K.In h₀) (N : News h₀ L s.heap led) (S : SelfAt K e C j) (he : (e.a, e.o) ∈ led) (hx : (x.d, x.o) ∈ led) (hxd : x.d = e.d) (ho : DObj imm x)
    (U : UpdF x.d x.o led g) (h : ∀ h' hsh tk n, Fr h₀ L h' m → News h₀ L h' (g (dictOf [⟨hsh, .str (Str.ofString "oids") tk, v⟩] n)) → Q () { s with heap := h', toks := s.toks + 2 }) :
    wpAny (model prog w) A (setAttr (.ref e.a) "oids" v) Q E s := by
  have II := inst_ex N S.hC S.hd S.hn he hx hxd
  obtain ⟨pre, post, rfl, e2, a, b⟩ := U.split
  rcases ho with ⟨ho, _⟩ | ⟨hsh, tk, n, ho, _, _⟩
  · rw [ho] at II N
    rw [hxd] at a b N
    refine set_dict F X N II S.hd S.cls.sa S.cls.over S.cls.taker S.cls.hasDict (by rfl) rfl (upd_mid a b) (by exact (by decide : 1 ≤ 1000)) fun h' F' N' => h h' (PyData.keyHash w.params (Str.ofString "oids")) (s.toks + 1) 1 F' ?_
    rw [e2, hxd]; exact N'
  · rw [ho] at II N
    rw [hxd] at a b N
    refine set_dict F X N II S.hd S.cls.sa S.cls.over S.cls.taker S.cls.hasDict (by rfl) rfl (upd_mid a b) (by exact (by decide : 1 ≤ 1000)) fun h' F' N' => h h' hsh tk n F' ?_
    rw [e2, hxd]; exact N'

theorem DObj.prs (ho : DObj imm x) : ∀ z ∈ x.prs, ∃ tk, (z.a, tupObj [.int (z.k : Int) tk, .ref z.r]) ∈ imm := by
  rcases ho with ⟨_, h⟩ | ⟨_, _, _, _, _, h⟩
  · rw [h]; exact fun _ h => nomatch h
  · exact h

/-- getattr(expression, 'name', None) -/
theorem self_getname (F : Fr h₀ L s.heap m) (X : K.In h₀) (N : News h₀ L s.heap led) (S : SelfAt K e C j) (he : (e.a, e.o) ∈ led) (hx : (x.d, x.o) ∈ led) (hxd : x.d = e.d) (ho : DObj imm x) {Q : Value → Shared → Prop} {dflt : Value}
    (h : ∀ t, Q (.str e.nm t) s) : wpAny (model prog w) A (call (.builtin "getattr") [.ref e.a, .str (Str.ofString "name") t, dflt]) Q E s := by
  obtain ⟨es, n, I, hl⟩ := self_inst N S he hx hxd ho
  obtain ⟨t', ht⟩ := S.nm
  have X' := X.keeps F.keep
  refine getattr3_name X' I S.cls.nomod ?_
  refine gab?_bind X' I S.cls.ga (findObj_data S.cls.isCls S.cls.nm S.cls.nmGet S.cls.nmTake) S.cls.gt ?_
  exact wpAny_call (slot_get X' I S.cls.nmSlot ht (handed_on rfl (h t')))
end

theorem self_of (w : World) {e : Ex} (h : e.instOk) : ∃ C j, SelfAt (Mine.hd.heap_39 w.params) e C j := by
  obtain ⟨a, d, t, nm, k, o⟩ := e
  unfold Ex.instOk at h
  cases k with
  | lit c => dsimp only at h; obtain ⟨it, t1, t2, rfl⟩ := h; exact ⟨_, _, cls_lit w, rfl, rfl, rfl, _, rfl⟩
  | seq ms => dsimp only at h; obtain ⟨it, t2, rfl⟩ := h; exact ⟨_, _, cls_seq w, rfl, rfl, rfl, _, rfl⟩
  | oneOf ms => dsimp only at h; obtain ⟨it, t2, rfl⟩ := h; exact ⟨_, _, cls_oneOf w, rfl, rfl, rfl, _, rfl⟩
  | look b m => dsimp only at h; obtain ⟨it, t2, rfl⟩ := h; exact ⟨_, _, cls_look w, rfl, rfl, rfl, _, rfl⟩
  | more m => dsimp only at h; obtain ⟨it, tf, t1, t2, rfl⟩ := h; exact ⟨_, _, cls_quant w, rfl, rfl, rfl, _, rfl⟩
  | opt m => dsimp only at h; obtain ⟨it, tf, t1, t2, rfl⟩ := h; exact ⟨_, _, cls_quant w, rfl, rfl, rfl, _, rfl⟩

def UMC (w : World) (p : Program) (loose : List Str) (mean : ExcName → Option Value) (mg mb : Str → Option Value) (P : PP) (i q : Nat) : Prop :=
  ∀ e, P.Γ[i]? = some e → q ≤ P.txt.length → ∀ (σ : St) (imm : List (Addr × Obj)) (tt tq : Tok), Inv w P σ imm → Later' P σ (P.μ i q) →
    Calls w p loose mean mg mb (4 * P.μ i q + 6) (40 * P.μ i q + 80) (umOf e.k) [.ref e.a, .str P.txt tt, .int (q : Int) tq, .ref P.C, .ref P.ER] (σ.mut P ++ imm)
      (fun v news' => ∃ σ' imm', news' = σ'.mut P ++ imm' ∧ Inv w P σ' imm' ∧ Step P σ imm σ' imm' ∧ ResOk P imm' i q v)

end Mine
end
section
open PySem PySem.W PyProof.Rows PySem.Spec PySem.Calls PyProof.V Builtin Builtin.ObjectAttr
namespace Mine
/-- a class behind Exception that stores as object does -/
structure PassOver (K : Frag) (C : Addr) : Prop where
  cls : ∃ cd, clsIn K C = some cd ∧ (∀ self, refuseLoop self "__setattr__" cd.mro = pure ()) ∧ cd.mro.contains (.type "object") = true ∧ cd.mro.contains (.type "BaseException") = true ∧ cd.mro.isEmpty = false ∧ cd.hasDict = true
  sa : findIn K (.ref C) "__setattr__" = some (some (.builtin "object.__setattr__"))
  ga : findIn K (.ref C) "__getattribute__" = some (some (.builtin "BaseException.__getattribute__"))
  gt : findIn K (.ref C) "__getattr__" = some none

section
variable {prog : Program} {w : World} {A : Around} {E : Value → Shared → Prop} {s : Shared} {K : Frag} {x C L dx : Addr} {ox : Obj} {od : Option Obj} {name : Str} {h₀ : Heap} {m : Str → Option Value} {news pre post : List (Addr × Obj)} {es : List DictEntry} {n : Nat} {v : Value}

theorem exc_get {expr : Bool} {Q : Value → Shared → Prop} (X : K.In s.heap) (I : InstAt s.heap x ox C od) (PO : PassOver K C) (hf : findObj K C od name = some (.value v)) (hh : handedIn v = true) (h : Q v { s with toks := s.toks + 1 }) :
    wpAny (model prog w) A (getAttr (.ref x) name expr) Q E s := by
  obtain ⟨hp, g, d, tk, os⟩ := s
  obtain ⟨cd, hcd, _, _, hb, hne, _⟩ := PO.cls
  have L0 := I.type (M := model prog w)
  have L1 := looks_findIn (M := model prog w) X PO.ga
  have L2 := looks_findIn (M := model prog w) X PO.gt
  have L3 := looks_find (M := model prog w) X I hf
  have sub : Looks (model prog w) hp (isInstance (.ref x) (.type "BaseException")) true := I.type.andThen (looks_mroIn X (by unfold mroIn; rw [hcd, Option.bind_some, if_neg (by rw [hne]; decide), hb]))
  have hk : builtinKind "BaseException.__getattribute__" = some .slot := by decide +kernel
  have hsplit : splitId "BaseException.__getattribute__" = some ("BaseException", "__getattribute__") := by decide +kernel
  have hx2 : (Value.builtin "BaseException.__getattribute__" == Value.builtin "object.__getattribute__") = false := by decide +kernel
  unfold getAttr getAttrBy
  refine wpAny_bind (wpAny_mkText (wpAny_holding (wpAny_bind (L0.at (wpAny_bind (L1.at ?_))))))
  dsimp only
  rw [show (onTheHeap (Value.ref C) && Value.builtin "BaseException.__getattribute__" == Value.builtin "object.__getattribute__") = false by rw [hx2]; rfl]
  simp only [Bool.false_eq_true, if_false]
  unfold getAttrByItsOwn hookBefore
  refine wpAny_bind (L2.at ?_)
  have key : wpAny (model prog w) A (boundAndCalled (.builtin "BaseException.__getattribute__") (.ref x) (.str name tk)) (fun r s' => r = v ∧ s' = ⟨hp, g, d, tk + 1, os⟩) (fun _ _ => False) ⟨hp, g, d, tk + 1, os⟩ := by
    unfold boundAndCalled
    rw [F.attrBase_Exception.ga.bind]
    refine wpAny_bind (wpAny_pure (wpAny_call ?_))
    show codeAny _ _ (.call (.builtin "BaseException.__getattribute__") ⟨[.ref x, .str name tk], []⟩) _ _
    refine codeAny_call_builtin F.attrBase_Exception.ga.plain F.entry_bexc_ga (@check_slot (model prog w) _ _ ⟨hp, g, d, tk + 1, os⟩ "BaseException.__getattribute__" "BaseException" "__getattribute__" (.ref x) [.str name tk] [] _ hk hsplit sub (F.args_bexc_ga (.ref x) (.str name tk)) ?_)
    unfold Builtin.«object.__getattribute__»
    refine wpAny_bind (wpAny_of_eq (a := (.ref x, [.str name tk])) (by first | rfl | kernel_rfl) ?_)
    dsimp only
    refine wpAny_bind (wpAny_of_eq (a := name) (by first | rfl | kernel_rfl) ?_)
    refine wpAny_bind (L0.at (wpAny_bind (L3.at ?_)))
    exact wpAny_pure ⟨rfl, rfl⟩
  refine wpAny_bind (wpAny_attempt (wpAny_holding ?_))
  have e : callGetattribute (.ref x) (.str name tk) (.builtin "BaseException.__getattribute__") expr = boundAndCalled (.builtin "BaseException.__getattribute__") (.ref x) (.str name tk) := by
    unfold callGetattribute; cases expr <;> rfl
  rw [e]
  refine wpAny_mono key (fun r s' hr => ?_) fun _ _ z => z.elim
  obtain ⟨rfl, rfl⟩ := hr
  show wpAny _ _ (handedOut _) _ _ _
  rw [handedOut_of hh]; exact wpAny_pure h

/-- the road of a store, up to the dict -/
theorem exa_open {R : Result → Shared → Prop} {tk : Tok} (X : K.In s.heap) (I : InstAt s.heap x ox C od) (PO : PassOver K C) (ht : takerIn K C name = some none)
    (h : ∀ b, wpAny (model prog w) A.in1 (storeInOwnDict (.ref x) (.ref C) (.str name tk) name v b)
      (fun fin s' => match fin with | .done f => R (.ok f) s' | .again c' => c'.quiet = true ∧ codeAny (model prog w) A c' R s') (fun e s' => R (.error e) s') s) :
    codeAny (model prog w) A (.call (.builtin "object.__setattr__") ⟨[.ref x, .str name tk, v], []⟩) R s := by
  obtain ⟨cd, hcd, hpass, hob, _, hne, _⟩ := PO.cls
  have SF := PySem.F.store_object
  have sub : Looks (model prog w) s.heap (isInstance (.ref x) (.type "object")) true := I.type.andThen (looks_mroIn X (by unfold mroIn; rw [hcd, Option.bind_some, if_neg (by rw [hne]; decide), hob]))
  refine codeAny_call_builtin SF.slot.plain SF.entry (@check_slot (model prog w) _ _ s "object.__setattr__" "object" "__setattr__" (.ref x) [.str name tk, v] [] _ SF.kind SF.split sub (SF.args (.ref x) (.str name tk) v) ?_)
  obtain ⟨attr, ha, hr⟩ := Option.bind_eq_some_iff.mp ht
  have hm : Looks (model prog w) s.heap (mroOf (.ref C)) cd.mro := (looks_clsIn X hcd).andThen .now
  have L3 : Looks (model prog w) s.heap (storeTaker? attr) none := by
    cases attr with
    | none => exact .now
    | some a =>
      obtain ⟨b, hb, e⟩ := Option.map_eq_some_iff.mp hr
      cases b with
      | false => exact (looks_takesIn X hb).andThen .now
      | true => cases e
  rw [osa_eq, refuse_eq]
  refine wpAny_bind (wpAny_bind (I.type.here (wpAny_bind (hm.here ?_))))
  rw [hpass]
  exact wpAny_pure (wpAny_bind (I.type.here (wpAny_bind ((looks_findIn X ha).here (wpAny_bind (L3.here (h _)))))))

/-- the write into a dict of few names -/
theorem nsSet_few {Q : Unit → Shared → Prop} (F : Fr h₀ L s.heap m) (N : News h₀ L s.heap (pre ++ (dx, dictOf es n) :: post)) (h1 : ∀ p ∈ pre, p.1 ≠ dx) (h2 : ∀ p ∈ post, p.1 ≠ dx) (hl : (getL name es).isSome = true)
    (h : ∀ h', Fr h₀ L h' m → News h₀ L h' (pre ++ (dx, dictOf (putL name (PyData.keyHash w.params name) (.str name s.toks) v es) (putN name es n)) :: post) → Q () { s with heap := h', toks := s.toks + 1 }) :
    wpAny (model prog w) A (nsSet dx name v) Q E s := by
  have e : Obj.putName name (PyData.keyHash w.params name) (.str name s.toks) v (dictOf es n) = dictOf (putL name (PyData.keyHash w.params name) (.str name s.toks) v es) (putN name es n) := putName_dict ..
  obtain ⟨U1, U2⟩ := news_upd (f := Obj.putName name (PyData.keyHash w.params name) (.str name s.toks) v) F N h1 h2 e rfl
  have D := (N (dx, dictOf es n) (by simp)).1
  unfold nsSet
  refine wpAny_bind (wpAny_bind (wpAny_askSetting (wpAny_pure (wpAny_bind (wpAny_mkText (wpAny_bind (wpAny_loadPart D ?_)))))))
  dsimp only
  have c : (!es.toArray.any (·.key.isStr name) && es.toArray.any (·.refKey)) = false := by
    rw [← Array.any_toList, ← Array.any_toList]
    unfold getL at hl
    split at hl
    · rename_i en he
      rw [List.any_eq_true.mpr ⟨en, List.mem_of_find?_eq_some he, List.find?_some he⟩]; rfl
    · split at hl
      · cases hl
      · rename_i z; rw [Bool.not_eq_true] at z; rw [z, Bool.and_false]
  rw [aRefKeyMayBeTheName_at, c]
  exact wpAny_updatePart D (h _ U1 U2)

theorem exc_set {Q : Unit → Shared → Prop} (F : Fr h₀ L s.heap m) (X : K.In h₀) (N : News h₀ L s.heap (pre ++ (dx, dictOf es n) :: post)) (h1 : ∀ p ∈ pre, p.1 ≠ dx) (h2 : ∀ p ∈ post, p.1 ≠ dx) (I : InstAt s.heap x ox C (some (dictOf es n))) (hd : ox.dict = some dx)
    (PO : PassOver K C) (ht : takerIn K C name = some none) (hl : (getL name es).isSome = true) (hz : ∀ hs k, (putL name hs k v es).length ≤ 1000)
    (h : ∀ h', Fr h₀ L h' m → News h₀ L h' (pre ++ (dx, dictOf (putL name (PyData.keyHash w.params name) (.str name (s.toks + 1)) v es) (putN name es n)) :: post) → Q () { s with heap := h', toks := s.toks + 2 }) :
    wpAny (model prog w) A (setAttr (.ref x) name v) Q E s := by
  have X' := X.keeps F.keep
  obtain ⟨cd, hcd, _, _, _, _, hdd⟩ := PO.cls
  refine set_plain X' I PO.sa (exa_open (s := { s with toks := s.toks + 1 }) X' I PO ht fun b => ?_)
  obtain ⟨hx, hcl, hn, -⟩ := I
  obtain ⟨oc, odi, oda, osl⟩ := ox
  dsimp only at hcl hd
  subst hcl hd
  refine wpAny_bind (wpAny_pure (wpAny_bind (wpAny_bind (wpAny_loadPart hx (wpAny_bind ((looks_clsIn (h := s.heap) X' hcd).here (s := { s with toks := s.toks + 1 }) ?_))))))
  rw [hdd]
  refine wpAny_pure (a := some dx) (wpAny_bind (wpAny_pure (wpAny_bind ?_)))
  refine nsSet_few (s := { s with toks := s.toks + 1 }) F N h1 h2 hl fun h' F' N' => ?_
  refine wpAny_bind (wpAny_lookBehind (N' _ (List.mem_append_right _ (.head _))).1 (pastItsLine_dict (by rw [List.size_toArray, sizeLine_eq]; exact Nat.le_trans (hz _ _) (by decide))) ?_)
  exact wpAny_pure (h _ F' N')

/-- the first store into an exception makes its dict -/
theorem exc_set0 {Q : Unit → Shared → Prop} {vs : Array Value} (F : Fr h₀ L s.heap m) (X : K.In h₀) (N : News h₀ L s.heap ((x, ({ cls := .ref C, dict := none, data := .fields vs, slots := #[] } : Obj)) :: post)) (h2 : ∀ p ∈ post, p.1 ≠ x)
    (PO : PassOver K C) (ht : takerIn K C name = some none)
    (h : ∀ dx h', Fr h₀ L h' m → (∀ p ∈ (x, ({ cls := .ref C, dict := none, data := .fields vs, slots := #[] } : Obj)) :: post, p.1 < dx) →
      News h₀ L h' ((dx, dictOf [⟨PyData.keyHash w.params name, .str name (s.toks + 1), v⟩] 1) :: (x, ({ cls := .ref C, dict := some dx, data := .fields vs, slots := #[] } : Obj)) :: post) → Q () { s with heap := h', toks := s.toks + 2 }) :
    wpAny (model prog w) A (setAttr (.ref x) name v) Q E s := by
  have X' := X.keeps F.keep
  obtain ⟨cd, hcd, _, _, _, _, hdd⟩ := PO.cls
  have hx := (N _ (.head _)).1
  have I : InstAt s.heap x ({ cls := .ref C, dict := none, data := .fields vs, slots := #[] } : Obj) C none := ⟨hx, rfl, rfl, trivial⟩
  refine set_plain X' I PO.sa (exa_open (s := { s with toks := s.toks + 1 }) X' I PO ht fun b => ?_)
  refine wpAny_bind (wpAny_pure (wpAny_bind (wpAny_bind (wpAny_loadPart hx (wpAny_bind ((looks_clsIn (h := s.heap) X' hcd).here (s := { s with toks := s.toks + 1 }) ?_))))))
  rw [hdd]
  dsimp only
  simp only [Bool.not_true, Bool.false_eq_true, if_false]
  rw [if_neg (by simp [typeHasDict])]
  refine wpAny_bind (wpAny_alloc' ?_)
  have F1 := F.push { cls := .type "dict", data := .dict #[] }
  have N1 : News h₀ L (s.heap.push { cls := .type "dict", data := .dict #[] }) ((s.heap.objs.size, dictOf [] 0) :: (x, ({ cls := .ref C, dict := none, data := .fields vs, slots := #[] } : Obj)) :: post) := News.push F N _
  have hlt : ∀ p ∈ (x, ({ cls := .ref C, dict := none, data := .fields vs, slots := #[] } : Obj)) :: post, p.1 < s.heap.objs.size := fun p hp => Heap.lt_size (N p hp).1
  obtain ⟨U1, U2⟩ := news_upd (pre := [(s.heap.objs.size, dictOf [] 0)]) (f := fun o => { o with dict := some s.heap.objs.size }) F1 N1 (fun p hp => by rw [List.mem_singleton.mp hp]; exact (Nat.ne_of_lt (hlt _ (.head _))).symm) h2 rfl rfl
  refine wpAny_bind (wpAny_update' (N1 _ (.tail _ (.head _))).1 ?_)
  refine wpAny_pure ?_
  refine wpAny_bind (wpAny_pure (wpAny_bind ?_))
  refine nsSet_few (s := { s with toks := s.toks + 1, heap := _ }) (pre := []) (es := []) (n := 0) U1 U2 (fun _ hp => nomatch hp) (fun p hp => ?_) rfl fun h' F' N' => ?_
  · rcases List.mem_cons.mp hp with rfl | hp
    · exact Nat.ne_of_lt (show x < s.heap.objs.size from hlt _ (.head _))
    · exact Nat.ne_of_lt (hlt p (.tail _ hp))
  refine wpAny_bind (wpAny_lookBehind (N' _ (.head _)).1 (pastItsLine_dict (by rw [List.size_toArray, sizeLine_eq]; exact (by decide : 1 ≤ 16777216 + 1))) ?_)
  exact wpAny_pure (h _ h' F' hlt N')
end
end Mine
end
section
open PySem PySem.W PyProof.Rows PySem.Spec PySem.Calls
namespace Mine
structure ErrF (K : Frag) : Prop where
  po : PassOver K 94
  cls : isClsIn K 94 = true
  hasDict : hasDictIn K 94 = true
  pos : findIn K (.ref 94) (Str.ofString "pos") = some none
  expr : findIn K (.ref 94) (Str.ofString "expr") = some none
  tpos : takerIn K 94 (Str.ofString "pos") = some none
  texpr : takerIn K 94 (Str.ofString "expr") = some none
  ttext : takerIn K 94 (Str.ofString "text") = some none
theorem err_f (w : World) : ErrF (Mine.hd.heap_39 w.params) :=
  ⟨⟨⟨_, by k_is, fun self => by rw [refuseLoop_ref, refuseLoop_ref, refuseLoop_ref]; exact F.store_Exception.passes self, by decide +kernel, by decide +kernel, rfl, rfl⟩, by k_is, by k_is, by k_is⟩, by k_is, by k_is, by k_is, by k_is, by k_is, by k_is, by k_is⟩

theorem put_expr (hs h1 h2 h3 : Int) (k v1 v2 v3 v : Value) (t1 t2 t3 : Tok) (n : Nat) : dictOf (putL (Str.ofString "expr") hs k v [⟨h1, .str (Str.ofString "text") t1, v1⟩, ⟨h2, .str (Str.ofString "pos") t2, v2⟩, ⟨h3, .str (Str.ofString "expr") t3, v3⟩]) (putN (Str.ofString "expr") [⟨h1, .str (Str.ofString "text") t1, v1⟩, ⟨h2, .str (Str.ofString "pos") t2, v2⟩, ⟨h3, .str (Str.ofString "expr") t3, v3⟩] n) =
    dictOf [⟨h1, .str (Str.ofString "text") t1, v1⟩, ⟨h2, .str (Str.ofString "pos") t2, v2⟩, ⟨h3, .str (Str.ofString "expr") t3, v⟩] n := by rfl
theorem put_pos (hs h1 h2 h3 : Int) (k v1 v2 v3 v : Value) (t1 t2 t3 : Tok) (n : Nat) : dictOf (putL (Str.ofString "pos") hs k v [⟨h1, .str (Str.ofString "text") t1, v1⟩, ⟨h2, .str (Str.ofString "pos") t2, v2⟩, ⟨h3, .str (Str.ofString "expr") t3, v3⟩]) (putN (Str.ofString "pos") [⟨h1, .str (Str.ofString "text") t1, v1⟩, ⟨h2, .str (Str.ofString "pos") t2, v2⟩, ⟨h3, .str (Str.ofString "expr") t3, v3⟩] n) =
    dictOf [⟨h1, .str (Str.ofString "text") t1, v1⟩, ⟨h2, .str (Str.ofString "pos") t2, v⟩, ⟨h3, .str (Str.ofString "expr") t3, v3⟩] n := by rfl

section
variable {prog : Program} {w : World} {A : Around} {E : Value → Shared → Prop} {s : Shared} {K : Frag} {h₀ : Heap} {L : Addr} {m : Str → Option Value} {led imm R : List (Addr × Obj)} {P : PP} {σ : St} {es : List DictEntry} {n : Nat} {v : Value} {name : Str}

theorem err_inst (I : Inv w P σ imm) (N : News h₀ L s.heap led) (hin : ∀ p ∈ σ.mut P ++ imm, p ∈ led) : ∃ ox, InstAt s.heap P.ER ox 94 (some σ.oed) ∧ ox.dict = some P.ED := by
  obtain ⟨ft, t, h1, h2, _⟩ := I.err
  exact ⟨_, ⟨(N _ (hin _ (List.mem_append_right _ h1))).1, rfl, rfl, (N _ (hin _ (List.mem_append_left _ mut_oed))).1⟩, rfl⟩
theorem err_get {expr : Bool} {Q : Value → Shared → Prop} (F : Fr h₀ L s.heap m) (X : K.In h₀) (EF : ErrF K) (I : Inv w P σ imm) (N : News h₀ L s.heap led) (hin : ∀ p ∈ σ.mut P ++ imm, p ∈ led) (hoed : σ.oed = dictOf es n)
    (hf : findIn K (.ref 94) name = some none) (hl : getL name es = some (some v)) (hh : handedIn v = true) (h : Q v { s with toks := s.toks + 1 }) : wpAny (model prog w) A (getAttr (.ref P.ER) name expr) Q E s := by
  obtain ⟨ox, II, _⟩ := err_inst I N hin
  rw [hoed] at II
  exact exc_get (X.keeps F.keep) II EF.po (findObj_own EF.hasDict hf rfl hl) hh h
theorem err_set {Q : Unit → Shared → Prop} (F : Fr h₀ L s.heap m) (X : K.In h₀) (EF : ErrF K) (I : Inv w P σ imm) (N : News h₀ L s.heap ((P.ED, σ.oed) :: R)) (hin : ∀ p ∈ σ.mut P ++ imm, p ∈ (P.ED, σ.oed) :: R) (hR : ∀ p ∈ R, p.1 ≠ P.ED) (hoed : σ.oed = dictOf es n)
    (ht : takerIn K 94 name = some none) (hl : (getL name es).isSome = true) (hz : ∀ hs k, (putL name hs k v es).length ≤ 1000)
    (h : ∀ h', Fr h₀ L h' m → News h₀ L h' ((P.ED, dictOf (putL name (PyData.keyHash w.params name) (.str name (s.toks + 1)) v es) (putN name es n)) :: R) → Q () { s with heap := h', toks := s.toks + 2 }) :
    wpAny (model prog w) A (setAttr (.ref P.ER) name v) Q E s := by
  obtain ⟨ox, II, hd⟩ := err_inst I N hin
  rw [hoed] at II N
  exact exc_set (pre := []) F X N (fun _ h => nomatch h) hR II hd EF.po ht hl hz h
end
end Mine
end
section
open PySem PySem.W PyProof.Rows PySem.Spec PySem.Calls PyProof.V
namespace Mine
/-- what is asked of the classes above an own exception class -/
structure Above (Bn : String) (bm : List Value) : Prop where
  new : bm.contains (.type Bn) = true
  attr : bm.contains (.type "AttributeError") = false
  name : bm.contains (.type "NameError") = false
section
variable {prog : Program} {w : World} {A : Around} {E : Value → Shared → Prop} {h : Heap} {g : Array GenState} {d : Drawn} {t : Nat} {os : OsState} {R : Result → Shared → Prop}
variable {nm q : Str} {C N : Addr} {bs bm : List Value} {hdct : Bool} {sn : List Str} {sub : List Value} {ab : Bool} {col : Option Bool} {dd : Option Addr} {k0 k1 k2 k3 k5 : Option Value} {Bn newId inN : String} {bmN : List Value} {K : Frag} {f : Addr}
theorem check_new_above {M : Model} (Fn : ExcBaseFacts Bn newId inN bmN) (Ab : Above Bn bm) {rest : List Value} {Q : Unit → Shared → Prop} (hC : h.get? C = some (excClassObj nm q C N bs bm hdct sn sub ab col dd k0 k1 k2 k3 k5 newId))
    (hq : Q () ⟨h, g, d, t, os⟩) : wpAny M A (checkBuiltinCall newId ⟨.ref C :: rest, []⟩) Q E ⟨h, g, d, t, os⟩ := by
  have hin : (Value.ref C :: bm).contains (.type Bn) = true := by rw [List.contains_cons, Ab.new, Bool.or_true]
  have hns := Fn.noStar
  simp only [checkBuiltinCall, Fn.newKind, Fn.newSplit, Fn.newRow]
  repeat (first | refine wpAny_loadPart_at hC ?_ | (refine wpAny_isSubtype_exc hC ?_; rw [hin]) | refine wpAny_staticBase_exc hC ?_ | refine wpAny_madeBy_exc hC ?_ | simp only [bne_self_eq_false, Bool.false_eq_true, if_false] | wp_step)
  exact hq
theorem new_above (Fn : ExcBaseFacts Bn newId inN bmN) (Ab : Above Bn bm) {rest : List Value} (hC : h.get? C = some (excClassObj nm q C N bs bm hdct sn sub ab col dd k0 k1 k2 k3 k5 newId))
    (hq : R (.ok (.ret (.ref (h.objs.size + 1)))) ⟨(h.push (tupObj rest)).push { cls := .ref C, data := .fields #[.ref h.objs.size, .none, .none, .none, .bool false, .none] }, g, d, t, os⟩) (hrest : rest.length ≤ sizeLine) :
    codeAny (model prog w) A (.builtin newId ⟨.ref C :: rest, []⟩) R ⟨h, g, d, t, os⟩ := by
  have hends := Fn.ends
  have h1 : (Value.ref C :: bm).contains (.type Bn) = true := by rw [List.contains_cons, Ab.new, Bool.or_true]
  have h2 : (Value.ref C :: bm).contains (.type "AttributeError") = false := by rw [List.contains_cons, Ab.attr]; rfl
  have h3 : (Value.ref C :: bm).contains (.type "NameError") = false := by rw [List.contains_cons, Ab.name]; rfl
  refine codeAny_builtinAt Fn.entry ?_
  unfold Builtin.«BaseException.__new__»
  refine PySem.wpAt_bind ?_
  show PySem.wpAt _ _ _ (stack >>= _) _ _ _
  refine PySem.wpAt_bind (PySem.wpAt_stack fun p below => PySem.wpAt_of_wpAny ?_)
  wp_walk
  refine PySem.wpAt_of_wpAny ?_
  rw [Fn.owner]
  repeat (first | with_reducible refine wpAny_madeHere_exc Fn.canon hC ?_ | with_reducible refine wpAny_loadPart_at hC ?_ | (with_reducible refine wpAny_isSubtype_exc hC ?_; first | rw [h1] | rw [h2] | rw [h3]) | wp_step)
  show R _ _
  rw [Heap.size_push]
  exact hq
/-- an exception of an own class with an own __init__ -/
theorem type_call_init (Fn : ExcBaseFacts Bn newId inN bmN) (Ab : Above Bn bm) {rest : List Value} {Q : Fin → Shared → Prop}
    (X : K.In h) (hC : h.get? C = some (excClassObj nm q C N bs bm hdct sn sub ab col dd k0 k1 k2 k3 k5 newId)) (hi : findIn K (.ref C) "__init__" = some (some (.ref f))) (hf : isFn K (.ref f) = true)
    (hq : codeAny (model prog w) A (.call (.ref f) ⟨.ref (h.objs.size + 1) :: rest, []⟩) (InitBack (h.objs.size + 1) fun r s' => match r with | .ok f => Q (.done f) s' | .error e => E e s') ⟨(h.push (tupObj rest)).push
      { cls := .ref C, data := .fields #[.ref h.objs.size, .none, .none, .none, .bool false, .none] }, g, d, t, os⟩) (hrest : rest.length ≤ sizeLine) :
    wpAny (model prog w) A (Builtin.«type.__call__» ⟨.ref C :: rest, []⟩) Q E ⟨h, g, d, t, os⟩ := by
  repeat (first | with_reducible refine wpAny_loadPart_at hC ?_ | with_reducible refine wpAny_madeBy_exc hC ?_ | wp_step)
  refine codeAny_call_builtin_code (Code.quiet_builtin _ Fn.quiet) (check_new_above Fn Ab hC ?_)
  refine new_above Fn Ab hC ?_ hrest
  show wpAny _ _ _ _ _ _
  have hC₁ := Heap.get?_push_of_some { cls := .ref C, data := .fields #[.ref h.objs.size, .none, .none, .none, .bool false, .none] }
    (Heap.get?_push_of_some (tupObj rest) hC)
  have hget : ((h.push (tupObj rest)).push { cls := .ref C, data := .fields #[.ref h.objs.size, .none, .none, .none, .bool false, .none] }).get? (h.objs.size + 1) = some
      { cls := .ref C, data := .fields #[.ref h.objs.size, .none, .none, .none, .bool false, .none] } := by heap_get
  have hcC : (Value.ref C :: bm).contains (.ref C) = true := by simp
  have X₁ := X.keeps (h' := (h.push (tupObj rest)).push { cls := .ref C, data := .fields #[.ref h.objs.size, .none, .none, .none, .bool false, .none] })
    fun b o e => Heap.get?_push_of_some _ (Heap.get?_push_of_some _ e)
  unfold isInstance
  repeat (first | with_reducible refine wpAny_loadPart_at hget ?_ | (with_reducible refine wpAny_isSubtype_exc hC₁ ?_; rw [hcC]) | wp_step)
  show wpAny _ _ (typeLookup (.ref C) _) _ _ _
  refine (looks_findIn (M := model prog w) X₁ hi).at ?_
  dsimp only
  refine wpAny_holding (wpAny_bind ((bind_fn X₁ _ (beq_iff_eq.mp hf)).at ?_))
  refine wpAny_bind (wpAny_call (codeAny_mono hq fun r s' z => ?_))
  rcases r with e | (v | _ | _ | _) <;> first | exact z | exact z.elim | skip
  obtain ⟨rfl, z⟩ := z
  exact wpAny_pure (wpAny_pure z)
end
section
variable {prog : Program} {w : World} {A : Around} {E : Value → Shared → Prop} {s : Shared} {h₀ : Heap} {L : Addr} {m : Str → Option Value} {news : List (Addr × Obj)}
variable {nm q : Str} {C N' : Addr} {bs bm : List Value} {hdct : Bool} {sn : List Str} {sub : List Value} {ab : Bool} {col : Option Bool} {dd : Option Addr} {k0 k1 k2 k3 k5 : Option Value} {Bn newId inN : String} {bmN : List Value} {K : Frag} {f : Addr}
theorem call_exc_init (Fn : ExcBaseFacts Bn newId inN bmN) (Ab : Above Bn bm) {rest : List Value} {Q : Value → Shared → Prop}
    (FF : Fr h₀ L s.heap m) (X₀ : K.In h₀) (N : News h₀ L s.heap news) (hC : K.lookup C = some (excClassObj nm q C N' bs bm hdct sn sub ab col dd k0 k1 k2 k3 k5 newId)) (hi : findIn K (.ref C) "__init__" = some (some (.ref f))) (hf : isFn K (.ref f) = true) (hrest : rest.length ≤ sizeLine)
    (hq : ∀ x t h', Fr h₀ L h' m → News h₀ L h' ((x, ({ cls := .ref C, data := .fields #[.ref t, .none, .none, .none, .bool false, .none] } : Obj)) :: (t, tupObj rest) :: news) → (∀ p ∈ news, p.1 < t) → t < x →
      codeAny (model prog w) (A.under (.builtin "type.__call__" ⟨.ref C :: rest, []⟩)) (.call (.ref f) ⟨.ref x :: rest, []⟩) (InitBack x fun r s' => match r with | .ok (.ret v) => Q v s' | .ok _ => False | .error e => E e s') { s with heap := h' }) :
    wpAny (model prog w) A (call (.ref C) rest) Q E s := by
  obtain ⟨h, g, d, t, os⟩ := s
  have X := X₀.keeps FF.keep
  have hC' := X _ _ hC
  have f1 := tc_lookup
  have f2 := tc_bind (.ref C)
  have hT' : (⟨h, g, d, t, os⟩ : Shared).TypeIs (.ref C) "type" := ⟨_, hC', rfl⟩
  have N1 := (N.push FF (tupObj rest)).push (FF.push _) { cls := .ref C, data := .fields #[.ref h.objs.size, .none, .none, .none, .bool false, .none] }
  rw [Heap.size_push] at N1
  refine wpAny_call (codeAny_of_tree ?_)
  show wpAny _ _ (callAny (.ref C) _) _ _ _
  repeat (any_goals (first | assumption | with_reducible refine wpAny_loadPart_at hC' ?_ | wp_step))
  refine ⟨rfl, ?_⟩
  refine codeAny_call_builtin_at (Code.quiet_builtin _ (by decide +kernel)) entry_typeCall (wpAny_check_type_call_sub hC' (type_call_init Fn Ab X hC' hi hf ?_ hrest))
  refine codeAny_mono (hq _ h.objs.size _ ((FF.push _).push _) N1 (fun p hp => Heap.lt_size (N p hp).1) (Nat.lt_succ_self _)) fun r s' z => ?_
  rcases r with e | (v | _ | _ | _) <;> first | exact z | exact z.elim | skip
end
end Mine
end
section
open PySem PySem.W PyProof.Rows PySem.Spec PySem.Calls PyProof.V
namespace Mine
/-- a call that makes things and touches none -/
def CallsN (w : World) (p : Program) (loose : List Str) (mean : ExcName → Option Value) (mg mb : Str → Option Value) (D U : Nat) (f : Addr) (args : List Value) (kw : List (Str × Value)) (Post : Value → List (Addr × Obj) → Prop) : Prop :=
  ∀ (led : List (Addr × Obj)) (dp un : Nat) (gd : Option (List Code)) (cn : Str) (cs : Scope) (a : Addr) (ccd : Value) (cl : List (Str × Addr)) (outer : List Env) (A₀ : Around) (base h₀ : Heap) (L : Addr) (m : Str → Option Value) (s : Shared) (Q E : Value → Shared → Prop),
    Below A₀ base outer h₀ → Fr h₀ L s.heap m → (Mine.hd.heap_39 w.params).In h₀ → News h₀ L s.heap led → Top p loose mean mg mb h₀ → cs.kind = .function → dp + D < recursionLimit → un + U < cLine →
    (∀ r new h' tk', Fr h₀ L h' m → News h₀ L h' (new ++ led) → (∀ q ∈ new, ∀ p ∈ led, p.1 < q.1) → Post r new → Q r { s with heap := h', toks := tk' }) →
    wpAny (model PySem.Challenge.rw_vy0016_01.row.prog w) (ktrTop dp un gd cn cs L a ccd cl outer) (call (.ref f) args kw) Q E s
theorem CallsN.use {w : World} {p : Program} {loose : List Str} {mean : ExcName → Option Value} {mg mb : Str → Option Value} {D U : Nat} {f : Addr} {args : List Value} {kw : List (Str × Value)} {led : List (Addr × Obj)} {Post : Value → List (Addr × Obj) → Prop}
    {dp un : Nat} {gd : Option (List Code)} {cn : Str} {cs : Scope} {a : Addr} {ccd : Value} {cl : List (Str × Addr)} {outer : List Env} {A₀ : Around} {base h₀ : Heap} {L : Addr} {m : Str → Option Value} {s : Shared} {Q E : Value → Shared → Prop}
    (B : Below A₀ base outer h₀) (F : Fr h₀ L s.heap m) (X : (Mine.hd.heap_39 w.params).In h₀) (N : News h₀ L s.heap led) (T : Top p loose mean mg mb h₀) (hk : cs.kind = .function) (C : CallsN w p loose mean mg mb D U f args kw Post)
    (hd : dp + D < recursionLimit) (hu : un + U < cLine)
    (ret : ∀ r new h' tk', Fr h₀ L h' m → News h₀ L h' (new ++ led) → (∀ q ∈ new, ∀ p ∈ led, p.1 < q.1) → Post r new → Q r { s with heap := h', toks := tk' }) :
    wpAny (model PySem.Challenge.rw_vy0016_01.row.prog w) (ktrTop dp un gd cn cs L a ccd cl outer) (call (.ref f) args kw) Q E s := C _ _ _ _ _ _ _ _ _ _ _ _ _ _ _ _ _ _ B F X N T hk hd hu ret
abbrev errObj (C d t : Addr) : Obj := { cls := .ref C, dict := some d, data := .fields #[.ref t, .none, .none, .none, .bool false, .none], slots := #[] }
def ErrMade (C : Addr) (txt : Str) (tt : Tok) (z : Int) (v : Value) (args : List Value) (r : Value) (new : List (Addr × Obj)) : Prop :=
  ∃ ER ED t h1 t1 h2 t2 tz h3 t3 n, r = .ref ER ∧ new = [(ED, dictOf [⟨h1, .str (Str.ofString "text") t1, .str txt tt⟩, ⟨h2, .str (Str.ofString "pos") t2, .int z tz⟩, ⟨h3, .str (Str.ofString "expr") t3, v⟩] n), (ER, errObj C ED t), (t, tupObj args)] ∧ @LT.lt Nat _ t ER ∧ @LT.lt Nat _ ER ED
theorem new3 {led : List (Addr × Obj)} {a b c : Addr × Obj} (h1 : ∀ p ∈ led, p.1 < c.1) (h2 : @LT.lt Nat _ c.1 b.1) (h3 : @LT.lt Nat _ b.1 a.1) : ∀ q ∈ [a, b, c], ∀ p ∈ led, p.1 < q.1 := fun q hq p hp => by
  have := h1 p hp
  rcases List.mem_cons.mp hq with rfl | hq
  · exact Nat.lt_trans (Nat.lt_trans this h2) h3
  rcases List.mem_cons.mp hq with rfl | hq
  · exact Nat.lt_trans this h2
  · rw [List.mem_singleton.mp hq]; exact this
end Mine
end
section
open PySem PySem.W PyProof.Rows PySem.Spec PySem.Calls PyProof.V
namespace Mine
/-- an expression made by a call -/
def ExMade (k : Kind) (nm : Str) (vs : Option (List Value)) (r : Value) (new : List (Addr × Obj)) : Prop :=
  ∃ e : Ex, r = .ref e.a ∧ e.k = k ∧ e.nm = nm ∧ e.instOk ∧ (e.a, e.o) ∈ new ∧ (e.d, dictOf [] 0) ∈ new ∧ ∀ l, vs = some l → (e.t, tupObj l) ∈ new
theorem made_seq {x d t : Addr} {nm : Str} {it : Option Value} {t1 : Tok} {ms : List Nat} {l : List Value} {new : List (Addr × Obj)} (h1 : (x, cmpObj 394 d t nm it t1) ∈ new) (h2 : (d, dictOf [] 0) ∈ new) (h3 : (t, tupObj l) ∈ new) : ExMade (.seq ms) nm (some l) (.ref x) new :=
  ⟨⟨x, d, t, nm, .seq ms, _⟩, rfl, rfl, rfl, ⟨it, t1, rfl⟩, h1, h2, fun _ h => by cases h; exact h3⟩
theorem made_oneOf {x d t : Addr} {nm : Str} {it : Option Value} {t1 : Tok} {ms : List Nat} {l : List Value} {new : List (Addr × Obj)} (h1 : (x, cmpObj 420 d t nm it t1) ∈ new) (h2 : (d, dictOf [] 0) ∈ new) (h3 : (t, tupObj l) ∈ new) : ExMade (.oneOf ms) nm (some l) (.ref x) new :=
  ⟨⟨x, d, t, nm, .oneOf ms, _⟩, rfl, rfl, rfl, ⟨it, t1, rfl⟩, h1, h2, fun _ h => by cases h; exact h3⟩
theorem made_look {x d t : Addr} {neg : Bool} {nm : Str} {it : Option Value} {t1 : Tok} {m : Nat} {l : List Value} {new : List (Addr × Obj)} (h1 : (x, lookObj d t neg nm it t1) ∈ new) (h2 : (d, dictOf [] 0) ∈ new) (h3 : (t, tupObj l) ∈ new) : ExMade (.look neg m) nm (some l) (.ref x) new :=
  ⟨⟨x, d, t, nm, .look neg m, _⟩, rfl, rfl, rfl, ⟨it, t1, rfl⟩, h1, h2, fun _ h => by cases h; exact h3⟩
theorem made_more {x d t : Addr} {nm : Str} {it : Option Value} {tf t1 t2 : Tok} {m : Nat} {l : List Value} {new : List (Addr × Obj)} (h1 : (x, quantObj d t (.float infBits tf) 1 nm it t1 t2) ∈ new) (h2 : (d, dictOf [] 0) ∈ new) (h3 : (t, tupObj l) ∈ new) : ExMade (.more m) nm (some l) (.ref x) new :=
  ⟨⟨x, d, t, nm, .more m, _⟩, rfl, rfl, rfl, ⟨it, tf, t1, t2, rfl⟩, h1, h2, fun _ h => by cases h; exact h3⟩
theorem made_opt {x d t : Addr} {nm : Str} {it : Option Value} {tf t1 t2 : Tok} {m : Nat} {l : List Value} {new : List (Addr × Obj)} (h1 : (x, quantObj d t (.int 1 tf) 0 nm it t1 t2) ∈ new) (h2 : (d, dictOf [] 0) ∈ new) (h3 : (t, tupObj l) ∈ new) : ExMade (.opt m) nm (some l) (.ref x) new :=
  ⟨⟨x, d, t, nm, .opt m, _⟩, rfl, rfl, rfl, ⟨it, tf, t1, t2, rfl⟩, h1, h2, fun _ h => by cases h; exact h3⟩
theorem new_lt {new led : List (Addr × Obj)} (h : ∀ q ∈ new, AllLt q.1 led) : ∀ q ∈ new, ∀ p ∈ led, p.1 < q.1 := fun q hq => tb_ltOf (h q hq)
theorem all_cons {a : Addr} {o : Obj} {new led : List (Addr × Obj)} (h1 : AllLt a led) (h2 : ∀ q ∈ new, AllLt q.1 led) : ∀ q ∈ (a, o) :: new, AllLt q.1 led := fun q hq => by
  rcases List.mem_cons.mp hq with rfl | hq
  · exact h1
  · exact h2 q hq
theorem all_nil {led : List (Addr × Obj)} : ∀ q ∈ ([] : List (Addr × Obj)), AllLt q.1 led := fun _ h => nomatch h
theorem drop_more {h₀ h : Heap} {L : Addr} {d q so D x dx : Addr × Obj} {led : List (Addr × Obj)} (N : News h₀ L h (d :: q :: so :: D :: x :: dx :: led)) : News h₀ L h (q :: x :: dx :: led) := News.sub N fun p hp => by
  simp only [List.mem_cons] at hp ⊢
  rcases hp with h | h | h | h
  · simp [h]
  · simp [h]
  · simp [h]
  · simp [h]
theorem drop_more2 {h₀ h : Heap} {L : Addr} {sub d q so D x dx : Addr × Obj} {led : List (Addr × Obj)} (N : News h₀ L h (sub :: d :: q :: so :: D :: x :: dx :: led)) : News h₀ L h (q :: x :: dx :: led) := drop_more (News.sub N fun p hp => .tail _ hp)
def CallHere (M : Model) (A : Around) (E : Value → Shared → Prop) (s : Shared) (f : Addr) (args : List Value) (kw : List (Str × Value)) (Q : Value → Shared → Prop) : Prop := wpAny M A (call (.ref f) args kw) Q E s
theorem call_stop {M : Model} {A : Around} {E : Value → Shared → Prop} {s : Shared} {f : Addr} {args : List Value} {kw : List (Str × Value)} {Q : Value → Shared → Prop} (h : CallHere M A E s f args kw Q) : wpAny M A (call (.ref f) args kw) Q E s := h
theorem call_go {M : Model} {A : Around} {E : Value → Shared → Prop} {s : Shared} {f : Addr} {args : List Value} {kw : List (Str × Value)} {Q : Value → Shared → Prop} (h : wpAny M A (call (.ref f) args kw) Q E s) : CallHere M A E s f args kw Q := h
def clsOf : Kind → Addr
  | .lit _ => 336
  | .seq _ => 394
  | .oneOf _ => 420
  | .look _ _ => 458
  | .more _ => 504
  | .opt _ => 504
theorem ex_cls {e : Ex} (h : e.instOk) : e.o.cls = .ref (clsOf e.k) := by
  obtain ⟨a, d, t, nm, k, o⟩ := e
  unfold Ex.instOk at h
  cases k with
  | lit c => dsimp only at h; obtain ⟨it, t1, t2, rfl⟩ := h; rfl
  | seq ms => dsimp only at h; obtain ⟨it, t2, rfl⟩ := h; rfl
  | oneOf ms => dsimp only at h; obtain ⟨it, t2, rfl⟩ := h; rfl
  | look b m => dsimp only at h; obtain ⟨it, t2, rfl⟩ := h; rfl
  | more m => dsimp only at h; obtain ⟨it, tf, t1, t2, rfl⟩ := h; rfl
  | opt m => dsimp only at h; obtain ⟨it, tf, t1, t2, rfl⟩ := h; rfl
/-- two things of a ledger that are of two classes lie at two addresses -/
theorem News.ne {h₀ h : Heap} {L a b : Addr} {o o' : Obj} {led : List (Addr × Obj)} (N : News h₀ L h led) (h1 : (a, o) ∈ led) (h2 : (b, o') ∈ led) (hc : o.cls ≠ o'.cls) : a ≠ b := fun e => by
  subst e
  have e1 := (N _ h1).1
  rw [(N _ h2).1] at e1
  cases e1
  exact hc rfl
end Mine
end
section
example : True := by
  w_top off
  trivial
open PySem PySem.W PyProof.Rows PySem.Spec PySem.Calls
namespace Mine
local macro_rules | `(tactic| k_room) => `(tactic| ktr_room)
local macro_rules | `(tactic| k_units) => `(tactic| ktr_units)
local macro_rules | `(tactic| k_all) => `(tactic| (refine up_neAll (by assumption) ?_; first | tbn_find | exact allLt_of (by assumption)))
local macro_rules | `(tactic| k_all) => `(tactic| (refine tbn_neAll ?_; first | tbn_find | exact allLt_of (by assumption)))
local macro_rules | `(tactic| ks_enter) => `(tactic| (refine' ks_code_super ?k1 ?k2 ?k3 ?k4 ?k5 ?kA ?kF ?kK ?k6 ?k7 ?k8 ?k9 ?kB ?_ ?c1 ?c2 ?c3 ?c4; (case kA => exact rfl); (case kF => exact rfl); (case kK => first | exact rfl | assumption); (case k1 => k_asm); (case k2 => k_asm); (case k3 => k_asm); (case k4 => k_asm); (case k5 => k_asm); (case k6 => k_is); (case k7 => k_is); (case k8 => k_room); (case k9 => exact binds_K (by k_in) rfl (by k_is) rfl rfl rfl); (case kB => exact locs rfl); (case c1 => decide); (case c2 => exact rfl); (case c3 => exact rfl); (case c4 => exact rfl); intro g' L' h' FG' F' N' B' X' T' l1; (try k_lt l1); (try dsimp only); (try k_lift B')))
local macro_rules | `(tactic| ks_enter) => `(tactic| (refine' superMore ?k1 ?k2 ?k3 ?k4 ?k5 ?kA ?kF ?kK ?k6 ?k7 ?k8 ?kX ?kM ?kN ?kR ?kP ?kT ?kB ?_ ?c2 ?c3 ?c4 ?c5; (case kA => exact rfl); (case kF => exact rfl); (case kK => first | exact rfl | assumption); (case k1 => k_asm); (case k2 => k_asm); (case k3 => k_asm); (case k4 => k_asm); (case k5 => k_asm); (case k6 => k_is); (case k7 => k_is); (case k8 => k_room); (case kX => kp_lit); (case kM => exact rfl); (case kN => exact rfl); (case kR => exact rfl); (case kP => exact rfl); (case kT => exact fun _ => rfl); (case kB => exact fun _ => locs rfl); (case c5 => decide); (case c2 => exact rfl); (case c3 => exact rfl); (case c4 => exact rfl); intro D' o' g' L' h' tk' l1 lo' hs' FG' F' N' B' X' T' l2; (try k_lt l1); (try k_lt2 l2); (try dsimp only); (try k_lift B')))
local macro_rules | `(tactic| ks_enter) => `(tactic| (refine' superBoth ?k1 ?k2 ?k3 ?k4 ?k5 ?kA ?kF ?kK ?k6 ?k7 ?k8 ?kV ?kX ?kQ ?kM ?kN ?kR ?kP ?kS ?kT ?kB ?_ ?c2 ?c3 ?c4 ?c5; (case kA => exact rfl); (case kF => exact rfl); (case kK => first | exact rfl | assumption); (case k1 => k_asm); (case k2 => k_asm); (case k3 => k_asm); (case k4 => k_asm); (case k5 => k_asm); (case k6 => k_is); (case k7 => k_is); (case k8 => k_room); (case kV => kp_lit); (case kX => kp_lit); (case kQ => exact rfl); (case kM => exact rfl); (case kN => exact rfl); (case kR => exact rfl); (case kP => exact rfl); (case kS => exact fun _ => rfl); (case kT => exact fun _ _ => rfl); (case kB => exact fun _ _ => locs rfl); (case c5 => decide); (case c2 => exact rfl); (case c3 => exact rfl); (case c4 => exact rfl); intro C' D' o' g' L' h' tk' l1 l2 lo' hs' FG' F' N' B' X' T' l3; (try k_lt l1); (try k_lt2 l2); (try k_lt2 l3); (try dsimp only); (try k_lift B')))
local macro_rules | `(tactic| walk_at "wpAt") => `(tactic| (ks_step "execs cons"; k_dflt (refine ks_wpAt_execs_cons ?_)))
local macro_rules | `(tactic| walk_at "wpAt") => `(tactic| (ks_step "exec Expr"; k_dflt (refine ks_wpAt_Expr_any ?_)))
local macro_rules | `(tactic| walk_at "wpAt") => `(tactic| (ks_step "eval Call"; k_dflt (refine ks_wpAt_MethodCall ?_)))
local macro_rules | `(tactic| k_mem) => `(tactic| first | assumption | exact List.mem_cons_self | exact List.Mem.head _ | (refine' List.mem_cons_of_mem _ ?_; k_mem))
set_option hygiene false in
theorem mk_lit {w : World} {p : Program} {loose : List Str} {mean : ExcName → Option Value} {mg mb : Str → Option Value} (c : Str) (tc : Tok) :
    CallsN w p loose mean mg mb 8 60 336 [.str c tc] [] (ExMade (.lit c) (Str.ofString "") none) := by
  intro led dp un gd cn cs a ccd cl outer A₀ base h₀ L m s Q E B F X N T hk hdp hun ret
  refine call_cls F X N (by k_is) (by k_is) (by k_is) ?_
  intro x dx h1 F1 N1 l1 l2
  replace l1 := allLt_of l1
  k_lt2 l2
  k_dflt ks_enter
  k_steps
  rename Fr h₀ L _ _ => F8
  rename News h₀ L _ _ => N8
  refine ret (.ref x) [_, _, _, _, _, _] _ _ F8 N8 (new_lt ?lt) ⟨⟨x, dx, 0, Str.ofString "", .lit c, litObj dx c (Str.ofString "") ?it ?t1 ?t2⟩, rfl, rfl, rfl, ⟨_, _, _, rfl⟩, ?m1, ?m2, nofun⟩
  case lt =>
    repeat' (first | exact all_nil | refine all_cons ?_ ?_)
    all_goals first | assumption | tbn_find | exact tbn_up (by assumption) (by assumption) | exact tbn_up (by assumption) (by tbn_find)
  case m1 => k_mem
  case m2 => k_mem
end Mine
end
section
local macro_rules | `(tactic| walk_at "dummy0") => `(tactic| skip)
example : True := by
  w_top off
  trivial
open PySem PySem.W PyProof.Rows PySem.Spec PySem.Calls
namespace Mine
local macro_rules | `(tactic| k_room) => `(tactic| ktr_room)
local macro_rules | `(tactic| k_units) => `(tactic| ktr_units)
local macro_rules | `(tactic| k_all) => `(tactic| (refine up_neAll (by assumption) ?_; first | tbn_find | exact allLt_of (by assumption)))
local macro_rules | `(tactic| k_all) => `(tactic| (refine tbn_neAll ?_; first | tbn_find | exact allLt_of (by assumption)))
local macro_rules | `(tactic| ks_enter) => `(tactic| (refine' ks_code_super ?k1 ?k2 ?k3 ?k4 ?k5 ?kA ?kF ?kK ?k6 ?k7 ?k8 ?k9 ?kB ?_ ?c1 ?c2 ?c3 ?c4; (case kA => exact rfl); (case kF => exact rfl); (case kK => first | exact rfl | assumption); (case k1 => k_asm); (case k2 => k_asm); (case k3 => k_asm); (case k4 => k_asm); (case k5 => k_asm); (case k6 => k_is); (case k7 => k_is); (case k8 => k_room); (case k9 => exact binds_K (by k_in) rfl (by k_is) rfl rfl rfl); (case kB => exact locs rfl); (case c1 => decide); (case c2 => exact rfl); (case c3 => exact rfl); (case c4 => exact rfl); intro g' L' h' FG' F' N' B' X' T' l1; (try k_lt l1); (try dsimp only); (try k_lift B')))
local macro_rules | `(tactic| ks_enter) => `(tactic| (refine' superMore ?k1 ?k2 ?k3 ?k4 ?k5 ?kA ?kF ?kK ?k6 ?k7 ?k8 ?kX ?kM ?kN ?kR ?kP ?kT ?kB ?_ ?c2 ?c3 ?c4 ?c5; (case kA => exact rfl); (case kF => exact rfl); (case kK => first | exact rfl | assumption); (case k1 => k_asm); (case k2 => k_asm); (case k3 => k_asm); (case k4 => k_asm); (case k5 => k_asm); (case k6 => k_is); (case k7 => k_is); (case k8 => k_room); (case kX => kp_lit); (case kM => exact rfl); (case kN => exact rfl); (case kR => exact rfl); (case kP => exact rfl); (case kT => exact fun _ => rfl); (case kB => exact fun _ => locs rfl); (case c5 => decide); (case c2 => exact rfl); (case c3 => exact rfl); (case c4 => exact rfl); intro D' o' g' L' h' tk' l1 lo' hs' FG' F' N' B' X' T' l2; (try k_lt l1); (try k_lt2 l2); (try dsimp only); (try k_lift B')))
local macro_rules | `(tactic| ks_enter) => `(tactic| (refine' superBoth ?k1 ?k2 ?k3 ?k4 ?k5 ?kA ?kF ?kK ?k6 ?k7 ?k8 ?kV ?kX ?kQ ?kM ?kN ?kR ?kP ?kS ?kT ?kB ?_ ?c2 ?c3 ?c4 ?c5; (case kA => exact rfl); (case kF => exact rfl); (case kK => first | exact rfl | assumption); (case k1 => k_asm); (case k2 => k_asm); (case k3 => k_asm); (case k4 => k_asm); (case k5 => k_asm); (case k6 => k_is); (case k7 => k_is); (case k8 => k_room); (case kV => kp_lit); (case kX => kp_lit); (case kQ => exact rfl); (case kM => exact rfl); (case kN => exact rfl); (case kR => exact rfl); (case kP => exact rfl); (case kS => exact fun _ => rfl); (case kT => exact fun _ _ => rfl); (case kB => exact fun _ _ => locs rfl); (case c5 => decide); (case c2 => exact rfl); (case c3 => exact rfl); (case c4 => exact rfl); intro C' D' o' g' L' h' tk' l1 l2 lo' hs' FG' F' N' B' X' T' l3; (try k_lt l1); (try k_lt2 l2); (try k_lt2 l3); (try dsimp only); (try k_lift B')))
local macro_rules | `(tactic| walk_at "wpAt") => `(tactic| (ks_step "execs cons"; k_dflt (refine ks_wpAt_execs_cons ?_)))
local macro_rules | `(tactic| walk_at "wpAt") => `(tactic| (ks_step "exec Expr"; k_dflt (refine ks_wpAt_Expr_any ?_)))
local macro_rules | `(tactic| walk_at "wpAt") => `(tactic| (ks_step "eval Call"; k_dflt (refine ks_wpAt_MethodCall ?_)))
local macro_rules | `(tactic| k_mem) => `(tactic| first | assumption | exact List.mem_cons_self | exact List.Mem.head _ | (refine' List.mem_cons_of_mem _ ?_; k_mem))
set_option hygiene false in
theorem mk_seq2 {w : World} {p : Program} {loose : List Str} {mean : ExcName → Option Value} {mg mb : Str → Option Value} (ms : List Nat) (v1 v2 : Value) :
    CallsN w p loose mean mg mb 8 60 394 [v1, v2] [] (ExMade (.seq ms) (Str.ofString "") (some [v1, v2])) := by
  intro led dp un gd cn cs a ccd cl outer A₀ base h₀ L m s Q E B F X N T hk hdp hun ret
  refine call_cls F X N (by k_is) (by k_is) (by k_is) ?_
  intro x dx h1 F1 N1 l1 l2
  replace l1 := allLt_of l1
  k_lt2 l2
  k_dflt ks_enter
  k_steps
  rename Fr h₀ L _ _ => F8
  rename News h₀ L _ _ => N8
  refine' ret (.ref x) [_, _, _, _, _, _, _] _ _ F8 N8 (new_lt ?lt) (made_seq ?m1 ?m2 ?m3)
  case lt =>
    repeat' (first | exact all_nil | refine all_cons ?_ ?_)
    all_goals first | assumption | tbn_find | exact tbn_up (by assumption) (by assumption) | exact tbn_up (by assumption) (by tbn_find)
  case m1 => k_mem
  case m2 => k_mem
  case m3 => k_mem
set_option hygiene false in
theorem mk_seq3 {w : World} {p : Program} {loose : List Str} {mean : ExcName → Option Value} {mg mb : Str → Option Value} (ms : List Nat) (v1 v2 v3 : Value) :
    CallsN w p loose mean mg mb 8 60 394 [v1, v2, v3] [] (ExMade (.seq ms) (Str.ofString "") (some [v1, v2, v3])) := by
  intro led dp un gd cn cs a ccd cl outer A₀ base h₀ L m s Q E B F X N T hk hdp hun ret
  refine call_cls F X N (by k_is) (by k_is) (by k_is) ?_
  intro x dx h1 F1 N1 l1 l2
  replace l1 := allLt_of l1
  k_lt2 l2
  k_dflt ks_enter
  k_steps
  rename Fr h₀ L _ _ => F8
  rename News h₀ L _ _ => N8
  refine' ret (.ref x) [_, _, _, _, _, _, _] _ _ F8 N8 (new_lt ?lt) (made_seq ?m1 ?m2 ?m3)
  case lt =>
    repeat' (first | exact all_nil | refine all_cons ?_ ?_)
    all_goals first | assumption | tbn_find | exact tbn_up (by assumption) (by assumption) | exact tbn_up (by assumption) (by tbn_find)
  case m1 => k_mem
  case m2 => k_mem
  case m3 => k_mem
set_option hygiene false in
theorem mk_seq4 {w : World} {p : Program} {loose : List Str} {mean : ExcName → Option Value} {mg mb : Str → Option Value} (ms : List Nat) (v1 v2 v3 v4 : Value) :
    CallsN w p loose mean mg mb 8 60 394 [v1, v2, v3, v4] [] (ExMade (.seq ms) (Str.ofString "") (some [v1, v2, v3, v4])) := by
  intro led dp un gd cn cs a ccd cl outer A₀ base h₀ L m s Q E B F X N T hk hdp hun ret
  refine call_cls F X N (by k_is) (by k_is) (by k_is) ?_
  intro x dx h1 F1 N1 l1 l2
  replace l1 := allLt_of l1
  k_lt2 l2
  k_dflt ks_enter
  k_steps
  rename Fr h₀ L _ _ => F8
  rename News h₀ L _ _ => N8
  refine' ret (.ref x) [_, _, _, _, _, _, _] _ _ F8 N8 (new_lt ?lt) (made_seq ?m1 ?m2 ?m3)
  case lt =>
    repeat' (first | exact all_nil | refine all_cons ?_ ?_)
    all_goals first | assumption | tbn_find | exact tbn_up (by assumption) (by assumption) | exact tbn_up (by assumption) (by tbn_find)
  case m1 => k_mem
  case m2 => k_mem
  case m3 => k_mem
set_option hygiene false in
theorem mk_seqn {w : World} {p : Program} {loose : List Str} {mean : ExcName → Option Value} {mg mb : Str → Option Value} (ms : List Nat) (v1 : Value) (nm : Str) (tn : Tok) :
    CallsN w p loose mean mg mb 8 60 394 [v1] [(Str.ofString "name", .str nm tn)] (ExMade (.seq ms) nm (some [v1])) := by
  intro led dp un gd cn cs a ccd cl outer A₀ base h₀ L m s Q E B F X N T hk hdp hun ret
  refine call_cls F X N (by k_is) (by k_is) (by k_is) ?_
  intro x dx h1 F1 N1 l1 l2
  replace l1 := allLt_of l1
  k_lt2 l2
  k_dflt ks_enter
  k_steps
  rename Fr h₀ L _ _ => F8
  rename News h₀ L _ _ => N8
  refine' ret (.ref x) [_, _, _, _, _, _, _] _ _ F8 N8 (new_lt ?lt) (made_seq ?m1 ?m2 ?m3)
  case lt =>
    repeat' (first | exact all_nil | refine all_cons ?_ ?_)
    all_goals first | assumption | tbn_find | exact tbn_up (by assumption) (by assumption) | exact tbn_up (by assumption) (by tbn_find)
  case m1 => k_mem
  case m2 => k_mem
  case m3 => k_mem
set_option hygiene false in
theorem mk_oneOf {w : World} {p : Program} {loose : List Str} {mean : ExcName → Option Value} {mg mb : Str → Option Value} (ms : List Nat) (v1 v2 v3 : Value) :
    CallsN w p loose mean mg mb 8 60 420 [v1, v2, v3] [] (ExMade (.oneOf ms) (Str.ofString "") (some [v1, v2, v3])) := by
  intro led dp un gd cn cs a ccd cl outer A₀ base h₀ L m s Q E B F X N T hk hdp hun ret
  refine call_cls F X N (by k_is) (by k_is) (by k_is) ?_
  intro x dx h1 F1 N1 l1 l2
  replace l1 := allLt_of l1
  k_lt2 l2
  k_dflt ks_enter
  k_steps
  rename Fr h₀ L _ _ => F8
  rename News h₀ L _ _ => N8
  refine' ret (.ref x) [_, _, _, _, _, _, _] _ _ F8 N8 (new_lt ?lt) (made_oneOf ?m1 ?m2 ?m3)
  case lt =>
    repeat' (first | exact all_nil | refine all_cons ?_ ?_)
    all_goals first | assumption | tbn_find | exact tbn_up (by assumption) (by assumption) | exact tbn_up (by assumption) (by tbn_find)
  case m1 => k_mem
  case m2 => k_mem
  case m3 => k_mem
end Mine
end
section
open PySem PySem.W PyProof.Rows PySem.Spec PySem.Calls
namespace Mine
/-- the walk stops here: a step that is taken by hand -/
def Here {α : Type} (M : Model) (A : Around) (E : Value → Shared → Prop) (s : Shared) (x : Sem α) (Q : α → Shared → Prop) : Prop := wpAny M A x Q E s
theorem here_stop {α : Type} {M : Model} {A : Around} {E : Value → Shared → Prop} {s : Shared} {x : Sem α} {Q : α → Shared → Prop} (h : Here M A E s x Q) : wpAny M A x Q E s := h
theorem here_go {α : Type} {M : Model} {A : Around} {E : Value → Shared → Prop} {s : Shared} {x : Sem α} {Q : α → Shared → Prop} (h : wpAny M A x Q E s) : Here M A E s x Q := h
end Mine
end
section
open PySem PySem.W PyProof.Rows PySem.Spec PySem.Calls PyProof.V
namespace Mine
theorem dict_sub : isSubtype (.type "dict") (.type "dict") = pure true := by rw [isSubtype_type]; kernel_rfl
theorem dict_iter : typeLookup (.type "dict") "__iter__" = pure (some (.builtin "dict.__iter__")) := by rw [typeLookup_type, builtinLookup_eq_fast]; kernel_rfl
theorem empty_dict {prog : Program} {w : World} {o : Obj} (h : o.IsDictOf (strKind prog w) []) : ∃ n, o.cls = .type "dict" ∧ o.data = .dict #[] n := by
  obtain ⟨es, ep, hx, hd, _, hp, _⟩ := h
  have : es = #[] := by
    obtain ⟨l⟩ := es
    cases l with
    | nil => rfl
    | cons a r => cases hp
  subst this
  exact ⟨ep, hx.1, hd⟩
section
variable {prog : Program} {w : World} {A : Around} {E : Value → Shared → Prop} {s : Shared} {a d : Addr} {l : List DictEntry} {n n' : Nat} {v : Value} {hs : Int} {name : Str} {tk : Tok} {oa : Obj}
theorem merge_empty {Q : Unit → Shared → Prop} (ha : s.heap.get? a = some oa) (hc : oa.cls = .type "dict") (hdat : oa.data = .dict #[] n) (hd : s.heap.get? d = some (dictOf l n')) (hlow : (a == sysModules) = false) (hq : Q () s) : wpAny (model prog w) A (mergeMapping d (.ref a) true) Q E s := by
  have f1 := dict_sub
  have f2 := dict_iter
  have tT : s.TypeIs (.ref a) "dict" := ⟨_, ha, hc⟩
  obtain ⟨h, g, dr, t, os⟩ := s
  have hd' := hdat
  unfold mergeMapping isInstance specialOf
  repeat (first | with_reducible refine wpAny_loadPart_at ha ?_ | with_reducible refine wpAny_loadPart_at hd ?_ | (rw [hlow]; simp only [Bool.false_eq_true, if_false]) | (rw [hc]) | wp_step)
  cases l with
  | nil => exact wpAny_bind (wpAny_dictEntries ha hd' (wpAny_bind (wpAny_pure (wpAny_bind (wpAny_dictEntries ha hd' (wpAny_bind (wpAny_dictEpoch ha hd' (wpAny_pure hq))))))))
  | cons x r => exact wpAny_bind (wpAny_dictEntries ha hd' (wpAny_bind (wpAny_dictEpoch ha hd' (wpAny_pure hq))))
theorem mk_d {Q : Addr → Shared → Prop} {f : Value} {x : Sem Value} {h₀ : Heap} {L D : Addr} {m : Str → Option Value} {led : List (Addr × Obj)} (F : Fr h₀ L s.heap m) (N : News h₀ L s.heap led) (hD : (D, oa) ∈ led) (ho : oa.IsDictOf (strKind prog w) []) (hlow : (D == sysModules) = false)
    (hx : ∀ (s' : Shared) (Q' : Value → Shared → Prop), Fr h₀ L s'.heap m → Q' (.ref D) s' → wpAny (model prog w) A x Q' E s')
    (hq : ∀ d h', (∀ p ∈ led, p.1 < d) → Fr h₀ L h' m → News h₀ L h' ((d, dictOf [] 0) :: led) → Q d { s with heap := h' }) : wpAny (model prog w) A (mergedKeywords f [(none, x)]) Q E s := by
  obtain ⟨n, hc, hdat⟩ := empty_dict ho
  unfold mergedKeywords
  refine wpAny_bind (wpAny_alloc' ?_)
  have F1 := F.push (dictOf [] 0)
  have N1 := N.push F (dictOf [] 0)
  refine wpAny_bind (wpAny_holding ?_)
  refine wpAny_bind ?_
  refine wpAny_bind ?_
  refine wpAny_bind ?_
  refine wpAny_pure ?_
  refine wpAny_bind (hx _ _ F1 ?_)
  refine wpAny_bind ?_
  refine wpAny_onRaise (wpAny_holding (wpAny_tryCatch (wpAny_onRaise ?_)))
  refine merge_empty (n' := 0) (l := []) (N1 _ (.tail _ hD)).1 hc hdat (N1 _ (.head _)).1 hlow ?_
  refine wpAny_pure (wpAny_pure ?_)
  refine wpAny_bind (wpAny_pure ?_)
  refine wpAny_pure ?_
  refine wpAny_pure ?_
  exact hq _ _ (fun p hp => Heap.lt_size (N p hp).1) F1 N1
theorem merge_one {Q : Unit → Shared → Prop} {h₀ : Heap} {L sub : Addr} {m : Str → Option Value} {rest : List (Addr × Obj)} (F : Fr h₀ L s.heap m) (N : News h₀ L s.heap ((sub, dictOf [⟨hs, .str name tk, v⟩] n) :: (d, dictOf [] n') :: rest))
    (hsd : sub ≠ d) (hr : ∀ p ∈ rest, p.1 ≠ d) (hlow : (sub == sysModules) = false)
    (hq : ∀ h', Fr h₀ L h' m → News h₀ L h' ((sub, dictOf [⟨hs, .str name tk, v⟩] n) :: (d, dictOf [⟨hs, .str name tk, v⟩] (n' + 1)) :: rest) → Q () { s with heap := h' }) : wpAny (model prog w) A (mergeMapping d (.ref sub) true) Q E s := by
  have ha := (N _ (.head _)).1
  have hd := (N _ (.tail _ (.head _))).1
  have f1 := dict_sub
  have f2 := dict_iter
  have tT : s.TypeIs (.ref sub) "dict" := ⟨_, ha, rfl⟩
  have hda : (dictOf [⟨hs, .str name tk, v⟩] n).data = .dict #[⟨hs, .str name tk, v⟩] n := rfl
  have hdd : (dictOf [] n').data = .dict #[] n' := rfl
  obtain ⟨U1, U2⟩ := news_upd (pre := [(sub, dictOf [⟨hs, .str name tk, v⟩] n)]) (f := Obj.mapDictKeys (·.push ⟨hs, .str name tk, v⟩)) F N (fun p hp => by rw [List.mem_singleton.mp hp]; exact hsd) hr (o' := dictOf [⟨hs, .str name tk, v⟩] (n' + 1)) rfl rfl
  have ha' := (U2 _ (.head _)).1
  obtain ⟨h, g, dr, t, os⟩ := s
  unfold mergeMapping isInstance specialOf
  repeat (first | with_reducible refine wpAny_loadPart_at ha ?_ | with_reducible refine wpAny_loadPart_at hd ?_ | (rw [hlow]; simp only [Bool.false_eq_true, if_false]) | wp_step)
  have hfi : ∀ q : DictEntry → Bool, Array.findIdx? q #[] = none := fun q => by simp
  rw [hfi]
  refine wpAny_pure ?_
  show wpAny _ _ (dictPut d hs (.str name tk) v) _ _ _
  unfold dictPut
  refine wpAny_bind (PyProof.Rows.KTD.kt_dictFind_strs hd hdd (by simp) ?_)
  rw [hfi]
  refine wpAny_updateDictKeys hd hdd ?_ (by exact (by decide : 0 ≤ sizeLine)) (by simp)
  refine wpAny_bind (wpAny_dictEpoch ha' hda ?_)
  rw [if_neg (by simp)]
  refine wpAny_pure ?_
  refine wpAny_pure ?_
  refine wpAny_pure ?_
  exact hq _ U1 U2
theorem mk_d2 {Q : Addr → Shared → Prop} {f : Value} {xv x : Sem Value} {h₀ : Heap} {L D : Addr} {m : Str → Option Value} {led : List (Addr × Obj)} (F : Fr h₀ L s.heap m) (N : News h₀ L s.heap led) (hD : (D, oa) ∈ led) (ho : oa.IsDictOf (strKind prog w) []) (hlow : (D == sysModules) = false)
    (hbig : sysModules < h₀.objs.size)
    (hxv : ∀ (s' : Shared) (Q' : Value → Shared → Prop), Fr h₀ L s'.heap m → Q' v s' → wpAny (model prog w) A xv Q' E s')
    (hx : ∀ (s' : Shared) (Q' : Value → Shared → Prop), Fr h₀ L s'.heap m → Q' (.ref D) s' → wpAny (model prog w) A x Q' E s')
    (hq : ∀ d sub h' hs tk n n2, (∀ p ∈ led, p.1 < d) → d < sub → Fr h₀ L h' m → News h₀ L h' ((sub, dictOf [⟨hs, .str name tk, v⟩] n2) :: (d, dictOf [⟨hs, .str name tk, v⟩] n) :: led) → Q d { s with heap := h', toks := s.toks + 1 }) : wpAny (model prog w) A (mergedKeywords f [(some name, xv), (none, x)]) Q E s := by
  obtain ⟨n, hc, hdat⟩ := empty_dict ho
  unfold mergedKeywords
  refine wpAny_bind (wpAny_alloc' ?_)
  have F1 := F.push (dictOf [] 0)
  have N1 := N.push F (dictOf [] 0)
  refine wpAny_bind (wpAny_holding ?_)
  refine wpAny_bind ?_
  refine wpAny_bind (wpAny_pure ?_)
  refine wpAny_bind ?_
  refine wpAny_bind ?_
  refine wpAny_bind ?_
  refine wpAny_bind (hxv _ _ F1 ?_)
  refine wpAny_bind (wpAny_holding (wpAny_pure ?_))
  refine wpAny_pure ?_
  refine wpAny_bind (wpAny_alloc' ?_)
  have F2 := F1.push (dictOf [] 0)
  have N2 := N1.push F1 (dictOf [] 0)
  refine wpAny_bind ?_
  refine wpAny_bind ?_
  refine wpAny_bind ?_
  refine nsSet_few (pre := []) F2 N2 (fun _ h => nomatch h) (fun p hp => ?_) (by rfl) fun h3 F3 N3 => ?_
  · exact Nat.ne_of_lt (Heap.lt_size (N1 p hp).1)
  refine wpAny_pure ?_
  refine wpAny_pure ?_
  refine wpAny_onRaise (wpAny_holding (wpAny_tryCatch (wpAny_onRaise ?_)))
  have hds : @LT.lt Nat _ s.heap.objs.size (s.heap.push (dictOf [] 0)).objs.size := by rw [Heap.size_push]; exact Nat.lt_succ_self _
  refine merge_one (s := { s with heap := h3, toks := s.toks + 1 }) F3 N3 (Nat.ne_of_gt hds) (fun p hp => Nat.ne_of_lt (Heap.lt_size (N p hp).1)) (F1.notModules hbig) fun h4 F4 N4 => ?_
  refine wpAny_bind (hx _ _ F4 ?_)
  refine wpAny_bind ?_
  refine wpAny_onRaise (wpAny_holding (wpAny_tryCatch (wpAny_onRaise ?_)))
  refine merge_empty (s := { s with heap := h4, toks := s.toks + 1 }) (N4 _ (.tail _ (.tail _ hD))).1 hc hdat (N4 _ (.tail _ (.head _))).1 hlow ?_
  refine wpAny_pure (wpAny_pure ?_)
  refine wpAny_bind (wpAny_pure ?_)
  refine wpAny_pure ?_
  refine wpAny_pure ?_
  exact hq _ _ _ _ _ _ _ (fun p hp => Heap.lt_size (N p hp).1) hds F4 N4
/-- what the merged dict says -/
theorem kw_nil {Q : List (Str × Value) → Shared → Prop} {f : Value} (hd : s.heap.get? d = some (dictOf [] n)) (hq : Q [] s) : wpAny (model prog w) A (keywordsIn f d) Q E s := by
  unfold keywordsIn
  refine wpAny_bind (wpAny_dictEntries hd rfl ?_)
  refine wpAny_bind (wpAny_pure ?_)
  exact wpAny_pure hq
theorem kw_one {Q : List (Str × Value) → Shared → Prop} {f : Value} (hd : s.heap.get? d = some (dictOf [⟨hs, .str name tk, v⟩] n)) (hq : Q [(name, v)] s) : wpAny (model prog w) A (keywordsIn f d) Q E s := by
  unfold keywordsIn
  refine wpAny_bind (wpAny_dictEntries hd rfl ?_)
  refine wpAny_bind ?_
  refine wpAny_bind (wpAny_pure ?_)
  refine wpAny_pure ?_
  exact wpAny_pure hq
/-- a call with keywords out of a dict -/
theorem evalArgs_star {fv : Value} {x : Sem Value} {rest : List (Bool × Sem Value)} {kws : List (Option Str × Sem Value)} {Q : Args → Shared → Prop} (hall : kws.all (·.1.isSome) = false)
    (h : wpAny (model prog w) A (spliced ((false, x) :: rest)) (fun vs s₁ => wpAny (model prog w) A (mergedKeywords fv kws) (fun d s₂ => wpAny (model prog w) A (keywordsIn fv d) (fun kw s₃ => Q ⟨vs, kw⟩ s₃) E s₂) E s₁) E s) :
    wpAny (model prog w) A (evalArgs fv true ((false, x) :: rest) kws) Q E s := by
  unfold evalArgs
  show wpAny (model prog w) A (spliced ((false, x) :: rest) >>= _) Q E s
  refine wpAny_bind (wpAny_mono h (fun vs s₁ h₁ => ?_) fun _ _ y => y)
  refine wpAny_holding ?_
  rw [if_neg (by rw [hall]; exact Bool.false_ne_true)]
  refine wpAny_bind (wpAny_mono h₁ (fun d s₂ h₂ => ?_) fun _ _ y => y)
  exact wpAny_bind (wpAny_pure (wpAny_bind (wpAny_holding (wpAny_mono h₂ (fun kw s₃ h₃ => wpAny_pure h₃) fun _ _ y => y))))
theorem callWith_star {K : Frag} {q f : Addr} {self : Value} {pos : Pos} {first : List Value} {x : Sem Value} {rest : List (Bool × Sem Value)} {kws : List (Option Str × Sem Value)} {Q : Value → Shared → Prop} (hf : fnIn K f = true)
    (hall : kws.all (·.1.isSome) = false) (hst : (((false, x) :: rest).any (·.1) || kws.any (·.1.isNone)) = true)
    (h : wpAny (model prog w) A (spliced ((false, x) :: rest)) (fun vs s₁ => wpAny (model prog w) A (mergedKeywords (.ref q) kws) (fun d s₂ => wpAny (model prog w) A (keywordsIn (.ref q) d) (fun kw s₃ => MethP K q f self s₃.heap ∧ wpAny (model prog w) A (call (.ref q) (first ++ vs) kw) Q E s₃) E s₂) E s₁) E s) :
    wpAny (model prog w) A (callWith pos (.ref q) first ((false, x) :: rest) kws) Q E s := by
  unfold callWith
  refine wpAny_bind (wpAny_holding (evalArgs_star hall (wpAny_mono h (fun vs s₁ h₁ => wpAny_mono h₁ (fun d s₂ h₂ => wpAny_mono h₂ (fun kw s₃ h₃ => wpAny_bind (wpAny_standAt ?_)) fun _ _ y => y) fun _ _ y => y) fun _ _ y => y)))
  have L : Looks (model prog w) s₃.heap (keeperOf (.ref q)) .boundFrame := by
    have hf' := hf
    unfold fnIn at hf'
    split at hf'
    · rename_i e
      exact (Looks.ld (part := none) h₃.1.1).andThen ((Looks.ld (part := none) (h₃.1.2 _ _ e)).andThen .now)
    · cases hf'
  rw [hst]
  refine wpAny_bind (L.here ?_)
  refine wpAny_bind (wpAny_operateT (wpAny_mono h₃.2 (fun r s₄ h₄ => wpAny_bind (wpAny_holding (wpAny_point (wpAny_pure h₄)))) fun _ _ y => y))
theorem callWith_SK {K : Frag} {q f : Addr} {self : Value} {pos : Pos} {first : List Value} {env : Env} {e : Expr} {rest : List Expr} {kws : List Keyword} {Q : Value → Shared → Prop} (hf : fnIn K f = true)
    (hall : (backToKw pos (keywordEach kws env)).all (·.1.isSome) = false) (hst : (backToKw pos (keywordEach kws env)).any (·.1.isNone) = true)
    (h : wpAny (model prog w) A (spliced (backTo pos (starEach (e :: rest) env))) (fun vs s₁ => wpAny (model prog w) A (mergedKeywords (.ref q) (backToKw pos (keywordEach kws env))) (fun d s₂ => wpAny (model prog w) A (keywordsIn (.ref q) d) (fun kw s₃ => MethP K q f self s₃.heap ∧ wpAny (model prog w) A (call (.ref q) (first ++ vs) kw) Q E s₃) E s₂) E s₁) E s)
    (he : starEach (e :: rest) env = (false, eval e env) :: starEach rest env := by rfl) :
    wpAny (model prog w) A (callWith pos (.ref q) first (backTo pos (starEach (e :: rest) env)) (backToKw pos (keywordEach kws env))) Q E s := by
  rw [he] at h ⊢
  exact callWith_star hf hall (by rw [hst, Bool.or_true]) h
end
theorem ld_any {M : Model} {A : Around} {E : Value → Shared → Prop} {s : Shared} {env : Env} {h₀ : Heap} {m : Str → Option Value} {x : Str} {pos : Pos} {v : Value} {Q : Value → Shared → Prop} (F : Fr h₀ env.locals s.heap m) (hv : m x = some v) (h : Q v s)
    (hk : env.scope.kind = .function := by rfl) (hl : env.kindOf x = some .local := by rfl) (hd : (x == ("__debug__" : Str)) = false := by decide) :
    wpAny M A (eval (.Name x pos) env) Q E s := wpAny_Name (wpAny_loadName_local hk hl F.ns hv h) hd
theorem ld_kw {M : Model} {A : Around} {E : Value → Shared → Prop} {s : Shared} {env : Env} {h₀ : Heap} {m : Str → Option Value} {x : Str} {pos p2 : Pos} {v : Value} {Q : Value → Shared → Prop} (F : Fr h₀ env.locals s.heap m) (hv : m x = some v) (h : Q v s)
    (hk : env.scope.kind = .function := by rfl) (hl : env.kindOf x = some .local := by rfl) (hd : (x == ("__debug__" : Str)) = false := by decide) :
    wpAny M A (do let v ← eval (.Name x pos) env; standAt p2; pure v) Q E s := wpAny_bind (ld_any F hv (wpAny_bind (wpAny_standAt (wpAny_pure h))) hk hl hd)
end Mine
end
section
open PySem PySem.W PyProof.Rows PySem.Spec PySem.Calls PyProof.V
namespace Mine
theorem at_methodKw {M : Model} {A : Around} {E : Value → Shared → Prop} {s : Shared} {env : Env} {c : Code} {o : Expr} {name : Str} {apos pos : Pos} {args : List Expr} {kws : List Keyword} {Q : Value → Shared → Prop}
    (h : PySem.wpAt M A c (attributeBase o name env (eval o env)) (fun ov s₁ => wpAny M A (getAttr ov name true) (fun f s₂ => wpAny M A (callWith pos f [] (backTo pos (starEach args env)) (backToKw pos (keywordEach kws env))) Q E s₂) E s₁) E s)
    (he : methodCallForm (args.length + kws.length) (backTo pos (starEach args env)) (backToKw pos (keywordEach kws env)) = false := by rfl) :
    PySem.wpAt M A c (eval (.Call (.Attribute o name apos) args kws pos) env) Q E s := by
  rw [arm_eval_Call]
  refine PySem.wpAt_bind (PySem.wpAt_mono h (fun ov s₁ h₁ => PySem.wpAt_of_wpAny (wpAny_bind (wpAny_standAt ?_))) fun _ _ x => x)
  unfold methodCall calleeOf methodCallPos
  rw [he]
  simp only [Bool.false_eq_true, if_false, Bool.not_false, Bool.true_or, if_true]
  exact wpAny_bind (wpAny_holding (wpAny_bind (wpAny_mono h₁ (fun f s₂ h₂ => wpAny_pure (wpAny_bind (wpAny_pure h₂))) fun _ _ x => x)))
section
variable {prog : Program} {w : World} {A : Around} {E : Value → Shared → Prop} {h : Heap} {g : Array GenState} {d : Drawn} {t : Nat} {os : OsState}
theorem super_attr_at {so D x C f : Addr} {of : Obj} {l₀ l : List Value} {K : Frag} {name : Str} {Q : Value → Shared → Prop}
    (hso : h.get? so = some { cls := .type "super", dict := none, data := .fields #[.ref D, .ref x, .ref C], slots := #[] }) (hno : Looks (model prog w) h (opaqueClassAbove (.ref C)) none)
    (hC : Looks (model prog w) h (mroOf (.ref C)) l₀) (hl : (l₀.dropWhile (· != .ref D)).drop 1 = l) (X : K.In h)
    (hf : alongIn K name l = some (some (.ref f))) (hfo : h.get? f = some of) (hfc : of.cls = .type "function") (hxC : x ≠ C) (hn : (name == ("__class__" : Str)) = false)
    (hq : Q (.ref h.objs.size) ⟨h.push { cls := .type "method", data := .fields #[.ref f, .ref x] }, g, d, t + 1, os⟩) :
    wpAny (model prog w) A (getAttr (.ref so) name true) Q E ⟨h, g, d, t, os⟩ := by
  have hlk := PySem.F.ks_slot_super_ga.lookup
  have hT : ∀ t', (⟨h, g, d, t', os⟩ : Shared).TypeIs (.ref so) "super" := fun _ => ⟨_, hso, rfl⟩
  unfold getAttr getAttrBy
  refine wpAny_bind (wpAny_mkText (wpAny_holding (wpAny_bind (wpAny_typeOf (hT _) (wpAny_bind (wpAny_of_eq hlk ?_))))))
  show wpAny _ _ (getAttrByItsOwn (.ref so) (.str name t) (.type "super") (.builtin "super.__getattribute__") true true) _ _ _
  unfold getAttrByItsOwn hookBefore
  refine wpAny_bind (wpAny_of_eq (show (if onTheHeap (.type "super") then typeLookup (.type "super") "__getattr__" else pure none) = pure none from rfl) ?_)
  refine wpAny_bind (wpAny_attempt (wpAny_holding ?_))
  have e : callGetattribute (.ref so) (.str name t) (.builtin "super.__getattribute__") true = boundAndCalled (.builtin "super.__getattribute__") (.ref so) (.str name t) := rfl
  rw [e]
  unfold boundAndCalled
  refine wpAny_bind (wpAny_of_eq (PySem.F.ks_slot_super_ga.bind _) ?_)
  refine wpAny_mono (Q := fun v s' => v = .ref h.objs.size ∧ s' = ⟨h.push { cls := .type "method", data := .fields #[.ref f, .ref x] }, g, d, t + 1, os⟩) (E := fun _ _ => False)
    (wpAny_call_entry PySem.F.ks_slot_super_ga (hT _) PySem.F.ks_entry_super_ga (ks_wpAny_super_ga hso hno hC hl X hf hfo hfc hxC hn ⟨_, rfl, rfl, rfl⟩) (PySem.F.ks_gaArgs_super _ _)) (fun v s' hv => ?_) fun _ _ z => z.elim
  obtain ⟨rfl, rfl⟩ := hv
  exact wpAny_pure hq
end
section
variable {prog : Program} {w : World} {A : Around} {E : Value → Shared → Prop} {s : Shared} {K : Frag} {h₀ : Heap} {L so D x C f2 : Addr} {m : Str → Option Value} {news : List (Addr × Obj)} {ox : Obj} {odx : Option Obj}
theorem super_attr {name : Str} {Q : Value → Shared → Prop} (F : Fr h₀ L s.heap m) (X₀ : K.In h₀) (N : News h₀ L s.heap news) (hso : (so, ks_superObj D x C) ∈ news) (I : InstAt s.heap x ox C odx) (ho : nsIn K cStatics "thirdparty.any" = some none)
    (hm : ks_superIn K C D name = some (some (.ref f2))) (ht : typeIn K (.ref f2) = some (.type "function")) (hn : (name == ("__class__" : Str)) = false)
    (h : ∀ q h', Fr h₀ L h' m → News h₀ L h' ((q, methodObj (.ref f2) (.ref x)) :: news) → (∀ p ∈ news, p.1 < q) → Q (.ref q) { s with heap := h', toks := s.toks + 1 }) : wpAny (model prog w) A (getAttr (.ref so) name true) Q E s := by
  have X : K.In s.heap := X₀.keeps F.keep
  obtain ⟨hh, g, d, t, os⟩ := s
  cases hc : clsIn K C with
  | none => unfold ks_superIn at hm; rw [hc] at hm; cases hm
  | some cd =>
    unfold ks_superIn at hm
    rw [hc] at hm
    obtain ⟨of, hof, hofc⟩ : ∃ of, hh.get? f2 = some of ∧ of.cls = .type "function" := by
      have ht' : (K.lookup f2).map (·.cls) = some (.type "function") := ht
      cases z : K.lookup f2 with
      | none => rw [z] at ht'; cases ht'
      | some of => rw [z] at ht'; exact ⟨of, X _ _ z, Option.some.inj ht'⟩
    refine super_attr_at (N _ hso).1 (looks_opaque X ho) (l₀ := cd.mro) ?_ rfl X hm hof hofc (ks_ne X I hc) hn ?_
    · exact fun A Q E s k q => wpAny_bind ((looks_clsIn X hc) A _ E s k (wpAny_pure q))
    · obtain ⟨F', N', l'⟩ := ks_newsPush (s := ⟨hh, g, d, t, os⟩) (o := methodObj (.ref f2) (.ref x)) F N rfl (Heap.get?_push_at rfl rfl) (fun b o e => Heap.get?_push_of_some _ e)
      exact h _ _ F' N' l'
end
end Mine
end
section
example : True := by
  w_top off
  trivial
open PySem PySem.W PyProof.Rows PySem.Spec PySem.Calls
namespace Mine
local macro_rules | `(tactic| k_room) => `(tactic| ktr_room)
local macro_rules | `(tactic| k_units) => `(tactic| ktr_units)
local macro_rules | `(tactic| k_all) => `(tactic| (refine up_neAll (by assumption) ?_; first | tbn_find | exact allLt_of (by assumption)))
local macro_rules | `(tactic| k_all) => `(tactic| (refine tbn_neAll ?_; first | tbn_find | exact allLt_of (by assumption)))
local macro_rules | `(tactic| ks_enter) => `(tactic| (refine' ks_code_super ?k1 ?k2 ?k3 ?k4 ?k5 ?kA ?kF ?kK ?k6 ?k7 ?k8 ?k9 ?kB ?_ ?c1 ?c2 ?c3 ?c4; (case kA => exact rfl); (case kF => exact rfl); (case kK => first | exact rfl | assumption); (case k1 => k_asm); (case k2 => k_asm); (case k3 => k_asm); (case k4 => k_asm); (case k5 => k_asm); (case k6 => k_is); (case k7 => k_is); (case k8 => k_room); (case k9 => exact binds_K (by k_in) rfl (by k_is) rfl rfl rfl); (case kB => exact locs rfl); (case c1 => decide); (case c2 => exact rfl); (case c3 => exact rfl); (case c4 => exact rfl); intro g' L' h' FG' F' N' B' X' T' l1; (try k_lt l1); (try dsimp only); (try k_lift B')))
local macro_rules | `(tactic| ks_enter) => `(tactic| (refine' superMore ?k1 ?k2 ?k3 ?k4 ?k5 ?kA ?kF ?kK ?k6 ?k7 ?k8 ?kX ?kM ?kN ?kR ?kP ?kT ?kB ?_ ?c2 ?c3 ?c4 ?c5; (case kA => exact rfl); (case kF => exact rfl); (case kK => first | exact rfl | assumption); (case k1 => k_asm); (case k2 => k_asm); (case k3 => k_asm); (case k4 => k_asm); (case k5 => k_asm); (case k6 => k_is); (case k7 => k_is); (case k8 => k_room); (case kX => kp_lit); (case kM => exact rfl); (case kN => exact rfl); (case kR => exact rfl); (case kP => exact rfl); (case kT => exact fun _ => rfl); (case kB => exact fun _ => locs rfl); (case c5 => decide); (case c2 => exact rfl); (case c3 => exact rfl); (case c4 => exact rfl); intro D' o' g' L' h' tk' l1 lo' hs' FG' F' N' B' X' T' l2; (try k_lt l1); (try k_lt2 l2); (try dsimp only); (try k_lift B')))
local macro_rules | `(tactic| ks_enter) => `(tactic| (refine' superBoth ?k1 ?k2 ?k3 ?k4 ?k5 ?kA ?kF ?kK ?k6 ?k7 ?k8 ?kV ?kX ?kQ ?kM ?kN ?kR ?kP ?kS ?kT ?kB ?_ ?c2 ?c3 ?c4 ?c5; (case kA => exact rfl); (case kF => exact rfl); (case kK => first | exact rfl | assumption); (case k1 => k_asm); (case k2 => k_asm); (case k3 => k_asm); (case k4 => k_asm); (case k5 => k_asm); (case k6 => k_is); (case k7 => k_is); (case k8 => k_room); (case kV => kp_lit); (case kX => kp_lit); (case kQ => exact rfl); (case kM => exact rfl); (case kN => exact rfl); (case kR => exact rfl); (case kP => exact rfl); (case kS => exact fun _ => rfl); (case kT => exact fun _ _ => rfl); (case kB => exact fun _ _ => locs rfl); (case c5 => decide); (case c2 => exact rfl); (case c3 => exact rfl); (case c4 => exact rfl); intro C' D' o' g' L' h' tk' l1 l2 lo' hs' FG' F' N' B' X' T' l3; (try k_lt l1); (try k_lt2 l2); (try k_lt2 l3); (try dsimp only); (try k_lift B')))
local macro_rules | `(tactic| walk_at "wpAt") => `(tactic| (ks_step "execs cons"; k_dflt (refine ks_wpAt_execs_cons ?_)))
local macro_rules | `(tactic| walk_at "wpAt") => `(tactic| (ks_step "exec Expr"; k_dflt (refine ks_wpAt_Expr_any ?_)))
local macro_rules | `(tactic| walk_at "wpAt") => `(tactic| (ks_step "eval Call"; k_dflt (refine ks_wpAt_MethodCall ?_)))
local macro_rules | `(tactic| k_mem) => `(tactic| first | assumption | exact List.mem_cons_self | exact List.Mem.head _ | (refine' List.mem_cons_of_mem _ ?_; k_mem))
local macro_rules | `(tactic| walk_at "callWith ref") => `(tactic| (k_here; (with_reducible show wpAny _ _ (callWith _ _ _ _ (backToKw _ (keywordEach (List.cons _ _) _))) _ _ _); k_dflt (refine here_stop ?_)))
local macro_rules | `(tactic| walk_at "wpAt") => `(tactic| (ks_step "eval Call"; k_dflt (refine at_methodKw ?_)))
local macro_rules | `(tactic| walk_at "getAttr ref") => `(tactic| (k_here; ks_any; k_dflt (refine' super_attr ?k1 ?k2 ?k3 ?k4 ?k5 ?k6 ?k7 ?k8 ?k9 ?_; (case k1 => k_asm); (case k2 => k_asm); (case k3 => k_asm); (case k4 => k_mem); (case k5 => k_inst); (case k6 => k_is); (case k7 => ks_is); (case k8 => k_is); (case k9 => decide); intro q' h' F' N' l1; (try k_lt l1))))
set_option hygiene false in
theorem mk_look {w : World} {p : Program} {loose : List Str} {mean : ExcName → Option Value} {mg mb : Str → Option Value} (m1 : Nat) (v1 : Value) :
    CallsN w p loose mean mg mb 10 80 458 [v1] [] (ExMade (.look false m1) (Str.ofString "") (some [v1])) := by
  intro led dp un gd cn cs a ccd cl outer A₀ base h₀ L m s Q E B F X N T hk hdp hun ret
  refine call_cls F X N (by k_is) (by k_is) (by k_is) ?_
  intro x dx h1 F1 N1 l1 l2
  replace l1 := allLt_of l1
  k_lt2 l2
  k_dflt ks_enter
  k_steps
  refine here_go ?_
  refine callWith_SK (K := Mine.hd.heap_39 w.params) (f := 356) (self := .ref x) (by k_is) (by rfl) (by rfl) ?_
  k_steps
  rename Fr _ _ _ _ => F5
  rename News _ _ _ _ => N5
  rename Obj.IsDictOf (PySem.strKind _ _) _ [] => hod
  rename (_ == sysModules) = false => hlow
  rename Top _ _ _ _ _ _ => T'
  refine mk_d F5 N5 (by k_mem) hod hlow (fun s' Q' F' h => ld_kw F' (by rfl) h) fun d h6 l6 F6 N6 => ?_
  clear N5 F5
  refine kw_nil (N6 _ (.head _)).1 ⟨⟨(N6 _ (.tail _ (.head _))).1, by k_in⟩, ?_⟩
  clear l6
  have N7 := drop_more N6
  clear N6
  k_steps
  rename Fr h₀ L _ _ => F8
  rename News h₀ L _ _ => N8
  refine' ret (.ref x) [_, _, _, _, _, _, _, _] _ _ F8 N8 (new_lt ?lt) (made_look ?m1 ?m2 ?m3)
  case lt =>
    repeat' (first | exact all_nil | refine all_cons ?_ ?_)
    all_goals first | assumption | tbn_find | exact tbn_up (by assumption) (by assumption) | exact tbn_up (by assumption) (by tbn_find)
  case m1 => k_mem
  case m2 => k_mem
  case m3 => k_mem
set_option hygiene false in
theorem mk_lookn {w : World} {p : Program} {loose : List Str} {mean : ExcName → Option Value} {mg mb : Str → Option Value} (m1 : Nat) (v1 : Value) :
    CallsN w p loose mean mg mb 10 80 458 [v1] [(Str.ofString "negative", .bool true)] (ExMade (.look true m1) (Str.ofString "") (some [v1])) := by
  intro led dp un gd cn cs a ccd cl outer A₀ base h₀ L m s Q E B F X N T hk hdp hun ret
  refine call_cls F X N (by k_is) (by k_is) (by k_is) ?_
  intro x dx h1 F1 N1 l1 l2
  replace l1 := allLt_of l1
  k_lt2 l2
  k_dflt ks_enter
  k_steps
  refine here_go ?_
  refine callWith_SK (K := Mine.hd.heap_39 w.params) (f := 356) (self := .ref x) (by k_is) (by rfl) (by rfl) ?_
  k_steps
  rename Fr _ _ _ _ => F5
  rename News _ _ _ _ => N5
  rename Obj.IsDictOf (PySem.strKind _ _) _ [] => hod
  rename (_ == sysModules) = false => hlow
  rename Top _ _ _ _ _ _ => T'
  refine mk_d F5 N5 (by k_mem) hod hlow (fun s' Q' F' h => ld_kw F' (by rfl) h) fun d h6 l6 F6 N6 => ?_
  clear N5 F5
  refine kw_nil (N6 _ (.head _)).1 ⟨⟨(N6 _ (.tail _ (.head _))).1, by k_in⟩, ?_⟩
  clear l6
  have N7 := drop_more N6
  clear N6
  k_steps
  rename Fr h₀ L _ _ => F8
  rename News h₀ L _ _ => N8
  refine' ret (.ref x) [_, _, _, _, _, _, _, _] _ _ F8 N8 (new_lt ?lt) (made_look ?m1 ?m2 ?m3)
  case lt =>
    repeat' (first | exact all_nil | refine all_cons ?_ ?_)
    all_goals first | assumption | tbn_find | exact tbn_up (by assumption) (by assumption) | exact tbn_up (by assumption) (by tbn_find)
  case m1 => k_mem
  case m2 => k_mem
  case m3 => k_mem
set_option hygiene false in
theorem mk_more {w : World} {p : Program} {loose : List Str} {mean : ExcName → Option Value} {mg mb : Str → Option Value} (m1 : Nat) (v1 : Value) (tn ti tf : Tok) :
    CallsN w p loose mean mg mb 10 80 504 [v1] [(Str.ofString "name", .str (Str.ofString "") tn), (Str.ofString "min", .int 1 ti), (Str.ofString "max", .float infBits tf)] (ExMade (.more m1) (Str.ofString "") (some [v1])) := by
  intro led dp un gd cn cs a ccd cl outer A₀ base h₀ L m s Q E B F X N T hk hdp hun ret
  refine call_cls F X N (by k_is) (by k_is) (by k_is) ?_
  intro x dx h1 F1 N1 l1 l2
  replace l1 := allLt_of l1
  k_lt2 l2
  k_dflt ks_enter
  k_steps
  refine here_go ?_
  refine callWith_SK (K := Mine.hd.heap_39 w.params) (f := 356) (self := .ref x) (by k_is) (by rfl) (by rfl) ?_
  k_steps
  rename Fr _ _ _ _ => F5
  rename News _ _ _ _ => N5
  rename Obj.IsDictOf (PySem.strKind _ _) _ [] => hod
  rename (_ == sysModules) = false => hlow
  rename Top _ _ _ _ _ _ => T'
  refine mk_d2 F5 N5 (by k_mem) hod hlow (modules_low T'.nolimit) (fun s' Q' F' h => ld_kw F' (by rfl) h) (fun s' Q' F' h => ld_kw F' (by rfl) h) fun d sub h6 hs6 tk6 n6 n7 l6 l7 F6 N6 => ?_
  clear N5 F5
  refine kw_one (N6 _ (.tail _ (.head _))).1 ⟨⟨(N6 _ (.tail _ (.tail _ (.head _)))).1, by k_in⟩, ?_⟩
  clear l6 l7
  have N7 := drop_more2 N6
  clear N6
  k_steps
  rename Fr h₀ L _ _ => F8
  rename News h₀ L _ _ => N8
  refine' ret (.ref x) [_, _, _, _, _, _, _, _] _ _ F8 N8 (new_lt ?lt) (made_more ?m1 ?m2 ?m3)
  case lt =>
    repeat' (first | exact all_nil | refine all_cons ?_ ?_)
    all_goals first | assumption | tbn_find | exact tbn_up (by assumption) (by assumption) | exact tbn_up (by assumption) (by tbn_find)
  case m1 => k_mem
  case m2 => k_mem
  case m3 => k_mem
set_option hygiene false in
theorem mk_opt {w : World} {p : Program} {loose : List Str} {mean : ExcName → Option Value} {mg mb : Str → Option Value} (m1 : Nat) (v1 : Value) (tn ti tf : Tok) :
    CallsN w p loose mean mg mb 10 80 504 [v1] [(Str.ofString "name", .str (Str.ofString "") tn), (Str.ofString "min", .int 0 ti), (Str.ofString "max", .int 1 tf)] (ExMade (.opt m1) (Str.ofString "") (some [v1])) := by
  intro led dp un gd cn cs a ccd cl outer A₀ base h₀ L m s Q E B F X N T hk hdp hun ret
  refine call_cls F X N (by k_is) (by k_is) (by k_is) ?_
  intro x dx h1 F1 N1 l1 l2
  replace l1 := allLt_of l1
  k_lt2 l2
  k_dflt ks_enter
  k_steps
  refine here_go ?_
  refine callWith_SK (K := Mine.hd.heap_39 w.params) (f := 356) (self := .ref x) (by k_is) (by rfl) (by rfl) ?_
  k_steps
  rename Fr _ _ _ _ => F5
  rename News _ _ _ _ => N5
  rename Obj.IsDictOf (PySem.strKind _ _) _ [] => hod
  rename (_ == sysModules) = false => hlow
  rename Top _ _ _ _ _ _ => T'
  refine mk_d2 F5 N5 (by k_mem) hod hlow (modules_low T'.nolimit) (fun s' Q' F' h => ld_kw F' (by rfl) h) (fun s' Q' F' h => ld_kw F' (by rfl) h) fun d sub h6 hs6 tk6 n6 n7 l6 l7 F6 N6 => ?_
  clear N5 F5
  refine kw_one (N6 _ (.tail _ (.head _))).1 ⟨⟨(N6 _ (.tail _ (.tail _ (.head _)))).1, by k_in⟩, ?_⟩
  clear l6 l7
  have N7 := drop_more2 N6
  clear N6
  k_steps
  rename Fr h₀ L _ _ => F8
  rename News h₀ L _ _ => N8
  refine' ret (.ref x) [_, _, _, _, _, _, _, _] _ _ F8 N8 (new_lt ?lt) (made_opt ?m1 ?m2 ?m3)
  case lt =>
    repeat' (first | exact all_nil | refine all_cons ?_ ?_)
    all_goals first | assumption | tbn_find | exact tbn_up (by assumption) (by assumption) | exact tbn_up (by assumption) (by tbn_find)
  case m1 => k_mem
  case m2 => k_mem
  case m3 => k_mem
end Mine
end
section
example : True := by
  w_top off
  trivial
open PySem PySem.W PyProof.Rows PySem.Spec PySem.Calls
namespace Mine
local macro_rules | `(tactic| k_room) => `(tactic| ktr_room)
local macro_rules | `(tactic| k_units) => `(tactic| ktr_units)
local macro_rules | `(tactic| k_all) => `(tactic| (refine up_neAll (by assumption) ?_; first | tbn_find | exact allLt_of (by assumption)))
local macro_rules | `(tactic| k_all) => `(tactic| (refine tbn_neAll ?_; first | tbn_find | exact allLt_of (by assumption)))
local macro_rules | `(tactic| ks_enter) => `(tactic| (refine' ks_code_super ?k1 ?k2 ?k3 ?k4 ?k5 ?kA ?kF ?kK ?k6 ?k7 ?k8 ?k9 ?kB ?_ ?c1 ?c2 ?c3 ?c4; (case kA => exact rfl); (case kF => exact rfl); (case kK => first | exact rfl | assumption); (case k1 => k_asm); (case k2 => k_asm); (case k3 => k_asm); (case k4 => k_asm); (case k5 => k_asm); (case k6 => k_is); (case k7 => k_is); (case k8 => k_room); (case k9 => exact binds_K (by k_in) rfl (by k_is) rfl rfl rfl); (case kB => exact locs rfl); (case c1 => decide); (case c2 => exact rfl); (case c3 => exact rfl); (case c4 => exact rfl); intro g' L' h' FG' F' N' B' X' T' l1; (try k_lt l1); (try dsimp only); (try k_lift B')))
local macro_rules | `(tactic| ks_enter) => `(tactic| (refine' superMore ?k1 ?k2 ?k3 ?k4 ?k5 ?kA ?kF ?kK ?k6 ?k7 ?k8 ?kX ?kM ?kN ?kR ?kP ?kT ?kB ?_ ?c2 ?c3 ?c4 ?c5; (case kA => exact rfl); (case kF => exact rfl); (case kK => first | exact rfl | assumption); (case k1 => k_asm); (case k2 => k_asm); (case k3 => k_asm); (case k4 => k_asm); (case k5 => k_asm); (case k6 => k_is); (case k7 => k_is); (case k8 => k_room); (case kX => kp_lit); (case kM => exact rfl); (case kN => exact rfl); (case kR => exact rfl); (case kP => exact rfl); (case kT => exact fun _ => rfl); (case kB => exact fun _ => locs rfl); (case c5 => decide); (case c2 => exact rfl); (case c3 => exact rfl); (case c4 => exact rfl); intro D' o' g' L' h' tk' l1 lo' hs' FG' F' N' B' X' T' l2; (try k_lt l1); (try k_lt2 l2); (try dsimp only); (try k_lift B')))
local macro_rules | `(tactic| ks_enter) => `(tactic| (refine' superBoth ?k1 ?k2 ?k3 ?k4 ?k5 ?kA ?kF ?kK ?k6 ?k7 ?k8 ?kV ?kX ?kQ ?kM ?kN ?kR ?kP ?kS ?kT ?kB ?_ ?c2 ?c3 ?c4 ?c5; (case kA => exact rfl); (case kF => exact rfl); (case kK => first | exact rfl | assumption); (case k1 => k_asm); (case k2 => k_asm); (case k3 => k_asm); (case k4 => k_asm); (case k5 => k_asm); (case k6 => k_is); (case k7 => k_is); (case k8 => k_room); (case kV => kp_lit); (case kX => kp_lit); (case kQ => exact rfl); (case kM => exact rfl); (case kN => exact rfl); (case kR => exact rfl); (case kP => exact rfl); (case kS => exact fun _ => rfl); (case kT => exact fun _ _ => rfl); (case kB => exact fun _ _ => locs rfl); (case c5 => decide); (case c2 => exact rfl); (case c3 => exact rfl); (case c4 => exact rfl); intro C' D' o' g' L' h' tk' l1 l2 lo' hs' FG' F' N' B' X' T' l3; (try k_lt l1); (try k_lt2 l2); (try k_lt2 l3); (try dsimp only); (try k_lift B')))
local macro_rules | `(tactic| walk_at "wpAt") => `(tactic| (ks_step "execs cons"; k_dflt (refine ks_wpAt_execs_cons ?_)))
local macro_rules | `(tactic| walk_at "wpAt") => `(tactic| (ks_step "exec Expr"; k_dflt (refine ks_wpAt_Expr_any ?_)))
local macro_rules | `(tactic| walk_at "wpAt") => `(tactic| (ks_step "eval Call"; k_dflt (refine ks_wpAt_MethodCall ?_)))
local macro_rules | `(tactic| k_mem) => `(tactic| first | assumption | exact List.mem_cons_self | exact List.Mem.head _ | (refine' List.mem_cons_of_mem _ ?_; k_mem))
local macro_rules | `(tactic| walk_at "call ref") => `(tactic| (k_here; k_dflt (refine call_stop ?_)))
theorem inf_bits : (Num.parseText? (Str.ofString "inf")).getD 0 = infBits := by decide +kernel
set_option hygiene false in
theorem mk_not {w : World} {p : Program} {loose : List Str} {mean : ExcName → Option Value} {mg mb : Str → Option Value} (m1 : Nat) (v1 : Value) :
    CallsN w p loose mean mg mb 14 120 468 [v1] [] (ExMade (.look true m1) (Str.ofString "") (some [v1])) := by
  intro led dp un gd cn cs a ccd cl outer A₀ base h₀ L m s Q E B F X N T hk hdp hun ret
  refine wpAny_call ?_
  k_dflt (refine' code_defG ?k1 ?k2 ?k3 ?k4 ?k5 ?kA ?kF ?kK ?k6 ?k7 ?k8 ?k9 ?kB ?_ ?c2 ?c3 ?c4 ?c5; (case kA => exact rfl); (case kF => exact rfl); (case kK => first | assumption | exact rfl); (case k1 => k_asm); (case k2 => k_asm); (case k3 => k_asm); (case k4 => k_asm); (case k5 => k_asm); (case k6 => k_is); (case k7 => k_is); (case k8 => ktr_room); (case k9 => first | exact BindsTo.of_eq rfl | exact binds_K (by k_in) rfl (by k_is) rfl rfl rfl); (case c5 => decide); (case kB => exact locs rfl); (case c2 => exact rfl); (case c3 => exact rfl); (case c4 => exact rfl); k_whole; intro g' L' h' FG' F' N' B' X' T' G'; (try dsimp only); (try k_fold))
  k_steps
  rename Fr _ _ _ _ => F2
  rename News _ _ _ _ => N2
  refine call_go ?_
  refine CallsN.use (by assumption) F2 (by assumption) N2 (by assumption) rfl (mk_lookn m1 v1) ?d1 ?u1 ?_
  case d1 => exact Nat.lt_of_le_of_lt (show dp + 1 + 10 ≤ dp + 14 by omega) hdp
  case u1 => exact Nat.lt_of_le_of_lt (show un + 3 + 80 ≤ un + 120 by omega) hun
  rintro r new h3 tk3 F3 N3 hlt hm
  obtain ⟨e, rfl, _⟩ := id hm
  clear F2 N2
  k_steps
  rename Fr h₀ L _ _ => F8
  rename News h₀ L _ _ => N8
  exact ret _ new _ _ F8 N8 hlt hm
set_option hygiene false in
theorem mk_oneOrMore {w : World} {p : Program} {loose : List Str} {mean : ExcName → Option Value} {mg mb : Str → Option Value} (m1 : Nat) (v1 : Value) :
    CallsN w p loose mean mg mb 14 120 516 [v1] [] (ExMade (.more m1) (Str.ofString "") (some [v1])) := by
  intro led dp un gd cn cs a ccd cl outer A₀ base h₀ L m s Q E B F X N T hk hdp hun ret
  refine wpAny_call ?_
  k_dflt (refine' code_defG ?k1 ?k2 ?k3 ?k4 ?k5 ?kA ?kF ?kK ?k6 ?k7 ?k8 ?k9 ?kB ?_ ?c2 ?c3 ?c4 ?c5; (case kA => exact rfl); (case kF => exact rfl); (case kK => first | assumption | exact rfl); (case k1 => k_asm); (case k2 => k_asm); (case k3 => k_asm); (case k4 => k_asm); (case k5 => k_asm); (case k6 => k_is); (case k7 => k_is); (case k8 => ktr_room); (case k9 => first | exact BindsTo.of_eq rfl | exact binds_K (by k_in) rfl (by k_is) rfl rfl rfl); (case c5 => decide); (case kB => exact locs rfl); (case c2 => exact rfl); (case c3 => exact rfl); (case c4 => exact rfl); k_whole; intro g' L' h' FG' F' N' B' X' T' G'; (try dsimp only); (try k_fold))
  k_steps
  rename Fr _ _ _ _ => F2
  rename News _ _ _ _ => N2
  refine call_go ?_
  rw [inf_bits]
  refine CallsN.use (by assumption) F2 (by assumption) N2 (by assumption) rfl (mk_more m1 v1 _ _ _) ?d1 ?u1 ?_
  case d1 => exact Nat.lt_of_le_of_lt (show dp + 1 + 10 ≤ dp + 14 by omega) hdp
  case u1 => exact Nat.lt_of_le_of_lt (show un + 3 + 80 ≤ un + 120 by omega) hun
  rintro r new h3 tk3 F3 N3 hlt hm
  obtain ⟨e, rfl, _⟩ := id hm
  clear F2 N2
  k_steps
  rename Fr h₀ L _ _ => F8
  rename News h₀ L _ _ => N8
  exact ret _ new _ _ F8 N8 hlt hm
set_option hygiene false in
theorem mk_optional {w : World} {p : Program} {loose : List Str} {mean : ExcName → Option Value} {mg mb : Str → Option Value} (m1 : Nat) (v1 : Value) :
    CallsN w p loose mean mg mb 14 120 524 [v1] [] (ExMade (.opt m1) (Str.ofString "") (some [v1])) := by
  intro led dp un gd cn cs a ccd cl outer A₀ base h₀ L m s Q E B F X N T hk hdp hun ret
  refine wpAny_call ?_
  k_dflt (refine' code_defG ?k1 ?k2 ?k3 ?k4 ?k5 ?kA ?kF ?kK ?k6 ?k7 ?k8 ?k9 ?kB ?_ ?c2 ?c3 ?c4 ?c5; (case kA => exact rfl); (case kF => exact rfl); (case kK => first | assumption | exact rfl); (case k1 => k_asm); (case k2 => k_asm); (case k3 => k_asm); (case k4 => k_asm); (case k5 => k_asm); (case k6 => k_is); (case k7 => k_is); (case k8 => ktr_room); (case k9 => first | exact BindsTo.of_eq rfl | exact binds_K (by k_in) rfl (by k_is) rfl rfl rfl); (case c5 => decide); (case kB => exact locs rfl); (case c2 => exact rfl); (case c3 => exact rfl); (case c4 => exact rfl); k_whole; intro g' L' h' FG' F' N' B' X' T' G'; (try dsimp only); (try k_fold))
  k_steps
  rename Fr _ _ _ _ => F2
  rename News _ _ _ _ => N2
  refine call_go ?_
  refine CallsN.use (by assumption) F2 (by assumption) N2 (by assumption) rfl (mk_opt m1 v1 _ _ _) ?d1 ?u1 ?_
  case d1 => exact Nat.lt_of_le_of_lt (show dp + 1 + 10 ≤ dp + 14 by omega) hdp
  case u1 => exact Nat.lt_of_le_of_lt (show un + 3 + 80 ≤ un + 120 by omega) hun
  rintro r new h3 tk3 F3 N3 hlt hm
  obtain ⟨e, rfl, _⟩ := id hm
  clear F2 N2
  k_steps
  rename Fr h₀ L _ _ => F8
  rename News h₀ L _ _ => N8
  exact ret _ new _ _ F8 N8 hlt hm
end Mine
end
section
local macro_rules | `(tactic| walk_at "dummy0") => `(tactic| skip)
example : True := by
  w_top off
  trivial
open PySem PySem.W PyProof.Rows PySem.Spec PySem.Calls
namespace Mine
local macro_rules | `(tactic| k_room) => `(tactic| ktr_room)
local macro_rules | `(tactic| k_units) => `(tactic| ktr_units)
local macro_rules | `(tactic| k_all) => `(tactic| (refine up_neAll (by assumption) ?_; first | tbn_find | exact allLt_of (by assumption)))
local macro_rules | `(tactic| k_all) => `(tactic| (refine tbn_neAll ?_; first | tbn_find | exact allLt_of (by assumption)))
local macro_rules | `(tactic| ks_enter) => `(tactic| (refine' ks_code_super ?k1 ?k2 ?k3 ?k4 ?k5 ?kA ?kF ?kK ?k6 ?k7 ?k8 ?k9 ?kB ?_ ?c1 ?c2 ?c3 ?c4; (case kA => exact rfl); (case kF => exact rfl); (case kK => first | exact rfl | assumption); (case k1 => k_asm); (case k2 => k_asm); (case k3 => k_asm); (case k4 => k_asm); (case k5 => k_asm); (case k6 => k_is); (case k7 => k_is); (case k8 => k_room); (case k9 => exact binds_K (by k_in) rfl (by k_is) rfl rfl rfl); (case kB => exact locs rfl); (case c1 => decide); (case c2 => exact rfl); (case c3 => exact rfl); (case c4 => exact rfl); intro g' L' h' FG' F' N' B' X' T' l1; (try k_lt l1); (try dsimp only); (try k_lift B')))
local macro_rules | `(tactic| ks_enter) => `(tactic| (refine' superMore ?k1 ?k2 ?k3 ?k4 ?k5 ?kA ?kF ?kK ?k6 ?k7 ?k8 ?kX ?kM ?kN ?kR ?kP ?kT ?kB ?_ ?c2 ?c3 ?c4 ?c5; (case kA => exact rfl); (case kF => exact rfl); (case kK => first | exact rfl | assumption); (case k1 => k_asm); (case k2 => k_asm); (case k3 => k_asm); (case k4 => k_asm); (case k5 => k_asm); (case k6 => k_is); (case k7 => k_is); (case k8 => k_room); (case kX => kp_lit); (case kM => exact rfl); (case kN => exact rfl); (case kR => exact rfl); (case kP => exact rfl); (case kT => exact fun _ => rfl); (case kB => exact fun _ => locs rfl); (case c5 => decide); (case c2 => exact rfl); (case c3 => exact rfl); (case c4 => exact rfl); intro D' o' g' L' h' tk' l1 lo' hs' FG' F' N' B' X' T' l2; (try k_lt l1); (try k_lt2 l2); (try dsimp only); (try k_lift B')))
local macro_rules | `(tactic| ks_enter) => `(tactic| (refine' superBoth ?k1 ?k2 ?k3 ?k4 ?k5 ?kA ?kF ?kK ?k6 ?k7 ?k8 ?kV ?kX ?kQ ?kM ?kN ?kR ?kP ?kS ?kT ?kB ?_ ?c2 ?c3 ?c4 ?c5; (case kA => exact rfl); (case kF => exact rfl); (case kK => first | exact rfl | assumption); (case k1 => k_asm); (case k2 => k_asm); (case k3 => k_asm); (case k4 => k_asm); (case k5 => k_asm); (case k6 => k_is); (case k7 => k_is); (case k8 => k_room); (case kV => kp_lit); (case kX => kp_lit); (case kQ => exact rfl); (case kM => exact rfl); (case kN => exact rfl); (case kR => exact rfl); (case kP => exact rfl); (case kS => exact fun _ => rfl); (case kT => exact fun _ _ => rfl); (case kB => exact fun _ _ => locs rfl); (case c5 => decide); (case c2 => exact rfl); (case c3 => exact rfl); (case c4 => exact rfl); intro C' D' o' g' L' h' tk' l1 l2 lo' hs' FG' F' N' B' X' T' l3; (try k_lt l1); (try k_lt2 l2); (try k_lt2 l3); (try dsimp only); (try k_lift B')))
local macro_rules | `(tactic| walk_at "wpAt") => `(tactic| (ks_step "execs cons"; k_dflt (refine ks_wpAt_execs_cons ?_)))
local macro_rules | `(tactic| walk_at "wpAt") => `(tactic| (ks_step "exec Expr"; k_dflt (refine ks_wpAt_Expr_any ?_)))
local macro_rules | `(tactic| walk_at "wpAt") => `(tactic| (ks_step "eval Call"; k_dflt (refine ks_wpAt_MethodCall ?_)))
local macro_rules | `(tactic| k_mem) => `(tactic| first | assumption | exact List.mem_cons_self | exact List.Mem.head _ | (refine' List.mem_cons_of_mem _ ?_; k_mem))
local macro_rules | `(tactic| walk_at "call ref") => `(tactic| (k_here; k_dflt (refine call_stop ?_)))
theorem name_headC {h₀ h : Heap} {L a : Addr} {o : Obj} {led : List (Addr × Obj)} (_N : News h₀ L h ((a, o) :: led)) {P : Prop} (k : ∀ a', a' = a → P) : P := k a rfl
theorem News.tail {h₀ h : Heap} {L : Addr} {z : Addr × Obj} {led : List (Addr × Obj)} (N : News h₀ L h (z :: led)) : News h₀ L h led := News.sub N fun p hp => .tail _ hp
/-- a ring of two signs -/
structure PairsMade (c1 c2 nm : Str) (i0 i1 i2 i3 : Nat) (e0 e1 e2 e3 : Ex) (new : List (Addr × Obj)) : Prop where
  k0 : e0.k = .lit c1 ∧ e0.nm = Str.ofString ""
  k1 : e1.k = .seq [i0, i2, i3] ∧ e1.nm = nm
  k2 : e2.k = .opt i1 ∧ e2.nm = Str.ofString ""
  k3 : e3.k = .lit c2 ∧ e3.nm = Str.ofString ""
  ok : ∀ e ∈ [e0, e1, e2, e3], e.instOk ∧ (e.a, e.o) ∈ new ∧ (e.d, dictOf [] 0) ∈ new
  t1 : (e1.t, tupObj [.ref e0.a, .ref e2.a, .ref e3.a]) ∈ new
  t2 : (e2.t, tupObj [.ref e1.a]) ∈ new
  ds : [e0.d, e1.d, e2.d, e3.d].Nodup
theorem cls_members (w : World) : ∃ d, takerIn (Mine.hd.heap_39 w.params) 394 (Str.ofString "members") = some (some (.ref d)) ∧ typeIn (Mine.hd.heap_39 w.params) (.ref d) = some (.type "member_descriptor") ∧ slotIn (Mine.hd.heap_39 w.params) d 394 = some 0 := ⟨_, by k_is, by k_is, by k_is⟩
set_option hygiene false in
theorem law_pairs {w : World} {p : Program} {loose : List Str} {mean : ExcName → Option Value} {mg mb : Str → Option Value} (c1 c2 nm : Str) (tk1 tk2 tk3 : Tok) (i0 i1 i2 i3 : Nat) :
    CallsN w p loose mean mg mb 20 200 538 [.str c1 tk1, .str c2 tk2, .str nm tk3] [] (fun r new => ∃ e0 e1 e2 e3, r = .ref e1.a ∧ PairsMade c1 c2 nm i0 i1 i2 i3 e0 e1 e2 e3 new) := by
  intro led dp un gd cn cs a ccd cl outer A₀ base h₀ L m s Q E B F X N T hk hdp hun ret
  refine wpAny_call ?_
  k_dflt (refine' code_defG ?k1 ?k2 ?k3 ?k4 ?k5 ?kA ?kF ?kK ?k6 ?k7 ?k8 ?k9 ?kB ?_ ?c2 ?c3 ?c4 ?c5; (case kA => exact rfl); (case kF => exact rfl); (case kK => first | assumption | exact rfl); (case k1 => k_asm); (case k2 => k_asm); (case k3 => k_asm); (case k4 => k_asm); (case k5 => k_asm); (case k6 => k_is); (case k7 => k_is); (case k8 => ktr_room); (case k9 => first | exact BindsTo.of_eq rfl | exact binds_K (by k_in) rfl (by k_is) rfl rfl rfl); (case c5 => decide); (case kB => exact locs rfl); (case c2 => exact rfl); (case c3 => exact rfl); (case c4 => exact rfl); k_whole; intro g' L' h' FG' F' N' B' X' T' G'; (try dsimp only); (try k_fold))
  k_steps
  rename Fr _ _ _ _ => F2
  rename News _ _ _ _ => N2
  refine call_go ?_
  refine CallsN.use (by assumption) F2 (by assumption) N2 (by assumption) rfl (mk_lit c1 _) ?d1 ?u1 ?_
  case d1 => exact Nat.lt_of_le_of_lt (show dp + 1 + 8 ≤ dp + 20 by omega) hdp
  case u1 => exact Nat.lt_of_le_of_lt (show un + 3 + 60 ≤ un + 200 by omega) hun
  rintro r new0 h3 tk3' F3 N3 hlt0 ⟨e0, rfl, hk0, hn0, ho0, ha0, hd0, _⟩
  clear F2 N2
  refine gen_led N3 fun led1 hl1 N3' => ?_
  clear N3
  k_steps
  rename Fr _ _ _ _ => F2
  rename News _ _ _ _ => N2
  refine call_go ?_
  refine CallsN.use (by assumption) F2 (by assumption) N2 (by assumption) rfl (mk_seqn [i0, i2, i3] (.ref e0.a) nm tk3) ?d2 ?u2 ?_
  case d2 => exact Nat.lt_of_le_of_lt (show dp + 1 + 8 ≤ dp + 20 by omega) hdp
  case u2 => exact Nat.lt_of_le_of_lt (show un + 3 + 60 ≤ un + 200 by omega) hun
  rintro r new1 h4 tk4 F4 N4 hlt1 ⟨e1, rfl, hk1, hn1, ho1, ha1, hd1, ht1⟩
  clear F2 N2
  have ht1 := ht1 _ rfl
  obtain ⟨it1, tt1, he1⟩ : ∃ it t2, e1.o = cmpObj 394 e1.d e1.t e1.nm it t2 := by have := ho1; unfold Ex.instOk at this; rw [hk1] at this; exact this
  rw [he1] at ha1
  refine gen_led N4 fun led2 hl2 N4' => ?_
  clear N4
  have hea1 : (e1.a, cmpObj 394 e1.d e1.t e1.nm it1 tt1) ∈ led2 := by rw [hl2]; exact List.mem_append_left _ ha1
  have hxa1 : (e1.d, dictOf [] 0) ∈ led2 := by rw [hl2]; exact List.mem_append_left _ hd1
  k_steps
  rename Fr _ _ _ _ => F2
  rename News _ _ _ _ => N2
  refine call_go ?_
  refine CallsN.use (by assumption) F2 (by assumption) N2 (by assumption) rfl (mk_optional i1 (.ref e1.a)) ?d3 ?u3 ?_
  case d3 => exact Nat.lt_of_le_of_lt (show dp + 1 + 14 ≤ dp + 20 by omega) hdp
  case u3 => exact Nat.lt_of_le_of_lt (show un + 3 + 120 ≤ un + 200 by omega) hun
  rintro r new2 h5 tk5 F5 N5 hlt2 ⟨e2, rfl, hk2, hn2, ho2, ha2, hd2, ht2⟩
  have ht2 := ht2 _ rfl
  clear F2 N2
  refine gen_led N5 fun led3 hl3 N5' => ?_
  clear N5
  k_steps
  rename Fr _ _ _ _ => F2
  rename News _ _ _ _ => N2
  refine call_go ?_
  refine CallsN.use (by assumption) F2 (by assumption) N2 (by assumption) rfl (mk_lit c2 _) ?d4 ?u4 ?_
  case d4 => exact Nat.lt_of_le_of_lt (show dp + 1 + 8 ≤ dp + 20 by omega) hdp
  case u4 => exact Nat.lt_of_le_of_lt (show un + 3 + 60 ≤ un + 200 by omega) hun
  rintro r new3 h6 tk6 F6 N6 hlt3 ⟨e3, rfl, hk3, hn3, ho3, ha3, hd3, _⟩
  clear F2 N2
  refine gen_led N6 fun led4 hl4 N6' => ?_
  clear N6
  have hta1 : (e1.t, tupObj [.ref e0.a]) ∈ led4 := by rw [hl4, hl3, hl2]; exact List.mem_append_right _ (List.mem_append_right _ (List.mem_append_left _ ht1))
  k_steps
  rename Fr _ _ _ _ => F7
  rename News _ _ _ _ => N7
  rename (∀ p, p ∈ led4 → _ < _) => hT1
  refine add_tuples (vs := [.ref e0.a]) (ws := [.ref e2.a, .ref e3.a]) F7 N7 ⟨_, (N7 _ (.tail _ hta1)).1, rfl, _, rfl⟩ ⟨_, (N7 _ (.head _)).1, rfl, _, rfl⟩ (fun h => nomatch h) (fun _ h => nomatch h) (fun _ _ h8 F8 N8 => ?_) (by exact (by decide : 3 ≤ sizeLine))
  have hT2 : ∀ p ∈ _ :: led4, @LT.lt Nat _ p.1 _ := fun p hp => Heap.lt_size (N7 p hp).1
  clear N7 F7
  refine name_headC N8 fun T2 hT2e => ?_
  rw [← hT2e] at hT2 N8 ⊢
  clear hT2e
  refine name_headC (News.tail N8) fun T1 hT1e => ?_
  rw [← hT1e] at hT1 N8 hT2
  clear hT1e
  k_steps
  rename Fr _ _ _ _ => F9
  rename News _ _ _ _ => N9
  have X9 : (Mine.hd.heap_39 w.params).In g' := by assumption
  have m2 : ∀ p ∈ led2, p ∈ led4 := fun p hp => by rw [hl4, hl3]; exact List.mem_append_right _ (List.mem_append_right _ hp)
  have m1 : ∀ p ∈ led1, p ∈ led2 := fun p hp => by rw [hl2]; exact List.mem_append_right _ hp
  have m3 : ∀ p ∈ led3, p ∈ led4 := fun p hp => by rw [hl4]; exact List.mem_append_right _ hp
  have hea4 := m2 _ hea1
  have hxa4 := m2 _ hxa1
  have N10 : News g' L' _ ((e1.a, cmpObj 394 e1.d e1.t e1.nm it1 tt1) :: ((T2, tupObj [.ref e0.a, .ref e2.a, .ref e3.a]) :: (T1, tupObj [.ref e2.a, .ref e3.a]) :: led4).filter (fun q => q.1 != e1.a)) := News.sub N9 fun p hp => by
    rcases List.mem_cons.mp hp with rfl | hp
    · exact .tail _ (.tail _ hea4)
    · exact (List.mem_filter.mp hp).1
  have hne : ∀ q ∈ (T2, tupObj [.ref e0.a, .ref e2.a, .ref e3.a]) :: (T1, tupObj [.ref e2.a, .ref e3.a]) :: led4, q.2.cls ≠ .ref 394 → q.1 ≠ e1.a := fun q hq hc => News.ne N9 hq (.tail _ (.tail _ hea4)) hc
  have II : InstAt _ e1.a _ 394 (some (dictOf [] 0)) := ⟨(N10 _ (.head _)).1, rfl, rfl, (N9 _ (.tail _ (.tail _ hxa4))).1⟩
  obtain ⟨dm, q1, q2, q3⟩ := cls_members w
  refine set_slot F9 X9 N10 II (cls_seq w).sa (cls_seq w).over q1 q2 q3 (by decide) (ox' := cmpObj 394 e1.d T2 e1.nm it1 tt1) (by k_slotset) rfl (.head fun p hp => bne_iff_ne.mp (List.mem_filter.mp hp).2) fun h11 F11 N11 => ?_
  clear N10 N9 F9
  k_steps
  rename Fr h₀ L _ _ => F12
  rename News h₀ L _ _ => N12
  have hb : ∀ p ∈ new3 ++ (new2 ++ (new1 ++ new0)), p ∈ led4 := fun p hp => by
    rw [hl4, hl3, hl2, hl1]
    simp only [List.mem_append] at hp ⊢
    rcases hp with h | h | h | h <;> simp [h]
  have hled : ∀ p ∈ led, p ∈ led1 := fun p hp => by rw [hl1]; exact List.mem_append_right _ hp
  have hgt0 : ∀ q ∈ new3 ++ (new2 ++ (new1 ++ new0)), ∀ p ∈ led, @LT.lt Nat _ p.1 q.1 := fun q hq p hp => by
    rcases List.mem_append.mp hq with hq | hq
    · exact hlt3 q hq p (by rw [hl3]; exact List.mem_append_right _ (m1 _ (hled p hp)))
    rcases List.mem_append.mp hq with hq | hq
    · exact hlt2 q hq p (m1 _ (hled p hp))
    rcases List.mem_append.mp hq with hq | hq
    · exact hlt1 q hq p (hled p hp)
    · exact hlt0 q hq p hp
  have hl4' : ∀ p ∈ led, p ∈ led4 := fun p hp => m2 _ (m1 _ (hled p hp))
  have ho' : ∀ q ∈ new3 ++ (new2 ++ (new1 ++ new0)), q.2.cls ≠ .ref 394 → q ∈ (e1.a, cmpObj 394 e1.d T2 e1.nm it1 tt1) :: ((T2, tupObj [.ref e0.a, .ref e2.a, .ref e3.a]) :: (T1, tupObj [.ref e2.a, .ref e3.a]) :: (new3 ++ (new2 ++ (new1 ++ new0)))).filter (fun q => q.1 != e1.a) := fun q hq hc =>
    .tail _ (List.mem_filter.mpr ⟨.tail _ (.tail _ hq), bne_iff_ne.mpr (hne q (.tail _ (.tail _ (hb q hq))) hc)⟩)
  have i0m : ∀ q ∈ new0, q ∈ new3 ++ (new2 ++ (new1 ++ new0)) := fun q h => by simp [h]
  have i1m : ∀ q ∈ new1, q ∈ new3 ++ (new2 ++ (new1 ++ new0)) := fun q h => by simp [h]
  have i2m : ∀ q ∈ new2, q ∈ new3 ++ (new2 ++ (new1 ++ new0)) := fun q h => by simp [h]
  have i3m : ∀ q ∈ new3, q ∈ new3 ++ (new2 ++ (new1 ++ new0)) := fun q h => by simp [h]
  have c0 : e0.o.cls ≠ .ref 394 := by rw [ex_cls ho0, hk0]; simp [clsOf]
  have c2' : e2.o.cls ≠ .ref 394 := by rw [ex_cls ho2, hk2]; simp [clsOf]
  have c3 : e3.o.cls ≠ .ref 394 := by rw [ex_cls ho3, hk3]; simp [clsOf]
  have d01 : @LT.lt Nat _ e0.d e1.d := hlt1 _ hd1 (e0.d, dictOf [] 0) (by rw [hl1]; exact List.mem_append_left _ hd0)
  have d12 : @LT.lt Nat _ e1.d e2.d := hlt2 _ hd2 (e1.d, dictOf [] 0) (by rw [hl2]; exact List.mem_append_left _ hd1)
  have d23 : @LT.lt Nat _ e2.d e3.d := hlt3 _ hd3 (e2.d, dictOf [] 0) (by rw [hl3]; exact List.mem_append_left _ hd2)
  refine ret (.ref e1.a) ((e1.a, cmpObj 394 e1.d T2 e1.nm it1 tt1) :: ((T2, tupObj [.ref e0.a, .ref e2.a, .ref e3.a]) :: (T1, tupObj [.ref e2.a, .ref e3.a]) :: (new3 ++ (new2 ++ (new1 ++ new0)))).filter (fun q => q.1 != e1.a)) _ _ F12 (News.sub N12 fun p hp => ?_) (fun q hq p hp => ?_)
    ⟨e0, ⟨e1.a, e1.d, T2, e1.nm, .seq [i0, i2, i3], cmpObj 394 e1.d T2 e1.nm it1 tt1⟩, e2, e3, rfl, ⟨hk0, hn0⟩, ⟨rfl, hn1⟩, ⟨hk2, hn2⟩, ⟨hk3, hn3⟩, ?_, ?_, ?_, ?_⟩
  · rcases List.mem_append.mp hp with hp | hp
    · rcases List.mem_cons.mp hp with rfl | hp
      · exact .head _
      obtain ⟨hp, hp2⟩ := List.mem_filter.mp hp
      refine .tail _ (List.mem_filter.mpr ⟨?_, hp2⟩)
      rcases List.mem_cons.mp hp with rfl | hp
      · exact .head _
      rcases List.mem_cons.mp hp with rfl | hp
      · exact .tail _ (.head _)
      · exact .tail _ (.tail _ (hb p hp))
    · exact .tail _ (List.mem_filter.mpr ⟨.tail _ (.tail _ (hl4' p hp)), bne_iff_ne.mpr (Nat.ne_of_lt (hlt1 _ ha1 p (hled p hp)))⟩)
  · rcases List.mem_cons.mp hq with rfl | hq
    · exact hlt1 _ ha1 p (hled p hp)
    obtain ⟨hq, _⟩ := List.mem_filter.mp hq
    rcases List.mem_cons.mp hq with rfl | hq
    · exact hT2 p (.tail _ (hl4' p hp))
    rcases List.mem_cons.mp hq with rfl | hq
    · exact hT1 p (hl4' p hp)
    · exact hgt0 q hq p hp
  · intro e he
    simp only [List.mem_cons, List.not_mem_nil, or_false] at he
    rcases he with rfl | rfl | rfl | rfl
    · exact ⟨ho0, ho' _ (i0m _ ha0) c0, ho' _ (i0m _ hd0) (by simp)⟩
    · exact ⟨⟨_, _, rfl⟩, .head _, ho' _ (i1m _ hd1) (by simp)⟩
    · exact ⟨ho2, ho' _ (i2m _ ha2) c2', ho' _ (i2m _ hd2) (by simp)⟩
    · exact ⟨ho3, ho' _ (i3m _ ha3) c3, ho' _ (i3m _ hd3) (by simp)⟩
  · exact .tail _ (List.mem_filter.mpr ⟨.head _, bne_iff_ne.mpr (hne _ (.head _) (by simp))⟩)
  · exact ho' _ (i2m _ ht2) (by simp)
  · simp only [List.nodup_cons, List.mem_cons, List.not_mem_nil, or_false, not_or, List.nodup_nil, and_true, not_false_iff]
    refine ⟨⟨?_, ?_, ?_⟩, ⟨?_, ?_⟩, ?_⟩
    · exact Nat.ne_of_lt d01
    · exact Nat.ne_of_lt (Nat.lt_trans d01 d12)
    · exact Nat.ne_of_lt (Nat.lt_trans d01 (Nat.lt_trans d12 d23))
    · exact Nat.ne_of_lt d12
    · exact Nat.ne_of_lt (Nat.lt_trans d12 d23)
    · exact Nat.ne_of_lt d23
end Mine
end
section
open PySem PySem.W PyProof.Rows PySem.Spec PySem.Calls PyProof.V
namespace Mine
/-- an exception of class C goes up through the frames l; what lies in news is untouched -/
def RaisedM (base G : Heap) (l : List Env) (e C : Addr) (a0 : Value) (news : List (Addr × Obj)) (h : Heap) : Prop :=
  ∃ B, base.StaysIn B ∧ (∀ b o, G.get? b = some o → b ∉ l.filterMap (·.frame) → B.get? b = some o) ∧ (∀ q ∈ news, B.get? q.1 = some q.2 ∧ G.get? q.1 = none ∧ base.get? q.1 = none) ∧ Heap.FlyingW B l e (.ref C) a0 h

section
variable {M : Model} {A : Around} {E : Value → Shared → Prop} {s' : Shared} {base g g₂ h : Heap} {outer : List Env} {L a e t C d : Addr} {m : Str → Option Value} {name : Str} {scope : Scope} {cd : Value} {Q : Unit → Shared → Prop} {news : List (Addr × Obj)} {a0 : Value}
theorem leave_firstM (K : Below A base outer g) (F : Fr g L s'.heap m) (N : News g L s'.heap ((e, errObj C d t) :: news)) (hne : ∀ q ∈ news, q.1 ≠ e)
    (hQ : ∀ h', RaisedM base g outer e C (.ref t) news h' → g.UpToSlots h' → Q () { s' with heap := h' }) (hk : scope.kind = .function := by rfl) :
    wpAny M (A.deeper (envOf name scope L a cd)) (leaving (envOf name scope L a cd) (.ref e)) Q E s' := by
  have K' := K.push (name := name) (a := a) (cd := cd) F hk
  obtain ⟨he, heL, heg⟩ := N _ (.head _)
  have hin : ∀ env ∈ (envOf name scope L a cd :: outer), ∀ b, env.frame = some b → b ∈ e :: (envOf name scope L a cd :: outer).filterMap (·.frame) := fun env hv b hb => .tail _ (List.mem_filterMap.mpr ⟨env, hv, hb⟩)
  have heb : base.get? e = none := fresh_of_stays K.stays heg
  have st : base.StaysIn (hideAll s'.heap (e :: (envOf name scope L a cd :: outer).filterMap (·.frame))) := fun b o q => hideAll_get _ (K'.stays b o q) fun hm => by
    rcases List.mem_cons.mp hm with rfl | hm
    · rw [heb] at q; cases q
    · rw [(K'.frames.mem hm).1] at q; cases q
  have sg : ∀ b o, g.get? b = some o → b ∉ outer.filterMap (·.frame) → (hideAll s'.heap (e :: (envOf name scope L a cd :: outer).filterMap (·.frame))).get? b = some o := fun b o q nm => hideAll_get _ (F.keep b o q) fun hm => by
    rcases List.mem_cons.mp hm with rfl | hm
    · rw [heg] at q; cases q
    rcases kts_mem hm with z | z
    · rw [z, kts_self F] at q
      cases q
    · exact nm z
  have hl : ∀ q ∈ news, (hideAll s'.heap (e :: (envOf name scope L a cd :: outer).filterMap (·.frame))).get? q.1 = some q.2 ∧ g.get? q.1 = none ∧ base.get? q.1 = none := fun q hq => by
    have Nq := N q (.tail _ hq)
    refine ⟨hideAll_get _ Nq.1 fun hm => ?_, Nq.2.2, fresh_of_stays K.stays Nq.2.2⟩
    rcases List.mem_cons.mp hm with q1 | hm
    · exact hne q hq q1
    obtain ⟨env, hv, hf⟩ := List.mem_filterMap.mp hm
    rcases List.mem_cons.mp hv with rfl | hv
    · exact Nq.2.1 (Option.some.inj hf).symm
    · obtain ⟨o, ho, _⟩ := (K.frames.mem (List.mem_filterMap.mpr ⟨env, hv, hf⟩)).2
      rw [Nq.2.2] at ho; cases ho
  refine wpAny_leaving_firstW (base := hideAll s'.heap (e :: (envOf name scope L a cd :: outer).filterMap (·.frame))) (a0 := .ref t) K'.stack (funFrames_hide K'.frames hin) rfl he (fun b o q => of_hideAll _ q) (hideAll_none _ (.head _)) rfl rfl rfl fun h' hL => ?_
  obtain ⟨k1, ⟨_, _, k2⟩, k3, k4⟩ := hL
  exact hQ h' ⟨_, st, sg, hl, k1, hideAll_none _ (.head _), k2, k3⟩ ((Heap.UpToSlots.of_keeps F.keep).trans k4)

theorem leave_onM (K : Below A base outer g) (F : Fr g L g₂ m) (R : RaisedM base g₂ (envOf name scope L a cd :: outer) e C a0 news s'.heap) (hsm : g₂.UpToSlots s'.heap)
    (hQ : ∀ h', RaisedM base g outer e C a0 news h' → g.UpToSlots h' → Q () { s' with heap := h' }) :
    wpAny M (A.deeper (envOf name scope L a cd)) (leaving (envOf name scope L a cd) (.ref e)) Q E s' := by
  obtain ⟨B, hB, hBG, hl, hfl⟩ := R
  exact wpAny_leaves_onW (Around.frames_deeper K.stack) rfl hfl fun h' x1 x2 =>
    hQ h' ⟨B, hB, fun b o q nm => hBG b o (F.keep b o q) (fun hm => by
      rcases kts_mem hm with z | z
      · rw [z, kts_self F] at q
        cases q
      · exact nm z), fun q hq => ⟨(hl q hq).1, kts_none F.keep (hl q hq).2.1, (hl q hq).2.2⟩, x1⟩ ((Heap.UpToSlots.of_keeps F.keep).trans (hsm.trans x2))
end
section
variable {M : Model} {A : Around} {E : Value → Shared → Prop} {h : Heap} {g : Array GenState} {d : Drawn} {t : Nat} {os : OsState}
variable {nm q : Str} {C N : Addr} {bs bm : List Value} {hdct : Bool} {sn : List Str} {sub : List Value} {ab : Bool} {col : Option Bool} {dd : Option Addr} {k0 k1 k2 k3 k5 : Option Value} {newId : String}
variable {nm' q' : Str} {D N' : Addr} {bs' bm' : List Value} {hdct' : Bool} {sn' : List Str} {sub' : List Value} {ab' : Bool} {col' : Option Bool} {dd' : Option Addr} {k0' k1' k2' k3' k5' : Option Value} {newId' : String}
theorem matches_above {e : Addr} {oe : Obj} {Q : Bool → Shared → Prop} (hC : h.get? C = some (excClassObj nm q C N bs bm hdct sn sub ab col dd k0 k1 k2 k3 k5 newId)) (hD : h.get? D = some (excClassObj nm' q' D N' bs' bm' hdct' sn' sub' ab' col' dd' k0' k1' k2' k3' k5' newId'))
    (he : h.get? e = some oe) (hcls : oe.cls = .ref C) (hbase : bm'.contains (.type "BaseException") = true) (hup : (Value.ref C :: bm).contains (.ref D) = true)
    (hq : Q true ⟨h, g, d, t, os⟩) : wpAny M A (excMatches (.ref e) (.ref D)) Q E ⟨h, g, d, t, os⟩ := by
  have hcB : (Value.ref D :: bm').contains (.type "BaseException") = true := by rw [List.contains_cons, hbase, Bool.or_true]
  have f := tc_notTuple
  unfold excMatches
  repeat (first | (with_reducible refine wpAny_loadPart_at he ?_; rw [hcls]) | with_reducible refine wpAny_loadPart_at hD ?_ | (with_reducible refine wpAny_isSubtype_exc hD ?_; rw [hcB]) | (with_reducible refine wpAny_isSubtype_exc hC ?_; rw [hup]) | wp_step)
  exact hq
end
section
variable {prog : Program} {w : World} {A₀ : Around} {E : Value → Shared → Prop} {s' : Shared} {base g g₀ G : Heap} {outer : List Env} {L a e C D : Addr} {m : Str → Option Value} {name : Str} {scope : Scope} {cd : Value} {a0 : Value}
  {b₀ : Stmt} {suite : List Stmt} {pos np : Pos} {rest : List ExceptHandler} {Q : Flow → Shared → Prop} {news : List (Addr × Obj)} {KF : Frag}
  {p : Program} {loose : List Str} {mean : ExcName → Option Value} {mg mb : Str → Option Value} {x : Str}
variable {nm q : Str} {N : Addr} {bs bm : List Value} {hdct : Bool} {sn : List Str} {sub : List Value} {ab : Bool} {col : Option Bool} {dd : Option Addr} {k0 k1 k2 k3 k5 : Option Value} {newId : String}
variable {nm' q' : Str} {N' : Addr} {bs' bm' : List Value} {hdct' : Bool} {sn' : List Str} {sub' : List Value} {ab' : Bool} {col' : Option Bool} {dd' : Option Addr} {k0' k1' k2' k3' k5' : Option Value} {newId' : String}
/-- the exception caught by a clause that names a class above its own -/
theorem caught_M (R : RaisedM base G (envOf name scope L a cd :: outer) e C a0 news s'.heap) (F : Fr g L G m) (K : Below A₀ base outer g) (hsm : G.UpToSlots s'.heap) (XB : KF.In base) (TB : Top p loose mean mg mb base)
    (DD : KtsDicts (outer.filterMap (·.frame)) g) (T0 : KtsTurn (outer.filterMap (·.frame)) g₀ g)
    (ex : nsIn KF mainGlobals x = some (some (.ref D))) (hCK : KF.lookup C = some (excClassObj nm q C N bs bm hdct sn sub ab col dd k0 k1 k2 k3 k5 newId)) (hDK : KF.lookup D = some (excClassObj nm' q' D N' bs' bm' hdct' sn' sub' ab' col' dd' k0' k1' k2' k3' k5' newId'))
    (hbase : bm'.contains (.type "BaseException") = true) (hup : (Value.ref C :: bm).contains (.ref D) = true)
    (k : ∀ h' g' oe vs, KtsTurn (outer.filterMap (·.frame)) g₀ g' → Fr g' L h' m → News g' L h' ((e, oe) :: news) → oe.cls = .ref C → oe.data = .fields vs → Below A₀ base outer g' → KF.In g' → Top p loose mean mg mb g' → KtsDicts (outer.filterMap (·.frame)) g' →
      wpAny (model prog w) ((A₀.deeper (envOf name scope L a cd)).mark (some (.ref e))) (execs (b₀ :: suite) (envOf name scope L a cd)) Q E { s' with heap := h' })
    (hk : scope.kind = .function := by rfl) (hx : (envOf name scope L a cd).kindOf x = some .globalImplicit := by rfl) (hd : (x == ("__debug__" : Str)) = false := by decide)
    (hE : PassesOwnAt (model prog w) ((A₀.deeper (envOf name scope L a cd)).mark (some (.ref e))) (A₀.deeper (envOf name scope L a cd)) (envOf name scope L a cd) E := by passes_own) :
    wpAny (model prog w) (A₀.deeper (envOf name scope L a cd)) (noteFrame (.ref e) (envOf name scope L a cd))
      (fun _ s₂ => wpAny (model prog w) (A₀.deeper (envOf name scope L a cd)) (setFlight (.ref e) none) (fun _ s₃ =>
        wpAny (model prog w) (A₀.deeper (envOf name scope L a cd)) (handleBy (.ref e) (envOf name scope L a cd) (.ExceptHandler (some (.Name x np)) none (b₀ :: suite) pos :: rest)) Q E s₃) E s₂) E s' := by
  obtain ⟨B, hB, hBG, hl, hfl⟩ := R
  have hL : B.get? L = none := by
    obtain ⟨_, ⟨L', _, hf, hn', _⟩, _⟩ := hfl.2.2.1
    obtain rfl : L = L' := Option.some.inj hf
    exact hn'
  refine wpAny_looks_onW (Around.frames_deeper K.stack) rfl hfl fun h₄ hheld₄ hsm₄ => ?_
  refine wpAny_landsW hheld₄ fun h₅ hheld hsm₅' => ?_
  have hsm₅ := hsm₄.trans hsm₅'
  obtain ⟨g₅, T₅, F₅, K₅⟩ := kts_ground K F hBG hheld.1 (hsm.trans hsm₅)
  have X₅ : KF.In g₅ := XB.keeps K₅.stays
  have P₅ : TopRead p loose mg mb g₅ := topRead_of (TB.keeps K₅.stays)
  obtain ⟨ob, hob, hobc⟩ := hheld.there
  refine wpAny_handleBy_cons (codeAny_handlers_test (name_K F₅ X₅ P₅ ex ?_ hk hx hd)) (by intro q; cases q)
  refine matches_above (F₅.keep _ _ (X₅ _ _ hCK)) (F₅.keep _ _ (X₅ _ _ hDK)) hob hobc hbase hup (codeAny_handlers_suite ?_)
  refine lands_againW hheld fun h₆ hfl₆ hsm₆ => ?_
  obtain ⟨g₆, T₆, F₆, K₆⟩ := kts_ground K F hBG hfl₆.1 ((hsm.trans hsm₅).trans hsm₆)
  obtain ⟨oe, ws, hoe, hoec, hoed, hoe0⟩ := hfl₆.first
  have ne₆ : g₆.get? e = none := T₆.none_ _ (kts_fresh F hBG hfl₆.2.1 fun o ho m => by
    obtain ⟨_, o', ho', hd⟩ := K.frames.mem m
    rw [ho] at ho'
    cases ho'
    obtain ⟨sl, hs⟩ := ((hsm.trans hsm₅).trans hsm₆) _ _ (F.keep _ _ ho) hd
    rw [hoe] at hs
    cases hs
    exact hd _ hoed)
  have N₆ := News.more F₆ News.nil hoe (fun es n q => by rw [hoed] at q; cases q) ne₆
  have Nl : News g₆ L h₆ news := fun q hq => ⟨hfl₆.1 _ _ (hl q hq).1, (fun z => by have := (hl q hq).1; rw [z, hL] at this; cases this), T₆.none_ _ (kts_none F.keep (hl q hq).2.1)⟩
  exact wpAny_passesOwnAt hE (k h₆ g₆ oe _ (T0.trans T₆) F₆ (fun q hq => by
    rcases List.mem_cons.mp hq with rfl | hq
    · exact N₆ _ (.head _)
    · exact Nl q hq) hoec hoed K₆ (XB.keeps K₆.stays) (TB.keeps K₆.stays) (DD.turn T₆))
end
end Mine
end
section
open PySem PySem.W PyProof.Rows PySem.Spec PySem.Calls PyProof.V
namespace Mine
section
variable {M : Model} {A : Around} {E : Value → Shared → Prop} {s : Shared} {env : Env}
variable {nm q : Str} {C N : Addr} {bs bm : List Value} {hdct : Bool} {sn : List Str} {sub : List Value} {ab : Bool} {col : Option Bool} {dd : Option Addr} {k0 k1 k2 k3 k5 : Option Value} {newId : String}
/-- raise v: an exception of an own class, made before -/
theorem raise_made {x : Expr} {pos : Pos} {Q : Flow → Shared → Prop} (hbase : bm.contains (.type "BaseException") = true) (hh : A.handled = none)
    (h : wpAny M A (eval x env) (fun v s₁ => ∃ e d t, v = .ref e ∧ s₁.heap.get? C = some (excClassObj nm q C N bs bm hdct sn sub ab col dd k0 k1 k2 k3 k5 newId) ∧ s₁.heap.get? e = some (errObj C d t) ∧ E (.ref e) s₁) E s) :
    wpAny M A (exec (.Raise (some x) none pos) env) Q E s := by
  have hcB : (Value.ref C :: bm).contains (.type "BaseException") = true := by rw [List.contains_cons, hbase, Bool.or_true]
  rw [arm_exec_Raise]
  refine wpAny_bind (wpAny_standAt ?_)
  simp only [evalOpt, Option.map]
  unfold raiseStmt
  refine wpAny_bind (wpAny_bind (wpAny_mono h (fun v s₁ h₁ => wpAny_bind (wpAny_standAt (wpAny_pure ?_))) fun _ _ x => x))
  obtain ⟨e, d, t, rfl, hC, he, hE⟩ := h₁
  obtain ⟨hp, g, d, tk, os⟩ := s₁
  repeat (first | with_reducible refine wpAny_loadPart_at he ?_ | with_reducible refine wpAny_loadPart_at hC ?_ | (with_reducible refine wpAny_isSubtype_exc hC ?_; rw [hcB]) | wp_step)
  exact wpAny_raiseNew_none hh hE
theorem raise_K {K : Frag} {h₀ : Heap} {x : Expr} {pos : Pos} {Q : Flow → Shared → Prop} (X : K.In h₀) (hCK : K.lookup C = some (excClassObj nm q C N bs bm hdct sn sub ab col dd k0 k1 k2 k3 k5 newId)) (hbase : bm.contains (.type "BaseException") = true) (hh : A.handled = none)
    (h : wpAny M A (eval x env) (fun v s₁ => ∃ e d t, v = .ref e ∧ (∀ b o, h₀.get? b = some o → s₁.heap.get? b = some o) ∧ s₁.heap.get? e = some (errObj C d t) ∧ E (.ref e) s₁) E s) :
    wpAny M A (exec (.Raise (some x) none pos) env) Q E s :=
  raise_made hbase hh (wpAny_mono h (fun _ _ ⟨e, d, t, a, b, c, f⟩ => ⟨e, d, t, a, b _ _ (X _ _ hCK), c, f⟩) fun _ _ y => y)
end
def RaiseHere (M : Model) (A : Around) (E : Value → Shared → Prop) (s : Shared) (env : Env) (x : Expr) (pos : Pos) (Q : Flow → Shared → Prop) : Prop := wpAny M A (exec (.Raise (some x) none pos) env) Q E s
theorem raise_stop {M : Model} {A : Around} {E : Value → Shared → Prop} {s : Shared} {env : Env} {x : Expr} {pos : Pos} {Q : Flow → Shared → Prop} (h : RaiseHere M A E s env x pos Q) : wpAny M A (exec (.Raise (some x) none pos) env) Q E s := h
theorem raise_go {M : Model} {A : Around} {E : Value → Shared → Prop} {s : Shared} {env : Env} {x : Expr} {pos : Pos} {Q : Flow → Shared → Prop} (h : wpAny M A (exec (.Raise (some x) none pos) env) Q E s) : RaiseHere M A E s env x pos Q := h
end Mine
end
section
open PySem PySem.W PyProof.Rows PySem.Spec PySem.Calls PyProof.V
namespace Mine
/-- things that stay join the ledger -/
theorem Inv.ext {w : World} {P : PP} {σ : St} {imm ex : List (Addr × Obj)} (I : Inv w P σ imm) (hex : ∀ q ∈ ex, ∀ p ∈ σ.mut P, p.1 ≠ q.1) : Inv w P σ (ex ++ imm) := by
  have hs : ∀ p ∈ imm, p ∈ ex ++ imm := fun p hp => List.mem_append_right _ hp
  refine { good := I.good, exs := fun i e he => (I.exs i e he).mono hs, err := let ⟨ft, t, a, b, vs, c⟩ := I.err; ⟨ft, t, hs _ a, b, vs, hs _ c⟩, dsl := I.dsl, ds := fun i e he => ?_, oc := I.oc, rows := fun z hz => (I.rows z hz).mono hs, owns := I.owns, ed := I.ed, nod := I.nod, off := fun p hp z hz => ?_, lowC := I.lowC, txtLen := I.txtLen, exLen := I.exLen, B := I.B }
  · obtain ⟨x, a, b, c⟩ := I.ds i e he
    exact ⟨x, a, b, c.of_addrs hs (fun _ h => h) rfl⟩
  · rcases List.mem_append.mp hz with hz | hz
    · exact hex z hz p hp
    · exact I.off p hp z hz
theorem Step.add {P : PP} {σ σ' : St} {imm imm' ex : List (Addr × Obj)} (S : Step P σ imm σ' imm') (hex : ∀ q ∈ ex, ∀ p ∈ σ.mut P ++ imm, p.1 < q.1) : Step P σ imm σ' (ex ++ imm') := by
  obtain ⟨e0, h1, h2⟩ := S.ext
  exact ⟨⟨ex ++ e0, by rw [h1, List.append_assoc], fun q hq p hp => (List.mem_append.mp hq).elim (fun hq => hex q hq p hp) fun hq => h2 q hq p hp⟩, S.rows, S.ds, S.prog⟩
theorem lt_of_allLt {d : Nat} : ∀ {l : List (Addr × Obj)}, AllLt d l → ∀ p ∈ l, @LT.lt Nat _ p.1 d
  | [], _, _, h => nomatch h
  | _ :: _, h, _, hp => by
    rcases List.mem_cons.mp hp with rfl | hp
    · exact h.1
    · exact lt_of_allLt h.2 _ hp
/-- a node of a list that was made ahead -/
theorem old_post {w : World} {P : PP} {σ σn : St} {imm immn : List (Addr × Obj)} {i q q' : Nat} {e : Ex} {d nd Lc : Addr} {t1 t2 t3 : Tok} {n k : Nat} {vs : List Value} {cs : List Nat} (I : Inv w P σn immn) (S : Step P σ imm σn immn) (he : P.Γ[i]? = some e)
    (hL : ∀ p ∈ σn.mut P ++ immn, p.1 ≠ Lc) (hLw : ∀ p ∈ σ.mut P ++ imm, p.1 < Lc) (h1 : @LT.lt Nat _ Lc d) (h2 : ∀ p ∈ σn.mut P ++ immn, p.1 < d) (h3 : @LT.lt Nat _ d nd) (hv : vs.length ≤ 1000000) (hk : Kids (NodeOk P.Γ P.txt immn k) vs cs) (hkm : k ≤ P.μ i q) (hden : P.den i q = some (q', e.own + cs.sum)) :
    ∃ imm', (∀ p ∈ σn.mut P ++ imm', p ∈ (nd, nodeObj e.a d Lc P.txt q q' t1 t2 t3) :: (d, dictOf [] 0) :: (Lc, listObj vs n) :: (σn.mut P ++ immn)) ∧ Inv w P σn imm' ∧ Step P σ imm σn imm' ∧ ResOk P imm' i q (.ref nd) := by
  refine ⟨[(nd, nodeObj e.a d Lc P.txt q q' t1 t2 t3), (d, dictOf [] 0), (Lc, listObj vs n)] ++ immn, sub_mid' fun _ h => h, I.ext fun z hz p hp => ?_, S.add fun z hz p hp => ?_, ?_⟩
  · have hp' := List.mem_append_left immn hp
    rcases List.mem_cons.mp hz with rfl | hz
    · exact Nat.ne_of_lt (Nat.lt_trans (h2 p hp') h3)
    rcases List.mem_cons.mp hz with rfl | hz
    · exact Nat.ne_of_lt (h2 p hp')
    · rw [List.mem_singleton.mp hz]; exact hL p hp'
  · have := hLw p hp
    rcases List.mem_cons.mp hz with rfl | hz
    · exact Nat.lt_trans (Nat.lt_trans this h1) h3
    rcases List.mem_cons.mp hz with rfl | hz
    · exact Nat.lt_trans this h1
    · rw [List.mem_singleton.mp hz]; exact this
  · exact node_res he (.head _) (.tail _ (.head _)) (.tail _ (.tail _ (.head _))) hv (Kids.mono (fun _ _ _ _ _ h => h.mono (fun p hp => List.mem_append_right _ hp) (Nat.le_refl _)) hk) hkm hden
/-- the same, its list empty: it gets a new one -/
theorem old_post0 {w : World} {P : PP} {σ σn : St} {imm immn : List (Addr × Obj)} {i q q' : Nat} {e : Ex} {d nd l : Addr} {t1 t2 t3 : Tok} {n : Nat} (I : Inv w P σn immn) (S : Step P σ imm σn immn) (he : P.Γ[i]? = some e)
    (h2 : ∀ p ∈ σn.mut P ++ immn, p.1 < d) (h3 : @LT.lt Nat _ d nd) (h4 : @LT.lt Nat _ nd l) (hden : P.den i q = some (q', e.own)) :
    ∃ imm', (∀ p ∈ σn.mut P ++ imm', p ∈ (l, listObj [] n) :: (nd, nodeObj e.a d l P.txt q q' t1 t2 t3) :: (d, dictOf [] 0) :: (σn.mut P ++ immn)) ∧ Inv w P σn imm' ∧ Step P σ imm σn imm' ∧ ResOk P imm' i q (.ref nd) := by
  obtain ⟨imm', a, b, c, d⟩ := leaf_post (t1 := t1) (t2 := t2) (t3 := t3) (n := n) I he rfl h2 h3 h4 hden
  exact ⟨imm', a, b, S.trans c, d⟩
theorem skip4 {α : Type} {a b c d : α} {l A : List α} (h : ∀ p ∈ A, p ∈ a :: b :: c :: l) : ∀ p ∈ A, p ∈ a :: b :: c :: d :: l := fun p hp => by
  have := h p hp
  simp only [List.mem_cons] at this ⊢
  rcases this with h | h | h | h <;> simp [h]
theorem seqRun_drop {den : Den} {ms : List Nat} {n mm p : Nat} (h : ms[n]? = some mm) : seqRun den (ms.drop n) p = match den mm p with
    | none => none
    | some (q, c) => match seqRun den (ms.drop (n + 1)) q with
      | none => none
      | some (q', c') => some (q', c + c') := by
  rw [List.drop_eq_getElem_cons (List.getElem?_eq_some_iff.mp h).1, (List.getElem?_eq_some_iff.mp h).2, seqRun]
  all_goals rfl
theorem seqDec_drop {den : Den} {μ : Nat → Nat → Nat} {b len : Nat} {ms : List Nat} {n mm p : Nat} (h : ms[n]? = some mm) (hd : seqDec den μ b len (ms.drop n) p) : μ mm p < b ∧ ∀ q c, den mm p = some (q, c) → seqDec den μ b len (ms.drop (n + 1)) q := by
  rw [List.drop_eq_getElem_cons (List.getElem?_eq_some_iff.mp h).1, (List.getElem?_eq_some_iff.mp h).2] at hd
  exact hd
theorem app_l {prog : Program} {w : World} {A : Around} {E : Value → Shared → Prop} {s : Shared} {h₀ : Heap} {L D : Addr} {m : Str → Option Value} {pre rest : List (Addr × Obj)} {vs : List Value} {n : Nat} {v : Value} {Q : Value → Shared → Prop}
    (F : Fr h₀ L s.heap m) (N : News h₀ L s.heap (pre ++ (D, listObj vs n) :: rest)) (h1 : ∀ p ∈ pre, p.1 ≠ D) (h2 : ∀ p ∈ rest, p.1 ≠ D) (hsz : vs.length ≤ 1000000)
    (h : ∀ h', Fr h₀ L h' m → News h₀ L h' (pre ++ (D, listObj (vs ++ [v]) (n + 1)) :: rest) → Q .none { s with heap := h' }) :
    wpAny (model prog w) A (call (.builtin "list.append") [.ref D, v]) Q E s := by
  have hd := N (D, listObj vs n) (List.mem_append_right _ (.head _))
  refine append_at (its := vs.toArray) (n := n) (hsz := by rw [sizeLine_eq, List.size_toArray]; omega) hd.1 fun h' hs ho' => h h' (F.change hs hd.2.1 hd.2.2) (N.setIn h1 h2 hs ?_)
  rw [ho']; simp
theorem fr_seq {h₀ h : Heap} {L : Addr} {m m0 : Str → Option Value} {x y z u : Str} {v : Value} (F : Fr h₀ L h m) (hm : ∀ k, k ≠ x → k ≠ y → k ≠ z → k ≠ u → m k = m0 k) (hv : m u = some v) :
    Fr h₀ L h (fun k => if k = u then some v else if k = x then m k else if k = y then m k else if k = z then m k else m0 k) := by
  have : (fun k => if k = u then some v else if k = x then m k else if k = y then m k else if k = z then m k else m0 k) = m := by
    funext k
    by_cases h0 : k = u
    · simp only [if_pos h0]; rw [h0]; exact hv.symm
    · by_cases h1 : k = x
      · simp only [if_neg h0, if_pos h1]
      · by_cases h2 : k = y
        · simp only [if_neg h0, if_neg h1, if_pos h2]
        · by_cases h3 : k = z
          · simp only [if_neg h0, if_neg h1, if_neg h2, if_pos h3]
          · simp only [if_neg h0, if_neg h1, if_neg h2, if_neg h3]; exact (hm k h1 h2 h3 h0).symm
  rw [this]; exact F
end Mine
end
section
open PySem PySem.W PyProof.Rows PySem.Spec PySem.Calls PyProof.V
namespace Mine
/-- the expressions between two parses -/
structure Idle (Γ : List Ex) (B : Nat) (ds : List DO) (imm : List (Addr × Obj)) : Prop where
  exs : ∀ (i : Nat) (e : Ex), Γ[i]? = some e → ExOk Γ imm e
  dsl : ds.length = Γ.length
  dok : ∀ (i : Nat) (e : Ex), Γ[i]? = some e → ∃ x, ds[i]? = some x ∧ x.d = e.d ∧ DObj imm x ∧ (∀ r ∈ x.prs, r.r ∈ (ds.map DO.cell ++ imm).map (·.1)) ∧ x.prs.length ≤ B
  nod : (ds.map (·.d)).Nodup
  off : ∀ x ∈ ds, ∀ q ∈ imm, x.d ≠ q.1
abbrev pp (Γ : List Ex) (txt : Str) (den : Den) (μ : Nat → Nat → Nat) (C ER ED B : Nat) : PP := { Γ := Γ, txt := txt, den := den, μ := μ, C := C, ER := ER, ED := ED, B := B }
abbrev st0 (oc oed : Obj) (ds : List DO) : St := { oc := oc, oed := oed, rows := [], ds := ds }
abbrev old0 (ER t ED : Addr) (args : List Value) (imm : List (Addr × Obj)) : List (Addr × Obj) := (ER, errObj 94 ED t) :: (t, tupObj args) :: imm

theorem Idle.start {w : World} {Γ : List Ex} {txt : Str} {den : Den} {μ : Nat → Nat → Nat} {B : Nat} {ds : List DO} {imm : List (Addr × Obj)} {C ER ED t : Addr} {oc oed : Obj} {args : List Value}
    (I : Idle Γ B ds imm) (G : Good Γ txt den μ) (htxt : txt.length ≤ 1000) (hex : Γ.length ≤ 1000) (hB : B ≤ 1000) (hoc : oc.IsDictOf (intKind PySem.Challenge.rw_vy0016_01.row.prog w) []) (hlow : (C == sysModules) = false)
    (hed : ErrOk (pp Γ txt den μ C ER ED B) oed) (ht : ∀ p ∈ ds.map DO.cell ++ imm, @LT.lt Nat _ p.1 t) (h1 : @LT.lt Nat _ t ER) (h2 : @LT.lt Nat _ ER ED) (h3 : @LT.lt Nat _ ED C) :
    Inv w (pp Γ txt den μ C ER ED B) (st0 oc oed ds) (old0 ER t ED args imm) := by
  have hs : ∀ p ∈ imm, p ∈ old0 ER t ED args imm := fun p hp => .tail _ (.tail _ hp)
  have hd : ∀ x ∈ ds, @LT.lt Nat _ x.d t := fun x hx => ht x.cell (List.mem_append_left _ (List.mem_map_of_mem hx))
  have hi : ∀ p ∈ imm, @LT.lt Nat _ p.1 t := fun p hp => ht p (List.mem_append_right _ hp)
  refine { good := G, exs := fun i e he => (I.exs i e he).mono hs, err := ⟨_, t, .head _, rfl, args, .tail _ (.head _)⟩, dsl := I.dsl, ds := fun i e he => ?_, oc := hoc, rows := (fun x hx => nomatch hx), owns := List.nodup_nil, ed := hed, nod := ?_, off := fun p hp q hq => ?_, lowC := hlow, txtLen := htxt, exLen := hex, B := hB }
  · obtain ⟨x, a, b, c, d, f⟩ := I.dok i e he
    refine ⟨x, a, b, c.mono hs, fun r hr y hy => absurd hy (by simp), fun r hr => ?_, fun k y hy => absurd hy (by simp), Nat.le_succ_of_le f, fun _ => f⟩
    obtain ⟨z, hz, hz'⟩ := List.mem_map.mp (d r hr)
    refine List.mem_map.mpr ⟨z, ?_, hz'⟩
    rcases List.mem_append.mp hz with hz | hz
    · exact List.mem_append_left _ (.tail _ (.tail _ hz))
    · exact List.mem_append_right _ (hs z hz)
  · show ((C :: ED :: ([].map Row.cell ++ ds.map DO.cell).map (·.1)) : List Addr).Nodup
    have hm : (([] : List Row).map Row.cell ++ ds.map DO.cell).map (·.1) = ds.map (·.d) := by simp
    rw [hm]
    refine List.nodup_cons.mpr ⟨fun h => ?_, List.nodup_cons.mpr ⟨fun h => ?_, I.nod⟩⟩
    · rcases List.mem_cons.mp h with h | h
      · exact absurd h.symm (Nat.ne_of_lt h3)
      · obtain ⟨x, hx, e⟩ := List.mem_map.mp h
        exact absurd e (Nat.ne_of_lt (Nat.lt_trans (hd x hx) (Nat.lt_trans h1 (Nat.lt_trans h2 h3))))
    · obtain ⟨x, hx, e⟩ := List.mem_map.mp h
      exact absurd e (Nat.ne_of_lt (Nat.lt_trans (hd x hx) (Nat.lt_trans h1 h2)))
  · have hq' : @LE.le Nat _ q.1 ER := by
      rcases List.mem_cons.mp hq with rfl | hq
      · exact Nat.le_refl _
      rcases List.mem_cons.mp hq with rfl | hq
      · exact Nat.le_of_lt h1
      · exact Nat.le_of_lt (Nat.lt_trans (hi q hq) h1)
    rcases List.mem_cons.mp hp with rfl | hp
    · exact Nat.ne_of_gt (Nat.lt_of_le_of_lt hq' (Nat.lt_trans h2 h3))
    rcases List.mem_cons.mp hp with rfl | hp
    · exact Nat.ne_of_gt (Nat.lt_of_le_of_lt hq' h2)
    · obtain ⟨x, hx, rfl⟩ : ∃ x ∈ ds, x.cell = p := by simpa using hp
      have hx' := hd x hx
      rcases List.mem_cons.mp hq with rfl | hq
      · exact Nat.ne_of_lt (Nat.lt_trans hx' h1)
      rcases List.mem_cons.mp hq with rfl | hq
      · exact Nat.ne_of_lt hx'
      · exact I.off x hx q hq

/-- what a parse leaves besides the expressions' dicts -/
abbrev St.rest (σ : St) (P : PP) (imm : List (Addr × Obj)) : List (Addr × Obj) := (P.C, σ.oc) :: (P.ED, σ.oed) :: (σ.rows.map Row.cell ++ imm)
theorem mut_rest {P : PP} {σ : St} {imm : List (Addr × Obj)} : ∀ p ∈ σ.ds.map DO.cell ++ σ.rest P imm, p ∈ σ.mut P ++ imm := fun p hp => by
  rcases List.mem_append.mp hp with hp | hp
  · exact List.mem_append_left _ (.tail _ (.tail _ (List.mem_append_right _ hp)))
  rcases List.mem_cons.mp hp with rfl | hp
  · exact List.mem_append_left _ (.head _)
  rcases List.mem_cons.mp hp with rfl | hp
  · exact List.mem_append_left _ (.tail _ (.head _))
  rcases List.mem_append.mp hp with hp | hp
  · exact List.mem_append_left _ (.tail _ (.tail _ (List.mem_append_left _ hp)))
  · exact List.mem_append_right _ hp
theorem rest_mut {P : PP} {σ : St} {imm : List (Addr × Obj)} : ∀ p ∈ σ.mut P ++ imm, p ∈ σ.ds.map DO.cell ++ σ.rest P imm := fun p hp => by
  rcases List.mem_append.mp hp with hp | hp
  · rcases List.mem_cons.mp hp with rfl | hp
    · exact List.mem_append_right _ (.head _)
    rcases List.mem_cons.mp hp with rfl | hp
    · exact List.mem_append_right _ (.tail _ (.head _))
    rcases List.mem_append.mp hp with hp | hp
    · exact List.mem_append_right _ (.tail _ (.tail _ (List.mem_append_left _ hp)))
    · exact List.mem_append_left _ hp
  · exact List.mem_append_right _ (.tail _ (.tail _ (List.mem_append_right _ hp)))
theorem rest_imm {P : PP} {σ : St} {imm : List (Addr × Obj)} : ∀ p ∈ imm, p ∈ σ.rest P imm := fun p hp => .tail _ (.tail _ (List.mem_append_right _ hp))

theorem Idle.finish {w : World} {P : PP} {σ : St} {imm : List (Addr × Obj)} (I : Inv w P σ imm) : Idle P.Γ (P.B + 1) σ.ds (σ.rest P imm) := by
  have hnod := I.nod
  have hm : (σ.mut P).map (·.1) = P.C :: P.ED :: ((σ.rows.map Row.cell).map (·.1) ++ σ.ds.map (·.d)) := by simp [St.mut]
  rw [hm] at hnod
  obtain ⟨n1, hn⟩ := List.nodup_cons.mp hnod
  obtain ⟨n2, hn⟩ := List.nodup_cons.mp hn
  obtain ⟨n3, n4, n5⟩ := List.nodup_append.mp hn
  refine { exs := fun i e he => (I.exs i e he).mono rest_imm, dsl := I.dsl, dok := fun i e he => ?_, nod := n4, off := fun x hx q hq => ?_ }
  · obtain ⟨x, a, b, c⟩ := I.ds i e he
    refine ⟨x, a, b, c.obj.mono rest_imm, fun r hr => ?_, c.len⟩
    obtain ⟨z, hz, hz'⟩ := List.mem_map.mp (c.old r hr)
    exact List.mem_map.mpr ⟨z, rest_mut z hz, hz'⟩
  · have hxm : x.d ∈ σ.ds.map (·.d) := List.mem_map_of_mem hx
    rcases List.mem_cons.mp hq with rfl | hq
    · exact fun e => n1 (.tail _ (List.mem_append_right _ (by rw [← (show x.d = P.C from e)]; exact hxm)))
    rcases List.mem_cons.mp hq with rfl | hq
    · exact fun e => n2 (List.mem_append_right _ (by rw [← (show x.d = P.ED from e)]; exact hxm))
    rcases List.mem_append.mp hq with hq | hq
    · exact fun e => n5 q.1 (List.mem_map_of_mem hq) x.d hxm e.symm
    · exact I.off x.cell (mut_ds hx) q hq

theorem mem_keep {imm : List (Addr × Obj)} {ER : Addr} {oe : Obj} (hu : ∀ o, (ER, o) ∈ imm → o.cls = .ref 94 ∨ o.cls = .ref 132) {p : Addr × Obj} (hp : p ∈ imm) (h1 : p.2.cls ≠ .ref 94) (h2 : p.2.cls ≠ .ref 132) : p ∈ (ER, oe) :: imm.filter (fun q => q.1 != ER) := by
  refine .tail _ (List.mem_filter.mpr ⟨hp, ?_⟩)
  rw [bne_iff_ne]
  intro e
  obtain ⟨a, o⟩ := p
  obtain rfl : a = ER := e
  rcases hu o hp with h | h
  · exact h1 h
  · exact h2 h
theorem inst_cls {e : Ex} (h : e.instOk) : e.o.cls ≠ .ref 94 ∧ e.o.cls ≠ .ref 132 := by
  obtain ⟨a, d, t, nm, k, o⟩ := e
  unfold Ex.instOk at h
  cases k with
  | lit c => dsimp only at h; obtain ⟨it, t1, t2, rfl⟩ := h; exact ⟨by simp, by simp⟩
  | seq ms => dsimp only at h; obtain ⟨it, t2, rfl⟩ := h; exact ⟨by simp, by simp⟩
  | oneOf ms => dsimp only at h; obtain ⟨it, t2, rfl⟩ := h; exact ⟨by simp, by simp⟩
  | look b m => dsimp only at h; obtain ⟨it, t2, rfl⟩ := h; exact ⟨by simp, by simp⟩
  | more m => dsimp only at h; obtain ⟨it, tf, t1, t2, rfl⟩ := h; exact ⟨by simp, by simp⟩
  | opt m => dsimp only at h; obtain ⟨it, tf, t1, t2, rfl⟩ := h; exact ⟨by simp, by simp⟩
/-- the exception that came through is another than it was -/
theorem Idle.swap {Γ : List Ex} {B : Nat} {ds : List DO} {imm : List (Addr × Obj)} {ER : Addr} (oe : Obj) (I : Idle Γ B ds imm) (hu : ∀ o, (ER, o) ∈ imm → o.cls = .ref 94 ∨ o.cls = .ref 132) (hn : ∀ x ∈ ds, x.d ≠ ER) :
    Idle Γ B ds ((ER, oe) :: imm.filter (fun q => q.1 != ER)) := by
  have tk : ∀ {a : Addr} {vs : List Value}, (a, tupObj vs) ∈ imm → (a, tupObj vs) ∈ (ER, oe) :: imm.filter (fun q => q.1 != ER) := fun h => mem_keep hu h (by simp) (by simp)
  refine { exs := fun i e he => ?_, dsl := I.dsl, dok := fun i e he => ?_, nod := I.nod, off := fun x hx q hq => ?_ }
  · have h := I.exs i e he
    exact ⟨mem_keep hu h.1 (inst_cls h.2.1).1 (inst_cls h.2.1).2, h.2.1, fun vs hv => tk (h.2.2 vs hv)⟩
  · obtain ⟨x, a, b, c, d, f⟩ := I.dok i e he
    refine ⟨x, a, b, ?_, fun r hr => ?_, f⟩
    · rcases c with c | ⟨h1, h2, h3, h4, h5, h6⟩
      · exact .inl c
      · exact .inr ⟨h1, h2, h3, h4, tk h5, fun r hr => let ⟨k, h⟩ := h6 r hr; ⟨k, tk h⟩⟩
    · obtain ⟨z, hz, hz'⟩ := List.mem_map.mp (d r hr)
      rcases List.mem_append.mp hz with hz | hz
      · exact List.mem_map.mpr ⟨z, List.mem_append_left _ hz, hz'⟩
      · by_cases e : z.1 = ER
        · exact List.mem_map.mpr ⟨_, List.mem_append_right _ (.head _), by rw [← hz', e]⟩
        · exact List.mem_map.mpr ⟨z, List.mem_append_right _ (.tail _ (List.mem_filter.mpr ⟨hz, by rw [bne_iff_ne]; exact e⟩)), hz'⟩
  · rcases List.mem_cons.mp hq with rfl | hq
    · exact hn x hx
    · exact I.off x hx q (List.mem_filter.mp hq).1
theorem Idle.more {Γ : List Ex} {B : Nat} {ds : List DO} {imm ex : List (Addr × Obj)} (I : Idle Γ B ds imm) (hx : ∀ x ∈ ds, ∀ q ∈ ex, x.d ≠ q.1) : Idle Γ B ds (ex ++ imm) := by
  have hs : ∀ p ∈ imm, p ∈ ex ++ imm := fun p hp => List.mem_append_right _ hp
  refine { exs := fun i e he => (I.exs i e he).mono hs, dsl := I.dsl, dok := fun i e he => ?_, nod := I.nod, off := fun x hx' q hq => (List.mem_append.mp hq).elim (hx x hx' q) (I.off x hx' q) }
  obtain ⟨x, a, b, c, d, f⟩ := I.dok i e he
  refine ⟨x, a, b, c.mono hs, fun r hr => ?_, f⟩
  obtain ⟨z, hz, hz'⟩ := List.mem_map.mp (d r hr)
  rcases List.mem_append.mp hz with hz | hz
  · exact List.mem_map.mpr ⟨z, List.mem_append_left _ hz, hz'⟩
  · exact List.mem_map.mpr ⟨z, List.mem_append_right _ (hs z hz), hz'⟩
end Mine
end
section
example : True := by
  w_top off
  trivial
open PySem PySem.W PyProof.Rows PySem.Spec PySem.Calls
namespace Mine
local macro_rules | `(tactic| k_room) => `(tactic| ktr_room)
local macro_rules | `(tactic| k_units) => `(tactic| ktr_units)
local macro_rules | `(tactic| k_all) => `(tactic| (refine up_neAll (by assumption) ?_; first | tbn_find | exact allLt_of (by assumption)))
local macro_rules | `(tactic| k_all) => `(tactic| (refine tbn_neAll ?_; first | tbn_find | exact allLt_of (by assumption)))
local macro_rules | `(tactic| ks_enter) => `(tactic| (refine' ks_code_super ?k1 ?k2 ?k3 ?k4 ?k5 ?kA ?kF ?kK ?k6 ?k7 ?k8 ?k9 ?kB ?_ ?c1 ?c2 ?c3 ?c4; (case kA => exact rfl); (case kF => exact rfl); (case kK => first | exact rfl | assumption); (case k1 => k_asm); (case k2 => k_asm); (case k3 => k_asm); (case k4 => k_asm); (case k5 => k_asm); (case k6 => k_is); (case k7 => k_is); (case k8 => k_room); (case k9 => exact binds_K (by k_in) rfl (by k_is) rfl rfl rfl); (case kB => exact locs rfl); (case c1 => decide); (case c2 => exact rfl); (case c3 => exact rfl); (case c4 => exact rfl); intro g' L' h' FG' F' N' B' X' T' l1; (try k_lt l1); (try dsimp only); (try k_lift B')))
local macro_rules | `(tactic| ks_enter) => `(tactic| (refine' superMore ?k1 ?k2 ?k3 ?k4 ?k5 ?kA ?kF ?kK ?k6 ?k7 ?k8 ?kX ?kM ?kN ?kR ?kP ?kT ?kB ?_ ?c2 ?c3 ?c4 ?c5; (case kA => exact rfl); (case kF => exact rfl); (case kK => first | exact rfl | assumption); (case k1 => k_asm); (case k2 => k_asm); (case k3 => k_asm); (case k4 => k_asm); (case k5 => k_asm); (case k6 => k_is); (case k7 => k_is); (case k8 => k_room); (case kX => kp_lit); (case kM => exact rfl); (case kN => exact rfl); (case kR => exact rfl); (case kP => exact rfl); (case kT => exact fun _ => rfl); (case kB => exact fun _ => locs rfl); (case c5 => decide); (case c2 => exact rfl); (case c3 => exact rfl); (case c4 => exact rfl); intro D' o' g' L' h' tk' l1 lo' hs' FG' F' N' B' X' T' l2; (try k_lt l1); (try k_lt2 l2); (try dsimp only); (try k_lift B')))
local macro_rules | `(tactic| ks_enter) => `(tactic| (refine' superBoth ?k1 ?k2 ?k3 ?k4 ?k5 ?kA ?kF ?kK ?k6 ?k7 ?k8 ?kV ?kX ?kQ ?kM ?kN ?kR ?kP ?kS ?kT ?kB ?_ ?c2 ?c3 ?c4 ?c5; (case kA => exact rfl); (case kF => exact rfl); (case kK => first | exact rfl | assumption); (case k1 => k_asm); (case k2 => k_asm); (case k3 => k_asm); (case k4 => k_asm); (case k5 => k_asm); (case k6 => k_is); (case k7 => k_is); (case k8 => k_room); (case kV => kp_lit); (case kX => kp_lit); (case kQ => exact rfl); (case kM => exact rfl); (case kN => exact rfl); (case kR => exact rfl); (case kP => exact rfl); (case kS => exact fun _ => rfl); (case kT => exact fun _ _ => rfl); (case kB => exact fun _ _ => locs rfl); (case c5 => decide); (case c2 => exact rfl); (case c3 => exact rfl); (case c4 => exact rfl); intro C' D' o' g' L' h' tk' l1 l2 lo' hs' FG' F' N' B' X' T' l3; (try k_lt l1); (try k_lt2 l2); (try k_lt2 l3); (try dsimp only); (try k_lift B')))
local macro_rules | `(tactic| walk_at "wpAt") => `(tactic| (ks_step "execs cons"; k_dflt (refine ks_wpAt_execs_cons ?_)))
local macro_rules | `(tactic| walk_at "wpAt") => `(tactic| (ks_step "exec Expr"; k_dflt (refine ks_wpAt_Expr_any ?_)))
local macro_rules | `(tactic| walk_at "wpAt") => `(tactic| (ks_step "eval Call"; k_dflt (refine ks_wpAt_MethodCall ?_)))
local macro_rules | `(tactic| k_mem) => `(tactic| first | assumption | exact List.mem_cons_self | exact List.Mem.head _ | (refine' List.mem_cons_of_mem _ ?_; k_mem))
local macro_rules | `(tactic| walk_at "call builtin:len") => `(tactic| (k_here; (with_reducible show wpAny _ _ (call (Value.builtin "len") [Value.ref _]) _ _ _); k_dflt (refine here_stop ?_)))
local macro_rules | `(tactic| walk_at "subscriptTail") => `(tactic| (k_here; k_dflt (refine here_stop ?_)))
local macro_rules | `(tactic| walk_at "call ref") => `(tactic| (k_here; k_dflt (refine here_stop ?_)))
local macro_rules | `(tactic| walk_at "setItem ref") => `(tactic| (k_here; k_dflt (refine here_stop ?_)))
local macro_rules | `(tactic| walk_at "getAttr ref") => `(tactic| (k_here; k_dflt (refine here_stop ?_)))
local macro_rules | `(tactic| walk_at "setAttr ref") => `(tactic| (k_here; k_dflt (refine here_stop ?_)))
local macro_rules | `(tactic| walk_at "binaryOp Add ref ref") => `(tactic| (k_here; k_dflt (refine here_stop ?_)))
local macro_rules | `(tactic| walk_at "getMethod ref") => `(tactic| (k_here; (with_reducible show wpAny _ _ (getMethod (Value.ref _) (Str.ofString "_uncached_match") _) _ _ _); k_dflt (refine here_stop ?_)))
local macro_rules | `(tactic| walk_at "getMethod ref") => `(tactic| (k_here; (with_reducible show wpAny _ _ (getMethod (Value.ref _) (Str.ofString "get") _) _ _ _); k_dflt (refine kdg_method (knd := PySem.intKind _ _) (by k_asm) (by k_mem) (by k_asm) ?_)))
local macro_rules | `(tactic| walk_at "call builtin:dict.get") => `(tactic| (k_here; k_dflt (refine kdg_get1 (knd := PySem.intKind _ _) (by k_asm) (by k_mem) (by k_asm) (by k_asm) (intKind_is _ _ _ _) _ rfl ?_)))
theorem fr_twoM {h₀ h : Heap} {L : Addr} {m m0 : Str → Option Value} {x y : Str} (F : Fr h₀ L h m) (hm : ∀ z, z ≠ x → z ≠ y → m z = m0 z) : Fr h₀ L h (fun z => if z = y then m z else if z = x then m z else m0 z) := by
  have : (fun z => if z = y then m z else if z = x then m z else m0 z) = m := by
    funext z
    by_cases h1 : z = y
    · simp [h1]
    · by_cases h2 : z = x
      · simp [h2]
      · simp only [if_neg h1, if_neg h2]; exact (hm z h2 h1).symm
  rw [this]; exact F
def Found (w : World) (P : PP) (σ : St) (imm : List (Addr × Obj)) (i : Nat) (g : Heap) (L : Addr) (m0 : Str → Option Value) (s0 s' : Shared) : Prop :=
  ∃ (σ' : St) (imm' : List (Addr × Obj)) (h' : Heap) (tk' : Nat) (u : Option Value) (k : Nat) (y : Row), s' = { s0 with heap := h', toks := tk' } ∧ Fr g L h' (fun z => if z = Str.ofString "expr_cache" then some (.ref y.r) else if z = Str.ofString "oid" then u else m0 z) ∧
    News g L h' (σ'.mut P ++ imm') ∧ Inv w P σ' imm' ∧ Step P σ imm σ' imm' ∧ σ'.rows[k]? = some y ∧ y.own = i

def ForPost (w : World) (P : PP) (σ : St) (imm : List (Addr × Obj)) (i : Nat) (g : Heap) (L : Addr) (m0 : Str → Option Value) (s0 : Shared) (f : Flow) (s' : Shared) : Prop := f = .next ∧ Found w P σ imm i g L m0 s0 s'
theorem cut_for {M : Model} {A : Around} {E : Value → Shared → Prop} {w : World} {P : PP} {σ : St} {imm : List (Addr × Obj)} {i : Nat} {g : Heap} {L : Addr} {m0 : Str → Option Value} {s : Shared} {t : Sem Flow} {Q : Flow → Shared → Prop}
    (_F : Fr g L s.heap m0) (h : wpAny M A t (ForPost w P σ imm i g L m0 s) (fun _ _ => False) s) (k : ∀ s', Found w P σ imm i g L m0 s s' → Q .next s') : wpAny M A t Q E s :=
  wpAny_mono h (fun _ _ h => by obtain ⟨rfl, h⟩ := h; exact k _ h) fun _ _ h => h.elim

theorem fr_eqM {h₀ h : Heap} {L : Addr} {m m' : Str → Option Value} (F : Fr h₀ L h m) (e : m = m') : Fr h₀ L h m' := e ▸ F
def Found2 (w : World) (P : PP) (σ : St) (imm : List (Addr × Obj)) (i q : Nat) (g : Heap) (L : Addr) (m0 : Str → Option Value) (s0 s' : Shared) : Prop :=
  ∃ (σ' : St) (imm' : List (Addr × Obj)) (h' : Heap) (tk' : Nat) (v : Value), s' = { s0 with heap := h', toks := tk' } ∧ Fr g L h' (fun z => if z = Str.ofString "node" then some v else m0 z) ∧
    News g L h' (σ'.mut P ++ imm') ∧ Inv w P σ' imm' ∧ Step P σ imm σ' imm' ∧ ResOk P imm' i q v
theorem cut_res {M : Model} {A : Around} {E : Value → Shared → Prop} {w : World} {P : PP} {σ : St} {imm : List (Addr × Obj)} {i q : Nat} {g : Heap} {L : Addr} {m0 : Str → Option Value} {s : Shared} {t : Sem Flow} {Q : Flow → Shared → Prop}
    (_F : Fr g L s.heap m0) (h : wpAny M A t (fun f s' => f = .next ∧ Found2 w P σ imm i q g L m0 s s') (fun _ _ => False) s) (k : ∀ s', Found2 w P σ imm i q g L m0 s s' → Q .next s') : wpAny M A t Q E s :=
  wpAny_mono h (fun _ _ h => by obtain ⟨rfl, h⟩ := h; exact k _ h) fun _ _ h => h.elim

theorem open_else {w : World} {P : PP} {σ : St} {imm : List (Addr × Obj)} (I : Inv w P σ imm) {i : Nat} {x : DO} (hx : σ.ds[i]? = some x) :
    ∃ R : List (Addr × Obj), (∀ p ∈ R, p ∈ σ.mut P ++ imm) ∧ (∀ p ∈ σ.mut P ++ imm, p = (P.C, σ.oc) ∨ p = x.cell ∨ p ∈ R) ∧ (∀ p ∈ R, p.1 ≠ P.C) ∧ (∀ p ∈ R, p.1 ≠ x.d) ∧ P.C ≠ x.d := by
  have hn := I.nod
  rw [addrs_eq] at hn
  obtain ⟨n1, n2⟩ := List.nodup_cons.mp hn
  obtain ⟨n3, n4⟩ := List.nodup_cons.mp n2
  obtain ⟨n5, n6, n7⟩ := List.nodup_append.mp n4
  simp only [List.mem_cons, List.mem_append, not_or] at n1 n3
  have hxm : x.d ∈ σ.ds.map (·.d) := List.mem_map_of_mem (List.mem_of_getElem? hx)
  refine ⟨(P.ED, σ.oed) :: (σ.rows.map Row.cell ++ (σ.ds.eraseIdx i).map DO.cell) ++ imm, fun p hp => ?_, fun p hp => ?_, fun p hp => ?_, fun p hp => ?_, fun e => n1.2.2 (e ▸ hxm)⟩
  · rcases List.mem_append.mp hp with hp | hp
    · rcases List.mem_cons.mp hp with rfl | hp
      · exact List.mem_append_left _ mut_oed
      · rcases List.mem_append.mp hp with hp | hp
        · obtain ⟨y, hy, rfl⟩ := List.mem_map.mp hp
          exact List.mem_append_left _ (mut_rows hy)
        · obtain ⟨y, hy, rfl⟩ := List.mem_map.mp hp
          exact List.mem_append_left _ (mut_ds (mem_of_erase hy))
    · exact List.mem_append_right _ hp
  · rcases List.mem_append.mp hp with hp | hp
    · rcases List.mem_cons.mp hp with rfl | hp
      · exact .inl rfl
      · rcases List.mem_cons.mp hp with rfl | hp
        · exact .inr (.inr (.head _))
        · rcases List.mem_append.mp hp with hp | hp
          · exact .inr (.inr (List.mem_append_left _ (.tail _ (List.mem_append_left _ hp))))
          · obtain ⟨y, hy, rfl⟩ := List.mem_map.mp hp
            rcases mem_erase_or hx hy with rfl | hy
            · exact .inr (.inl rfl)
            · exact .inr (.inr (List.mem_append_left _ (.tail _ (List.mem_append_right _ (List.mem_map_of_mem hy)))))
    · exact .inr (.inr (List.mem_append_right _ hp))
  · rcases List.mem_append.mp hp with hp | hp
    · rcases List.mem_cons.mp hp with rfl | hp
      · exact fun e => n1.1 e.symm
      · rcases List.mem_append.mp hp with hp | hp
        · obtain ⟨y, hy, rfl⟩ := List.mem_map.mp hp
          exact fun e => n1.2.1 (e ▸ List.mem_map_of_mem hy)
        · obtain ⟨y, hy, rfl⟩ := List.mem_map.mp hp
          exact fun e => n1.2.2 (e ▸ List.mem_map_of_mem (mem_of_erase hy))
    · exact fun e => I.off _ mut_oc p hp e.symm
  · rcases List.mem_append.mp hp with hp | hp
    · rcases List.mem_cons.mp hp with rfl | hp
      · exact fun e => n3.2 (show P.ED ∈ _ from (show P.ED = x.d from e) ▸ hxm)
      · rcases List.mem_append.mp hp with hp | hp
        · obtain ⟨y, hy, rfl⟩ := List.mem_map.mp hp
          exact n7 _ (List.mem_map_of_mem hy) _ hxm
        · obtain ⟨y, hy, rfl⟩ := List.mem_map.mp hp
          exact erase_ne n6 hx y hy
    · exact fun e => I.off _ (mut_ds (List.mem_of_getElem? hx)) p hp e.symm

theorem add_tup {A : Around} {E : Value → Shared → Prop} {s : Shared} {h₀ : Heap} {L a b : Addr} {m : Str → Option Value} {news : List (Addr × Obj)} {prog : Program} {w : World} {v : Value} {ws : List Value} {Q : Value → Shared → Prop}
    (F : Fr h₀ L s.heap m) (N : News h₀ L s.heap news) (h1 : (a, tupObj [v]) ∈ news) (h2 : (b, tupObj ws) ∈ news) (hz : ws.length ≤ 16000)
    (h : ∀ t' h', Fr h₀ L h' m → News h₀ L h' ((t', tupObj (v :: ws)) :: news) → (t' = a ∨ ∀ p ∈ news, p.1 < t') → Q (.ref t') { s with heap := h' }) :
    wpAny (model prog w) A (binaryOp .Add (.ref a) (.ref b)) Q E s := by
  cases ws with
  | nil =>
    refine kde_addT1 (its := #[v]) (its2 := #[]) F N (News.isTup N h1) (News.isTup N h2) (List.cons_ne_nil _ _) rfl (by simp) ?_
    exact h a _ F (fun p hp => (List.mem_cons.mp hp).elim (fun e => by rw [e]; exact N _ h1) (N p)) (.inl rfl)
  | cons u us =>
    refine kde_addT (its := #[v]) (its2 := (u :: us).toArray) (zs := v :: u :: us) F N (News.isTup N h1) (News.isTup N h2) (List.cons_ne_nil _ _) (by simp) (by simp only [List.length_cons] at hz ⊢; simp; omega) (by simp) ?_
    exact fun D h' F' N' hlt => h D h' F' N' (.inr hlt)

set_option hygiene false in
theorem mc_step {w : World} {p : Program} {loose : List Str} {mean : ExcName → Option Value} {mg mb : Str → Option Value} {P : PP} {i q : Nat}
    (UM : UMC w p loose mean mg mb P i q) : MC w p loose mean mg mb P i q := by
  intro hi hq σ imm tt tq I hlat
  obtain ⟨e, he⟩ : ∃ e, P.Γ[i]? = some e := ⟨P.Γ[i], by simp [hi]⟩
  have hA : addrOf P.Γ i = e.a := by simp [addrOf, he]
  rw [hA]
  obtain ⟨x, hx, hxd, xok⟩ := I.ds i e he
  have eok := I.exs i e he
  obtain ⟨C, j, SA⟩ := self_of w eok.2.1
  intro dp un gd cn cs a ccd cl outer A₀ base h₀ L m s Q E B F X N T hk hdp hun ret
  refine wpAny_call ?_
  k_dflt (refine' code_defG ?k1 ?k2 ?k3 ?k4 ?k5 ?kA ?kF ?kK ?k6 ?k7 ?k8 ?k9 ?kB ?_ ?c2 ?c3 ?c4 ?c5; (case kA => exact rfl); (case kF => exact rfl); (case kK => first | assumption | exact rfl); (case k1 => k_asm); (case k2 => k_asm); (case k3 => k_asm); (case k4 => k_asm); (case k5 => k_asm); (case k6 => k_is); (case k7 => k_is); (case k8 => ktr_room); (case k9 => first | exact BindsTo.of_eq rfl | exact binds_K (by k_in) rfl (by k_is) rfl rfl rfl); (case c5 => decide); (case kB => exact locs rfl); (case c2 => exact rfl); (case c3 => exact rfl); (case c4 => exact rfl); k_whole; intro g' L' h' FG' F' N' B' X' T' G'; (try dsimp only); (try k_fold))
  k_steps
  rename Fr _ _ _ _ => F0
  refine cut_for (w := w) (P := P) (σ := σ) (imm := imm) (i := i) F0 (wpAny_For ?_) ?_
  rotate_left
  · rintro s' ⟨σ1, imm1, h1, tk1, u1, k, y, rfl, F2, N2, I1, S1, hy, hyo⟩
    have hyk := I1.rows y (List.mem_of_getElem? hy)
    have hlat1 := S1.later hlat
    dsimp only
    refine wpAny_execs_cons ?_
    refine cut_res (w := w) (P := P) (σ := σ) (imm := imm) (i := i) (q := q) F2 ?_ ?_
    · refine gen_led N2 fun led hl N3 => ?_
      clear N2
      k_steps
      have hyl : (y.r, y.o) ∈ led := by rw [hl]; exact List.mem_append_left _ (mut_rows (List.mem_of_getElem? hy))
      refine kda_in (k := (q : Int)) (knd := PySem.intKind _ _) N3 hyl hyk.2.1 hyk.2.2.1 (intKind_is _ _ _ _) _ rfl ?_
      cases hv : valueAt y.kvs (q : Int) with
      | some v =>
        simp only [Option.isSome_some]
        k_steps
        refine here_go ?_
        refine kda_item (k := (q : Int)) (knd := PySem.intKind _ _) N3 hyl hyk.2.1 (intKind_is _ _ _ _) hv ?_
        have hres : ResOk P imm1 i q v := by
          obtain ⟨p', e1, e2, e3⟩ := hyk.2.2.2 _ (valueAt_mem hv)
          obtain rfl : q = p' := Int.ofNat.inj e1
          rcases e3 with e3 | e3
          · have := hlat1 k y q hy (by rw [hv]; exact congrArg some e3)
            rw [hyo] at this
            exact absurd this (Nat.lt_irrefl _)
          · rw [hyo] at e3; exact e3
        k_steps
        refine ⟨σ1, imm1, _, _, v, rfl, fr_same (by assumption) ?_, News.sub (by assumption) (fun p hp => by rw [hl]; exact hp), I1, S1, hres⟩
        rfl
      | none =>
        simp only [Option.isSome_none]
        k_steps
        obtain ⟨R, hR1, hR2, hR3, hR4⟩ := open_row I1 hy
        refine here_go ?_
        refine kda_set (k := (q : Int)) (knd := PySem.intKind _ _) F2 (News.sub N3 fun p hp => by rw [hl]; exact hR1 p hp) (.head hR2) hyk.2.1 (intKind_is _ _ _ _) (by rw [sizeLine_eq]; exact Nat.le_trans (Row.len hyk) (by have := I1.txtLen; omega)) fun h2 o2 F3 N4 hd2 => ?_
        have I2 : Inv w P (σ1.put k y o2 (q : Int) (.ref 220)) imm1 := I1.setRow hy hd2 ⟨q, rfl, hq, .inl rfl⟩
        have hlat2 : Later' P (σ1.put k y o2 (q : Int) (.ref 220)) (P.μ i q) := put_later hy hyo hlat1
        have N5 := News.sub N4 (hR4 o2 (q : Int) (.ref 220))
        clear N4 F2 N3
        k_steps
        obtain ⟨x2, hx2, hxd2, xok2⟩ := I2.ds i e he
        refine here_go ?_
        refine self_um (by assumption) (by assumption) N5 SA (List.mem_append_right _ (I2.exs i e he).1) (List.mem_append_left _ (mut_ds (List.mem_of_getElem? hx2))) hxd2 xok2.obj ?_
        dsimp only
        refine callWith_K (by assumption) SA.cls.umKeep ?_
        k_steps
        refine here_go ?_
        refine Calls.use (by assumption) (by assumption) (by assumption) N5 (by assumption) rfl (UM e he hq _ imm1 tt tq I2 hlat2) ?dd ?uu ?_
        case dd => exact Nat.lt_of_le_of_lt (show dp + 1 + (4 * P.μ i q + 6) ≤ dp + (4 * P.μ i q + 8) by omega) hdp
        case uu => exact Nat.lt_of_le_of_lt (show un + 3 + (40 * P.μ i q + 80) ≤ un + (40 * P.μ i q + 100) by omega) hun
        rintro v _ h3 tk3 F4 N6 ⟨σ3, imm3, rfl, I3, S3, hres⟩
        clear F3 N5
        obtain ⟨y3, hy3, hr3, ho3⟩ := S3.row (put_self hy)
        replace hr3 : y3.r = y.r := hr3
        replace ho3 : y3.own = i := ho3.trans hyo
        have hv3 : v ≠ .ref 220 := res_ne (K := Mine.hd.heap_39 w.params) (by assumption) ⟨_, by k_is⟩ N6 (fun p hp => List.mem_append_right _ hp) hres
        have hyk3 := I3.rows y3 (List.mem_of_getElem? hy3)
        k_steps
        obtain ⟨R3, hR31, hR32, hR33, hR34⟩ := open_row I3 hy3
        rw [hr3] at hR31 hR32 hR34
        rename Fr _ _ _ _ => F5
        rename News _ _ _ _ => N6
        refine here_go ?_
        refine kda_set (k := (q : Int)) (knd := PySem.intKind _ _) F5 (News.sub N6 hR31) (.head hR32) hyk3.2.1 (intKind_is _ _ _ _) (by rw [sizeLine_eq]; exact Nat.le_trans (Row.len hyk3) (by have := I3.txtLen; omega)) fun h4 o4 F6 N7 hd4 => ?_
        have N8 := News.sub N7 (hR34 o4 (q : Int) v)
        clear N7 F5
        k_steps
        refine ⟨σ3.put k y3 o4 (q : Int) v, imm3, _, _, v, rfl, fr_same (by assumption) ?_, N8, I3.setRow hy3 hd4 ⟨q, rfl, hq, .inr (by rw [ho3]; exact hres)⟩, S1.trans (Step.close hy S3 hy3 hv3), hres⟩
        rfl
    · rintro s' ⟨σ2, imm2, h2, tk2, v, rfl, F3, N3, I2, S2, hres⟩
      clear N2 F2
      k_steps
      cases hden : P.den i q with
      | none =>
        have hv : v = .none := by unfold ResOk at hres; rw [hden] at hres; exact hres
        subst hv
        k_steps
        obtain ⟨ha1, ta1, ta1', ha2, ta2, z, tz, ha3, ta3, ve, na, hoed, hz1, hz2, hve⟩ := I2.ed
        refine here_go ?_
        refine err_get (by assumption) (by assumption) (err_f w) I2 N3 (fun p hp => hp) hoed (err_f w).pos (v := .int z tz) (by rfl) rfl ?_
        obtain ⟨x2, hx2, hxd2, xok2⟩ := I2.ds i e he
        k_steps
        · refine here_go ?_
          refine self_name (by assumption) (by assumption) N3 SA (List.mem_append_right _ (I2.exs i e he).1) (List.mem_append_left _ (mut_ds (List.mem_of_getElem? hx2))) hxd2 xok2.obj fun tn => ?_
          have hnl := I2.good.nmLen i e he
          cases hb : ((e.nm.length : Int) != 0) with
          | true =>
            refine PySem.P.truthy_str (by omega) ?_
            rw [hb]
            k_steps
            obtain ⟨R, hR1, hR2, hR3, hR4⟩ := open_err I2
            refine here_go ?_
            refine err_set (by assumption) (by assumption) (err_f w) I2 (News.sub N3 hR1) (fun p hp => hR4 σ2.oed p hp) hR2 hoed (err_f w).texpr rfl (fun _ _ => (by decide : 3 ≤ 1000)) fun h5 F5 N5 => ?_
            rw [put_expr] at N5
            have I5 := I2.setErr (o' := dictOf [⟨ha1, .str (Str.ofString "text") ta1, .str P.txt ta1'⟩, ⟨ha2, .str (Str.ofString "pos") ta2, .int z tz⟩, ⟨ha3, .str (Str.ofString "expr") ta3, .ref e.a⟩] na) ⟨_, _, _, _, _, _, _, _, _, _, _, rfl, hz1, hz2, .inr ⟨i, e, he, rfl⟩⟩
            clear F3 N3
            k_steps
            rename Fr _ _ _ _ => F6
            rename News _ _ _ _ => N6
            refine here_go ?_
            refine err_set F6 (by assumption) (err_f w) I5 N6 (fun p hp => hR4 _ p hp) hR2 rfl (err_f w).tpos rfl (fun _ _ => (by decide : 3 ≤ 1000)) fun h7 F7 N7 => ?_
            rw [put_pos] at N7
            have I7 := I5.setErr (o' := dictOf [⟨ha1, .str (Str.ofString "text") ta1, .str P.txt ta1'⟩, ⟨ha2, .str (Str.ofString "pos") ta2, .int q tq⟩, ⟨ha3, .str (Str.ofString "expr") ta3, .ref e.a⟩] na) ⟨_, _, _, _, _, _, _, _, _, _, _, rfl, by omega, by omega, .inr ⟨i, e, he, rfl⟩⟩
            have N8 := News.sub N7 (hR4 _)
            clear N7 F6 N6
            k_steps
            rename Fr _ _ _ _ => F9
            rename News _ _ _ _ => N9
            exact ret _ _ _ _ F9 N9 (kept (by assumption) (by assumption) (by assumption) fun _ h => h) ⟨_, imm2, rfl, I7, S2.trans (Step.setErr.trans Step.setErr), hres⟩
          | false =>
            refine PySem.P.truthy_str (by omega) ?_
            rw [hb]
            k_steps
            have hvh : handedIn ve = true := by rcases hve with rfl | ⟨_, _, _, rfl⟩ <;> rfl
            refine here_go ?_
            refine err_get (by assumption) (by assumption) (err_f w) I2 N3 (fun p hp => hp) hoed (err_f w).expr (v := ve) (by rfl) hvh ?_
            rcases hve with rfl | ⟨i2, e2, he2, rfl⟩
            · k_steps
              refine getattr3_none rfl fun h4 tk4 hk4 => ?_
              have F4 := fr_grow F3 hk4
              have N4 := news_grow N3 hk4
              clear F3 N3
              k_steps
              obtain ⟨R, hR1, hR2, hR3, hR4⟩ := open_err I2
              refine here_go ?_
              refine err_set (by assumption) (by assumption) (err_f w) I2 (News.sub N4 hR1) (fun p hp => hR4 σ2.oed p hp) hR2 hoed (err_f w).texpr rfl (fun _ _ => (by decide : 3 ≤ 1000)) fun h5 F5 N5 => ?_
              rw [put_expr] at N5
              have I5 := I2.setErr (o' := dictOf [⟨ha1, .str (Str.ofString "text") ta1, .str P.txt ta1'⟩, ⟨ha2, .str (Str.ofString "pos") ta2, .int z tz⟩, ⟨ha3, .str (Str.ofString "expr") ta3, .ref e.a⟩] na) ⟨_, _, _, _, _, _, _, _, _, _, _, rfl, hz1, hz2, .inr ⟨i, e, he, rfl⟩⟩
              clear F4 N4
              k_steps
              rename Fr _ _ _ _ => F6
              rename News _ _ _ _ => N6
              refine here_go ?_
              refine err_set F6 (by assumption) (err_f w) I5 N6 (fun p hp => hR4 _ p hp) hR2 rfl (err_f w).tpos rfl (fun _ _ => (by decide : 3 ≤ 1000)) fun h7 F7 N7 => ?_
              rw [put_pos] at N7
              have I7 := I5.setErr (o' := dictOf [⟨ha1, .str (Str.ofString "text") ta1, .str P.txt ta1'⟩, ⟨ha2, .str (Str.ofString "pos") ta2, .int q tq⟩, ⟨ha3, .str (Str.ofString "expr") ta3, .ref e.a⟩] na) ⟨_, _, _, _, _, _, _, _, _, _, _, rfl, by omega, by omega, .inr ⟨i, e, he, rfl⟩⟩
              have N8 := News.sub N7 (hR4 _)
              clear N7 F6 N6
              k_steps
              rename Fr _ _ _ _ => F9
              rename News _ _ _ _ => N9
              exact ret _ _ _ _ F9 N9 (kept (by assumption) (by assumption) (by assumption) fun _ h => h) ⟨_, imm2, rfl, I7, S2.trans (Step.setErr.trans Step.setErr), hres⟩
            · k_steps
              obtain ⟨x3, hx3, hxd3, xok3⟩ := I2.ds i2 e2 he2
              obtain ⟨C3, j3, SA3⟩ := self_of w (I2.exs i2 e2 he2).2.1
              refine self_getname (by assumption) (by assumption) N3 SA3 (List.mem_append_right _ (I2.exs i2 e2 he2).1) (List.mem_append_left _ (mut_ds (List.mem_of_getElem? hx3))) hxd3 xok3.obj fun tn3 => ?_
              k_steps
              rename Fr _ _ _ _ => F9
              rename News _ _ _ _ => N9
              exact ret _ _ _ _ F9 N9 (kept (by assumption) (by assumption) (by assumption) fun _ h => h) ⟨σ2, imm2, rfl, I2, S2, hres⟩
        · rename Fr _ _ _ _ => F9
          rename News _ _ _ _ => N9
          exact ret _ _ _ _ F9 N9 (kept (by assumption) (by assumption) (by assumption) fun _ h => h) ⟨σ2, imm2, rfl, I2, S2, hres⟩
      | some r =>
        obtain ⟨q', c⟩ := r
        have hv : ∃ nd, v = .ref nd ∧ NodeOk P.Γ P.txt imm2 (P.μ i q + 1) nd i q q' c := by unfold ResOk at hres; rw [hden] at hres; exact hres
        obtain ⟨nd, rfl, hnd⟩ := hv
        have hne : nd ≠ 220 := fun e => res_ne (K := Mine.hd.heap_39 w.params) (by assumption) ⟨_, by k_is⟩ N3 (fun p hp => List.mem_append_right _ hp) hres (congrArg Value.ref e)
        obtain ⟨e', d', ch', vs', n', cs', t1', t2', t3', _, hnm, _⟩ := hnd
        refine kto_is (N3 _ (List.mem_append_right _ hnm)).1 ((Frag.In.keeps (by assumption) (Fr.keep F3)) 220 _ (by k_is)) hne (by intro h; cases h) ?_
        k_steps
        rename Fr _ _ _ _ => F9
        rename News _ _ _ _ => N9
        exact ret _ _ _ _ F9 N9 (kept (by assumption) (by assumption) (by assumption) fun _ h => h) ⟨σ2, imm2, rfl, I2, S2, hres⟩
  k_steps
  rename Fr _ _ _ _ => F1
  rename News _ _ _ _ => N1
  rename Frag.In _ _ => X1
  refine gen_led N1 fun led hl N1' => ?_
  have hin : ∀ p ∈ σ.mut P ++ imm, p ∈ led := by rw [hl]; exact fun p hp => .tail _ hp
  refine getattr_oids F1 X1 N1' SA.cls SA.hC SA.hd SA.hn (hin _ (List.mem_append_right _ eok.1)) (hin _ (List.mem_append_left _ (mut_ds (List.mem_of_getElem? hx)))) hxd (xok.obj.mono fun p hp => hin _ (List.mem_append_right _ hp)) (by rw [hl]; exact .head _) rfl ?_
  intro h2 tk2 t2 F2 N2 ht2 hr2
  have hmC : (P.C, σ.oc) ∈ led := hin _ (List.mem_append_left _ mut_oc)
  have hocd := I.oc
  have hlow := I.lowC
  refine gen_fr F2 fun m0 hm0 F2' => ?_
  refine for_tuple (n₀ := 0) (t := t2) (vs := x.prs.map fun r => .ref r.a) (fun n m' led' => led' = led ∧ (∀ z, z ≠ Str.ofString "oid" → z ≠ Str.ofString "expr_cache" → m' z = m0 z) ∧ ∀ k r, k < n → x.prs[k]? = some r → valueAt (ckv σ.rows) (r.k : Int) ≠ some (.ref r.r)) (by exact rfl) rfl ?_ F2' N2 ⟨rfl, (fun _ _ _ => rfl), fun k r hk => absurd hk (Nat.not_lt_zero _)⟩ ?_ ?_
  · rintro n m' led' ⟨rfl, _⟩
    exact ht2
  · rintro n v m1 led' Ia o h tk hv ⟨rfl, hm1, hpast⟩ F3 N3 hne hlt
    obtain ⟨r, hr, rfl⟩ : ∃ r, x.prs[n]? = some r ∧ v = .ref r.a := by
      rw [List.getElem?_map] at hv
      obtain ⟨r, a1, a2⟩ := Option.map_eq_some_iff.mp hv
      exact ⟨r, a1, a2.symm⟩
    obtain ⟨tk3, hr3⟩ := hr2 r (List.mem_of_getElem? hr)
    have F4 := fr_twoM F3 hm1
    subst hm0
    clear F3 F2 F2' F1 N1 N1' N2
    refine unpackN_ F4 N3 (News.isTup N3 (.tail _ hr3)) rfl rfl rfl fun h5 F5 N5 => ?_
    clear F4 N3
    k_steps
    rw [ckv_at]
    cases hva : σ.rows[r.k]? with
    | none =>
      simp only [Option.map_none, Option.getD_none]
      k_steps
      refine ⟨_, _, _, _, rfl, by assumption, by assumption, hne, rfl, ?_, ?_⟩
      · intro z h1 h2; simp only [if_neg h1, if_neg h2]
      · intro k r' hk' hr'
        by_cases hkn : k < n
        · exact hpast k r' hkn hr'
        · obtain rfl : k = n := by omega
          rw [hr] at hr'; cases hr'
          rw [ckv_at, hva]; simp
    | some y =>
      simp only [Option.map_some, Option.getD_some]
      by_cases hyr : y.r = r.r
      · rw [hyr]
        k_steps
        refine ⟨rfl, σ, imm, _, _, some (.int (r.k : Int) tk3), r.k, y, rfl, fr_eqM (by assumption) ?_, News.sub (by assumption) (fun p hp => .tail _ (hin p hp)), I, Step.refl _ _ _, hva, xok.mine r (List.mem_of_getElem? hr) y hva hyr⟩
        funext z
        simp only [hyr]
        (repeat' split) <;> rfl
      · obtain ⟨pr, hpr, epr⟩ := List.mem_map.mp (xok.old r (List.mem_of_getElem? hr))
        rename News _ _ _ _ => N6
        refine kto_is (N6 _ (.tail _ (hin _ (List.mem_append_left _ (mut_rows (List.mem_of_getElem? hva)))))).1 (oy := pr.2) (by rw [← epr]; exact (N6 _ (.tail _ (hin _ hpr))).1) hyr (dict_not_tuple (I.rows y (List.mem_of_getElem? hva)).2.1) ?_
        k_steps
        refine ⟨_, _, _, _, rfl, by assumption, by assumption, hne, rfl, ?_, ?_⟩
        · intro z h1 h2; simp only [if_neg h1, if_neg h2]
        · intro k r' hk' hr'
          by_cases hkn : k < n
          · exact hpast k r' hkn hr'
          · obtain rfl : k = n := by omega
            rw [hr] at hr'; cases hr'
            rw [ckv_at, hva]
            intro q; exact hyr (by simpa using q)
  · rintro m1 led' h3 tk3 ⟨rfl, hm1, hpast⟩ F3 N3
    have F4 := fr_twoM F3 hm1
    subst hm0
    clear F3 F2 F2' F1 N1 N1' N2
    dsimp only
    k_steps
    rename Fr _ _ _ _ => F5
    rename News _ _ _ _ => N5
    rename Obj.IsDictOf (PySem.intKind _ _) _ [] => hi1
    rename (∀ p, p ∈ led' → _ < _) => hl5
    rename (∀ p, p ∈ σ.mut P ++ imm → _ < _) => hl4
    have hfew := rows_few I
    obtain ⟨R, hR1, hR2, hR3, hCx, hxt, htd, hR4, hR5, hR6⟩ := else_led I hx hl hl4 hl5
    have N6 := News.sub N5 hR1
    refine here_go ?_
    refine kda_len (knd := PySem.intKind _ _) N6 (.head _) hocd hlow (by rw [ckvFrom_length]; omega) ?_
    rw [ckvFrom_length]
    clear N5
    k_steps
    refine here_go ?_
    refine kda_set (k := (σ.rows.length : Int)) (knd := PySem.intKind _ _) F5 N6 (.head hR2) hocd (intKind_is _ _ _ _) (by rw [sizeLine_eq, ckvFrom_length]; omega) fun h6 oc6 F6 N7 hd6 => ?_
    clear N6 F5
    k_steps
    refine here_go ?_
    refine kda_len (knd := PySem.intKind _ _) N7 (.head _) hd6 hlow (by rw [stored_ckv_len]; omega) ?_
    rw [stored_ckv_len]
    k_steps
    rename_i D2 _ k2 D1 _ k1 D0 _ F8 N8 k0
    have e1 : ((σ.rows.length + 1 : Nat) : Int) - 1 = (σ.rows.length : Int) := by omega
    rw [e1] at N8
    have hxok := xok.obj
    refine getattr_oids F8 (by assumption) N8 SA.cls SA.hC SA.hd SA.hn (.tail _ (.tail _ (.tail _ (.tail _ (.tail _ (.tail _ (.tail _ (hR5 _ eok.1)))))))) (.tail _ (.tail _ (.tail _ (.tail _ (.head _))))) hxd
      (hxok.mono fun p hp => .tail _ (.tail _ (.tail _ (.tail _ (.tail _ (.tail _ (.tail _ (hR5 p hp)))))))) (.head _) rfl ?_
    intro h9 tk9 t9 F9 N9 ht9 hr9
    clear F8 N8
    k_steps
    refine here_go ?_
    refine add_tup (v := .ref D2) F9 N9 (.tail _ (.head _)) ht9 (by rw [List.length_map]; exact Nat.le_trans xok.len (by have := I.B; omega)) fun t' h10 F10 N10 hlt => ?_
    clear F9 N9
    k_steps
    have hDt : @LT.lt Nat _ D2 t' := by
      rcases hlt with rfl | hlt
      · exact k1.1
      · exact hlt _ (.tail _ (.tail _ (.head _)))
    refine here_go ?_
    refine self_set_oids (imm := imm) (by assumption) (by assumption) N10 SA (.tail _ (.tail _ (.tail _ (.tail _ (.tail _ (.tail _ (.tail _ (.tail _ (hR5 _ eok.1))))))))) (.tail _ (.tail _ (.tail _ (.tail _ (.tail _ (.head _)))))) hxd hxok
      (.tail ?_ (.tail ?_ (.tail ?_ (.tail ?_ (.tail hCx (.head ?_)))))) fun h11 hsh tk11 n11 F11 N11 => ?_
    · exact (Nat.ne_of_lt (Nat.lt_trans k2.2.1 hDt)).symm
    · exact (Nat.ne_of_lt k0.2.2.2.1).symm
    · exact (Nat.ne_of_lt k1.2.2.1).symm
    · exact (Nat.ne_of_lt k2.2.1).symm
    · intro p hp
      rcases List.mem_cons.mp hp with rfl | hp
      · exact (Nat.ne_of_lt (Nat.lt_trans hxt htd)).symm
      rcases List.mem_cons.mp hp with rfl | hp
      · exact (Nat.ne_of_lt hxt).symm
      · exact hR3 p hp
    rename (_ == sysModules) = false => hlow1
    have hnew := I.newRow he hx (no_row xok hpast) hd6 hi1 hlow1 (od' := dictOf [⟨hsh, .str (Str.ofString "oids") tk11, .ref t'⟩] n11) rfl
      (ex := [(t', tupObj (.ref D2 :: x.prs.map fun r => .ref r.a)), (D2, tupObj [.int (σ.rows.length : Int) (tk + 1 + 1 + 1), .ref _])]) (.head _) (.tail _ (.head _)) hxok.prs
      (fun p hp => Nat.lt_trans (hl4 p hp) htd)
      (fun z hz p hp => by
        have h1 := Nat.lt_trans (hl4 p hp) k2.2.2.2.1
        rcases List.mem_cons.mp hz with rfl | hz
        · exact Nat.lt_trans h1 hDt
        · rw [List.mem_singleton.mp hz]; exact h1)
      (fun z hz => by
        rcases List.mem_cons.mp hz with rfl | hz
        · exact Nat.ne_of_lt (Nat.lt_trans k2.2.2.1 hDt)
        · rw [List.mem_singleton.mp hz]; exact Nat.ne_of_lt k2.2.2.1)
    obtain ⟨I12, S12⟩ := hnew
    clear N10
    k_steps
    rename Fr _ _ _ _ => F12
    rename News _ _ _ _ => N12
    refine ⟨rfl, _, _, _, _, m1 (Str.ofString "oid"), σ.rows.length, _, rfl, fr_same F12 ?_, News.sub N12 ?_, I12, S12, snoc_at, rfl⟩
    · funext z
      by_cases h1 : z = Str.ofString "expr_cache"
      · simp only [if_pos h1]
      · by_cases h2 : z = Str.ofString "oid"
        · subst h2; simp only [if_neg h1, if_true]
        · simp only [if_neg h1, if_neg h2]
    · intro p hp
      have := hR6 _ _ _ _ _ _ p hp
      rcases List.mem_cons.mp this with rfl | h
      · exact .tail _ (.tail _ (.tail _ (.tail _ (.head _))))
      rcases List.mem_cons.mp h with rfl | h
      · exact .tail _ (.tail _ (.tail _ (.tail _ (.tail _ (.head _)))))
      rcases List.mem_cons.mp h with rfl | h
      · exact .tail _ (.tail _ (.tail _ (.tail _ (.tail _ (.tail _ (.head _))))))
      rcases List.mem_cons.mp h with rfl | h
      · exact .head _
      rcases List.mem_cons.mp h with rfl | h
      · exact .tail _ (.tail _ (.tail _ (.head _)))
      · exact .tail _ (.tail _ (.tail _ (.tail _ (.tail _ (.tail _ (.tail _ (.tail _ h)))))))
end Mine
end
section
example : True := by
  w_top off
  trivial
open PySem PySem.W PyProof.Rows PySem.Spec PySem.Calls
namespace Mine
local macro_rules | `(tactic| k_room) => `(tactic| ktr_room)
local macro_rules | `(tactic| k_units) => `(tactic| ktr_units)
local macro_rules | `(tactic| k_all) => `(tactic| (refine up_neAll (by assumption) ?_; first | tbn_find | exact allLt_of (by assumption)))
local macro_rules | `(tactic| k_all) => `(tactic| (refine tbn_neAll ?_; first | tbn_find | exact allLt_of (by assumption)))
local macro_rules | `(tactic| ks_enter) => `(tactic| (refine' ks_code_super ?k1 ?k2 ?k3 ?k4 ?k5 ?kA ?kF ?kK ?k6 ?k7 ?k8 ?k9 ?kB ?_ ?c1 ?c2 ?c3 ?c4; (case kA => exact rfl); (case kF => exact rfl); (case kK => first | exact rfl | assumption); (case k1 => k_asm); (case k2 => k_asm); (case k3 => k_asm); (case k4 => k_asm); (case k5 => k_asm); (case k6 => k_is); (case k7 => k_is); (case k8 => k_room); (case k9 => exact binds_K (by k_in) rfl (by k_is) rfl rfl rfl); (case kB => exact locs rfl); (case c1 => decide); (case c2 => exact rfl); (case c3 => exact rfl); (case c4 => exact rfl); intro g' L' h' FG' F' N' B' X' T' l1; (try k_lt l1); (try dsimp only); (try k_lift B')))
local macro_rules | `(tactic| ks_enter) => `(tactic| (refine' superMore ?k1 ?k2 ?k3 ?k4 ?k5 ?kA ?kF ?kK ?k6 ?k7 ?k8 ?kX ?kM ?kN ?kR ?kP ?kT ?kB ?_ ?c2 ?c3 ?c4 ?c5; (case kA => exact rfl); (case kF => exact rfl); (case kK => first | exact rfl | assumption); (case k1 => k_asm); (case k2 => k_asm); (case k3 => k_asm); (case k4 => k_asm); (case k5 => k_asm); (case k6 => k_is); (case k7 => k_is); (case k8 => k_room); (case kX => kp_lit); (case kM => exact rfl); (case kN => exact rfl); (case kR => exact rfl); (case kP => exact rfl); (case kT => exact fun _ => rfl); (case kB => exact fun _ => locs rfl); (case c5 => decide); (case c2 => exact rfl); (case c3 => exact rfl); (case c4 => exact rfl); intro D' o' g' L' h' tk' l1 lo' hs' FG' F' N' B' X' T' l2; (try k_lt l1); (try k_lt2 l2); (try dsimp only); (try k_lift B')))
local macro_rules | `(tactic| ks_enter) => `(tactic| (refine' superBoth ?k1 ?k2 ?k3 ?k4 ?k5 ?kA ?kF ?kK ?k6 ?k7 ?k8 ?kV ?kX ?kQ ?kM ?kN ?kR ?kP ?kS ?kT ?kB ?_ ?c2 ?c3 ?c4 ?c5; (case kA => exact rfl); (case kF => exact rfl); (case kK => first | exact rfl | assumption); (case k1 => k_asm); (case k2 => k_asm); (case k3 => k_asm); (case k4 => k_asm); (case k5 => k_asm); (case k6 => k_is); (case k7 => k_is); (case k8 => k_room); (case kV => kp_lit); (case kX => kp_lit); (case kQ => exact rfl); (case kM => exact rfl); (case kN => exact rfl); (case kR => exact rfl); (case kP => exact rfl); (case kS => exact fun _ => rfl); (case kT => exact fun _ _ => rfl); (case kB => exact fun _ _ => locs rfl); (case c5 => decide); (case c2 => exact rfl); (case c3 => exact rfl); (case c4 => exact rfl); intro C' D' o' g' L' h' tk' l1 l2 lo' hs' FG' F' N' B' X' T' l3; (try k_lt l1); (try k_lt2 l2); (try k_lt2 l3); (try dsimp only); (try k_lift B')))
local macro_rules | `(tactic| walk_at "wpAt") => `(tactic| (ks_step "execs cons"; k_dflt (refine ks_wpAt_execs_cons ?_)))
local macro_rules | `(tactic| walk_at "wpAt") => `(tactic| (ks_step "exec Expr"; k_dflt (refine ks_wpAt_Expr_any ?_)))
local macro_rules | `(tactic| walk_at "wpAt") => `(tactic| (ks_step "eval Call"; k_dflt (refine ks_wpAt_MethodCall ?_)))
local macro_rules | `(tactic| k_mem) => `(tactic| first | assumption | exact List.mem_cons_self | exact List.Mem.head _ | (refine' List.mem_cons_of_mem _ ?_; k_mem))
set_option hygiene false in
theorem um_lit {w : World} {p : Program} {loose : List Str} {mean : ExcName → Option Value} {mg mb : Str → Option Value} {P : PP} {i q : Nat} {e : Ex} {c : Str}
    (he : P.Γ[i]? = some e) (hkd : e.k = .lit c) : UMC w p loose mean mg mb P i q := by
  intro e' he' hq σ imm tt tq I hlat
  rw [he] at he'
  cases he'
  rw [hkd, show umOf (.lit c) = 325 from rfl]
  obtain ⟨x, hx, hxd, xok⟩ := I.ds i e he
  have eok := I.exs i e he
  obtain ⟨it, t1, t2, heo⟩ : ∃ it t1 t2, e.o = litObj e.d c e.nm it t1 t2 := by have := eok.2.1; unfold Ex.instOk at this; rw [hkd] at this; exact this
  have hg : P.den i q = if Txt.startswith3 P.txt c (q : Int) = true then some (q + c.length, e.own) else none := by
    have := I.good.at_ i e q he hq; unfold GoodAt at this; rw [hkd] at this; exact this
  have hcl := I.good.litLen i e c he hkd
  have htl := I.txtLen
  intro dp un gd cn cs a ccd cl outer A₀ base h₀ L m s Q E B F X N T hk hdp hun ret
  refine gen_led N fun led hl N1 => ?_
  clear N
  have hem : (e.a, litObj e.d c e.nm it t1 t2) ∈ led := by rw [hl, ← heo]; exact List.mem_append_right _ eok.1
  have hxm : (e.d, x.o) ∈ led := by rw [hl, ← hxd]; exact List.mem_append_left _ (mut_ds (List.mem_of_getElem? hx))
  refine wpAny_call ?_
  k_dflt (refine' code_defG ?k1 ?k2 ?k3 ?k4 ?k5 ?kA ?kF ?kK ?k6 ?k7 ?k8 ?k9 ?kB ?_ ?c2 ?c3 ?c4 ?c5; (case kA => exact rfl); (case kF => exact rfl); (case kK => first | assumption | exact rfl); (case k1 => k_asm); (case k2 => k_asm); (case k3 => k_asm); (case k4 => k_asm); (case k5 => k_asm); (case k6 => k_is); (case k7 => k_is); (case k8 => ktr_room); (case k9 => first | exact BindsTo.of_eq rfl | exact binds_K (by k_in) rfl (by k_is) rfl rfl rfl); (case c5 => decide); (case kB => exact locs rfl); (case c2 => exact rfl); (case c3 => exact rfl); (case c4 => exact rfl); k_whole; intro g' L' h' FG' F' N' B' X' T' G'; (try dsimp only); (try k_fold))
  k_steps
  · rename Fr _ _ _ _ => F9
    rename News _ _ _ _ => N9
    rename (∀ p, p ∈ led → _ < _) => hw1
    rename (_ ∧ _ ∧ AllLt _ led) => hw2
    rename @LT.lt Nat _ _ _ => hw3
    rename Txt.startswith3 _ _ _ = true => hst
    rw [← Int.natCast_add] at N9
    obtain ⟨imm', hs, I', S', hr⟩ := leaf_post I he hl hw1 hw3 hw2.1 (by rw [hg, if_pos hst])
    exact ret _ _ _ _ F9 (News.sub N9 hs) (kept (by rw [← hl]; assumption) (by assumption) (by assumption) hs) ⟨σ, imm', rfl, I', S', hr⟩
  · rename Fr _ _ _ _ => F9
    rename News _ _ _ _ => N9
    rename Txt.startswith3 _ _ _ = false => hst
    exact ret _ _ _ _ F9 (News.sub N9 fun p hp => by rw [hl]; exact hp) (kept (by rw [← hl]; assumption) (by assumption) (by assumption) fun p hp => by rw [hl]; exact hp) ⟨σ, imm, rfl, I, Step.refl _ _ _, by unfold ResOk; rw [hg, hst]; rfl⟩
end Mine
end
section
example : True := by
  w_top off
  trivial
open PySem PySem.W PyProof.Rows PySem.Spec PySem.Calls
namespace Mine
local macro_rules | `(tactic| k_room) => `(tactic| ktr_room)
local macro_rules | `(tactic| k_units) => `(tactic| ktr_units)
local macro_rules | `(tactic| k_all) => `(tactic| (refine up_neAll (by assumption) ?_; first | tbn_find | exact allLt_of (by assumption)))
local macro_rules | `(tactic| k_all) => `(tactic| (refine tbn_neAll ?_; first | tbn_find | exact allLt_of (by assumption)))
local macro_rules | `(tactic| ks_enter) => `(tactic| (refine' ks_code_super ?k1 ?k2 ?k3 ?k4 ?k5 ?kA ?kF ?kK ?k6 ?k7 ?k8 ?k9 ?kB ?_ ?c1 ?c2 ?c3 ?c4; (case kA => exact rfl); (case kF => exact rfl); (case kK => first | exact rfl | assumption); (case k1 => k_asm); (case k2 => k_asm); (case k3 => k_asm); (case k4 => k_asm); (case k5 => k_asm); (case k6 => k_is); (case k7 => k_is); (case k8 => k_room); (case k9 => exact binds_K (by k_in) rfl (by k_is) rfl rfl rfl); (case kB => exact locs rfl); (case c1 => decide); (case c2 => exact rfl); (case c3 => exact rfl); (case c4 => exact rfl); intro g' L' h' FG' F' N' B' X' T' l1; (try k_lt l1); (try dsimp only); (try k_lift B')))
local macro_rules | `(tactic| ks_enter) => `(tactic| (refine' superMore ?k1 ?k2 ?k3 ?k4 ?k5 ?kA ?kF ?kK ?k6 ?k7 ?k8 ?kX ?kM ?kN ?kR ?kP ?kT ?kB ?_ ?c2 ?c3 ?c4 ?c5; (case kA => exact rfl); (case kF => exact rfl); (case kK => first | exact rfl | assumption); (case k1 => k_asm); (case k2 => k_asm); (case k3 => k_asm); (case k4 => k_asm); (case k5 => k_asm); (case k6 => k_is); (case k7 => k_is); (case k8 => k_room); (case kX => kp_lit); (case kM => exact rfl); (case kN => exact rfl); (case kR => exact rfl); (case kP => exact rfl); (case kT => exact fun _ => rfl); (case kB => exact fun _ => locs rfl); (case c5 => decide); (case c2 => exact rfl); (case c3 => exact rfl); (case c4 => exact rfl); intro D' o' g' L' h' tk' l1 lo' hs' FG' F' N' B' X' T' l2; (try k_lt l1); (try k_lt2 l2); (try dsimp only); (try k_lift B')))
local macro_rules | `(tactic| ks_enter) => `(tactic| (refine' superBoth ?k1 ?k2 ?k3 ?k4 ?k5 ?kA ?kF ?kK ?k6 ?k7 ?k8 ?kV ?kX ?kQ ?kM ?kN ?kR ?kP ?kS ?kT ?kB ?_ ?c2 ?c3 ?c4 ?c5; (case kA => exact rfl); (case kF => exact rfl); (case kK => first | exact rfl | assumption); (case k1 => k_asm); (case k2 => k_asm); (case k3 => k_asm); (case k4 => k_asm); (case k5 => k_asm); (case k6 => k_is); (case k7 => k_is); (case k8 => k_room); (case kV => kp_lit); (case kX => kp_lit); (case kQ => exact rfl); (case kM => exact rfl); (case kN => exact rfl); (case kR => exact rfl); (case kP => exact rfl); (case kS => exact fun _ => rfl); (case kT => exact fun _ _ => rfl); (case kB => exact fun _ _ => locs rfl); (case c5 => decide); (case c2 => exact rfl); (case c3 => exact rfl); (case c4 => exact rfl); intro C' D' o' g' L' h' tk' l1 l2 lo' hs' FG' F' N' B' X' T' l3; (try k_lt l1); (try k_lt2 l2); (try k_lt2 l3); (try dsimp only); (try k_lift B')))
local macro_rules | `(tactic| walk_at "wpAt") => `(tactic| (ks_step "execs cons"; k_dflt (refine ks_wpAt_execs_cons ?_)))
local macro_rules | `(tactic| walk_at "wpAt") => `(tactic| (ks_step "exec Expr"; k_dflt (refine ks_wpAt_Expr_any ?_)))
local macro_rules | `(tactic| walk_at "wpAt") => `(tactic| (ks_step "eval Call"; k_dflt (refine ks_wpAt_MethodCall ?_)))
local macro_rules | `(tactic| k_mem) => `(tactic| first | assumption | exact List.mem_cons_self | exact List.Mem.head _ | (refine' List.mem_cons_of_mem _ ?_; k_mem))
local macro_rules | `(tactic| walk_at "getMethod ref") => `(tactic| (k_here; (with_reducible show wpAny _ _ (getMethod (Value.ref _) (Str.ofString "match_core") _) _ _ _); k_dflt (refine here_stop ?_)))
theorem mem_of (Γ : List Ex) {m : Nat} (h : m < Γ.length) : ∃ em, Γ[m]? = some em ∧ addrOf Γ m = em.a := ⟨Γ[m], by simp [h], by simp [addrOf, h]⟩
set_option hygiene false in
theorem um_look {w : World} {p : Program} {loose : List Str} {mean : ExcName → Option Value} {mg mb : Str → Option Value} {P : PP} {i q : Nat} {e : Ex} {neg : Bool} {m1 : Nat}
    (IH : ∀ i' q', P.μ i' q' < P.μ i q → MC w p loose mean mg mb P i' q') (he : P.Γ[i]? = some e) (hkd : e.k = .look neg m1) : UMC w p loose mean mg mb P i q := by
  intro e' he' hq σ imm tt tq I hlat
  rw [he] at he'
  cases he'
  rw [hkd, show umOf (.look neg m1) = 447 from rfl]
  obtain ⟨x, hx, hxd, xok⟩ := I.ds i e he
  have eok := I.exs i e he
  obtain ⟨it, t2, heo⟩ : ∃ it t2, e.o = lookObj e.d e.t neg e.nm it t2 := by have := eok.2.1; unfold Ex.instOk at this; rw [hkd] at this; exact this
  have hg := I.good.at_ i e q he hq
  unfold GoodAt at hg
  rw [hkd] at hg
  obtain ⟨hm, hmu, hden⟩ := hg
  have htup : (e.t, tupObj [.ref (addrOf P.Γ m1)]) ∈ imm := eok.2.2 _ (by rw [hkd]; rfl)
  obtain ⟨em, hem1, hem2⟩ := mem_of P.Γ hm
  rw [hem2] at htup
  obtain ⟨xm, hxm1, hxm2, xmok⟩ := I.ds m1 em hem1
  have emok := I.exs m1 em hem1
  obtain ⟨Cm, jm, SAm⟩ := self_of w emok.2.1
  have htl := I.txtLen
  intro dp un gd cn cs a ccd cl outer A₀ base h₀ L m s Q E B F X N T hk hdp hun ret
  refine gen_led N fun led hl N1 => ?_
  clear N
  have hea : (e.a, lookObj e.d e.t neg e.nm it t2) ∈ led := by rw [hl, ← heo]; exact List.mem_append_right _ eok.1
  have hxa : (e.d, x.o) ∈ led := by rw [hl, ← hxd]; exact List.mem_append_left _ (mut_ds (List.mem_of_getElem? hx))
  have hta : (e.t, tupObj [.ref em.a]) ∈ led := by rw [hl]; exact List.mem_append_right _ htup
  refine wpAny_call ?_
  k_dflt (refine' code_defG ?k1 ?k2 ?k3 ?k4 ?k5 ?kA ?kF ?kK ?k6 ?k7 ?k8 ?k9 ?kB ?_ ?c2 ?c3 ?c4 ?c5; (case kA => exact rfl); (case kF => exact rfl); (case kK => first | assumption | exact rfl); (case k1 => k_asm); (case k2 => k_asm); (case k3 => k_asm); (case k4 => k_asm); (case k5 => k_asm); (case k6 => k_is); (case k7 => k_is); (case k8 => ktr_room); (case k9 => first | exact BindsTo.of_eq rfl | exact binds_K (by k_in) rfl (by k_is) rfl rfl rfl); (case c5 => decide); (case kB => exact locs rfl); (case c2 => exact rfl); (case c3 => exact rfl); (case c4 => exact rfl); k_whole; intro g' L' h' FG' F' N' B' X' T' G'; (try dsimp only); (try k_fold))
  k_steps
  rename News _ _ _ _ => N2
  refine here_go ?_
  refine self_mc (by assumption) (by assumption) N2 SAm (by rw [hl]; exact List.mem_append_right _ emok.1) (by rw [hl]; exact List.mem_append_left _ (mut_ds (List.mem_of_getElem? hxm1))) hxm2 xmok.obj fun f hf hkf => ?_
  dsimp only
  refine callWith_K (by assumption) hkf ?_
  k_steps
  rw [hf]
  have MCm := IH m1 q hmu hm hq σ imm tt tq I (hlat.toLater hmu)
  rw [hem2, ← hl] at MCm
  refine Calls.use (by assumption) (by assumption) (by assumption) N2 (by assumption) rfl MCm ?dd ?uu ?_
  case dd => exact Nat.lt_of_le_of_lt (show dp + 1 + (4 * P.μ m1 q + 8) ≤ dp + (4 * P.μ i q + 6) by omega) hdp
  case uu => exact Nat.lt_of_le_of_lt (show un + 3 + (40 * P.μ m1 q + 100) ≤ un + (40 * P.μ i q + 80) by omega) hun
  rintro v _ h3 tk3 F4 N6 ⟨σ3, imm3, rfl, I3, S3, hres⟩
  clear N2
  obtain ⟨x3, hx3, hxd3, xok3⟩ := I3.ds i e he
  have eok3 := I3.exs i e he
  refine gen_led N6 fun led3 hl3 N7 => ?_
  clear N6
  have hea : (e.a, lookObj e.d e.t neg e.nm it t2) ∈ led3 := by rw [hl3, ← heo]; exact List.mem_append_right _ eok3.1
  have hxa : (e.d, x3.o) ∈ led3 := by rw [hl3, ← hxd3]; exact List.mem_append_left _ (mut_ds (List.mem_of_getElem? hx3))
  cases hd : P.den m1 q with
  | none =>
    have hv : v = .none := by unfold ResOk at hres; rw [hd] at hres; exact hres
    subst hv
    cases neg with
    | true =>
      k_steps
      rename Fr _ _ _ _ => F9
      rename News _ _ _ _ => N9
      rename (∀ p, p ∈ led3 → _ < _) => hw1
      rename (_ ∧ _ ∧ AllLt _ led3) => hw2
      rename @LT.lt Nat _ _ _ => hw3
      obtain ⟨imm', hs, I', S', hr⟩ := leaf_post I3 he hl3 hw1 hw3 hw2.1 (by rw [hden, hd]; rfl)
      exact ret _ _ _ _ F9 (News.sub N9 hs) (kept (by rw [← hl]; assumption) (by assumption) (by assumption) hs) ⟨σ3, imm', rfl, I', S3.trans S', hr⟩
    | false =>
      k_steps
      rename Fr _ _ _ _ => F9
      rename News _ _ _ _ => N9
      exact ret _ _ _ _ F9 (News.sub N9 fun p hp => by rw [hl3]; exact hp) (kept (by rw [← hl]; assumption) (by assumption) (by assumption) fun p hp => by rw [hl3]; exact hp) ⟨σ3, imm3, rfl, I3, S3, by unfold ResOk; rw [hden, hd]; rfl⟩
  | some r =>
    have hv : ∃ nd, v = .ref nd := by unfold ResOk at hres; rw [hd] at hres; obtain ⟨nd, h, _⟩ := hres; exact ⟨nd, h⟩
    obtain ⟨nd, rfl⟩ := hv
    cases neg with
    | true =>
      k_steps
      rename Fr _ _ _ _ => F9
      rename News _ _ _ _ => N9
      exact ret _ _ _ _ F9 (News.sub N9 fun p hp => by rw [hl3]; exact hp) (kept (by rw [← hl]; assumption) (by assumption) (by assumption) fun p hp => by rw [hl3]; exact hp) ⟨σ3, imm3, rfl, I3, S3, by unfold ResOk; rw [hden, hd]; rfl⟩
    | false =>
      k_steps
      rename Fr _ _ _ _ => F9
      rename News _ _ _ _ => N9
      rename (∀ p, p ∈ led3 → _ < _) => hw1
      rename (_ ∧ _ ∧ AllLt _ led3) => hw2
      rename @LT.lt Nat _ _ _ => hw3
      obtain ⟨imm', hs, I', S', hr⟩ := leaf_post I3 he hl3 hw1 hw3 hw2.1 (by rw [hden, hd]; rfl)
      exact ret _ _ _ _ F9 (News.sub N9 hs) (kept (by rw [← hl]; assumption) (by assumption) (by assumption) hs) ⟨σ3, imm', rfl, I', S3.trans S', hr⟩
end Mine
end
section
example : True := by
  w_top off
  trivial
open PySem PySem.W PyProof.Rows PySem.Spec PySem.Calls
namespace Mine
local macro_rules | `(tactic| k_room) => `(tactic| ktr_room)
local macro_rules | `(tactic| k_units) => `(tactic| ktr_units)
local macro_rules | `(tactic| k_all) => `(tactic| (refine up_neAll (by assumption) ?_; first | tbn_find | exact allLt_of (by assumption)))
local macro_rules | `(tactic| k_all) => `(tactic| (refine tbn_neAll ?_; first | tbn_find | exact allLt_of (by assumption)))
local macro_rules | `(tactic| ks_enter) => `(tactic| (refine' ks_code_super ?k1 ?k2 ?k3 ?k4 ?k5 ?kA ?kF ?kK ?k6 ?k7 ?k8 ?k9 ?kB ?_ ?c1 ?c2 ?c3 ?c4; (case kA => exact rfl); (case kF => exact rfl); (case kK => first | exact rfl | assumption); (case k1 => k_asm); (case k2 => k_asm); (case k3 => k_asm); (case k4 => k_asm); (case k5 => k_asm); (case k6 => k_is); (case k7 => k_is); (case k8 => k_room); (case k9 => exact binds_K (by k_in) rfl (by k_is) rfl rfl rfl); (case kB => exact locs rfl); (case c1 => decide); (case c2 => exact rfl); (case c3 => exact rfl); (case c4 => exact rfl); intro g' L' h' FG' F' N' B' X' T' l1; (try k_lt l1); (try dsimp only); (try k_lift B')))
local macro_rules | `(tactic| ks_enter) => `(tactic| (refine' superMore ?k1 ?k2 ?k3 ?k4 ?k5 ?kA ?kF ?kK ?k6 ?k7 ?k8 ?kX ?kM ?kN ?kR ?kP ?kT ?kB ?_ ?c2 ?c3 ?c4 ?c5; (case kA => exact rfl); (case kF => exact rfl); (case kK => first | exact rfl | assumption); (case k1 => k_asm); (case k2 => k_asm); (case k3 => k_asm); (case k4 => k_asm); (case k5 => k_asm); (case k6 => k_is); (case k7 => k_is); (case k8 => k_room); (case kX => kp_lit); (case kM => exact rfl); (case kN => exact rfl); (case kR => exact rfl); (case kP => exact rfl); (case kT => exact fun _ => rfl); (case kB => exact fun _ => locs rfl); (case c5 => decide); (case c2 => exact rfl); (case c3 => exact rfl); (case c4 => exact rfl); intro D' o' g' L' h' tk' l1 lo' hs' FG' F' N' B' X' T' l2; (try k_lt l1); (try k_lt2 l2); (try dsimp only); (try k_lift B')))
local macro_rules | `(tactic| ks_enter) => `(tactic| (refine' superBoth ?k1 ?k2 ?k3 ?k4 ?k5 ?kA ?kF ?kK ?k6 ?k7 ?k8 ?kV ?kX ?kQ ?kM ?kN ?kR ?kP ?kS ?kT ?kB ?_ ?c2 ?c3 ?c4 ?c5; (case kA => exact rfl); (case kF => exact rfl); (case kK => first | exact rfl | assumption); (case k1 => k_asm); (case k2 => k_asm); (case k3 => k_asm); (case k4 => k_asm); (case k5 => k_asm); (case k6 => k_is); (case k7 => k_is); (case k8 => k_room); (case kV => kp_lit); (case kX => kp_lit); (case kQ => exact rfl); (case kM => exact rfl); (case kN => exact rfl); (case kR => exact rfl); (case kP => exact rfl); (case kS => exact fun _ => rfl); (case kT => exact fun _ _ => rfl); (case kB => exact fun _ _ => locs rfl); (case c5 => decide); (case c2 => exact rfl); (case c3 => exact rfl); (case c4 => exact rfl); intro C' D' o' g' L' h' tk' l1 l2 lo' hs' FG' F' N' B' X' T' l3; (try k_lt l1); (try k_lt2 l2); (try k_lt2 l3); (try dsimp only); (try k_lift B')))
local macro_rules | `(tactic| walk_at "wpAt") => `(tactic| (ks_step "execs cons"; k_dflt (refine ks_wpAt_execs_cons ?_)))
local macro_rules | `(tactic| walk_at "wpAt") => `(tactic| (ks_step "exec Expr"; k_dflt (refine ks_wpAt_Expr_any ?_)))
local macro_rules | `(tactic| walk_at "wpAt") => `(tactic| (ks_step "eval Call"; k_dflt (refine ks_wpAt_MethodCall ?_)))
local macro_rules | `(tactic| k_mem) => `(tactic| first | assumption | exact List.mem_cons_self | exact List.Mem.head _ | (refine' List.mem_cons_of_mem _ ?_; k_mem))
local macro_rules | `(tactic| walk_at "truthy ref") => `(tactic| (k_here; k_dflt (refine here_stop ?_)))
local macro_rules | `(tactic| walk_at "getMethod ref") => `(tactic| (k_here; (with_reducible show wpAny _ _ (getMethod (Value.ref _) (Str.ofString "match_core") _) _ _ _); k_dflt (refine here_stop ?_)))
local macro_rules | `(tactic| walk_at "exec For Name Attribute cons nil") => `(tactic| (k_here; k_dflt (refine wpAny_For ?_)))
theorem mem_of3 (Γ : List Ex) {m : Nat} (h : m < Γ.length) : ∃ em, Γ[m]? = some em ∧ addrOf Γ m = em.a := ⟨Γ[m], by simp [h], by simp [addrOf, h]⟩
theorem fr_two {h₀ h : Heap} {L : Addr} {m m0 : Str → Option Value} {x y : Str} (F : Fr h₀ L h m) (hm : ∀ z, z ≠ x → z ≠ y → m z = m0 z) : Fr h₀ L h (fun z => if z = y then m z else if z = x then m z else m0 z) := by
  have : (fun z => if z = y then m z else if z = x then m z else m0 z) = m := by
    funext z
    by_cases h1 : z = y
    · simp [h1]
    · by_cases h2 : z = x
      · simp [h2]
      · simp only [if_neg h1, if_neg h2]; exact (hm z h2 h1).symm
  rw [this]; exact F
set_option hygiene false in
theorem um_oneOf {w : World} {p : Program} {loose : List Str} {mean : ExcName → Option Value} {mg mb : Str → Option Value} {P : PP} {i q : Nat} {e : Ex} {ms : List Nat}
    (IH : ∀ i' q', P.μ i' q' < P.μ i q → MC w p loose mean mg mb P i' q') (he : P.Γ[i]? = some e) (hkd : e.k = .oneOf ms) : UMC w p loose mean mg mb P i q := by
  intro e' he' hq σ imm tt tq I hlat
  rw [he] at he'
  cases he'
  rw [hkd, show umOf (.oneOf ms) = 410 from rfl]
  obtain ⟨x, hx, hxd, xok⟩ := I.ds i e he
  have eok := I.exs i e he
  obtain ⟨it, t2, heo⟩ : ∃ it t2, e.o = cmpObj 420 e.d e.t e.nm it t2 := by have := eok.2.1; unfold Ex.instOk at this; rw [hkd] at this; exact this
  have hg := I.good.at_ i e q he hq
  unfold GoodAt at hg
  rw [hkd] at hg
  obtain ⟨hms, hden⟩ := hg
  have htup : (e.t, tupObj (ms.map fun m => .ref (addrOf P.Γ m))) ∈ imm := eok.2.2 _ (by rw [hkd]; rfl)
  have htl := I.txtLen
  intro dp un gd cn cs a ccd cl outer A₀ base h₀ L m s Q E B F X N T hk hdp hun ret
  refine gen_led N fun led hl N1 => ?_
  clear N
  have hea : (e.a, cmpObj 420 e.d e.t e.nm it t2) ∈ led := by rw [hl, ← heo]; exact List.mem_append_right _ eok.1
  have hxa : (e.d, x.o) ∈ led := by rw [hl, ← hxd]; exact List.mem_append_left _ (mut_ds (List.mem_of_getElem? hx))
  have hta : (e.t, tupObj (ms.map fun m => .ref (addrOf P.Γ m))) ∈ led := by rw [hl]; exact List.mem_append_right _ htup
  refine wpAny_call ?_
  k_dflt (refine' code_defG ?k1 ?k2 ?k3 ?k4 ?k5 ?kA ?kF ?kK ?k6 ?k7 ?k8 ?k9 ?kB ?_ ?c2 ?c3 ?c4 ?c5; (case kA => exact rfl); (case kF => exact rfl); (case kK => first | assumption | exact rfl); (case k1 => k_asm); (case k2 => k_asm); (case k3 => k_asm); (case k4 => k_asm); (case k5 => k_asm); (case k6 => k_is); (case k7 => k_is); (case k8 => ktr_room); (case k9 => first | exact BindsTo.of_eq rfl | exact binds_K (by k_in) rfl (by k_is) rfl rfl rfl); (case c5 => decide); (case kB => exact locs rfl); (case c2 => exact rfl); (case c3 => exact rfl); (case c4 => exact rfl); k_whole; intro g' L' h' FG' F' N' B' X' T' G'; (try dsimp only); (try k_fold))
  k_steps
  rename Fr _ _ _ _ => F1
  rename News _ _ _ _ => N2
  refine gen_fr F1 fun m0 hm0 F2 => ?_
  refine for_tuple (n₀ := 0) (t := e.t) (vs := ms.map fun m => .ref (addrOf P.Γ m)) (fun n m' led' => (∀ z, z ≠ Str.ofString "m" → z ≠ Str.ofString "node" → m' z = m0 z) ∧ oneRun P.den ms q = oneRun P.den (ms.drop n) q ∧ ∃ σn immn, led' = σn.mut P ++ immn ∧ Inv w P σn immn ∧ Step P σ imm σn immn) (by exact rfl) rfl ?_ (by exact F2) (by exact N2) ⟨(fun _ _ _ => rfl), rfl, σ, imm, hl, I, Step.refl _ _ _⟩ ?_ ?_
  · rintro n m' led' ⟨_, _, σn, immn, rfl, _, Sn⟩
    exact List.mem_append_right _ (Sn.imm _ htup)
  · rintro n v m1 led' Ia o h tk hv ⟨hm1, hrun, σn, immn, rfl, In, Sn⟩ F3 N3 hne hlt
    obtain ⟨mm, hmm, rfl⟩ : ∃ mm, ms[n]? = some mm ∧ v = .ref (addrOf P.Γ mm) := by
      rw [List.getElem?_map] at hv
      obtain ⟨r, a1, a2⟩ := Option.map_eq_some_iff.mp hv
      exact ⟨r, a1, a2.symm⟩
    obtain ⟨hmlt, hmmu⟩ := hms mm (List.mem_of_getElem? hmm)
    obtain ⟨em, hem1, hem2⟩ := mem_of3 P.Γ hmlt
    rw [hem2]
    have F4 := fr_two F3 hm1
    subst hm0
    clear F3 F2 F1 N2
    k_steps
    obtain ⟨xm, hxm1, hxm2, xmok⟩ := In.ds mm em hem1
    have emok := In.exs mm em hem1
    obtain ⟨Cm, jm, SAm⟩ := self_of w emok.2.1
    rename News _ _ _ _ => N4
    refine here_go ?_
    refine self_mc (by assumption) (by assumption) N4 SAm (.tail _ (List.mem_append_right _ emok.1)) (.tail _ (List.mem_append_left _ (mut_ds (List.mem_of_getElem? hxm1)))) hxm2 xmok.obj fun f hf hkf => ?_
    dsimp only
    refine callWith_K (by assumption) hkf ?_
    k_steps
    rw [hf]
    have MCm := IH mm q hmmu hmlt hq σn immn tt tq In ((Sn.later' hlat).toLater hmmu)
    rw [hem2] at MCm
    refine Calls.useX (ext := [(Ia, o)]) (by assumption) (by assumption) (by assumption) (News.sub N4 fun p hp => .tail _ hp) (News.sub N4 fun p hp => by rw [List.mem_singleton.mp hp]; exact .head _) (fun z hz p hp => by rw [List.mem_singleton.mp hz]; exact hne p hp) (by assumption) rfl MCm ?dd ?uu ?_
    case dd => exact Nat.lt_of_le_of_lt (show dp + 1 + (4 * P.μ mm q + 8) ≤ dp + (4 * P.μ i q + 6) by omega) hdp
    case uu => exact Nat.lt_of_le_of_lt (show un + 3 + (40 * P.μ mm q + 100) ≤ un + (40 * P.μ i q + 80) by omega) hun
    rintro v _ h3 tk3 F6 N6 hne3 ⟨σ3, imm3, rfl, I3, S3, hres⟩
    clear N4
    have hne4 := hne3 _ (.head _)
    cases hd : P.den mm q with
    | none =>
      have hv : v = .none := by unfold ResOk at hres; rw [hd] at hres; exact hres
      subst hv
      k_steps
      refine ⟨_, _, _, _, rfl, by assumption, by assumption, hne4, ?_, ?_, σ3, imm3, rfl, I3, Sn.trans S3⟩
      · intro z h1 h2; simp only [if_neg h1, if_neg h2]
      · rw [hrun, List.drop_eq_getElem_cons (List.getElem?_eq_some_iff.mp hmm).1, (List.getElem?_eq_some_iff.mp hmm).2, oneRun, hd]
    | some r =>
      obtain ⟨q2, c2⟩ := r
      have hv : ∃ nd, v = .ref nd ∧ NodeOk P.Γ P.txt imm3 (P.μ mm q + 1) nd mm q q2 c2 := by unfold ResOk at hres; rw [hd] at hres; exact hres
      obtain ⟨nd, rfl, hnd⟩ := hv
      obtain ⟨e5, d5, ch5, vs5, n5, cs5, u1, u2, u3, hr1, hr2, hr3, hr4⟩ := id hnd
      refine gen_led N6 fun led3 hl3 N7 => ?_
      clear N6
      have hy1 : (nd, nodeObj e5.a d5 ch5 P.txt q q2 u1 u2 u3) ∈ led3 := by rw [hl3]; exact List.mem_append_right _ (List.mem_append_right _ hr2)
      have hy2 : (d5, dictOf [] 0) ∈ led3 := by rw [hl3]; exact List.mem_append_right _ (List.mem_append_right _ hr3)
      k_steps
      rename News _ _ _ _ => N8
      refine here_go ?_
      refine kgr_truthy (lo := listObj [.ref nd] 0) (vs := [.ref nd]) N8 (.tail _ (.tail _ (.head _))) rfl rfl (by exact (by decide : 1 < 2 ^ 62)) ?_
      dsimp only [List.isEmpty, Bool.not_false]
      k_steps
      rename Fr _ _ _ _ => F9
      rename News _ _ _ _ => N9
      rename (∀ p, p ∈ led3 → _ < _) => hw1
      rename (_ ∧ AllLt _ led3) => hw2
      rename @LT.lt Nat _ _ _ => hw3
      have hrun2 : P.den i q = some (q2, e.own + c2) := by rw [hden, hrun, oneRun_drop hmm, hd]; rfl
      have hs3 : ∀ p ∈ σ3.mut P ++ imm3, p ∈ led3 := fun p hp => by rw [hl3]; exact List.mem_append_right _ hp
      obtain ⟨imm', hs, I', S', hr⟩ := list_post (vs := [.ref nd]) (cs := [c2]) (k := P.μ mm q + 1) I3 he hs3 hw1 hw2.1 hw3 (by exact (by decide : 1 ≤ 1000000)) ⟨⟨nd, mm, q, q2, rfl, hnd⟩, trivial⟩ hmmu hrun2
      exact ret _ _ _ _ F9 (News.sub N9 hs) (kept (by rw [← hl]; assumption) (by assumption) (by assumption) hs) ⟨σ3, imm', rfl, I', (Sn.trans S3).trans S', hr⟩
  · rintro m1 led' h3 tk3 ⟨hm1, hrun, σn, immn, rfl, In, Sn⟩ F3 N3
    k_steps
    rename Fr _ _ _ _ => F9
    rename News _ _ _ _ => N9
    exact ret _ _ _ _ F9 N9 (kept (by rw [← hl]; assumption) (by assumption) (by assumption) fun _ h => h) ⟨σn, immn, rfl, In, Sn, by unfold ResOk; rw [hden, hrun, List.drop_eq_nil_of_le (by simp)]; rfl⟩
end Mine
end
section
local macro_rules | `(tactic| walk_at "dummy0") => `(tactic| skip)
example : True := by
  w_top off
  trivial
open PySem PySem.W PyProof.Rows PySem.Spec PySem.Calls
namespace Mine
local macro_rules | `(tactic| k_room) => `(tactic| ktr_room)
local macro_rules | `(tactic| k_units) => `(tactic| ktr_units)
local macro_rules | `(tactic| k_all) => `(tactic| (refine up_neAll (by assumption) ?_; first | tbn_find | exact allLt_of (by assumption)))
local macro_rules | `(tactic| k_all) => `(tactic| (refine tbn_neAll ?_; first | tbn_find | exact allLt_of (by assumption)))
local macro_rules | `(tactic| ks_enter) => `(tactic| (refine' ks_code_super ?k1 ?k2 ?k3 ?k4 ?k5 ?kA ?kF ?kK ?k6 ?k7 ?k8 ?k9 ?kB ?_ ?c1 ?c2 ?c3 ?c4; (case kA => exact rfl); (case kF => exact rfl); (case kK => first | exact rfl | assumption); (case k1 => k_asm); (case k2 => k_asm); (case k3 => k_asm); (case k4 => k_asm); (case k5 => k_asm); (case k6 => k_is); (case k7 => k_is); (case k8 => k_room); (case k9 => exact binds_K (by k_in) rfl (by k_is) rfl rfl rfl); (case kB => exact locs rfl); (case c1 => decide); (case c2 => exact rfl); (case c3 => exact rfl); (case c4 => exact rfl); intro g' L' h' FG' F' N' B' X' T' l1; (try k_lt l1); (try dsimp only); (try k_lift B')))
local macro_rules | `(tactic| ks_enter) => `(tactic| (refine' superMore ?k1 ?k2 ?k3 ?k4 ?k5 ?kA ?kF ?kK ?k6 ?k7 ?k8 ?kX ?kM ?kN ?kR ?kP ?kT ?kB ?_ ?c2 ?c3 ?c4 ?c5; (case kA => exact rfl); (case kF => exact rfl); (case kK => first | exact rfl | assumption); (case k1 => k_asm); (case k2 => k_asm); (case k3 => k_asm); (case k4 => k_asm); (case k5 => k_asm); (case k6 => k_is); (case k7 => k_is); (case k8 => k_room); (case kX => kp_lit); (case kM => exact rfl); (case kN => exact rfl); (case kR => exact rfl); (case kP => exact rfl); (case kT => exact fun _ => rfl); (case kB => exact fun _ => locs rfl); (case c5 => decide); (case c2 => exact rfl); (case c3 => exact rfl); (case c4 => exact rfl); intro D' o' g' L' h' tk' l1 lo' hs' FG' F' N' B' X' T' l2; (try k_lt l1); (try k_lt2 l2); (try dsimp only); (try k_lift B')))
local macro_rules | `(tactic| ks_enter) => `(tactic| (refine' superBoth ?k1 ?k2 ?k3 ?k4 ?k5 ?kA ?kF ?kK ?k6 ?k7 ?k8 ?kV ?kX ?kQ ?kM ?kN ?kR ?kP ?kS ?kT ?kB ?_ ?c2 ?c3 ?c4 ?c5; (case kA => exact rfl); (case kF => exact rfl); (case kK => first | exact rfl | assumption); (case k1 => k_asm); (case k2 => k_asm); (case k3 => k_asm); (case k4 => k_asm); (case k5 => k_asm); (case k6 => k_is); (case k7 => k_is); (case k8 => k_room); (case kV => kp_lit); (case kX => kp_lit); (case kQ => exact rfl); (case kM => exact rfl); (case kN => exact rfl); (case kR => exact rfl); (case kP => exact rfl); (case kS => exact fun _ => rfl); (case kT => exact fun _ _ => rfl); (case kB => exact fun _ _ => locs rfl); (case c5 => decide); (case c2 => exact rfl); (case c3 => exact rfl); (case c4 => exact rfl); intro C' D' o' g' L' h' tk' l1 l2 lo' hs' FG' F' N' B' X' T' l3; (try k_lt l1); (try k_lt2 l2); (try k_lt2 l3); (try dsimp only); (try k_lift B')))
local macro_rules | `(tactic| walk_at "wpAt") => `(tactic| (ks_step "execs cons"; k_dflt (refine ks_wpAt_execs_cons ?_)))
local macro_rules | `(tactic| walk_at "wpAt") => `(tactic| (ks_step "exec Expr"; k_dflt (refine ks_wpAt_Expr_any ?_)))
local macro_rules | `(tactic| walk_at "wpAt") => `(tactic| (ks_step "eval Call"; k_dflt (refine ks_wpAt_MethodCall ?_)))
local macro_rules | `(tactic| k_mem) => `(tactic| first | assumption | exact List.mem_cons_self | exact List.Mem.head _ | (refine' List.mem_cons_of_mem _ ?_; k_mem))
local macro_rules | `(tactic| walk_at "truthy ref") => `(tactic| (k_here; k_dflt (refine here_stop ?_)))
local macro_rules | `(tactic| walk_at "getMethod ref") => `(tactic| (k_here; (with_reducible show wpAny _ _ (getMethod (Value.ref _) (Str.ofString "match_core") _) _ _ _); k_dflt (refine here_stop ?_)))
local macro_rules | `(tactic| walk_at "exec For Name Attribute cons nil") => `(tactic| (k_here; k_dflt (refine wpAny_For ?_)))
theorem mem_of4 (Γ : List Ex) {m : Nat} (h : m < Γ.length) : ∃ em, Γ[m]? = some em ∧ addrOf Γ m = em.a := ⟨Γ[m], by simp [h], by simp [addrOf, h]⟩
theorem name_head {h₀ h : Heap} {L a : Addr} {o : Obj} {led : List (Addr × Obj)} (_N : News h₀ L h ((a, o) :: led)) {P : Prop} (k : ∀ a', a' = a → P) : P := k a rfl
set_option hygiene false in
theorem um_seq {w : World} {p : Program} {loose : List Str} {mean : ExcName → Option Value} {mg mb : Str → Option Value} {P : PP} {i q : Nat} {e : Ex} {ms : List Nat}
    (IH : ∀ i' q', P.μ i' q' < P.μ i q → MC w p loose mean mg mb P i' q') (he : P.Γ[i]? = some e) (hkd : e.k = .seq ms) : UMC w p loose mean mg mb P i q := by
  intro e' he' hq σ imm tt tq I hlat
  rw [he] at he'
  cases he'
  rw [hkd, show umOf (.seq ms) = 384 from rfl]
  obtain ⟨x, hx, hxd, xok⟩ := I.ds i e he
  have eok := I.exs i e he
  obtain ⟨it, t2, heo⟩ : ∃ it t2, e.o = cmpObj 394 e.d e.t e.nm it t2 := by have := eok.2.1; unfold Ex.instOk at this; rw [hkd] at this; exact this
  have hg := I.good.at_ i e q he hq
  unfold GoodAt at hg
  rw [hkd] at hg
  obtain ⟨hms, hden, hdec⟩ := hg
  have htup : (e.t, tupObj (ms.map fun m => .ref (addrOf P.Γ m))) ∈ imm := eok.2.2 _ (by rw [hkd]; rfl)
  have hml : ms.length ≤ 1000 := by have := I.good.mlen i e _ he (by rw [hkd]; rfl); simpa using this
  have htl := I.txtLen
  intro dp un gd cn cs a ccd cl outer A₀ base h₀ L m s Q E B F X N T hk hdp hun ret
  refine gen_led N fun led hl N1 => ?_
  clear N
  have hea : (e.a, cmpObj 394 e.d e.t e.nm it t2) ∈ led := by rw [hl, ← heo]; exact List.mem_append_right _ eok.1
  have hxa : (e.d, x.o) ∈ led := by rw [hl, ← hxd]; exact List.mem_append_left _ (mut_ds (List.mem_of_getElem? hx))
  have hta : (e.t, tupObj (ms.map fun m => .ref (addrOf P.Γ m))) ∈ led := by rw [hl]; exact List.mem_append_right _ htup
  refine wpAny_call ?_
  k_dflt (refine' code_defG ?k1 ?k2 ?k3 ?k4 ?k5 ?kA ?kF ?kK ?k6 ?k7 ?k8 ?k9 ?kB ?_ ?c2 ?c3 ?c4 ?c5; (case kA => exact rfl); (case kF => exact rfl); (case kK => first | assumption | exact rfl); (case k1 => k_asm); (case k2 => k_asm); (case k3 => k_asm); (case k4 => k_asm); (case k5 => k_asm); (case k6 => k_is); (case k7 => k_is); (case k8 => ktr_room); (case k9 => first | exact BindsTo.of_eq rfl | exact binds_K (by k_in) rfl (by k_is) rfl rfl rfl); (case c5 => decide); (case kB => exact locs rfl); (case c2 => exact rfl); (case c3 => exact rfl); (case c4 => exact rfl); k_whole; intro g' L' h' FG' F' N' B' X' T' G'; (try dsimp only); (try k_fold))
  k_steps
  rename Fr _ _ _ _ => F1
  rename News _ _ _ _ => N2
  rename (∀ p, p ∈ led → _ < _) => hLw
  refine name_head N2 fun Lc hLc => ?_
  subst hLc
  refine gen_fr F1 fun m0 hm0 F2 => ?_
  refine for_tuple (n₀ := 0) (t := e.t) (vs := ms.map fun m => .ref (addrOf P.Γ m)) (fun n m' led' => ∃ (σn : St) (immn : List (Addr × Obj)) (pn : Nat) (tn : Tok) (vs : List Value) (nl : Nat) (cs : List Nat),
    led' = (Lc, listObj vs nl) :: (σn.mut P ++ immn) ∧ Inv w P σn immn ∧ Step P σ imm σn immn ∧ (∀ p ∈ σn.mut P ++ immn, p.1 ≠ Lc) ∧
    (∀ k, k ≠ Str.ofString "m" → k ≠ Str.ofString "node" → k ≠ Str.ofString "length" → k ≠ Str.ofString "new_pos" → m' k = m0 k) ∧ m' (Str.ofString "new_pos") = some (.int (pn : Int) tn) ∧ pn ≤ P.txt.length ∧ vs.length = n ∧
    Kids (NodeOk P.Γ P.txt immn (P.μ i q)) vs cs ∧ seqRun P.den ms q = (seqRun P.den (ms.drop n) pn).map (fun r => (r.1, cs.sum + r.2)) ∧ seqDec P.den P.μ (P.μ i q) P.txt.length (ms.drop n) pn) (by exact rfl) rfl ?_ (by exact F2) (by exact N2)
    ⟨σ, imm, q, tq, [], 0, [], by rw [hl], I, Step.refl _ _ _, (fun p hp => Nat.ne_of_lt (hLw p (by rw [hl]; exact hp))), (fun _ _ _ _ _ => rfl), by rw [hm0]; rfl, hq, rfl, trivial, by rw [List.drop_zero]; cases seqRun P.den ms q <;> simp, hdec⟩ ?_ ?_
  · rintro n m' led' ⟨σn, immn, pn, tn, vs, nl, cs, rfl, In, Sn, _⟩
    exact .tail _ (List.mem_append_right _ (Sn.imm _ htup))
  · rintro n v m1 led' Ia o h tk hv ⟨σn, immn, pn, tn, vs, nl, cs, rfl, In, Sn, hLn, hm1, hmp, hpn, hvn, hkids, hrun, hdecn⟩ F3 N3 hne hlt
    obtain ⟨mm, hmm, rfl⟩ : ∃ mm, ms[n]? = some mm ∧ v = .ref (addrOf P.Γ mm) := by
      rw [List.getElem?_map] at hv
      obtain ⟨r, a1, a2⟩ := Option.map_eq_some_iff.mp hv
      exact ⟨r, a1, a2.symm⟩
    have hmlt := hms mm (List.mem_of_getElem? hmm)
    obtain ⟨hmmu, hdecs⟩ := seqDec_drop hmm hdecn
    obtain ⟨em, hem1, hem2⟩ := mem_of4 P.Γ hmlt
    rw [hem2]
    have F4 := fr_seq F3 hm1 hmp
    subst hm0
    clear F3 F2 F1 N2
    k_steps
    obtain ⟨xm, hxm1, hxm2, xmok⟩ := In.ds mm em hem1
    have emok := In.exs mm em hem1
    obtain ⟨Cm, jm, SAm⟩ := self_of w emok.2.1
    rename News _ _ _ _ => N4
    refine here_go ?_
    refine self_mc (by assumption) (by assumption) N4 SAm (.tail _ (.tail _ (List.mem_append_right _ emok.1))) (.tail _ (.tail _ (List.mem_append_left _ (mut_ds (List.mem_of_getElem? hxm1))))) hxm2 xmok.obj fun f hf hkf => ?_
    dsimp only
    refine callWith_K (by assumption) hkf ?_
    k_steps
    rw [hf]
    have MCm := IH mm pn hmmu hmlt hpn σn immn tt tn In ((Sn.later' hlat).toLater hmmu)
    rw [hem2] at MCm
    refine Calls.useX (ext := [(Ia, o), (Lc, listObj vs nl)]) (by assumption) (by assumption) (by assumption) (News.sub N4 fun p hp => .tail _ (.tail _ hp)) (News.sub N4 fun p hp => by rcases List.mem_cons.mp hp with rfl | hp; exact .head _; rw [List.mem_singleton.mp hp]; exact .tail _ (.head _))
      (fun z hz p hp => by rcases List.mem_cons.mp hz with rfl | hz; exact hne p (.tail _ hp); rw [List.mem_singleton.mp hz]; exact hLn p hp) (by assumption) rfl MCm ?dd ?uu ?_
    case dd => exact Nat.lt_of_le_of_lt (show dp + 1 + (4 * P.μ mm pn + 8) ≤ dp + (4 * P.μ i q + 6) by omega) hdp
    case uu => exact Nat.lt_of_le_of_lt (show un + 3 + (40 * P.μ mm pn + 100) ≤ un + (40 * P.μ i q + 80) by omega) hun
    rintro v _ h3 tk3 F6 N6 hne3 ⟨σ3, imm3, rfl, I3, S3, hres⟩
    clear N4
    have hne4 : ∀ p ∈ σ3.mut P ++ imm3, p.1 ≠ Ia := hne3 _ (.head _)
    have hL4 : ∀ p ∈ σ3.mut P ++ imm3, p.1 ≠ Lc := hne3 _ (.tail _ (.head _))
    have N7 : News _ _ _ ((Ia, o) :: (Lc, listObj vs nl) :: (σ3.mut P ++ imm3)) := N6
    clear N6
    cases hd : P.den mm pn with
    | none =>
      have hv : v = .none := by unfold ResOk at hres; rw [hd] at hres; exact hres
      subst hv
      k_steps
      rename Fr _ _ _ _ => F9
      rename News _ _ _ _ => N9
      exact ret _ _ _ _ F9 (News.sub N9 fun p hp => .tail _ (.tail _ hp)) (kept (by rw [← hl]; assumption) (by assumption) (by assumption) fun p hp => .tail _ (.tail _ hp)) ⟨σ3, imm3, rfl, I3, Sn.trans S3, by unfold ResOk; rw [hden, hrun, seqRun_drop hmm, hd]; rfl⟩
    | some r =>
      obtain ⟨q2, c2⟩ := r
      have hv : ∃ nd, v = .ref nd ∧ NodeOk P.Γ P.txt imm3 (P.μ mm pn + 1) nd mm pn q2 c2 := by unfold ResOk at hres; rw [hd] at hres; exact hres
      obtain ⟨nd, rfl, hnd⟩ := hv
      obtain ⟨e5, d5, ch5, vs5, n5, cs5, u1, u2, u3, hr1, hr2, hr3, hr4⟩ := id hnd
      refine gen_led N7 fun led3 hl3 N8 => ?_
      clear N7
      have hy1 : (nd, nodeObj e5.a d5 ch5 P.txt pn q2 u1 u2 u3) ∈ σ3.mut P ++ imm3 := List.mem_append_right _ hr2
      have hy2 : (d5, dictOf [] 0) ∈ σ3.mut P ++ imm3 := List.mem_append_right _ hr3
      rw [hl3] at N8
      clear hl3 led3
      k_steps
      rename Fr _ _ _ _ => F8
      rename News _ _ _ _ => N9
      refine app_l (pre := [(Ia, o)]) F8 N9 (fun z hz => by rw [List.mem_singleton.mp hz]; exact fun q => hne _ (.head _) q.symm) hL4 (by have := (List.getElem?_eq_some_iff.mp hmm).1; omega) fun h9 F9 N10 => ?_
      have N11 : News _ _ h9 ((Ia, o) :: (Lc, listObj (vs ++ [.ref nd]) (nl + 1)) :: (σ3.mut P ++ imm3)) := N10
      clear N10 N9 F8
      k_steps
      dsimp only
      have hb := I3.good.bnd mm pn q2 c2 hpn hd
      have hpq : ((pn : Nat) : Int) + ((q2 : Nat) - (pn : Nat) : Int) = (q2 : Nat) := by omega
      rename Fr _ _ _ _ => F12
      rename News _ _ _ _ => N12
      refine gen_fr F12 fun mF hmF F13 => ?_
      obtain ⟨tn', htn⟩ : ∃ tn', mF (Str.ofString "new_pos") = some (.int ((q2 : Nat) : Int) tn') := ⟨_, by rw [hmF]; exact congrArg (fun z => some (Value.int z _)) hpq⟩
      refine ⟨_, _, _, _, rfl, F13, N12, ?_, σ3, imm3, q2, tn', vs ++ [.ref nd], nl + 1, cs ++ [c2], rfl, I3, Sn.trans S3, hL4, ?_, ?_, hb.2, by simp [hvn], ?_, ?_, ?_⟩
      · intro z hz
        rcases List.mem_cons.mp hz with rfl | hz
        · exact show Lc ≠ Ia from hne (Lc, listObj vs nl) (.head _)
        · exact hne4 z hz
      · intro k h1 h2 h3 h4; rw [hmF]; simp only [if_neg h1, if_neg h2, if_neg h3, if_neg h4]
      · exact htn
      · exact Kids.snoc (hnd.mono (fun _ h => h) hmmu) (Kids.mono (fun _ _ _ _ _ h => h.mono S3.imm (Nat.le_refl _)) hkids)
      · rw [hrun, seqRun_drop hmm, hd]
        dsimp only
        cases seqRun P.den (ms.drop (n + 1)) q2 with
        | none => rfl
        | some r => simp only [Option.map_some, List.sum_append, List.sum_cons, List.sum_nil]; congr 2; omega
      · exact hdecs q2 c2 hd
  · rintro m1 led' h3 tk3 ⟨σn, immn, pn, tn, vs, nl, cs, rfl, In, Sn, hLn, hm1, hmp, hpn, hvn, hkids, hrun, hdecn⟩ F3 N3
    have F4 := fr_seq F3 hm1 hmp
    subst hm0
    clear F3 F2 F1 N2
    dsimp only
    k_steps
    rename News _ _ _ _ => N8
    have hvl : decide (vs.length ≤ 1000000) = true := decide_eq_true (by rw [hvn, List.length_map]; omega)
    refine here_go ?_
    refine kgr_truthy (lo := listObj vs nl) (vs := vs) N8 (.tail _ (.tail _ (.head _))) rfl rfl (Nat.lt_of_le_of_lt (of_decide_eq_true hvl) (by decide)) ?_
    cases vs with
    | nil =>
      dsimp only [List.isEmpty, Bool.not_true]
      k_steps
      rename Fr _ _ _ _ => F9
      rename News _ _ _ _ => N9
      rename (_ ∧ AllLt _ (σn.mut P ++ immn)) => hw1
      rename (_ ∧ _ ∧ _ ∧ AllLt _ (σn.mut P ++ immn)) => hw2
      rename @LT.lt Nat _ _ _ => hw3
      have hcs : cs = [] := by cases cs with | nil => rfl | cons _ _ => exact hkids.elim
      obtain ⟨imm', hs, I', S', hr⟩ := old_post0 In Sn he (lt_of_allLt hw1.2) hw3 hw2.1 (q' := pn) (by
        rw [hden, hrun, List.drop_eq_nil_of_le (by simp), hcs]; rfl)
      have hs' := skip4 (d := (Lc, listObj [] nl)) hs
      exact ret _ _ _ _ F9 (News.sub N9 hs') (kept (by rw [← hl]; assumption) (by assumption) (by assumption) hs') ⟨σn, imm', rfl, I', S', hr⟩
    | cons v0 vr =>
      dsimp only [List.isEmpty, Bool.not_false]
      k_steps
      rename Fr _ _ _ _ => F9
      rename News _ _ _ _ => N9
      rename (_ ∧ AllLt _ (σn.mut P ++ immn)) => hw1
      rename @LT.lt Nat _ _ _ => hw3
      obtain ⟨imm', hs, I', S', hr⟩ := old_post (q' := pn) In Sn he hLn (fun p hp => hLw p (by rw [hl]; exact hp)) hw1.1 (lt_of_allLt hw1.2) hw3 (of_decide_eq_true hvl) hkids (Nat.le_refl _) (by
        rw [hden, hrun, List.drop_eq_nil_of_le (by simp)]; simp [seqRun])
      exact ret _ _ _ _ F9 (News.sub N9 hs) (kept (by rw [← hl]; assumption) (by assumption) (by assumption) hs) ⟨σn, imm', rfl, I', S', hr⟩
end Mine
end
section
open PySem PySem.W PyProof.Rows PySem.Spec PySem.Calls PyProof.V
namespace Mine
/-- what a turn of a while loop leaves -/
def WTurn (h₀ : Heap) (L : Addr) (s : Shared) (J : Nat → (Str → Option Value) → List (Addr × Obj) → Prop) (Q : Flow → Shared → Prop) (n : Nat) (f : Flow) (s₃ : Shared) : Prop :=
  match f with
  | .brk => Q .next s₃
  | .ret v => Q (.ret v) s₃
  | _ => ∃ h' tk m₂ led₂ n', s₃ = { s with heap := h', toks := tk } ∧ Fr h₀ L h' m₂ ∧ News h₀ L h' led₂ ∧ n' < n ∧ J n' m₂ led₂

theorem while_fr {prog : Program} {w : World} {A : Around} {E : Value → Shared → Prop} {s : Shared} {env : Env} {h₀ : Heap} {L : Addr} {test : Expr} {body orelse : List Stmt} {pos : Pos} {m : Str → Option Value} {led : List (Addr × Obj)} {Q : Flow → Shared → Prop}
    (J : Nat → (Str → Option Value) → List (Addr × Obj) → Prop) {n₀ : Nat} (F : Fr h₀ L s.heap m) (N : News h₀ L s.heap led) (h0 : J n₀ m led)
    (turn : ∀ n m₁ led₁ h₁ tk₁, J n m₁ led₁ → Fr h₀ L h₁ m₁ → News h₀ L h₁ led₁ →
      wpAny (model prog w) A (isTrue test env (eval test env)) (fun b s₂ =>
        if b = true then wpAny (model prog w) A (execs body env) (WTurn h₀ L s J Q n) (fun _ _ => False) s₂ else wpAny (model prog w) A (execs orelse env) Q (fun _ _ => False) s₂) (fun _ _ => False) { s with heap := h₁, toks := tk₁ }) :
    wpAny (model prog w) A (exec (.While test body orelse pos) env) Q E s := by
  refine wpAny_While (codeAny_whileLoop (fun n s' => ∃ h₁ tk₁ m₁ led₁, s' = { s with heap := h₁, toks := tk₁ } ∧ Fr h₀ L h₁ m₁ ∧ News h₀ L h₁ led₁ ∧ J n m₁ led₁) ?_ n₀ ⟨s.heap, s.toks, m, led, rfl, F, N, h0⟩)
  rintro n s' ⟨h₁, tk₁, m₁, led₁, rfl, F₁, N₁, J₁⟩
  refine wpAny_mono (turn n m₁ led₁ h₁ tk₁ J₁ F₁ N₁) (fun b s₂ h₂ => ?_) fun _ _ e => e.elim
  cases b with
  | false =>
    simp only [Bool.false_eq_true, if_false] at h₂ ⊢
    exact wpAny_mono h₂ (fun _ _ x => x) fun _ _ e => e.elim
  | true =>
    simp only [if_true] at h₂ ⊢
    refine wpAny_mono h₂ (fun f s₃ h₃ => ?_) fun _ _ e => e.elim
    cases f with
    | next =>
      obtain ⟨h', tk, m₂, news₂, n', rfl, F₂, N₂, hn, J₂⟩ := h₃
      exact ⟨n', hn, h', tk, m₂, news₂, rfl, F₂, N₂, J₂⟩
    | cont =>
      obtain ⟨h', tk, m₂, news₂, n', rfl, F₂, N₂, hn, J₂⟩ := h₃
      exact ⟨n', hn, h', tk, m₂, news₂, rfl, F₂, N₂, J₂⟩
    | brk => exact h₃
    | ret v => exact h₃
def Reach (h₀ : Heap) (L : Addr) (s : Shared) (D : (Str → Option Value) → List (Addr × Obj) → Prop) (s₃ : Shared) : Prop := ∃ h' tk m₂ led₂, s₃ = { s with heap := h', toks := tk } ∧ Fr h₀ L h' m₂ ∧ News h₀ L h' led₂ ∧ D m₂ led₂
def CTurn (h₀ : Heap) (L : Addr) (s : Shared) (J : Nat → (Str → Option Value) → List (Addr × Obj) → Prop) (D : (Str → Option Value) → List (Addr × Obj) → Prop) (n : Nat) (f : Flow) (s₃ : Shared) : Prop :=
  match f with
  | .brk => Reach h₀ L s D s₃
  | .ret _ => False
  | _ => ∃ n', n' < n ∧ Reach h₀ L s (J n') s₃
/-- a while loop without an else, its exits gathered -/
theorem while_cut {prog : Program} {w : World} {A : Around} {E : Value → Shared → Prop} {s : Shared} {env : Env} {h₀ : Heap} {L : Addr} {test : Expr} {body : List Stmt} {pos : Pos} {m : Str → Option Value} {led : List (Addr × Obj)} {Q : Flow → Shared → Prop}
    (J : Nat → (Str → Option Value) → List (Addr × Obj) → Prop) (D : (Str → Option Value) → List (Addr × Obj) → Prop) {n₀ : Nat} (F : Fr h₀ L s.heap m) (N : News h₀ L s.heap led) (h0 : J n₀ m led)
    (turn : ∀ n m₁ led₁ h₁ tk₁, J n m₁ led₁ → Fr h₀ L h₁ m₁ → News h₀ L h₁ led₁ →
      wpAny (model prog w) A (isTrue test env (eval test env)) (fun b s₂ =>
        if b = true then wpAny (model prog w) A (execs body env) (CTurn h₀ L s J D n) (fun _ _ => False) s₂ else Reach h₀ L s D s₂) (fun _ _ => False) { s with heap := h₁, toks := tk₁ })
    (done : ∀ m' led' h' tk', D m' led' → Fr h₀ L h' m' → News h₀ L h' led' → Q .next { s with heap := h', toks := tk' }) :
    wpAny (model prog w) A (exec (.While test body [] pos) env) Q E s := by
  have fin : ∀ s₃, Reach h₀ L s D s₃ → Q .next s₃ := by
    rintro s₃ ⟨h', tk, m₂, led₂, rfl, F₂, N₂, d⟩
    exact done _ _ _ _ d F₂ N₂
  refine while_fr J F N h0 fun n m₁ led₁ h₁ tk₁ J₁ F₁ N₁ => wpAny_mono (turn n m₁ led₁ h₁ tk₁ J₁ F₁ N₁) (fun b s₂ h₂ => ?_) fun _ _ e => e
  cases b with
  | false =>
    simp only [Bool.false_eq_true, if_false] at h₂ ⊢
    exact wpAny_execs_nil (fin _ h₂)
  | true =>
    simp only [if_true] at h₂ ⊢
    refine wpAny_mono h₂ (fun f s₃ h₃ => ?_) fun _ _ e => e
    cases f with
    | brk => exact fin _ h₃
    | ret v => exact h₃.elim
    | next => obtain ⟨n', hn, h', tk, m₂, led₂, e, F₂, N₂, j⟩ := h₃; exact ⟨h', tk, m₂, led₂, n', e, F₂, N₂, hn, j⟩
    | cont => obtain ⟨n', hn, h', tk, m₂, led₂, e, F₂, N₂, j⟩ := h₃; exact ⟨h', tk, m₂, led₂, n', e, F₂, N₂, hn, j⟩
end Mine
end
section
open PySem PySem.W PyProof.Rows PySem.Spec PySem.Calls PyProof.V
namespace Mine
/-- what a quantifier's loop finds: k members found, at p -/
def qRun (den : Den) (m len : Nat) (cap : Nat → Bool) : Nat → Nat → Nat → Nat × Nat × Nat
  | 0, _, p => (p, 0, 0)
  | f + 1, k, p => if p < len ∧ cap k = true then (match den m p with
    | none => (p, 0, 0)
    | some (q, c) => if q = p then (p, 1, c) else let r := qRun den m len cap f (k + 1) q; (r.1, r.2.1 + 1, c + r.2.2)) else (p, 0, 0)
/-- enough fuel is enough -/
theorem qRun_fuel {den : Den} {m len : Nat} {cap : Nat → Bool} (hb : ∀ p q c, p ≤ len → den m p = some (q, c) → p ≤ q ∧ q ≤ len) : ∀ {f g k p : Nat}, p ≤ len → len - p ≤ f → len - p ≤ g → qRun den m len cap f k p = qRun den m len cap g k p
  | 0, 0, _, _, _, _, _ => rfl
  | 0, g + 1, k, p, _, h, _ => by
    rw [qRun, qRun, if_neg (by omega)]
  | f + 1, 0, k, p, _, _, h => by
    rw [qRun, qRun, if_neg (by omega)]
  | f + 1, g + 1, k, p, hp, hf, hg => by
    rw [qRun, qRun]
    by_cases h : p < len ∧ cap k = true
    · rw [if_pos h, if_pos h]
      cases e : den m p with
      | none => rfl
      | some r =>
        obtain ⟨q, c⟩ := r
        dsimp only
        by_cases h2 : q = p
        · rw [if_pos h2, if_pos h2]
        · have := hb p q c hp e
          rw [if_neg h2, if_neg h2, qRun_fuel hb this.2 (show len - q ≤ f by omega) (show len - q ≤ g by omega)]
    · rw [if_neg h, if_neg h]
theorem qRun_more {den : Den} {m len : Nat} (hpr : ∀ p q c, den m p = some (q, c) → p < q) : ∀ f k p, qRun den m len (fun _ => true) f k p = moreRun den m len f p
  | 0, _, _ => rfl
  | f + 1, k, p => by
    rw [qRun, moreRun]
    by_cases h : p < len
    · rw [if_pos ⟨h, rfl⟩, if_pos h]
      cases e : den m p with
      | none => rfl
      | some r =>
        obtain ⟨q, c⟩ := r
        dsimp only
        have := hpr p q c e
        rw [if_neg (by omega), qRun_more hpr f]
    · rw [if_neg (fun x => h x.1), if_neg h]
theorem qRun_opt {den : Den} {m len p : Nat} (hp : p ≤ len) : qRun den m len (fun k => decide (k < 1)) (len - p) 0 p = if p < len then (match den m p with | none => (p, 0, 0) | some (q, c) => (q, 1, c)) else (p, 0, 0) := by
  by_cases h : p < len
  · obtain ⟨f, hf⟩ : ∃ f, len - p = f + 1 := ⟨len - p - 1, by omega⟩
    rw [hf, qRun, if_pos ⟨h, rfl⟩, if_pos h]
    cases e : den m p with
    | none => rfl
    | some r =>
      obtain ⟨q, c⟩ := r
      dsimp only
      by_cases h2 : q = p
      · rw [if_pos h2, h2]
      · rw [if_neg h2]
        cases f with
        | zero => rfl
        | succ f => rw [qRun, if_neg (fun x => by have := x.2; simp at this)]; simp
  · have : len - p = 0 := by omega
    rw [this, if_neg h]; rfl
/-- the answer of a quantifier from here -/
def qFin (own mn k s : Nat) (r : Nat × Nat × Nat) : Option (Nat × Nat) := if mn ≤ k + r.2.1 then some (r.1, own + (s + r.2.2)) else none
theorem qFin_step {own mn k s c : Nat} (r : Nat × Nat × Nat) : qFin own mn k s (r.1, r.2.1 + 1, c + r.2.2) = qFin own mn (k + 1) (s + c) r := by
  unfold qFin
  dsimp only
  rw [show k + (r.2.1 + 1) = k + 1 + r.2.1 by omega, show s + (c + r.2.2) = s + c + r.2.2 by omega]
theorem len_snoc {α : Type} (l : List α) (x : α) : (l ++ [x]).length = l.length + 1 := by simp
theorem sum_snoc (l : List Nat) (x : Nat) : (l ++ [x]).sum = l.sum + x := by simp
theorem fr_quant {h₀ h : Heap} {L : Addr} {m m0 : Str → Option Value} {x y z : Str} {v : Value} (F : Fr h₀ L h m) (hm : ∀ k, k ≠ x → k ≠ y → k ≠ z → m k = m0 k) (hv : m z = some v) :
    Fr h₀ L h (fun k => if k = z then some v else if k = x then m k else if k = y then m k else m0 k) := by
  have : (fun k => if k = z then some v else if k = x then m k else if k = y then m k else m0 k) = m := by
    funext k
    by_cases h0 : k = z
    · simp only [if_pos h0]; rw [h0]; exact hv.symm
    · by_cases h1 : k = x
      · simp only [if_neg h0, if_pos h1]
      · by_cases h2 : k = y
        · simp only [if_neg h0, if_neg h1, if_pos h2]
        · simp only [if_neg h0, if_neg h1, if_neg h2]; exact (hm k h1 h2 h0).symm
  rw [this]; exact F
/-- what max is, and what it says of a number of members -/
inductive MaxOk : Value → (Nat → Bool) → Prop where
  | inf (t : Tok) : MaxOk (.float infBits t) (fun _ => true)
  | one (t : Tok) : MaxOk (.int 1 t) (fun k => decide (k < 1))
theorem lt_max {prog : Program} {w : World} {A : Around} {E : Value → Shared → Prop} {s : Shared} {mx : Value} {cap : Nat → Bool} {n : Nat} {u : Tok} {Q : Value → Shared → Prop} (hc : MaxOk mx cap)
    (h : Q (.bool (cap n)) s) : wpAny (model prog w) A (compareOp .Lt (.int (n : Nat) u) mx) Q E s := by
  cases hc with
  | inf t =>
    have e : Float64.cmpInt infBits (n : Int) = some Ordering.gt := by
      unfold Float64.cmpInt
      rw [show Float64.decode infBits = .inf false from by with_unfolding_all rfl]
      rfl
    exact lt_if (by rw [e]; exact h)
  | one t => exact lt_int (by rw [show decide ((n : Int) < 1) = decide (n < 1) from by rw [decide_eq_decide]; omega]; exact h)
theorem len_l {prog : Program} {w : World} {A : Around} {E : Value → Shared → Prop} {s : Shared} {h₀ : Heap} {L D : Addr} {led : List (Addr × Obj)} {vs : List Value} {n : Nat} {Q : Value → Shared → Prop}
    (N : News h₀ L s.heap led) (hm : (D, listObj vs n) ∈ led) (hsz : vs.length ≤ 1000000) (h : Q (.int (vs.length : Nat) (s.toks + 1)) { s with toks := s.toks + 1 + 1 }) :
    wpAny (model prog w) A (call (.builtin "len") [.ref D]) Q E s :=
  PyProof.Rows.len_list (items := vs.toArray) ⟨_, (N _ hm).1, rfl, _, rfl⟩ (by rw [List.size_toArray]; omega) (by rw [List.size_toArray]; exact h)
end Mine
end
section
example : True := by
  w_top off
  trivial
open PySem PySem.W PyProof.Rows PySem.Spec PySem.Calls
namespace Mine
local macro_rules | `(tactic| k_room) => `(tactic| ktr_room)
local macro_rules | `(tactic| k_units) => `(tactic| ktr_units)
local macro_rules | `(tactic| k_all) => `(tactic| (refine up_neAll (by assumption) ?_; first | tbn_find | exact allLt_of (by assumption)))
local macro_rules | `(tactic| k_all) => `(tactic| (refine tbn_neAll ?_; first | tbn_find | exact allLt_of (by assumption)))
local macro_rules | `(tactic| ks_enter) => `(tactic| (refine' ks_code_super ?k1 ?k2 ?k3 ?k4 ?k5 ?kA ?kF ?kK ?k6 ?k7 ?k8 ?k9 ?kB ?_ ?c1 ?c2 ?c3 ?c4; (case kA => exact rfl); (case kF => exact rfl); (case kK => first | exact rfl | assumption); (case k1 => k_asm); (case k2 => k_asm); (case k3 => k_asm); (case k4 => k_asm); (case k5 => k_asm); (case k6 => k_is); (case k7 => k_is); (case k8 => k_room); (case k9 => exact binds_K (by k_in) rfl (by k_is) rfl rfl rfl); (case kB => exact locs rfl); (case c1 => decide); (case c2 => exact rfl); (case c3 => exact rfl); (case c4 => exact rfl); intro g' L' h' FG' F' N' B' X' T' l1; (try k_lt l1); (try dsimp only); (try k_lift B')))
local macro_rules | `(tactic| ks_enter) => `(tactic| (refine' superMore ?k1 ?k2 ?k3 ?k4 ?k5 ?kA ?kF ?kK ?k6 ?k7 ?k8 ?kX ?kM ?kN ?kR ?kP ?kT ?kB ?_ ?c2 ?c3 ?c4 ?c5; (case kA => exact rfl); (case kF => exact rfl); (case kK => first | exact rfl | assumption); (case k1 => k_asm); (case k2 => k_asm); (case k3 => k_asm); (case k4 => k_asm); (case k5 => k_asm); (case k6 => k_is); (case k7 => k_is); (case k8 => k_room); (case kX => kp_lit); (case kM => exact rfl); (case kN => exact rfl); (case kR => exact rfl); (case kP => exact rfl); (case kT => exact fun _ => rfl); (case kB => exact fun _ => locs rfl); (case c5 => decide); (case c2 => exact rfl); (case c3 => exact rfl); (case c4 => exact rfl); intro D' o' g' L' h' tk' l1 lo' hs' FG' F' N' B' X' T' l2; (try k_lt l1); (try k_lt2 l2); (try dsimp only); (try k_lift B')))
local macro_rules | `(tactic| ks_enter) => `(tactic| (refine' superBoth ?k1 ?k2 ?k3 ?k4 ?k5 ?kA ?kF ?kK ?k6 ?k7 ?k8 ?kV ?kX ?kQ ?kM ?kN ?kR ?kP ?kS ?kT ?kB ?_ ?c2 ?c3 ?c4 ?c5; (case kA => exact rfl); (case kF => exact rfl); (case kK => first | exact rfl | assumption); (case k1 => k_asm); (case k2 => k_asm); (case k3 => k_asm); (case k4 => k_asm); (case k5 => k_asm); (case k6 => k_is); (case k7 => k_is); (case k8 => k_room); (case kV => kp_lit); (case kX => kp_lit); (case kQ => exact rfl); (case kM => exact rfl); (case kN => exact rfl); (case kR => exact rfl); (case kP => exact rfl); (case kS => exact fun _ => rfl); (case kT => exact fun _ _ => rfl); (case kB => exact fun _ _ => locs rfl); (case c5 => decide); (case c2 => exact rfl); (case c3 => exact rfl); (case c4 => exact rfl); intro C' D' o' g' L' h' tk' l1 l2 lo' hs' FG' F' N' B' X' T' l3; (try k_lt l1); (try k_lt2 l2); (try k_lt2 l3); (try dsimp only); (try k_lift B')))
local macro_rules | `(tactic| walk_at "wpAt") => `(tactic| (ks_step "execs cons"; k_dflt (refine ks_wpAt_execs_cons ?_)))
local macro_rules | `(tactic| walk_at "wpAt") => `(tactic| (ks_step "exec Expr"; k_dflt (refine ks_wpAt_Expr_any ?_)))
local macro_rules | `(tactic| walk_at "wpAt") => `(tactic| (ks_step "eval Call"; k_dflt (refine ks_wpAt_MethodCall ?_)))
local macro_rules | `(tactic| k_mem) => `(tactic| first | assumption | exact List.mem_cons_self | exact List.Mem.head _ | (refine' List.mem_cons_of_mem _ ?_; k_mem))
local macro_rules | `(tactic| walk_at "getAttr ref") => `(tactic| (k_here; (with_reducible show wpAny _ _ (getAttr (Value.ref _) (Str.ofString "max") _) _ _ _); k_dflt (refine here_stop ?_)))
local macro_rules | `(tactic| walk_at "truthy ref") => `(tactic| (k_here; k_dflt (refine here_stop ?_)))
local macro_rules | `(tactic| walk_at "call builtin:len") => `(tactic| (k_here; (with_reducible show wpAny _ _ (call (Value.builtin "len") [Value.ref _]) _ _ _); k_dflt (refine here_stop ?_)))
local macro_rules | `(tactic| walk_at "getMethod ref") => `(tactic| (k_here; (with_reducible show wpAny _ _ (getMethod (Value.ref _) (Str.ofString "match_core") _) _ _ _); k_dflt (refine here_stop ?_)))
theorem mem_of5 (Γ : List Ex) {m : Nat} (h : m < Γ.length) : ∃ em, Γ[m]? = some em ∧ addrOf Γ m = em.a := ⟨Γ[m], by simp [h], by simp [addrOf, h]⟩
theorem name_head5 {h₀ h : Heap} {L a : Addr} {o : Obj} {led : List (Addr × Obj)} (_N : News h₀ L h ((a, o) :: led)) {P : Prop} (k : ∀ a', a' = a → P) : P := k a rfl
theorem cls_max (w : World) : ∃ d, findIn (Mine.hd.heap_39 w.params) (.ref 504) (Str.ofString "max") = some (some (.ref d)) ∧ specialIn (Mine.hd.heap_39 w.params) (.ref d) "__get__" = some (some (.builtin "member_descriptor.__get__")) ∧ takesIn (Mine.hd.heap_39 w.params) (.ref d) = some true ∧ slotIn (Mine.hd.heap_39 w.params) d 504 = some 0 := ⟨_, by k_is, by k_is, by k_is, by k_is⟩
theorem get_max {prog : Program} {w : World} {A : Around} {E : Value → Shared → Prop} {s : Shared} {h₀ : Heap} {L : Addr} {m : Str → Option Value} {led imm : List (Addr × Obj)} {e : Ex} {x : DO} {mx : Value} {mn : Int} {cap : Nat → Bool} {it : Option Value} {t1 t2 : Tok} {j : Nat} {expr : Bool} {Q : Value → Shared → Prop}
    (F : Fr h₀ L s.heap m) (X : (Mine.hd.heap_39 w.params).In h₀) (N : News h₀ L s.heap led) (S : SelfAt (Mine.hd.heap_39 w.params) e 504 j) (heo : e.o = quantObj e.d e.t mx mn e.nm it t1 t2) (he : (e.a, quantObj e.d e.t mx mn e.nm it t1 t2) ∈ led) (hx : (x.d, x.o) ∈ led) (hxd : x.d = e.d) (ho : DObj imm x) (hc : MaxOk mx cap)
    (h : Q mx { s with toks := s.toks + 1 }) : wpAny (model prog w) A (getAttr (.ref e.a) "max" expr) Q E s := by
  obtain ⟨es, n, I, hl⟩ := self_inst N S (by rw [heo]; exact he) hx hxd ho
  obtain ⟨d, h1, h2, h3, h4⟩ := cls_max w
  exact get_slot F X I (S.cls.plain _) S.cls.isCls h1 h2 h3 h4 (by rw [heo]; rfl) (by cases hc <;> rfl) h
def WhileHere (prog : Program) (w : World) (A : Around) (E : Value → Shared → Prop) (s : Shared) (env : Env) (test : Expr) (body orelse : List Stmt) (pos : Pos) (Q : Flow → Shared → Prop) : Prop := wpAny (model prog w) A (exec (.While test body orelse pos) env) Q E s
theorem while_stop {prog : Program} {w : World} {A : Around} {E : Value → Shared → Prop} {s : Shared} {env : Env} {test : Expr} {body orelse : List Stmt} {pos : Pos} {Q : Flow → Shared → Prop} (h : WhileHere prog w A E s env test body orelse pos Q) : wpAny (model prog w) A (exec (.While test body orelse pos) env) Q E s := h
theorem while_go {prog : Program} {w : World} {A : Around} {E : Value → Shared → Prop} {s : Shared} {env : Env} {test : Expr} {body orelse : List Stmt} {pos : Pos} {Q : Flow → Shared → Prop} (h : wpAny (model prog w) A (exec (.While test body orelse pos) env) Q E s) : WhileHere prog w A E s env test body orelse pos Q := h
local macro_rules | `(tactic| walk_at "exec While BoolOp") => `(tactic| (k_here; k_dflt (refine while_stop ?_)))
set_option hygiene false in
theorem um_quant {w : World} {p : Program} {loose : List Str} {mean : ExcName → Option Value} {mg mb : Str → Option Value} {P : PP} {i q : Nat} {e : Ex} {m1 : Nat} {mx : Value} {mn : Nat} {cap : Nat → Bool} {it : Option Value} {t1 t2 : Tok}
    (IH : ∀ i' q', P.μ i' q' < P.μ i q → MC w p loose mean mg mb P i' q') (he : P.Γ[i]? = some e) (hkd : memsOf P.Γ e.k = some [.ref (addrOf P.Γ m1)]) (humk : umOf e.k = 493) (heo : e.o = quantObj e.d e.t mx (mn : Nat) e.nm it t1 t2)
    (hm : m1 < P.Γ.length) (hmn : mn ≤ 1) (hmx : MaxOk mx cap) (hmu : ∀ k p', q ≤ p' → p' < P.txt.length → cap k = true → (k = 0 → p' = q) → P.μ m1 p' < P.μ i q)
    (hden : P.den i q = qFin e.own mn 0 0 (qRun P.den m1 P.txt.length cap (P.txt.length - q) 0 q)) : UMC w p loose mean mg mb P i q := by
  intro e' he' hq σ imm tt tq I hlat
  rw [he] at he'
  cases he'
  rw [humk]
  obtain ⟨x, hx, hxd, xok⟩ := I.ds i e he
  have eok := I.exs i e he
  have htup : (e.t, tupObj [.ref (addrOf P.Γ m1)]) ∈ imm := eok.2.2 _ hkd
  obtain ⟨em, hem1, hem2⟩ := mem_of5 P.Γ hm
  have SAq : SelfAt (Mine.hd.heap_39 w.params) e 504 4 := ⟨by rw [humk]; exact cls_quant w, by rw [heo], by rw [heo], by rw [heo]; rfl, _, by rw [heo]; rfl⟩
  rw [hem2] at htup
  have htl := I.txtLen
  intro dp un gd cn cs a ccd cl outer A₀ base h₀ L m s Q E B F X N T hk hdp hun ret
  refine gen_led N fun led hl N1 => ?_
  clear N
  have hea : (e.a, quantObj e.d e.t mx (mn : Nat) e.nm it t1 t2) ∈ led := by rw [hl, ← heo]; exact List.mem_append_right _ eok.1
  have hxa : (e.d, x.o) ∈ led := by rw [hl, ← hxd]; exact List.mem_append_left _ (mut_ds (List.mem_of_getElem? hx))
  have hta : (e.t, tupObj [.ref em.a]) ∈ led := by rw [hl]; exact List.mem_append_right _ htup
  refine wpAny_call ?_
  k_dflt (refine' code_defG ?k1 ?k2 ?k3 ?k4 ?k5 ?kA ?kF ?kK ?k6 ?k7 ?k8 ?k9 ?kB ?_ ?c2 ?c3 ?c4 ?c5; (case kA => exact rfl); (case kF => exact rfl); (case kK => first | assumption | exact rfl); (case k1 => k_asm); (case k2 => k_asm); (case k3 => k_asm); (case k4 => k_asm); (case k5 => k_asm); (case k6 => k_is); (case k7 => k_is); (case k8 => ktr_room); (case k9 => first | exact BindsTo.of_eq rfl | exact binds_K (by k_in) rfl (by k_is) rfl rfl rfl); (case c5 => decide); (case kB => exact locs rfl); (case c2 => exact rfl); (case c3 => exact rfl); (case c4 => exact rfl); k_whole; intro g' L' h' FG' F' N' B' X' T' G'; (try dsimp only); (try k_fold))
  k_steps
  rename Fr _ _ _ _ => F1
  rename News _ _ _ _ => N2
  rename (∀ p, p ∈ led → _ < _) => hLw
  refine name_head5 N2 fun Lc hLc => ?_
  subst hLc
  refine gen_fr F1 fun m0 hm0 F2 => ?_
  refine while_go ?_
  refine while_cut (n₀ := P.txt.length - q) (fun n m' led' => ∃ (σn : St) (immn : List (Addr × Obj)) (pn : Nat) (tn : Tok) (vs : List Value) (nl : Nat) (cs : List Nat),
    led' = (Lc, listObj vs nl) :: (σn.mut P ++ immn) ∧ Inv w P σn immn ∧ Step P σ imm σn immn ∧ (∀ p ∈ σn.mut P ++ immn, p.1 ≠ Lc) ∧
    (∀ k, k ≠ Str.ofString "node" → k ≠ Str.ofString "length" → k ≠ Str.ofString "new_pos" → m' k = m0 k) ∧ m' (Str.ofString "new_pos") = some (.int (pn : Int) tn) ∧ q ≤ pn ∧ pn ≤ P.txt.length ∧ vs.length ≤ pn ∧ (vs.length = 0 → pn = q) ∧ n = P.txt.length - pn ∧
    Kids (NodeOk P.Γ P.txt immn (P.μ i q)) vs cs ∧ P.den i q = qFin e.own mn vs.length cs.sum (qRun P.den m1 P.txt.length cap n vs.length pn))
    (fun m' led' => ∃ (σn : St) (immn : List (Addr × Obj)) (pn : Nat) (tn : Tok) (vs : List Value) (nl : Nat) (cs : List Nat),
    led' = (Lc, listObj vs nl) :: (σn.mut P ++ immn) ∧ Inv w P σn immn ∧ Step P σ imm σn immn ∧ (∀ p ∈ σn.mut P ++ immn, p.1 ≠ Lc) ∧
    (∀ k, k ≠ Str.ofString "node" → k ≠ Str.ofString "length" → k ≠ Str.ofString "new_pos" → m' k = m0 k) ∧ m' (Str.ofString "new_pos") = some (.int (pn : Int) tn) ∧ pn ≤ P.txt.length ∧ vs.length ≤ pn + 1 ∧
    Kids (NodeOk P.Γ P.txt immn (P.μ i q)) vs cs ∧ P.den i q = qFin e.own mn vs.length cs.sum (pn, 0, 0)) (by exact F2) (by exact N2)
    ⟨σ, imm, q, tq, [], 0, [], by rw [hl], I, Step.refl _ _ _, (fun p hp => Nat.ne_of_lt (hLw p (by rw [hl]; exact hp))), (fun _ _ _ _ => rfl), by rw [hm0]; rfl, Nat.le_refl _, hq, Nat.zero_le _, (fun _ => rfl), rfl, trivial, hden⟩ ?_ ?_
  · rintro n m1' led' h tk ⟨σn, immn, pn, tn, vs, nl, cs, rfl, In, Sn, hLn, hm1, hmp, hqn, hpn, hvn, hv0, hnn, hkids, hrun⟩ F3 N3
    have hvn2 : decide (vs.length ≤ pn) = true := decide_eq_true hvn
    clear hvn
    have F4 := fr_quant F3 hm1 hmp
    subst hm0
    clear F3 F2 F1 N2
    obtain ⟨xn, hxn, hxnd, xnok⟩ := In.ds i e he
    have heb : (e.a, quantObj e.d e.t mx (mn : Nat) e.nm it t1 t2) ∈ σn.mut P ++ immn := by rw [← heo]; exact List.mem_append_right _ (In.exs i e he).1
    have hxb : (e.d, xn.o) ∈ σn.mut P ++ immn := by rw [← hxnd]; exact List.mem_append_left _ (mut_ds (List.mem_of_getElem? hxn))
    have htb : (e.t, tupObj [.ref em.a]) ∈ σn.mut P ++ immn := List.mem_append_right _ (Sn.imm _ htup)
    by_cases hlt : pn < P.txt.length
    · have hlt' : ((pn : Nat) : Int) < (P.txt.length : Nat) := by omega
      k_steps
      rename News _ _ _ _ => N4
      refine here_go ?_
      refine len_l N4 (.head _) (by have := of_decide_eq_true hvn2; omega) ?_
      k_steps
      rename News _ _ _ _ => N5
      refine here_go ?_
      refine get_max (by assumption) (by assumption) N5 SAq heo (.tail _ heb) (.tail _ (by rw [hxnd]; exact hxb)) hxnd xnok.obj hmx ?_
      refine lt_max hmx ?_
      cases hcap : cap vs.length with
      | false =>
        k_steps
        rename Fr _ _ _ _ => F9
        rename News _ _ _ _ => N9
        refine ⟨_, _, _, _, rfl, F9, N9, σn, immn, pn, tn, vs, nl, cs, rfl, In, Sn, hLn, ?_, rfl, hpn, by have := of_decide_eq_true hvn2; omega, hkids, ?_⟩
        · intro k h1 h2 h3; simp only [if_neg h1, if_neg h2, if_neg h3]
        · rw [hrun, show n = (n - 1) + 1 by omega, qRun, if_neg (by rw [hcap]; exact fun x => Bool.noConfusion x.2)]
      | true =>
        have hmmu := hmu _ _ hqn hlt hcap hv0
        obtain ⟨xm, hxm1, hxm2, xmok⟩ := In.ds m1 em hem1
        have emok := In.exs m1 em hem1
        obtain ⟨Cm, jm, SAm⟩ := self_of w emok.2.1
        k_steps
        rename News _ _ _ _ => N4
        refine here_go ?_
        refine self_mc (by assumption) (by assumption) N4 SAm (.tail _ (List.mem_append_right _ emok.1)) (.tail _ (List.mem_append_left _ (mut_ds (List.mem_of_getElem? hxm1)))) hxm2 xmok.obj fun f hf hkf => ?_
        dsimp only
        refine callWith_K (by assumption) hkf ?_
        k_steps
        rw [hf]
        have MCm := IH m1 pn hmmu hm hpn σn immn tt tn In ((Sn.later' hlat).toLater hmmu)
        rw [hem2] at MCm
        refine Calls.useX (ext := [(Lc, listObj vs nl)]) (by assumption) (by assumption) (by assumption) (News.sub N4 fun p hp => .tail _ hp) (News.sub N4 fun p hp => by rw [List.mem_singleton.mp hp]; exact .head _)
          (fun z hz p hp => by rw [List.mem_singleton.mp hz]; exact hLn p hp) (by assumption) rfl MCm ?dd ?uu ?_
        case dd => exact Nat.lt_of_le_of_lt (show dp + 1 + (4 * P.μ m1 pn + 8) ≤ dp + (4 * P.μ i q + 6) by omega) hdp
        case uu => exact Nat.lt_of_le_of_lt (show un + 3 + (40 * P.μ m1 pn + 100) ≤ un + (40 * P.μ i q + 80) by omega) hun
        rintro v _ h3 tk3 F6 N6 hne3 ⟨σ3, imm3, rfl, I3, S3, hres⟩
        clear N4
        have hL4 : ∀ p ∈ σ3.mut P ++ imm3, p.1 ≠ Lc := hne3 _ (.head _)
        have N7 : News _ _ _ ((Lc, listObj vs nl) :: (σ3.mut P ++ imm3)) := N6
        clear N6
        cases hd : P.den m1 pn with
        | none =>
          have hv : v = .none := by unfold ResOk at hres; rw [hd] at hres; exact hres
          subst hv
          k_steps
          rename Fr _ _ _ _ => F9
          rename News _ _ _ _ => N9
          refine ⟨_, _, _, _, rfl, F9, N9, σ3, imm3, pn, tn, vs, nl, cs, rfl, I3, Sn.trans S3, hL4, ?_, rfl, hpn, by have := of_decide_eq_true hvn2; omega, Kids.mono (fun _ _ _ _ _ h => h.mono S3.imm (Nat.le_refl _)) hkids, ?_⟩
          · intro k h1 h2 h3; simp only [if_neg h1, if_neg h2, if_neg h3]
          · rw [hrun, show n = (n - 1) + 1 by omega, qRun, if_pos ⟨hlt, hcap⟩, hd]
        | some r =>
          obtain ⟨q2, c2⟩ := r
          have hv : ∃ nd, v = .ref nd ∧ NodeOk P.Γ P.txt imm3 (P.μ m1 pn + 1) nd m1 pn q2 c2 := by unfold ResOk at hres; rw [hd] at hres; exact hres
          obtain ⟨nd, rfl, hnd⟩ := hv
          obtain ⟨e5, d5, ch5, vs5, n5, cs5, u1, u2, u3, hr1, hr2, hr3, hr4⟩ := id hnd
          have hy1 : (nd, nodeObj e5.a d5 ch5 P.txt pn q2 u1 u2 u3) ∈ σ3.mut P ++ imm3 := List.mem_append_right _ hr2
          have hy2 : (d5, dictOf [] 0) ∈ σ3.mut P ++ imm3 := List.mem_append_right _ hr3
          obtain ⟨x3, hx3, hx3d, x3ok⟩ := I3.ds i e he
          have hec : (e.a, quantObj e.d e.t mx (mn : Nat) e.nm it t1 t2) ∈ σ3.mut P ++ imm3 := by rw [← heo]; exact List.mem_append_right _ (I3.exs i e he).1
          have hxc : (e.d, x3.o) ∈ σ3.mut P ++ imm3 := by rw [← hx3d]; exact List.mem_append_left _ (mut_ds (List.mem_of_getElem? hx3))
          clear heb hxb htb
          k_steps
          rename Fr _ _ _ _ => F8
          rename News _ _ _ _ => N9
          refine app_l (pre := []) F8 N9 (fun z hz => nomatch hz) hL4 (by have := of_decide_eq_true hvn2; omega) fun h9 F9 N10 => ?_
          have N11 : News _ _ h9 ((Lc, listObj (vs ++ [.ref nd]) (nl + 1)) :: (σ3.mut P ++ imm3)) := N10
          clear N10 N9 F8
          k_steps
          rename News _ _ _ _ => N13
          refine here_go ?_
          refine len_l N13 (.head _) (by rw [len_snoc]; have := of_decide_eq_true hvn2; omega) ?_
          have hge : (((vs ++ [Value.ref nd]).length : Nat) : Int) ≥ (mn : Nat) := by rw [len_snoc]; have := of_decide_eq_true hvn2; omega
          have hb := I3.good.bnd m1 pn q2 c2 hpn hd
          have hkids' := Kids.snoc (hnd.mono (fun _ h => h) hmmu) (Kids.mono (fun _ _ _ _ _ h => h.mono S3.imm (Nat.le_refl _)) hkids)
          k_steps
          · rename ((_ : Int) - _ = 0) => hz
            have hq2 : q2 = pn := by omega
            subst hq2
            show Reach _ _ _ _ _
            rename Fr _ _ _ _ => F12
            rename News _ _ _ _ => N12
            refine ⟨_, _, _, _, rfl, F12, N12, σ3, imm3, q2, tn, vs ++ [.ref nd], nl + 1, cs ++ [c2], rfl, I3, Sn.trans S3, hL4, ?_, rfl, hb.2, by rw [len_snoc]; have := of_decide_eq_true hvn2; omega, hkids', ?_⟩
            · intro k h1 h2 h3; simp only [if_neg h1, if_neg h2, if_neg h3]
            · rw [hrun, show n = (n - 1) + 1 by omega, qRun, if_pos ⟨hlt, hcap⟩, hd]
              dsimp only
              rw [if_pos rfl, len_snoc, sum_snoc]
              exact qFin_step (q2, 0, 0)
          · rename (¬ (_ : Int) - _ = 0) => hz
            have hq2 : pn < q2 := by omega
            have hpq : ((pn : Nat) : Int) + ((q2 : Nat) - (pn : Nat) : Int) = (q2 : Nat) := by omega
            rename Fr _ _ _ _ => F12
            rename News _ _ _ _ => N12
            refine gen_fr F12 fun mF hmF F13 => ?_
            obtain ⟨tn', htn⟩ : ∃ tn', mF (Str.ofString "new_pos") = some (.int ((q2 : Nat) : Int) tn') := ⟨_, by rw [hmF]; exact congrArg (fun z => some (Value.int z _)) hpq⟩
            refine ⟨P.txt.length - q2, by omega, _, _, _, _, rfl, F13, N12, σ3, imm3, q2, tn', vs ++ [.ref nd], nl + 1, cs ++ [c2], rfl, I3, Sn.trans S3, hL4, ?_, htn, by omega, hb.2, by rw [len_snoc]; have := of_decide_eq_true hvn2; omega, (fun h => absurd h (by simp)), rfl, hkids', ?_⟩
            · intro k h1 h2 h3; rw [hmF]; simp only [if_neg h1, if_neg h2, if_neg h3]
            · rw [hrun, show n = (n - 1) + 1 by omega, qRun, if_pos ⟨hlt, hcap⟩, hd]
              dsimp only
              rw [if_neg (by omega), qRun_fuel (fun p q c => I3.good.bnd m1 p q c) hb.2 (show P.txt.length - q2 ≤ n - 1 by omega) (Nat.le_refl _)]
              rw [len_snoc, sum_snoc]
              exact qFin_step _
    · have hlt' : ¬ ((pn : Nat) : Int) < (P.txt.length : Nat) := by omega
      k_steps
      rename Fr _ _ _ _ => F9
      rename News _ _ _ _ => N9
      refine ⟨_, _, _, _, rfl, F9, N9, σn, immn, pn, tn, vs, nl, cs, rfl, In, Sn, hLn, ?_, rfl, hpn, by have := of_decide_eq_true hvn2; omega, hkids, ?_⟩
      · intro k h1 h2 h3; simp only [if_neg h1, if_neg h2, if_neg h3]
      · rw [hrun]; rw [show n = 0 by omega]; rfl
  · rintro m3 led3 h3 tk3 ⟨σn, immn, pn, tn, vs, nl, cs, rfl, In, Sn, hLn, hm1, hmp, hpn, hvn, hkids, hrun⟩ F3 N3
    have F4 := fr_quant F3 hm1 hmp
    subst hm0
    clear F3 F2 F1 N2
    obtain ⟨xn, hxn, hxnd, xnok⟩ := In.ds i e he
    have heb : (e.a, quantObj e.d e.t mx (mn : Nat) e.nm it t1 t2) ∈ σn.mut P ++ immn := by rw [← heo]; exact List.mem_append_right _ (In.exs i e he).1
    have hxb : (e.d, xn.o) ∈ σn.mut P ++ immn := by rw [← hxnd]; exact List.mem_append_left _ (mut_ds (List.mem_of_getElem? hxn))
    have htb : (e.t, tupObj [.ref em.a]) ∈ σn.mut P ++ immn := List.mem_append_right _ (Sn.imm _ htup)
    dsimp only
    k_steps
    rename News _ _ _ _ => N4
    refine here_go ?_
    refine len_l N4 (.head _) (by omega) ?_
    have hvl : decide (vs.length ≤ 1000000) = true := decide_eq_true (by omega)
    clear hvn
    unfold qFin at hrun
    by_cases hmv : mn ≤ vs.length
    · rw [if_pos (show mn ≤ vs.length + (pn, 0, 0).2.1 from hmv)] at hrun
      have hmv' : ((vs.length : Nat) : Int) ≥ (mn : Nat) := by omega
      k_steps
      rename News _ _ _ _ => N8
      refine here_go ?_
      refine kgr_truthy (lo := listObj vs nl) (vs := vs) N8 (.tail _ (.tail _ (.head _))) rfl rfl (Nat.lt_of_le_of_lt (of_decide_eq_true hvl) (by decide)) ?_
      cases vs with
      | nil =>
        dsimp only [List.isEmpty, Bool.not_true]
        k_steps
        rename Fr _ _ _ _ => F9
        rename News _ _ _ _ => N9
        rename (_ ∧ AllLt _ (σn.mut P ++ immn)) => hw1
        rename (_ ∧ _ ∧ _ ∧ AllLt _ (σn.mut P ++ immn)) => hw2
        rename @LT.lt Nat _ _ _ => hw3
        have hcs : cs = [] := by cases cs with | nil => rfl | cons _ _ => exact hkids.elim
        obtain ⟨imm', hs, I', S', hr⟩ := old_post0 In Sn he (lt_of_allLt hw1.2) hw3 hw2.1 (q' := pn) (by rw [hrun, hcs]; rfl)
        have hs' := skip4 (d := (Lc, listObj [] nl)) hs
        exact ret _ _ _ _ F9 (News.sub N9 hs') (kept (by rw [← hl]; assumption) (by assumption) (by assumption) hs') ⟨σn, imm', rfl, I', S', hr⟩
      | cons v0 vr =>
        dsimp only [List.isEmpty, Bool.not_false]
        k_steps
        rename Fr _ _ _ _ => F9
        rename News _ _ _ _ => N9
        rename (_ ∧ AllLt _ (σn.mut P ++ immn)) => hw1
        rename @LT.lt Nat _ _ _ => hw3
        obtain ⟨imm', hs, I', S', hr⟩ := old_post (q' := pn) In Sn he hLn (fun p hp => hLw p (by rw [hl]; exact hp)) hw1.1 (lt_of_allLt hw1.2) hw3 (of_decide_eq_true hvl) hkids (Nat.le_refl _) (by rw [hrun]; rfl)
        exact ret _ _ _ _ F9 (News.sub N9 hs) (kept (by rw [← hl]; assumption) (by assumption) (by assumption) hs) ⟨σn, imm', rfl, I', S', hr⟩
    · rw [if_neg (show ¬ mn ≤ vs.length + (pn, 0, 0).2.1 from hmv)] at hrun
      have hmv' : ¬ ((vs.length : Nat) : Int) ≥ (mn : Nat) := by omega
      k_steps
      rename Fr _ _ _ _ => F9
      rename News _ _ _ _ => N9
      exact ret _ _ _ _ F9 (News.sub N9 fun p hp => .tail _ hp) (kept (by rw [← hl]; assumption) (by assumption) (by assumption) fun p hp => .tail _ hp) ⟨σn, immn, rfl, In, Sn, by unfold ResOk; rw [hrun]⟩
end Mine
end
section
open PySem PySem.W PyProof.Rows PySem.Spec PySem.Calls PyProof.V
namespace Mine
theorem um_of {w : World} {p : Program} {loose : List Str} {mean : ExcName → Option Value} {mg mb : Str → Option Value} {P : PP} {i q : Nat}
    (IH : ∀ i' q', P.μ i' q' < P.μ i q → MC w p loose mean mg mb P i' q') : UMC w p loose mean mg mb P i q := by
  intro e he hq σ imm tt tq I hlat
  have eok := I.exs i e he
  have hg := I.good.at_ i e q he hq
  cases hkd : e.k with
  | lit c => rw [← hkd]; exact um_lit he hkd e he hq σ imm tt tq I hlat
  | seq ms => rw [← hkd]; exact um_seq IH he hkd e he hq σ imm tt tq I hlat
  | oneOf ms => rw [← hkd]; exact um_oneOf IH he hkd e he hq σ imm tt tq I hlat
  | look neg m => rw [← hkd]; exact um_look IH he hkd e he hq σ imm tt tq I hlat
  | more m =>
    obtain ⟨it, tf, t1, t2, heo⟩ : ∃ it tf t1 t2, e.o = quantObj e.d e.t (.float infBits tf) 1 e.nm it t1 t2 := by have := eok.2.1; unfold Ex.instOk at this; rw [hkd] at this; exact this
    unfold GoodAt at hg
    rw [hkd] at hg
    obtain ⟨hm, hmu, hpr, hden⟩ := hg
    rw [← hkd]
    exact um_quant (mn := 1) (cap := fun _ => true) IH he (by rw [hkd]; rfl) (by rw [hkd]; rfl) heo hm (Nat.le_refl _) (.inf _) (fun _ p' h1 h2 _ _ => hmu p' h1 h2)
      (by rw [hden, qRun_more hpr]; unfold qFin; simp) e he hq σ imm tt tq I hlat
  | opt m =>
    obtain ⟨it, tm, t1, t2, heo⟩ : ∃ it tm t1 t2, e.o = quantObj e.d e.t (.int 1 tm) 0 e.nm it t1 t2 := by have := eok.2.1; unfold Ex.instOk at this; rw [hkd] at this; exact this
    unfold GoodAt at hg
    rw [hkd] at hg
    obtain ⟨hm, hmu, hden⟩ := hg
    rw [← hkd]
    refine um_quant (mn := 0) (cap := fun k => decide (k < 1)) IH he (by rw [hkd]; rfl) (by rw [hkd]; rfl) heo hm (Nat.zero_le _) (.one _) (fun k p' h1 h2 hc h0 => ?_) ?_ e he hq σ imm tt tq I hlat
    · have : k = 0 := by have := of_decide_eq_true hc; omega
      rw [h0 this] at h2 ⊢
      exact hmu h2
    · rw [hden, qRun_opt hq]
      unfold qFin
      by_cases h : q < P.txt.length
      · rw [if_pos h, if_pos h]
        cases P.den m q with
        | none => simp
        | some r => simp
      · rw [if_neg h, if_neg h]; simp
/-- match_core, for every expression and place -/
theorem mc_all {w : World} {p : Program} {loose : List Str} {mean : ExcName → Option Value} {mg mb : Str → Option Value} {P : PP} : ∀ i q, MC w p loose mean mg mb P i q := by
  have : ∀ n i q, P.μ i q < n → MC w p loose mean mg mb P i q := by
    intro n
    induction n with
    | zero => intro i q h; exact absurd h (Nat.not_lt_zero _)
    | succ n ih => intro i q h; exact mc_step (um_of fun i' q' h' => ih i' q' (by omega))
  exact fun i q => this _ i q (Nat.lt_succ_self _)
end Mine
end
section
example : True := by
  w_top off
  trivial
open PySem PySem.W PyProof.Rows PySem.Spec PySem.Calls
namespace Mine
local macro_rules | `(tactic| k_room) => `(tactic| ktr_room)
local macro_rules | `(tactic| k_units) => `(tactic| ktr_units)
local macro_rules | `(tactic| k_all) => `(tactic| (refine up_neAll (by assumption) ?_; first | tbn_find | exact allLt_of (by assumption)))
local macro_rules | `(tactic| k_all) => `(tactic| (refine tbn_neAll ?_; first | tbn_find | exact allLt_of (by assumption)))
local macro_rules | `(tactic| ks_enter) => `(tactic| (refine' ks_code_super ?k1 ?k2 ?k3 ?k4 ?k5 ?kA ?kF ?kK ?k6 ?k7 ?k8 ?k9 ?kB ?_ ?c1 ?c2 ?c3 ?c4; (case kA => exact rfl); (case kF => exact rfl); (case kK => first | exact rfl | assumption); (case k1 => k_asm); (case k2 => k_asm); (case k3 => k_asm); (case k4 => k_asm); (case k5 => k_asm); (case k6 => k_is); (case k7 => k_is); (case k8 => k_room); (case k9 => exact binds_K (by k_in) rfl (by k_is) rfl rfl rfl); (case kB => exact locs rfl); (case c1 => decide); (case c2 => exact rfl); (case c3 => exact rfl); (case c4 => exact rfl); intro g' L' h' FG' F' N' B' X' T' l1; (try k_lt l1); (try dsimp only); (try k_lift B')))
local macro_rules | `(tactic| ks_enter) => `(tactic| (refine' superMore ?k1 ?k2 ?k3 ?k4 ?k5 ?kA ?kF ?kK ?k6 ?k7 ?k8 ?kX ?kM ?kN ?kR ?kP ?kT ?kB ?_ ?c2 ?c3 ?c4 ?c5; (case kA => exact rfl); (case kF => exact rfl); (case kK => first | exact rfl | assumption); (case k1 => k_asm); (case k2 => k_asm); (case k3 => k_asm); (case k4 => k_asm); (case k5 => k_asm); (case k6 => k_is); (case k7 => k_is); (case k8 => k_room); (case kX => kp_lit); (case kM => exact rfl); (case kN => exact rfl); (case kR => exact rfl); (case kP => exact rfl); (case kT => exact fun _ => rfl); (case kB => exact fun _ => locs rfl); (case c5 => decide); (case c2 => exact rfl); (case c3 => exact rfl); (case c4 => exact rfl); intro D' o' g' L' h' tk' l1 lo' hs' FG' F' N' B' X' T' l2; (try k_lt l1); (try k_lt2 l2); (try dsimp only); (try k_lift B')))
local macro_rules | `(tactic| ks_enter) => `(tactic| (refine' superBoth ?k1 ?k2 ?k3 ?k4 ?k5 ?kA ?kF ?kK ?k6 ?k7 ?k8 ?kV ?kX ?kQ ?kM ?kN ?kR ?kP ?kS ?kT ?kB ?_ ?c2 ?c3 ?c4 ?c5; (case kA => exact rfl); (case kF => exact rfl); (case kK => first | exact rfl | assumption); (case k1 => k_asm); (case k2 => k_asm); (case k3 => k_asm); (case k4 => k_asm); (case k5 => k_asm); (case k6 => k_is); (case k7 => k_is); (case k8 => k_room); (case kV => kp_lit); (case kX => kp_lit); (case kQ => exact rfl); (case kM => exact rfl); (case kN => exact rfl); (case kR => exact rfl); (case kP => exact rfl); (case kS => exact fun _ => rfl); (case kT => exact fun _ _ => rfl); (case kB => exact fun _ _ => locs rfl); (case c5 => decide); (case c2 => exact rfl); (case c3 => exact rfl); (case c4 => exact rfl); intro C' D' o' g' L' h' tk' l1 l2 lo' hs' FG' F' N' B' X' T' l3; (try k_lt l1); (try k_lt2 l2); (try k_lt2 l3); (try dsimp only); (try k_lift B')))
local macro_rules | `(tactic| walk_at "wpAt") => `(tactic| (ks_step "execs cons"; k_dflt (refine ks_wpAt_execs_cons ?_)))
local macro_rules | `(tactic| walk_at "wpAt") => `(tactic| (ks_step "exec Expr"; k_dflt (refine ks_wpAt_Expr_any ?_)))
local macro_rules | `(tactic| walk_at "wpAt") => `(tactic| (ks_step "eval Call"; k_dflt (refine ks_wpAt_MethodCall ?_)))
local macro_rules | `(tactic| k_mem) => `(tactic| first | assumption | exact List.mem_cons_self | exact List.Mem.head _ | (refine' List.mem_cons_of_mem _ ?_; k_mem))
local macro_rules | `(tactic| walk_at "setAttr ref") => `(tactic| (k_here; k_dflt (refine here_stop ?_)))
set_option hygiene false in
theorem mk_err {w : World} {p : Program} {loose : List Str} {mean : ExcName → Option Value} {mg mb : Str → Option Value} (txt : Str) (tt : Tok) :
    CallsN w p loose mean mg mb 6 40 94 [.str txt tt] [] (ErrMade 94 txt tt (-1) .none [.str txt tt]) := by
  intro led dp un gd cn cs a ccd cl outer A₀ base h₀ L m s Q E B F X N T hk hdp hun ret
  have EF := err_f w
  refine call_exc_init (rest := [.str txt tt]) (f := 70) PySem.F.excBase_Exception ?ab F X N (by exact rfl) (by k_is) (by k_is) (by exact (by decide : 1 ≤ sizeLine)) fun x t h' F1 N1 hxt htx => ?_
  case ab => exact ⟨by decide +kernel, by decide +kernel, by decide +kernel⟩
  k_dflt (refine' code_defG ?k1 ?k2 ?k3 ?k4 ?k5 ?kA ?kF ?kK ?k6 ?k7 ?k8 ?k9 ?kB ?_ ?c2 ?c3 ?c4 ?c5; (case kA => exact rfl); (case kF => exact rfl); (case kK => first | assumption | exact rfl); (case k1 => k_asm); (case k2 => k_asm); (case k3 => k_asm); (case k4 => k_asm); (case k5 => k_asm); (case k6 => k_is); (case k7 => k_is); (case k8 => ktr_room); (case k9 => first | exact BindsTo.of_eq rfl | exact binds_K (by k_in) rfl (by k_is) rfl rfl rfl); (case c5 => decide); (case kB => exact locs rfl); (case c2 => exact rfl); (case c3 => exact rfl); (case c4 => exact rfl); k_whole; intro g' L' h' FG' F' N' B' X' T' G'; (try dsimp only); (try k_fold))
  k_steps
  rename Fr _ _ _ _ => F2
  rename News _ _ _ _ => N2
  have X2 : (Mine.hd.heap_39 w.params).In g' := by assumption
  refine here_go ?_
  refine exc_set0 F2 X2 N2 (fun p hp => by rcases List.mem_cons.mp hp with rfl | hp; exact Nat.ne_of_lt htx; exact Nat.ne_of_lt (Nat.lt_trans (hxt p hp) htx)) EF.po EF.ttext fun dx h2 F3 hdx N3 => ?_
  clear N2 F2
  have hxd : @LT.lt Nat _ x dx := hdx _ (.head _)
  have hR : ∀ p ∈ (x, errObj 94 dx t) :: (t, tupObj [.str txt tt]) :: led, p.1 ≠ dx := fun p hp => by
    rcases List.mem_cons.mp hp with rfl | hp
    · exact Nat.ne_of_lt hxd
    · exact Nat.ne_of_lt (hdx p (.tail _ hp))
  k_steps
  rename Fr _ _ _ _ => F4
  rename News _ _ _ _ => N4
  refine here_go ?_
  refine exc_set (pre := []) F4 X2 N4 (fun _ h => nomatch h) hR ⟨(N4 _ (.tail _ (.head _))).1, rfl, rfl, (N4 _ (.head _)).1⟩ rfl EF.po EF.tpos (by rfl) (fun _ _ => by exact (by decide : 2 ≤ 1000)) fun h3 F5 N5 => ?_
  clear N4 F4
  k_steps
  rename Fr _ _ _ _ => F6
  rename News _ _ _ _ => N6
  refine here_go ?_
  refine exc_set (pre := []) F6 X2 N6 (fun _ h => nomatch h) hR ⟨(N6 _ (.tail _ (.head _))).1, rfl, rfl, (N6 _ (.head _)).1⟩ rfl EF.po EF.texpr (by rfl) (fun _ _ => by exact (by decide : 3 ≤ 1000)) fun h4 F7 N7 => ?_
  clear N6 F6
  k_steps
  rename Fr _ _ _ _ => F8
  rename News _ _ _ _ => N8
  exact ret (.ref x) [_, _, _] _ _ F8 N8 (new3 hxt htx hxd) ⟨x, dx, t, _, _, _, _, _, _, _, _, rfl, rfl, htx, hxd⟩
structure ErrF2 (K : Frag) : Prop where
  po : PassOver K 132
  tpos : takerIn K 132 (Str.ofString "pos") = some none
  texpr : takerIn K 132 (Str.ofString "expr") = some none
  ttext : takerIn K 132 (Str.ofString "text") = some none
theorem err_f2 (w : World) : ErrF2 (Mine.hd.heap_39 w.params) :=
  ⟨⟨⟨_, by k_is, fun self => by rw [refuseLoop_ref, refuseLoop_ref, refuseLoop_ref, refuseLoop_ref]; exact PySem.F.store_Exception.passes self, by decide +kernel, by decide +kernel, rfl, rfl⟩, by k_is, by k_is, by k_is⟩, by k_is, by k_is, by k_is⟩
set_option hygiene false in
theorem mk_err2 {w : World} {p : Program} {loose : List Str} {mean : ExcName → Option Value} {mg mb : Str → Option Value} (txt : Str) (tt : Tok) (z : Int) (tz : Tok) (ev : Value) :
    CallsN w p loose mean mg mb 6 40 132 [.str txt tt, .int z tz, ev] [] (ErrMade 132 txt tt z ev [.str txt tt, .int z tz, ev]) := by
  intro led dp un gd cn cs a ccd cl outer A₀ base h₀ L m s Q E B F X N T hk hdp hun ret
  have EF := err_f2 w
  refine call_exc_init (rest := [.str txt tt, .int z tz, ev]) (f := 70) PySem.F.excBase_Exception ?ab F X N (by exact rfl) (by k_is) (by k_is) (by exact (by decide : 3 ≤ sizeLine)) fun x t h' F1 N1 hxt htx => ?_
  case ab => exact ⟨by decide +kernel, by decide +kernel, by decide +kernel⟩
  k_dflt (refine' code_defG ?k1 ?k2 ?k3 ?k4 ?k5 ?kA ?kF ?kK ?k6 ?k7 ?k8 ?k9 ?kB ?_ ?c2 ?c3 ?c4 ?c5; (case kA => exact rfl); (case kF => exact rfl); (case kK => first | assumption | exact rfl); (case k1 => k_asm); (case k2 => k_asm); (case k3 => k_asm); (case k4 => k_asm); (case k5 => k_asm); (case k6 => k_is); (case k7 => k_is); (case k8 => ktr_room); (case k9 => first | exact BindsTo.of_eq rfl | exact binds_K (by k_in) rfl (by k_is) rfl rfl rfl); (case c5 => decide); (case kB => exact locs rfl); (case c2 => exact rfl); (case c3 => exact rfl); (case c4 => exact rfl); k_whole; intro g' L' h' FG' F' N' B' X' T' G'; (try dsimp only); (try k_fold))
  k_steps
  rename Fr _ _ _ _ => F2
  rename News _ _ _ _ => N2
  have X2 : (Mine.hd.heap_39 w.params).In g' := by assumption
  refine here_go ?_
  refine exc_set0 F2 X2 N2 (fun p hp => by rcases List.mem_cons.mp hp with rfl | hp; exact Nat.ne_of_lt htx; exact Nat.ne_of_lt (Nat.lt_trans (hxt p hp) htx)) EF.po EF.ttext fun dx h2 F3 hdx N3 => ?_
  clear N2 F2
  have hxd : @LT.lt Nat _ x dx := hdx _ (.head _)
  have hR : ∀ p ∈ (x, errObj 132 dx t) :: (t, tupObj [.str txt tt, .int z tz, ev]) :: led, p.1 ≠ dx := fun p hp => by
    rcases List.mem_cons.mp hp with rfl | hp
    · exact Nat.ne_of_lt hxd
    · exact Nat.ne_of_lt (hdx p (.tail _ hp))
  k_steps
  rename Fr _ _ _ _ => F4
  rename News _ _ _ _ => N4
  refine here_go ?_
  refine exc_set (pre := []) F4 X2 N4 (fun _ h => nomatch h) hR ⟨(N4 _ (.tail _ (.head _))).1, rfl, rfl, (N4 _ (.head _)).1⟩ rfl EF.po EF.tpos (by rfl) (fun _ _ => by exact (by decide : 2 ≤ 1000)) fun h3 F5 N5 => ?_
  clear N4 F4
  k_steps
  rename Fr _ _ _ _ => F6
  rename News _ _ _ _ => N6
  refine here_go ?_
  refine exc_set (pre := []) F6 X2 N6 (fun _ h => nomatch h) hR ⟨(N6 _ (.tail _ (.head _))).1, rfl, rfl, (N6 _ (.head _)).1⟩ rfl EF.po EF.texpr (by rfl) (fun _ _ => by exact (by decide : 3 ≤ 1000)) fun h4 F7 N7 => ?_
  clear N6 F6
  k_steps
  rename Fr _ _ _ _ => F8
  rename News _ _ _ _ => N8
  exact ret (.ref x) [_, _, _] _ _ F8 N8 (new3 hxt htx hxd) ⟨x, dx, t, _, _, _, _, _, _, _, _, rfl, rfl, htx, hxd⟩
end Mine
end
section
open PySem PySem.W PyProof.Rows PySem.Spec PySem.Calls PyProof.V
namespace Mine
/-- a call that may raise an exception of an own class -/
def CallsX (w : World) (p : Program) (loose : List Str) (mean : ExcName → Option Value) (mg mb : Str → Option Value) (D U : Nat) (f : Addr) (args : List Value) (kw : List (Str × Value)) (led : List (Addr × Obj)) (Post : Value → List (Addr × Obj) → Prop) (Exn : Addr → Addr → List (Addr × Obj) → Prop) : Prop :=
  ∀ (dp un : Nat) (gd : Option (List Code)) (cn : Str) (cs : Scope) (a : Addr) (ccd : Value) (cl : List (Str × Addr)) (outer : List Env) (A₀ : Around) (base h₀ : Heap) (L : Addr) (m : Str → Option Value) (s : Shared) (Q E : Value → Shared → Prop),
    Below A₀ base outer h₀ → Fr h₀ L s.heap m → (Mine.hd.heap_39 w.params).In h₀ → News h₀ L s.heap led → Top p loose mean mg mb h₀ → cs.kind = .function → dp + D < recursionLimit → un + U < cLine →
    (∀ r news' h' tk', Fr h₀ L h' m → News h₀ L h' news' → Post r news' → Q r { s with heap := h', toks := tk' }) →
    (∀ C e a0 news' g' h' tk', Fr h₀ L g' m → RaisedM base g' (envX cn cs L a ccd cl :: outer) e C a0 news' h' → g'.UpToSlots h' → Exn C e news' → E (.ref e) { s with heap := h', toks := tk' }) →
    wpAny (model PySem.Challenge.rw_vy0016_01.row.prog w) (ktrTop dp un gd cn cs L a ccd cl outer) (call (.ref f) args kw) Q E s
theorem CallsX.use {w : World} {p : Program} {loose : List Str} {mean : ExcName → Option Value} {mg mb : Str → Option Value} {D U : Nat} {f : Addr} {args : List Value} {kw : List (Str × Value)} {led : List (Addr × Obj)} {Post : Value → List (Addr × Obj) → Prop} {Exn : Addr → Addr → List (Addr × Obj) → Prop}
    {dp un : Nat} {gd : Option (List Code)} {cn : Str} {cs : Scope} {a : Addr} {ccd : Value} {cl : List (Str × Addr)} {outer : List Env} {A₀ : Around} {base h₀ : Heap} {L : Addr} {m : Str → Option Value} {s : Shared} {Q E : Value → Shared → Prop}
    (B : Below A₀ base outer h₀) (F : Fr h₀ L s.heap m) (X : (Mine.hd.heap_39 w.params).In h₀) (N : News h₀ L s.heap led) (T : Top p loose mean mg mb h₀) (hk : cs.kind = .function) (C : CallsX w p loose mean mg mb D U f args kw led Post Exn)
    (hd : dp + D < recursionLimit) (hu : un + U < cLine)
    (ret : ∀ r news' h' tk', Fr h₀ L h' m → News h₀ L h' news' → Post r news' → Q r { s with heap := h', toks := tk' })
    (exn : ∀ C e a0 news' g' h' tk', Fr h₀ L g' m → RaisedM base g' (envX cn cs L a ccd cl :: outer) e C a0 news' h' → g'.UpToSlots h' → Exn C e news' → E (.ref e) { s with heap := h', toks := tk' }) :
    wpAny (model PySem.Challenge.rw_vy0016_01.row.prog w) (ktrTop dp un gd cn cs L a ccd cl outer) (call (.ref f) args kw) Q E s := C _ _ _ _ _ _ _ _ _ _ _ _ _ _ _ _ _ B F X N T hk hd hu ret exn
theorem self_meth {prog : Program} {w : World} {A : Around} {E : Value → Shared → Prop} {s : Shared} {K : Frag} {C f : Addr} {j : Nat} {h₀ : Heap} {L : Addr} {m : Str → Option Value} {led imm : List (Addr × Obj)} {e : Ex} {x : DO} {name : Str} {pl : Sem Bool} {Q : Value × List Value → Shared → Prop}
    (F : Fr h₀ L s.heap m) (X : K.In h₀) (N : News h₀ L s.heap led) (S : SelfAt K e C j) (he : (e.a, e.o) ∈ led) (hx : (x.d, x.o) ∈ led) (hxd : x.d = e.d) (ho : DObj imm x)
    (hf : findIn K (.ref C) name = some (some (.ref f))) (hfn : isFn K (.ref f) = true) (hkp : keepIn K (.ref f) = true) (hname : name ≠ Str.ofString "oids")
    (h : ∀ f', f' = f → keepIn K (.ref f') = true → Q (.ref f', [.ref e.a]) s) : wpAny (model prog w) A (getMethod (.ref e.a) name pl) Q E s := by
  obtain ⟨es, n, I, hl⟩ := self_inst N S he hx hxd ho
  exact method_inst F X I (S.cls.plain _) hf hfn (hl _ hname) (h f rfl hkp)
def MatchPost (Γ : List Ex) (txt : Str) (den : Den) (μ : Nat → Nat → Nat) (B : Nat) (imm : List (Addr × Obj)) (i : Nat) (v : Value) (news' : List (Addr × Obj)) : Prop :=
  ∃ q c ds' imm' nd, den i 0 = some (q, c) ∧ news' = ds'.map DO.cell ++ imm' ∧ Idle Γ (B + 1) ds' imm' ∧ (∀ p ∈ imm, p ∈ imm') ∧ v = .ref nd ∧ NodeOk Γ txt imm' (μ i 0 + 1) nd i 0 q c
def MatchExn (Γ : List Ex) (B : Nat) (imm : List (Addr × Obj)) (bad : Prop) (C e : Addr) (news' : List (Addr × Obj)) : Prop :=
  bad ∧ (C = 94 ∨ C = 132) ∧ ∃ ds' imm', news' = ds'.map DO.cell ++ imm' ∧ (∀ oe, Idle Γ (B + 1) ds' ((e, oe) :: imm')) ∧ (∀ p ∈ imm, p ∈ imm')
end Mine
end
section
open PySem PySem.W PyProof.Rows PySem.Spec PySem.Calls PyProof.V
namespace Mine
section
variable {prog : Program} {w : World} {A₀ A : Around} {s : Shared} {base h₀ : Heap} {L : Addr} {m mg mb : Str → Option Value} {env : Env} {news : List (Addr × Obj)} {K : Frag} {p : Program} {loose : List Str} {mean : ExcName → Option Value}
  {R : Result → Shared → Prop} {name qual : Str} {params : Arguments} {body : List Stmt} {scope : Scope} {dV kV doc pm cdv ct oc : Value} {an od : Option Addr} {osl : Array (Option Value)} {f : Addr} {args : Args} {binds : List (Str × Value)}
theorem fm_mem {b : Addr} (hf : env.frame = some L) (hb : b ∈ [env].filterMap (·.frame)) : b = L := by
  obtain ⟨v, hv, e⟩ := List.mem_filterMap.mp hb
  rw [List.mem_singleton.mp hv, hf] at e
  exact (Option.some.inj e).symm
/-- a def that catches, called by the outermost frame -/
theorem code_defT (B : Below A₀ base [] h₀) (F : Fr h₀ L s.heap m) (X₀ : K.In h₀) (N : News h₀ L s.heap news) (T : Top p loose mean mg mb h₀) (hA : A.frames = some [env]) (hf : env.frame = some L) (hke : env.scope.kind = .function)
    (ho : K.lookup f = some ⟨oc, od, .func (fnOf name qual params body scope dV kV doc pm an cdv ct), osl⟩) (hcd : codeIn K cdv qual = true) (hroom : A.depth < recursionLimit)
    (hbind : BindsTo s (fnOf name qual params body scope dV kV doc pm an cdv ct) args binds) (hloc : ∀ y ∈ binds, scope.names.lookup y.1 = some .local)
    (h : ∀ g L' h₁, Fr h₀ L g m → Fr g L' h₁ (fun y => binds.reverse.lookup y) → News g L' h₁ news → Below A base [env] g → K.In g → Top p loose mean mg mb g → KtsDicts ([env].filterMap (·.frame)) g →
      wpAny (model prog w) (A.deeper (envOf qual scope L' f cdv)) (execs body (envOf qual scope L' f cdv))
        (fun fl s' => LeaveS0 ([env].filterMap (·.frame)) h₀ L m g R (match fl with | .ret v => v | _ => .none) s')
        (fun e s' => wpAny (model prog w) (A.deeper (envOf qual scope L' f cdv)) (leaving (envOf qual scope L' f cdv) e) (fun _ s'' => R (.error e) s'') (fun e' s'' => R (.error e') s'') s')
        { s with heap := h₁, toks := s.toks + binds.length })
    (hco : scope.isCoroutine = false) (hgen : scope.isGenerator = false) (hk : scope.kind = .function)
    (hcell : ∀ x ∈ scope.names, x.2 ≠ .cell) : codeAny (model prog w) A (.call (.ref f) args) R s := by
  obtain ⟨FG, BG, st, _⟩ := groundX (R := R) B F N hA hf hke
  obtain ⟨oL, es, ep, hLg, hLd, hLk, hLf⟩ := id FG.ns
  refine codeAny_call_def (fd := fnX name qual params body scope [] dV kV doc pm an cdv ct) (body := body) (binds := binds) hroom ((X₀.keeps F.keep) _ _ ho) rfl (T.nolimit.keeps F.keep) (codeRec_of (X₀.keeps F.keep) hcd) rfl hbind hcell hloc (fun h₁ hns hk₁ => ?_) hco hgen hk
  refine wpAny_mono (h _ s.heap.objs.size h₁ FG ⟨hns, fun b o e => hk₁ b o (of_hideAll _ e), Nat.le_of_eq (hideAll_size _ _)⟩
    (fun p hp => ⟨hk₁ _ _ (N p hp).1, Nat.ne_of_lt (Heap.lt_size (N p hp).1), hideAll_none _ (List.mem_map_of_mem hp)⟩) BG (X₀.keeps st) (T.keeps st) (fun b hb => by
      obtain rfl := fm_mem hf hb
      exact ⟨oL, es, ep, hLg, hLd⟩)) (fun fl s' hl => ?_) fun _ _ y => y
  obtain ⟨g', L', m', news', T', F', N', k⟩ := hl
  have nL₀ : h₀.get? L = none := kts_self F
  obtain ⟨sl, hs⟩ := T'.up hLg
  refine k ⟨⟨_, es, ep, F'.keep _ _ hs, hLd, hLk, hLf⟩, fun b o e => F'.keep b o (T'.other b o (st b o e) (fun q => by
    rw [fm_mem hf q, nL₀] at e
    cases e)), F.above⟩ fun p hp => ⟨(N' p hp).1, fun q => ?_, ?_⟩
  · have := (N' p hp).2.2; rw [q, hs] at this; cases this
  · cases q : h₀.get? p.1 with
    | none => rfl
    | some o =>
      obtain ⟨sl', hs'⟩ := T'.up (st _ _ q)
      have := (N' p hp).2.2
      rw [hs'] at this
      cases this
end
/-- a call of a def that catches, out of the outermost frame -/
def CallsT (w : World) (p : Program) (loose : List Str) (mean : ExcName → Option Value) (mg mb : Str → Option Value) (D U : Nat) (f : Addr) (args : List Value) (led : List (Addr × Obj)) (Post : Value → List (Addr × Obj) → Prop) : Prop :=
  ∀ (dp un : Nat) (gd : Option (List Code)) (cn : Str) (cs : Scope) (a : Addr) (ccd : Value) (cl : List (Str × Addr)) (A₀ : Around) (base h₀ : Heap) (L : Addr) (m : Str → Option Value) (s : Shared) (Q E : Value → Shared → Prop),
    Below A₀ base [] h₀ → (Mine.hd.heap_39 w.params).In base → Top p loose mean mg mb base → Fr h₀ L s.heap m → (Mine.hd.heap_39 w.params).In h₀ → News h₀ L s.heap led → Top p loose mean mg mb h₀ → cs.kind = .function → dp + D < recursionLimit → un + U < cLine →
    (∀ r news' h' tk', Fr h₀ L h' m → News h₀ L h' news' → Post r news' → Q r { s with heap := h', toks := tk' }) →
    wpAny (model PySem.Challenge.rw_vy0016_01.row.prog w) (ktrTop dp un gd cn cs L a ccd cl []) (call (.ref f) args) Q E s
theorem CallsT.use {w : World} {p : Program} {loose : List Str} {mean : ExcName → Option Value} {mg mb : Str → Option Value} {D U : Nat} {f : Addr} {args : List Value} {led : List (Addr × Obj)} {Post : Value → List (Addr × Obj) → Prop}
    {dp un : Nat} {gd : Option (List Code)} {cn : Str} {cs : Scope} {a : Addr} {ccd : Value} {cl : List (Str × Addr)} {A₀ : Around} {base h₀ : Heap} {L : Addr} {m : Str → Option Value} {s : Shared} {Q E : Value → Shared → Prop}
    (B : Below A₀ base [] h₀) (XB : (Mine.hd.heap_39 w.params).In base) (TB : Top p loose mean mg mb base) (F : Fr h₀ L s.heap m) (X : (Mine.hd.heap_39 w.params).In h₀) (N : News h₀ L s.heap led) (T : Top p loose mean mg mb h₀) (hk : cs.kind = .function) (C : CallsT w p loose mean mg mb D U f args led Post)
    (hd : dp + D < recursionLimit) (hu : un + U < cLine) (ret : ∀ r news' h' tk', Fr h₀ L h' m → News h₀ L h' news' → Post r news' → Q r { s with heap := h', toks := tk' }) :
    wpAny (model PySem.Challenge.rw_vy0016_01.row.prog w) (ktrTop dp un gd cn cs L a ccd cl []) (call (.ref f) args) Q E s := C _ _ _ _ _ _ _ _ _ _ _ _ _ _ _ _ B XB TB F X N T hk hd hu ret
/-- the end that a rule comes to, asked for the whole text or not -/
def takenEnd (whole : Bool) (len : Nat) : Option (Nat × Nat) → Option Nat
  | none => none
  | some (q, _) => if whole = true ∧ q ≠ len then none else some q
def TakenPost (Γ : List Ex) (B : Nat) (imm : List (Addr × Obj)) (r : Option Nat) (v : Value) (news' : List (Addr × Obj)) : Prop :=
  (match r with | none => v = .none | some q => ∃ tk, v = .int (q : Nat) tk) ∧ ∃ ds' imm', news' = ds'.map DO.cell ++ imm' ∧ Idle Γ (B + 1) ds' imm' ∧ (∀ p ∈ imm, p ∈ imm')
theorem taken_no {len : Nat} {d : Option (Nat × Nat)} (h : ∀ c, d ≠ some (len, c)) : takenEnd true len d = none := by
  cases d with
  | none => rfl
  | some r =>
    obtain ⟨q, c⟩ := r
    show (if true = true ∧ q ≠ len then none else some q) = none
    rw [if_pos ⟨rfl, fun e => h c (by rw [e])⟩]
theorem taken_all {len c : Nat} : takenEnd true len (some (len, c)) = some len := by
  show (if true = true ∧ len ≠ len then none else some len) = some len
  rw [if_neg (fun x => x.2 rfl)]
theorem taken_any {len q c : Nat} : takenEnd false len (some (q, c)) = some q := by
  show (if false = true ∧ q ≠ len then none else some q) = some q
  rw [if_neg (fun x => Bool.noConfusion x.1)]
theorem swap_mem {A B : List (Addr × Obj)} {x : Addr × Obj} : ∀ p ∈ A ++ x :: B, p ∈ x :: (A ++ B) := fun p hp => by
  rcases List.mem_append.mp hp with hp | hp
  · exact .tail _ (List.mem_append_left _ hp)
  · rcases List.mem_cons.mp hp with rfl | hp
    · exact .head _
    · exact .tail _ (List.mem_append_right _ hp)
end Mine
end
section
example : True := by
  w_top off
  trivial
open PySem PySem.W PyProof.Rows PySem.Spec PySem.Calls
namespace Mine
local macro_rules | `(tactic| k_room) => `(tactic| ktr_room)
local macro_rules | `(tactic| k_units) => `(tactic| ktr_units)
local macro_rules | `(tactic| k_all) => `(tactic| (refine up_neAll (by assumption) ?_; first | tbn_find | exact allLt_of (by assumption)))
local macro_rules | `(tactic| k_all) => `(tactic| (refine tbn_neAll ?_; first | tbn_find | exact allLt_of (by assumption)))
local macro_rules | `(tactic| ks_enter) => `(tactic| (refine' ks_code_super ?k1 ?k2 ?k3 ?k4 ?k5 ?kA ?kF ?kK ?k6 ?k7 ?k8 ?k9 ?kB ?_ ?c1 ?c2 ?c3 ?c4; (case kA => exact rfl); (case kF => exact rfl); (case kK => first | exact rfl | assumption); (case k1 => k_asm); (case k2 => k_asm); (case k3 => k_asm); (case k4 => k_asm); (case k5 => k_asm); (case k6 => k_is); (case k7 => k_is); (case k8 => k_room); (case k9 => exact binds_K (by k_in) rfl (by k_is) rfl rfl rfl); (case kB => exact locs rfl); (case c1 => decide); (case c2 => exact rfl); (case c3 => exact rfl); (case c4 => exact rfl); intro g' L' h' FG' F' N' B' X' T' l1; (try k_lt l1); (try dsimp only); (try k_lift B')))
local macro_rules | `(tactic| ks_enter) => `(tactic| (refine' superMore ?k1 ?k2 ?k3 ?k4 ?k5 ?kA ?kF ?kK ?k6 ?k7 ?k8 ?kX ?kM ?kN ?kR ?kP ?kT ?kB ?_ ?c2 ?c3 ?c4 ?c5; (case kA => exact rfl); (case kF => exact rfl); (case kK => first | exact rfl | assumption); (case k1 => k_asm); (case k2 => k_asm); (case k3 => k_asm); (case k4 => k_asm); (case k5 => k_asm); (case k6 => k_is); (case k7 => k_is); (case k8 => k_room); (case kX => kp_lit); (case kM => exact rfl); (case kN => exact rfl); (case kR => exact rfl); (case kP => exact rfl); (case kT => exact fun _ => rfl); (case kB => exact fun _ => locs rfl); (case c5 => decide); (case c2 => exact rfl); (case c3 => exact rfl); (case c4 => exact rfl); intro D' o' g' L' h' tk' l1 lo' hs' FG' F' N' B' X' T' l2; (try k_lt l1); (try k_lt2 l2); (try dsimp only); (try k_lift B')))
local macro_rules | `(tactic| ks_enter) => `(tactic| (refine' superBoth ?k1 ?k2 ?k3 ?k4 ?k5 ?kA ?kF ?kK ?k6 ?k7 ?k8 ?kV ?kX ?kQ ?kM ?kN ?kR ?kP ?kS ?kT ?kB ?_ ?c2 ?c3 ?c4 ?c5; (case kA => exact rfl); (case kF => exact rfl); (case kK => first | exact rfl | assumption); (case k1 => k_asm); (case k2 => k_asm); (case k3 => k_asm); (case k4 => k_asm); (case k5 => k_asm); (case k6 => k_is); (case k7 => k_is); (case k8 => k_room); (case kV => kp_lit); (case kX => kp_lit); (case kQ => exact rfl); (case kM => exact rfl); (case kN => exact rfl); (case kR => exact rfl); (case kP => exact rfl); (case kS => exact fun _ => rfl); (case kT => exact fun _ _ => rfl); (case kB => exact fun _ _ => locs rfl); (case c5 => decide); (case c2 => exact rfl); (case c3 => exact rfl); (case c4 => exact rfl); intro C' D' o' g' L' h' tk' l1 l2 lo' hs' FG' F' N' B' X' T' l3; (try k_lt l1); (try k_lt2 l2); (try k_lt2 l3); (try dsimp only); (try k_lift B')))
local macro_rules | `(tactic| walk_at "wpAt") => `(tactic| (ks_step "execs cons"; k_dflt (refine ks_wpAt_execs_cons ?_)))
local macro_rules | `(tactic| walk_at "wpAt") => `(tactic| (ks_step "exec Expr"; k_dflt (refine ks_wpAt_Expr_any ?_)))
local macro_rules | `(tactic| walk_at "wpAt") => `(tactic| (ks_step "eval Call"; k_dflt (refine ks_wpAt_MethodCall ?_)))
local macro_rules | `(tactic| k_mem) => `(tactic| first | assumption | exact List.mem_cons_self | exact List.Mem.head _ | (refine' List.mem_cons_of_mem _ ?_; k_mem))
local macro_rules | `(tactic| walk_at "getMethod ref") => `(tactic| (k_here; (with_reducible show wpAny _ _ (getMethod (Value.ref _) (Str.ofString "match_core") _) _ _ _); k_dflt (refine here_stop ?_)))
local macro_rules | `(tactic| walk_at "exec Raise some none") => `(tactic| (k_here; k_dflt (refine raise_stop ?_)))
theorem name_headX {h₀ h : Heap} {L a : Addr} {o : Obj} {led : List (Addr × Obj)} (_N : News h₀ L h ((a, o) :: led)) {P : Prop} (k : ∀ a', a' = a → P) : P := k a rfl
set_option hygiene false in
theorem match_c {w : World} {p : Program} {loose : List Str} {mean : ExcName → Option Value} {mg mb : Str → Option Value} {Γ : List Ex} {txt : Str} {den : Den} {μ : Nat → Nat → Nat} {B0 : Nat} {ds : List DO} {imm : List (Addr × Obj)} {i : Nat} {e : Ex} (tt tp : Tok)
    (I : Idle Γ B0 ds imm) (G : Good Γ txt den μ) (he : Γ[i]? = some e) (htxt : txt.length ≤ 1000) (hex : Γ.length ≤ 1000) (hB : B0 ≤ 1000) :
    CallsX w p loose mean mg mb (4 * μ i 0 + 20) (40 * μ i 0 + 200) 259 [.ref e.a, .str txt tt] [(Str.ofString "pos", .int 0 tp)] (ds.map DO.cell ++ imm) (MatchPost Γ txt den μ B0 imm i) (MatchExn Γ B0 imm (den i 0 = none)) := by
  intro dp un gd cn cs a ccd cl outer A₀ base h₀ L m s Q E B F X N T hk hdp hun ret exn
  obtain ⟨x, hx, hxd, xok, xold, xlen⟩ := I.dok i e he
  have eok := I.exs i e he
  obtain ⟨C0, j0, SA⟩ := self_of w eok.2.1
  refine gen_led N fun led hl N1 => ?_
  clear N
  refine wpAny_call ?_
  k_dflt (refine' code_defG ?k1 ?k2 ?k3 ?k4 ?k5 ?kA ?kF ?kK ?k6 ?k7 ?k8 ?k9 ?kB ?_ ?c2 ?c3 ?c4 ?c5; (case kA => exact rfl); (case kF => exact rfl); (case kK => first | assumption | exact rfl); (case k1 => k_asm); (case k2 => k_asm); (case k3 => k_asm); (case k4 => k_asm); (case k5 => k_asm); (case k6 => k_is); (case k7 => k_is); (case k8 => ktr_room); (case k9 => first | exact BindsTo.of_eq rfl | exact binds_K (by k_in) rfl (by k_is) rfl rfl rfl); (case c5 => decide); (case kB => exact locs rfl); (case c2 => exact rfl); (case c3 => exact rfl); (case c4 => exact rfl); k_whole; intro g' L' h' FG' F' N' B' X' T' G'; (try dsimp only); (try k_fold))
  k_steps
  rename Fr _ _ _ _ => F2
  rename News _ _ _ _ => N2
  refine CallsN.use (by assumption) F2 (by assumption) N2 (by assumption) rfl (mk_err txt tt) ?d1 ?u1 ?_
  case d1 => exact Nat.lt_of_le_of_lt (show dp + 1 + 6 ≤ dp + (4 * μ i 0 + 20) by omega) hdp
  case u1 => exact Nat.lt_of_le_of_lt (show un + 3 + 40 ≤ un + (40 * μ i 0 + 200) by omega) hun
  rintro r _ h3 tk3 F3 N3 hnew3 ⟨ER, ED, t, eh1, et1, eh2, et2, etz, eh3, et3, en, rfl, rfl, htER, hERED⟩
  clear N2 F2
  have N4 : News _ _ _ (_ :: _ :: _ :: led) := N3
  clear N3
  k_steps
  have hea : (e.a, e.o) ∈ led := by rw [hl]; exact List.mem_append_right _ eok.1
  have hxa : (x.d, x.o) ∈ led := by rw [hl]; exact List.mem_append_left _ (List.mem_map_of_mem (List.mem_of_getElem? hx))
  rename News _ _ _ _ => N5
  refine here_go ?_
  refine self_mc (by assumption) (by assumption) N5 SA (.tail _ (.tail _ (.tail _ hea))) (.tail _ (.tail _ (.tail _ hxa))) hxd xok fun f hf hkf => ?_
  dsimp only
  refine callWith_K (by assumption) hkf ?_
  k_steps
  rw [hf]
  rename _ ∧ _ ∧ _ ∧ AllLt _ led => hC
  rename (_ == sysModules) = false => hlow
  rename Obj.IsDictOf (intKind _ _) _ [] => hod
  rename Fr _ _ _ _ => F6
  rename News _ _ _ _ => N6
  refine name_headX N6 fun Ca hCa => ?_
  subst hCa
  have htl : ∀ p ∈ ds.map DO.cell ++ imm, @LT.lt Nat _ p.1 t := fun p hp => hnew3 _ (.tail _ (.tail _ (.head _))) p (by rw [hl]; exact hp)
  have I0 := I.start (w := w) (args := [.str txt tt]) G htxt hex hB hod hlow (ED := ED) (oed := dictOf [⟨eh1, .str (Str.ofString "text") et1, .str txt tt⟩, ⟨eh2, .str (Str.ofString "pos") et2, .int (-1) etz⟩, ⟨eh3, .str (Str.ofString "expr") et3, .none⟩] en)
    ⟨_, _, _, _, _, _, _, _, _, _, _, rfl, by decide, by omega, .inl rfl⟩ htl htER hERED hC.1
  have MCm := mc_all (w := w) (p := p) (loose := loose) (mean := mean) (mg := mg) (mb := mb) (P := pp Γ txt den μ Ca ER ED B0) i 0 (List.getElem?_eq_some_iff.mp he).1 (Nat.zero_le _) _ _ tt tp I0 (fun k x q hx => absurd hx (by simp))
  have hAd : addrOf Γ i = e.a := by simp [addrOf, he]
  rw [show (pp Γ txt den μ Ca ER ED B0).Γ = Γ from rfl, hAd] at MCm
  refine Calls.use (by assumption) F6 (by assumption) (News.sub N6 (fun p hp => ?_)) (by assumption) rfl MCm ?d2 ?u2 ?_
  · rcases List.mem_append.mp hp with hp | hp
    · rcases List.mem_cons.mp hp with rfl | hp
      · exact .head _
      rcases List.mem_cons.mp hp with rfl | hp
      · exact .tail _ (.head _)
      · exact .tail _ (.tail _ (.tail _ (.tail _ (by rw [hl]; exact List.mem_append_left _ (by simpa using hp)))))
    · rcases List.mem_cons.mp hp with rfl | hp
      · exact .tail _ (.tail _ (.head _))
      rcases List.mem_cons.mp hp with rfl | hp
      · exact .tail _ (.tail _ (.tail _ (.head _)))
      · exact .tail _ (.tail _ (.tail _ (.tail _ (by rw [hl]; exact List.mem_append_right _ hp))))
  case d2 => exact Nat.lt_of_le_of_lt (show dp + 1 + (4 * μ i 0 + 8) ≤ dp + (4 * μ i 0 + 20) by omega) hdp
  case u2 => exact Nat.lt_of_le_of_lt (show un + 3 + (40 * μ i 0 + 100) ≤ un + (40 * μ i 0 + 200) by omega) hun
  rintro v _ h7 tk7 F7 N7 ⟨σ7, imm7, rfl, I7, S7, hres⟩
  clear N6 F6
  have J7 : Idle Γ (B0 + 1) σ7.ds (σ7.rest _ imm7) := Idle.finish I7
  have hsub : ∀ p ∈ imm, p ∈ imm7 := fun p hp => S7.imm p (.tail _ (.tail _ hp))
  have hER7 : (ER, errObj 94 ED t) ∈ imm7 := S7.imm _ (.head _)
  cases hd : den i 0 with
  | none =>
    have hv : v = .none := by unfold ResOk at hres; rw [show (pp Γ txt den μ Ca ER ED B0).den = den from rfl, hd] at hres; exact hres
    subst hv
    k_steps
    refine raise_go ?_
    rename Fr _ _ _ _ => F8
    rename News _ _ _ _ => N8
    have X8 : (Mine.hd.heap_39 w.params).In g' := by assumption
    refine raise_K (C := 94) X8 (by exact rfl) (by decide +kernel) rfl ?_
    refine ld F8 (by rfl) ⟨ER, ED, t, rfl, F8.keep, (N8 _ (List.mem_append_right _ hER7)).1, ?_⟩
    have hERr : (ER, errObj 94 ED t) ∈ σ7.rest (pp Γ txt den μ Ca ER ED B0) imm7 := rest_imm _ hER7
    have hu : ∀ o, (ER, o) ∈ σ7.rest (pp Γ txt den μ Ca ER ED B0) imm7 → o.cls = .ref 94 ∨ o.cls = .ref 132 := fun o ho => by
      have h1 := (N8 _ (mut_rest _ (List.mem_append_right _ ho))).1
      have h2 := (N8 _ (mut_rest _ (List.mem_append_right _ hERr))).1
      rw [h2] at h1
      cases h1
      exact .inl rfl
    have hn : ∀ x ∈ σ7.ds, x.d ≠ ER := fun x hx => J7.off x hx _ hERr
    show wpAny _ _ (leaving _ _) _ _ _
    refine leave_firstM (C := 94) (t := t) (d := ED) (news := σ7.ds.map DO.cell ++ (σ7.rest (pp Γ txt den μ Ca ER ED B0) imm7).filter (fun q => q.1 != ER)) B' F8 (News.sub N8 fun z hz => ?_) (fun z hz => ?_) fun h9 R9 U9 => ?_
    · rcases List.mem_cons.mp hz with rfl | hz
      · exact List.mem_append_right _ hER7
      · refine mut_rest _ ((List.mem_append.mp hz).elim (fun h => List.mem_append_left _ h) fun h => List.mem_append_right _ (List.mem_filter.mp h).1)
    · rcases List.mem_append.mp hz with hz | hz
      · obtain ⟨y, hy, rfl⟩ := List.mem_map.mp hz
        exact hn y hy
      · exact bne_iff_ne.mp (List.mem_filter.mp hz).2
    · exact exn 94 ER _ _ g' h9 _ FG' R9 U9 ⟨hd, .inl rfl, σ7.ds, _, rfl, fun oe => J7.swap oe hu hn, fun z hz => List.mem_filter.mpr ⟨rest_imm _ (hsub z hz), bne_iff_ne.mpr (Nat.ne_of_lt (Nat.lt_trans (htl z (List.mem_append_right _ hz)) htER))⟩⟩
  | some r =>
    obtain ⟨q2, c2⟩ := r
    have hv : ∃ nd, v = .ref nd ∧ NodeOk Γ txt imm7 (μ i 0 + 1) nd i 0 q2 c2 := by unfold ResOk at hres; rw [show (pp Γ txt den μ Ca ER ED B0).den = den from rfl, hd] at hres; exact hres
    obtain ⟨nd, rfl, hnd⟩ := hv
    k_steps
    rename Fr _ _ _ _ => F8
    rename News _ _ _ _ => N8
    exact ret _ _ _ _ F8 (News.sub N8 mut_rest) ⟨q2, c2, σ7.ds, _, nd, hd, rfl, J7, fun p hp => rest_imm p (hsub p hp), rfl, hnd.mono rest_imm (Nat.le_refl _)⟩
end Mine
end
section
local macro_rules | `(tactic| walk_at "dummy0") => `(tactic| skip)
example : True := by
  w_top off
  trivial
open PySem PySem.W PyProof.Rows PySem.Spec PySem.Calls
namespace Mine
local macro_rules | `(tactic| k_room) => `(tactic| ktr_room)
local macro_rules | `(tactic| k_units) => `(tactic| ktr_units)
local macro_rules | `(tactic| k_all) => `(tactic| (refine up_neAll (by assumption) ?_; first | tbn_find | exact allLt_of (by assumption)))
local macro_rules | `(tactic| k_all) => `(tactic| (refine tbn_neAll ?_; first | tbn_find | exact allLt_of (by assumption)))
local macro_rules | `(tactic| ks_enter) => `(tactic| (refine' ks_code_super ?k1 ?k2 ?k3 ?k4 ?k5 ?kA ?kF ?kK ?k6 ?k7 ?k8 ?k9 ?kB ?_ ?c1 ?c2 ?c3 ?c4; (case kA => exact rfl); (case kF => exact rfl); (case kK => first | exact rfl | assumption); (case k1 => k_asm); (case k2 => k_asm); (case k3 => k_asm); (case k4 => k_asm); (case k5 => k_asm); (case k6 => k_is); (case k7 => k_is); (case k8 => k_room); (case k9 => exact binds_K (by k_in) rfl (by k_is) rfl rfl rfl); (case kB => exact locs rfl); (case c1 => decide); (case c2 => exact rfl); (case c3 => exact rfl); (case c4 => exact rfl); intro g' L' h' FG' F' N' B' X' T' l1; (try k_lt l1); (try dsimp only); (try k_lift B')))
local macro_rules | `(tactic| ks_enter) => `(tactic| (refine' superMore ?k1 ?k2 ?k3 ?k4 ?k5 ?kA ?kF ?kK ?k6 ?k7 ?k8 ?kX ?kM ?kN ?kR ?kP ?kT ?kB ?_ ?c2 ?c3 ?c4 ?c5; (case kA => exact rfl); (case kF => exact rfl); (case kK => first | exact rfl | assumption); (case k1 => k_asm); (case k2 => k_asm); (case k3 => k_asm); (case k4 => k_asm); (case k5 => k_asm); (case k6 => k_is); (case k7 => k_is); (case k8 => k_room); (case kX => kp_lit); (case kM => exact rfl); (case kN => exact rfl); (case kR => exact rfl); (case kP => exact rfl); (case kT => exact fun _ => rfl); (case kB => exact fun _ => locs rfl); (case c5 => decide); (case c2 => exact rfl); (case c3 => exact rfl); (case c4 => exact rfl); intro D' o' g' L' h' tk' l1 lo' hs' FG' F' N' B' X' T' l2; (try k_lt l1); (try k_lt2 l2); (try dsimp only); (try k_lift B')))
local macro_rules | `(tactic| ks_enter) => `(tactic| (refine' superBoth ?k1 ?k2 ?k3 ?k4 ?k5 ?kA ?kF ?kK ?k6 ?k7 ?k8 ?kV ?kX ?kQ ?kM ?kN ?kR ?kP ?kS ?kT ?kB ?_ ?c2 ?c3 ?c4 ?c5; (case kA => exact rfl); (case kF => exact rfl); (case kK => first | exact rfl | assumption); (case k1 => k_asm); (case k2 => k_asm); (case k3 => k_asm); (case k4 => k_asm); (case k5 => k_asm); (case k6 => k_is); (case k7 => k_is); (case k8 => k_room); (case kV => kp_lit); (case kX => kp_lit); (case kQ => exact rfl); (case kM => exact rfl); (case kN => exact rfl); (case kR => exact rfl); (case kP => exact rfl); (case kS => exact fun _ => rfl); (case kT => exact fun _ _ => rfl); (case kB => exact fun _ _ => locs rfl); (case c5 => decide); (case c2 => exact rfl); (case c3 => exact rfl); (case c4 => exact rfl); intro C' D' o' g' L' h' tk' l1 l2 lo' hs' FG' F' N' B' X' T' l3; (try k_lt l1); (try k_lt2 l2); (try k_lt2 l3); (try dsimp only); (try k_lift B')))
local macro_rules | `(tactic| walk_at "wpAt") => `(tactic| (ks_step "execs cons"; k_dflt (refine ks_wpAt_execs_cons ?_)))
local macro_rules | `(tactic| walk_at "wpAt") => `(tactic| (ks_step "exec Expr"; k_dflt (refine ks_wpAt_Expr_any ?_)))
local macro_rules | `(tactic| walk_at "wpAt") => `(tactic| (ks_step "eval Call"; k_dflt (refine ks_wpAt_MethodCall ?_)))
local macro_rules | `(tactic| k_mem) => `(tactic| first | assumption | exact List.mem_cons_self | exact List.Mem.head _ | (refine' List.mem_cons_of_mem _ ?_; k_mem))
local macro_rules | `(tactic| walk_at "getMethod ref") => `(tactic| (k_here; (with_reducible show wpAny _ _ (getMethod (Value.ref _) (Str.ofString "match_core") _) _ _ _); k_dflt (refine here_stop ?_)))
local macro_rules | `(tactic| walk_at "exec Raise some none") => `(tactic| (k_here; k_dflt (refine raise_stop ?_)))
set_option hygiene false in
theorem match_c0 {w : World} {p : Program} {loose : List Str} {mean : ExcName → Option Value} {mg mb : Str → Option Value} {Γ : List Ex} {txt : Str} {den : Den} {μ : Nat → Nat → Nat} {B0 : Nat} {ds : List DO} {imm : List (Addr × Obj)} {i : Nat} {e : Ex} (tt : Tok)
    (I : Idle Γ B0 ds imm) (G : Good Γ txt den μ) (he : Γ[i]? = some e) (htxt : txt.length ≤ 1000) (hex : Γ.length ≤ 1000) (hB : B0 ≤ 1000) :
    CallsX w p loose mean mg mb (4 * μ i 0 + 20) (40 * μ i 0 + 200) 259 [.ref e.a, .str txt tt] [] (ds.map DO.cell ++ imm) (MatchPost Γ txt den μ B0 imm i) (MatchExn Γ B0 imm (den i 0 = none)) := by
  intro dp un gd cn cs a ccd cl outer A₀ base h₀ L m s Q E B F X N T hk hdp hun ret exn
  obtain ⟨x, hx, hxd, xok, xold, xlen⟩ := I.dok i e he
  have eok := I.exs i e he
  obtain ⟨C0, j0, SA⟩ := self_of w eok.2.1
  refine gen_led N fun led hl N1 => ?_
  clear N
  refine wpAny_call ?_
  k_dflt (refine' code_defG ?k1 ?k2 ?k3 ?k4 ?k5 ?kA ?kF ?kK ?k6 ?k7 ?k8 ?k9 ?kB ?_ ?c2 ?c3 ?c4 ?c5; (case kA => exact rfl); (case kF => exact rfl); (case kK => first | assumption | exact rfl); (case k1 => k_asm); (case k2 => k_asm); (case k3 => k_asm); (case k4 => k_asm); (case k5 => k_asm); (case k6 => k_is); (case k7 => k_is); (case k8 => ktr_room); (case k9 => first | exact BindsTo.of_eq rfl | exact binds_K (by k_in) rfl (by k_is) rfl rfl rfl); (case c5 => decide); (case kB => exact locs rfl); (case c2 => exact rfl); (case c3 => exact rfl); (case c4 => exact rfl); k_whole; intro g' L' h' FG' F' N' B' X' T' G'; (try dsimp only); (try k_fold))
  k_steps
  rename Fr _ _ _ _ => F2
  rename News _ _ _ _ => N2
  refine CallsN.use (by assumption) F2 (by assumption) N2 (by assumption) rfl (mk_err txt tt) ?d1 ?u1 ?_
  case d1 => exact Nat.lt_of_le_of_lt (show dp + 1 + 6 ≤ dp + (4 * μ i 0 + 20) by omega) hdp
  case u1 => exact Nat.lt_of_le_of_lt (show un + 3 + 40 ≤ un + (40 * μ i 0 + 200) by omega) hun
  rintro r _ h3 tk3 F3 N3 hnew3 ⟨ER, ED, t, eh1, et1, eh2, et2, etz, eh3, et3, en, rfl, rfl, htER, hERED⟩
  clear N2 F2
  have N4 : News _ _ _ (_ :: _ :: _ :: led) := N3
  clear N3
  k_steps
  have hea : (e.a, e.o) ∈ led := by rw [hl]; exact List.mem_append_right _ eok.1
  have hxa : (x.d, x.o) ∈ led := by rw [hl]; exact List.mem_append_left _ (List.mem_map_of_mem (List.mem_of_getElem? hx))
  rename News _ _ _ _ => N5
  refine here_go ?_
  refine self_mc (by assumption) (by assumption) N5 SA (.tail _ (.tail _ (.tail _ hea))) (.tail _ (.tail _ (.tail _ hxa))) hxd xok fun f hf hkf => ?_
  dsimp only
  refine callWith_K (by assumption) hkf ?_
  k_steps
  rw [hf]
  rename _ ∧ _ ∧ _ ∧ AllLt _ led => hC
  rename (_ == sysModules) = false => hlow
  rename Obj.IsDictOf (intKind _ _) _ [] => hod
  rename Fr _ _ _ _ => F6
  rename News _ _ _ _ => N6
  refine name_headX N6 fun Ca hCa => ?_
  subst hCa
  have htl : ∀ p ∈ ds.map DO.cell ++ imm, @LT.lt Nat _ p.1 t := fun p hp => hnew3 _ (.tail _ (.tail _ (.head _))) p (by rw [hl]; exact hp)
  have I0 := I.start (w := w) (args := [.str txt tt]) G htxt hex hB hod hlow (ED := ED) (oed := dictOf [⟨eh1, .str (Str.ofString "text") et1, .str txt tt⟩, ⟨eh2, .str (Str.ofString "pos") et2, .int (-1) etz⟩, ⟨eh3, .str (Str.ofString "expr") et3, .none⟩] en)
    ⟨_, _, _, _, _, _, _, _, _, _, _, rfl, by decide, by omega, .inl rfl⟩ htl htER hERED hC.1
  have MCm := fun tq => mc_all (w := w) (p := p) (loose := loose) (mean := mean) (mg := mg) (mb := mb) (P := pp Γ txt den μ Ca ER ED B0) i 0 (List.getElem?_eq_some_iff.mp he).1 (Nat.zero_le _) _ _ tt tq I0 (fun k x q hx => absurd hx (by simp))
  have hAd : addrOf Γ i = e.a := by simp [addrOf, he]
  simp only [show (pp Γ txt den μ Ca ER ED B0).Γ = Γ from rfl, hAd] at MCm
  refine Calls.use (by assumption) F6 (by assumption) (News.sub N6 (fun p hp => ?_)) (by assumption) rfl (MCm _) ?d2 ?u2 ?_
  · rcases List.mem_append.mp hp with hp | hp
    · rcases List.mem_cons.mp hp with rfl | hp
      · exact .head _
      rcases List.mem_cons.mp hp with rfl | hp
      · exact .tail _ (.head _)
      · exact .tail _ (.tail _ (.tail _ (.tail _ (by rw [hl]; exact List.mem_append_left _ (by simpa using hp)))))
    · rcases List.mem_cons.mp hp with rfl | hp
      · exact .tail _ (.tail _ (.head _))
      rcases List.mem_cons.mp hp with rfl | hp
      · exact .tail _ (.tail _ (.tail _ (.head _)))
      · exact .tail _ (.tail _ (.tail _ (.tail _ (by rw [hl]; exact List.mem_append_right _ hp))))
  case d2 => exact Nat.lt_of_le_of_lt (show dp + 1 + (4 * μ i 0 + 8) ≤ dp + (4 * μ i 0 + 20) by omega) hdp
  case u2 => exact Nat.lt_of_le_of_lt (show un + 3 + (40 * μ i 0 + 100) ≤ un + (40 * μ i 0 + 200) by omega) hun
  rintro v _ h7 tk7 F7 N7 ⟨σ7, imm7, rfl, I7, S7, hres⟩
  clear N6 F6
  have J7 : Idle Γ (B0 + 1) σ7.ds (σ7.rest _ imm7) := Idle.finish I7
  have hsub : ∀ p ∈ imm, p ∈ imm7 := fun p hp => S7.imm p (.tail _ (.tail _ hp))
  have hER7 : (ER, errObj 94 ED t) ∈ imm7 := S7.imm _ (.head _)
  cases hd : den i 0 with
  | none =>
    have hv : v = .none := by unfold ResOk at hres; rw [show (pp Γ txt den μ Ca ER ED B0).den = den from rfl, hd] at hres; exact hres
    subst hv
    k_steps
    refine raise_go ?_
    rename Fr _ _ _ _ => F8
    rename News _ _ _ _ => N8
    have X8 : (Mine.hd.heap_39 w.params).In g' := by assumption
    refine raise_K (C := 94) X8 (by exact rfl) (by decide +kernel) rfl ?_
    refine ld F8 (by rfl) ⟨ER, ED, t, rfl, F8.keep, (N8 _ (List.mem_append_right _ hER7)).1, ?_⟩
    have hERr : (ER, errObj 94 ED t) ∈ σ7.rest (pp Γ txt den μ Ca ER ED B0) imm7 := rest_imm _ hER7
    have hu : ∀ o, (ER, o) ∈ σ7.rest (pp Γ txt den μ Ca ER ED B0) imm7 → o.cls = .ref 94 ∨ o.cls = .ref 132 := fun o ho => by
      have h1 := (N8 _ (mut_rest _ (List.mem_append_right _ ho))).1
      have h2 := (N8 _ (mut_rest _ (List.mem_append_right _ hERr))).1
      rw [h2] at h1
      cases h1
      exact .inl rfl
    have hn : ∀ x ∈ σ7.ds, x.d ≠ ER := fun x hx => J7.off x hx _ hERr
    show wpAny _ _ (leaving _ _) _ _ _
    refine leave_firstM (C := 94) (t := t) (d := ED) (news := σ7.ds.map DO.cell ++ (σ7.rest (pp Γ txt den μ Ca ER ED B0) imm7).filter (fun q => q.1 != ER)) B' F8 (News.sub N8 fun z hz => ?_) (fun z hz => ?_) fun h9 R9 U9 => ?_
    · rcases List.mem_cons.mp hz with rfl | hz
      · exact List.mem_append_right _ hER7
      · refine mut_rest _ ((List.mem_append.mp hz).elim (fun h => List.mem_append_left _ h) fun h => List.mem_append_right _ (List.mem_filter.mp h).1)
    · rcases List.mem_append.mp hz with hz | hz
      · obtain ⟨y, hy, rfl⟩ := List.mem_map.mp hz
        exact hn y hy
      · exact bne_iff_ne.mp (List.mem_filter.mp hz).2
    · exact exn 94 ER _ _ g' h9 _ FG' R9 U9 ⟨hd, .inl rfl, σ7.ds, _, rfl, fun oe => J7.swap oe hu hn, fun z hz => List.mem_filter.mpr ⟨rest_imm _ (hsub z hz), bne_iff_ne.mpr (Nat.ne_of_lt (Nat.lt_trans (htl z (List.mem_append_right _ hz)) htER))⟩⟩
  | some r =>
    obtain ⟨q2, c2⟩ := r
    have hv : ∃ nd, v = .ref nd ∧ NodeOk Γ txt imm7 (μ i 0 + 1) nd i 0 q2 c2 := by unfold ResOk at hres; rw [show (pp Γ txt den μ Ca ER ED B0).den = den from rfl, hd] at hres; exact hres
    obtain ⟨nd, rfl, hnd⟩ := hv
    k_steps
    rename Fr _ _ _ _ => F8
    rename News _ _ _ _ => N8
    exact ret _ _ _ _ F8 (News.sub N8 mut_rest) ⟨q2, c2, σ7.ds, _, nd, hd, rfl, J7, fun p hp => rest_imm p (hsub p hp), rfl, hnd.mono rest_imm (Nat.le_refl _)⟩
end Mine
end
section
example : True := by
  w_top off
  trivial
open PySem PySem.W PyProof.Rows PySem.Spec PySem.Calls
namespace Mine
local macro_rules | `(tactic| k_room) => `(tactic| ktr_room)
local macro_rules | `(tactic| k_units) => `(tactic| ktr_units)
local macro_rules | `(tactic| k_all) => `(tactic| (refine up_neAll (by assumption) ?_; first | tbn_find | exact allLt_of (by assumption)))
local macro_rules | `(tactic| k_all) => `(tactic| (refine tbn_neAll ?_; first | tbn_find | exact allLt_of (by assumption)))
local macro_rules | `(tactic| ks_enter) => `(tactic| (refine' ks_code_super ?k1 ?k2 ?k3 ?k4 ?k5 ?kA ?kF ?kK ?k6 ?k7 ?k8 ?k9 ?kB ?_ ?c1 ?c2 ?c3 ?c4; (case kA => exact rfl); (case kF => exact rfl); (case kK => first | exact rfl | assumption); (case k1 => k_asm); (case k2 => k_asm); (case k3 => k_asm); (case k4 => k_asm); (case k5 => k_asm); (case k6 => k_is); (case k7 => k_is); (case k8 => k_room); (case k9 => exact binds_K (by k_in) rfl (by k_is) rfl rfl rfl); (case kB => exact locs rfl); (case c1 => decide); (case c2 => exact rfl); (case c3 => exact rfl); (case c4 => exact rfl); intro g' L' h' FG' F' N' B' X' T' l1; (try k_lt l1); (try dsimp only); (try k_lift B')))
local macro_rules | `(tactic| ks_enter) => `(tactic| (refine' superMore ?k1 ?k2 ?k3 ?k4 ?k5 ?kA ?kF ?kK ?k6 ?k7 ?k8 ?kX ?kM ?kN ?kR ?kP ?kT ?kB ?_ ?c2 ?c3 ?c4 ?c5; (case kA => exact rfl); (case kF => exact rfl); (case kK => first | exact rfl | assumption); (case k1 => k_asm); (case k2 => k_asm); (case k3 => k_asm); (case k4 => k_asm); (case k5 => k_asm); (case k6 => k_is); (case k7 => k_is); (case k8 => k_room); (case kX => kp_lit); (case kM => exact rfl); (case kN => exact rfl); (case kR => exact rfl); (case kP => exact rfl); (case kT => exact fun _ => rfl); (case kB => exact fun _ => locs rfl); (case c5 => decide); (case c2 => exact rfl); (case c3 => exact rfl); (case c4 => exact rfl); intro D' o' g' L' h' tk' l1 lo' hs' FG' F' N' B' X' T' l2; (try k_lt l1); (try k_lt2 l2); (try dsimp only); (try k_lift B')))
local macro_rules | `(tactic| ks_enter) => `(tactic| (refine' superBoth ?k1 ?k2 ?k3 ?k4 ?k5 ?kA ?kF ?kK ?k6 ?k7 ?k8 ?kV ?kX ?kQ ?kM ?kN ?kR ?kP ?kS ?kT ?kB ?_ ?c2 ?c3 ?c4 ?c5; (case kA => exact rfl); (case kF => exact rfl); (case kK => first | exact rfl | assumption); (case k1 => k_asm); (case k2 => k_asm); (case k3 => k_asm); (case k4 => k_asm); (case k5 => k_asm); (case k6 => k_is); (case k7 => k_is); (case k8 => k_room); (case kV => kp_lit); (case kX => kp_lit); (case kQ => exact rfl); (case kM => exact rfl); (case kN => exact rfl); (case kR => exact rfl); (case kP => exact rfl); (case kS => exact fun _ => rfl); (case kT => exact fun _ _ => rfl); (case kB => exact fun _ _ => locs rfl); (case c5 => decide); (case c2 => exact rfl); (case c3 => exact rfl); (case c4 => exact rfl); intro C' D' o' g' L' h' tk' l1 l2 lo' hs' FG' F' N' B' X' T' l3; (try k_lt l1); (try k_lt2 l2); (try k_lt2 l3); (try dsimp only); (try k_lift B')))
local macro_rules | `(tactic| walk_at "wpAt") => `(tactic| (ks_step "execs cons"; k_dflt (refine ks_wpAt_execs_cons ?_)))
local macro_rules | `(tactic| walk_at "wpAt") => `(tactic| (ks_step "exec Expr"; k_dflt (refine ks_wpAt_Expr_any ?_)))
local macro_rules | `(tactic| walk_at "wpAt") => `(tactic| (ks_step "eval Call"; k_dflt (refine ks_wpAt_MethodCall ?_)))
local macro_rules | `(tactic| k_mem) => `(tactic| first | assumption | exact List.mem_cons_self | exact List.Mem.head _ | (refine' List.mem_cons_of_mem _ ?_; k_mem))
local macro_rules | `(tactic| walk_at "getMethod ref") => `(tactic| (k_here; k_dflt (refine here_stop ?_)))
local macro_rules | `(tactic| walk_at "exec Raise some none") => `(tactic| (k_here; k_dflt (refine raise_stop ?_)))
set_option hygiene false in
theorem parse_c {w : World} {p : Program} {loose : List Str} {mean : ExcName → Option Value} {mg mb : Str → Option Value} {Γ : List Ex} {txt : Str} {den : Den} {μ : Nat → Nat → Nat} {B0 : Nat} {ds : List DO} {imm : List (Addr × Obj)} {i : Nat} {e : Ex} (tt : Tok)
    (I : Idle Γ B0 ds imm) (G : Good Γ txt den μ) (he : Γ[i]? = some e) (SA : SelfAt (Mine.hd.heap_39 w.params) e 394 2) (htxt : txt.length ≤ 1000) (hex : Γ.length ≤ 1000) (hB : B0 ≤ 1000) :
    CallsX w p loose mean mg mb (4 * μ i 0 + 24) (40 * μ i 0 + 300) 251 [.ref e.a, .str txt tt] [] (ds.map DO.cell ++ imm)
      (fun v news' => MatchPost Γ txt den μ B0 imm i v news' ∧ ∃ c, den i 0 = some (txt.length, c)) (MatchExn Γ B0 imm (∀ c, den i 0 ≠ some (txt.length, c))) := by
  intro dp un gd cn cs a ccd cl outer A₀ base h₀ L m s Q E B F X N T hk hdp hun ret exn
  obtain ⟨x, hx, hxd, xok, xold, xlen⟩ := I.dok i e he
  have eok := I.exs i e he
  refine gen_led N fun led hl N1 => ?_
  clear N
  have hea : (e.a, e.o) ∈ led := by rw [hl]; exact List.mem_append_right _ eok.1
  have hxa : (x.d, x.o) ∈ led := by rw [hl]; exact List.mem_append_left _ (List.mem_map_of_mem (List.mem_of_getElem? hx))
  refine wpAny_call ?_
  k_dflt (refine' code_defG ?k1 ?k2 ?k3 ?k4 ?k5 ?kA ?kF ?kK ?k6 ?k7 ?k8 ?k9 ?kB ?_ ?c2 ?c3 ?c4 ?c5; (case kA => exact rfl); (case kF => exact rfl); (case kK => first | assumption | exact rfl); (case k1 => k_asm); (case k2 => k_asm); (case k3 => k_asm); (case k4 => k_asm); (case k5 => k_asm); (case k6 => k_is); (case k7 => k_is); (case k8 => ktr_room); (case k9 => first | exact BindsTo.of_eq rfl | exact binds_K (by k_in) rfl (by k_is) rfl rfl rfl); (case c5 => decide); (case kB => exact locs rfl); (case c2 => exact rfl); (case c3 => exact rfl); (case c4 => exact rfl); k_whole; intro g' L' h' FG' F' N' B' X' T' G'; (try dsimp only); (try k_fold))
  k_steps
  rename News _ _ _ _ => N5
  refine here_go ?_
  refine self_meth (by assumption) (by assumption) N5 SA hea hxa hxd xok (f := 259) (by k_is) (by k_is) (by k_is) (by decide +kernel) fun f hf hkf => ?_
  dsimp only
  refine callWith_KW (by assumption) hkf (by rfl) ?_
  k_steps
  rw [hf]
  rename Fr _ _ _ _ => F6
  rename News _ _ _ _ => N6
  rw [hl] at N6
  refine CallsX.use (by assumption) F6 (by assumption) N6 (by assumption) rfl (match_c tt _ I G he htxt hex hB) ?d1 ?u1 ?_ ?_
  case d1 => exact Nat.lt_of_le_of_lt (show dp + 1 + (4 * μ i 0 + 20) ≤ dp + (4 * μ i 0 + 24) by omega) hdp
  case u1 => exact Nat.lt_of_le_of_lt (show un + 3 + (40 * μ i 0 + 200) ≤ un + (40 * μ i 0 + 300) by omega) hun
  · rintro r _ h3 tk3 F3 N3 ⟨q, c, ds', imm', nd, hd, rfl, I', hsub, rfl, hnd⟩
    clear N6 F6
    obtain ⟨e5, d5, ch5, vs5, n5, cs5, u1, u2, u3, hr1, hr2, hr3, hr4⟩ := id hnd
    obtain ⟨hb0, hbq⟩ := G.bnd i 0 q c (Nat.zero_le _) hd
    have hy1 : (nd, nodeObj e5.a d5 ch5 txt 0 q u1 u2 u3) ∈ ds'.map DO.cell ++ imm' := List.mem_append_right _ hr2
    have hy2 : (d5, dictOf [] 0) ∈ ds'.map DO.cell ++ imm' := List.mem_append_right _ hr3
    by_cases hq : q < txt.length
    · have hq' : ((q : Nat) : Int) < (txt.length : Nat) := by omega
      k_steps
      refine raise_go ?_
      rename Fr _ _ _ _ => F8
      rename News _ _ _ _ => N8
      have X8 : (Mine.hd.heap_39 w.params).In g' := by assumption
      refine raise_K (C := 132) X8 (by exact rfl) (by decide +kernel) rfl ?_
      k_steps
      rename Fr _ _ _ _ => F9
      rename News _ _ _ _ => N9
      refine CallsN.use (by assumption) F9 (by assumption) N9 (by assumption) rfl (mk_err2 txt tt _ _ (.ref e.a)) ?d2 ?u2 ?_
      case d2 => exact Nat.lt_of_le_of_lt (show dp + 1 + 6 ≤ dp + (4 * μ i 0 + 24) by omega) hdp
      case u2 => exact Nat.lt_of_le_of_lt (show un + 3 + 40 ≤ un + (40 * μ i 0 + 300) by omega) hun
      rintro r _ h5 tk5 F10 N10 hnew ⟨ER, ED, t, eh1, et1, eh2, et2, etz, eh3, et3, en, rfl, rfl, htER, hERED⟩
      refine ⟨ER, ED, t, rfl, F10.keep, (N10 _ (.tail _ (.head _))).1, ?_⟩
      have hlt : ∀ z ∈ ds'.map DO.cell ++ imm', z.1 ≠ ER := fun z hz => Nat.ne_of_lt (hnew _ (.tail _ (.head _)) z hz)
      show wpAny _ _ (leaving _ _) _ _ _
      refine leave_firstM (C := 132) (t := t) (d := ED) (news := ds'.map DO.cell ++ imm') B' F10 (News.sub N10 fun z hz => ?_) hlt fun h9 R9 U9 => ?_
      · rcases List.mem_cons.mp hz with rfl | hz
        · exact .tail _ (.head _)
        · exact List.mem_append_right _ hz
      · exact exn 132 ER _ _ g' h9 _ FG' R9 U9 ⟨(fun c' h' => by rw [hd] at h'; cases h'; exact absurd hq (Nat.lt_irrefl _)), .inr rfl, ds', imm', rfl, fun oe => I'.more (ex := [(ER, oe)]) fun y hy z hz => by rw [List.mem_singleton.mp hz]; exact hlt y.cell (List.mem_append_left _ (List.mem_map_of_mem hy)), hsub⟩
    · have hq' : ¬ ((q : Nat) : Int) < (txt.length : Nat) := by omega
      have hqe : q = txt.length := by omega
      k_steps
      rename Fr _ _ _ _ => F8
      rename News _ _ _ _ => N8
      exact ret _ _ _ _ F8 N8 ⟨⟨q, c, ds', imm', nd, hd, rfl, I', hsub, rfl, hnd⟩, c, by rw [hd, hqe]⟩
  · rintro C er a0 news' g2 h3 tk3 F3 R3 U3 ⟨hbad, hC, ds', imm', rfl, I', hsub⟩
    show wpAny _ _ (leaving _ _) _ _ _
    refine leave_onM B' F3 R3 U3 fun h9 R9 U9 => ?_
    exact exn C er a0 _ g' h9 _ FG' R9 U9 ⟨(fun c h => by rw [hbad] at h; exact absurd h (by simp)), hC, ds', imm', rfl, I', hsub⟩
end Mine
end
section
example : True := by
  w_top off
  trivial
open PySem PySem.W PyProof.Rows PySem.Spec PySem.Calls
namespace Mine
local macro_rules | `(tactic| k_room) => `(tactic| ktr_room)
local macro_rules | `(tactic| k_units) => `(tactic| ktr_units)
local macro_rules | `(tactic| k_all) => `(tactic| (refine up_neAll (by assumption) ?_; first | tbn_find | exact allLt_of (by assumption)))
local macro_rules | `(tactic| k_all) => `(tactic| (refine tbn_neAll ?_; first | tbn_find | exact allLt_of (by assumption)))
local macro_rules | `(tactic| ks_enter) => `(tactic| (refine' ks_code_super ?k1 ?k2 ?k3 ?k4 ?k5 ?kA ?kF ?kK ?k6 ?k7 ?k8 ?k9 ?kB ?_ ?c1 ?c2 ?c3 ?c4; (case kA => exact rfl); (case kF => exact rfl); (case kK => first | exact rfl | assumption); (case k1 => k_asm); (case k2 => k_asm); (case k3 => k_asm); (case k4 => k_asm); (case k5 => k_asm); (case k6 => k_is); (case k7 => k_is); (case k8 => k_room); (case k9 => exact binds_K (by k_in) rfl (by k_is) rfl rfl rfl); (case kB => exact locs rfl); (case c1 => decide); (case c2 => exact rfl); (case c3 => exact rfl); (case c4 => exact rfl); intro g' L' h' FG' F' N' B' X' T' l1; (try k_lt l1); (try dsimp only); (try k_lift B')))
local macro_rules | `(tactic| ks_enter) => `(tactic| (refine' superMore ?k1 ?k2 ?k3 ?k4 ?k5 ?kA ?kF ?kK ?k6 ?k7 ?k8 ?kX ?kM ?kN ?kR ?kP ?kT ?kB ?_ ?c2 ?c3 ?c4 ?c5; (case kA => exact rfl); (case kF => exact rfl); (case kK => first | exact rfl | assumption); (case k1 => k_asm); (case k2 => k_asm); (case k3 => k_asm); (case k4 => k_asm); (case k5 => k_asm); (case k6 => k_is); (case k7 => k_is); (case k8 => k_room); (case kX => kp_lit); (case kM => exact rfl); (case kN => exact rfl); (case kR => exact rfl); (case kP => exact rfl); (case kT => exact fun _ => rfl); (case kB => exact fun _ => locs rfl); (case c5 => decide); (case c2 => exact rfl); (case c3 => exact rfl); (case c4 => exact rfl); intro D' o' g' L' h' tk' l1 lo' hs' FG' F' N' B' X' T' l2; (try k_lt l1); (try k_lt2 l2); (try dsimp only); (try k_lift B')))
local macro_rules | `(tactic| ks_enter) => `(tactic| (refine' superBoth ?k1 ?k2 ?k3 ?k4 ?k5 ?kA ?kF ?kK ?k6 ?k7 ?k8 ?kV ?kX ?kQ ?kM ?kN ?kR ?kP ?kS ?kT ?kB ?_ ?c2 ?c3 ?c4 ?c5; (case kA => exact rfl); (case kF => exact rfl); (case kK => first | exact rfl | assumption); (case k1 => k_asm); (case k2 => k_asm); (case k3 => k_asm); (case k4 => k_asm); (case k5 => k_asm); (case k6 => k_is); (case k7 => k_is); (case k8 => k_room); (case kV => kp_lit); (case kX => kp_lit); (case kQ => exact rfl); (case kM => exact rfl); (case kN => exact rfl); (case kR => exact rfl); (case kP => exact rfl); (case kS => exact fun _ => rfl); (case kT => exact fun _ _ => rfl); (case kB => exact fun _ _ => locs rfl); (case c5 => decide); (case c2 => exact rfl); (case c3 => exact rfl); (case c4 => exact rfl); intro C' D' o' g' L' h' tk' l1 l2 lo' hs' FG' F' N' B' X' T' l3; (try k_lt l1); (try k_lt2 l2); (try k_lt2 l3); (try dsimp only); (try k_lift B')))
local macro_rules | `(tactic| walk_at "wpAt") => `(tactic| (ks_step "execs cons"; k_dflt (refine ks_wpAt_execs_cons ?_)))
local macro_rules | `(tactic| walk_at "wpAt") => `(tactic| (ks_step "exec Expr"; k_dflt (refine ks_wpAt_Expr_any ?_)))
local macro_rules | `(tactic| walk_at "wpAt") => `(tactic| (ks_step "eval Call"; k_dflt (refine ks_wpAt_MethodCall ?_)))
local macro_rules | `(tactic| k_mem) => `(tactic| first | assumption | exact List.mem_cons_self | exact List.Mem.head _ | (refine' List.mem_cons_of_mem _ ?_; k_mem))
local macro_rules | `(tactic| walk_at "getMethod ref") => `(tactic| (k_here; k_dflt (refine here_stop ?_)))
set_option hygiene false in
theorem taken_c {w : World} {p : Program} {loose : List Str} {mean : ExcName → Option Value} {mg mb : Str → Option Value} {Γ : List Ex} {txt : Str} {den : Den} {μ : Nat → Nat → Nat} {B0 : Nat} {ds : List DO} {imm : List (Addr × Obj)} {i : Nat} {e : Ex} (tt : Tok) (whole : Bool)
    (I : Idle Γ B0 ds imm) (G : Good Γ txt den μ) (he : Γ[i]? = some e) (SA : SelfAt (Mine.hd.heap_39 w.params) e 394 2) (htxt : txt.length ≤ 1000) (hex : Γ.length ≤ 1000) (hB : B0 ≤ 1000) :
    CallsT w p loose mean mg mb (4 * μ i 0 + 30) (40 * μ i 0 + 400) 545 [.ref e.a, .str txt tt, .bool whole] (ds.map DO.cell ++ imm) (TakenPost Γ B0 imm (takenEnd whole txt.length (den i 0))) := by
  intro dp un gd cn cs a ccd cl A₀ base h₀ L m s Q E B XB TB F X N T hk hdp hun ret
  obtain ⟨x, hx, hxd, xok, xold, xlen⟩ := I.dok i e he
  have eok := I.exs i e he
  refine gen_led N fun led hl N1 => ?_
  clear N
  have hea : (e.a, e.o) ∈ led := by rw [hl]; exact List.mem_append_right _ eok.1
  have hxa : (x.d, x.o) ∈ led := by rw [hl]; exact List.mem_append_left _ (List.mem_map_of_mem (List.mem_of_getElem? hx))
  refine wpAny_call ?_
  k_dflt (refine' code_defT ?k1 ?k2 ?k3 ?k4 ?k5 ?kA ?kF ?kK ?k6 ?k7 ?k8 ?k9 ?kB ?_ ?c2 ?c3 ?c4 ?c5; (case kA => exact rfl); (case kF => exact rfl); (case kK => first | assumption | exact rfl); (case k1 => k_asm); (case k2 => k_asm); (case k3 => k_asm); (case k4 => k_asm); (case k5 => k_asm); (case k6 => k_is); (case k7 => k_is); (case k8 => ktr_room); (case k9 => first | exact BindsTo.of_eq rfl | exact binds_K (by k_in) rfl (by k_is) rfl rfl rfl); (case c5 => decide); (case kB => exact locs rfl); (case c2 => exact rfl); (case c3 => exact rfl); (case c4 => exact rfl); k_whole; intro g' L' h' FG' F' N' B' X' T' D'; (try dsimp only); (try k_fold))
  cases whole with
  | true =>
    k_steps
    rename News _ _ _ _ => N5
    refine here_go ?_
    refine self_meth (by assumption) (by assumption) N5 SA hea hxa hxd xok (f := 251) (by k_is) (by k_is) (by k_is) (by decide +kernel) fun f hf hkf => ?_
    dsimp only
    refine callWith_K (by assumption) hkf ?_
    k_steps
    rw [hf]
    rename Fr _ _ _ _ => F6
    rename News _ _ _ _ => N6
    rw [hl] at N6
    refine CallsX.use (by assumption) F6 (by assumption) N6 (by assumption) rfl (parse_c tt I G he SA htxt hex hB) ?d1 ?u1 ?_ ?_
    case d1 => exact Nat.lt_of_le_of_lt (show dp + 1 + (4 * μ i 0 + 24) ≤ dp + (4 * μ i 0 + 30) by omega) hdp
    case u1 => exact Nat.lt_of_le_of_lt (show un + 3 + (40 * μ i 0 + 300) ≤ un + (40 * μ i 0 + 400) by omega) hun
    · rintro r _ h3 tk3 F3 N3 ⟨⟨q, c, ds', imm', nd, hd, rfl, I', hsub, rfl, hnd⟩, c', hwh⟩
      clear N6 F6
      obtain ⟨e5, d5, ch5, vs5, n5, cs5, u1, u2, u3, hr1, hr2, hr3, hr4⟩ := id hnd
      have hy1 : (nd, nodeObj e5.a d5 ch5 txt 0 q u1 u2 u3) ∈ ds'.map DO.cell ++ imm' := List.mem_append_right _ hr2
      have hy2 : (d5, dictOf [] 0) ∈ ds'.map DO.cell ++ imm' := List.mem_append_right _ hr3
      k_steps
      rename Fr _ _ _ _ => F8
      rename News _ _ _ _ => N8
      exact ret _ _ _ _ F8 N8 ⟨by rw [hwh, taken_all, show txt.length = q by rw [hd] at hwh; cases hwh; rfl]; exact ⟨_, rfl⟩, ds', imm', rfl, I', hsub⟩
    · rintro C er a0 news' g2 h3 tk3 F3 R3 U3 ⟨hbad, hC, ds', imm', rfl, I', hsub⟩
      rcases hC with rfl | rfl
      all_goals first
        | refine caught_M (C := 94) (D := 94) R3 F3 B' U3 XB TB D' KtsTurn.refl (by k_is) (by exact rfl) (by exact rfl) (by decide +kernel) (by decide +kernel) fun h9 g9 oe vs T9 F9 N9 hoc hod K9 X9 P9 D9 => ?_
        | refine caught_M (C := 132) (D := 94) R3 F3 B' U3 XB TB D' KtsTurn.refl (by k_is) (by exact rfl) (by exact rfl) (by decide +kernel) (by decide +kernel) fun h9 g9 oe vs T9 F9 N9 hoc hod K9 X9 P9 D9 => ?_
      all_goals k_steps
      all_goals rename Fr h₀ L _ _ => F8
      all_goals rename News h₀ L _ _ => N8
      all_goals exact ret _ _ _ _ F8 (News.sub N8 swap_mem) ⟨by rw [taken_no hbad], ds', (er, oe) :: imm', rfl, I' oe, fun z hz => .tail _ (hsub z hz)⟩
  | false =>
    k_steps
    rename News _ _ _ _ => N5
    refine here_go ?_
    refine self_meth (by assumption) (by assumption) N5 SA hea hxa hxd xok (f := 259) (by k_is) (by k_is) (by k_is) (by decide +kernel) fun f hf hkf => ?_
    dsimp only
    refine callWith_K (by assumption) hkf ?_
    k_steps
    rw [hf]
    rename Fr _ _ _ _ => F6
    rename News _ _ _ _ => N6
    rw [hl] at N6
    refine CallsX.use (by assumption) F6 (by assumption) N6 (by assumption) rfl (match_c0 tt I G he htxt hex hB) ?d1 ?u1 ?_ ?_
    case d1 => exact Nat.lt_of_le_of_lt (show dp + 1 + (4 * μ i 0 + 20) ≤ dp + (4 * μ i 0 + 30) by omega) hdp
    case u1 => exact Nat.lt_of_le_of_lt (show un + 3 + (40 * μ i 0 + 200) ≤ un + (40 * μ i 0 + 400) by omega) hun
    · rintro r _ h3 tk3 F3 N3 ⟨q, c, ds', imm', nd, hd, rfl, I', hsub, rfl, hnd⟩
      clear N6 F6
      obtain ⟨e5, d5, ch5, vs5, n5, cs5, u1, u2, u3, hr1, hr2, hr3, hr4⟩ := id hnd
      have hy1 : (nd, nodeObj e5.a d5 ch5 txt 0 q u1 u2 u3) ∈ ds'.map DO.cell ++ imm' := List.mem_append_right _ hr2
      have hy2 : (d5, dictOf [] 0) ∈ ds'.map DO.cell ++ imm' := List.mem_append_right _ hr3
      k_steps
      rename Fr _ _ _ _ => F8
      rename News _ _ _ _ => N8
      exact ret _ _ _ _ F8 N8 ⟨by rw [hd, taken_any]; exact ⟨_, rfl⟩, ds', imm', rfl, I', hsub⟩
    · rintro C er a0 news' g2 h3 tk3 F3 R3 U3 ⟨hbad, hC, ds', imm', rfl, I', hsub⟩
      rcases hC with rfl | rfl
      all_goals first
        | refine caught_M (C := 94) (D := 94) R3 F3 B' U3 XB TB D' KtsTurn.refl (by k_is) (by exact rfl) (by exact rfl) (by decide +kernel) (by decide +kernel) fun h9 g9 oe vs T9 F9 N9 hoc hod K9 X9 P9 D9 => ?_
        | refine caught_M (C := 132) (D := 94) R3 F3 B' U3 XB TB D' KtsTurn.refl (by k_is) (by exact rfl) (by exact rfl) (by decide +kernel) (by decide +kernel) fun h9 g9 oe vs T9 F9 N9 hoc hod K9 X9 P9 D9 => ?_
      all_goals k_steps
      all_goals rename Fr h₀ L _ _ => F8
      all_goals rename News h₀ L _ _ => N8
      all_goals exact ret _ _ _ _ F8 (News.sub N8 swap_mem) ⟨by rw [hbad]; rw [takenEnd], ds', (er, oe) :: imm', rfl, I' oe, fun z hz => .tail _ (hsub z hz)⟩
end Mine
end
section
example : True := by
  w_top off
  trivial
open PySem PySem.W PyProof.Rows PySem.Spec PySem.Calls
namespace Mine
local macro_rules | `(tactic| k_room) => `(tactic| ktr_room)
local macro_rules | `(tactic| k_units) => `(tactic| ktr_units)
local macro_rules | `(tactic| k_all) => `(tactic| (refine up_neAll (by assumption) ?_; first | tbn_find | exact allLt_of (by assumption)))
local macro_rules | `(tactic| k_all) => `(tactic| (refine tbn_neAll ?_; first | tbn_find | exact allLt_of (by assumption)))
local macro_rules | `(tactic| ks_enter) => `(tactic| (refine' ks_code_super ?k1 ?k2 ?k3 ?k4 ?k5 ?kA ?kF ?kK ?k6 ?k7 ?k8 ?k9 ?kB ?_ ?c1 ?c2 ?c3 ?c4; (case kA => exact rfl); (case kF => exact rfl); (case kK => first | exact rfl | assumption); (case k1 => k_asm); (case k2 => k_asm); (case k3 => k_asm); (case k4 => k_asm); (case k5 => k_asm); (case k6 => k_is); (case k7 => k_is); (case k8 => k_room); (case k9 => exact binds_K (by k_in) rfl (by k_is) rfl rfl rfl); (case kB => exact locs rfl); (case c1 => decide); (case c2 => exact rfl); (case c3 => exact rfl); (case c4 => exact rfl); intro g' L' h' FG' F' N' B' X' T' l1; (try k_lt l1); (try dsimp only); (try k_lift B')))
local macro_rules | `(tactic| ks_enter) => `(tactic| (refine' superMore ?k1 ?k2 ?k3 ?k4 ?k5 ?kA ?kF ?kK ?k6 ?k7 ?k8 ?kX ?kM ?kN ?kR ?kP ?kT ?kB ?_ ?c2 ?c3 ?c4 ?c5; (case kA => exact rfl); (case kF => exact rfl); (case kK => first | exact rfl | assumption); (case k1 => k_asm); (case k2 => k_asm); (case k3 => k_asm); (case k4 => k_asm); (case k5 => k_asm); (case k6 => k_is); (case k7 => k_is); (case k8 => k_room); (case kX => kp_lit); (case kM => exact rfl); (case kN => exact rfl); (case kR => exact rfl); (case kP => exact rfl); (case kT => exact fun _ => rfl); (case kB => exact fun _ => locs rfl); (case c5 => decide); (case c2 => exact rfl); (case c3 => exact rfl); (case c4 => exact rfl); intro D' o' g' L' h' tk' l1 lo' hs' FG' F' N' B' X' T' l2; (try k_lt l1); (try k_lt2 l2); (try dsimp only); (try k_lift B')))
local macro_rules | `(tactic| ks_enter) => `(tactic| (refine' superBoth ?k1 ?k2 ?k3 ?k4 ?k5 ?kA ?kF ?kK ?k6 ?k7 ?k8 ?kV ?kX ?kQ ?kM ?kN ?kR ?kP ?kS ?kT ?kB ?_ ?c2 ?c3 ?c4 ?c5; (case kA => exact rfl); (case kF => exact rfl); (case kK => first | exact rfl | assumption); (case k1 => k_asm); (case k2 => k_asm); (case k3 => k_asm); (case k4 => k_asm); (case k5 => k_asm); (case k6 => k_is); (case k7 => k_is); (case k8 => k_room); (case kV => kp_lit); (case kX => kp_lit); (case kQ => exact rfl); (case kM => exact rfl); (case kN => exact rfl); (case kR => exact rfl); (case kP => exact rfl); (case kS => exact fun _ => rfl); (case kT => exact fun _ _ => rfl); (case kB => exact fun _ _ => locs rfl); (case c5 => decide); (case c2 => exact rfl); (case c3 => exact rfl); (case c4 => exact rfl); intro C' D' o' g' L' h' tk' l1 l2 lo' hs' FG' F' N' B' X' T' l3; (try k_lt l1); (try k_lt2 l2); (try k_lt2 l3); (try dsimp only); (try k_lift B')))
local macro_rules | `(tactic| walk_at "wpAt") => `(tactic| (ks_step "execs cons"; k_dflt (refine ks_wpAt_execs_cons ?_)))
local macro_rules | `(tactic| walk_at "wpAt") => `(tactic| (ks_step "exec Expr"; k_dflt (refine ks_wpAt_Expr_any ?_)))
local macro_rules | `(tactic| walk_at "wpAt") => `(tactic| (ks_step "eval Call"; k_dflt (refine ks_wpAt_MethodCall ?_)))
local macro_rules | `(tactic| k_mem) => `(tactic| first | assumption | exact List.mem_cons_self | exact List.Mem.head _ | (refine' List.mem_cons_of_mem _ ?_; k_mem))
def IntCall (w : World) (p : Program) (loose : List Str) (mean : ExcName → Option Value) (mg mb : Str → Option Value) (D U : Nat) (f : Addr) (args : List Value) (G : Heap → Prop) (Post : Value → Prop) : Prop :=
  ∀ (led : List (Addr × Obj)) (dp un : Nat) (gd : Option (List Code)) (cn : Str) (cs : Scope) (a : Addr) (ccd : Value) (cl : List (Str × Addr)) (outer : List Env) (A₀ : Around) (base h₀ : Heap) (L : Addr) (m : Str → Option Value) (s : Shared) (Q E : Value → Shared → Prop),
    Below A₀ base outer h₀ → Fr h₀ L s.heap m → (Mine.hd.heap_39 w.params).In h₀ → News h₀ L s.heap led → Top p loose mean mg mb h₀ → cs.kind = .function → dp + D < recursionLimit → un + U < cLine → G h₀ →
    (∀ r h' tk', Fr h₀ L h' m → News h₀ L h' led → Post r → Q r { s with heap := h', toks := tk' }) →
    wpAny (model PySem.Challenge.rw_vy0016_01.row.prog w) (ktrTop dp un gd cn cs L a ccd cl outer) (call (.ref f) args) Q E s
theorem IntCall.use {w : World} {p : Program} {loose : List Str} {mean : ExcName → Option Value} {mg mb : Str → Option Value} {D U : Nat} {f : Addr} {args : List Value} {G : Heap → Prop} {Post : Value → Prop} {led : List (Addr × Obj)}
    {dp un : Nat} {gd : Option (List Code)} {cn : Str} {cs : Scope} {a : Addr} {ccd : Value} {cl : List (Str × Addr)} {outer : List Env} {A₀ : Around} {base h₀ : Heap} {L : Addr} {m : Str → Option Value} {s : Shared} {Q E : Value → Shared → Prop}
    (B : Below A₀ base outer h₀) (F : Fr h₀ L s.heap m) (X : (Mine.hd.heap_39 w.params).In h₀) (N : News h₀ L s.heap led) (T : Top p loose mean mg mb h₀) (hk : cs.kind = .function) (C : IntCall w p loose mean mg mb D U f args G Post)
    (hd : dp + D < recursionLimit) (hu : un + U < cLine) (hg : G h₀) (ret : ∀ r h' tk', Fr h₀ L h' m → News h₀ L h' led → Post r → Q r { s with heap := h', toks := tk' }) :
    wpAny (model PySem.Challenge.rw_vy0016_01.row.prog w) (ktrTop dp un gd cn cs L a ccd cl outer) (call (.ref f) args) Q E s := C _ _ _ _ _ _ _ _ _ _ _ _ _ _ _ _ _ _ B F X N T hk hd hu hg ret
set_option hygiene false in
theorem law_number {w : World} {p : Program} {loose : List Str} {mean : ExcName → Option Value} {mg mb : Str → Option Value} {scr : Addr} {vs : List Value} {ns : List Int} (hI : IntsAre vs ns) (hlen : ns.length ≤ 63) (k : Int) (tk : Tok) (hk0 : 0 ≤ k) :
    IntCall w p loose mean mg mb 4 40 531 [.ref scr, .int k tk] (fun h => h.IsList scr vs.toArray) (fun r => ∃ z t, r = .int z t) := by
  intro led dp un gd cn cs a ccd cl outer A₀ base h₀ L m s Q E B F X N T hk hdp hun hL ret
  refine wpAny_call ?_
  k_dflt (refine' code_defG ?k1 ?k2 ?k3 ?k4 ?k5 ?kA ?kF ?kK ?k6 ?k7 ?k8 ?k9 ?kB ?_ ?c2 ?c3 ?c4 ?c5; (case kA => exact rfl); (case kF => exact rfl); (case kK => first | assumption | exact rfl); (case k1 => k_asm); (case k2 => k_asm); (case k3 => k_asm); (case k4 => k_asm); (case k5 => k_asm); (case k6 => k_is); (case k7 => k_is); (case k8 => ktr_room); (case k9 => first | exact BindsTo.of_eq rfl | exact binds_K (by k_in) rfl (by k_is) rfl rfl rfl); (case c5 => decide); (case kB => exact locs rfl); (case c2 => exact rfl); (case c3 => exact rfl); (case c4 => exact rfl); k_whole; intro g' L' h' FG' F' N' B' X' T' G'; (try dsimp only); (try k_fold))
  have hL' := FG'.lst hL
  k_steps
  all_goals rename Fr h₀ L _ _ => F8
  all_goals rename News h₀ L _ _ => N8
  all_goals exact ret _ _ _ F8 N8 ⟨_, _, rfl⟩
end Mine
end
section
example : True := by
  w_top off
  trivial
open PySem PySem.W PyProof.Rows PySem.Spec PySem.Calls
namespace Mine
local macro_rules | `(tactic| k_room) => `(tactic| ktr_room)
local macro_rules | `(tactic| k_units) => `(tactic| ktr_units)
local macro_rules | `(tactic| k_all) => `(tactic| (refine up_neAll (by assumption) ?_; first | tbn_find | exact allLt_of (by assumption)))
local macro_rules | `(tactic| k_all) => `(tactic| (refine tbn_neAll ?_; first | tbn_find | exact allLt_of (by assumption)))
local macro_rules | `(tactic| ks_enter) => `(tactic| (refine' ks_code_super ?k1 ?k2 ?k3 ?k4 ?k5 ?kA ?kF ?kK ?k6 ?k7 ?k8 ?k9 ?kB ?_ ?c1 ?c2 ?c3 ?c4; (case kA => exact rfl); (case kF => exact rfl); (case kK => first | exact rfl | assumption); (case k1 => k_asm); (case k2 => k_asm); (case k3 => k_asm); (case k4 => k_asm); (case k5 => k_asm); (case k6 => k_is); (case k7 => k_is); (case k8 => k_room); (case k9 => exact binds_K (by k_in) rfl (by k_is) rfl rfl rfl); (case kB => exact locs rfl); (case c1 => decide); (case c2 => exact rfl); (case c3 => exact rfl); (case c4 => exact rfl); intro g' L' h' FG' F' N' B' X' T' l1; (try k_lt l1); (try dsimp only); (try k_lift B')))
local macro_rules | `(tactic| ks_enter) => `(tactic| (refine' superMore ?k1 ?k2 ?k3 ?k4 ?k5 ?kA ?kF ?kK ?k6 ?k7 ?k8 ?kX ?kM ?kN ?kR ?kP ?kT ?kB ?_ ?c2 ?c3 ?c4 ?c5; (case kA => exact rfl); (case kF => exact rfl); (case kK => first | exact rfl | assumption); (case k1 => k_asm); (case k2 => k_asm); (case k3 => k_asm); (case k4 => k_asm); (case k5 => k_asm); (case k6 => k_is); (case k7 => k_is); (case k8 => k_room); (case kX => kp_lit); (case kM => exact rfl); (case kN => exact rfl); (case kR => exact rfl); (case kP => exact rfl); (case kT => exact fun _ => rfl); (case kB => exact fun _ => locs rfl); (case c5 => decide); (case c2 => exact rfl); (case c3 => exact rfl); (case c4 => exact rfl); intro D' o' g' L' h' tk' l1 lo' hs' FG' F' N' B' X' T' l2; (try k_lt l1); (try k_lt2 l2); (try dsimp only); (try k_lift B')))
local macro_rules | `(tactic| ks_enter) => `(tactic| (refine' superBoth ?k1 ?k2 ?k3 ?k4 ?k5 ?kA ?kF ?kK ?k6 ?k7 ?k8 ?kV ?kX ?kQ ?kM ?kN ?kR ?kP ?kS ?kT ?kB ?_ ?c2 ?c3 ?c4 ?c5; (case kA => exact rfl); (case kF => exact rfl); (case kK => first | exact rfl | assumption); (case k1 => k_asm); (case k2 => k_asm); (case k3 => k_asm); (case k4 => k_asm); (case k5 => k_asm); (case k6 => k_is); (case k7 => k_is); (case k8 => k_room); (case kV => kp_lit); (case kX => kp_lit); (case kQ => exact rfl); (case kM => exact rfl); (case kN => exact rfl); (case kR => exact rfl); (case kP => exact rfl); (case kS => exact fun _ => rfl); (case kT => exact fun _ _ => rfl); (case kB => exact fun _ _ => locs rfl); (case c5 => decide); (case c2 => exact rfl); (case c3 => exact rfl); (case c4 => exact rfl); intro C' D' o' g' L' h' tk' l1 l2 lo' hs' FG' F' N' B' X' T' l3; (try k_lt l1); (try k_lt2 l2); (try k_lt2 l3); (try dsimp only); (try k_lift B')))
local macro_rules | `(tactic| walk_at "wpAt") => `(tactic| (ks_step "execs cons"; k_dflt (refine ks_wpAt_execs_cons ?_)))
local macro_rules | `(tactic| walk_at "wpAt") => `(tactic| (ks_step "exec Expr"; k_dflt (refine ks_wpAt_Expr_any ?_)))
local macro_rules | `(tactic| walk_at "wpAt") => `(tactic| (ks_step "eval Call"; k_dflt (refine ks_wpAt_MethodCall ?_)))
local macro_rules | `(tactic| k_mem) => `(tactic| first | assumption | exact List.mem_cons_self | exact List.Mem.head _ | (refine' List.mem_cons_of_mem _ ?_; k_mem))
def WhileHere2 (prog : Program) (w : World) (A : Around) (E : Value → Shared → Prop) (s : Shared) (env : Env) (test : Expr) (body orelse : List Stmt) (pos : Pos) (Q : Flow → Shared → Prop) : Prop := wpAny (model prog w) A (exec (.While test body orelse pos) env) Q E s
theorem while_stop2 {prog : Program} {w : World} {A : Around} {E : Value → Shared → Prop} {s : Shared} {env : Env} {test : Expr} {body orelse : List Stmt} {pos : Pos} {Q : Flow → Shared → Prop} (h : WhileHere2 prog w A E s env test body orelse pos Q) : wpAny (model prog w) A (exec (.While test body orelse pos) env) Q E s := h
theorem while_go2 {prog : Program} {w : World} {A : Around} {E : Value → Shared → Prop} {s : Shared} {env : Env} {test : Expr} {body orelse : List Stmt} {pos : Pos} {Q : Flow → Shared → Prop} (h : wpAny (model prog w) A (exec (.While test body orelse pos) env) Q E s) : WhileHere2 prog w A E s env test body orelse pos Q := h
/-- where the run of c from e ends -/
def runTo (c t : Str) : Nat → Nat → Nat
  | 0, e => e
  | f + 1, e => if (Txt.slice t (some (e : Nat)) (some ((e : Nat) + 1)) == c) = true then runTo c t f (e + 1) else e
theorem slice_end (t : Str) : (Txt.slice t (some (t.length : Nat)) (some ((t.length : Nat) + 1))).length = 0 := by
  have h : PySem.Builtin.Str.strSliceIndices (some ((t.length : Nat) : Int)) (some (((t.length : Nat) : Int) + 1)) 1 t.length = [] := by
    unfold PySem.Builtin.Str.strSliceIndices PySem.sliceRange
    simp
    omega
  unfold Txt.slice
  rw [h]
  split
  · rename_i h2
    have h3 : 0 = t.length := by simpa using h2
    exact h3.symm
  · rfl
theorem run_lt {c t : Str} {e : Nat} (hc : c.length = 1) (he : e ≤ t.length) (h : (Txt.slice t (some (e : Nat)) (some ((e : Nat) + 1)) == c) = true) : e < t.length := by
  by_cases h2 : e < t.length
  · exact h2
  · have : e = t.length := by omega
    subst this
    have h3 := slice_end t
    rw [eq_of_beq h, hc] at h3
    cases h3
local macro_rules | `(tactic| walk_at "exec While Compare") => `(tactic| (k_here; k_dflt (refine while_stop2 ?_)))
set_option hygiene false in
theorem law_run {w : World} {p : Program} {loose : List Str} {mean : ExcName → Option Value} {mg mb : Str → Option Value} (txt c : Str) (at0 : Nat) (tt ta tc : Tok) (hc : c.length = 1) (hlen : txt.length ≤ 1000) (hat : at0 ≤ txt.length) :
    IntCall w p loose mean mg mb 4 40 552 [.str txt tt, .int (at0 : Nat) ta, .str c tc] (fun _ => True) (fun r => ∃ t, r = .int ((runTo c txt (txt.length - at0) at0 : Nat) : Int) t) := by
  intro led dp un gd cn cs a ccd cl outer A₀ base h₀ L m s Q E B F X N T hk hdp hun hL ret
  refine wpAny_call ?_
  k_dflt (refine' code_defG ?k1 ?k2 ?k3 ?k4 ?k5 ?kA ?kF ?kK ?k6 ?k7 ?k8 ?k9 ?kB ?_ ?c2 ?c3 ?c4 ?c5; (case kA => exact rfl); (case kF => exact rfl); (case kK => first | assumption | exact rfl); (case k1 => k_asm); (case k2 => k_asm); (case k3 => k_asm); (case k4 => k_asm); (case k5 => k_asm); (case k6 => k_is); (case k7 => k_is); (case k8 => ktr_room); (case k9 => first | exact BindsTo.of_eq rfl | exact binds_K (by k_in) rfl (by k_is) rfl rfl rfl); (case c5 => decide); (case kB => exact locs rfl); (case c2 => exact rfl); (case c3 => exact rfl); (case c4 => exact rfl); k_whole; intro g' L' h' FG' F' N' B' X' T' G'; (try dsimp only); (try k_fold))
  k_steps
  rename Fr _ _ _ _ => F1
  rename News _ _ _ _ => N2
  refine gen_fr F1 fun m0 hm0 F2 => ?_
  refine while_go2 ?_
  refine while_cut (n₀ := txt.length - at0) (fun n m' led' => led' = led ∧ ∃ (e : Nat) (te : Tok), (∀ k, k ≠ Str.ofString "end" → m' k = m0 k) ∧ m' (Str.ofString "end") = some (.int (e : Nat) te) ∧ e ≤ txt.length ∧ n = txt.length - e ∧ runTo c txt (txt.length - at0) at0 = runTo c txt n e)
    (fun m' led' => led' = led ∧ ∃ (e : Nat) (te : Tok), (∀ k, k ≠ Str.ofString "end" → m' k = m0 k) ∧ m' (Str.ofString "end") = some (.int (e : Nat) te) ∧ runTo c txt (txt.length - at0) at0 = e) (by exact F2) (by exact N2)
    ⟨rfl, at0, ta, (fun _ _ => rfl), by rw [hm0]; rfl, hat, rfl, rfl⟩ ?_ ?_
  · rintro n m1 led' h tk ⟨rfl, e, te, hm1, hme, hel, hn, hrun⟩ F3 N3
    have F4 : Fr _ _ h (fun k => if k = Str.ofString "end" then some (.int (e : Nat) te) else m0 k) := fr_same F3 (by
      funext k
      by_cases h0 : k = Str.ofString "end"
      · simp only [if_pos h0]; rw [h0]; exact hme
      · simp only [if_neg h0]; exact hm1 k h0)
    subst hm0
    clear F3 F2 F1 N2
    k_steps
    · rename (_ == c) = true => ht
      have hlt := run_lt hc hel ht
      rename Fr _ _ _ _ => F8
      rename News _ _ _ _ => N8
      refine gen_fr F8 fun mF hmF F9 => ?_
      refine ⟨txt.length - (e + 1), by omega, _, _, _, _, rfl, F9, N8, rfl, e + 1, _, ?_, by rw [hmF]; rfl, hlt, rfl, ?_⟩
      · intro k hk; rw [hmF]; simp only [if_neg hk]
      · rw [hrun, show n = txt.length - (e + 1) + 1 by omega, runTo, if_pos ht]
    · rename (_ == c) = false => ht
      rename Fr _ _ _ _ => F8
      rename News _ _ _ _ => N8
      refine ⟨_, _, _, _, rfl, F8, N8, rfl, e, te, ?_, rfl, ?_⟩
      · intro k hk; simp only [if_neg hk]
      · rw [hrun]
        cases n with
        | zero => rfl
        | succ n => rw [runTo, if_neg (by rw [ht]; exact Bool.false_ne_true)]
  · rintro m3 led3 h3 tk3 ⟨rfl, e, te, hm1, hme, hrun⟩ F3 N3
    have F4 : Fr _ _ h3 (fun k => if k = Str.ofString "end" then some (.int (e : Nat) te) else m0 k) := fr_same F3 (by
      funext k
      by_cases h0 : k = Str.ofString "end"
      · simp only [if_pos h0]; rw [h0]; exact hme
      · simp only [if_neg h0]; exact hm1 k h0)
    subst hm0
    clear F3 F2 F1 N2
    dsimp only
    k_steps
    rename Fr h₀ L _ _ => F8
    rename News h₀ L _ _ => N8
    exact ret _ _ _ F8 N8 ⟨te, by rw [hrun]⟩
end Mine
end
section
open PySem PySem.W PyProof.Rows PySem.Spec PySem.Calls PyProof.V
namespace Mine
section
variable {prog : Program} {w : World} {A : Around} {E : Value → Shared → Prop} {s : Shared} {h₀ : Heap} {L : Addr} {m : Str → Option Value} {env : Env}
/-- a comprehension's turns, by what holds between them -/
theorem comp_inv {elt : Expr} {x : Str} {scope : Scope} {cl : List (Str × Addr)} {S : List (Addr × Obj) → Prop} {P : Nat → Value → Prop} {Fin : List Value → List (Addr × Obj) → Prop} {n : Nat} (J : Nat → List Value → List (Addr × Obj) → Prop)
    (turn : ∀ i ys news v I oI C oC D m₂ h tk (E' : Value → Shared → Prop), i < n → J i ys news → P i v → LCg.NsObj oC m₂ → m₂ x = some v → Fr h₀ L h m → News h₀ L h ((I, oI) :: (C, oC) :: (D, LCg.lst ys) :: news) → LCg.Off3 I C D news → ((@Ne Nat I C) ∧ (@Ne Nat I D) ∧ (@Ne Nat C D)) →
      wpAny (model prog w) A (eval elt (compEnvC scope cl C env)) (LCg.CompEnd h₀ L m { s with heap := h, toks := tk } I oI C oC D (LCg.lst ys) S (fun y news' => J (i + 1) (ys ++ [y]) news')) E' { s with heap := h, toks := tk })
    (done : ∀ ys news, J n ys news → Fin ys news) : ∀ (k i : Nat) (ys : List Value) (news : List (Addr × Obj)), i + k = n → J i ys news → LCg.CompRest prog w A h₀ L m env elt x scope cl s S P Fin k i ys news := by
  intro k
  induction k with
  | zero =>
    intro i ys news hi hj
    have e : i = n := by omega
    exact LCg.CompRest.zero (done _ _ (by rw [← e]; exact hj))
  | succ k ih =>
    intro i ys news hi hj
    refine LCg.CompRest.succ fun v I oI C oC D m₂ h tk E' hP hC hx F N off ne => ?_
    refine wpAny_mono (turn i ys news v I oI C oC D m₂ h tk E' (by omega) hj hP hC hx F N off ne) (fun y s₂ hc => ?_) fun _ _ e => e
    obtain ⟨h', tk', news', a, b, c, d, e, f⟩ := hc
    exact ⟨h', tk', news', a, b, c, d, e, ih (i + 1) (ys ++ [y]) news' (by omega) f⟩
/-- what the iterator of a comprehension is -/
def IterAt (prog : Program) (w : World) (A : Around) (h₀ : Heap) (L : Addr) (m : Str → Option Value) (env : Env) (elt : Expr) (x : Str) (scope : Scope) (cl : List (Str × Addr)) (Fin : Shared → List Value → List (Addr × Obj) → Prop) (it : Value) (s₂ : Shared) : Prop :=
  ∃ I ax its news, it = .ref I ∧ A.handled = none ∧ Fr h₀ L s₂.heap m ∧ News h₀ L s₂.heap news ∧ s₂.heap.IsListIter I ax 0 ∧ s₂.heap.IsList ax its ∧ LCg.SrcAt h₀ ax its news ∧ its.size ≤ sizeLine ∧ ax ≠ I ∧ L ≠ I ∧ h₀.get? I = none ∧ (∀ p ∈ news, p.1 ≠ I) ∧
    LCg.CompRest prog w A h₀ L m env elt x scope cl s₂ (LCg.SrcAt h₀ ax its) (fun i v => its[i]? = some v) (Fin s₂) its.size 0 [] news
theorem ListComp_I {elt iter : Expr} {x : Str} {px : Pos} {scope : Scope} {cl : List (Str × Addr)} {pos : Pos} {Q : Value → Shared → Prop} (_F₀ : Fr h₀ L s.heap m)
    (hclos : closureFor scope env = pure cl) (hcell : ∀ y ∈ scope.names, y.2 ≠ .cell) (hkind : scope.kind = .function)
    (hnames : ∀ y ∈ scope.names, y.2 = .local → scope.names.lookup y.1 = some .local) (hx : scope.names.lookup x = some .local)
    (h : wpAny (model prog w) A (eval iter env) (fun xv s₁ => wpAny (model prog w) A (pyIter xv) (IterAt prog w A h₀ L m env elt x scope cl (fun s₂ => LCg.FinE h₀ L m s₂ Q)) E s₁) E s)
    (hs : ∀ x, foldedSetIterable iter env x = pure x := by intro _; rfl) :
    wpAny (model prog w) A (eval (.ListComp elt [⟨.Name x px, iter, [], 0⟩] scope pos) env) Q E s := by
  rw [eval_ListComp]
  refine wpAny_comprehension_free (use := none) rfl hs hclos hkind hnames (wpAny_mono h (fun xv s₁ h₁ => wpAny_mono h₁ (fun it s₂ h₂ => ?_) fun _ _ e => e) fun _ _ e => e)
  obtain ⟨I, ax, its, news, rfl, hh, F, N, hit, hl, S, hsz, hne, hIL, hI0, off, R⟩ := h₂
  have hIlt : I < s₂.heap.objs.size := by obtain ⟨_, e, _⟩ := hit; exact Heap.lt_size e
  have hlt : ax < s₂.heap.objs.size := by obtain ⟨_, e, _⟩ := hl; exact Heap.lt_size e
  refine LCg.block_U (Walks.list hh I ax hne its) hsz (fun i h st => by obtain ⟨o, e, _⟩ := st.1; exact ⟨o, e⟩) LCg.list_st hcell hkind hx ⟨hit, hl⟩ (fun b hb => ?_) F N hIL hI0 off S R ?_
  · rcases List.mem_cons.mp hb with rfl | hb
    · exact hIlt
    · rw [List.mem_singleton.mp hb]; exact hlt
  · intro D C h tk m' ys news' F' N' o1 hn hC₀ hD₀ hCL hDL hCD offC fin
    refine ⟨m', hn, fun h'' hs'' => fin D h'' tk (F'.change hs'' hCL hC₀) (fun p hp => ?_) o1⟩
    refine ⟨hs''.extBut _ _ ?_ (N' p hp).1, (N' p hp).2⟩
    rcases List.mem_cons.mp hp with rfl | hp
    · exact Ne.symm hCD
    · exact offC p hp
end
theorem li_next : typeLookup (.type "list_iterator") "__next__" = pure (some (.builtin "list_iterator.__next__")) := by rw [typeLookup_type, builtinLookup_eq_fast]; kernel_rfl
def ItBack (Q : Value → Shared → Prop) (v : Value) (s' : Shared) : Prop := ∃ it ax i, v = .ref it ∧ s'.heap.IsListIter it ax i ∧ Q (.ref it) s'
theorem pyIter_inst {prog : Program} {w : World} {A : Around} {E : Value → Shared → Prop} {s : Shared} {K : Frag} {x C f L : Addr} {h₀ : Heap} {m : Str → Option Value} {ox : Obj} {od : Option Obj} {Q : Value → Shared → Prop} (F : Fr h₀ L s.heap m) (X : K.In h₀) (I : InstAt s.heap x ox C od)
    (hs : findIn K (.ref C) "__iter__" = some (some (.ref f))) (hf : isFn K (.ref f) = true)
    (h : wpAny (model prog w) A (call (.ref f) [.ref x]) (ItBack Q) E s) : wpAny (model prog w) A (pyIter (.ref x)) Q E s := by
  refine owit_iter F X I hs hf (wpAny_mono h (fun v s' hv => ?_) fun _ _ e => e)
  obtain ⟨it, ax, i, rfl, hit, hq⟩ := hv
  have hT : s'.TypeIs (.ref it) "list_iterator" := by obtain ⟨o, a, b, _⟩ := hit; exact ⟨o, a, b⟩
  exact wpAny_specialOf hT li_next hq
abbrev liObj (ch : Addr) : Obj := { cls := .type "list_iterator", data := .fields #[.ref ch, .int 0 0] }
theorem iter_l {prog : Program} {w : World} {A : Around} {E : Value → Shared → Prop} {s : Shared} {h₀ : Heap} {L ch : Addr} {m : Str → Option Value} {news : List (Addr × Obj)} {vs : List Value} {n : Nat} {Q : Value → Shared → Prop} (F : Fr h₀ L s.heap m) (N : News h₀ L s.heap news) (hp : (ch, listObj vs n) ∈ news)
    (h : ∀ I h', Fr h₀ L h' m → News h₀ L h' ((I, liObj ch) :: news) → (∀ p ∈ news, p.1 < I) → Q (.ref I) { s with heap := h' }) : wpAny (model prog w) A (call (.builtin "iter") [.ref ch]) Q E s := by
  refine call_function_entry (by decide +kernel) (by decide +kernel) kdk_entry_iter (kdk_args_iter _) ?_
  unfold Builtin.«iter»
  refine wpAny_bind (m := someArgs "iter" 1 2 _) (wpAny_of_eq (a := [Value.ref ch]) (by first | rfl | kernel_rfl!) ?_)
  show wpAny _ _ (pyIter (.ref ch) >>= _) _ _ _
  refine wpAny_bind (wpAny_pyIter_list (items := vs.toArray) ⟨_, (N _ hp).1, rfl, _, rfl⟩ ?_)
  exact wpAny_pure ⟨_, rfl, h _ _ (F.push _) (News.push F N _ rfl) (fun q hq => Heap.lt_size (N q hq).1)⟩
end Mine
end
section
example : True := by
  w_top off
  trivial
open PySem PySem.W PyProof.Rows PySem.Spec PySem.Calls
namespace Mine
local macro_rules | `(tactic| k_room) => `(tactic| ktr_room)
local macro_rules | `(tactic| k_units) => `(tactic| ktr_units)
local macro_rules | `(tactic| k_all) => `(tactic| (refine up_neAll (by assumption) ?_; first | tbn_find | exact allLt_of (by assumption)))
local macro_rules | `(tactic| k_all) => `(tactic| (refine tbn_neAll ?_; first | tbn_find | exact allLt_of (by assumption)))
local macro_rules | `(tactic| ks_enter) => `(tactic| (refine' ks_code_super ?k1 ?k2 ?k3 ?k4 ?k5 ?kA ?kF ?kK ?k6 ?k7 ?k8 ?k9 ?kB ?_ ?c1 ?c2 ?c3 ?c4; (case kA => exact rfl); (case kF => exact rfl); (case kK => first | exact rfl | assumption); (case k1 => k_asm); (case k2 => k_asm); (case k3 => k_asm); (case k4 => k_asm); (case k5 => k_asm); (case k6 => k_is); (case k7 => k_is); (case k8 => k_room); (case k9 => exact binds_K (by k_in) rfl (by k_is) rfl rfl rfl); (case kB => exact locs rfl); (case c1 => decide); (case c2 => exact rfl); (case c3 => exact rfl); (case c4 => exact rfl); intro g' L' h' FG' F' N' B' X' T' l1; (try k_lt l1); (try dsimp only); (try k_lift B')))
local macro_rules | `(tactic| ks_enter) => `(tactic| (refine' superMore ?k1 ?k2 ?k3 ?k4 ?k5 ?kA ?kF ?kK ?k6 ?k7 ?k8 ?kX ?kM ?kN ?kR ?kP ?kT ?kB ?_ ?c2 ?c3 ?c4 ?c5; (case kA => exact rfl); (case kF => exact rfl); (case kK => first | exact rfl | assumption); (case k1 => k_asm); (case k2 => k_asm); (case k3 => k_asm); (case k4 => k_asm); (case k5 => k_asm); (case k6 => k_is); (case k7 => k_is); (case k8 => k_room); (case kX => kp_lit); (case kM => exact rfl); (case kN => exact rfl); (case kR => exact rfl); (case kP => exact rfl); (case kT => exact fun _ => rfl); (case kB => exact fun _ => locs rfl); (case c5 => decide); (case c2 => exact rfl); (case c3 => exact rfl); (case c4 => exact rfl); intro D' o' g' L' h' tk' l1 lo' hs' FG' F' N' B' X' T' l2; (try k_lt l1); (try k_lt2 l2); (try dsimp only); (try k_lift B')))
local macro_rules | `(tactic| ks_enter) => `(tactic| (refine' superBoth ?k1 ?k2 ?k3 ?k4 ?k5 ?kA ?kF ?kK ?k6 ?k7 ?k8 ?kV ?kX ?kQ ?kM ?kN ?kR ?kP ?kS ?kT ?kB ?_ ?c2 ?c3 ?c4 ?c5; (case kA => exact rfl); (case kF => exact rfl); (case kK => first | exact rfl | assumption); (case k1 => k_asm); (case k2 => k_asm); (case k3 => k_asm); (case k4 => k_asm); (case k5 => k_asm); (case k6 => k_is); (case k7 => k_is); (case k8 => k_room); (case kV => kp_lit); (case kX => kp_lit); (case kQ => exact rfl); (case kM => exact rfl); (case kN => exact rfl); (case kR => exact rfl); (case kP => exact rfl); (case kS => exact fun _ => rfl); (case kT => exact fun _ _ => rfl); (case kB => exact fun _ _ => locs rfl); (case c5 => decide); (case c2 => exact rfl); (case c3 => exact rfl); (case c4 => exact rfl); intro C' D' o' g' L' h' tk' l1 l2 lo' hs' FG' F' N' B' X' T' l3; (try k_lt l1); (try k_lt2 l2); (try k_lt2 l3); (try dsimp only); (try k_lift B')))
local macro_rules | `(tactic| walk_at "wpAt") => `(tactic| (ks_step "execs cons"; k_dflt (refine ks_wpAt_execs_cons ?_)))
local macro_rules | `(tactic| walk_at "wpAt") => `(tactic| (ks_step "exec Expr"; k_dflt (refine ks_wpAt_Expr_any ?_)))
local macro_rules | `(tactic| walk_at "wpAt") => `(tactic| (ks_step "eval Call"; k_dflt (refine ks_wpAt_MethodCall ?_)))
local macro_rules | `(tactic| k_mem) => `(tactic| first | assumption | exact List.mem_cons_self | exact List.Mem.head _ | (refine' List.mem_cons_of_mem _ ?_; k_mem))
theorem get_prop' {prog : Program} {w : World} {A : Around} {E : Value → Shared → Prop} {s : Shared} {K : Frag} {x C L p : Addr} {h₀ : Heap} {m : Str → Option Value} {ox : Obj} {name : Str} {expr : Bool} {Q : Value → Shared → Prop} {fget : Addr} {rest : List Value} {od : Obj} (F : Fr h₀ L s.heap m) (X₀ : K.In h₀) (I : InstAt s.heap x ox C (some od)) (hg : plainGet K C name = true) (hc : isClsIn K C = true)
    (ha : findIn K (.ref C) name = some (some (.ref p))) (hn : specialIn K (.ref p) "__get__" = some (some (.builtin "property.__get__"))) (ht : takesIn K (.ref p) = some true) (hp : recIn K p "property" = some (.ref fget :: rest))
    (h : codeAny (model prog w) A.in1 (.call (.ref fget) ⟨[.ref x], []⟩) (fun r s' => match r with | .ok (.ret v) => wpAny (model prog w) A (handedOut v) Q E s' | .ok _ => False | .error e => wpAny (model prog w) A (noteIf true (.ref x) (.str name s.toks) e) (fun _ s'' => E e s'') E s') { s with toks := s.toks + 1 }) :
    wpAny (model prog w) A (getAttr (.ref x) name expr) Q E s :=
  get_bind (X₀.keeps F.keep) I (plainGet_of hg).1 (findObj_data hc ha hn ht) (plainGet_of hg).2 (wpAny_call (prop_get (s := { s with toks := s.toks + 1 }) (X₀.keeps F.keep) hp h))
def ListCompHere (M : Model) (A : Around) (E : Value → Shared → Prop) (s : Shared) (env : Env) (e : Expr) (Q : Value → Shared → Prop) : Prop := wpAny M A (eval e env) Q E s
theorem listComp_stop {M : Model} {A : Around} {E : Value → Shared → Prop} {s : Shared} {env : Env} {e : Expr} {Q : Value → Shared → Prop} (h : ListCompHere M A E s env e Q) : wpAny M A (eval e env) Q E s := h
theorem listComp_go {M : Model} {A : Around} {E : Value → Shared → Prop} {s : Shared} {env : Env} {e : Expr} {Q : Value → Shared → Prop} (h : wpAny M A (eval e env) Q E s) : ListCompHere M A E s env e Q := h
local macro_rules | `(tactic| walk_at "eval ListComp") => `(tactic| (k_here; k_dflt (refine listComp_stop ?_)))
def IntCallL (w : World) (p : Program) (loose : List Str) (mean : ExcName → Option Value) (mg mb : Str → Option Value) (D U : Nat) (f : Addr) (args : List Value) (lb : List (Addr × Obj)) (Post : Value → Prop) : Prop :=
  ∀ (led : List (Addr × Obj)) (dp un : Nat) (gd : Option (List Code)) (cn : Str) (cs : Scope) (a : Addr) (ccd : Value) (cl : List (Str × Addr)) (outer : List Env) (A₀ : Around) (base h₀ : Heap) (L : Addr) (m : Str → Option Value) (s : Shared) (Q E : Value → Shared → Prop),
    Below A₀ base outer h₀ → Fr h₀ L s.heap m → (Mine.hd.heap_39 w.params).In h₀ → News h₀ L s.heap led → (∀ p ∈ lb, p ∈ led) → Top p loose mean mg mb h₀ → cs.kind = .function → dp + D < recursionLimit → un + U < cLine →
    (∀ r h' tk', Fr h₀ L h' m → News h₀ L h' led → Post r → Q r { s with heap := h', toks := tk' }) →
    wpAny (model PySem.Challenge.rw_vy0016_01.row.prog w) (ktrTop dp un gd cn cs L a ccd cl outer) (call (.ref f) args) Q E s
theorem IntCallL.use {w : World} {p : Program} {loose : List Str} {mean : ExcName → Option Value} {mg mb : Str → Option Value} {D U : Nat} {f : Addr} {args : List Value} {lb : List (Addr × Obj)} {Post : Value → Prop} {led : List (Addr × Obj)}
    {dp un : Nat} {gd : Option (List Code)} {cn : Str} {cs : Scope} {a : Addr} {ccd : Value} {cl : List (Str × Addr)} {outer : List Env} {A₀ : Around} {base h₀ : Heap} {L : Addr} {m : Str → Option Value} {s : Shared} {Q E : Value → Shared → Prop}
    (B : Below A₀ base outer h₀) (F : Fr h₀ L s.heap m) (X : (Mine.hd.heap_39 w.params).In h₀) (N : News h₀ L s.heap led) (hs : ∀ p ∈ lb, p ∈ led) (T : Top p loose mean mg mb h₀) (hk : cs.kind = .function) (C : IntCallL w p loose mean mg mb D U f args lb Post)
    (hd : dp + D < recursionLimit) (hu : un + U < cLine) (ret : ∀ r h' tk', Fr h₀ L h' m → News h₀ L h' led → Post r → Q r { s with heap := h', toks := tk' }) :
    wpAny (model PySem.Challenge.rw_vy0016_01.row.prog w) (ktrTop dp un gd cn cs L a ccd cl outer) (call (.ref f) args) Q E s := C _ _ _ _ _ _ _ _ _ _ _ _ _ _ _ _ _ _ B F X N hs T hk hd hu ret
theorem Kids.at {R : Addr → Nat → Nat → Nat → Nat → Prop} : ∀ {vs : List Value} {cs : List Nat} {i : Nat} {v : Value}, Kids R vs cs → vs[i]? = some v → ∃ a j p q c, v = .ref a ∧ R a j p q c ∧ cs[i]? = some c
  | [], [], _, _, _, h => by simp at h
  | _ :: _, c :: _, 0, v, ⟨⟨a, j, p, q, e, r⟩, _⟩, h => ⟨a, j, p, q, c, by simp at h; rw [← h, e], r, rfl⟩
  | _ :: _, _ :: _, i + 1, v, ⟨_, k⟩, h => by
    obtain ⟨a, j, p, q, c, e, r, hc⟩ := Kids.at (i := i) (v := v) k (by simpa using h)
    exact ⟨a, j, p, q, c, e, r, by simpa using hc⟩
  | [], _ :: _, _, _, k, _ => k.elim
  | _ :: _, [], _, _, k, _ => k.elim
theorem Kids.len {R : Addr → Nat → Nat → Nat → Nat → Prop} : ∀ {vs : List Value} {cs : List Nat}, Kids R vs cs → vs.length = cs.length
  | [], [], _ => rfl
  | _ :: _, _ :: _, ⟨_, k⟩ => by rw [List.length_cons, List.length_cons, Kids.len k]
  | [], _ :: _, k => k.elim
  | _ :: _, [], k => k.elim
theorem sum_cast : ∀ l : List Nat, (l.map fun c => ((c : Nat) : Int)).sum = ((l.sum : Nat) : Int)
  | [] => rfl
  | a :: l => by rw [List.map_cons, List.sum_cons, List.sum_cons, sum_cast l]; omega
theorem take_snoc {cs : List Nat} {i c : Nat} (h : cs[i]? = some c) : cs.take (i + 1) = cs.take i ++ [c] := by rw [List.take_succ, h]; rfl
theorem News.tail1 {h₀ h : Heap} {L : Addr} {z : Addr × Obj} {led : List (Addr × Obj)} (N : News h₀ L h (z :: led)) : News h₀ L h led := News.sub N fun p hp => .tail _ hp
local macro_rules | `(tactic| walk_at "call ref") => `(tactic| (k_here; k_dflt (refine call_stop ?_)))
set_option hygiene false in
theorem law_nodes {w : World} {p : Program} {loose : List Str} {mean : ExcName → Option Value} {mg mb : Str → Option Value} {Γ : List Ex} {txt : Str} {B0 : Nat} {ds : List DO} {imm : List (Addr × Obj)} (I : Idle Γ B0 ds imm) : ∀ (h a0 i p0 q c : Nat), NodeOk Γ txt imm h a0 i p0 q c → ∀ tn : Tok,
    IntCallL w p loose mean mg mb (4 * h + 10) (40 * h + 100) 557 [.ref a0, .str (Str.ofString "right") tn] (ds.map DO.cell ++ imm) (fun r => ∃ t, r = .int ((c : Nat) : Int) t) := by
  intro h
  induction h with
  | zero => intro a0 i p0 q c hn; exact hn.elim
  | succ h IH =>
  intro a0 i p0 q c hn tn
  obtain ⟨e, d, ch, vs, nl, cs0, t1, t2, t3, he, hm1, hm2, hm3, hvl, hkids, rfl⟩ := hn
  obtain ⟨x, hx, hxd, xok, xold, xlen⟩ := I.dok i e he
  have eok := I.exs i e he
  obtain ⟨C0, j0, SA⟩ := self_of w eok.2.1
  intro led dp un gd cn cs a ccd cl outer A₀ base h₀ L m s Q E B F X N hsub T hk hdp hun ret
  have hn1 : (a0, nodeObj e.a d ch txt p0 q t1 t2 t3) ∈ led := hsub _ (List.mem_append_right _ hm1)
  have hn2 : (d, dictOf [] 0) ∈ led := hsub _ (List.mem_append_right _ hm2)
  have hn3 : (ch, listObj vs nl) ∈ led := hsub _ (List.mem_append_right _ hm3)
  have hea : (e.a, e.o) ∈ led := hsub _ (List.mem_append_right _ eok.1)
  have hxa : (x.d, x.o) ∈ led := hsub _ (List.mem_append_left _ (List.mem_map_of_mem (List.mem_of_getElem? hx)))
  refine wpAny_call ?_
  k_dflt (refine' code_defC ?k1 ?k2 ?k3 ?k4 ?k5 ?kA ?kF ?kK ?k6 ?k7 ?k8 ?k9 ?kB ?kD ?_ ?c2 ?c3 ?c4; (case kA => exact rfl); (case kF => exact rfl); (case kK => first | assumption | exact rfl); (case k1 => k_asm); (case k2 => k_asm); (case k3 => k_asm); (case k4 => k_asm); (case k5 => k_asm); (case k6 => k_is); (case k7 => k_is); (case k8 => ktr_room); (case k9 => first | exact BindsTo.of_eq rfl | exact binds_K (by k_in) rfl (by k_is) rfl rfl rfl); (case kB => exact rfl); (case kD => decide +kernel); (case c2 => exact rfl); (case c3 => exact rfl); (case c4 => exact rfl); k_whole; intro g' L' h' tk' cells' FG' F' N' Y' B' X' T' l1; (try k_lt l1); k_cells Y'; (try simp only [List.cons_append, List.nil_append] at N'); (try dsimp only); (try k_fold))
  k_steps
  rename Fr _ _ _ _ => F2
  rename News _ _ _ _ => N2
  have X2 : (Mine.hd.heap_39 w.params).In g' := by assumption
  refine get_prop' F2 X2 (C := 212) (ox := nodeObj e.a d ch txt p0 q t1 t2 t3) (od := dictOf [] 0) ⟨(N2 _ (.tail _ hn1)).1, rfl, rfl, (N2 _ (.tail _ hn2)).1⟩ (by k_is) (by k_is) (by k_is) (by k_is) (by k_is) (by k_is) ?_
  k_dflt (refine' code_defG ?k1 ?k2 ?k3 ?k4 ?k5 ?kA ?kF ?kK ?k6 ?k7 ?k8 ?k9 ?kB ?_ ?c2 ?c3 ?c4 ?c5; (case kA => exact rfl); (case kF => exact rfl); (case kK => first | assumption | exact rfl); (case k1 => k_asm); (case k2 => k_asm); (case k3 => k_asm); (case k4 => k_asm); (case k5 => k_asm); (case k6 => k_is); (case k7 => k_is); (case k8 => ktr_room); (case k9 => first | exact BindsTo.of_eq rfl | exact binds_K (by k_in) rfl (by k_is) rfl rfl rfl); (case c5 => decide); (case kB => exact locs rfl); (case c2 => exact rfl); (case c3 => exact rfl); (case c4 => exact rfl); k_whole; intro g' L' h' FG' F' N' B' X' T' G'; (try dsimp only); (try k_fold))
  k_steps
  rename Fr _ _ _ _ => F3
  rename News _ _ _ _ => N3
  refine self_name F3 (by assumption) N3 SA (.tail _ hea) (.tail _ hxa) hxd xok fun t5 => ?_
  dsimp only
  k_steps
  all_goals refine listComp_go ?_
  all_goals rename Fr _ _ _ _ => F4
  all_goals rename News _ _ _ _ => N4
  all_goals refine ListComp_I F4 (by rfl) (by decide) (by rfl) (by decide) (by rfl) ?_
  all_goals refine ld_any F4 (by rfl) ?_
  all_goals refine pyIter_inst F4 X2 (C := 212) (f := 165) (ox := nodeObj e.a d ch txt p0 q t1 t2 t3) (od := some (dictOf [] 0)) ⟨(N4 _ (.tail _ hn1)).1, rfl, rfl, (N4 _ (.tail _ hn2)).1⟩ (by k_is) (by k_is) ?_
  all_goals refine wpAny_call ?_
  all_goals k_dflt (refine' code_defG ?k1 ?k2 ?k3 ?k4 ?k5 ?kA ?kF ?kK ?k6 ?k7 ?k8 ?k9 ?kB ?_ ?c2 ?c3 ?c4 ?c5; (case kA => exact rfl); (case kF => exact rfl); (case kK => first | assumption | exact rfl); (case k1 => k_asm); (case k2 => k_asm); (case k3 => k_asm); (case k4 => k_asm); (case k5 => k_asm); (case k6 => k_is); (case k7 => k_is); (case k8 => ktr_room); (case k9 => first | exact BindsTo.of_eq rfl | exact binds_K (by k_in) rfl (by k_is) rfl rfl rfl); (case c5 => decide); (case kB => exact locs rfl); (case c2 => exact rfl); (case c3 => exact rfl); (case c4 => exact rfl); k_whole; intro g' L' h' FG' F' N' B' X' T' G'; (try dsimp only); (try k_fold))
  all_goals k_steps
  all_goals rename Fr _ _ _ _ => F5
  all_goals rename News _ _ _ _ => N5
  all_goals refine iter_l F5 N5 (.tail _ hn3) fun It h6 F6 N6 l6 => ?_
  all_goals clear N5 F5
  all_goals k_steps
  all_goals rename Fr _ _ _ _ => F7
  all_goals rename News _ _ _ _ => N7
  all_goals refine ⟨It, ch, 0, rfl, ⟨_, (N7 _ (.head _)).1, rfl, rfl⟩, It, ch, vs.toArray, _, rfl, rfl, F7, News.tail1 N7, ⟨_, (N7 _ (.head _)).1, rfl, rfl⟩, ⟨_, (N7 _ (.tail _ (.tail _ hn3))).1, rfl, _, rfl⟩, .inr ⟨_, .tail _ hn3, rfl, _, rfl⟩, by rw [List.size_toArray]; exact Nat.le_trans hvl (by decide),
      Nat.ne_of_lt (l6 _ (.tail _ hn3)), (N7 _ (.head _)).2.1.symm, (N7 _ (.head _)).2.2, fun p hp => Nat.ne_of_lt (l6 p hp), ?_⟩
  · refine comp_inv (n := vs.toArray.size) (fun i ys news' => news' = _ ∧ ∃ zs : List Int, IntsAre ys zs ∧ zs = (cs0.take i).map fun c => ((c : Nat) : Int)) ?_ ?_ _ 0 [] _ (Nat.zero_add _) ⟨rfl, [], .nil, rfl⟩
    · rintro i ys _ v I0 oI C0' oC D m2 h8 tk8 E' hi ⟨rfl, zs, hz, hzs⟩ hP hC hx8 F8 N8 off8 ne8
      obtain ⟨a1, i1, p1, q1, c1, rfl, hk1, hc1⟩ := Kids.at hkids (by simpa using hP)
      k_steps
      refine call_go ?_
      refine IntCallL.use (by assumption) F8 (by assumption) N8 (fun z hz => .tail _ (.tail _ (.tail _ (.tail _ (hsub z hz))))) (by assumption) rfl (IH a1 i1 p1 q1 c1 hk1 _) ?dd ?uu ?_
      case dd => exact Nat.lt_of_le_of_lt (show dp + 1 + (4 * h + 10) ≤ dp + (4 * (h + 1) + 10) by omega) hdp
      case uu => exact Nat.lt_of_le_of_lt (show un + 3 + (40 * h + 100) ≤ un + (40 * (h + 1) + 100) by omega) hun
      rintro r h9 tk9 F9 N9 ⟨t9, rfl⟩
      exact ⟨h9, tk9, _, rfl, F9, N9, off8, .inr ⟨_, .tail _ hn3, rfl, _, rfl⟩, rfl, zs ++ [((c1 : Nat) : Int)], IntsAre.append hz (.cons _ _ .nil), by rw [take_snoc hc1, hzs, List.map_append]; rfl⟩
    · rintro ys _ ⟨rfl, zs, hz, hzs⟩ D h9 tk9 F9 N9 off9
      have hz2 : zs.sum = ((cs0.sum : Nat) : Int) := by rw [hzs, List.take_of_length_le (by rw [List.size_toArray, Kids.len hkids]; exact Nat.le_refl _), sum_cast]
      k_steps
      rename Fr h₀ L _ _ => F10
      rename News h₀ L _ _ => N10
      refine ret _ _ _ F10 (News.sub N10 fun z hz => .tail _ (.tail _ hz)) ⟨_, congrArg (fun z => Value.int z _) ?_⟩
      rename (e.nm == _) = true => hnm
      rw [hz2, show e.own = 1 from if_pos (eq_of_beq hnm)]; omega
  · refine comp_inv (n := vs.toArray.size) (fun i ys news' => news' = _ ∧ ∃ zs : List Int, IntsAre ys zs ∧ zs = (cs0.take i).map fun c => ((c : Nat) : Int)) ?_ ?_ _ 0 [] _ (Nat.zero_add _) ⟨rfl, [], .nil, rfl⟩
    · rintro i ys _ v I0 oI C0' oC D m2 h8 tk8 E' hi ⟨rfl, zs, hz, hzs⟩ hP hC hx8 F8 N8 off8 ne8
      obtain ⟨a1, i1, p1, q1, c1, rfl, hk1, hc1⟩ := Kids.at hkids (by simpa using hP)
      k_steps
      refine call_go ?_
      refine IntCallL.use (by assumption) F8 (by assumption) N8 (fun z hz => .tail _ (.tail _ (.tail _ (.tail _ (hsub z hz))))) (by assumption) rfl (IH a1 i1 p1 q1 c1 hk1 _) ?dd ?uu ?_
      case dd => exact Nat.lt_of_le_of_lt (show dp + 1 + (4 * h + 10) ≤ dp + (4 * (h + 1) + 10) by omega) hdp
      case uu => exact Nat.lt_of_le_of_lt (show un + 3 + (40 * h + 100) ≤ un + (40 * (h + 1) + 100) by omega) hun
      rintro r h9 tk9 F9 N9 ⟨t9, rfl⟩
      exact ⟨h9, tk9, _, rfl, F9, N9, off8, .inr ⟨_, .tail _ hn3, rfl, _, rfl⟩, rfl, zs ++ [((c1 : Nat) : Int)], IntsAre.append hz (.cons _ _ .nil), by rw [take_snoc hc1, hzs, List.map_append]; rfl⟩
    · rintro ys _ ⟨rfl, zs, hz, hzs⟩ D h9 tk9 F9 N9 off9
      have hz2 : zs.sum = ((cs0.sum : Nat) : Int) := by rw [hzs, List.take_of_length_le (by rw [List.size_toArray, Kids.len hkids]; exact Nat.le_refl _), sum_cast]
      k_steps
      rename Fr h₀ L _ _ => F10
      rename News h₀ L _ _ => N10
      refine ret _ _ _ F10 (News.sub N10 fun z hz => .tail _ (.tail _ hz)) ⟨_, congrArg (fun z => Value.int z _) ?_⟩
      rename (e.nm == _) = false => hnm
      rw [hz2, show e.own = 0 from if_neg (fun h => by rw [h] at hnm; exact absurd hnm (by simp))]; omega
end Mine
end
section
open PySem PySem.W PyProof.Rows PySem.Spec PySem.Calls PyProof.V
namespace Mine
section
variable {prog : Program} {w : World} {A : Around} {E : Value → Shared → Prop} {s : Shared} {h₀ : Heap} {L : Addr} {m : Str → Option Value} {env : Env}
theorem fr_two' {h h' : Heap} {e it : Addr} (F : Fr h₀ L h m) (hk : ∀ b o, b ∉ [e, it] → h.get? b = some o → h'.get? b = some o) (h1 : L ≠ e) (h2 : L ≠ it) (e0 : h₀.get? e = none) (i0 : h₀.get? it = none) : Fr h₀ L h' m :=
  ⟨F.ns.at' fun o q => hk L o (by simp [h1, h2]) q, fun b o q => hk b o (fun hm => by
    rcases List.mem_cons.mp hm with rfl | hm
    · rw [e0] at q; cases q
    · rw [List.mem_singleton.mp hm, i0] at q; cases q) (F.keep b o q), F.above⟩
theorem news_two {h h' : Heap} {e it : Addr} {news : List (Addr × Obj)} (N : News h₀ L h news) (hk : ∀ b o, b ∉ [e, it] → h.get? b = some o → h'.get? b = some o) (off : ∀ p ∈ news, p.1 ≠ e ∧ p.1 ≠ it) : News h₀ L h' news :=
  fun p hp => ⟨hk _ _ (by simp [off p hp]) (N p hp).1, (N p hp).2⟩
/-- a comprehension over enumerate(..) -/
theorem block_E {elt iter : Expr} {x x₂ : Str} {px px₂ tp : Pos} {tk} {scope : Scope} {cl : List (Str × Addr)} {pos : Pos} {s₂ : Shared} {e it : Addr} {n : Nat} {Pt : Nat → Array Value → Prop} {St : Nat → Heap → Prop} {Mid : Nat → Addr → Heap → Prop} {news : List (Addr × Obj)}
    {J : Nat → List Value → Prop} {RR : Value → Addr → Result → Shared → Prop}
    (W : WalksT prog w A e [e, it] [e, it] n Pt St Mid) (hsz : n ≤ sizeLine) (hIo : ∀ i h, St i h → (∃ o, h.get? e = some o) ∧ ∃ o, h.get? it = some o) (hP2 : ∀ i vals, Pt i vals → ∃ v₁ v₂, vals = #[v₁, v₂])
    (hcell : ∀ y ∈ scope.names, y.2 ≠ .cell) (hkind : scope.kind = .function) (hx : scope.names.lookup x = some .local) (hx₂ : scope.names.lookup x₂ = some .local) (hxx : x ≠ x₂) (hh : A.handled = none) (hst : St 0 s₂.heap)
    (F : Fr h₀ L s₂.heap m) (N : News h₀ L s₂.heap news) (hLe : L ≠ e) (hLi : L ≠ it) (he₀ : h₀.get? e = none) (hi₀ : h₀.get? it = none) (off : ∀ p ∈ news, p.1 ≠ e ∧ p.1 ≠ it) (h0 : J 0 [])
    (turn : ∀ i ys v₁ v₂ C oC D oe oi m₂ h tk (E' : Value → Shared → Prop), i < n → J i ys → Pt i #[v₁, v₂] → LCg.NsObj oC m₂ → m₂ x = some v₁ → m₂ x₂ = some v₂ → Fr h₀ L h m → News h₀ L h ((e, oe) :: (it, oi) :: (C, oC) :: (D, LCg.lst ys) :: news) →
      wpAny (model prog w) A (eval elt (compEnvC scope cl C env)) (fun y s₃ => ∃ h' tk', s₃ = { s₂ with heap := h', toks := tk' } ∧ Fr h₀ L h' m ∧ News h₀ L h' ((e, oe) :: (it, oi) :: (C, oC) :: (D, LCg.lst ys) :: news) ∧ J (i + 1) (ys ++ [y])) E' { s₂ with heap := h, toks := tk })
    (hRR : ∀ D C h tk m' ys, Fr h₀ L h m → News h₀ L h ((D, LCg.lst ys) :: news) → h.Ns C m' → h₀.get? C = none → h₀.get? D = none → C ≠ L → D ≠ L → C ≠ D → (∀ p ∈ news, p.1 ≠ C) → J n ys → RR (.ref D) C (.ok .next) { s₂ with heap := h, toks := tk }) :
    wpAny (model prog w) A (newList []) (fun acc s₃ => wpAny (model prog w) A (newFunctionEnv scope env.globals cl [] env.qual none .none (some env)) (fun cenv s₄ =>
      codeAny (model prog w) A (.compStart (.ListComp elt [⟨.Tuple [.Name x px, .Name x₂ px₂] tk tp, iter, [], 0⟩] scope pos) 0 (.ref e) acc { cenv with scope := relabel scope env }) (RR acc cenv.locals) s₄) E s₃) E s₂ := by
  refine wpAny_newObj_type (wpAny_newFunctionEnv hcell (by intro y hy; simp at hy) (fun h₁ hns₁ hsb₁ => ?_) hkind)
  dsimp only at hns₁ hsb₁ ⊢
  generalize hH2 : s₂.heap.push { cls := .type "list", dict := none, data := .seq ([] : List Value).toArray } = H2 at hns₁ hsb₁ ⊢
  have hC : H2.objs.size = s₂.heap.objs.size + 1 := by rw [← hH2, Heap.size_push]
  have hDC : s₂.heap.objs.size ≠ H2.objs.size := by rw [hC]; exact Nat.ne_of_lt (Nat.lt_succ_self _)
  have below : ∀ b, b < s₂.heap.objs.size → b ≠ H2.objs.size ∧ b ≠ s₂.heap.objs.size := fun b hb => ⟨by rw [hC]; exact Nat.ne_of_lt (Nat.lt_succ_of_lt hb), Nat.ne_of_lt hb⟩
  obtain ⟨⟨oe0, hoe0⟩, ⟨oi0, hoi0⟩⟩ := hIo _ _ hst
  have helt := Heap.lt_size hoe0
  have hilt := Heap.lt_size hoi0
  have old : ∀ b o, s₂.heap.get? b = some o → h₁.get? b = some o := fun b o q => hsb₁.extBut b o (below b (Heap.lt_size q)).1 (Heap.get?_push_of_some _ (hH2 ▸ Heap.get?_push_of_some _ q))
  have hacc : h₁.get? s₂.heap.objs.size = some (LCg.lst []) := hsb₁.extBut _ _ hDC (Heap.get?_push_of_some _ (hH2 ▸ Heap.get?_push_size _ rfl))
  have hst₁ : St 0 h₁ := W.frame _ _ _ hst fun b _ o q => old b o q
  have fresh₀ : ∀ a, s₂.heap.objs.size ≤ a → h₀.get? a = none := fun a ha => by
    cases q : h₀.get? a with
    | none => rfl
    | some o' => exact absurd (Heap.lt_size (F.keep a o' q)) (Nat.not_lt.mpr ha)
  have hD₀ : h₀.get? s₂.heap.objs.size = none := fresh₀ _ (Nat.le_refl _)
  have hC₀ : h₀.get? H2.objs.size = none := fresh₀ _ (by rw [hC]; exact Nat.le_succ _)
  have hLlt : L < s₂.heap.objs.size := F.ns.lt
  have hDL : s₂.heap.objs.size ≠ L := Ne.symm (below L hLlt).2
  have hCL : H2.objs.size ≠ L := Ne.symm (below L hLlt).1
  have heC := (below e helt).1
  have heD := (below e helt).2
  have hiC := (below it hilt).1
  have hiD := (below it hilt).2
  have offC : ∀ p ∈ news, p.1 ≠ H2.objs.size ∧ p.1 ≠ s₂.heap.objs.size := fun p hp => below _ (Heap.lt_size (N p hp).1)
  have offD : ∀ (ys : List Value), ∀ p ∈ (s₂.heap.objs.size, LCg.lst ys) :: news, p.1 ≠ e ∧ p.1 ≠ it := fun ys p hp => by
    rcases List.mem_cons.mp hp with rfl | hp
    · exact ⟨heD.symm, hiD.symm⟩
    · exact off p hp
  have loop : ∀ s₃ : Shared, s₃ = { s₂ with heap := h₁, toks := s₂.toks + ([] : List (Str × Value)).length } →
      codeAny (model prog w) A (.compLoop (.ListComp elt [⟨.Tuple [.Name x px, .Name x₂ px₂] tk tp, iter, [], 0⟩] scope pos) 0 (.ref e) (.ref s₂.heap.objs.size) (compEnvC scope cl H2.objs.size env))
        (RR (.ref s₂.heap.objs.size) H2.objs.size) s₃ := by
    rintro s₃ rfl
    refine LCp.codeAny_compLoop_pair
      (fun k s' => ∃ h' tk i ys m', s' = { s₂ with heap := h', toks := tk } ∧ i ≤ n ∧ k = n + 1 - i ∧ ys.length = i ∧ St i h' ∧ Fr h₀ L h' m ∧ h'.Ns H2.objs.size m' ∧ News h₀ L h' ((s₂.heap.objs.size, LCg.lst ys) :: news) ∧ J i ys) ?_ (n + 1)
      ⟨h₁, _, 0, [], _, rfl, Nat.zero_le _, rfl, rfl, hst₁, F.keeps old, hns₁, fun p hp => ?_, h0⟩
    · rintro k s' ⟨h', tk, i, ys, m', rfl, hi, rfl, hyl, hst', F', hn', N', hJ⟩
      by_cases hlt : i < n
      · refine W.item i _ _ _ hlt hst' fun T vals h₂ tk₂ hPv hTf hT hM hk₂ => ?_
        obtain ⟨v₁, v₂, rfl⟩ := hP2 _ _ hPv
        have hTw := W.apart _ _ _ hM
        refine W.go _ _ _ i T _ _ _ hM fun h₄ hst₄ hk₄ => ?_
        have ht : IsTup h₄ T #[v₁, v₂] := by obtain ⟨ot, q, c, nt, dd⟩ := hT; exact ⟨ot, hk₄ _ _ hTw q, c, nt, dd⟩
        have k24 : ∀ b o, b ∉ [e, it] → h'.get? b = some o → h₄.get? b = some o := fun b o hb q => hk₄ b o hb (hk₂ b o hb q)
        have F₄ := fr_two' F' k24 hLe hLi he₀ hi₀
        have N₄ := news_two N' k24 (offD ys)
        refine assign_Tuple_tuple hh ht rfl rfl fun h₅ he => ?_
        have he' : ∀ b o, h₄.get? b = some o → h₅.get? b = some o := fun b o q => he b o (Nat.ne_of_lt (Heap.lt_size q)) q
        refine assignInOrder_cons (wpAny_assign_Name (wpAny_storeName_local (lookup_relabel_local hx) ((hn'.at' fun o q => k24 _ o (by simp [heC.symm, hiC.symm]) q).at' fun o q => he' _ o q) (fun h₆ hn₆ hs₆ => ?_) (by simp [compEnvC, relabel, hkind])))
        refine assignInOrder_cons (wpAny_assign_Name (wpAny_storeName_local (lookup_relabel_local hx₂) hn₆ (fun h₃ hn₃ hs₃ => ?_) (by simp [compEnvC, relabel, hkind])))
        refine assignInOrder_nil ?_
        have old3 : ∀ b o, b ≠ H2.objs.size → h₄.get? b = some o → h₃.get? b = some o := fun b o hb q => hs₃.extBut b o hb (hs₆.extBut b o hb (he' b o q))
        have hst₃ : St (i + 1) h₃ := W.frame _ _ _ hst₄ fun b hb o q => old3 b o (by
          rcases List.mem_cons.mp hb with rfl | hb
          · exact heC
          · rw [List.mem_singleton.mp hb]; exact hiC) q
        obtain ⟨⟨oe, heE⟩, ⟨oi, heI⟩⟩ := hIo _ _ hst₃
        obtain ⟨oC, heC', hoC⟩ := LCg.ns_obj hn₃
        have F₃ : Fr h₀ L h₃ m := ((F₄.keeps he').change hs₆ hCL hC₀).change hs₃ hCL hC₀
        have N₃ : News h₀ L h₃ ((e, oe) :: (it, oi) :: (H2.objs.size, oC) :: (s₂.heap.objs.size, LCg.lst ys) :: news) := fun p hp => by
          rcases List.mem_cons.mp hp with rfl | hp
          · exact ⟨heE, Ne.symm hLe, he₀⟩
          rcases List.mem_cons.mp hp with rfl | hp
          · exact ⟨heI, Ne.symm hLi, hi₀⟩
          rcases List.mem_cons.mp hp with rfl | hp
          · exact ⟨heC', hCL, hC₀⟩
          · have z := N₄ p hp
            refine ⟨old3 _ _ ?_ z.1, z.2⟩
            rcases List.mem_cons.mp hp with rfl | hp
            · exact hDC
            · exact (offC p hp).1
        refine wpAny_mono (turn i ys v₁ v₂ H2.objs.size oC s₂.heap.objs.size oe oi _ h₃ _ _ hlt hJ hPv hoC (by simp [hxx]) (by simp) F₃ N₃) (fun y s₄ h₄' => ?_) fun _ _ e => e
        obtain ⟨h₇, tk₇, rfl, F₇, N₇, hJ₇⟩ := h₄'
        have zE := (N₇ _ (.head _)).1
        have zI := (N₇ _ (.tail _ (.head _))).1
        have zC := (N₇ _ (.tail _ (.tail _ (.head _)))).1
        have zD := (N₇ _ (.tail _ (.tail _ (.tail _ (.head _))))).1
        have hst₇ : St (i + 1) h₇ := W.frame _ _ _ hst₃ fun b hb o q => by
          rcases List.mem_cons.mp hb with rfl | hb
          · rw [heE] at q; cases q; exact zE
          · rw [List.mem_singleton.mp hb] at q ⊢; rw [heI] at q; cases q; exact zI
        refine append_at (hsz := by show ys.toArray.size ≤ sizeLine; rw [List.size_toArray, hyl]; exact Nat.le_trans hi hsz) zD fun h₈ hs₈ hD₈ => ?_
        refine ⟨n + 1 - (i + 1), by omega, h₈, tk₇, i + 1, ys ++ [y], _, rfl, hlt, rfl, by rw [List.length_append, List.length_singleton, hyl], W.frame _ _ _ hst₇ fun b hb o q => hs₈.extBut b o (by
            rcases List.mem_cons.mp hb with rfl | hb
            · exact heD
            · rw [List.mem_singleton.mp hb]; exact hiD) q, F₇.change hs₈ hDL hD₀,
          (hoC.ns zC).sameBut hs₈ (Ne.symm hDC), fun p hp => ?_, hJ₇⟩
        rcases List.mem_cons.mp hp with rfl | hp
        · exact ⟨hD₈.trans (congrArg some (LCg.lst_snoc ys y)), hDL, hD₀⟩
        · have z := N₇ p (.tail _ (.tail _ (.tail _ (.tail _ hp))))
          exact ⟨hs₈.extBut _ _ (offC p hp).2 z.1, z.2⟩
      · obtain rfl : i = n := Nat.le_antisymm hi (Nat.not_lt.mp hlt)
        refine W.done _ _ _ hst' fun h₂ tk₂ hk₂ => ?_
        exact hRR _ _ h₂ tk₂ _ ys (fr_two' F' hk₂ hLe hLi he₀ hi₀) (news_two N' hk₂ (offD ys)) (hn'.at' fun o q => hk₂ _ o (by simp [heC.symm, hiC.symm]) q) hC₀ hD₀ hCL hDL (Ne.symm hDC) (fun p hp => (offC p hp).1) hJ
    · rcases List.mem_cons.mp hp with rfl | hp
      · exact ⟨hacc, hDL, hD₀⟩
      · exact ⟨old _ _ (N p hp).1, (N p hp).2⟩
  exact codeAny_compStart_list (loop _ rfl) (W.self 0 _ _ _ hst₁ (loop _ rfl))
/-- what enumerate of a text gives -/
def EnumBack (h₀ : Heap) (L : Addr) (m : Str → Option Value) (news : List (Addr × Obj)) (txt : Str) (s : Shared) (xv : Value) (s₁ : Shared) : Prop :=
  ∃ e it t, xv = .ref e ∧ IsEnum s₁.heap e it 0 .none ∧ s₁.heap.IsStrIter it "str_ascii_iterator" txt t 0 ∧ Fr h₀ L s₁.heap m ∧ News h₀ L s₁.heap news ∧ L ≠ e ∧ L ≠ it ∧ h₀.get? e = none ∧ h₀.get? it = none ∧ e ≠ it ∧ (∀ p ∈ news, p.1 ≠ e ∧ p.1 ≠ it) ∧ ∃ h tk, s₁ = { s with heap := h, toks := tk }
theorem enum_back {news : List (Addr × Obj)} {txt : Str} {t : Tok} {s₀ : Shared} (F : Fr h₀ L s.heap m) (N : News h₀ L s.heap news) (ha : txt.cps.all (· < 128) = true) (hs : ∃ h tk, s = { s₀ with heap := h, toks := tk }) : wpAny (model prog w) A (call (.type "enumerate") [.str txt t]) (EnumBack h₀ L m news txt s₀) E s := by
  have hLs : L < s.heap.objs.size := F.ns.lt
  have hab : h₀.objs.size ≤ L := F.above
  refine call_enumerate_str fun h' he hit hsz hk => ?_
  have hit' : h'.IsStrIter s.heap.objs.size "str_ascii_iterator" txt t 0 := by simpa [strIterType, ha] using hit
  obtain ⟨g, tk, rfl⟩ := hs
  refine ⟨_, _, t, rfl, he, hit', F.keeps hk, N.grown hk, Nat.ne_of_lt (Nat.lt_succ_of_lt hLs), Nat.ne_of_lt hLs, Heap.get?_none_of_le (Nat.le_trans hab (Nat.le_of_lt (Nat.lt_succ_of_lt hLs))), Heap.get?_none_of_le (Nat.le_trans hab (Nat.le_of_lt hLs)), Nat.succ_ne_self _, fun p hp => ?_, h', tk, rfl⟩
  have := Heap.lt_size (N p hp).1
  exact ⟨Nat.ne_of_lt (Nat.lt_succ_of_lt this), Nat.ne_of_lt this⟩
theorem ListComp_E {elt iter : Expr} {x x₂ : Str} {px px₂ tp : Pos} {tk} {scope : Scope} {cl : List (Str × Addr)} {pos : Pos} {news : List (Addr × Obj)} {Q : Value → Shared → Prop} (txt : Str) (J : Nat → List Value → Prop) (_F₀ : Fr h₀ L s.heap m) (_N₀ : News h₀ L s.heap news)
    (hclos : closureFor scope env = pure cl) (hcell : ∀ y ∈ scope.names, y.2 ≠ .cell) (hkind : scope.kind = .function)
    (hnames : ∀ y ∈ scope.names, y.2 = .local → scope.names.lookup y.1 = some .local) (hx : scope.names.lookup x = some .local) (hx₂ : scope.names.lookup x₂ = some .local) (hxx : x ≠ x₂) (hh : A.handled = none) (hsz : txt.cps.size ≤ sizeLine) (h0 : J 0 [])
    (turn : ∀ i ys v₁ v₂ C oC D e it oe oi m₂ h tk (E' : Value → Shared → Prop), i < txt.cps.size → J i ys → (∃ t, v₁ = .int (i : Nat) t) → (∃ c t, txt.cps[i]? = some c ∧ v₂ = .str ⟨#[c]⟩ t) → LCg.NsObj oC m₂ → m₂ x = some v₁ → m₂ x₂ = some v₂ → Fr h₀ L h m → News h₀ L h ((e, oe) :: (it, oi) :: (C, oC) :: (D, LCg.lst ys) :: news) →
      wpAny (model prog w) A (eval elt (compEnvC scope cl C env)) (fun y s₃ => ∃ h' tk', s₃ = { s with heap := h', toks := tk' } ∧ Fr h₀ L h' m ∧ News h₀ L h' ((e, oe) :: (it, oi) :: (C, oC) :: (D, LCg.lst ys) :: news) ∧ J (i + 1) (ys ++ [y])) E' { s with heap := h, toks := tk })
    (done : ∀ D h tk ys, Fr h₀ L h m → News h₀ L h ((D, LCg.lst ys) :: news) → J txt.cps.size ys → Q (.ref D) { s with heap := h, toks := tk })
    (h : wpAny (model prog w) A (eval iter env) (EnumBack h₀ L m news txt s) E s)
    (hs : ∀ x, foldedSetIterable iter env x = pure x := by intro _; rfl) :
    wpAny (model prog w) A (eval (.ListComp elt [⟨.Tuple [.Name x px, .Name x₂ px₂] tk tp, iter, [], 0⟩] scope pos) env) Q E s := by
  rw [eval_ListComp]
  refine wpAny_comprehension_free (use := none) rfl hs hclos hkind hnames (wpAny_mono h (fun xv s₁ h₁ => ?_) fun _ _ e => e)
  obtain ⟨e, it, t, rfl, he, hit, F, N, hLe, hLi, he0, hi0, hei, off, h1, tk1, rfl⟩ := h₁
  refine wpAny_pyIter_enum he ?_
  have hef : e ∉ [it] := fun hm => hei (List.mem_singleton.mp hm)
  refine block_E (J := J) (WalksT.enumerateD (Draws.strAscii (A := A.in1) hh it txt t) e hei hef (.head _)) hsz (fun i h st => ⟨by obtain ⟨⟨_, q⟩, _⟩ := st; exact ⟨_, q⟩, (Draws.strAscii (prog := prog) (w := w) (A := A.in1) hh it txt t).live _ _ st.2⟩) (fun i vals hp => by obtain ⟨t, x, _, rfl⟩ := hp; exact ⟨_, _, rfl⟩)
    hcell hkind hx hx₂ hxx hh ⟨⟨_, by simpa using he⟩, hit⟩ F N hLe hLi he0 hi0 off h0 (fun i ys v₁ v₂ C oC D oe oi m₂ h tk E' hi hJ hP hoC hm1 hm2 F' N' => ?_) ?_
  · obtain ⟨t', x', hPx, hv⟩ := hP
    have e1 : v₁ = .int (i : Nat) t' ∧ v₂ = x' := by simpa using hv
    obtain ⟨rfl, rfl⟩ := e1
    exact turn i ys _ _ C oC D e it oe oi m₂ h tk E' hi hJ ⟨_, rfl⟩ (by obtain ⟨c, u, a, b⟩ := hPx; exact ⟨c, u, a, b⟩) hoC hm1 hm2 F' N'
  · intro D C h tk m' ys F' N' hn hC₀ hD₀ hCL hDL hCD offC hJ
    refine ⟨m', hn, fun h'' hs'' => done D h'' tk ys (F'.change hs'' hCL hC₀) (fun p hp => ?_) hJ⟩
    refine ⟨hs''.extBut _ _ ?_ (N' p hp).1, (N' p hp).2⟩
    rcases List.mem_cons.mp hp with rfl | hp
    · exact Ne.symm hCD
    · exact offC p hp
end
end Mine
end
section
open PySem PySem.W PyProof.Rows PySem.Spec PySem.Calls PyProof.V
namespace Mine
def Okn (n : Nat) (t : Str) : Prop := t.length ≤ n ∧ ∀ c ∈ t.cps.toList, c = 97 ∨ c = 98 ∨ c = 99
theorem okn_le {n k : Nat} {t : Str} (h : Okn n t) (hk : n ≤ k) : Okn k t := ⟨Nat.le_trans h.1 hk, h.2⟩
theorem okn_empty (n : Nat) : Okn n Str.empty := ⟨Nat.zero_le _, fun c h => by simp [Str.empty] at h⟩
theorem okn_add {n k : Nat} {t u : Str} (h : Okn n t) (g : Okn k u) : Okn (n + k) (t ++ u) := by
  refine ⟨?_, fun c hc => ?_⟩
  · show (t.cps ++ u.cps).size ≤ _
    rw [Array.size_append]; exact Nat.add_le_add h.1 g.1
  · have : c ∈ (t.cps ++ u.cps).toList := hc
    rw [Array.toList_append] at this
    rcases List.mem_append.mp this with q | q
    · exact h.2 c q
    · exact g.2 c q
theorem okn_join {k : Nat} {us : List Str} (h : ∀ u ∈ us, Okn k u) : Okn (k * us.length) ((⟨#[]⟩ : Str).join us) := by
  induction us with
  | nil => rw [join_nil]; exact okn_empty _
  | cons u us ih =>
    rw [join_nil_cons, List.length_cons, Nat.mul_add, Nat.mul_one, Nat.add_comm]
    exact okn_add (h u (.head _)) (ih fun v hv => h v (.tail _ hv))
theorem glued_join (us : List Str) : Txt.join (Str.ofString "") us = (⟨#[]⟩ : Str).join us := StrLaws.glued_eq_join _ _
theorem okn_rep {x : Str} {n : Nat} (h : Okn 1 x) : ∀ (k : Nat) (a : Array Nat), Okn n ⟨a⟩ → Okn (n + k) ⟨List.foldl (fun x1 x2 => x1 ++ x2) a (List.replicate k x.cps)⟩ := by
  intro k
  induction k generalizing n with
  | zero => exact fun a ha => ha
  | succ k ih =>
    intro a ha
    have := ih (n := n + 1) (a ++ x.cps) (okn_add ha h)
    rw [show n + (k + 1) = n + 1 + k by omega]
    exact this
theorem okn_mul {x : Str} {n : Int} {k : Nat} (h : Okn 1 x) (hn : n ≤ k) (hk : 1 ≤ k) : Okn k (Txt.mul x n) := by
  unfold Txt.mul
  split
  · exact okn_empty _
  · split
    · exact okn_le h hk
    · have := okn_rep (n := 0) h n.toNat #[] (okn_empty _)
      refine okn_le this (by omega)
theorem mul_ok {x : Str} {n : Int} (h : Okn 1 x) (hn : n ≤ 5) (h0 : 0 ≤ n) : MulOk x n := mulOk_of 1 5 h.1 hn (by omega) (by omega) (by omega)
theorem sum_ok {us : List Str} {k : Nat} (h : ∀ u ∈ us, Okn k u) : (us.map fun x => x.length).sum ≤ k * us.length := by
  induction us with
  | nil => exact Nat.le_refl _
  | cons u us ih =>
    rw [List.map_cons, List.sum_cons, List.length_cons, Nat.mul_add, Nat.mul_one, Nat.add_comm]
    exact Nat.add_le_add (ih fun v hv => h v (.tail _ hv)) (h u (.head _)).1
/-- a plain sum: nothing but a count of made values changes -/
def PureTo (P : Value → Prop) (s : Shared) (v : Value) (s' : Shared) : Prop := P v ∧ ∃ tk, s' = { s with toks := tk }
def PureHere (M : Model) (A : Around) (E : Value → Shared → Prop) (s : Shared) (x : Sem Value) (Q : Value → Shared → Prop) : Prop := wpAny M A x Q E s
theorem pure_stop {M : Model} {A : Around} {E : Value → Shared → Prop} {s : Shared} {x : Sem Value} {Q : Value → Shared → Prop} (h : PureHere M A E s x Q) : wpAny M A x Q E s := h
theorem pure_go {M : Model} {A : Around} {E : Value → Shared → Prop} {s : Shared} {x : Sem Value} {Q : Value → Shared → Prop} (h : wpAny M A x Q E s) : PureHere M A E s x Q := h
theorem pure_cut (P : Value → Prop) {M : Model} {A : Around} {E : Value → Shared → Prop} {s : Shared} {x : Sem Value} {Q : Value → Shared → Prop}
    (h1 : wpAny M A x (PureTo P s) E s) (h2 : ∀ v tk, P v → Q v { s with toks := tk }) : PureHere M A E s x Q :=
  wpAny_mono h1 (fun v s' ⟨a, tk, b⟩ => by subst b; exact h2 v tk a) fun _ _ y => y
theorem strs_len {vs : List Value} {us : List Str} (h : StrsAre vs us) : us.length = vs.length := by
  induction h with
  | nil => rfl
  | cons y t _ ih => rw [List.length_cons, List.length_cons, ih]
theorem strs_snoc {vs : List Value} {us : List Str} (h : StrsAre vs us) (y : Str) (t : Tok) : StrsAre (vs ++ [.str y t]) (us ++ [y]) := by
  induction h with
  | nil => exact .cons y t .nil
  | cons z u _ ih => exact .cons z u ih
theorem okn_abc {i c : Nat} (h : (Str.ofString "abc").cps[i]? = some c) : Okn 1 ⟨#[c]⟩ := by
  refine ⟨Nat.le_refl _, fun x hx => ?_⟩
  have e : x = c := by simpa using hx
  subst e
  have hm : x ∈ (Str.ofString "abc").cps.toList := Array.mem_def.mp (Array.mem_of_getElem? h)
  have : (Str.ofString "abc").cps.toList = [97, 98, 99] := by decide +kernel
  rw [this] at hm
  simpa using hm
theorem join_src {h₀ h : Heap} {L D : Addr} {ys : List Value} {news : List (Addr × Obj)} (N : News h₀ L h ((D, LCg.lst ys) :: news)) : h.IsList D ys.toArray := by
  obtain ⟨a, _⟩ := N _ (.head _)
  exact ⟨_, a, rfl, _, rfl⟩
def SrcHere (P : Prop) : Prop := P
theorem src_stop {M : Model} {A : Around} {E : Value → Shared → Prop} {s : Shared} {x : Sem Value} {Q : Value → Shared → Prop} (h : wpAny M A x (fun v s' => SrcHere (Q v s')) E s) : wpAny M A x Q E s := h
theorem src_go {P : Prop} (h : P) : SrcHere P := h
theorem range8 {x : Int} (h0 : 0 ≤ x) (h : x < 8) : Builtin.Range.small 0 x 1 = true ∧ Builtin.Range.rangeSize 0 x 1 = (x.toNat : Nat) := by
  have e : ∃ n : Nat, n < 8 ∧ x = n := ⟨x.toNat, by omega, by omega⟩
  obtain ⟨n, hn, rfl⟩ := e
  have : ∀ n : Fin 8, Builtin.Range.small 0 ((n : Nat) : Int) 1 = true ∧ Builtin.Range.rangeSize 0 ((n : Nat) : Int) 1 = (((n : Nat) : Int).toNat : Nat) := by decide +kernel
  exact this ⟨n, hn⟩
theorem okn_dec {n : Nat} {t : Str} (h : (decide (t.length ≤ n) && t.cps.toList.all fun c => c == 97 || c == 98 || c == 99) = true) : Okn n t := by
  rw [Bool.and_eq_true, List.all_eq_true] at h
  refine ⟨by simpa using h.1, fun c hc => ?_⟩
  have := h.2 c hc
  simpa [or_assoc] using this
theorem okn_item {x : Int} (h0 : 0 ≤ x) (h : x < 3) : Okn 1 (Txt.item (Str.ofString "abc") x) := by
  have e : ∃ n : Nat, n < 3 ∧ x = n := ⟨x.toNat, by omega, by omega⟩
  obtain ⟨n, hn, rfl⟩ := e
  have : ∀ n : Fin 3, (decide ((Txt.item (Str.ofString "abc") ((n : Nat) : Int)).length ≤ 1) && (Txt.item (Str.ofString "abc") ((n : Nat) : Int)).cps.toList.all fun c => c == 97 || c == 98 || c == 99) = true := by decide +kernel
  exact okn_dec (this ⟨n, hn⟩)
theorem max_lo (x : Int) : 0 ≤ (if x > 0 then x else 0) := by split <;> omega
theorem max_hi {x : Int} (h : x ≤ 5) : (if x > 0 then x else 0) ≤ 5 := by split <;> omega
end Mine
end
section
open PySem PySem.W PyProof.Rows PySem.Spec PySem.Calls PyProof.V
namespace Mine
def cnt (k : Nat) (t : Str) (p : Nat) : Nat := ((t.cps.toList.drop p).takeWhile (· == k)).length
theorem cnt_le {k : Nat} {t : Str} {p : Nat} (h : p ≤ t.length) : p + cnt k t p ≤ t.length := by
  have h1 := (List.takeWhile_sublist (l := t.cps.toList.drop p) (· == k)).length_le
  rw [List.length_drop] at h1
  have h2 : p ≤ t.cps.toList.length := h
  have h3 : t.length = t.cps.toList.length := rfl
  unfold cnt
  omega
theorem cnt_at {k : Nat} {t : Str} {p : Nat} (h : t.cps.toList[p]? = some k) : cnt k t p = cnt k t (p + 1) + 1 := by
  obtain ⟨hp, e⟩ := List.getElem?_eq_some_iff.mp h
  unfold cnt
  rw [List.drop_eq_getElem_cons hp, e, List.takeWhile_cons_of_pos (by simp)]
  rfl
theorem cnt_no {k : Nat} {t : Str} {p : Nat} (h : t.cps.toList[p]? ≠ some k) : cnt k t p = 0 := by
  unfold cnt
  rcases Nat.lt_or_ge p t.cps.toList.length with hp | hp
  · rw [List.drop_eq_getElem_cons hp, List.takeWhile_cons_of_neg]
    · rfl
    · intro e
      exact h (by rw [List.getElem?_eq_getElem hp, eq_of_beq e])
  · rw [List.drop_eq_nil_of_le hp]; rfl
theorem cnt_pos {k : Nat} {t : Str} {p : Nat} : 1 ≤ cnt k t p ↔ t.cps.toList[p]? = some k := by
  constructor
  · intro h
    by_cases e : t.cps.toList[p]? = some k
    · exact e
    · rw [cnt_no e] at h; omega
  · intro h; rw [cnt_at h]; omega
theorem cnt_succ {k : Nat} {t : Str} {p : Nat} (h : 1 ≤ cnt k t p) : cnt k t p = cnt k t (p + 1) + 1 := cnt_at (cnt_pos.mp h)
theorem cnt_add {k : Nat} {t : Str} {p : Nat} : ∀ {j : Nat}, j ≤ cnt k t p → cnt k t (p + j) = cnt k t p - j
  | 0, _ => rfl
  | j + 1, h => by
    have ih := cnt_add (k := k) (t := t) (p := p) (j := j) (by omega)
    have := cnt_succ (k := k) (t := t) (p := p + j) (by omega)
    rw [show p + (j + 1) = p + j + 1 by omega]
    omega
theorem cnt_ne {k k' : Nat} {t : Str} {p : Nat} (hk : k ≠ k') (h : 1 ≤ cnt k t p) : cnt k' t p = 0 := cnt_no fun e => hk (Option.some.inj ((cnt_pos.mp h).symm.trans e))
theorem cnt_lt {k : Nat} {t : Str} {p : Nat} (h : 1 ≤ cnt k t p) : p < t.length := by
  obtain ⟨hp, _⟩ := List.getElem?_eq_some_iff.mp (cnt_pos.mp h)
  rw [Array.length_toList] at hp
  exact hp
theorem cnt_end {k : Nat} {t : Str} {p : Nat} (h : t.length ≤ p) : cnt k t p = 0 := cnt_no fun e => by
  obtain ⟨hp, _⟩ := List.getElem?_eq_some_iff.mp e
  rw [Array.length_toList] at hp
  exact absurd (Nat.lt_of_lt_of_le hp h) (Nat.lt_irrefl _)
theorem beq_arr {a b : Array Nat} : (a == b) = true ↔ a = b := beq_iff_eq
theorem starts_cnt {t : Str} {p k : Nat} {c : Str} (hc : c.cps = #[k]) : Txt.startswith3 t c (p : Int) = true ↔ 1 ≤ cnt k t p := by
  have hf : fromIndex t.length (p : Int) = p := by
    unfold fromIndex
    have : ¬ ((p : Nat) : Int) < 0 := by omega
    rw [if_neg this]; omega
  have hl : c.length = 1 := by show c.cps.size = 1; rw [hc]; rfl
  unfold Txt.startswith3 PySem.Builtin.Str.subAt
  rw [hf, hl, hc, cnt_pos, Bool.and_eq_true, decide_eq_true_iff, beq_arr]
  constructor
  · rintro ⟨h1, h2⟩
    have h3 : p < t.cps.size := h1
    have : (t.cps.extract p (p + 1))[0]? = some k := by rw [h2]; rfl
    rw [Array.getElem?_extract] at this
    simp at this
    simpa using this.2
  · intro h
    obtain ⟨h1, h2⟩ := List.getElem?_eq_some_iff.mp h
    rw [Array.length_toList] at h1
    refine ⟨h1, ?_⟩
    apply Array.ext
    · simp; omega
    · intro i hi hi'
      have : i = 0 := by simp at hi'; exact hi'
      subst this
      simp at h2 ⊢
      exact h2
theorem slice_cnt {t : Str} {e k : Nat} {c : Str} (hc : c.cps = #[k]) (he : e < t.length) : (Txt.slice t (some (e : Nat)) (some ((e : Nat) + 1)) == c) = true ↔ 1 ≤ cnt k t e := by
  have h : PySem.Builtin.Str.strSliceIndices (some ((e : Nat) : Int)) (some (((e : Nat) : Int) + 1)) 1 t.length = [e] := by
    unfold PySem.Builtin.Str.strSliceIndices PySem.sliceRange
    have a : ¬ ((e : Nat) : Int) < 0 := by omega
    have b : ¬ ((e : Nat) : Int) + 1 < 0 := by omega
    have d : max (0 : Int) (min (e : Int) (t.length : Int)) = e := by omega
    have f : max (0 : Int) (min ((e : Int) + 1) (t.length : Int)) = e + 1 := by omega
    simp only [if_neg a, if_neg b, show (1 : Int) > 0 by decide, if_true, d, f]
    rw [if_pos (by omega)]
    simp
  have hx : t.cps.toList[e]? = some (t.cps.toList[e]'(by rw [Array.length_toList]; exact he)) := List.getElem?_eq_getElem _
  have hx' : t.cps[e]? = t.cps.toList[e]? := by simp
  rw [beq_iff_eq, cnt_pos]
  unfold Txt.slice
  rw [h]
  have hcc : ∀ u : Str, u = c ↔ u.cps = #[k] := fun u => ⟨fun q => by rw [q, hc], fun q => by cases u; cases c; simp at q hc; rw [q, hc]⟩
  rw [hcc]
  split
  · rename_i h2
    have h3 : 1 = t.cps.size := by have : 1 = t.length := by simpa using h2
                                   exact this
    have h4 : e = 0 := by have : e < t.cps.size := he; omega
    subst h4
    constructor
    · intro q; rw [q]; rfl
    · intro q
      obtain ⟨q1, q2⟩ := List.getElem?_eq_some_iff.mp q
      apply Array.ext
      · exact h3.symm
      · intro i hi hi'
        have : i = 0 := by simp at hi'; exact hi'
        subst this
        simpa using q2
  · simp only [List.filterMap_cons, List.filterMap_nil]
    rw [hx', hx]
    simp
/-- plain data of the law -/
def litD (k : Nat) (t : Str) (p : Nat) : Option (Nat × Nat) := if 1 ≤ cnt k t p then some (p + 1, 0) else none
def ringD (x y own : Nat) (t : Str) (p : Nat) : Option (Nat × Nat) := if 1 ≤ cnt x t p ∧ cnt x t p ≤ cnt y t (p + cnt x t p) then some (p + 2 * cnt x t p, cnt x t p * own) else none
def optD (d : Option (Nat × Nat)) (len p : Nat) : Option (Nat × Nat) := if p < len then (match d with | none => some (p, 0) | some r => some r) else some (p, 0)
def lookD (neg : Bool) (d : Option (Nat × Nat)) (p : Nat) : Option (Nat × Nat) := if d.isNone = neg then some (p, 0) else none
theorem lit_yes {k p : Nat} {t : Str} (h : 1 ≤ cnt k t p) : litD k t p = some (p + 1, 0) := if_pos h
theorem lit_no {k p : Nat} {t : Str} (h : cnt k t p = 0) : litD k t p = none := if_neg (by omega)
theorem ring_yes {x y own n p : Nat} {t : Str} (hn : cnt x t p = n) (h : 1 ≤ n) (h' : n ≤ cnt y t (p + n)) : ringD x y own t p = some (p + 2 * n, n * own) := by
  subst hn; exact if_pos ⟨h, h'⟩
theorem ring_no {x y own n p : Nat} {t : Str} (hn : cnt x t p = n) (h : ¬ (1 ≤ n ∧ n ≤ cnt y t (p + n))) : ringD x y own t p = none := by
  subst hn; exact if_neg h
theorem opt_none {len p : Nat} : optD none len p = some (p, 0) := by unfold optD; split <;> rfl
theorem opt_some {len p : Nat} {r : Nat × Nat} (h : p < len) : optD (some r) len p = some r := if_pos h
theorem ring_seq {den : Den} {t : Str} {x y own i0 i2 i3 : Nat} (h0 : ∀ p, den i0 p = litD x t p) (h2 : ∀ p, den i2 p = optD (ringD x y own t p) t.length p) (h3 : ∀ p, den i3 p = litD y t p) (hxy : x ≠ y) (p : Nat) :
    ringD x y own t p = (seqRun den [i0, i2, i3] p).map (fun r => (r.1, own + r.2)) := by
  obtain ⟨n, hn⟩ : ∃ n, cnt x t p = n := ⟨_, rfl⟩
  cases n with
  | zero =>
    rw [ring_no hn (by omega)]
    simp only [seqRun, h0, lit_no hn]
    rfl
  | succ n =>
    have h1 : 1 ≤ cnt x t p := by omega
    have hs := cnt_succ h1
    have hn' : cnt x t (p + 1) = n := by omega
    simp only [seqRun, h0, lit_yes h1, h2, h3]
    cases n with
    | zero =>
      rw [ring_no hn' (by omega), opt_none]
      dsimp only
      by_cases hy : 1 ≤ cnt y t (p + 1)
      · rw [ring_yes hn (by omega) hy, lit_yes hy]
        simp [Nat.one_mul, Nat.add_assoc]
      · rw [ring_no hn (fun q => hy q.2), lit_no (by omega)]
        rfl
    | succ n =>
      have he : p + 1 + (n + 1) = p + (n + 2) := by omega
      replace hn : cnt x t p = n + 2 := hn
      by_cases hy : n + 1 ≤ cnt y t (p + (n + 2))
      · rw [ring_yes hn' (by omega) (by rw [he]; exact hy), opt_some (cnt_lt (k := x) (by omega))]
        dsimp only
        have hc := cnt_add hy
        have he2 : p + 1 + 2 * (n + 1) = p + (n + 2) + (n + 1) := by omega
        rw [he2]
        by_cases hy2 : n + 2 ≤ cnt y t (p + (n + 2))
        · rw [ring_yes hn (by omega) hy2, lit_yes (by omega)]
          simp only [Option.map_some, Option.some.injEq, Prod.mk.injEq]
          refine ⟨by omega, ?_⟩
          rw [show n + 1 + 1 = 1 + (n + 1) by omega, Nat.add_mul]
          omega
        · rw [ring_no hn (fun q => hy2 q.2), lit_no (by omega)]
          rfl
      · rw [ring_no hn' (by rw [he]; omega), opt_none]
        dsimp only
        have hz : cnt y t (p + 1) = 0 := cnt_ne hxy (by omega)
        rw [ring_no hn (fun q => hy (by omega)), lit_no hz]
        rfl
theorem more_run {den : Den} {t : Str} {x m : Nat} (h : ∀ p, den m p = litD x t p) : ∀ (f p : Nat), p ≤ t.length → t.length - p ≤ f → moreRun den m t.length f p = (p + cnt x t p, cnt x t p, 0)
  | 0, p, hp, hf => by
    have : cnt x t p = 0 := cnt_end (by omega)
    rw [this]; rfl
  | f + 1, p, hp, hf => by
    unfold moreRun
    by_cases hl : p < t.length
    · rw [if_pos hl, h]
      by_cases hc : 1 ≤ cnt x t p
      · rw [lit_yes hc]
        dsimp only
        rw [more_run h f (p + 1) (by omega) (by omega), cnt_succ hc]
        show (p + 1 + cnt x t (p + 1), cnt x t (p + 1) + 1, 0) = (p + (cnt x t (p + 1) + 1), cnt x t (p + 1) + 1, 0)
        rw [Nat.add_assoc, Nat.add_comm 1]
      · rw [lit_no (by omega)]
        have : cnt x t p = 0 := by omega
        rw [this]; rfl
    · rw [if_neg hl]
      have : cnt x t p = 0 := cnt_end (by omega)
      rw [this]; rfl
theorem ring_bnd {x y own p q c : Nat} {t : Str} (hp : p ≤ t.length) (h : ringD x y own t p = some (q, c)) : p ≤ q ∧ q ≤ t.length := by
  unfold ringD at h
  split at h
  · rename_i g
    cases h
    have h1 := cnt_le (k := x) hp
    have h2 := cnt_le (k := y) h1
    omega
  · cases h
theorem lit_bnd {k p q c : Nat} {t : Str} (h : litD k t p = some (q, c)) : p < q ∧ q ≤ t.length ∧ q = p + 1 ∧ c = 0 := by
  unfold litD at h
  split at h
  · rename_i g
    cases h
    have h1 := cnt_lt g
    omega
  · cases h
theorem opt_bnd {len p q c : Nat} {d : Option (Nat × Nat)} (hp : p ≤ len) (hd : ∀ q c, d = some (q, c) → p ≤ q ∧ q ≤ len) (h : optD d len p = some (q, c)) : p ≤ q ∧ q ≤ len := by
  unfold optD at h
  split at h
  · cases d with
    | none => cases h; exact ⟨Nat.le_refl _, hp⟩
    | some r => obtain ⟨q', c'⟩ := r; cases h; exact hd _ _ rfl
  · cases h; exact ⟨Nat.le_refl _, hp⟩
theorem look_bnd {neg : Bool} {d : Option (Nat × Nat)} {p q c : Nat} (h : lookD neg d p = some (q, c)) : q = p ∧ c = 0 := by
  unfold lookD at h
  split at h
  · cases h; exact ⟨rfl, rfl⟩
  · cases h
end Mine
end
section
open PySem PySem.W PyProof.Rows PySem.Spec PySem.Calls PyProof.V
namespace Mine
/-- the kinds and names of the law's expressions, in the order in which they are made -/
def KN : List (Kind × Str) :=
  [(.lit (Str.ofString "a"), Str.ofString ""), (.seq [0, 2, 3], Str.ofString "left"), (.opt 1, Str.ofString ""), (.lit (Str.ofString "b"), Str.ofString ""),
   (.lit (Str.ofString "b"), Str.ofString ""), (.seq [4, 6, 7], Str.ofString "right"), (.opt 5, Str.ofString ""), (.lit (Str.ofString "c"), Str.ofString ""),
   (.lit (Str.ofString "a"), Str.ofString ""), (.more 8, Str.ofString ""),
   (.lit (Str.ofString "a"), Str.ofString ""), (.lit (Str.ofString "b"), Str.ofString ""), (.lit (Str.ofString "c"), Str.ofString ""), (.oneOf [10, 11, 12], Str.ofString ""), (.look true 13, Str.ofString ""),
   (.lit (Str.ofString "c"), Str.ofString ""), (.seq [1, 15], Str.ofString ""), (.look false 16, Str.ofString ""),
   (.seq [17, 9, 5, 14], Str.ofString ""), (.seq [9, 5, 14], Str.ofString ""), (.seq [17, 9, 5], Str.ofString ""), (.seq [17, 9, 5], Str.ofString "")]
def Shape (Γ : List Ex) : Prop := Γ.map (fun e => (e.k, e.nm)) = KN.take Γ.length
def den1 (t : Str) : Den
  | 0, p | 8, p | 10, p => litD 97 t p
  | 3, p | 4, p | 11, p => litD 98 t p
  | 7, p | 12, p | 15, p => litD 99 t p
  | 1, p => ringD 97 98 0 t p
  | 2, p => optD (ringD 97 98 0 t p) t.length p
  | 5, p => ringD 98 99 1 t p
  | 6, p => optD (ringD 98 99 1 t p) t.length p
  | 9, p => if 1 ≤ cnt 97 t p then some (p + cnt 97 t p, 0) else none
  | _, _ => none
def den2 (t : Str) : Den
  | 13, p => oneRun (den1 t) [10, 11, 12] p
  | 16, p => seqRun (den1 t) [1, 15] p
  | i, p => den1 t i p
def den3 (t : Str) : Den
  | 14, p => lookD true (den2 t 13 p) p
  | 17, p => lookD false (den2 t 16 p) p
  | i, p => den2 t i p
def denL (t : Str) : Den
  | 18, p => seqRun (den3 t) [17, 9, 5, 14] p
  | 19, p => seqRun (den3 t) [9, 5, 14] p
  | 20, p => seqRun (den3 t) [17, 9, 5] p
  | 21, p => seqRun (den3 t) [17, 9, 5] p
  | i, p => den3 t i p
def rankL : Nat → Nat
  | 1 | 5 | 9 | 13 => 1
  | 2 | 6 | 14 | 16 => 2
  | 17 => 3
  | 18 | 19 | 20 | 21 => 4
  | _ => 0
def muL (t : Str) (i p : Nat) : Nat := (t.length - p) * 4 + rankL i
theorem rank_le (i : Nat) : rankL i ≤ 4 := by unfold rankL; split <;> omega
theorem mu_le {t : Str} (h : t.length ≤ 30) (i p : Nat) : muL t i p ≤ 124 := by have := rank_le i; unfold muL; omega
abbrev EqP (t : Str) (A B C : Nat) : Prop := C = t.length ∧ 0 < A ∧ B = A + A ∧ C = B + A
abbrev TailP (A B C : Nat) : Prop := 0 < A ∧ A < B ∧ B - A ≤ C - B
theorem shape_at {Γ : List Ex} {i : Nat} {e : Ex} (h : Shape Γ) (he : Γ[i]? = some e) : KN[i]? = some (e.k, e.nm) := by
  obtain ⟨hi, _⟩ := List.getElem?_eq_some_iff.mp he
  have h1 : (Γ.map (fun e => (e.k, e.nm)))[i]? = some (e.k, e.nm) := by rw [List.getElem?_map, he]; rfl
  rw [h, List.getElem?_take, if_pos hi] at h1
  exact h1
theorem map_zero (o : Option (Nat × Nat)) : o.map (fun r => (r.1, 0 + r.2)) = o := by
  cases o with
  | none => rfl
  | some r => obtain ⟨a, b⟩ := r; simp
theorem own_one {e : Ex} (h : e.nm = Str.ofString "right") : e.own = 1 := if_pos h
theorem own_zero {e : Ex} (h : e.nm ≠ Str.ofString "right") : e.own = 0 := if_neg h
theorem seq_mono {den den' : Den} : ∀ {ms : List Nat} {p : Nat}, (∀ m ∈ ms, ∀ q, den m q = den' m q) → seqRun den ms p = seqRun den' ms p
  | [], _, _ => rfl
  | m :: ms, p, h => by
    unfold seqRun
    rw [h m (.head _) p]
    cases den' m p with
    | none => rfl
    | some r => obtain ⟨q, c⟩ := r; dsimp only; rw [seq_mono fun m hm => h m (.tail _ hm)]
theorem one_mono {den den' : Den} : ∀ {ms : List Nat} {p : Nat}, (∀ m ∈ ms, ∀ q, den m q = den' m q) → oneRun den ms p = oneRun den' ms p
  | [], _, _ => rfl
  | m :: ms, p, h => by
    unfold oneRun
    rw [h m (.head _) p]
    cases den' m p with
    | none => exact one_mono fun m hm => h m (.tail _ hm)
    | some r => rfl
theorem seq_bnd {den : Den} {len : Nat} : ∀ {ms : List Nat} {p q c : Nat}, (∀ m ∈ ms, ∀ p q c, p ≤ len → den m p = some (q, c) → p ≤ q ∧ q ≤ len) → p ≤ len → seqRun den ms p = some (q, c) → p ≤ q ∧ q ≤ len
  | [], p, q, c, _, hp, h => by cases h; exact ⟨Nat.le_refl _, hp⟩
  | m :: ms, p, q, c, hb, hp, h => by
    unfold seqRun at h
    cases hm : den m p with
    | none => rw [hm] at h; cases h
    | some r =>
      obtain ⟨q1, c1⟩ := r
      rw [hm] at h
      dsimp only at h
      have b1 := hb m (.head _) p q1 c1 hp hm
      cases hs : seqRun den ms q1 with
      | none => rw [hs] at h; cases h
      | some r =>
        obtain ⟨q2, c2⟩ := r
        rw [hs] at h
        cases h
        have b2 := seq_bnd (fun m hm => hb m (.tail _ hm)) b1.2 hs
        exact ⟨Nat.le_trans b1.1 b2.1, b2.2⟩
theorem one_bnd {den : Den} {len : Nat} : ∀ {ms : List Nat} {p q c : Nat}, (∀ m ∈ ms, ∀ p q c, p ≤ len → den m p = some (q, c) → p ≤ q ∧ q ≤ len) → p ≤ len → oneRun den ms p = some (q, c) → p ≤ q ∧ q ≤ len
  | [], p, q, c, _, hp, h => by cases h
  | m :: ms, p, q, c, hb, hp, h => by
    unfold oneRun at h
    cases hm : den m p with
    | none => rw [hm] at h; exact one_bnd (fun m hm => hb m (.tail _ hm)) hp h
    | some r => rw [hm] at h; cases h; exact hb m (.head _) p q c hp hm
def Bnd (t : Str) (d : Nat → Option (Nat × Nat)) : Prop := ∀ p q c, p ≤ t.length → d p = some (q, c) → p ≤ q ∧ q ≤ t.length
theorem bnd_lit {t : Str} {k : Nat} : Bnd t (litD k t) := fun p q c _ h => let ⟨a, b, _⟩ := lit_bnd h; ⟨Nat.le_of_lt a, b⟩
theorem bnd_ring {t : Str} {x y o : Nat} : Bnd t (ringD x y o t) := fun p q c hp h => ring_bnd hp h
theorem bnd_opt {t : Str} {x y o : Nat} : Bnd t (fun p => optD (ringD x y o t p) t.length p) := fun p q c hp h => opt_bnd hp (fun q c h => ring_bnd hp h) h
theorem bnd_more {t : Str} : Bnd t (fun p => if 1 ≤ cnt 97 t p then some (p + cnt 97 t p, 0) else none) := fun p q c hp h => by
  dsimp only at h
  split at h
  · cases h; have := cnt_le (k := 97) hp; omega
  · cases h
theorem den1_bnd (t : Str) : ∀ i, Bnd t (den1 t i)
  | 0 => bnd_lit | 8 => bnd_lit | 10 => bnd_lit | 3 => bnd_lit | 4 => bnd_lit | 11 => bnd_lit | 7 => bnd_lit | 12 => bnd_lit | 15 => bnd_lit
  | 1 => bnd_ring | 5 => bnd_ring | 2 => bnd_opt | 6 => bnd_opt | 9 => bnd_more
  | 13 => fun _ _ _ _ h => nomatch h | 14 => fun _ _ _ _ h => nomatch h | 16 => fun _ _ _ _ h => nomatch h
  | 17 => fun _ _ _ _ h => nomatch h
  | n + 18 => fun _ _ _ _ h => nomatch h
theorem den2_bnd (t : Str) (i : Nat) : Bnd t (den2 t i) := fun p q c hp h => by
  unfold den2 at h
  split at h
  · exact one_bnd (fun m _ p q c hp h => den1_bnd t m p q c hp h) hp h
  · exact seq_bnd (fun m _ p q c hp h => den1_bnd t m p q c hp h) hp h
  · exact den1_bnd t _ p q c hp h
theorem den3_bnd (t : Str) (i : Nat) : Bnd t (den3 t i) := fun p q c hp h => by
  unfold den3 at h
  split at h
  · rw [(look_bnd h).1]; exact ⟨Nat.le_refl _, hp⟩
  · rw [(look_bnd h).1]; exact ⟨Nat.le_refl _, hp⟩
  · exact den2_bnd t _ p q c hp h
theorem denL_bnd (t : Str) (i : Nat) : Bnd t (denL t i) := fun p q c hp h => by
  unfold denL at h
  split at h
  · exact seq_bnd (fun m _ p q c hp h => den3_bnd t m p q c hp h) hp h
  · exact seq_bnd (fun m _ p q c hp h => den3_bnd t m p q c hp h) hp h
  · exact seq_bnd (fun m _ p q c hp h => den3_bnd t m p q c hp h) hp h
  · exact seq_bnd (fun m _ p q c hp h => den3_bnd t m p q c hp h) hp h
  · exact den3_bnd t _ p q c hp h
/-- the measure falls from a sequence to its members -/
theorem dec_rank {t : Str} {den : Den} {b p0 r : Nat} (hb : ∀ i, Bnd t (den i)) (hp0 : p0 ≤ t.length) (hbr : b = (t.length - p0) * 4 + r) : ∀ {ms : List Nat} {p : Nat}, (∀ m ∈ ms, rankL m < r) → p0 ≤ p → p ≤ t.length → seqDec den (muL t) b t.length ms p
  | [], _, _, _, _ => trivial
  | m :: ms, p, h, hp, hl => by
    refine ⟨?_, fun q c hq => ?_⟩
    · have := h m (.head _)
      unfold muL
      omega
    · have := hb m p q c hl hq
      exact dec_rank hb hp0 hbr (fun m hm => h m (.tail _ hm)) (Nat.le_trans hp this.1) this.2
theorem dec_ring {t : Str} {den : Den} {k i0 i2 i3 i p : Nat} (hb : ∀ i, Bnd t (den i)) (h0 : ∀ p, den i0 p = litD k t p) (hr : rankL i = 1) (hr0 : rankL i0 = 0) (hr2 : rankL i2 = 2) (hr3 : rankL i3 = 0) (hp : p ≤ t.length) : seqDec den (muL t) (muL t i p) t.length [i0, i2, i3] p := by
  refine ⟨by unfold muL; omega, fun q c hq => ?_⟩
  rw [h0] at hq
  obtain ⟨a, b, c, d⟩ := lit_bnd hq
  refine ⟨by unfold muL; omega, fun q' c' hq' => ?_⟩
  have := hb i2 q q' c' b hq'
  exact ⟨by unfold muL; omega, fun _ _ _ => trivial⟩
theorem good_lit {Γ : List Ex} {t c : Str} {den : Den} {μ : Nat → Nat → Nat} {e : Ex} {i p k : Nat} (hk : e.k = .lit c) (hn : e.own = 0) (hc : c.cps = #[k]) (hd : den i p = litD k t p) : GoodAt Γ t den μ e i p := by
  unfold GoodAt
  rw [hk]
  dsimp only
  have hl : c.length = 1 := by show c.cps.size = 1; rw [hc]; rfl
  rw [hd, hn, hl]
  unfold litD
  by_cases h : 1 ≤ cnt k t p
  · rw [if_pos h, if_pos ((starts_cnt hc).mpr h)]
  · rw [if_neg h, if_neg (fun q => h ((starts_cnt hc).mp q))]
theorem good_seq {Γ : List Ex} {t : Str} {den : Den} {μ : Nat → Nat → Nat} {e : Ex} {i p : Nat} {ms : List Nat} (hk : e.k = .seq ms) (hm : ∀ m ∈ ms, m < Γ.length) (hd : den i p = (seqRun den ms p).map (fun r => (r.1, e.own + r.2))) (hs : seqDec den μ (μ i p) t.length ms p) : GoodAt Γ t den μ e i p := by
  unfold GoodAt
  rw [hk]
  exact ⟨hm, hd, hs⟩
theorem good_opt {Γ : List Ex} {t : Str} {den : Den} {μ : Nat → Nat → Nat} {e : Ex} {i p m : Nat} (hk : e.k = .opt m) (hn : e.own = 0) (hm : m < Γ.length) (hμ : p < t.length → μ m p < μ i p) (hd : den i p = optD (den m p) t.length p) : GoodAt Γ t den μ e i p := by
  unfold GoodAt
  rw [hk]
  refine ⟨hm, hμ, ?_⟩
  rw [hd, hn]
  unfold optD
  split
  · cases den m p with
    | none => rfl
    | some r => obtain ⟨a, b⟩ := r; simp
  · rfl
theorem good_look {Γ : List Ex} {t : Str} {den : Den} {μ : Nat → Nat → Nat} {e : Ex} {i p m : Nat} {neg : Bool} (hk : e.k = .look neg m) (hn : e.own = 0) (hm : m < Γ.length) (hμ : μ m p < μ i p) (hd : den i p = lookD neg (den m p) p) : GoodAt Γ t den μ e i p := by
  unfold GoodAt
  rw [hk]
  refine ⟨hm, hμ, ?_⟩
  rw [hd, hn]
  rfl
theorem good_one {Γ : List Ex} {t : Str} {den : Den} {μ : Nat → Nat → Nat} {e : Ex} {i p : Nat} {ms : List Nat} (hk : e.k = .oneOf ms) (hn : e.own = 0) (hm : ∀ m ∈ ms, m < Γ.length ∧ μ m p < μ i p) (hd : den i p = oneRun den ms p) : GoodAt Γ t den μ e i p := by
  unfold GoodAt
  rw [hk]
  refine ⟨hm, ?_⟩
  rw [hn, map_zero, hd]
theorem good_more {Γ : List Ex} {t : Str} {den : Den} {μ : Nat → Nat → Nat} {e : Ex} {i p m : Nat} (hk : e.k = .more m) (hn : e.own = 0) (hm : m < Γ.length) (hμ : ∀ p', p ≤ p' → p' < t.length → μ m p' < μ i p) (h : ∀ p, den m p = litD 97 t p) (hp : p ≤ t.length) (hd : den i p = if 1 ≤ cnt 97 t p then some (p + cnt 97 t p, 0) else none) : GoodAt Γ t den μ e i p := by
  unfold GoodAt
  rw [hk]
  refine ⟨hm, hμ, fun p' q c hq => ?_, ?_⟩
  · rw [h] at hq; exact (lit_bnd hq).1
  · rw [more_run h _ _ hp (Nat.le_refl _), hd, hn]
    rfl
end Mine
end
section
open PySem PySem.W PyProof.Rows PySem.Spec PySem.Calls PyProof.V
namespace Mine
def kindLt (n : Nat) : Kind → Bool
  | .lit _ => true
  | .seq ms => ms.all (· < n)
  | .oneOf ms => ms.all (· < n)
  | .look _ m => decide (m < n)
  | .more m => decide (m < n)
  | .opt m => decide (m < n)
theorem kindLt_mono {n n' : Nat} (h : n ≤ n') : ∀ {k : Kind}, kindLt n k = true → kindLt n' k = true
  | .lit _, _ => rfl
  | .seq ms, e => by simp only [kindLt, List.all_eq_true, decide_eq_true_eq] at e ⊢; exact fun x hx => Nat.lt_of_lt_of_le (e x hx) h
  | .oneOf ms, e => by simp only [kindLt, List.all_eq_true, decide_eq_true_eq] at e ⊢; exact fun x hx => Nat.lt_of_lt_of_le (e x hx) h
  | .look _ m, e => by simp only [kindLt, decide_eq_true_eq] at e ⊢; omega
  | .more m, e => by simp only [kindLt, decide_eq_true_eq] at e ⊢; omega
  | .opt m, e => by simp only [kindLt, decide_eq_true_eq] at e ⊢; omega
theorem addr_app {Γ es : List Ex} {m : Nat} (h : m < Γ.length) : addrOf (Γ ++ es) m = addrOf Γ m := by
  unfold addrOf
  rw [List.getElem?_append_left h]
theorem mems_app {Γ es : List Ex} : ∀ {k : Kind}, kindLt Γ.length k = true → memsOf (Γ ++ es) k = memsOf Γ k
  | .lit _, _ => rfl
  | .seq ms, e => by
    simp only [kindLt, List.all_eq_true, decide_eq_true_eq] at e
    exact congrArg some (List.map_congr_left fun m hm => by rw [addr_app (e m hm)])
  | .oneOf ms, e => by
    simp only [kindLt, List.all_eq_true, decide_eq_true_eq] at e
    exact congrArg some (List.map_congr_left fun m hm => by rw [addr_app (e m hm)])
  | .look _ m, e => by simp only [kindLt, decide_eq_true_eq] at e; simp only [memsOf, addr_app e]
  | .more m, e => by simp only [kindLt, decide_eq_true_eq] at e; simp only [memsOf, addr_app e]
  | .opt m, e => by simp only [kindLt, decide_eq_true_eq] at e; simp only [memsOf, addr_app e]
structure Idl (Γ : List Ex) (B : Nat) (keep led : List (Addr × Obj)) : Prop where
  ex : ∃ ds imm, Idle Γ B ds imm ∧ (∀ p ∈ keep, p ∈ imm) ∧ led = ds.map DO.cell ++ imm
  cl : ∀ e ∈ Γ, kindLt Γ.length e.k = true
  sh : Shape Γ
theorem Idl.nil (keep : List (Addr × Obj)) : Idl [] 0 keep keep := ⟨⟨[], keep, ⟨fun i e h => by simp at h, rfl, fun i e h => by simp at h, List.nodup_nil, fun _ h => nomatch h⟩, fun _ h => h, rfl⟩, (fun _ h => nomatch h), rfl⟩
def doOf (e : Ex) : DO := ⟨e.d, dictOf [] 0, 0, []⟩
theorem filt_mem {es : List Ex} {new : List (Addr × Obj)} {p : Addr × Obj} (hp : p ∈ new) (h : ∀ e ∈ es, p.1 ≠ e.d) : p ∈ new.filter (fun q => !(es.map (·.d)).contains q.1) := by
  refine List.mem_filter.mpr ⟨hp, ?_⟩
  rw [Bool.not_eq_true', ← Bool.not_eq_true, List.contains_iff_mem]
  intro hc
  obtain ⟨e, he, e'⟩ := List.mem_map.mp hc
  exact h e he e'.symm
theorem filt_off {es : List Ex} {new : List (Addr × Obj)} {p : Addr × Obj} (hp : p ∈ new.filter (fun q => !(es.map (·.d)).contains q.1)) : p ∈ new ∧ ∀ e ∈ es, e.d ≠ p.1 := by
  obtain ⟨h1, h2⟩ := List.mem_filter.mp hp
  refine ⟨h1, fun e he h => ?_⟩
  rw [Bool.not_eq_true', ← Bool.not_eq_true, List.contains_iff_mem] at h2
  exact h2 (List.mem_map.mpr ⟨e, he, h⟩)
theorem Idl.adds {Γ : List Ex} {B : Nat} {keep led new : List (Addr × Obj)} {h₀ h : Heap} {L : Addr} (es : List Ex) (I : Idl Γ B keep led) (N : News h₀ L h (new ++ led)) (hlt : ∀ q ∈ new, ∀ p ∈ led, @LT.lt Nat _ p.1 q.1)
    (hes : ∀ e ∈ es, e.instOk ∧ (e.a, e.o) ∈ new ∧ (e.d, dictOf [] 0) ∈ new ∧ (∀ vs, memsOf (Γ ++ es) e.k = some vs → (e.t, tupObj vs) ∈ new) ∧ kindLt (Γ ++ es).length e.k = true)
    (hd : (es.map (·.d)).Nodup) (hsh : Shape (Γ ++ es)) : ∃ led', Idl (Γ ++ es) B keep led' ∧ ∀ p ∈ led', p ∈ new ++ led := by
  obtain ⟨⟨ds, imm, D, hk, rfl⟩, cl, sh⟩ := I
  have hne : ∀ {a : Addr} {o : Obj}, (a, o) ∈ new → o.cls ≠ .type "dict" → ∀ e ∈ es, a ≠ e.d := fun ha ho e he =>
    News.ne N (List.mem_append_left _ ha) (List.mem_append_left _ (hes e he).2.2.1) ho
  have hkeepI : ∀ p ∈ imm, p ∈ new.filter (fun q => !(es.map (·.d)).contains q.1) ++ imm := fun p hp => List.mem_append_right _ hp
  have hds : ∀ e ∈ es, ∀ p ∈ ds.map DO.cell ++ imm, @LT.lt Nat _ p.1 e.d := fun e he p hp => hlt _ (hes e he).2.2.1 p hp
  refine ⟨(ds ++ es.map doOf).map DO.cell ++ (new.filter (fun q => !(es.map (·.d)).contains q.1) ++ imm), ⟨⟨ds ++ es.map doOf, _, ?_, fun p hp => hkeepI p (hk p hp), rfl⟩, ?_, hsh⟩, ?_⟩
  · refine { exs := fun i e he => ?_, dsl := by rw [List.length_append, List.length_append, List.length_map, D.dsl], dok := fun i e he => ?_, nod := ?_, off := fun x hx q hq => ?_ }
    · rcases Nat.lt_or_ge i Γ.length with hi | hi
      · rw [List.getElem?_append_left hi] at he
        obtain ⟨h1, h2, h3⟩ := D.exs i e he
        exact ⟨hkeepI _ h1, h2, fun vs hv => hkeepI _ (h3 vs (by rw [← hv, mems_app (cl e (List.mem_of_getElem? he))]))⟩
      · rw [List.getElem?_append_right hi] at he
        have hm := List.mem_of_getElem? he
        obtain ⟨h1, h2, h3, h4, h5⟩ := hes e hm
        have hoc : e.o.cls ≠ .type "dict" := by rw [ex_cls h1]; simp
        exact ⟨List.mem_append_left _ (filt_mem h2 (hne h2 hoc)), h1, fun vs hv => List.mem_append_left _ (filt_mem (h4 vs hv) (hne (h4 vs hv) (by simp)))⟩
    · rcases Nat.lt_or_ge i Γ.length with hi | hi
      · rw [List.getElem?_append_left hi] at he
        obtain ⟨x, a, b, c, d, f⟩ := D.dok i e he
        refine ⟨x, by rw [List.getElem?_append_left (by rw [D.dsl]; exact hi)]; exact a, b, c.mono hkeepI, fun r hr => ?_, f⟩
        obtain ⟨z, hz, hz'⟩ := List.mem_map.mp (d r hr)
        refine List.mem_map.mpr ⟨z, ?_, hz'⟩
        rcases List.mem_append.mp hz with hz | hz
        · exact List.mem_append_left _ (by rw [List.map_append]; exact List.mem_append_left _ hz)
        · exact List.mem_append_right _ (hkeepI z hz)
      · rw [List.getElem?_append_right hi] at he
        refine ⟨doOf e, by rw [List.getElem?_append_right (by rw [D.dsl]; exact hi), D.dsl, List.getElem?_map, he]; rfl, rfl, .inl ⟨rfl, rfl⟩, fun r hr => (nomatch hr), Nat.zero_le _⟩
    · rw [List.map_append, List.map_map]
      refine List.nodup_append.mpr ⟨D.nod, hd, fun a ha b hb => ?_⟩
      obtain ⟨x, hx, rfl⟩ := List.mem_map.mp ha
      obtain ⟨e, he, rfl⟩ := List.mem_map.mp hb
      exact Nat.ne_of_lt (hds e he x.cell (List.mem_append_left _ (List.mem_map_of_mem hx)))
    · rcases List.mem_append.mp hx with hx | hx
      · rcases List.mem_append.mp hq with hq | hq
        · exact Nat.ne_of_lt (hlt q (filt_off hq).1 x.cell (List.mem_append_left _ (List.mem_map_of_mem hx)))
        · exact D.off x hx q hq
      · obtain ⟨e, he, rfl⟩ := List.mem_map.mp hx
        rcases List.mem_append.mp hq with hq | hq
        · exact (filt_off hq).2 e he
        · exact Nat.ne_of_gt (hds e he q (List.mem_append_right _ hq))
  · intro e he
    rcases List.mem_append.mp he with he | he
    · exact kindLt_mono (by rw [List.length_append]; exact Nat.le_add_right _ _) (cl e he)
    · exact (hes e he).2.2.2.2
  · intro p hp
    rcases List.mem_append.mp hp with hp | hp
    · rw [List.map_append] at hp
      rcases List.mem_append.mp hp with hp | hp
      · exact List.mem_append_right _ (List.mem_append_left _ hp)
      · obtain ⟨x, hx, rfl⟩ := List.mem_map.mp hp
        obtain ⟨e, he, rfl⟩ := List.mem_map.mp hx
        exact List.mem_append_left _ (hes e he).2.2.1
    · rcases List.mem_append.mp hp with hp | hp
      · exact List.mem_append_left _ (filt_off hp).1
      · exact List.mem_append_right _ (List.mem_append_right _ hp)
/-- one more expression -/
theorem Idl.add {Γ : List Ex} {B : Nat} {keep led new : List (Addr × Obj)} {h₀ h : Heap} {L : Addr} {k : Kind} {nm : Str} {vs : Option (List Value)} {r : Value} (I : Idl Γ B keep led) (N : News h₀ L h (new ++ led)) (hlt : ∀ q ∈ new, ∀ p ∈ led, @LT.lt Nat _ p.1 q.1)
    (X : ExMade k nm vs r new) (hm : ∀ e : Ex, memsOf (Γ ++ [e]) k = vs) (hk : kindLt (Γ.length + 1) k = true) (hsh : KN[Γ.length]? = some (k, nm)) :
    ∃ e led', r = .ref e.a ∧ e.k = k ∧ Idl (Γ ++ [e]) B keep led' ∧ News h₀ L h led' := by
  obtain ⟨e, rfl, hek, hnm, ho, ha, hdd, ht⟩ := X
  have hs : Shape (Γ ++ [e]) := by
    have := I.sh
    unfold Shape at this ⊢
    rw [List.map_append, this, List.length_append]
    show _ ++ [(e.k, e.nm)] = KN.take (Γ.length + 1)
    rw [hek, hnm, List.take_add_one, hsh]
    rfl
  obtain ⟨led', I', hsub⟩ := I.adds [e] N hlt (fun x hx => by
    rw [List.mem_singleton.mp hx]
    refine ⟨ho, ha, hdd, fun l hl => ht l ?_, ?_⟩
    · rw [hek, hm e] at hl; exact hl
    · rw [List.length_append, hek]; exact hk) (by simp) hs
  exact ⟨e, led', rfl, hek, I', News.sub N hsub⟩
/-- one more thing that is kept -/
theorem Idl.keepMore {Γ : List Ex} {B : Nat} {keep led : List (Addr × Obj)} {h₀ h : Heap} {L : Addr} {z : Addr × Obj} (I : Idl Γ B keep led) (N : News h₀ L h (z :: led)) (hlt : ∀ p ∈ led, @LT.lt Nat _ p.1 z.1) : ∃ led', Idl Γ B (z :: keep) led' ∧ News h₀ L h led' := by
  obtain ⟨⟨ds, imm, D, hk, rfl⟩, cl, sh⟩ := I
  refine ⟨ds.map DO.cell ++ ([z] ++ imm), ⟨⟨ds, _, D.more (ex := [z]) fun x hx q hq => ?_, fun p hp => ?_, rfl⟩, cl, sh⟩, News.sub N fun p hp => ?_⟩
  · rw [List.mem_singleton.mp hq]
    exact Nat.ne_of_lt (hlt x.cell (List.mem_append_left _ (List.mem_map_of_mem hx)))
  · rcases List.mem_cons.mp hp with rfl | hp
    · exact .head _
    · exact .tail _ (hk p hp)
  · rcases List.mem_append.mp hp with hp | hp
    · exact .tail _ (List.mem_append_left _ hp)
    · rcases List.mem_cons.mp hp with rfl | hp
      · exact .head _
      · exact .tail _ (List.mem_append_right _ hp)
/-- what was asked of a rule: the value of its end, or none -/
def optVal (o : Option Nat) (tk : Tok) : Value := match o with | none => .none | some q => .int (q : Nat) tk
theorem Idl.taken {Γ : List Ex} {B : Nat} {keep : List (Addr × Obj)} {imm : List (Addr × Obj)} {r : Option Nat} {v : Value} {news' : List (Addr × Obj)} (hk : ∀ p ∈ keep, p ∈ imm) (P : TakenPost Γ B imm r v news') (cl : ∀ e ∈ Γ, kindLt Γ.length e.k = true) (sh : Shape Γ) :
    (∃ tk, v = optVal r tk) ∧ Idl Γ (B + 1) keep news' := by
  obtain ⟨h1, ds', imm', h2, h3, h4⟩ := P
  refine ⟨?_, ⟨ds', imm', h3, fun p hp => h4 p (hk p hp), h2⟩, cl, sh⟩
  cases r with
  | none => exact ⟨0, h1⟩
  | some q => exact h1
end Mine
end
section
open PySem PySem.W PyProof.Rows PySem.Spec PySem.Calls PyProof.V
namespace Mine
theorem addr_new {Γ es : List Ex} (k : Nat) : addrOf (Γ ++ es) (Γ.length + k) = addrOf es k := by
  unfold addrOf
  rw [List.getElem?_append_right (Nat.le_add_right _ _), Nat.add_sub_cancel_left]
theorem Idl.pairs {Γ : List Ex} {B n : Nat} {keep led new : List (Addr × Obj)} {h₀ h : Heap} {L : Addr} {c1 c2 nm : Str} {e0 e1 e2 e3 : Ex} (I : Idl Γ B keep led) (N : News h₀ L h (new ++ led)) (hlt : ∀ q ∈ new, ∀ p ∈ led, @LT.lt Nat _ p.1 q.1)
    (P : PairsMade c1 c2 nm n (n + 1) (n + 2) (n + 3) e0 e1 e2 e3 new) (hn : Γ.length = n) (hsh : KN.take (n + 4) = KN.take n ++ [(.lit c1, Str.ofString ""), (.seq [n, n + 2, n + 3], nm), (.opt (n + 1), Str.ofString ""), (.lit c2, Str.ofString "")]) :
    ∃ led', Idl (Γ ++ [e0, e1, e2, e3]) B keep led' ∧ News h₀ L h led' := by
  subst hn
  have a0 : addrOf (Γ ++ [e0, e1, e2, e3]) Γ.length = e0.a := addr_new 0
  have a1 : addrOf (Γ ++ [e0, e1, e2, e3]) (Γ.length + 1) = e1.a := addr_new 1
  have a2 : addrOf (Γ ++ [e0, e1, e2, e3]) (Γ.length + 2) = e2.a := addr_new 2
  have a3 : addrOf (Γ ++ [e0, e1, e2, e3]) (Γ.length + 3) = e3.a := addr_new 3
  have hs : Shape (Γ ++ [e0, e1, e2, e3]) := by
    have := I.sh
    unfold Shape at this ⊢
    rw [List.map_append, this, List.length_append]
    show _ ++ [(e0.k, e0.nm), (e1.k, e1.nm), (e2.k, e2.nm), (e3.k, e3.nm)] = KN.take (Γ.length + 4)
    rw [P.k0.1, P.k0.2, P.k1.1, P.k1.2, P.k2.1, P.k2.2, P.k3.1, P.k3.2, hsh]
  obtain ⟨led', I', hsub⟩ := I.adds [e0, e1, e2, e3] N hlt (fun e he => by
    obtain ⟨h1, h2, h3⟩ := P.ok e he
    refine ⟨h1, h2, h3, ?_⟩
    rw [List.length_append]
    simp only [List.mem_cons, List.not_mem_nil, or_false] at he
    rcases he with rfl | rfl | rfl | rfl
    · rw [P.k0.1]; exact ⟨(fun vs h => by cases h), rfl⟩
    · rw [P.k1.1]
      refine ⟨fun vs h => ?_, by simp [kindLt]⟩
      simp only [memsOf, List.map_cons, List.map_nil, a0, a2, a3, Option.some.injEq] at h
      rw [← h]; exact P.t1
    · rw [P.k2.1]
      refine ⟨fun vs h => ?_, by simp [kindLt]⟩
      simp only [memsOf, a1, Option.some.injEq] at h
      rw [← h]; exact P.t2
    · rw [P.k3.1]; exact ⟨(fun vs h => by cases h), rfl⟩) P.ds hs
  exact ⟨led', I', News.sub N hsub⟩
end Mine
end
section
open PySem PySem.W PyProof.Rows PySem.Spec PySem.Calls PyProof.V
namespace Mine
theorem nm_empty : (Str.ofString "") ≠ Str.ofString "right" := by decide +kernel
theorem nm_left : (Str.ofString "left") ≠ Str.ofString "right" := by decide +kernel
theorem good_L {Γ : List Ex} {t : Str} (S : Shape Γ) (hΓ : 18 < Γ.length) : Good Γ t (denL t) (muL t) := by
  have key : ∀ {i : Nat} {e : Ex} {k : Kind} {nm : Str}, KN[i]? = some (e.k, e.nm) → KN[i]? = some (k, nm) → e.k = k ∧ e.nm = nm := fun h1 h2 => by
    rw [h1] at h2; cases h2; exact ⟨rfl, rfl⟩
  have hz : ∀ {e : Ex}, e.nm = Str.ofString "" → e.own = 0 := fun h => own_zero (by rw [h]; exact nm_empty)
  have hzl : ∀ {e : Ex}, e.nm = Str.ofString "left" → e.own = 0 := fun h => own_zero (by rw [h]; exact nm_left)
  have hmem : ∀ {ms : List Nat}, (∀ m ∈ ms, m ≤ 18) → ∀ m ∈ ms, m < Γ.length := fun h m hm => Nat.lt_of_le_of_lt (h m hm) hΓ
  have h4 : ∀ {e : Ex} {i p : Nat} {ms : List Nat}, p ≤ t.length → e.k = .seq ms → e.nm = Str.ofString "" → (∀ m ∈ ms, m ≤ 18 ∧ rankL m < rankL i) → denL t i p = seqRun (denL t) ms p → GoodAt Γ t (denL t) (muL t) e i p := fun hp hk hn hm hd =>
    good_seq hk (hmem fun m h => (hm m h).1) (by rw [hz hn, map_zero]; exact hd) (dec_rank (denL_bnd t) hp rfl (fun m h => (hm m h).2) (Nat.le_refl _) hp)
  refine { bnd := fun i p q c hp h => denL_bnd t i p q c hp h, at_ := fun i e p he hp => ?_, nmLen := fun i e he => ?_, litLen := fun i e c he hk => ?_, mlen := fun i e vs he hv => ?_ }
  · have hs := shape_at S he
    have hi : i < 22 := by
      obtain ⟨h1, _⟩ := List.getElem?_eq_some_iff.mp hs
      exact h1
    match i, hi, hs with
    | 0, _, hs => obtain ⟨a, b⟩ := key hs rfl; exact good_lit a (hz b) (by decide +kernel) rfl
    | 1, _, hs =>
      obtain ⟨a, b⟩ := key hs rfl
      refine good_seq a (hmem (by decide)) ?_ (dec_ring (k := 97) (denL_bnd t) (fun _ => rfl) rfl rfl rfl rfl hp)
      rw [hzl b]
      exact ring_seq (den := denL t) (fun _ => rfl) (fun _ => rfl) (fun _ => rfl) (by decide) p
    | 2, _, hs => obtain ⟨a, b⟩ := key hs rfl; exact good_opt a (hz b) (by omega) (fun _ => by unfold muL; simp [rankL]) rfl
    | 3, _, hs => obtain ⟨a, b⟩ := key hs rfl; exact good_lit a (hz b) (by decide +kernel) rfl
    | 4, _, hs => obtain ⟨a, b⟩ := key hs rfl; exact good_lit a (hz b) (by decide +kernel) rfl
    | 5, _, hs =>
      obtain ⟨a, b⟩ := key hs rfl
      refine good_seq a (hmem (by decide)) ?_ (dec_ring (k := 98) (denL_bnd t) (fun _ => rfl) rfl rfl rfl rfl hp)
      rw [own_one b]
      exact ring_seq (den := denL t) (fun _ => rfl) (fun _ => rfl) (fun _ => rfl) (by decide) p
    | 6, _, hs => obtain ⟨a, b⟩ := key hs rfl; exact good_opt a (hz b) (by omega) (fun _ => by unfold muL; simp [rankL]) rfl
    | 7, _, hs => obtain ⟨a, b⟩ := key hs rfl; exact good_lit a (hz b) (by decide +kernel) rfl
    | 8, _, hs => obtain ⟨a, b⟩ := key hs rfl; exact good_lit a (hz b) (by decide +kernel) rfl
    | 9, _, hs =>
      obtain ⟨a, b⟩ := key hs rfl
      exact good_more a (hz b) (by omega) (fun p' h1 h2 => by unfold muL; simp only [rankL]; omega) (fun _ => rfl) hp rfl
    | 10, _, hs => obtain ⟨a, b⟩ := key hs rfl; exact good_lit a (hz b) (by decide +kernel) rfl
    | 11, _, hs => obtain ⟨a, b⟩ := key hs rfl; exact good_lit a (hz b) (by decide +kernel) rfl
    | 12, _, hs => obtain ⟨a, b⟩ := key hs rfl; exact good_lit a (hz b) (by decide +kernel) rfl
    | 13, _, hs =>
      obtain ⟨a, b⟩ := key hs rfl
      refine good_one a (hz b) (fun m hm => ⟨hmem (by decide) m hm, ?_⟩) rfl
      have : rankL m < rankL 13 := (by decide : ∀ m ∈ [10, 11, 12], rankL m < rankL 13) m hm
      unfold muL; omega
    | 14, _, hs => obtain ⟨a, b⟩ := key hs rfl; exact good_look a (hz b) (by omega) (by unfold muL; simp [rankL]) rfl
    | 15, _, hs => obtain ⟨a, b⟩ := key hs rfl; exact good_lit a (hz b) (by decide +kernel) rfl
    | 16, _, hs => obtain ⟨a, b⟩ := key hs rfl; exact h4 hp a b (by decide) rfl
    | 17, _, hs => obtain ⟨a, b⟩ := key hs rfl; exact good_look a (hz b) (by omega) (by unfold muL; simp [rankL]) rfl
    | 18, _, hs => obtain ⟨a, b⟩ := key hs rfl; exact h4 hp a b (by decide) rfl
    | 19, _, hs => obtain ⟨a, b⟩ := key hs rfl; exact h4 hp a b (by decide) rfl
    | 20, _, hs => obtain ⟨a, b⟩ := key hs rfl; exact h4 hp a b (by decide) rfl
    | 21, _, hs => obtain ⟨a, b⟩ := key hs rfl; exact h4 hp a b (by decide) rfl
  · have hs := shape_at S he
    have : ∀ x ∈ KN, x.2.length ≤ 1000 := by decide +kernel
    exact this _ (List.mem_of_getElem? hs)
  · have hs := shape_at S he
    have : ∀ x ∈ KN, (match x.1 with | .lit c => decide (c.length ≤ 1000) | _ => true) = true := by decide +kernel
    have h := this _ (List.mem_of_getElem? hs)
    rw [hk] at h
    exact of_decide_eq_true h
  · have hs := shape_at S he
    have : ∀ x ∈ KN, (match x.1 with | .seq ms => decide (ms.length ≤ 1000) | .oneOf ms => decide (ms.length ≤ 1000) | _ => true) = true := by decide +kernel
    have h := this _ (List.mem_of_getElem? hs)
    cases hk : e.k with
    | lit c => rw [hk] at hv; cases hv
    | seq ms => rw [hk] at hv h; cases hv; rw [List.length_map]; exact of_decide_eq_true h
    | oneOf ms => rw [hk] at hv h; cases hv; rw [List.length_map]; exact of_decide_eq_true h
    | look b m => rw [hk] at hv; cases hv; exact (by decide : 1 ≤ 1000)
    | more m => rw [hk] at hv; cases hv; exact (by decide : 1 ≤ 1000)
    | opt m => rw [hk] at hv; cases hv; exact (by decide : 1 ≤ 1000)
end Mine
end
section
open PySem PySem.W PyProof.Rows PySem.Spec PySem.Calls PyProof.V
namespace Mine
section
variable {t : Str} {A B C : Nat}
theorem look_val (hA : cnt 97 t 0 = A) (hB : A + cnt 98 t A = B) (hC : B + cnt 99 t B = C) : den3 t 17 0 = if 0 < A ∧ A = B - A ∧ B < C then some (0, 0) else none := by
  show lookD false (seqRun (den1 t) [1, 15] 0) 0 = _
  have h1 : den1 t 1 0 = ringD 97 98 0 t 0 := rfl
  have h15 : ∀ p, den1 t 15 p = litD 99 t p := fun _ => rfl
  simp only [seqRun, h1, h15]
  by_cases h : 1 ≤ A ∧ A ≤ cnt 98 t A
  · rw [ring_yes hA h.1 (by rw [Nat.zero_add]; exact h.2)]
    dsimp only
    have hp : 0 + 2 * A = A + A := by omega
    rw [hp]
    by_cases e : A = B - A
    · have hAB : A + A = B := by omega
      rw [hAB]
      by_cases hc : 1 ≤ cnt 99 t B
      · rw [lit_yes hc, if_pos (by omega)]; rfl
      · rw [lit_no (by omega), if_neg (by omega)]; rfl
    · have h98 : cnt 98 t (A + A) = cnt 98 t A - A := cnt_add h.2
      have hz : cnt 99 t (A + A) = 0 := cnt_ne (k := 98) (by decide) (by omega)
      rw [lit_no hz, if_neg (by omega)]; rfl
  · rw [ring_no hA (by rw [Nat.zero_add]; exact h), if_neg (by omega)]; rfl
theorem some_val (hA : cnt 97 t 0 = A) : den3 t 9 0 = if 0 < A then some (A, 0) else none := by
  show (if 1 ≤ cnt 97 t 0 then some (0 + cnt 97 t 0, 0) else none) = _
  rw [hA, Nat.zero_add]
  rfl
theorem right_val (hB : A + cnt 98 t A = B) (hC : B + cnt 99 t B = C) : den3 t 5 A = if A < B ∧ B - A ≤ C - B then some (B + (B - A), B - A) else none := by
  show ringD 98 99 1 t A = _
  have hn : cnt 98 t A = B - A := by omega
  have hp : A + (B - A) = B := by omega
  by_cases h : 1 ≤ B - A ∧ B - A ≤ cnt 99 t (A + (B - A))
  · have hh := h.2
    rw [hp] at hh
    rw [ring_yes hn h.1 h.2, if_pos (by omega)]
    simp only [Option.some.injEq, Prod.mk.injEq]
    omega
  · rw [ring_no hn h]
    rw [hp] at h
    rw [if_neg (by omega)]
theorem end_val (hok : Okn 30 t) {q : Nat} (hq : q ≤ t.length) : den3 t 14 q = if q = t.length then some (q, 0) else none := by
  show lookD true (oneRun (den1 t) [10, 11, 12] q) q = _
  have h10 : den1 t 10 q = litD 97 t q := rfl
  have h11 : den1 t 11 q = litD 98 t q := rfl
  have h12 : den1 t 12 q = litD 99 t q := rfl
  simp only [oneRun, h10, h11, h12]
  by_cases h : q = t.length
  · rw [if_pos h, lit_no (cnt_end (by omega)), lit_no (cnt_end (by omega)), lit_no (cnt_end (by omega))]; rfl
  · rw [if_neg h]
    have hl : q < t.cps.toList.length := by have : t.length = t.cps.toList.length := rfl; omega
    have he := List.getElem?_eq_getElem hl
    have hm := hok.2 _ (List.getElem_mem hl)
    by_cases ha : 1 ≤ cnt 97 t q
    · rw [lit_yes ha]; rfl
    by_cases hb : 1 ≤ cnt 98 t q
    · rw [lit_no (by omega), lit_yes hb]; rfl
    by_cases hc : 1 ≤ cnt 99 t q
    · rw [lit_no (by omega), lit_no (by omega), lit_yes hc]; rfl
    rw [cnt_pos, he] at ha hb hc
    rcases hm with hm | hm | hm <;> rw [hm] at ha hb hc <;> simp at ha hb hc
theorem len_bnd (hA : cnt 97 t 0 = A) (hB : A + cnt 98 t A = B) (hC : B + cnt 99 t B = C) : A ≤ B ∧ B ≤ C ∧ C ≤ t.length := by
  have h1 := cnt_le (k := 97) (Nat.zero_le t.length)
  have h2 := cnt_le (k := 98) (p := A) (t := t) (by omega)
  have h3 := cnt_le (k := 99) (p := B) (t := t) (by omega)
  omega
theorem v20 (hA : cnt 97 t 0 = A) (hB : A + cnt 98 t A = B) (hC : B + cnt 99 t B = C) : seqRun (den3 t) [17, 9, 5] 0 = if TailP A B C ∧ A = B - A then some (B + (B - A), B - A) else none := by
  simp only [seqRun, look_val hA hB hC]
  by_cases h : 0 < A ∧ A = B - A ∧ B < C
  · rw [if_pos h]
    dsimp only
    rw [some_val hA, if_pos h.1]
    dsimp only
    rw [right_val hB hC]
    by_cases h2 : A < B ∧ B - A ≤ C - B
    · rw [if_pos h2, if_pos ⟨⟨h.1, h2⟩, h.2.1⟩]; simp
    · rw [if_neg h2, if_neg (fun q => h2 q.1.2)]
  · rw [if_neg h, if_neg (fun q => h (by omega))]
theorem v19 (hok : Okn 30 t) (hA : cnt 97 t 0 = A) (hB : A + cnt 98 t A = B) (hC : B + cnt 99 t B = C) : seqRun (den3 t) [9, 5, 14] 0 = if TailP A B C ∧ B + (B - A) = t.length then some (B + (B - A), B - A) else none := by
  have hl := len_bnd hA hB hC
  simp only [seqRun, some_val hA]
  by_cases h : 0 < A
  · rw [if_pos h]
    dsimp only
    rw [right_val hB hC]
    by_cases h2 : A < B ∧ B - A ≤ C - B
    · rw [if_pos h2]
      dsimp only
      rw [end_val hok (by omega)]
      by_cases h3 : B + (B - A) = t.length
      · rw [if_pos h3, if_pos ⟨⟨h, h2⟩, h3⟩]; simp
      · rw [if_neg h3, if_neg (fun q => h3 q.2)]
    · rw [if_neg h2, if_neg (fun q => h2 q.1.2)]
  · rw [if_neg h, if_neg (fun q => h q.1.1)]
theorem v18 (hok : Okn 30 t) (hA : cnt 97 t 0 = A) (hB : A + cnt 98 t A = B) (hC : B + cnt 99 t B = C) : seqRun (den3 t) [17, 9, 5, 14] 0 = if EqP t A B C then some (t.length, B - A) else none := by
  have hl := len_bnd hA hB hC
  have e : seqRun (den3 t) [17, 9, 5, 14] 0 = match den3 t 17 0 with
    | none => none
    | some (q, c) => match seqRun (den3 t) [9, 5, 14] q with
      | none => none
      | some (q', c') => some (q', c + c') := rfl
  rw [e, look_val hA hB hC]
  by_cases h : 0 < A ∧ A = B - A ∧ B < C
  · rw [if_pos h]
    dsimp only
    rw [v19 hok hA hB hC]
    by_cases h2 : TailP A B C ∧ B + (B - A) = t.length
    · rw [if_pos h2, if_pos (by omega)]
      simp only [Option.some.injEq, Prod.mk.injEq]
      omega
    · rw [if_neg h2, if_neg (by omega)]
  · rw [if_neg h, if_neg (fun q => h (by omega))]
theorem run_cnt {c : Str} {k : Nat} (hc : c.cps = #[k]) : ∀ (f p : Nat), p ≤ t.length → t.length - p ≤ f → runTo c t f p = p + cnt k t p
  | 0, p, hp, hf => by
    rw [cnt_end (by omega)]; rfl
  | f + 1, p, hp, hf => by
    unfold runTo
    by_cases hl : p < t.length
    · by_cases h : 1 ≤ cnt k t p
      · rw [if_pos ((slice_cnt hc hl).mpr h), run_cnt hc f (p + 1) (by omega) (by omega), cnt_succ h]; omega
      · rw [if_neg (fun q => h ((slice_cnt hc hl).mp q))]; omega
    · have hz : cnt k t p = 0 := cnt_end (by omega)
      by_cases h : (Txt.slice t (some (p : Nat)) (some ((p : Nat) + 1)) == c) = true
      · exact absurd (run_lt (by show c.cps.size = 1; rw [hc]; rfl) hp h) hl
      · rw [if_neg h]; omega
/-- all that the law asks of the text -/
structure Facts (t : Str) (A B C : Nat) : Prop where
  ab : A ≤ B
  bc : B ≤ C
  cl : C ≤ t.length
  good : ∀ Γ : List Ex, Shape Γ → 18 < Γ.length → Good Γ t (denL t) (muL t)
  f1 : takenEnd true t.length (denL t 18 0) = if EqP t A B C then some C else none
  f2 : takenEnd false t.length (denL t 18 0) = if EqP t A B C then some C else none
  f3 : takenEnd true t.length (denL t 19 0) = if TailP A B C ∧ C - B = B - A ∧ C = t.length then some C else none
  f4 : takenEnd false t.length (denL t 20 0) = if TailP A B C ∧ A = B - A then some (B + (B - A)) else none
  f5 : takenEnd true t.length (denL t 21 0) = if (TailP A B C ∧ A = B - A) ∧ B + (B - A) = t.length then some (B + (B - A)) else none
  f6 : EqP t A B C → denL t 18 0 = some (t.length, B - A) ∧ takenEnd false t.length (denL t 1 0) = some B
theorem taken_f {len q c : Nat} : takenEnd false len (some (q, c)) = some q := rfl
theorem taken_t {len q c : Nat} : takenEnd true len (some (q, c)) = if q = len then some q else none := by
  unfold takenEnd
  dsimp only
  by_cases h : q = len
  · rw [if_neg (fun x => x.2 h), if_pos h]
  · rw [if_pos ⟨rfl, h⟩, if_neg h]
theorem taken_0 {b : Bool} {len : Nat} : takenEnd b len none = none := rfl
theorem facts (hok : Okn 30 t) (hA : cnt 97 t 0 = A) (hB : A + cnt 98 t A = B) (hC : B + cnt 99 t B = C) : Facts t A B C := by
  have hl := len_bnd hA hB hC
  have e18 : denL t 18 0 = _ := v18 hok hA hB hC
  have e19 : denL t 19 0 = _ := v19 hok hA hB hC
  have e20 : denL t 20 0 = _ := v20 hA hB hC
  have e21 : denL t 21 0 = _ := v20 hA hB hC
  refine { ab := hl.1, bc := hl.2.1, cl := hl.2.2, good := fun Γ S h => good_L S h, f1 := ?_, f2 := ?_, f3 := ?_, f4 := ?_, f5 := ?_, f6 := fun h => ⟨?_, ?_⟩ }
  · rw [e18]
    by_cases h : EqP t A B C
    · rw [if_pos h, if_pos h, taken_t, if_pos rfl, h.1]
    · rw [if_neg h, if_neg h]; rfl
  · rw [e18]
    by_cases h : EqP t A B C
    · rw [if_pos h, if_pos h, taken_f, h.1]
    · rw [if_neg h, if_neg h]; rfl
  · rw [e19]
    by_cases h : TailP A B C ∧ B + (B - A) = t.length
    · rw [if_pos h, taken_t, if_pos h.2, if_pos ⟨h.1, by omega, by omega⟩, Option.some.injEq]; omega
    · rw [if_neg h, if_neg (fun q => h ⟨q.1, by omega⟩)]; rfl
  · rw [e20]
    by_cases h : TailP A B C ∧ A = B - A
    · rw [if_pos h, if_pos h]; rfl
    · rw [if_neg h, if_neg h]; rfl
  · rw [e21]
    by_cases h : TailP A B C ∧ A = B - A
    · rw [if_pos h, taken_t]
      by_cases h2 : B + (B - A) = t.length
      · rw [if_pos h2, if_pos ⟨h, h2⟩]
      · rw [if_neg h2, if_neg (fun q => h2 q.2)]
    · rw [if_neg h, if_neg (fun q => h q.1)]; rfl
  · rw [e18, if_pos h]
  · show takenEnd false t.length (ringD 97 98 0 t 0) = _
    rw [ring_yes hA (by omega) (by rw [Nat.zero_add]; omega), taken_f, Option.some.injEq]; omega
theorem run_facts (hok : Okn 30 t) : ∃ A B C, Facts t A B C ∧ runTo (Str.ofString "a") t (t.length - 0) 0 = A ∧ runTo (Str.ofString "b") t (t.length - A) A = B ∧ runTo (Str.ofString "c") t (t.length - B) B = C := by
  obtain ⟨A, hA⟩ : ∃ A, cnt 97 t 0 = A := ⟨_, rfl⟩
  obtain ⟨B, hB⟩ : ∃ B, A + cnt 98 t A = B := ⟨_, rfl⟩
  obtain ⟨C, hC⟩ : ∃ C, B + cnt 99 t B = C := ⟨_, rfl⟩
  have hl := len_bnd hA hB hC
  refine ⟨A, B, C, facts hok hA hB hC, ?_, ?_, ?_⟩
  · rw [run_cnt (k := 97) (by decide +kernel) _ _ (Nat.zero_le _) (Nat.le_refl _), hA, Nat.zero_add]
  · rw [run_cnt (k := 98) (by decide +kernel) _ _ (by omega) (Nat.le_refl _), hB]
  · rw [run_cnt (k := 99) (by decide +kernel) _ _ (by omega) (Nat.le_refl _), hC]
end
end Mine
end
section
example : True := by
  w_top off
  trivial
open PySem PySem.W PyProof.Rows PySem.Spec PySem.Calls PyProof.V
namespace Mine
theorem self_seq (w : World) {e : Ex} {ms : List Nat} (h : e.instOk) (hk : e.k = .seq ms) : SelfAt (Mine.hd.heap_39 w.params) e 394 2 := by
  obtain ⟨a, d, t, nm, k, o⟩ := e
  cases hk
  unfold Ex.instOk at h
  dsimp only at h
  obtain ⟨it, t2, rfl⟩ := h
  exact ⟨cls_seq w, rfl, rfl, rfl, _, rfl⟩
theorem eq1 {t : Str} {A B C : Nat} (hab : A ≤ B) (hbc : B ≤ C) (h1 : ((C : Nat) : Int) = ((t.length : Nat) : Int)) (h2 : 0 < ([(A : Int), (B : Int) - (A : Int), (C : Int) - (B : Int)] : List Int).getD (Int.toNat 0) 0) :
    decide (([(A : Int), (B : Int) - (A : Int), (C : Int) - (B : Int)] : List Int) = (List.replicate (Int.toNat 3) [([(A : Int), (B : Int) - (A : Int), (C : Int) - (B : Int)] : List Int).getD (Int.toNat 0) 0]).flatten) = true ↔ EqP t A B C := by
  replace h2 : 0 < (A : Int) := h2
  rw [decide_eq_true_iff]
  show ([(A : Int), (B : Int) - (A : Int), (C : Int) - (B : Int)] : List Int) = [(A : Int), (A : Int), (A : Int)] ↔ _
  simp only [List.cons.injEq, true_and, and_true]
  constructor
  · intro h; refine ⟨?_, ?_, ?_, ?_⟩ <;> omega
  · rintro ⟨a, b, c, d⟩; omega
theorem eq2 {t : Str} {A B C : Nat} (h2 : ¬ 0 < ([(A : Int), (B : Int) - (A : Int), (C : Int) - (B : Int)] : List Int).getD (Int.toNat 0) 0) :
    decide (0 < ([(A : Int), (B : Int) - (A : Int), (C : Int) - (B : Int)] : List Int).getD (Int.toNat 0) 0) = true ↔ EqP t A B C := by
  rw [decide_eq_true_iff]
  replace h2 : ¬ 0 < (A : Int) := h2
  exact ⟨fun h => absurd h h2, fun ⟨a, b, c, d⟩ => by omega⟩
theorem eq3 {t : Str} {A B C : Nat} (h1 : ((C : Nat) : Int) ≠ ((t.length : Nat) : Int)) : (((C : Nat) : Int) == ((t.length : Nat) : Int)) = true ↔ EqP t A B C := by
  rw [beq_iff_eq]
  exact ⟨fun h => absurd h h1, fun ⟨a, _⟩ => by omega⟩
/-- a value is made -/
def ValTo (h₀ : Heap) (L : Addr) (m : Str → Option Value) (led : List (Addr × Obj)) (P : Value → Prop) (s : Shared) (v : Value) (s' : Shared) : Prop := P v ∧ ∃ h tk, s' = { s with heap := h, toks := tk } ∧ Fr h₀ L h m ∧ News h₀ L h led
theorem val_cut (P : Value → Prop) {M : Model} {A : Around} {E : Value → Shared → Prop} {s : Shared} {x : Sem Value} {Q : Value → Shared → Prop} {h₀ : Heap} {L : Addr} {m : Str → Option Value} {led : List (Addr × Obj)} (_F : Fr h₀ L s.heap m) (_N : News h₀ L s.heap led)
    (h1 : wpAny M A x (ValTo h₀ L m led P s) E s) (h2 : ∀ v h tk, P v → Fr h₀ L h m → News h₀ L h led → Q v { s with heap := h, toks := tk }) : PureHere M A E s x Q :=
  wpAny_mono h1 (fun v s' ⟨a, h, tk, b, c, d⟩ => by subst b; exact h2 v h tk a c d) fun _ _ y => y
theorem Idl.kept {Γ : List Ex} {B : Nat} {keep led : List (Addr × Obj)} (I : Idl Γ B keep led) : ∀ p ∈ keep, p ∈ led := by
  obtain ⟨⟨ds, imm, D, hk, rfl⟩, cl, sh⟩ := I
  exact fun p hp => List.mem_append_right _ (hk p hp)
theorem Idl.keepNews {Γ : List Ex} {B : Nat} {z : Addr × Obj} {keep led : List (Addr × Obj)} {h₀ h : Heap} {L : Addr} (I : Idl Γ B (z :: keep) led) (N : News h₀ L h led) : News h₀ L h (z :: led) := News.sub N fun p hp => by
  rcases List.mem_cons.mp hp with rfl | hp
  · exact I.kept _ (.head _)
  · exact hp
section
variable {prog : Program} {w : World} {A : Around} {E : Value → Shared → Prop} {s : Shared}
theorem cmp_none {Q : Value → Shared → Prop} (h : Q (.bool false) s) : wpAny (model prog w) A (compareOp .NotEq .none .none) Q E s := by
  k_steps
  exact h
theorem cmp_int {Q : Value → Shared → Prop} {q : Int} {t t' : Tok} (h : Q (.bool false) s) : wpAny (model prog w) A (compareOp .NotEq (.int q t) (.int q t')) Q E s := by
  k_steps
  rw [bne_self_eq_false]
  exact h
theorem cmp_opt {Q : Value → Shared → Prop} {o : Option Nat} {t t' : Tok} (h : Q (.bool false) s) : wpAny (model prog w) A (compareOp .NotEq (optVal o t) (optVal o t')) Q E s := by
  cases o with
  | none => exact cmp_none h
  | some q => exact cmp_int h
end
theorem valTo_mk {h₀ : Heap} {L : Addr} {m : Str → Option Value} {led : List (Addr × Obj)} {P : Value → Prop} {s : Shared} {v : Value} {h : Heap} {tk : Nat} (hp : P v) (F : Fr h₀ L h m) (N : News h₀ L h led) : ValTo h₀ L m led P s v { s with heap := h, toks := tk } := ⟨hp, h, tk, rfl, F, N⟩
theorem taken_I {w : World} {p : Program} {loose : List Str} {mean : ExcName → Option Value} {mg mb : Str → Option Value} {Γ : List Ex} {txt : Str} {B i : Nat} {keep led : List (Addr × Obj)} {e : Ex} {ms : List Nat} (I : Idl Γ B keep led) (G : Good Γ txt (denL txt) (muL txt)) (he : Γ[i]? = some e) (hke : e.k = .seq ms)
    (hok : Okn 30 txt) (hΓ : Γ.length ≤ 1000) (hB : B ≤ 1000) (tt : Tok) (whole : Bool) {r : Option Nat} (hr : takenEnd whole txt.length (denL txt i 0) = r) :
    CallsT w p loose mean mg mb 526 5360 545 [.ref e.a, .str txt tt, .bool whole] led (fun v news' => (∃ tk, v = optVal r tk) ∧ Idl Γ (B + 1) keep news') := by
  obtain ⟨⟨ds, imm, D, hk', rfl⟩, cl, sh⟩ := I
  have SA := self_seq w (D.exs i e he).2.1 hke
  have hm := mu_le hok.1 i 0
  intro dp un gd cn cs a ccd cl' A₀ base h₀ L m s Q E Bl XB TB F X N T hk hdp hun ret
  refine CallsT.use Bl XB TB F X N T hk (taken_c tt whole D G he SA (Nat.le_trans hok.1 (by decide)) hΓ hB) (Nat.lt_of_le_of_lt (by omega) hdp) (Nat.lt_of_le_of_lt (by omega) hun) fun v news' h' tk' F' N' P => ?_
  rw [hr] at P
  exact ret v news' h' tk' F' N' (Idl.taken hk' P cl sh)
/-- the nodes of a parse -/
def NodesAt (Γ : List Ex) (txt : Str) (B : Nat) (keep : List (Addr × Obj)) (nd c : Nat) (led : List (Addr × Obj)) : Prop :=
  ∃ ds imm h i p q, Idle Γ B ds imm ∧ (∀ p ∈ keep, p ∈ imm) ∧ led = ds.map DO.cell ++ imm ∧ h ≤ 125 ∧ NodeOk Γ txt imm h nd i p q c
theorem parse_I {w : World} {p : Program} {loose : List Str} {mean : ExcName → Option Value} {mg mb : Str → Option Value} {Γ : List Ex} {txt : Str} {B i c : Nat} {keep led : List (Addr × Obj)} {e : Ex} {ms : List Nat} (I : Idl Γ B keep led) (G : Good Γ txt (denL txt) (muL txt)) (he : Γ[i]? = some e) (hke : e.k = .seq ms)
    (hok : Okn 30 txt) (hΓ : Γ.length ≤ 1000) (hB : B ≤ 1000) (tt : Tok) (hr : denL txt i 0 = some (txt.length, c)) :
    CallsX w p loose mean mg mb 520 5260 251 [.ref e.a, .str txt tt] [] led (fun v news' => ∃ nd, v = .ref nd ∧ NodesAt Γ txt (B + 1) keep nd c news' ∧ Idl Γ (B + 1) keep news') (fun _ _ _ => False) := by
  obtain ⟨⟨ds, imm, D, hk', rfl⟩, cl, sh⟩ := I
  have SA := self_seq w (D.exs i e he).2.1 hke
  have hm := mu_le hok.1 i 0
  intro dp un gd cn cs a ccd cl' outer A₀ base h₀ L m s Q E Bl F X N T hk hdp hun ret exn
  refine CallsX.use Bl F X N T hk (parse_c tt D G he SA (Nat.le_trans hok.1 (by decide)) hΓ hB) (Nat.lt_of_le_of_lt (by omega) hdp) (Nat.lt_of_le_of_lt (by omega) hun) (fun v news' h' tk' F' N' P => ?_) (fun C e a0 news' g' h' tk' _ _ _ X => ?_)
  · obtain ⟨⟨q, c', ds', imm', nd, h1, h2, h3, h4, h5, h6⟩, _⟩ := P
    rw [hr] at h1
    cases h1
    exact ret v news' h' tk' F' N' ⟨nd, h5, ⟨ds', imm', _, i, 0, _, h3, fun p hp => h4 p (hk' p hp), h2, by omega, h6⟩, ⟨ds', imm', h3, fun p hp => h4 p (hk' p hp), h2⟩, cl, sh⟩
  · exact absurd hr (X.1 c)
theorem nodes_I {w : World} {p : Program} {loose : List Str} {mean : ExcName → Option Value} {mg mb : Str → Option Value} {Γ : List Ex} {txt : Str} {B nd c : Nat} {keep led : List (Addr × Obj)} (X : NodesAt Γ txt B keep nd c led) (tn : Tok) :
    IntCallL w p loose mean mg mb 510 5100 557 [.ref nd, .str (Str.ofString "right") tn] led (fun r => ∃ t, r = .int ((c : Nat) : Int) t) := by
  obtain ⟨ds, imm, h, i, p, q, D, hk, rfl, hh, X⟩ := X
  intro led dp un gd cn cs a ccd cl' outer A₀ base h₀ L m s Q E Bl F Xi N hs T hk hdp hun ret
  exact IntCallL.use Bl F Xi N hs T hk (law_nodes D h nd i p q c X tn) (Nat.lt_of_le_of_lt (by omega) hdp) (Nat.lt_of_le_of_lt (by omega) hun) ret
abbrev rl (A B C : Nat) : List Int := [(A : Int), (B : Int) - (A : Int), (C : Int) - (B : Int)]
theorem tail1 {A B C : Nat} (hab : A ≤ B) (hbc : B ≤ C) (h0 : 0 < ([(A : Int), (B : Int) - (A : Int), (C : Int) - (B : Int)] : List Int).getD (Int.toNat 0) 0) (h1 : 0 < ([(A : Int), (B : Int) - (A : Int), (C : Int) - (B : Int)] : List Int).getD (Int.toNat 1) 0) :
    decide (([(A : Int), (B : Int) - (A : Int), (C : Int) - (B : Int)] : List Int).getD (Int.toNat 1) 0 ≤ ([(A : Int), (B : Int) - (A : Int), (C : Int) - (B : Int)] : List Int).getD (Int.toNat 2) 0) = true ↔ TailP A B C := by
  rw [decide_eq_true_iff]
  replace h0 : 0 < (A : Int) := h0
  replace h1 : 0 < (B : Int) - (A : Int) := h1
  show (B : Int) - (A : Int) ≤ (C : Int) - (B : Int) ↔ _
  constructor
  · intro h; refine ⟨?_, ?_, ?_⟩ <;> omega
  · rintro ⟨a, b, c⟩; omega
theorem tail2 {A B C : Nat} (h1 : ¬ 0 < ([(A : Int), (B : Int) - (A : Int), (C : Int) - (B : Int)] : List Int).getD (Int.toNat 1) 0) :
    decide (0 < ([(A : Int), (B : Int) - (A : Int), (C : Int) - (B : Int)] : List Int).getD (Int.toNat 1) 0) = true ↔ TailP A B C := by
  rw [decide_eq_true_iff]
  replace h1 : ¬ 0 < (B : Int) - (A : Int) := h1
  exact ⟨fun h => absurd h h1, fun ⟨a, b, c⟩ => by omega⟩
theorem tail3 {A B C : Nat} (h0 : ¬ 0 < ([(A : Int), (B : Int) - (A : Int), (C : Int) - (B : Int)] : List Int).getD (Int.toNat 0) 0) :
    decide (0 < ([(A : Int), (B : Int) - (A : Int), (C : Int) - (B : Int)] : List Int).getD (Int.toNat 0) 0) = true ↔ TailP A B C := by
  rw [decide_eq_true_iff]
  replace h0 : ¬ 0 < (A : Int) := h0
  exact ⟨fun h => absurd h h0, fun ⟨a, b, c⟩ => by omega⟩
theorem opt_yes {X : Prop} [Decidable X] {o : Option Nat} {q : Nat} (ho : o = if X then some q else none) (hx : X) {z : Int} (hz : z = (q : Nat)) (tk : Tok) : ∃ tk', Value.int z tk = optVal o tk' := ⟨tk, by rw [ho, if_pos hx, hz]; rfl⟩
theorem opt_no {X : Prop} [Decidable X] {o : Option Nat} {q : Nat} (ho : o = if X then some q else none) (hx : ¬ X) : ∃ tk', Value.none = optVal o tk' := ⟨0, by rw [ho, if_neg hx]; rfl⟩
section
variable {t : Str} {A B C : Nat} {o : Option Nat}
theorem o3_yes (hab : A ≤ B) (hbc : B ≤ C) (hP : TailP A B C) (h1 : ([(A : Int), (B : Int) - (A : Int), (C : Int) - (B : Int)] : List Int).getD (Int.toNat 2) 0 = ([(A : Int), (B : Int) - (A : Int), (C : Int) - (B : Int)] : List Int).getD (Int.toNat 1) 0) (h2 : ((C : Nat) : Int) = ((t.length : Nat) : Int)) : TailP A B C ∧ C - B = B - A ∧ C = t.length := by
  replace h1 : (C : Int) - (B : Int) = (B : Int) - (A : Int) := h1
  exact ⟨hP, by omega, by omega⟩
theorem o3_no1 (h2 : ((C : Nat) : Int) ≠ ((t.length : Nat) : Int)) : ¬ (TailP A B C ∧ C - B = B - A ∧ C = t.length) := by
  rintro ⟨a, b, c⟩; omega
theorem o3_no2 (hab : A ≤ B) (hbc : B ≤ C) (h1 : ([(A : Int), (B : Int) - (A : Int), (C : Int) - (B : Int)] : List Int).getD (Int.toNat 2) 0 ≠ ([(A : Int), (B : Int) - (A : Int), (C : Int) - (B : Int)] : List Int).getD (Int.toNat 1) 0) : ¬ (TailP A B C ∧ C - B = B - A ∧ C = t.length) := by
  replace h1 : (C : Int) - (B : Int) ≠ (B : Int) - (A : Int) := h1
  rintro ⟨a, b, c⟩; omega
theorem o4_yes (hab : A ≤ B) (hP : TailP A B C) (h1 : ([(A : Int), (B : Int) - (A : Int), (C : Int) - (B : Int)] : List Int).getD (Int.toNat 0) 0 = ([(A : Int), (B : Int) - (A : Int), (C : Int) - (B : Int)] : List Int).getD (Int.toNat 1) 0) : TailP A B C ∧ A = B - A := by
  replace h1 : (A : Int) = (B : Int) - (A : Int) := h1
  exact ⟨hP, by omega⟩
theorem o4_val (hab : A ≤ B) : ((B : Nat) : Int) + ([(A : Int), (B : Int) - (A : Int), (C : Int) - (B : Int)] : List Int).getD (Int.toNat 1) 0 = ((B + (B - A) : Nat) : Int) := by
  show (B : Int) + ((B : Int) - (A : Int)) = _
  omega
theorem o4_no (hab : A ≤ B) (h1 : ([(A : Int), (B : Int) - (A : Int), (C : Int) - (B : Int)] : List Int).getD (Int.toNat 0) 0 ≠ ([(A : Int), (B : Int) - (A : Int), (C : Int) - (B : Int)] : List Int).getD (Int.toNat 1) 0) : ¬ (TailP A B C ∧ A = B - A) := by
  replace h1 : (A : Int) ≠ (B : Int) - (A : Int) := h1
  rintro ⟨a, b⟩; omega
theorem nodes_eq (hab : A ≤ B) : ((B - A : Nat) : Int) = ([(A : Int), (B : Int) - (A : Int), (C : Int) - (B : Int)] : List Int).getD (Int.toNat 1) 0 := by
  show _ = (B : Int) - (A : Int)
  omega
theorem news_nil {h₀ h : Heap} {L : Addr} : News h₀ L h [] := fun _ h => nomatch h
end
theorem Idl.dOf {Γ : List Ex} {B i : Nat} {keep led : List (Addr × Obj)} {e : Ex} (I : Idl Γ B keep led) (he : Γ[i]? = some e) : ∃ (x : DO) (imm : List (Addr × Obj)), (e.a, e.o) ∈ led ∧ (x.d, x.o) ∈ led ∧ x.d = e.d ∧ DObj imm x ∧ e.instOk := by
  obtain ⟨⟨ds, imm, D, hk, rfl⟩, cl, sh⟩ := I
  obtain ⟨x, hx, hxd, xok, _, _⟩ := D.dok i e he
  have h := D.exs i e he
  exact ⟨x, imm, List.mem_append_right _ h.1, List.mem_append_left _ (List.mem_map_of_mem (List.mem_of_getElem? hx)), hxd, xok, h.2.1⟩
theorem Idl.kind {Γ : List Ex} {B i : Nat} {keep led : List (Addr × Obj)} {e : Ex} {k : Kind} {nm : Str} (I : Idl Γ B keep led) (he : Γ[i]? = some e) (hk : KN[i]? = some (k, nm)) : e.k = k := by
  have h := shape_at I.sh he
  rw [hk] at h
  cases h
  rfl
end Mine
end
section
example : True := by
  w_top off
  trivial
open PySem PySem.W PyProof.Rows PySem.Spec PySem.Calls
namespace Mine
local macro_rules | `(tactic| k_room) => `(tactic| ktr_room)
local macro_rules | `(tactic| k_units) => `(tactic| ktr_units)
local macro_rules | `(tactic| k_all) => `(tactic| (refine up_neAll (by assumption) ?_; first | tbn_find | exact allLt_of (by assumption)))
local macro_rules | `(tactic| k_all) => `(tactic| (refine tbn_neAll ?_; first | tbn_find | exact allLt_of (by assumption)))
local macro_rules | `(tactic| ks_enter) => `(tactic| (refine' ks_code_super ?k1 ?k2 ?k3 ?k4 ?k5 ?kA ?kF ?kK ?k6 ?k7 ?k8 ?k9 ?kB ?_ ?c1 ?c2 ?c3 ?c4; (case kA => exact rfl); (case kF => exact rfl); (case kK => first | exact rfl | assumption); (case k1 => k_asm); (case k2 => k_asm); (case k3 => k_asm); (case k4 => k_asm); (case k5 => k_asm); (case k6 => k_is); (case k7 => k_is); (case k8 => k_room); (case k9 => exact binds_K (by k_in) rfl (by k_is) rfl rfl rfl); (case kB => exact locs rfl); (case c1 => decide); (case c2 => exact rfl); (case c3 => exact rfl); (case c4 => exact rfl); intro g' L' h' FG' F' N' B' X' T' l1; (try k_lt l1); (try dsimp only); (try k_lift B')))
local macro_rules | `(tactic| ks_enter) => `(tactic| (refine' superMore ?k1 ?k2 ?k3 ?k4 ?k5 ?kA ?kF ?kK ?k6 ?k7 ?k8 ?kX ?kM ?kN ?kR ?kP ?kT ?kB ?_ ?c2 ?c3 ?c4 ?c5; (case kA => exact rfl); (case kF => exact rfl); (case kK => first | exact rfl | assumption); (case k1 => k_asm); (case k2 => k_asm); (case k3 => k_asm); (case k4 => k_asm); (case k5 => k_asm); (case k6 => k_is); (case k7 => k_is); (case k8 => k_room); (case kX => kp_lit); (case kM => exact rfl); (case kN => exact rfl); (case kR => exact rfl); (case kP => exact rfl); (case kT => exact fun _ => rfl); (case kB => exact fun _ => locs rfl); (case c5 => decide); (case c2 => exact rfl); (case c3 => exact rfl); (case c4 => exact rfl); intro D' o' g' L' h' tk' l1 lo' hs' FG' F' N' B' X' T' l2; (try k_lt l1); (try k_lt2 l2); (try dsimp only); (try k_lift B')))
local macro_rules | `(tactic| ks_enter) => `(tactic| (refine' superBoth ?k1 ?k2 ?k3 ?k4 ?k5 ?kA ?kF ?kK ?k6 ?k7 ?k8 ?kV ?kX ?kQ ?kM ?kN ?kR ?kP ?kS ?kT ?kB ?_ ?c2 ?c3 ?c4 ?c5; (case kA => exact rfl); (case kF => exact rfl); (case kK => first | exact rfl | assumption); (case k1 => k_asm); (case k2 => k_asm); (case k3 => k_asm); (case k4 => k_asm); (case k5 => k_asm); (case k6 => k_is); (case k7 => k_is); (case k8 => k_room); (case kV => kp_lit); (case kX => kp_lit); (case kQ => exact rfl); (case kM => exact rfl); (case kN => exact rfl); (case kR => exact rfl); (case kP => exact rfl); (case kS => exact fun _ => rfl); (case kT => exact fun _ _ => rfl); (case kB => exact fun _ _ => locs rfl); (case c5 => decide); (case c2 => exact rfl); (case c3 => exact rfl); (case c4 => exact rfl); intro C' D' o' g' L' h' tk' l1 l2 lo' hs' FG' F' N' B' X' T' l3; (try k_lt l1); (try k_lt2 l2); (try k_lt2 l3); (try dsimp only); (try k_lift B')))
local macro_rules | `(tactic| walk_at "wpAt") => `(tactic| (ks_step "execs cons"; k_dflt (refine ks_wpAt_execs_cons ?_)))
local macro_rules | `(tactic| walk_at "wpAt") => `(tactic| (ks_step "exec Expr"; k_dflt (refine ks_wpAt_Expr_any ?_)))
local macro_rules | `(tactic| walk_at "wpAt") => `(tactic| (ks_step "eval Call"; k_dflt (refine ks_wpAt_MethodCall ?_)))
local macro_rules | `(tactic| k_mem) => `(tactic| first | assumption | exact List.mem_cons_self | exact List.Mem.head _ | (refine' List.mem_cons_of_mem _ ?_; k_mem))
abbrev OkTxt (t : Str) : Prop := Okn 30 t
def IfHere (M : Model) (A : Around) (E : Value → Shared → Prop) (s : Shared) (env : Env) (x : Stmt) (Q : Flow → Shared → Prop) : Prop := wpAny M A (exec x env) Q E s
theorem if_stop {M : Model} {A : Around} {E : Value → Shared → Prop} {s : Shared} {env : Env} {x : Stmt} {Q : Flow → Shared → Prop} (h : IfHere M A E s env x Q) : wpAny M A (exec x env) Q E s := h
theorem if_go {M : Model} {A : Around} {E : Value → Shared → Prop} {s : Shared} {env : Env} {x : Stmt} {Q : Flow → Shared → Prop} (h : wpAny M A (exec x env) Q E s) : IfHere M A E s env x Q := h
/-- the text is built -/
def TextMade (h₀ : Heap) (L : Addr) (m0 : Str → Option Value) (led : List (Addr × Obj)) (s : Shared) (f : Flow) (s' : Shared) : Prop :=
  f = .next ∧ ∃ h tk m txt tt, s' = { s with heap := h, toks := tk } ∧ Fr h₀ L h m ∧ News h₀ L h led ∧ OkTxt txt ∧ m (Str.ofString "text") = some (.str txt tt)
theorem if_cut {M : Model} {A : Around} {E : Value → Shared → Prop} {s : Shared} {env : Env} {x : Stmt} {Q : Flow → Shared → Prop} {h₀ : Heap} {L : Addr} {m m0 : Str → Option Value} {led led' : List (Addr × Obj)} (_F : Fr h₀ L s.heap m) (_N : News h₀ L s.heap led)
    (h1 : wpAny M A (exec x env) (TextMade h₀ L m0 led' s) E s) (h2 : ∀ h tk m txt tt, Fr h₀ L h m → News h₀ L h led' → OkTxt txt → m (Str.ofString "text") = some (.str txt tt) → Q .next { s with heap := h, toks := tk }) : IfHere M A E s env x Q :=
  wpAny_mono h1 (fun f s' ⟨e, h, tk, m, txt, tt, a, b, c, d, g⟩ => by subst e; subst a; exact h2 h tk m txt tt b c d g) fun _ _ y => y
local macro_rules | `(tactic| walk_at "call ref") => `(tactic| (k_here; k_dflt (refine call_stop ?_)))
local macro_rules | `(tactic| walk_at "callWith ref") => `(tactic| (k_here; k_dflt (refine' callWith_K ?k1 ?k2 ?_; (case k1 => k_asm); (case k2 => k_is); k_whole)))
local macro_rules | `(tactic| walk_at "execs nil") => `(tactic| (k_here; refine wpAny_execs_nil ?_))
local macro_rules | `(tactic| walk_at "call type:enumerate") => `(tactic| (k_here; k_dflt (refine pure_stop ?_)))
local macro_rules | `(tactic| walk_at "subscriptTail") => `(tactic| (k_here; (fail_if_success (with_reducible show wpAny _ _ _ (PureTo _ _) _ _)); k_dflt (refine pure_stop ?_)))
local macro_rules | `(tactic| walk_at "binaryOp Mult str int") => `(tactic| (k_here; k_dflt (refine pure_stop ?_)))
local macro_rules | `(tactic| walk_at "binaryOp Add str str") => `(tactic| (k_here; k_dflt (refine pure_stop ?_)))
local macro_rules | `(tactic| walk_at "call builtin:str.join") => `(tactic| (k_here; k_dflt (refine pure_stop ?_)))
local macro_rules | `(tactic| walk_at "eval ListComp") => `(tactic| (k_here; k_dflt (refine listComp_stop ?_)))
local macro_rules | `(tactic| walk_at "exec If") => `(tactic| (k_here; (with_reducible show wpAny _ _ (exec (Stmt.If (Expr.Compare (Expr.BinOp _ _ _ _) _ _ _) _ _ _) _) _ _ _); k_dflt (refine if_stop ?_)))
def MethHere (M : Model) (A : Around) (E : Value → Shared → Prop) (s : Shared) (x : Sem (Value × List Value)) (Q : Value × List Value → Shared → Prop) : Prop := wpAny M A x Q E s
theorem meth_stop {M : Model} {A : Around} {E : Value → Shared → Prop} {s : Shared} {x : Sem (Value × List Value)} {Q : Value × List Value → Shared → Prop} (h : MethHere M A E s x Q) : wpAny M A x Q E s := h
theorem meth_go {M : Model} {A : Around} {E : Value → Shared → Prop} {s : Shared} {x : Sem (Value × List Value)} {Q : Value × List Value → Shared → Prop} (h : wpAny M A x Q E s) : MethHere M A E s x Q := h
local macro_rules | `(tactic| walk_at "getMethod ref") => `(tactic| (k_here; k_dflt (refine meth_stop ?_)))
local macro_rules | `(tactic| walk_at "eval BoolOp") => `(tactic| (k_here; (fail_if_success (with_reducible show wpAny _ _ _ (ValTo _ _ _ _ _ _) _ _)); k_dflt (refine pure_stop ?_)))
local macro_rules | `(tactic| walk_at "call builtin:len") => `(tactic| (k_here; k_dflt (refine len_str (by assumption) ?_)))
local macro_rules | `(tactic| walk_at "eval IfExp") => `(tactic| (k_here; (fail_if_success (with_reducible show wpAny _ _ _ (ValTo _ _ _ _ _ _) _ _)); k_dflt (refine pure_stop ?_)))
set_option hygiene false in
theorem X : PySem.Challenge.rw_vy0016_01.Holds := Mine.hd (by
  k_go0
  all_goals try k_fold
  rename Fr _ _ _ _ => F1
  rename News _ _ _ _ => N1
  rename IntsAre _ _ => hI
  rename ¬ (_ : Int) < _ => hlen
  rename Heap.IsList (ghostOf _ _) _ _ => hLst
  k_steps
  refine call_go ?_
  refine IntCall.use (by assumption) F1 (by assumption) N1 (by assumption) rfl (law_number hI (by omega) 0 _ (by decide)) (by decide) (by decide) hLst ?_
  rintro _ h2 tk2 F2 N2 ⟨z0, t0, rfl⟩
  clear F1 N1
  k_steps
  rename Fr _ _ _ _ => F3
  rename News _ _ _ _ => N3
  refine if_cut F3 N3 (led' := [(176, tabObj #[])]) (m0 := fun _ => none) ?_ ?_
  · refine wpAny_If ?_
    k_steps
    · refine listComp_go ?_
      rename Fr _ _ _ _ => F4
      rename News _ _ _ _ => N4
      refine ListComp_E (Str.ofString "abc") (fun i ys => ys.length = i ∧ ∃ us, StrsAre ys us ∧ ∀ u ∈ us, Okn 5 u) F4 N4 (by rfl) (by decide) (by rfl) (by decide) (by rfl) (by rfl) (by decide) rfl (by decide +kernel) ⟨rfl, [], .nil, fun _ h => nomatch h⟩ ?turn ?done ?iter
      case iter =>
        k_steps
        refine pure_go ?_
        rename Fr _ _ _ _ => F5
        rename News _ _ _ _ => N5
        exact enum_back (txt := Str.ofString "abc") F5 N5 (by decide +kernel) ⟨_, _, rfl⟩
      case turn =>
        rintro i ys _ _ C oC D e it oe oi m2 h5 tk5 E' hi ⟨hyl, us, hus, hok⟩ ⟨t1, rfl⟩ ⟨c, t2, hc, rfl⟩ hoC hm1 hm2 F5 N5
        clear N4
        k_steps
        refine call_go ?_
        rename Fr _ _ _ _ => F5
        rename News _ _ _ _ => N5
        refine IntCall.use (by assumption) F5 (by assumption) N5 (by assumption) rfl (law_number hI (by omega) (1 + (i : Int)) _ (by omega)) (by decide) (by decide) hLst ?_
        rintro _ h6 tk6 F6 N6 ⟨z1, t1, rfl⟩
        clear F5 N5
        k_steps
        refine pure_cut (fun v => ∃ z t, v = .int z t ∧ -1 ≤ z ∧ z ≤ 1) ?_ ?_
        · k_steps
          all_goals exact ⟨⟨_, _, rfl, by omega, by omega⟩, _, rfl⟩
        rintro _ tk7 ⟨z2, t2', rfl, hz2, hz2'⟩
        k_steps
        refine pure_go ?_
        have hc1 := okn_abc hc
        have hb1 : 0 ≤ (z0.fdiv 3).fmod 4 := Int.fmod_nonneg_of_pos _ (by decide)
        have hb2 : (z0.fdiv 3).fmod 4 < 4 := Int.fmod_lt_of_pos _ (by decide)
        have hz3 := max_lo (1 + (z0.fdiv 3).fmod 4 + z2)
        have hz3' := max_hi (x := 1 + (z0.fdiv 3).fmod 4 + z2) (by omega)
        refine SB.mul (mul_ok hc1 hz3' hz3) fun t' k => ?_
        rename Fr _ _ _ _ => F7
        rename News _ _ _ _ => N7
        exact ⟨_, _, rfl, F7, Mine.News.tail1 N7, by simp [hyl], us ++ [_], strs_snoc hus _ _, fun u hu => (List.mem_append.mp hu).elim (fun q => hok u q) fun q => List.mem_singleton.mp q ▸ okn_mul hc1 hz3' (by omega)⟩
      case done =>
        rintro D h5 tk5 ys F5 N5 ⟨hyl, us, hus, hok⟩
        clear N4
        k_steps
        refine pure_go ?_
        have hl3 : us.length = 3 := (strs_len hus).trans hyl
        have hs5 := sum_ok hok
        refine join_listW (items := ys.toArray) (ys := us) (join_src N5) (by simpa using hus) (by decide) (by omega) fun t' k => ?_
        rw [glued_join]
        have ok1 := okn_join hok
        rw [hl3] at ok1
        k_steps
        refine call_go ?_
        rename Fr _ _ _ _ => F6
        rename News _ _ _ _ => N6
        refine IntCall.use (by assumption) F6 (by assumption) N6 (by assumption) rfl (law_number hI (by omega) 5 _ (by omega)) (by decide) (by decide) hLst ?_
        rintro _ h6 tk6 F6 N6 ⟨z1, t1, rfl⟩
        k_steps
        refine pure_cut (fun v => ∃ u t, v = .str u t ∧ Okn 3 u) ?_ ?_
        · k_steps
          all_goals exact ⟨⟨_, _, rfl, okn_dec (by decide +kernel)⟩, _, rfl⟩
        rintro _ tk7 ⟨u2, t2', rfl, ok2⟩
        k_steps
        refine pure_go ?_
        refine SBL.add (fun t' k _ => ?_) (Nat.le_trans (Nat.add_le_add ok1.1 ok2.1) (by decide))
        k_steps
        rename Fr _ _ _ _ => F7
        rename News _ _ _ _ => N7
        exact ⟨rfl, _, _, _, _, _, rfl, F7, fun p hp => N7 p (by k_mem), okn_le (okn_add ok1 ok2) (by decide), rfl⟩
    · refine listComp_go ?_
      rename Fr _ _ _ _ => F4
      rename News _ _ _ _ => N4
      refine LCg.ListComp_U F4 (by rfl) (by decide) (by rfl) (by decide) (by rfl) (src_stop ?_)
      k_steps
      refine src_go ?_
      have hb1 : 0 ≤ (z0.fdiv 3).fmod 8 := Int.fmod_nonneg_of_pos _ (by decide)
      have hb2 : (z0.fdiv 3).fmod 8 < 8 := Int.fmod_lt_of_pos _ (by decide)
      have hr8 := range8 hb1 hb2
      rename IsRange _ _ _ _ _ _ _ _ => R5
      rename Fr _ _ _ _ => F5
      rename News _ _ _ _ => N5
      refine LCg.CompSrc.range (by rfl) F5 N5 R5 hr8.1 hr8.2 (Nat.le_trans (show ((z0.fdiv 3).fmod 8).toNat ≤ 8 by omega) (by decide)) fun g => ?_
      refine comp_inv (n := ((z0.fdiv 3).fmod 8).toNat) (fun i ys news' => news' = _ ∧ ys.length = i ∧ ∃ us, StrsAre ys us ∧ ∀ u ∈ us, Okn 1 u) ?_ ?_ _ 0 [] _ (Nat.zero_add _) ⟨rfl, rfl, [], .nil, fun _ h => nomatch h⟩
      · rintro i ys _ v I0 oI C0' oC D m2 h8 tk8 E' hi ⟨rfl, hyl, us, hus, hok⟩ ⟨ti, rfl⟩ hC hx8 F8 N8 off8 ne8
        clear N5
        k_steps
        refine call_go ?_
        refine IntCall.use (by assumption) F8 (by assumption) N8 (by assumption) rfl (law_number hI (by omega) (10 + (0 + (i : Int))) _ (by omega)) (by decide) (by decide) hLst ?_
        rintro _ h6 tk6 F6 N6 ⟨z1, t1, rfl⟩
        clear F8 N8
        k_steps
        refine pure_cut (fun v => ∃ u t, v = .str u t ∧ Okn 1 u) ?_ ?_
        · k_steps
          exact ⟨⟨_, _, rfl, okn_item (Int.fmod_nonneg_of_pos _ (by decide)) (Int.fmod_lt_of_pos _ (by decide))⟩, _, rfl⟩
        rintro _ tk7 ⟨u2, t2', rfl, ok2⟩
        exact ⟨_, _, _, rfl, F6, N6, off8, trivial, rfl, by simp [hyl], us ++ [_], strs_snoc hus _ _, fun u hu => (List.mem_append.mp hu).elim (fun q => hok u q) fun q => List.mem_singleton.mp q ▸ ok2⟩
      · rintro ys _ ⟨rfl, hyl, us, hus, hok⟩ D h9 tk9 F9 N9 off9
        clear N5
        k_steps
        refine pure_go ?_
        have hl3 : us.length ≤ 8 := by rw [strs_len hus, hyl]; omega
        have hs5 := sum_ok hok
        refine join_listW (items := ys.toArray) (ys := us) (join_src N9) (by simpa using hus) (by decide) (by omega) fun t' k => ?_
        rw [glued_join]
        have ok1 := okn_join hok
        k_steps
        rename Fr _ _ _ _ => F7
        rename News _ _ _ _ => N7
        exact ⟨rfl, _, _, _, _, _, rfl, F7, fun p hp => N7 p (by k_mem), okn_le ok1 (by omega), rfl⟩
  · intro h5 tk5 m5 txt tt F5 N5 hok hm5
    replace F5 := fr_same F5 (m' := fun y => if y = Str.ofString "text" then some (.str txt tt) else m5 y) (funext fun y => by by_cases hy : y = Str.ofString "text" <;> simp [hy, hm5])
    refine gen_led N5 fun led0 hl N => ?_
    have I0 : Idl [] 0 [((176 : Addr), tabObj #[])] led0 := by rw [hl]; exact Idl.nil _
    clear N5 hl N3 F3 hm5
    k_steps
    refine call_go ?_
    rename Fr _ _ _ _ => F
    rename News _ _ _ _ => N
    replace N := News.sub N (show ∀ p ∈ led0, p ∈ _ from fun p hp => by k_mem)
    refine CallsN.use (by assumption) F (by assumption) N (by assumption) rfl (law_pairs (Str.ofString "a") (Str.ofString "b") (Str.ofString "left") _ _ _ 0 1 2 3) (by decide) (by decide) ?_
    clear F N
    rintro r new h tk F N hlt ⟨e0, e1, e2, e3, rfl, X⟩
    obtain ⟨led3, I3, N'⟩ := Idl.pairs I0 N hlt X rfl rfl
    replace I3 : Idl [e0, e1, e2, e3] 0 _ _ := I3
    clear N hlt X I0

    k_steps
    refine call_go ?_
    rename Fr _ _ _ _ => F
    rename News _ _ _ _ => N
    replace N := News.sub N (show ∀ p ∈ led3, p ∈ _ from fun p hp => by k_mem)
    refine CallsN.use (by assumption) F (by assumption) N (by assumption) rfl (law_pairs (Str.ofString "b") (Str.ofString "c") (Str.ofString "right") _ _ _ 4 5 6 7) (by decide) (by decide) ?_
    clear F N
    rintro r new h tk F N hlt ⟨e4, e5, e6, e7, rfl, X⟩
    obtain ⟨led7, I7, N'⟩ := Idl.pairs I3 N hlt X rfl rfl
    replace I7 : Idl [e0, e1, e2, e3, e4, e5, e6, e7] 0 _ _ := I7
    clear N hlt X I3

    k_steps
    refine call_go ?_
    rename Fr _ _ _ _ => F
    rename News _ _ _ _ => N
    replace N := News.sub N (show ∀ p ∈ led7, p ∈ _ from fun p hp => by k_mem)
    refine CallsN.use (by assumption) F (by assumption) N (by assumption) rfl (mk_lit (Str.ofString "a") _) (by decide) (by decide) ?_
    clear F N
    rintro r new h tk F N hlt X
    obtain ⟨e8, led8, rfl, hk8, I8, N'⟩ := Idl.add I7 N hlt X (fun _ => rfl) rfl rfl
    replace I8 : Idl [e0, e1, e2, e3, e4, e5, e6, e7, e8] 0 _ _ := I8
    clear N hlt X I7

    k_steps
    refine call_go ?_
    rename Fr _ _ _ _ => F
    rename News _ _ _ _ => N
    replace N := News.sub N (show ∀ p ∈ led8, p ∈ _ from fun p hp => by k_mem)
    refine CallsN.use (by assumption) F (by assumption) N (by assumption) rfl (mk_oneOrMore 8 _) (by decide) (by decide) ?_
    clear F N
    rintro r new h tk F N hlt X
    obtain ⟨e9, led9, rfl, hk9, I9, N'⟩ := Idl.add I8 N hlt X (fun _ => rfl) rfl rfl
    replace I9 : Idl [e0, e1, e2, e3, e4, e5, e6, e7, e8, e9] 0 _ _ := I9
    clear N hlt X I8

    k_steps
    refine call_go ?_
    rename Fr _ _ _ _ => F
    rename News _ _ _ _ => N
    replace N := News.sub N (show ∀ p ∈ led9, p ∈ _ from fun p hp => by k_mem)
    refine CallsN.use (by assumption) F (by assumption) N (by assumption) rfl (mk_lit (Str.ofString "a") _) (by decide) (by decide) ?_
    clear F N
    rintro r new h tk F N hlt X
    obtain ⟨e10, led10, rfl, hk10, I10, N'⟩ := Idl.add I9 N hlt X (fun _ => rfl) rfl rfl
    replace I10 : Idl [e0, e1, e2, e3, e4, e5, e6, e7, e8, e9, e10] 0 _ _ := I10
    clear N hlt X I9

    k_steps
    refine call_go ?_
    rename Fr _ _ _ _ => F
    rename News _ _ _ _ => N
    replace N := News.sub N (show ∀ p ∈ led10, p ∈ _ from fun p hp => by k_mem)
    refine CallsN.use (by assumption) F (by assumption) N (by assumption) rfl (mk_lit (Str.ofString "b") _) (by decide) (by decide) ?_
    clear F N
    rintro r new h tk F N hlt X
    obtain ⟨e11, led11, rfl, hk11, I11, N'⟩ := Idl.add I10 N hlt X (fun _ => rfl) rfl rfl
    replace I11 : Idl [e0, e1, e2, e3, e4, e5, e6, e7, e8, e9, e10, e11] 0 _ _ := I11
    clear N hlt X I10

    k_steps
    refine call_go ?_
    rename Fr _ _ _ _ => F
    rename News _ _ _ _ => N
    replace N := News.sub N (show ∀ p ∈ led11, p ∈ _ from fun p hp => by k_mem)
    refine CallsN.use (by assumption) F (by assumption) N (by assumption) rfl (mk_lit (Str.ofString "c") _) (by decide) (by decide) ?_
    clear F N
    rintro r new h tk F N hlt X
    obtain ⟨e12, led12, rfl, hk12, I12, N'⟩ := Idl.add I11 N hlt X (fun _ => rfl) rfl rfl
    replace I12 : Idl [e0, e1, e2, e3, e4, e5, e6, e7, e8, e9, e10, e11, e12] 0 _ _ := I12
    clear N hlt X I11

    k_steps
    refine call_go ?_
    rename Fr _ _ _ _ => F
    rename News _ _ _ _ => N
    replace N := News.sub N (show ∀ p ∈ led12, p ∈ _ from fun p hp => by k_mem)
    refine CallsN.use (by assumption) F (by assumption) N (by assumption) rfl (mk_oneOf [10, 11, 12] _ _ _) (by decide) (by decide) ?_
    clear F N
    rintro r new h tk F N hlt X
    obtain ⟨e13, led13, rfl, hk13, I13, N'⟩ := Idl.add I12 N hlt X (fun _ => rfl) rfl rfl
    replace I13 : Idl [e0, e1, e2, e3, e4, e5, e6, e7, e8, e9, e10, e11, e12, e13] 0 _ _ := I13
    clear N hlt X I12

    k_steps
    refine call_go ?_
    rename Fr _ _ _ _ => F
    rename News _ _ _ _ => N
    replace N := News.sub N (show ∀ p ∈ led13, p ∈ _ from fun p hp => by k_mem)
    refine CallsN.use (by assumption) F (by assumption) N (by assumption) rfl (mk_not 13 _) (by decide) (by decide) ?_
    clear F N
    rintro r new h tk F N hlt X
    obtain ⟨e14, led14, rfl, hk14, I14, N'⟩ := Idl.add I13 N hlt X (fun _ => rfl) rfl rfl
    replace I14 : Idl [e0, e1, e2, e3, e4, e5, e6, e7, e8, e9, e10, e11, e12, e13, e14] 0 _ _ := I14
    clear N hlt X I13

    k_steps
    refine call_go ?_
    rename Fr _ _ _ _ => F
    rename News _ _ _ _ => N
    replace N := News.sub N (show ∀ p ∈ led14, p ∈ _ from fun p hp => by k_mem)
    refine CallsN.use (by assumption) F (by assumption) N (by assumption) rfl (mk_lit (Str.ofString "c") _) (by decide) (by decide) ?_
    clear F N
    rintro r new h tk F N hlt X
    obtain ⟨e15, led15, rfl, hk15, I15, N'⟩ := Idl.add I14 N hlt X (fun _ => rfl) rfl rfl
    replace I15 : Idl [e0, e1, e2, e3, e4, e5, e6, e7, e8, e9, e10, e11, e12, e13, e14, e15] 0 _ _ := I15
    clear N hlt X I14

    k_steps
    refine call_go ?_
    rename Fr _ _ _ _ => F
    rename News _ _ _ _ => N
    replace N := News.sub N (show ∀ p ∈ led15, p ∈ _ from fun p hp => by k_mem)
    refine CallsN.use (by assumption) F (by assumption) N (by assumption) rfl (mk_seq2 [1, 15] _ _) (by decide) (by decide) ?_
    clear F N
    rintro r new h tk F N hlt X
    obtain ⟨e16, led16, rfl, hk16, I16, N'⟩ := Idl.add I15 N hlt X (fun _ => rfl) rfl rfl
    replace I16 : Idl [e0, e1, e2, e3, e4, e5, e6, e7, e8, e9, e10, e11, e12, e13, e14, e15, e16] 0 _ _ := I16
    clear N hlt X I15

    k_steps
    refine call_go ?_
    rename Fr _ _ _ _ => F
    rename News _ _ _ _ => N
    replace N := News.sub N (show ∀ p ∈ led16, p ∈ _ from fun p hp => by k_mem)
    refine CallsN.use (by assumption) F (by assumption) N (by assumption) rfl (mk_look 16 _) (by decide) (by decide) ?_
    clear F N
    rintro r new h tk F N hlt X
    obtain ⟨e17, led17, rfl, hk17, I17, N'⟩ := Idl.add I16 N hlt X (fun _ => rfl) rfl rfl
    replace I17 : Idl [e0, e1, e2, e3, e4, e5, e6, e7, e8, e9, e10, e11, e12, e13, e14, e15, e16, e17] 0 _ _ := I17
    clear N hlt X I16

    k_steps
    refine call_go ?_
    rename Fr _ _ _ _ => F
    rename News _ _ _ _ => N
    replace N := News.sub N (show ∀ p ∈ led17, p ∈ _ from fun p hp => by k_mem)
    refine CallsN.use (by assumption) F (by assumption) N (by assumption) rfl (mk_seq4 [17, 9, 5, 14] _ _ _ _) (by decide) (by decide) ?_
    clear F N
    rintro r new h tk F N hlt X
    obtain ⟨e18, led18, rfl, hk18, I18, N'⟩ := Idl.add I17 N hlt X (fun _ => rfl) rfl rfl
    replace I18 : Idl [e0, e1, e2, e3, e4, e5, e6, e7, e8, e9, e10, e11, e12, e13, e14, e15, e16, e17, e18] 0 _ _ := I18
    clear N hlt X I17

    obtain ⟨A, B, C, hF, hA, hB, hC⟩ := run_facts hok
    k_steps
    refine call_go ?_
    rename Fr _ _ _ _ => F
    rename News _ _ _ _ => N
    replace N := News.sub N (show ∀ p ∈ led18, p ∈ _ from fun p hp => by k_mem)
    refine IntCall.use (by assumption) F (by assumption) N (by assumption) rfl (law_run txt (Str.ofString "a") 0 tt _ _ (by decide) (Nat.le_trans hok.1 (by decide)) (Nat.zero_le _)) (by decide) (by decide) trivial ?_
    clear F N
    rintro r h tk F N' ⟨ta, hr⟩
    rw [hA] at hr
    subst hr
    k_steps
    refine call_go ?_
    rename Fr _ _ _ _ => F
    rename News _ _ _ _ => N
    replace N := News.sub N (show ∀ p ∈ led18, p ∈ _ from fun p hp => by k_mem)
    refine IntCall.use (by assumption) F (by assumption) N (by assumption) rfl (law_run txt (Str.ofString "b") A tt _ _ (by decide) (Nat.le_trans hok.1 (by decide)) (Nat.le_trans hF.ab (Nat.le_trans hF.bc hF.cl))) (by decide) (by decide) trivial ?_
    clear F N
    rintro r h tk F N' ⟨ta, hr⟩
    rw [hB] at hr
    subst hr
    k_steps
    refine call_go ?_
    rename Fr _ _ _ _ => F
    rename News _ _ _ _ => N
    replace N := News.sub N (show ∀ p ∈ led18, p ∈ _ from fun p hp => by k_mem)
    refine IntCall.use (by assumption) F (by assumption) N (by assumption) rfl (law_run txt (Str.ofString "c") B tt _ _ (by decide) (Nat.le_trans hok.1 (by decide)) (Nat.le_trans hF.bc hF.cl)) (by decide) (by decide) trivial ?_
    clear F N
    rintro r h tk F N' ⟨ta, hr⟩
    rw [hC] at hr
    subst hr
    k_steps
    clear hA hB hC
    have h63 : ¬ ((txt.length : Nat) : Int) ≥ 2 ^ 63 := by have := hok.1; omega
    rename Fr _ _ _ _ => F
    rename News _ _ _ _ => N
    rename ∀ p, p ∈ led18 → _ < _ => hlL
    obtain ⟨led19, I19, N'⟩ := I18.keepMore N hlL
    clear N hlL I18
    have N := I19.keepNews N'
    clear N'
    obtain ⟨hab, hbc, hcl⟩ : A ≤ B ∧ B ≤ C ∧ C ≤ txt.length := ⟨hF.ab, hF.bc, hF.cl⟩
    refine val_cut (fun v => ∃ q : Bool, v = .bool q ∧ (q = true ↔ EqP txt A B C)) F N ?_ ?_
    · clear hok hF
      k_steps
      all_goals rename Fr _ _ _ _ => F2
      all_goals rename News _ _ _ _ => N2
      all_goals refine valTo_mk ⟨_, rfl, ?_⟩ F2 (News.sub N2 fun p hp => by k_mem)
      all_goals first
        | exact eq1 hab hbc (by assumption) (by assumption)
        | exact eq2 (by assumption)
        | exact eq3 (by assumption)
    rintro _ h tk ⟨eq, rfl, heq⟩ F' N'
    clear F N
    obtain ⟨eqO, heO⟩ : ∃ o : Option Nat, o = if EqP txt A B C then some C else none := ⟨_, rfl⟩
    k_steps
    refine call_go ?_
    rename Fr _ _ _ _ => F
    rename News _ _ _ _ => N
    replace N := News.sub N (show ∀ p ∈ led19, p ∈ _ from fun p hp => by k_mem)
    refine CallsT.use (by assumption) (by assumption) (by assumption) F (by assumption) N (by assumption) rfl (taken_I I19 (hF.good _ I19.sh (show 18 < 19 by decide)) (i := 18) rfl hk18 hok (show 19 ≤ 1000 by decide) (show 0 ≤ 1000 by decide) tt true (hF.f1.trans heO.symm)) (by decide) (by decide) ?_
    clear F N
    rintro _ led20 h tk F N ⟨⟨tk1, rfl⟩, I20⟩
    replace I20 : Idl [e0, e1, e2, e3, e4, e5, e6, e7, e8, e9, e10, e11, e12, e13, e14, e15, e16, e17, e18] 1 _ _ := I20
    replace N := I20.keepNews N
    clear I19
    k_steps
    rename Fr _ _ _ _ => F
    rename News _ _ _ _ => N
    refine val_cut (fun v => ∃ tk, v = optVal eqO tk) F N ?_ ?_
    · by_cases hP : EqP txt A B C
      · have e : eq = true := heq.mpr hP
        subst e
        clear hF hok heq
        k_steps
        rename Fr _ _ _ _ => F2
        rename News _ _ _ _ => N2
        exact valTo_mk ⟨_, by rw [heO, if_pos hP]; rfl⟩ F2 (News.sub N2 fun p hp => by k_mem)
      · have e : eq = false := by cases eq with
          | false => rfl
          | true => exact absurd (heq.mp rfl) hP
        subst e
        clear hF hok heq
        k_steps
        rename Fr _ _ _ _ => F2
        rename News _ _ _ _ => N2
        exact valTo_mk ⟨0, by rw [heO, if_neg hP]; rfl⟩ F2 (News.sub N2 fun p hp => by k_mem)
    rintro _ h tk ⟨tk2, rfl⟩ F' N'
    clear F N
    k_steps
    refine cmp_opt ?_
    k_steps
    refine call_go ?_
    rename Fr _ _ _ _ => F
    rename News _ _ _ _ => N
    replace N := News.sub N (show ∀ p ∈ led20, p ∈ _ from fun p hp => by k_mem)
    refine CallsT.use (by assumption) (by assumption) (by assumption) F (by assumption) N (by assumption) rfl (taken_I I20 (hF.good _ I20.sh (show 18 < 19 by decide)) (i := 18) rfl hk18 hok (show 19 ≤ 1000 by decide) (show 1 ≤ 1000 by decide) tt false (hF.f2.trans heO.symm)) (by decide) (by decide) ?_
    clear F N
    rintro _ led21 h tk F N ⟨⟨tk1, rfl⟩, I21⟩
    replace I21 : Idl [e0, e1, e2, e3, e4, e5, e6, e7, e8, e9, e10, e11, e12, e13, e14, e15, e16, e17, e18] 2 _ _ := I21
    replace N := I21.keepNews N
    clear I20
    k_steps
    rename Fr _ _ _ _ => F
    rename News _ _ _ _ => N
    refine val_cut (fun v => ∃ tk, v = optVal eqO tk) F N ?_ ?_
    · by_cases hP : EqP txt A B C
      · have e : eq = true := heq.mpr hP
        subst e
        clear hF hok heq
        k_steps
        rename Fr _ _ _ _ => F2
        rename News _ _ _ _ => N2
        exact valTo_mk ⟨_, by rw [heO, if_pos hP]; rfl⟩ F2 (News.sub N2 fun p hp => by k_mem)
      · have e : eq = false := by cases eq with
          | false => rfl
          | true => exact absurd (heq.mp rfl) hP
        subst e
        clear hF hok heq
        k_steps
        rename Fr _ _ _ _ => F2
        rename News _ _ _ _ => N2
        exact valTo_mk ⟨0, by rw [heO, if_neg hP]; rfl⟩ F2 (News.sub N2 fun p hp => by k_mem)
    rintro _ h tk ⟨tk2, rfl⟩ F' N'
    clear F N
    k_steps
    refine cmp_opt ?_
    k_steps
    rename Fr _ _ _ _ => F
    rename News _ _ _ _ => N
    refine val_cut (fun v => ∃ q : Bool, v = .bool q ∧ (q = true ↔ TailP A B C)) F N ?_ ?_
    · clear hok hF heO
      k_steps
      all_goals rename Fr _ _ _ _ => F2
      all_goals rename News _ _ _ _ => N2
      all_goals refine valTo_mk ⟨_, rfl, ?_⟩ F2 (News.sub N2 fun p hp => by k_mem)
      all_goals first
        | exact tail1 hab hbc (by assumption) (by assumption)
        | exact tail2 (by assumption)
        | exact tail3 (by assumption)
    rintro _ h tk ⟨tl, rfl, htl⟩ F' N'
    clear F N
    k_steps
    refine call_go ?_
    rename Fr _ _ _ _ => F
    rename News _ _ _ _ => N
    replace N := News.sub N (show ∀ p ∈ led21, p ∈ _ from fun p hp => by k_mem)
    refine CallsN.use (by assumption) F (by assumption) N (by assumption) rfl (mk_seq3 [9, 5, 14] _ _ _) (by decide) (by decide) ?_
    clear F N
    rintro _ new h tk F N hlt X
    obtain ⟨e19, led22, rfl, hk19, I22, N'⟩ := Idl.add I21 N hlt X (fun _ => rfl) rfl rfl
    replace I22 : Idl [e0, e1, e2, e3, e4, e5, e6, e7, e8, e9, e10, e11, e12, e13, e14, e15, e16, e17, e18, e19] 2 _ _ := I22
    clear N hlt X I21
    have N := I22.keepNews N'
    clear N'
    obtain ⟨o3, ho3⟩ : ∃ o : Option Nat, o = if TailP A B C ∧ C - B = B - A ∧ C = txt.length then some C else none := ⟨_, rfl⟩
    k_steps
    refine call_go ?_
    rename Fr _ _ _ _ => F
    rename News _ _ _ _ => N
    replace N := News.sub N (show ∀ p ∈ led22, p ∈ _ from fun p hp => by k_mem)
    refine CallsT.use (by assumption) (by assumption) (by assumption) F (by assumption) N (by assumption) rfl (taken_I I22 (hF.good _ I22.sh (show 18 < 20 by decide)) (i := 19) rfl hk19 hok (show 20 ≤ 1000 by decide) (show 2 ≤ 1000 by decide) tt true (hF.f3.trans ho3.symm)) (by decide) (by decide) ?_
    clear F N
    rintro _ led23 h tk F N ⟨⟨tk1, rfl⟩, I23⟩
    replace I23 : Idl [e0, e1, e2, e3, e4, e5, e6, e7, e8, e9, e10, e11, e12, e13, e14, e15, e16, e17, e18, e19] 3 _ _ := I23
    replace N := I23.keepNews N
    clear I22
    k_steps
    rename Fr _ _ _ _ => F
    rename News _ _ _ _ => N
    refine val_cut (fun v => ∃ tk, v = optVal o3 tk) F N ?_ ?_
    · by_cases hP : TailP A B C
      · have e : tl = true := htl.mpr hP
        subst e
        clear hF hok heq htl
        k_steps
        all_goals rename Fr _ _ _ _ => F2
        all_goals rename News _ _ _ _ => N2
        all_goals refine valTo_mk ?_ F2 (News.sub N2 fun p hp => by k_mem)
        all_goals first
          | exact opt_yes ho3 (o3_yes hab hbc hP (by assumption) (by assumption)) rfl _
          | exact opt_no ho3 (o3_no1 (by assumption))
          | exact opt_no ho3 (o3_no2 hab hbc (by assumption))
      · have e : tl = false := by cases tl with
          | false => rfl
          | true => exact absurd (htl.mp rfl) hP
        subst e
        clear hF hok heq htl
        k_steps
        rename Fr _ _ _ _ => F2
        rename News _ _ _ _ => N2
        exact valTo_mk (opt_no ho3 (fun q => hP q.1)) F2 (News.sub N2 fun p hp => by k_mem)
    rintro _ h tk ⟨tk2, rfl⟩ F' N'
    clear F N
    k_steps
    refine cmp_opt ?_
    obtain ⟨o4, ho4⟩ : ∃ o : Option Nat, o = if TailP A B C ∧ A = B - A then some (B + (B - A)) else none := ⟨_, rfl⟩
    obtain ⟨o5, ho5⟩ : ∃ o : Option Nat, o = if (TailP A B C ∧ A = B - A) ∧ B + (B - A) = txt.length then some (B + (B - A)) else none := ⟨_, rfl⟩
    k_steps
    rename Fr _ _ _ _ => F
    rename News _ _ _ _ => N
    refine val_cut (fun v => ∃ tk, v = optVal o4 tk) F N ?_ ?_
    · by_cases hP : TailP A B C
      · have e : tl = true := htl.mpr hP
        subst e
        clear hF hok heq htl
        k_steps
        all_goals rename Fr _ _ _ _ => F2
        all_goals rename News _ _ _ _ => N2
        all_goals refine valTo_mk ?_ F2 (News.sub N2 fun p hp => by k_mem)
        all_goals first
          | exact opt_yes ho4 (o4_yes hab hP (by assumption)) (o4_val hab) _
          | exact opt_no ho4 (o4_no hab (by assumption))
      · have e : tl = false := by cases tl with
          | false => rfl
          | true => exact absurd (htl.mp rfl) hP
        subst e
        clear hF hok heq htl
        k_steps
        rename Fr _ _ _ _ => F2
        rename News _ _ _ _ => N2
        exact valTo_mk (opt_no ho4 (fun q => hP q.1)) F2 (News.sub N2 fun p hp => by k_mem)
    rintro _ h tk ⟨tkS, rfl⟩ F' N'
    clear F N
    k_steps
    refine call_go ?_
    rename Fr _ _ _ _ => F
    rename News _ _ _ _ => N
    replace N := News.sub N (show ∀ p ∈ led23, p ∈ _ from fun p hp => by k_mem)
    refine CallsN.use (by assumption) F (by assumption) N (by assumption) rfl (mk_seq3 [17, 9, 5] _ _ _) (by decide) (by decide) ?_
    clear F N
    rintro _ new h tk F N hlt X
    obtain ⟨e20, led24, rfl, hk20, I24, N'⟩ := Idl.add I23 N hlt X (fun _ => rfl) rfl rfl
    replace I24 : Idl [e0, e1, e2, e3, e4, e5, e6, e7, e8, e9, e10, e11, e12, e13, e14, e15, e16, e17, e18, e19, e20] 3 _ _ := I24
    clear N hlt X I23
    have N := I24.keepNews N'
    clear N'
    k_steps
    refine call_go ?_
    rename Fr _ _ _ _ => F
    rename News _ _ _ _ => N
    replace N := News.sub N (show ∀ p ∈ led24, p ∈ _ from fun p hp => by k_mem)
    refine CallsT.use (by assumption) (by assumption) (by assumption) F (by assumption) N (by assumption) rfl (taken_I I24 (hF.good _ I24.sh (show 18 < 21 by decide)) (i := 20) rfl hk20 hok (show 21 ≤ 1000 by decide) (show 3 ≤ 1000 by decide) tt false (hF.f4.trans ho4.symm)) (by decide) (by decide) ?_
    clear F N
    rintro _ led25 h tk F N ⟨⟨tk1, rfl⟩, I25⟩
    replace I25 : Idl [e0, e1, e2, e3, e4, e5, e6, e7, e8, e9, e10, e11, e12, e13, e14, e15, e16, e17, e18, e19, e20] 4 _ _ := I25
    replace N := I25.keepNews N
    clear I24
    k_steps
    refine cmp_opt ?_
    k_steps
    refine call_go ?_
    rename Fr _ _ _ _ => F
    rename News _ _ _ _ => N
    replace N := News.sub N (show ∀ p ∈ led25, p ∈ _ from fun p hp => by k_mem)
    refine CallsN.use (by assumption) F (by assumption) N (by assumption) rfl (mk_seq3 [17, 9, 5] _ _ _) (by decide) (by decide) ?_
    clear F N
    rintro _ new h tk F N hlt X
    obtain ⟨e21, led26, rfl, hk21, I26, N'⟩ := Idl.add I25 N hlt X (fun _ => rfl) rfl rfl
    replace I26 : Idl [e0, e1, e2, e3, e4, e5, e6, e7, e8, e9, e10, e11, e12, e13, e14, e15, e16, e17, e18, e19, e20, e21] 4 _ _ := I26
    clear N hlt X I25
    have N := I26.keepNews N'
    clear N'
    k_steps
    refine call_go ?_
    rename Fr _ _ _ _ => F
    rename News _ _ _ _ => N
    replace N := News.sub N (show ∀ p ∈ led26, p ∈ _ from fun p hp => by k_mem)
    refine CallsT.use (by assumption) (by assumption) (by assumption) F (by assumption) N (by assumption) rfl (taken_I I26 (hF.good _ I26.sh (show 18 < 22 by decide)) (i := 21) rfl hk21 hok (show 22 ≤ 1000 by decide) (show 4 ≤ 1000 by decide) tt true (hF.f5.trans ho5.symm)) (by decide) (by decide) ?_
    clear F N
    rintro _ led27 h tk F N ⟨⟨tk1, rfl⟩, I27⟩
    replace I27 : Idl [e0, e1, e2, e3, e4, e5, e6, e7, e8, e9, e10, e11, e12, e13, e14, e15, e16, e17, e18, e19, e20, e21] 5 _ _ := I27
    replace N := I27.keepNews N
    clear I26
    k_steps
    rename Fr _ _ _ _ => F
    rename News _ _ _ _ => N
    refine val_cut (fun v => ∃ tk, v = optVal o5 tk) F N ?_ ?_
    · by_cases hP : TailP A B C ∧ A = B - A
      · have e : optVal o4 tkS = .int ((B + (B - A) : Nat) : Int) tkS := by rw [ho4, if_pos hP]; rfl
        rw [e] at F ⊢
        clear e hF hok heq htl
        k_steps
        all_goals rename Fr _ _ _ _ => F2
        all_goals rename News _ _ _ _ => N2
        all_goals refine valTo_mk ?_ F2 (News.sub N2 fun p hp => by k_mem)
        all_goals first
          | exact opt_yes ho5 ⟨hP, by omega⟩ rfl _
          | exact opt_no ho5 (fun q => by omega)
      · have e : optVal o4 tkS = .none := by rw [ho4, if_neg hP]; rfl
        rw [e] at F ⊢
        clear e hF hok heq htl
        k_steps
        all_goals rename Fr _ _ _ _ => F2
        all_goals rename News _ _ _ _ => N2
        all_goals exact valTo_mk (opt_no ho5 (fun q => hP q.1)) F2 (News.sub N2 fun p hp => by k_mem)
    rintro _ h tk ⟨tk2, rfl⟩ F' N'
    clear F N
    k_steps
    refine cmp_opt ?_
    k_steps
    rename Fr _ _ _ _ => F
    rename News _ _ _ _ => N
    refine val_cut (led := [(176, tabObj #[])]) (fun v => v = .bool true) F (News.sub N fun p hp => .tail _ (I27.kept p (by rw [List.mem_singleton.mp hp]; exact .tail _ (.head _)))) ?_ ?_
    · by_cases hP : EqP txt A B C
      · have e : eq = true := heq.mpr hP
        subst e
        have h6 := hF.f6 hP
        have hG := hF.good
        clear heq htl hF heO ho3 ho4 ho5
        k_steps
        refine meth_go ?_
        rename Fr _ _ _ _ => F2
        obtain ⟨xd, immD, hea, hxa, hxd, xok, eok⟩ := Idl.dOf (i := 18) I27 rfl
        refine self_meth F2 (by assumption) N (self_seq _ eok hk18) (.tail _ hea) (.tail _ hxa) hxd xok (f := 251) (by k_is) (by k_is) (by k_is) (by decide +kernel) fun f hf hkf => ?_
        dsimp only
        refine callWith_K (by assumption) hkf ?_
        clear hea hxa hxd xok eok
        k_steps
        rw [hf]
        rename Fr _ _ _ _ => F2
        rename News _ _ _ _ => N2
        replace N2 := News.sub N2 (show ∀ p ∈ led27, p ∈ _ from fun p hp => by k_mem)
        refine CallsX.use (by assumption) F2 (by assumption) N2 (by assumption) rfl (parse_I I27 (hG _ I27.sh (show 18 < 22 by decide)) (i := 18) rfl hk18 hok (show 22 ≤ 1000 by decide) (show 5 ≤ 1000 by decide) tt h6.1) (by decide) (by decide) ?_ (fun _ _ _ _ _ _ _ _ _ _ x => x.elim)
        clear F2 N2
        rintro _ ledP h tk F N ⟨nd, rfl, hnd, IP⟩
        replace IP : Idl [e0, e1, e2, e3, e4, e5, e6, e7, e8, e9, e10, e11, e12, e13, e14, e15, e16, e17, e18, e19, e20, e21] 6 _ _ := IP
        replace N := IP.keepNews N
        clear I27
        k_steps
        refine call_go ?_
        rename Fr _ _ _ _ => F2
        rename News _ _ _ _ => N2
        replace N2 := News.sub N2 (show ∀ p ∈ ledP, p ∈ _ from fun p hp => by k_mem)
        refine IntCallL.use (by assumption) F2 (by assumption) N2 (fun _ h => h) (by assumption) rfl (nodes_I hnd _) (by decide) (by decide) ?_
        clear F2 N2 hnd
        rintro _ h tk F N ⟨tn, rfl⟩
        replace N := IP.keepNews N
        k_steps
        all_goals try exact absurd (nodes_eq hab) (by assumption)
        refine call_go ?_
        rename Fr _ _ _ _ => F2
        rename News _ _ _ _ => N2
        replace N2 := News.sub N2 (show ∀ p ∈ ledP, p ∈ _ from fun p hp => by k_mem)
        refine CallsT.use (by assumption) (by assumption) (by assumption) F2 (by assumption) N2 (by assumption) rfl (taken_I IP (hG _ IP.sh (show 18 < 22 by decide)) (i := 1) rfl (IP.kind (i := 1) rfl rfl) hok (show 22 ≤ 1000 by decide) (show 6 ≤ 1000 by decide) tt false h6.2) (by decide) (by decide) ?_
        clear F2 N2
        rintro _ ledQ h tk F N ⟨⟨tk1, rfl⟩, IQ⟩
        rw [show optVal (some B) tk1 = .int ((B : Nat) : Int) tk1 from rfl]
        replace N := IQ.keepNews N
        k_steps
        rename Fr _ _ _ _ => F2
        rename News _ _ _ _ => N2
        refine valTo_mk ?_ F2 (News.sub N2 fun p hp => .tail _ (IQ.kept p (by rw [List.mem_singleton.mp hp]; exact .tail _ (.head _))))
        first | rfl | simp
      · have e : eq = false := by cases eq with
          | false => rfl
          | true => exact absurd (heq.mp rfl) hP
        subst e
        clear hF hok heq htl
        k_steps
        rename Fr _ _ _ _ => F2
        rename News _ _ _ _ => N2
        exact valTo_mk rfl F2 (News.sub N2 fun p hp => .tail _ (I27.kept p (by rw [List.mem_singleton.mp hp]; exact .tail _ (.head _))))
    rintro _ h tk rfl F' N'
    clear F N I27 hF hok heq htl heO ho3 ho4 ho5 hab hbc hcl h63 hI hlen hLst hk8 hk9 hk10 hk11 hk12 hk13 hk14 hk15 hk16 hk17 hk18 hk19 hk20 hk21
    dsimp only
    k_steps)
end Mine
end
theorem PySem.Challenge.cw_vy0016_01_holds : PySem.Challenge.rw_vy0016_01.Holds := by
  exact Mine.X
