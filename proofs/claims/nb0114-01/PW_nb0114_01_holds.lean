import PyProof.Rows.All
import Wide.All
import OpenK.AllK
import Wide.FinOn
import KE.KIntText
import KE.KNest
import KE.RegLGe
import KE.KTryDeep
import PyProof.ExcFactsAll.TypeError
import KE.KTryDeepN
import KE.KEqSeq
import PySem.Challenge.RW_nb0114_01
set_option Elab.async false
/- NC -/
section
open PySem PySem.W PyProof.Rows PySem.Calls
set_option Elab.async false
set_option maxRecDepth 100000
namespace Mine
/-- the law's caller stands below -/
def HasC (Γ : Ctx) : Prop := (Γ.below.any fun c => c.1.isCaller) = true
/-- as wpAny, but only where the claim's caller stands below -/
def wpC {α : Type} (M : Model) (A : Around) (t : Sem α) (Q : α → Shared → Prop) (E : Value → Shared → Prop) (s : Shared) : Prop :=
  ∀ Γ p, Γ.In A → HasC Γ → Sem.wp M Γ t (fun a _ s' => Q a s') (fun e _ s' => E e s') p s
def codeC (M : Model) (A : Around) (c : Code) (R : Result → Shared → Prop) (s : Shared) : Prop :=
  ∀ Γ p, Γ.code = c → Γ.Below A → HasC Γ → wpCode M Γ R p s
section
variable {α β : Type} {M : Model} {A : Around} {E : Value → Shared → Prop} {s : Shared}
theorem C_any {t : Sem α} {Q : α → Shared → Prop} (h : wpAny M A t Q E s) : wpC M A t Q E s := fun Γ p hΓ _ => h Γ p hΓ
theorem codeC_any {c : Code} {R : Result → Shared → Prop} (h : codeAny M A c R s) : codeC M A c R s := fun Γ p hc hΓ _ => h Γ p hc hΓ
theorem C_pure {a : α} {Q : α → Shared → Prop} (h : Q a s) : wpC M A (pure a) Q E s := C_any (wpAny_pure h)
theorem C_mono {t : Sem α} {Q Q' : α → Shared → Prop} {E' : Value → Shared → Prop} (h : wpC M A t Q E s) (hQ : ∀ a s, Q a s → Q' a s) (hE : ∀ e s, E e s → E' e s) : wpC M A t Q' E' s :=
  fun Γ p hΓ hC => Sem.wp_mono M Γ t (fun a _ s => hQ a s) (fun e _ s => hE e s) p s (h Γ p hΓ hC)
theorem codeC_mono {c : Code} {R R' : Result → Shared → Prop} (h : codeC M A c R s) (hR : ∀ r s, R r s → R' r s) : codeC M A c R' s :=
  fun Γ p hc hΓ hC => wpCode_mono hR (h Γ p hc hΓ hC)
theorem C_bind {m : Sem α} {f : α → Sem β} {Q : β → Shared → Prop} (h : wpC M A m (fun a s' => wpC M A (f a) Q E s') E s) : wpC M A (m >>= f) Q E s := fun Γ p hΓ hC => by
  rw [Sem.wp_bind']
  exact Sem.wp_mono M Γ m (fun a p' s' h' => h' Γ p' hΓ hC) (fun _ _ _ h' => h') p s (h Γ p hΓ hC)
/-- a leaf ahead -/
theorem C_step {m : Sem α} {f : α → Sem β} {Q : β → Shared → Prop} (h : wpAny M A m (fun a s' => wpC M A (f a) Q E s') E s) : wpC M A (m >>= f) Q E s := C_bind (C_any h)
theorem C_onRaise {m : Sem α} {k : Value → Sem Unit} {Q : α → Shared → Prop} (h : wpC M A m Q (fun e s' => wpC M A (k e) (fun _ s'' => E e s'') E s') s) : wpC M A (m.onRaise k) Q E s := fun Γ p hΓ hC => by
  rw [Sem.wp_onRaise]
  exact Sem.wp_mono M Γ m (fun _ _ _ h' => h') (fun e p' s' h' => h' Γ p' hΓ hC) p s (h Γ p hΓ hC)
theorem C_attempt {m : Sem α} {Q : Except Value α → Shared → Prop} (h : wpC M A m (fun a => Q (.ok a)) (fun e => Q (.error e)) s) : wpC M A m.attempt Q E s := fun Γ p hΓ hC => by rw [Sem.wp_attempt]; exact h Γ p hΓ hC
theorem C_holding {vs : List Value} {m : Sem α} {Q : α → Shared → Prop} (h : wpC M A m Q E s) : wpC M A (holding vs m) Q E s := fun Γ p hΓ hC => by rw [Sem.wp_holding]; exact h Γ p hΓ hC
theorem C_operate {vs : List Value} {m : Sem Value} {Q : Value → Shared → Prop} (h : wpC M A m Q E s) : wpC M A (operate vs m) Q E s := fun Γ p hΓ hC => by rw [Sem.wp_operate]; exact h Γ p hΓ hC
theorem C_standAt {pos : Pos} {Q : Unit → Shared → Prop} (h : Q () s) : wpC M A (standAt pos) Q E s := C_any (wpAny_standAt h)
theorem hasC_enter {Γ : Ctx} (h : HasC Γ) (c : Code) (hd : Option Value) (p : Pos) : HasC (Γ.enter c hd p) := by
  show (((Γ.code, p) :: Γ.below).any fun c => c.1.isCaller) = true
  rw [List.any_cons, show (Γ.below.any fun c => c.1.isCaller) = true from h, Bool.or_true]
theorem C_run {c : Code} {h : Option Value} {Q : Flow → Shared → Prop} (hc : codeC M (A.mark h) c (fun r s' => match r with | .ok f => Q f s' | .error e => E e s') s) (hnb : h ≠ some byPass := by intro x; cases x) : wpC M A (run c h) Q E s :=
  fun Γ p hΓ hC => by rw [Sem.wp_run]; exact hc _ p rfl (hΓ.enter c h p hnb) (hasC_enter hC ..)
theorem C_call {f : Value} {pos : List Value} {kw : List (Str × Value)} {Q : Value → Shared → Prop} (hc : codeC M A (.call f ⟨pos, kw⟩) (fun r s' => match r with | .ok (.ret v) => Q v s' | .ok _ => False | .error e => E e s') s) : wpC M A (call f pos kw) Q E s :=
  fun Γ p hΓ hC => by
    show Sem.wp M Γ (runValue _) _ _ p s
    rw [Sem.wp_runValue]
    exact hc _ p rfl (hΓ.enter _ none p (by intro x; cases x)) (hasC_enter hC ..)
theorem codeC_of_tree {c : Code} {R : Result → Shared → Prop}
    (h : wpC M (A.under c) (M.den c) (fun fin s' => match fin with | .done f => R (.ok f) s' | .again c' => c'.quiet = true ∧ codeC M A c' R s') (fun e s' => R (.error e) s') s) : codeC M A c R s := fun Γ p hc hΓ hC => by
  rw [wpCode_iff_wp, hc]
  refine Sem.wp_mono M Γ _ (fun fin p' s' h' => ?_) (fun _ _ _ h' => h') p s (h Γ p (hc ▸ hΓ.in) hC)
  cases fin with
  | done f => exact h'
  | again c' => exact ⟨h'.1, h'.2 (Γ.goto c') p' rfl (hΓ.goto c') hC⟩
theorem codeC_loop {c : Code} {R : Result → Shared → Prop} (hq : c.quiet = true) (I : Nat → Shared → Prop)
    (turn : ∀ n s, I n s → wpC M (A.under c) (M.den c) (fun fin s' => match fin with
        | .done f => R (.ok f) s'
        | .again c' => (c' = c ∧ ∃ m, m < n ∧ I m s') ∨ (c'.quiet = true ∧ codeC M A c' R s')) (fun e s' => R (.error e) s') s)
    (n : Nat) (h : I n s) : codeC M A c R s := by
  induction n using Nat.strongRecOn generalizing s with
  | ind n ih =>
    refine codeC_of_tree (C_mono (turn n s h) (fun fin s' hf => ?_) fun _ _ x => x)
    cases fin with
    | done f => exact hf
    | again c' =>
      rcases hf with ⟨rfl, m, hm, hI⟩ | hf
      · exact ⟨hq, ih m hm hI⟩
      · exact hf
end
section
variable {M : Model} {A : Around} {E : Value → Shared → Prop} {s : Shared} {env : Env}
theorem C_execs_cons {st rest} {Q : Flow → Shared → Prop} (h : wpC M A (exec st env) (fun f s' => match f with | .next => wpC M A (execs rest env) Q E s' | f => Q f s') E s) : wpC M A (execs (st :: rest) env) Q E s := by
  rw [execs_cons]
  refine C_bind (C_mono h (fun f s' h' => ?_) fun _ _ x => x)
  cases f with
  | next => exact h'
  | _ => exact C_pure h'
theorem C_If {test body orelse pos} {Q : Flow → Shared → Prop} (h : wpC M A (isTrue test env (eval test env)) (fun b s₂ => if b then wpC M A (execs body env) Q E s₂ else wpC M A (execs orelse env) Q E s₂) E s) : wpC M A (exec (.If test body orelse pos) env) Q E s := by
  rw [exec_If]
  refine C_bind (C_standAt (C_bind (C_mono h (fun b s₂ h₂ => ?_) fun _ _ x => x)))
  cases b <;> exact h₂
theorem C_Return {e pos} {Q : Flow → Shared → Prop} (h : wpC M A (eval e env) (fun v => Q (.ret v)) E s) : wpC M A (exec (.Return (some e) pos) env) Q E s := by
  rw [exec_Return_some]
  exact C_bind (C_standAt (C_bind (C_mono h (fun v s' h' => C_pure h') fun _ _ x => x)))
theorem C_Expr {e pos} {Q : Flow → Shared → Prop} (h : wpC M A (eval e env) (fun v s' => v = .none ∧ Q .next s') E s) (hi : interactive env = false := by rfl) (hs : swapsWith e none pos.line env = pure false := by rfl) : wpC M A (exec (.Expr e pos) env) Q E s := by
  rw [exec_Expr env e pos hi hs]
  refine C_bind (C_standAt (C_bind (C_mono h (fun v s' h' => ?_) fun _ _ x => x)))
  obtain ⟨rfl, h'⟩ := h'
  rw [dropValue_plain (by intro a q; cases q)]
  exact C_pure h'
theorem C_Assign_Name {x pos' value pos} {Q : Flow → Shared → Prop} (h : wpC M A (eval value env) (fun v s₁ => wpAny M A (storeName env x v) (fun _ => Q .next) E s₁) E s)
    (hs : swapsWith value (some (.Name x pos')) pos.line env = pure false := by rfl) : wpC M A (exec (.Assign [.Name x pos'] value pos) env) Q E s := by
  rw [exec_Assign_Name env x pos' value pos hs]
  refine C_bind (C_standAt (C_bind (C_mono h (fun v s₁ h₁ => C_bind (C_standAt (C_bind (C_any (wpAny_bindName (wpAny_mono h₁ (fun _ s₂ h₂ => C_pure h₂) fun _ _ x => x)))))) fun _ _ x => x)))
theorem C_Or2 {x y : Expr} {pos : Pos} {whole : Sem Value} {Q : Bool → Shared → Prop} (h : wpC M A (isTrue x env (eval x env)) (fun b s₁ => if b = true then Q true s₁ else wpC M A (isTrue y env (eval y env)) Q E s₁) E s) : wpC M A (isTrue (.BoolOp .Or [x, y] pos) env whole) Q E s := by
  show wpC M A (allTrue .Or [x, y] env) Q E s
  rw [allTrue]
  refine C_bind (C_mono h (fun b s₁ h₁ => ?_) fun _ _ x => x)
  cases b with
  | true => exact C_pure (by simpa using h₁)
  | false =>
    simp only [Bool.false_eq_true, if_false] at h₁
    show wpC M A (allTrue .Or [y] env) Q E s₁
    rw [allTrue]
    refine C_bind (C_mono h₁ (fun b s₂ h₂ => ?_) fun _ _ x => x)
    cases b with
    | true => exact C_pure h₂
    | false =>
      show wpC M A (allTrue .Or [] env) Q E s₂
      rw [allTrue]
      exact C_pure h₂
theorem C_Not {x : Expr} {pos : Pos} {whole : Sem Value} {Q : Bool → Shared → Prop} (h : wpC M A (isTrue x env (eval x env)) (fun b s₁ => Q (!b) s₁) E s) : wpC M A (isTrue (.UnaryOp .Not x pos) env whole) Q E s := by
  rw [PySem.isTrue]
  exact C_bind (C_mono h (fun b s₁ h₁ => C_pure h₁) fun _ _ x => x)
end

section
variable {prog : Program} {w : World} {A : Around} {s : Shared} {R : Result → Shared → Prop}
abbrev NoE : Value → Shared → Prop := fun _ _ => False
theorem codeC_func {body : List Stmt} {env : Env} (h : wpC (model prog w) (A.deeper env) (execs body env) (fun f s' => R (.ok (.ret (match f with | .ret v => v | _ => .none))) s') NoE s) : codeC (model prog w) A (.func body env) R s := by
  refine codeC_of_tree ?_
  show wpC _ (A.deeper env) (do point; match ← (execs body env).onRaise (leaving env) with | .ret v => ret v | _ => ret .none) _ _ s
  refine C_bind (C_any (wpAny_point (C_bind (C_onRaise (C_mono h (fun f s' h' => ?_) fun _ _ h' => h'.elim)))))
  cases f <;> exact C_pure h'
theorem codeC_call_function {a : Addr} {args : Args} {o : Obj} {fd : FuncData} {body : List Stmt} (hroom : A.depth < recursionLimit) (ho : s.heap.get? a = some o)
    (hd' : o.data = .func fd) (hco : fd.scope.isCoroutine = false) (hgen : fd.scope.isGenerator = false) (hbody : fd.body = .stmts body) (hcd : s.heap.CodeRec fd.code fd.qualname)
    (h : wpAny (model prog w) A.in1 (bindArgs fd args) (fun binds s₁ =>
      wpAny (model prog w) A.in1 (newFunctionEnv fd.scope fd.globals fd.closure binds (fd.qualname ++ ".<locals>.") (some a) fd.code none fd.builtins)
        (fun env s₂ => s₂.heap.NoLimit ∧ codeC (model prog w) A (.func body env) R s₂) (fun e s' => R (.error e) s') s₁) (fun e s' => R (.error e) s') s) :
    codeC (model prog w) A (.call (.ref a) args) R s := by
  refine codeC_of_tree ?_
  show wpC _ A.in1 (callAny (.ref a) args) _ _ s
  refine C_any ?_
  obtain ⟨c, oc, vs, tq, hc, hoc, hdc, hq⟩ := hcd
  unfold callAny
  refine wpAny_bind (wpAny_load ho ?_)
  simp only [hd', callFunction, hco, hgen, hbody, hc]
  rw [hc] at h
  refine wpAny_bind (m := field (.ref c) 1) (wpAny_field hoc hdc hq (wpAny_bind (wpAny_pure (wpAny_bind (wpAny_mono h (fun binds s₁ h₁ => ?_) fun _ _ x => x)))))
  refine wpAny_bind (wpAny_mono h₁ (fun env s₂ h₂ => wpAny_bind (wpAny_enterFrame h₂.1 hroom (wpAny_pure ?_))) fun _ _ x => x)
  exact ⟨rfl, h₂.2⟩
end
section
variable {prog : Program} {w : World} {A A₀ : Around} {s : Shared} {K : Frag} {L : Addr} {h₀ base : Heap} {m mg mb : Str → Option Value} {news : List (Addr × Obj)} {p : Program} {loose : List Str} {mean : ExcName → Option Value} {env : Env} {outer : List Env}
  {R : Result → Shared → Prop} {name qual : Str} {params : Arguments} {body : List Stmt} {scope : Scope} {dV kV doc pm cdv ct oc : Value} {an od : Option Addr} {osl : Array (Option Value)} {f : Addr} {args : Args} {binds : List (Str × Value)}
theorem frameC {E : Value → Shared → Prop} (B : Below A₀ base outer h₀) (F : Fr h₀ L s.heap m) (N : News h₀ L s.heap news) (hlim : h₀.NoLimit) (hA : A.frames = some (env :: outer)) (hf : env.frame = some L) (hke : env.scope.kind = .function)
    (hloc : ∀ y ∈ binds, scope.names.lookup y.1 = some .local)
    (h : ∀ g L' h₁, Fr h₀ L g m → Fr g L' h₁ (fun y => binds.reverse.lookup y) → News g L' h₁ news → Below A base (env :: outer) g → h₀.StaysIn g →
      wpC (model prog w) (A.deeper (envOf qual scope L' f cdv)) (execs body (envOf qual scope L' f cdv)) (fun fl s' => LeaveK h₀ L m g R (match fl with | .ret v => v | _ => .none) s') NoE
        { s with heap := h₁, toks := s.toks + binds.length })
    (hcell : ∀ x ∈ scope.names, x.2 ≠ .cell) (hk : scope.kind = .function) :
    wpAny (model prog w) A.in1 (newFunctionEnv scope mainGlobals [] binds (qual ++ ".<locals>.") (some f) cdv none builtinsNs) (fun env' s₂ => s₂.heap.NoLimit ∧ codeC (model prog w) A (.func body env') R s₂) E s := by
  obtain ⟨FG, BG, st, lv⟩ := groundX (R := R) B F N hA hf hke
  refine wpAny_newFunctionEnv hcell hloc (fun h₁ hns hsb => ⟨(hlim.keeps F.keep).fresh _ hsb, codeC_func ?_⟩) hk
  have up : ∀ b o, s.heap.get? b = some o → h₁.get? b = some o := fun b o e => hsb.extBut b o (Nat.ne_of_lt (Heap.lt_size e)) (Heap.get?_push_of_some _ e)
  exact C_mono (h _ s.heap.objs.size h₁ FG ⟨hns, fun b o e => up b o (of_hideAll _ e), Nat.le_of_eq (hideAll_size _ _)⟩
    (fun p hp => ⟨up _ _ (N p hp).1, Nat.ne_of_lt (Heap.lt_size (N p hp).1), hideAll_none _ (List.mem_map_of_mem hp)⟩) BG st) (fun fl s' hl => lv _ _ hl) fun _ _ y => y
theorem enterC (B : Below A₀ base outer h₀) (F : Fr h₀ L s.heap m) (X₀ : K.In h₀) (N : News h₀ L s.heap news) (T : Top p loose mean mg mb h₀) (hA : A.frames = some (env :: outer)) (hf : env.frame = some L) (hke : env.scope.kind = .function)
    (ho : K.lookup f = some ⟨oc, od, .func (fnOf name qual params body scope dV kV doc pm an cdv ct), osl⟩) (hcd : codeIn K cdv qual = true) (hroom : A.depth < recursionLimit)
    (hbind : BindsTo s (fnOf name qual params body scope dV kV doc pm an cdv ct) args binds) (hloc : ∀ y ∈ binds, scope.names.lookup y.1 = some .local)
    (h : ∀ g L' h₁, Fr h₀ L g m → Fr g L' h₁ (fun y => binds.reverse.lookup y) → News g L' h₁ news → Below A base (env :: outer) g → K.In g → Top p loose mean mg mb g →
      wpC (model prog w) (A.deeper (envOf qual scope L' f cdv)) (execs body (envOf qual scope L' f cdv)) (fun fl s' => LeaveK h₀ L m g R (match fl with | .ret v => v | _ => .none) s') NoE
        { s with heap := h₁, toks := s.toks + binds.length })
    (hco : scope.isCoroutine = false) (hgen : scope.isGenerator = false) (hk : scope.kind = .function)
    (hcell : ∀ x ∈ scope.names, x.2 ≠ .cell) : codeC (model prog w) A (.call (.ref f) args) R s := by
  refine codeC_call_function (fd := fnOf name qual params body scope dV kV doc pm an cdv ct) (body := body) hroom ((X₀.keeps F.keep) _ _ ho) rfl hco hgen rfl (codeRec_of (X₀.keeps F.keep) hcd) (hbind _ _ _ _ ?_)
  exact frameC B F N T.nolimit hA hf hke hloc (fun g L' h₁ FG FL NG BG st => h g L' h₁ FG FL NG BG (X₀.keeps st) (T.keeps st)) hcell hk
theorem enterBothC {vs : List Value} {nm nr : Str} {front : List (Str × Value)} {g₁ : Addr → Sem (List (Str × Value))} {g₂ : Addr → Addr → Sem (List (Str × Value))}
    (B : Below A₀ base outer h₀) (F : Fr h₀ L s.heap m) (X₀ : K.In h₀) (N : News h₀ L s.heap news) (T : Top p loose mean mg mb h₀) (hA : A.frames = some (env :: outer)) (hf : env.frame = some L) (hke : env.scope.kind = .function)
    (ho : K.lookup f = some ⟨oc, od, .func (fnOf name qual params body scope dV kV doc pm an cdv ct), osl⟩) (hcd : codeIn K cdv qual = true) (hroom : A.depth < recursionLimit)
    (hp : peekA K ⟨prog, w.params⟩ (bindArgs (fnOf name qual params body scope dV kV doc pm an cdv ct) args) = some (({ cls := .type "tuple", data := .seq vs.toArray } : Obj), g₁))
    (hp₂ : ∀ D, peekA K ⟨prog, w.params⟩ (g₁ D) = some (dictOf [] 0, g₂ D))
    (hk₂ : ∀ C D, g₂ C D = pure (front ++ [(nr, Value.ref C)] ++ [(nm, Value.ref D)]))
    (hloc : ∀ C D, ∀ y ∈ front ++ [(nr, Value.ref C)] ++ [(nm, Value.ref D)], scope.names.lookup y.1 = some .local)
    (h : ∀ C D g L' h₁, (∀ p ∈ news, p.1 < C) → C < D → Fr h₀ L g m → Fr g L' h₁ (fun y => (front ++ [(nr, Value.ref C)] ++ [(nm, Value.ref D)]).reverse.lookup y) →
      News g L' h₁ ((D, dictOf [] 0) :: (C, ({ cls := .type "tuple", data := .seq vs.toArray } : Obj)) :: news) → Below A base (env :: outer) g → K.In g → Top p loose mean mg mb g →
      wpC (model prog w) (A.deeper (envOf qual scope L' f cdv)) (execs body (envOf qual scope L' f cdv)) (fun fl s' => LeaveK h₀ L m g R (match fl with | .ret v => v | _ => .none) s') NoE
        { s with heap := h₁, toks := s.toks + (front ++ [(nr, Value.ref C)] ++ [(nm, Value.ref D)]).length })
    (hco : scope.isCoroutine = false) (hgen : scope.isGenerator = false) (hk : scope.kind = .function)
    (hcell : ∀ x ∈ scope.names, x.2 ≠ .cell) : codeC (model prog w) A (.call (.ref f) args) R s := by
  refine codeC_call_function (fd := fnOf name qual params body scope dV kV doc pm an cdv ct) (body := body) hroom ((X₀.keeps F.keep) _ _ ho) rfl hco hgen rfl (codeRec_of (X₀.keeps F.keep) hcd) ?_
  refine wp_of_peekA (o := ({ cls := .type "tuple", data := .seq vs.toArray } : Obj)) F N (X₀.keeps F.keep) rfl _ g₁ hp fun h' F' N' l => ?_
  refine wp_of_peekA (s := { s with heap := h' }) (o := dictOf [] 0) F' N' (X₀.keeps F'.keep) rfl _ (g₂ s.heap.objs.size) (hp₂ _) fun h'' F'' N'' l' => ?_
  rw [hk₂]
  refine wpAny_pure (frameC (s := { s with heap := h'' }) B F'' N'' T.nolimit hA hf hke (hloc _ _) (fun g L' h₁ FG FL NG BG st => h _ _ g L' h₁ l (l' _ (.head _)) FG FL NG BG (X₀.keeps st) (T.keeps st)) hcell hk)
end
end Mine
end
section
open PySem PySem.W PyProof.Rows
theorem Mine.cut_NC : True ∧ True := by
  w_top off
  walk1
  all_goals exact True.intro
end

/- NC2 -/
section
open PySem PySem.W PyProof.Rows PySem.Calls
set_option Elab.async false
set_option maxRecDepth 100000
namespace Mine
section
variable {M : Model} {A : Around} {E : Value → Shared → Prop} {s : Shared} {env : Env} {K : Frag}
theorem C_keep {α : Type} {vs : List Value} {m : Sem α} {Q : α → Shared → Prop} (h : wpC M A m Q E s) : wpC M A (m.keep vs) Q E s := fun Γ p hΓ hC => by rw [Sem.wp_keep]; exact h Γ p hΓ hC
theorem C_callWith {pos : Pos} {f : Value} {first : List Value} {args : List (Bool × Sem Value)} {kws : List (Option Str × Sem Value)} {Q : Value → Shared → Prop} (hk : keepIn K f = true)
    (h : wpC M A (evalArgs f true args kws) (fun a s₁ => K.In s₁.heap ∧ wpC M A (call f (first ++ a.pos) a.kw) Q E s₁) E s) : wpC M A (callWith pos f first args kws) Q E s := by
  unfold callWith
  refine C_bind (C_holding (C_mono h (fun a s₁ h₁ => C_bind (C_standAt ?_)) fun _ _ x => x))
  obtain ⟨k, hk', Lk⟩ := keeps_K (M := M) hk _ h₁.1
  refine C_bind (C_any (Lk.here ?_))
  have tail : ∀ {t : Sem Value}, wpC M A t Q E s₁ → wpC M A (t >>= fun r => holding [r] point >>= fun _ => pure r) Q E s₁ :=
    fun ht => C_bind (C_mono ht (fun r s₂ hr => C_bind (C_holding (C_any (wpAny_point (C_pure hr))))) fun _ _ x => x)
  have marked (mk : Value) : wpC M A (callMarked mk f (first ++ a.pos) a.kw) Q E s₁ := by unfold callMarked; exact C_keep h₁.2
  have h2 := h₁.2
  cases hs : (args.any (·.1) || kws.any (·.1.isNone)) <;> rcases hk' with rfl | rfl | rfl <;> dsimp only <;>
    first | exact tail (marked _) | exact tail h2 | exact tail (C_operate h2) | (split <;> first | exact tail (marked _) | exact tail h2)
theorem C_Try {body orelse : List Stmt} {h₀ : ExceptHandler} {hs : List ExceptHandler} {pos : Pos} {Q : Flow → Shared → Prop}
    (h : wpC M A (execs body env) (fun f s₁ => match f with | .next => wpC M A (execs orelse env) Q E s₁ | f => Q f s₁)
      (fun e s₁ => wpAny M A (noteFrame e env) (fun _ s₂ => wpAny M A (setFlight e none) (fun _ s₃ => wpAny M A (handleBy e env (h₀ :: hs)) Q E s₃) E s₂) E s₁) s) :
    wpC M A (exec (.Try body (h₀ :: hs) orelse [] pos) env) Q E s := by
  rw [arm_exec_Try]
  refine C_bind (C_standAt ?_)
  unfold tryStmt
  simp only [List.isEmpty_nil, if_true, List.isEmpty_cons, Bool.false_and, Bool.false_eq_true, if_false]
  refine C_bind (C_attempt (C_mono h (fun f s₁ h₁ => ?_) fun e s₁ h₁ => ?_))
  · cases f <;> first | exact h₁ | exact C_pure h₁
  · exact C_any (wpAny_bind (wpAny_mono h₁ (fun _ _ h₂ => wpAny_bind h₂) fun _ _ x => x))
/-- arguments without a star, one at a time -/
theorem C_spliced_cons {x : Sem Value} {pos : Pos} {rest : List (Bool × Sem Value)} {Q : List Value → Shared → Prop}
    (h : wpC M A x (fun v s₁ => wpC M A (spliced rest) (fun vs s₂ => Q (v :: vs) s₂) E s₁) E s) : wpC M A (spliced ((false, (do let v ← x; standAt pos; pure v)) :: rest)) Q E s := by
  rw [spliced]
  refine C_bind (C_bind (C_mono h (fun v s₁ h₁ => C_bind (C_standAt (C_pure ?_))) fun _ _ x => x))
  dsimp only [Bool.false_eq_true, if_false]
  first
    | exact C_bind (C_pure (C_bind (C_holding (C_mono h₁ (fun vs s₂ h₂ => C_pure h₂) fun _ _ x => x))))
    | exact C_bind (C_holding (C_mono h₁ (fun vs s₂ h₂ => C_pure h₂) fun _ _ x => x))
theorem C_spliced_nil {Q : List Value → Shared → Prop} (h : Q [] s) : wpC M A (spliced []) Q E s := by
  rw [spliced]; exact C_pure h
theorem C_spliced_star {x : Sem Value} {pos : Pos} {rest : List (Bool × Sem Value)} {Q : List Value → Shared → Prop}
    (h : wpC M A x (fun v s₁ => StarOf M A E v (fun here s₂ => wpC M A (spliced rest) (fun vs s₃ => Q (here ++ vs) s₃) E s₂) s₁) E s) : wpC M A (spliced ((true, (do let v ← x; standAt pos; pure v)) :: rest)) Q E s := by
  rw [spliced]
  refine C_bind (C_bind (C_mono h (fun v s₁ h₁ => C_bind (C_standAt (C_pure ?_))) fun _ _ x => x))
  unfold StarOf at h₁
  refine C_bind (C_any (wpAny_mono h₁ (fun b s₂ h₂ => ?_) fun _ _ x => x))
  obtain ⟨rfl, h₂⟩ := h₂
  have z := C_any (wpAny_mono h₂ (fun here s₃ h₃ => (show wpC M A (holding here (spliced rest) >>= fun r => pure (here ++ r)) Q E s₃ from
    C_bind (C_holding (C_mono h₃ (fun vs s₄ h₄ => C_pure h₄) fun _ _ x => x)))) fun _ _ x => x)
  try simp only [Bool.false_eq_true, if_false]
  first
    | exact C_bind z
    | exact z
    | exact C_bind (C_pure z)
/-- the arguments of a call without keywords, more than one or no lone star -/
theorem C_evalArgs {f : Value} {x : Sem Value} {rest : List (Bool × Sem Value)} {Q : Args → Shared → Prop} (h : wpC M A (spliced ((false, x) :: rest)) (fun vs s₁ => Q ⟨vs, []⟩ s₁) E s) :
    wpC M A (evalArgs f true ((false, x) :: rest) []) Q E s := by
  unfold evalArgs
  show wpC M A (spliced ((false, x) :: rest) >>= _) Q E s
  refine C_bind (C_mono h (fun vs s₁ h₁ => ?_) fun _ _ x => x)
  refine C_holding ?_
  simp only [List.all_nil, if_true, List.map_nil]
  show wpC M A (evalAll [] >>= _) Q E s₁
  rw [evalAll]
  exact C_bind (C_pure (C_bind (C_pure (C_pure h₁))))
theorem C_spliced_plain {x : Sem Value} {rest : List (Bool × Sem Value)} {Q : List Value → Shared → Prop}
    (h : wpC M A x (fun v s₁ => wpC M A (spliced rest) (fun vs s₂ => Q (v :: vs) s₂) E s₁) E s) : wpC M A (spliced ((false, x) :: rest)) Q E s := by
  rw [spliced]
  refine C_bind (C_mono h (fun v s₁ h₁ => ?_) fun _ _ x => x)
  dsimp only [Bool.false_eq_true, if_false]
  first
    | exact C_bind (C_pure (C_bind (C_holding (C_mono h₁ (fun vs s₂ h₂ => C_pure h₂) fun _ _ x => x))))
    | exact C_bind (C_holding (C_mono h₁ (fun vs s₂ h₂ => C_pure h₂) fun _ _ x => x))
theorem C_callWith_K {pos : Pos} {f : Value} {first : List Value} {e : Expr} {rest : List Expr} {Q : Value → Shared → Prop} (hk : keepIn K f = true)
    (h : wpC M A (spliced (backTo pos (starEach (e :: rest) env))) (fun vs s₁ => K.In s₁.heap ∧ wpC M A (call f (first ++ vs)) Q E s₁) E s)
    (he : starEach (e :: rest) env = (false, eval e env) :: starEach rest env := by rfl) : wpC M A (callWith pos f first (backTo pos (starEach (e :: rest) env)) (backToKw pos (keywordEach [] env))) Q E s := by
  rw [he] at h ⊢
  exact C_callWith hk (C_evalArgs h)
theorem C_callType {pos : Pos} {T : String} {first : List Value} {e : Expr} {Q : Value → Shared → Prop}
    (h : wpC M A (spliced (backTo pos (starEach [e] env))) (fun vs s₁ => wpC M A (call (.type T) (first ++ vs)) Q E s₁) E s)
    (he : starEach [e] env = [(false, eval e env)] := by rfl) : wpC M A (callWith pos (.type T) first (backTo pos (starEach [e] env)) (backToKw pos (keywordEach [] env))) Q E s := by
  rw [he] at h ⊢
  unfold callWith
  refine C_bind (C_holding (C_mono (C_evalArgs (Q := fun a s₁ => wpC M A (call (.type T) (first ++ a.pos) a.kw) Q E s₁) h) (fun a s₁ h₁ => C_bind (C_standAt ?_)) fun _ _ x => x))
  refine C_bind (C_pure ?_)
  exact C_bind (C_mono h₁ (fun r s₂ hr => C_bind (C_holding (C_any (wpAny_point (C_pure hr))))) fun _ _ x => x)
theorem C_CallName {id : Str} {p pos : Pos} {args : List Expr} {kws : List Keyword} {Q : Value → Shared → Prop}
    (h : wpAny M A (eval (.Name id p) env) (fun f s₁ => wpC M A (callWith pos f [] (backTo pos (starEach args env)) (backToKw pos (keywordEach kws env))) Q E s₁) E s) :
    wpC M A (eval (.Call (.Name id p) args kws pos) env) Q E s := by
  rw [arm_eval_Call_Name']
  exact C_step h
theorem C_Compare1 {l op r pos} {Q : Value → Shared → Prop} (h : wpC M A (eval l env) (fun a s₁ => wpAny M A (eval r env) (fun b s₂ => wpAny M A (compareOp op a b) Q E s₂) E s₁) E s)
    (hm : behindInMarks op r = false := by with_unfolding_all rfl) : wpC M A (eval (.Compare l [op] [r] pos) env) Q E s := by
  simp only [eval_Compare1, markedBehindIn_of_false hm]
  refine C_bind (C_mono h (fun a s₁ h₁ => C_any (wpAny_bind (wpAny_holding (wpAny_mono h₁ (fun b s₂ h₂ => wpAny_bind (wpAny_standAt (wpAny_operating h₂))) fun _ _ x => x)))) fun _ _ x => x)
end
section
variable {prog : Program} {w : World} {A : Around} {s : Shared} {env : Env}
theorem codeC_forLoop {R : Result → Shared → Prop} {target : Expr} {it : Value} {body : List Stmt} (I : Nat → Shared → Prop)
    (turn : ∀ n s, I n s → wpAny (model prog w) A (pyNext it) (fun r s₁ => match r with
      | none => R (.ok .next) s₁
      | some v => wpAny (model prog w) A (assign target env v) (fun _ s₂ => wpC (model prog w) A (execs body env) (fun f s₃ => match f with
          | .next | .cont => ∃ m, m < n ∧ I m s₃
          | .brk => R (.ok .next) s₃
          | .ret v => R (.ok (.ret v)) s₃) NoE s₂) NoE s₁) NoE s)
    (n : Nat) (h : I n s) (ht : ∀ v, letOwnedTupleGo target it v = pure () := by intro _; rfl) : codeC (model prog w) A (.forLoop target it body [] env) R s := by
  refine codeC_loop rfl I (fun n s hI => ?_) n h
  show wpC _ _ ((forTurn target it body [] env).onRaise (fun x => do noteFrame x env; theTreesLotGoes x)) _ _ s
  refine C_onRaise (C_mono (Q := fun fin s' => match fin with
        | .done f => R (.ok f) s'
        | .again c' => (c' = .forLoop target it body [] env ∧ ∃ m, m < n ∧ I m s') ∨ (c'.quiet = true ∧ codeC (model prog w) A c' R s')) (E := NoE) ?_ (fun _ _ x => x) fun _ _ x => x.elim)
  simp only [forTurn]
  refine C_bind (C_standAt (C_bind (C_onRaise (C_any (wpAny_mono (turn n s hI) (fun r s₁ h₁ => ?_) fun _ _ x => x.elim)))))
  cases r with
  | none => exact C_pure (.inr ⟨rfl, codeC_any (codeAny_block (wpAny_execs_nil h₁))⟩)
  | some v =>
    refine C_bind (C_any (wpAny_of_eq (ht v) ?_))
    refine C_bind (C_any (wpAny_mono h₁ (fun _ s₂ h₂ => C_bind (C_mono h₂ (fun f s₃ h₃ => ?_) fun _ _ x => x)) fun _ _ x => x))
    cases f with
    | next => exact C_pure (.inl ⟨rfl, h₃⟩)
    | cont => exact C_pure (.inl ⟨rfl, h₃⟩)
    | brk => exact C_pure h₃
    | ret v => exact C_pure h₃
theorem C_For {target iter body pos} {Q : Flow → Shared → Prop}
    (h : wpAny (model prog w) A (eval iter env) (fun x s₁ => wpAny (model prog w) A (pyIter x) (fun it s₂ =>
      codeC (model prog w) A (.forLoop target it body [] env) (fun r s' => match r with | .ok f => Q f s' | .error _ => False) s₂) NoE s₁) NoE s)
    (hs : ∀ x, foldedSetIterable iter env x = pure x := by intro _; rfl) : wpC (model prog w) A (exec (.For target iter body [] pos) env) Q NoE s := by
  rw [exec_For]
  refine C_bind (C_standAt (C_bind (C_any (wpAny_mono h (fun x s₁ h₁ => ?_) fun _ _ x => x))))
  refine C_bind (C_any (wpAny_of_eq (hs x) ?_))
  refine C_bind (C_standAt (C_bind (C_holding (C_any (wpAny_mono h₁ (fun it s₂ h₂ => ?_) fun _ _ x => x)))))
  unfold runOwn
  refine C_onRaise (C_run (codeC_mono h₂ fun r s' h' => ?_))
  cases r with
  | ok f => exact h'
  | error e => exact h'.elim
end
end Mine
end
section
open PySem PySem.W PyProof.Rows
theorem Mine.cut_NC2 : True ∧ True := by
  w_top off
  walk1
  all_goals exact True.intro
end

/- NHeadC -/
section
open PySem PySem.W PyProof.Rows PySem.Calls
set_option Elab.async false
set_option maxRecDepth 100000
namespace Mine
/-- the context in which the claim calls -/
abbrev Γ₀ : Ctx := ⟨.builtin "claim.caller" {}, none, none, [], none⟩
theorem top_wp {prog : Program} {w : World} {name : Str} {vs : List Value} {s : Shared} {mg : Str → Option Value} {f : Value} {R : Result → Shared → Prop} {what : String}
    (hg : s.heap.Ns mainGlobals mg) (hf : mg name = some f) (h : codeC (model prog w) callerA (.call f ⟨vs, []⟩) R s) (hret : ∀ fl s', R (.ok fl) s' → ∃ v, fl = .ret v) :
    Sem.wp (model prog w) Γ₀ (do match ← nsGet mainNs name with
      | some f => do ret (← PySem.call f vs)
      | none => unsupported what) (Sem.finPost (model prog w) Γ₀ R) (fun e _ s' => R (.error e) s') default s := by
  rw [Sem.wp_bind']
  rw [show mainNs = mainGlobals from rfl, Sem.wp_nsGet _ _ _ _ _ hg, hf]
  rw [Sem.wp_bind']
  show Sem.wp _ _ (runValue _) _ _ _ _
  rw [Sem.wp_runValue]
  refine wpCode_mono (fun r s' hr => ?_) (h _ _ rfl (caller_in.enter _ none _ (by intro x; cases x)) (by rfl))
  cases r with
  | error e => exact hr
  | ok fl =>
    obtain ⟨v, rfl⟩ := hret fl s' hr
    exact hr
/-- what is asked of the call, where the claim's caller stands below -/
abbrev WalkC (q : Program) (loose : List Str) (XP : (Str → Option Value) → Heap → Prop) (YP : World → Heap → Prop) (r : RowW) (d : DefRec) (kwd : List (Str × Expr)) : Prop :=
  ∀ (w : World) (s₀ s₁ : Shared) (mg mb : Str → Option Value), Ground q loose r.records XP w s₀ mg mb s₁.heap → YP w s₁.heap → ∀ (a : Addr) (o : Obj) (pm cd doc dV kV : Value), s₁.heap.get? a = some o →
    o.data = .func { docDef d.name d.params d.body d.scope pm cd doc with defaults := dV, kwdefaults := kV } → s₁.heap.CodeRec cd d.name → Dflts mg s₁.heap d.params kwd dV kV → mg d.name = some (.ref a) → s₁.gens = #[] →
    ∀ (args : List WData) (vals : List Value) (as : List Addr), r.claim.pre args = true → WData.layableAll args = true → ReadsAllW r.records (classAt s₀.heap) s₁.heap vals args as → WellAll w.params s₁.heap vals args → (∀ a ∈ as, (a == sysModules) = false) →
      codeC (model r.prog w) callerA (.call (.ref a) ⟨vals, []⟩) (GoodWG r.claim (classAt s₀.heap) (ExcName.means s₀.heap) args s₁) s₁
theorem goodWG_ret {c : ClaimW} {cl : Str → Option Addr} {mean : ExcName → Option Value} {args : List WData} {s₁ s' : Shared} {fl : Flow} (g : GoodWG c cl mean args s₁ (.ok fl) s') : ∃ v, fl = .ret v := by
  rcases g.1 with ⟨v, _, _, e, _⟩ | ⟨_, _, _, e, _⟩
  · cases e; exact ⟨v, rfl⟩
  · cases e
theorem callFromC {r : RowW} {w : World} {s : Shared} {mg : Str → Option Value} {f : Value} {free : Addr → Prop} {gens : Prop} {kept : Heap → Prop} {what : String} (hz : s.asleep) (hgens : s.gens = #[]) (hsame : r.claim.same = none) (hwi : r.claim.within = []) (hi : ∀ a b, r.claim.ident a b = true)
    (hf : mg r.name = some f) (hmg : ∀ s₁ : Shared, (∀ b o, s.heap.get? b = some o → s₁.heap.get? b = some o) → s₁.heap.Ns mainGlobals mg)
    (hkept : ∀ s₁ s' : Shared, (∀ b o, s.heap.get? b = some o → s₁.heap.get? b = some o) → OldK s₁.heap s'.heap → kept s'.heap)
    (hspec : ∀ args, r.claim.pre args = true → WData.layableAll args = true → ∀ ord : List DictEntry → List DictEntry, (∀ l, (ord l).Perm l) →
      ∃ vs s₁ as, layAllW r.claim.records (classAt s.heap) w.params ord args s = some (vs, s₁) ∧ Laid r.claim.records w s s₁ args vs as ∧
        codeC (model r.claim.prog w) callerA (.call f ⟨vs, []⟩) (GoodWG r.claim (classAt s.heap) (ExcName.means s.heap) args s₁) s₁) :
    r.claim.CallFrom (fun vs => ⟨do match ← nsGet mainNs r.name with
      | some f => do ret (← PySem.call f vs)
      | none => unsupported what, .builtin "claim.caller" {}, default, []⟩) w free gens kept s := by
  intro args hpre hlay ord hord
  obtain ⟨vs, s₁, as, hlaid, L, hcode⟩ := hspec args hpre hlay ord hord
  have hal := layAllW_rest _ _ _ hlaid
  have hk1 := layAllW_keeps _ _ _ hlaid
  have hwp := top_wp (what := what) (hmg s₁ hk1) hf hcode fun fl s' g => goodWG_ret g
  have hwp2 : Sem.wp (model r.claim.prog w) Γ₀ _ (Sem.finPost (model r.claim.prog w) Γ₀ fun res s' => GoodWG r.claim (classAt s.heap) (ExcName.means s.heap) args s₁ res s' ∧ leftWithCleanup s'.gens = false)
      (fun e _ s' => GoodWG r.claim (classAt s.heap) (ExcName.means s.heap) args s₁ (.error e) s' ∧ leftWithCleanup s'.gens = false) default s₁ :=
    Sem.wp_mono _ _ _ (fun fin p' s' h' => by
      cases fin with
      | done fl => exact ⟨h', leftWithCleanup_false_of_bare h'.2.2.2⟩
      | again c' => exact ⟨h'.1, wpCode_mono (fun res s'' g => ⟨g, leftWithCleanup_false_of_bare g.2.2.2⟩) h'.2⟩) (fun e p' s' h' => ⟨h', leftWithCleanup_false_of_bare h'.2.2.2⟩) _ _ hwp
  obtain ⟨n, res, s'', s', hsched, hrun, hfo, g⟩ := wp_halts_full (M := model r.claim.prog w) (R := GoodWG r.claim (classAt s.heap) (ExcName.means s.heap) args s₁) (Shared.asleep_of_life hal.2.2.2 hz) hwp2
  obtain ⟨eh, _, _, eo, _⟩ := Shared.forget_eq hfo
  have z := g.laid (c := r.claim) hsame hwi hi L
  have hcase := z.1.congr eh
  have hos : s'.os = s.os := eo.trans z.2.1
  have hkp : kept s'.heap := by rw [eh]; exact hkept s₁ s'' hk1 g.2.1
  have hlife : s'.heap.life = s.heap.life := (runN_life _ _ _ hrun).trans hal.2.2.2
  exact ⟨vs, s₁, hlaid, n, _, s', hsched,
    hcase.imp (Exists.imp fun v h => ⟨congrArg outcomeOf h.1, h.2.1, h.2.2.1, h.2.2.2.1, fun b o y _ => h.2.2.2.2.1 b o y, h.2.2.2.2.2⟩)
      (Exists.imp fun e => Exists.imp fun ob => Exists.imp fun cls h => ⟨congrArg outcomeOf h.1, h.2.1, h.2.2.1, h.2.2.2.1, h.2.2.2.2.1, fun b o y _ => h.2.2.2.2.2 b o y⟩),
    (fun _ i x hx => by rw [hgens] at hx; simp at hx), hkp, by rw [hlife], Shared.rest_eq hos⟩
/-- the records' classes, told apart from what else is asked of the top -/
theorem ground_recs {rs : WRecords} {q : Program} {loose : List Str} {XP : (Str → Option Value) → Heap → Prop} {w : World} {s : Shared} {mg mb : Str → Option Value} (G : Ground q loose [] (fun mg h => XP mg h ∧ RecFacts rs h) w s mg mb s.heap) : Ground q loose rs XP w s mg mb s.heap :=
  G.X.2.ground { G with X := G.X.1 }
/-- arguments can be laid, and lie as they read -/
theorem laid_now {r : RowW} {q : Program} {loose : List Str} {XP : (Str → Option Value) → Heap → Prop} {w : World} {s : Shared} {mg mb : Str → Option Value} (G : Ground q loose r.records XP w s mg mb s.heap) (hgens : s.gens = #[]) {args : List WData} (hpre : r.claim.pre args = true) (hlay : WData.layableAll args = true) {ord : List DictEntry → List DictEntry} (hord : ∀ l, (ord l).Perm l) :
    ∃ vs s₁ as, layAllW r.claim.records (classAt s.heap) w.params ord args s = some (vs, s₁) ∧ Laid r.claim.records w s s₁ args vs as := by
  cases h : layAllW r.records (classAt s.heap) w.params ord args s with
  | none =>
    have z := layAllW_isSome (P := w.params) (ord := ord) G.has args r.args s (pre_splitW hpre).1
    rw [h] at z
    cases z
  | some x =>
    have ⟨as, reads, low, old⟩ := reads_layAllW hord args s x h hlay x.2.heap fun _ _ e => e
    have rest := layAllW_rest args s x h
    exact ⟨x.1, x.2, as, h, ⟨⟨ord, hord, h⟩, reads, low, old, layAllW_keeps args s x h, rest.1.trans hgens, rest.2.2.1⟩⟩
/-- the head, for a law whose calls look for the claim's caller: in this namespace the library's line takes it -/
theorem PySem.W.holds_open {r : OpenRow} {q : Program} {loose : List Str} {Xt : Shared → Bool} {XP : (Str → Option Value) → Heap → Prop} {α : Type} {Yf : Shared → α} {Ya : World → α} {YP : World → Heap → Prop} {d : DefRec} {kwd : List (Str × Expr)} {N : Nat}
    (left0 : ∀ w, (openEnds treeTable r.prog w N).map (fun s => (openSeen q loose (importedModules r.prog.main.body) Xt true s, Yf s)) = some (openGood q loose, Ya w)) (hY : ∀ w s, Yf s = Ya w → YP w s.heap) (hYk : ∀ w h h', YP w h → (∀ b o, h.get? b = some o → h'.get? b = some o) → YP w h')
    (hX : ∀ s, Xt s = true → XP (s.heap.nsMap mainGlobals) s.heap) (hXk : ∀ mg h h', XP mg h → (∀ b o, h.get? b = some o → h'.get? b = some o) → XP mg h')
    (hdef : defOf q r.name = some (d, kwd)) (hp : r.prog.theDef r.name = some (d.params, d.body, d.scope)) (hk : kwWritten? d.params.kwonlyargs d.params.kw_defaults = some kwd) (hRf : ∀ s, Xt s = true → RecFacts r.records s.heap) (hwr : (!r.writes || r.records.isEmpty) = true)
    (k1 : r.wellSaid = true) (ok : (chainsOk q && opensWell r.prog && (frees r.toRowW && r.within.isEmpty)) = true) (hb : r.prog.bare) (hw : r.toRowW.promised)
    (call : WalkC q loose XP YP r.toRowW d kwd) : r.Holds := by
  have left : LeftO r.prog q loose Xt Yf Ya N := left0
  have ⟨ok1, ok2⟩ := Bool.and_eq_true_iff.mp ok
  have ⟨chains, opens⟩ := Bool.and_eq_true_iff.mp ok1
  have ⟨free, within⟩ := Bool.and_eq_true_iff.mp ok2
  have parts := frees_parts free
  have behind := left.behind (XP := fun mg h => XP mg h ∧ RecFacts r.records h) (fun s hs => ⟨hX s hs, hRf s hs⟩) chains
  refine ⟨k1, hw, ⟨hb, opens, ?makers⟩, hw.witness, fun w => ⟨(behind w).1, fun s' hs' => ?_⟩⟩
  case makers => exact congrArg (List.map _) parts.2.2.2.2
  have ⟨s₀, fence, fenceG, s, top, asleep, gens, glob, G₀, says⟩ := (behind w).2 s' hs'
  have noGens : s.gens = #[] := Array.eq_empty_of_size_eq_zero (of_decide_eq_true gens)
  have G := ground_recs G₀
  have Gn : Ground q loose [] XP w s _ _ s.heap := { G₀ with X := G₀.X.1 }
  refine ⟨s₀, fence, fenceG, s, top, fun n hn => ?pin, G₀.X.2.1, G₀.X.2.2.1, ?run⟩
  case pin =>
    have e : n = r.name := by split at hn <;> simp_all
    rw [e]
    exact pinned_of_view glob Gn hdef hp hk
  case run =>
    have ⟨a, _, _, _, _, _, _, atName, _⟩ := G.fn hdef
    refine callFromC (r := r.toRowW) (mg := s.heap.nsMap mainGlobals) (f := .ref a) asleep noGens parts.1 (List.isEmpty_iff.mp within) (ident_freeW parts.2.1 parts.2.2.1 parts.2.2.2.1) atName (fun _ ks => G.T.g.keeps ks)
      (fun _ _ ks K x => ⟨namesKept_of top glob _ ks K.old, noTable hwr x⟩) fun args hpre hlay ord hord => ?_
    have ⟨vs, s₁, as, lays, L⟩ := laid_now G noGens hpre hlay hord
    have G₁ := G.keeps hXk L.keeps
    have ⟨a₁, o₁, pm₁, cd₁, doc₁, dV₁, kV₁, at₁, ho₁, hd₁, hc₁, hD₁⟩ := G₁.fn hdef
    have same : a₁ = a := by
      have e := at₁.symm.trans atName
      injection e with e
      injection e
    subst same
    exact ⟨vs, s₁, as, lays, L, call w s s₁ _ _ G₁ (hYk _ _ _ (hY w s says) L.keeps) _ o₁ pm₁ cd₁ doc₁ dV₁ kV₁ ho₁ hd₁ hc₁ hD₁ (defOf_name hdef ▸ at₁) L.gens args vs as hpre hlay L.reads L.well (L.low G.low)⟩
end Mine
end
section
open PySem PySem.W PyProof.Rows
theorem Mine.cut_NHeadC : True ∧ True := by
  w_top off
  walk1
  all_goals exact True.intro
end

/- NHead -/
section
open PySem PySem.W PyProof.Rows
set_option Elab.async false
set_option maxRecDepth 100000
namespace Mine
set_option maxHeartbeats 8000000 in
open_top hd for PySem.Challenge.rw_nb0114_01
end Mine
end
section
open PySem PySem.W PyProof.Rows
theorem Mine.cut_NHead : True ∧ True := by
  w_top off
  walk1
  all_goals exact True.intro
end

/- NDefs -/
section
open PySem PySem.W PyProof.Rows
set_option Elab.async false
set_option maxRecDepth 100000
namespace Mine
noncomputable abbrev KK (w : World) : Frag := hd.heap_39 w.params
noncomputable abbrev LO : List Str := looseW hd.view_39 [Str.ofString "_norm_version"]
noncomputable abbrev PR : Program := PySem.Challenge.rw_nb0114_01.row.prog
noncomputable abbrev LObj (vs : List Value) (n : Nat) : Obj := listOf vs.toArray n
end Mine
end
section
open PySem PySem.W PyProof.Rows
theorem Mine.cut_NDefs : True ∧ True := by
  w_top off
  walk1
  all_goals exact True.intro
end

/- NFold -/
section
open PySem PySem.W PyProof.Rows PySem.Calls
set_option Elab.async false
namespace Mine
/-! The continuation and the caller's frames get names, so that a proof term does not copy them. -/
theorem foldA {M : Model} {A : Around} {α : Type} {t : Sem α} {Q : α → Shared → Prop} {E : Value → Shared → Prop} {s : Shared} (h : let A₁ := A; wpAny M A₁ t Q E s) : wpAny M A t Q E s := h
theorem foldF {M : Model} {A : Around} {t : Sem Flow} {Q : Flow → Shared → Prop} {E : Value → Shared → Prop} {s : Shared} (h : let q := Q; wpAny M A t q E s) : wpAny M A t Q E s := h
/-- a statement with what holds behind it, and the rest walked once -/
theorem cutF {M : Model} {A : Around} {st : Stmt} {rest : List Stmt} {env : Env} {Q : Flow → Shared → Prop} {E : Value → Shared → Prop} {s : Shared} {g h : Heap} {L : Addr} {m : Str → Option Value} (_ : Fr g L h m) (P : Heap → Addr → Shared → Prop)
    (h1 : wpAny M A (exec st env) (fun f s' => f = .next ∧ P g L s') E s) (h2 : ∀ s', P g L s' → wpAny M A (execs rest env) Q E s') : wpAny M A (execs (st :: rest) env) Q E s :=
  wpAny_execs_cons (wpAny_mono h1 (fun f s' ⟨e, hp⟩ => by subst e; exact h2 s' hp) fun _ _ x => x)
/-- a value with what holds of it, and the rest walked once -/
theorem cutV {M : Model} {A : Around} {t : Sem Value} {Q : Value → Shared → Prop} {E : Value → Shared → Prop} {s : Shared} {g h : Heap} {L : Addr} {m : Str → Option Value} (_ : Fr g L h m) (P : Heap → Addr → Value → Shared → Prop)
    (h1 : wpAny M A t (P g L) E s) (h2 : ∀ v s', P g L v s' → Q v s') : wpAny M A t Q E s :=
  wpAny_mono h1 h2 fun _ _ x => x
end Mine
end
section
open PySem PySem.W PyProof.Rows
theorem Mine.cut_NFold : True ∧ True := by
  w_top off
  walk1
  all_goals exact True.intro
end

/- NJoin -/
section
open PySem PySem.W PyProof.Rows PySem.Calls
set_option Elab.async false
namespace Mine
/-- a place at which the walk stands still -/
def Cut (P : Prop) : Prop := P
theorem Cut.out {P : Prop} (h : Cut P) : P := h
/-- behind a statement that gives one name a value -/
def SetN (x : Str) (p : Value → Prop) (nw : List (Addr × Obj)) (s : Shared) (g : Heap) (L : Addr) (m : Str → Option Value) (s' : Shared) : Prop :=
  ∃ (v : Value) (h' : Heap) (tk' : Nat), p v ∧ s' = { s with heap := h', toks := tk' } ∧ Fr g L h' (fun y => if y = x then some v else m y) ∧ News g L h' nw
theorem SetN.intro {x : Str} {p : Value → Prop} {nw nw' : List (Addr × Obj)} {s : Shared} {g h' : Heap} {L : Addr} {m : Str → Option Value} {v : Value} {tk' : Nat} (hv : p v) (F : Fr g L h' (fun y => if y = x then some v else m y)) (N : News g L h' nw') (hs : ∀ q ∈ nw, q ∈ nw') : SetN x p nw s g L m { s with heap := h', toks := tk' } :=
  ⟨v, h', tk', hv, rfl, F, fun q hq => N q (hs q hq)⟩
theorem SetN.stay {x : Str} {p : Value → Prop} {nw nw' : List (Addr × Obj)} {s : Shared} {g h' : Heap} {L : Addr} {m : Str → Option Value} {v : Value} {tk' : Nat} (hv : p v) (hm : m x = some v) (F : Fr g L h' m) (N : News g L h' nw') (hs : ∀ q ∈ nw, q ∈ nw') : SetN x p nw s g L m { s with heap := h', toks := tk' } :=
  ⟨v, h', tk', hv, rfl, by
    have e : (fun y => if y = x then some v else m y) = m := by
      funext y
      by_cases h : y = x
      · rw [if_pos h, h, hm]
      · rw [if_neg h]
    rw [e]; exact F, fun q hq => N q (hs q hq)⟩
/-- a statement that gives one name a value; the rest is walked once -/
theorem cutN {M : Model} {A : Around} {st : Stmt} {rest : List Stmt} {env : Env} {Q : Flow → Shared → Prop} {E : Value → Shared → Prop} {s : Shared} {g : Heap} {L : Addr} {m : Str → Option Value} {nw : List (Addr × Obj)} (x : Str) (p : Value → Prop) (_ : Fr g L s.heap m) (_ : News g L s.heap nw)
    (h1 : wpAny M A (exec st env) (fun f s' => f = .next ∧ SetN x p nw s g L m s') E s)
    (h2 : ∀ v h' tk', p v → Fr g L h' (fun y => if y = x then some v else m y) → News g L h' nw → wpAny M A (execs rest env) Q E { s with heap := h', toks := tk' }) : wpAny M A (execs (st :: rest) env) Q E s :=
  wpAny_execs_cons (wpAny_mono h1 (fun f s' ⟨e, hp⟩ => by
    subst e
    obtain ⟨v, h', tk', hv, rfl, F, N⟩ := hp
    exact h2 v h' tk' hv F N) fun _ _ x => x)
/-- behind a statement that gives one name a new list -/
def SetL (x : Str) (p : List Value → Prop) (nw : List (Addr × Obj)) (s : Shared) (g : Heap) (L : Addr) (m : Str → Option Value) (s' : Shared) : Prop :=
  ∃ (D : Addr) (vs : List Value) (nn : Nat) (h' : Heap) (tk' : Nat), p vs ∧ s' = { s with heap := h', toks := tk' } ∧ Fr g L h' (fun y => if y = x then some (.ref D) else m y) ∧ News g L h' ((D, listOf vs.toArray nn) :: nw) ∧ (∀ q ∈ nw, q.1 < D)
theorem SetL.intro {x : Str} {p : List Value → Prop} {nw nw' : List (Addr × Obj)} {s : Shared} {g h' : Heap} {L D : Addr} {m : Str → Option Value} {vs : List Value} {nn tk' : Nat} (hv : p vs) (F : Fr g L h' (fun y => if y = x then some (.ref D) else m y)) (N : News g L h' nw') (hD : (D, listOf vs.toArray nn) ∈ nw') (hs : ∀ q ∈ nw, q ∈ nw') (hlt : ∀ q ∈ nw, q.1 < D) : SetL x p nw s g L m { s with heap := h', toks := tk' } :=
  ⟨D, vs, nn, h', tk', hv, rfl, F, fun q hq => by
    rcases List.mem_cons.mp hq with rfl | hq
    · exact N _ hD
    · exact N q (hs q hq), hlt⟩
theorem cutL {M : Model} {A : Around} {st : Stmt} {rest : List Stmt} {env : Env} {Q : Flow → Shared → Prop} {E : Value → Shared → Prop} {s : Shared} {g : Heap} {L : Addr} {m : Str → Option Value} {nw : List (Addr × Obj)} (x : Str) (p : List Value → Prop) (_ : Fr g L s.heap m) (_ : News g L s.heap nw)
    (h1 : wpAny M A (exec st env) (fun f s' => f = .next ∧ SetL x p nw s g L m s') E s)
    (h2 : ∀ D vs nn h' tk', p vs → Fr g L h' (fun y => if y = x then some (.ref D) else m y) → News g L h' ((D, listOf vs.toArray nn) :: nw) → (∀ q ∈ nw, q.1 < D) → wpAny M A (execs rest env) Q E { s with heap := h', toks := tk' }) : wpAny M A (execs (st :: rest) env) Q E s :=
  wpAny_execs_cons (wpAny_mono h1 (fun f s' ⟨e, hp⟩ => by
    subst e
    obtain ⟨D, vs, nn, h', tk', hv, rfl, F, N, hlt⟩ := hp
    exact h2 D vs nn h' tk' hv F N hlt) fun _ _ x => x)
structure FigIs (x fg : Str) (figs : Str → Str) : Prop where
  out : fg = figs x
end Mine
end
section
open PySem PySem.W PyProof.Rows
theorem Mine.cut_NJoin : True ∧ True := by
  w_top off
  walk1
  all_goals exact True.intro
end

/- NBase -/
section
open PySem PySem.W PyProof.Rows PySem.Calls
set_option Elab.async false
set_option maxRecDepth 100000
namespace Mine
section
variable {prog : Program} {w : World} {A : Around} {E : Value → Shared → Prop} {s : Shared} {env : Env} {h₀ : Heap} {x : Str} {body : List Stmt} {Q : Flow → Shared → Prop}

/-- what stands behind one turn of a loop -/
def KvEnd {σ : Type} (h₀ : Heap) (L : Addr) (nw : List (Addr × Obj)) (ps : σ → List (Str × Value)) (stored : List Str) (x : Str) (m₀ : Str → Option Value) (P : σ → Prop) (s₁ s₂ : Shared) : Prop :=
  ∃ (c : σ) (h' : Heap) (tk' : Nat) (m' : Str → Option Value), s₂ = { s₁ with heap := h', toks := tk' } ∧ Fr h₀ L h' m' ∧ News h₀ L h' nw ∧
    (∀ p ∈ ps c, m' p.1 = some p.2) ∧ (∀ z, z ≠ x → (∀ p ∈ ps c, z ≠ p.1) → stored.contains z = false → m' z = m₀ z) ∧ P c
def KvPost {σ : Type} (h₀ : Heap) (L : Addr) (nw : List (Addr × Obj)) (ps : σ → List (Str × Value)) (stored : List Str) (x : Str) (m₀ : Str → Option Value) (P : σ → Prop) (s₁ : Shared) (Q : Flow → Shared → Prop) (f : Flow) (s₂ : Shared) : Prop :=
  match f with
  | .ret v => Q (.ret v) s₂
  | .brk => Q .next s₂
  | .next => KvEnd h₀ L nw ps stored x m₀ P s₁ s₂
  | .cont => KvEnd h₀ L nw ps stored x m₀ P s₁ s₂

theorem KvEnd.intro {σ : Type} {L : Addr} {nw : List (Addr × Obj)} {ps : σ → List (Str × Value)} {stored : List Str} {m₀ m' : Str → Option Value} {P : σ → Prop} {s₁ : Shared} {h' : Heap} {tk' : Nat} (c : σ) (F : Fr h₀ L h' m') (N : News h₀ L h' nw)
    (hk : ∀ p ∈ ps c, m' p.1 = some p.2) (hr : ∀ z, z ≠ x → (∀ p ∈ ps c, z ≠ p.1) → stored.contains z = false → m' z = m₀ z) (hp : P c) : KvEnd h₀ L nw ps stored x m₀ P s₁ { s₁ with heap := h', toks := tk' } :=
  ⟨c, h', tk', m', rfl, F, N, hk, hr, hp⟩

theorem kv_of_walks {σ : Type} {I : Addr} {fp wr : List Addr} {n : Nat} {V : Nat → Value → Prop} {St : Nat → Heap → Prop} {m₀ : Str → Option Value} {news : List (Addr × Obj)}
    (ps : σ → List (Str × Value)) (stored : List Str) (P : Nat → σ → Prop) (c₀ : σ)
    (W : Walks prog w A I fp wr n V St) (hLf : env.locals ∉ fp) (hwr : ∀ b ∈ wr, h₀.get? b = none) (hnw : ∀ p ∈ news, p.1 ∉ wr)
    (hst : St 0 s.heap) (F : Fr h₀ env.locals s.heap m₀) (N : News h₀ env.locals s.heap news) (hk : ∀ p ∈ ps c₀, m₀ p.1 = some p.2) (hp : P 0 c₀)
    (turn : ∀ (c : σ) i v (u : Str → Option Value) h tk nw, i < n → V i v → (∀ p ∈ news, p ∈ nw) → P i c →
      Fr h₀ env.locals h (fun y => if y = x then some v else kstB (fun z => if stored.contains z then u z else m₀ z) (ps c) y) → News h₀ env.locals h nw →
      wpAny (model prog w) A (execs body env) (KvPost h₀ env.locals nw ps stored x m₀ (P (i + 1)) { s with heap := h, toks := tk } Q) E { s with heap := h, toks := tk })
    (done : ∀ (c : σ) (u : Str → Option Value) h tk, P n c → Fr h₀ env.locals h (fun y => if y = x then u y else kstB (fun z => if stored.contains z then u z else m₀ z) (ps c) y) → News h₀ env.locals h news → Q .next { s with heap := h, toks := tk }) :
    LoopAtV prog w A h₀ env x body Q E (.ref I) s := by
  let J : Nat → (Str → Option Value) → List (Addr × Obj) → Prop := fun i m nx => nx = news ∧ ∃ c : σ, (∀ p ∈ ps c, m p.1 = some p.2) ∧ (∀ z, z ≠ x → (∀ p ∈ ps c, z ≠ p.1) → stored.contains z = false → m z = m₀ z) ∧ P i c
  refine ⟨I, fp, wr, n, V, St, m₀, news, J, rfl, W, hLf, hwr, hnw, hst, F, N, ⟨rfl, c₀, hk, fun _ _ _ _ => rfl, hp⟩, ?_, ?_⟩
  · rintro i v m₁ news₁ s₁ own ⟨hh', tk', rfl⟩ hin hP ⟨rfl, c, h1, h2, hp'⟩ hoff hown _ _ _ F₁ N₁
    refine wpAny_mono (turn c i v m₁ hh' tk' (own ++ news₁) hin hP (fun p hp => List.mem_append.mpr (.inr hp)) hp' (kst_fr h1 h2 F₁) N₁) (fun f s₂ p => ?_) fun _ _ e => e
    have fin : KvEnd h₀ env.locals (own ++ news₁) ps stored x m₀ (P (i + 1)) { s with heap := hh', toks := tk' } s₂ → LoopStepU h₀ env.locals wr own (J (i + 1)) { s with heap := hh', toks := tk' } .next s₂ := by
      rintro ⟨c', h', tk, m', e, F', N', k1, k2, hp''⟩
      exact ⟨rfl, h', tk, m', news₁, e, F', N', hoff, rfl, c', k1, k2, hp''⟩
    cases f with
    | ret v => exact .ret p
    | brk => exact .brk p
    | next => exact .next (fin p)
    | cont => exact .cont (fin p)
  · rintro h' tk m' news' F' N' _ ⟨rfl, c, h1, h2, hp'⟩
    exact done c m' h' tk hp' (kst_frOut h1 h2 F') N'

/-- a loop over a list of the ledger, whatever its values -/
theorem kv_list {σ : Type} {l : Addr} {vs : List Value} {nn : Nat} {m₀ : Str → Option Value} {news : List (Addr × Obj)}
    (ps : σ → List (Str × Value)) (stored : List Str) (P : Nat → σ → Prop) (c₀ : σ)
    (hh : A.handled = none) (hl : (l, listOf vs.toArray nn) ∈ news) (F : Fr h₀ env.locals s.heap m₀) (N : News h₀ env.locals s.heap news) (hk : ∀ p ∈ ps c₀, m₀ p.1 = some p.2) (hp : P 0 c₀)
    (turn : ∀ (c : σ) i v (u : Str → Option Value) h tk nw, vs[i]? = some v → (∀ p ∈ news, p ∈ nw) → P i c →
      Fr h₀ env.locals h (fun y => if y = x then some v else kstB (fun z => if stored.contains z then u z else m₀ z) (ps c) y) → News h₀ env.locals h nw →
      wpAny (model prog w) A (execs body env) (KvPost h₀ env.locals nw ps stored x m₀ (P (i + 1)) { s with heap := h, toks := tk } Q) E { s with heap := h, toks := tk })
    (done : ∀ (c : σ) (u : Str → Option Value) h tk, P vs.length c → Fr h₀ env.locals h (fun y => if y = x then u y else kstB (fun z => if stored.contains z then u z else m₀ z) (ps c) y) → News h₀ env.locals h news → Q .next { s with heap := h, toks := tk }) :
    wpAny (model prog w) A (pyIter (.ref l)) (fun it s₂ => LoopAtV prog w A h₀ env x body Q E it s₂) E s := by
  have hol : s.heap.get? l = some (listOf vs.toArray nn) := (N _ hl).1
  have hls : s.heap.IsList l vs.toArray := ⟨_, hol, rfl, nn, rfl⟩
  have hne : l ≠ s.heap.objs.size := Nat.ne_of_lt (Heap.lt_size hol)
  refine wpAny_pyIter_list hls ?_
  have W := Walks.list (prog := prog) (w := w) hh s.heap.objs.size l hne vs.toArray
  have hlen : vs.toArray.size = vs.length := by simp
  rw [hlen] at W
  refine kv_of_walks ps stored P c₀ W ?_ ?_ ?_ ⟨⟨_, Heap.get?_push_size _ rfl, rfl, rfl⟩, hls.at fun o e => Heap.get?_push_of_some _ e⟩ (F.push _) (fun p hp => ⟨Heap.get?_push_of_some _ (N p hp).1, (N p hp).2⟩) hk hp ?_ ?_
  · intro hm
    rcases List.mem_cons.mp hm with e | hm
    · exact absurd F.ns.lt (e ▸ Nat.lt_irrefl _)
    · exact (N _ hl).2.1 ((List.mem_singleton.mp hm).symm)
  · intro b hb
    rw [List.mem_singleton.mp hb]
    exact next_is_new F
  · intro p hp hI
    exact absurd (Heap.lt_size (N p hp).1) ((List.mem_singleton.mp hI) ▸ Nat.lt_irrefl _)
  · intro c i v u h tk nw _ hv hsub hpc F' N'
    exact turn c i v u h tk nw (by simpa using hv) hsub hpc F' N'
  · exact done

/-- a loop over a text's signs -/
theorem kv_str {σ : Type} {xt : Str} {tx : Tok} {m₀ : Str → Option Value} {news : List (Addr × Obj)}
    (ps : σ → List (Str × Value)) (stored : List Str) (P : Nat → σ → Prop) (c₀ : σ)
    (hh : A.handled = none) (F : Fr h₀ env.locals s.heap m₀) (N : News h₀ env.locals s.heap news) (hk : ∀ p ∈ ps c₀, m₀ p.1 = some p.2) (hp : P 0 c₀)
    (turn : ∀ (c : σ) i (n : Nat) t (u : Str → Option Value) h tk nw, xt.cps[i]? = some n → (∀ p ∈ news, p ∈ nw) → P i c →
      Fr h₀ env.locals h (fun y => if y = x then some (.str ⟨#[n]⟩ t) else kstB (fun z => if stored.contains z then u z else m₀ z) (ps c) y) → News h₀ env.locals h nw →
      wpAny (model prog w) A (execs body env) (KvPost h₀ env.locals nw ps stored x m₀ (P (i + 1)) { s with heap := h, toks := tk } Q) E { s with heap := h, toks := tk })
    (done : ∀ (c : σ) (u : Str → Option Value) h tk, P xt.cps.size c → Fr h₀ env.locals h (fun y => if y = x then u y else kstB (fun z => if stored.contains z then u z else m₀ z) (ps c) y) → News h₀ env.locals h news → Q .next { s with heap := h, toks := tk }) :
    wpAny (model prog w) A (pyIter (.str xt tx)) (fun it s₂ => LoopAtV prog w A h₀ env x body Q E it s₂) E s := by
  refine wpAny_pyIter_str fun o St hW hst => ?_
  have W := hW A hh
  refine kv_of_walks ps stored P c₀ W ?_ ?_ ?_ hst (F.push _) (fun p hp => ⟨Heap.get?_push_of_some _ (N p hp).1, (N p hp).2⟩) hk hp ?_ ?_
  · intro hm
    exact absurd F.ns.lt ((List.mem_singleton.mp hm) ▸ Nat.lt_irrefl _)
  · intro b' hb
    rw [List.mem_singleton.mp hb]
    exact next_is_new F
  · intro p hp hI
    exact absurd (Heap.lt_size (N p hp).1) ((List.mem_singleton.mp hI) ▸ Nat.lt_irrefl _)
  · rintro c i v u h tk nw _ ⟨n, t, hn, rfl⟩ hsub hpc F' N'
    exact turn c i n t u h tk nw hn hsub hpc F' N'
  · exact done
end
end Mine
end
section
open PySem PySem.W PyProof.Rows
theorem Mine.cut_NBase : True ∧ True := by
  w_top off
  walk1
  all_goals exact True.intro
end

/- NPlain1 -/
section
open PySem PySem.W PyProof.Rows PySem.Calls PySem.Builtin PySem.Builtin.Str
set_option Elab.async false
set_option maxRecDepth 100000
namespace Mine
def runVal (n : Int) (r : Str) : Int := (signs r).foldl (fun T a => T * 10 + Txt.find (Str.ofString "0123456789") a) n
def badRun (r : Str) : Bool := (r == Str.ofString "") || (Txt.stripChars r (Str.ofString "0123456789") != Str.ofString "")
def runsVal : Int → List Str → Option Int
  | n, [] => some n
  | n, r :: rs => if badRun r = true then none else runsVal (runVal n r) rs
def bareF (x : Str) : Str := Txt.stripChars x (Str.ofString " ")
def signF (x : Str) : Str := Txt.slice (bareF x) none (some 1)
def figsF (x : Str) : Str := if ([Str.ofString "+", Str.ofString "-"].any fun y => y == signF x) = true then Txt.slice (bareF x) (some 1) none else bareF x
def wholeF (x : Str) : Option Int := (runsVal 0 (Txt.split (figsF x) (Str.ofString "_"))).map fun n => if (signF x == Str.ofString "-") = true then 0 - n else n
def optInt : Option Int → Tok → Value
  | none, _ => .none
  | some i, t => .int i t
theorem strValues_get {l : List (Str × Tok)} {i : Nat} {v : Value} (h : (strValues l)[i]? = some v) : ∃ r t, l[i]? = some (r, t) ∧ v = .str r t := by
  simp only [strValues, List.getElem?_map, Option.map_eq_some_iff] at h
  obtain ⟨⟨r, t⟩, h1, rfl⟩ := h
  exact ⟨r, t, h1, rfl⟩
theorem runsVal_snoc (n : Int) (r : Str) : ∀ (xs : List Str) , runsVal n (xs ++ [r]) = (runsVal n xs).bind fun k => if badRun r = true then none else some (runVal k r) := by
  intro xs
  induction xs generalizing n with
  | nil => simp [runsVal]
  | cons y ys ih =>
    simp only [List.cons_append, runsVal]
    by_cases h : badRun y = true
    · simp [h]
    · simp [h, ih]
theorem runsVal_append (n : Int) (ys : List Str) : ∀ (xs : List Str) , runsVal n (xs ++ ys) = (runsVal n xs).bind fun k => runsVal k ys := by
  intro xs
  induction xs generalizing n with
  | nil => simp [runsVal]
  | cons y zs ih =>
    simp only [List.cons_append, runsVal]
    by_cases h : badRun y = true
    · simp [h]
    · simp [h, ih]
theorem runsVal_bad {n : Int} {r : Str} {rs : List Str} {i : Nat} (hr : rs[i]? = some r) (hb : badRun r = true) : runsVal n rs = none := by
  have e : rs = rs.take i ++ r :: rs.drop (i + 1) := by
    obtain ⟨hl, he⟩ := List.getElem?_eq_some_iff.mp hr
    rw [← he, ← List.drop_eq_getElem_cons hl, List.take_append_drop]
  rw [e, runsVal_append]
  cases runsVal n (rs.take i) with
  | none => rfl
  | some k => simp [runsVal, hb]
theorem runsVal_turn {n : Int} {r : Str} {rs : List Str} {i : Nat} {k : Int} (hr : rs[i]? = some r) (hb : badRun r = false) (hp : runsVal n (rs.take i) = some k) : runsVal n (rs.take (i + 1)) = some (runVal k r) := by
  rw [List.take_add_one, hr]
  simp only [Option.toList_some]
  rw [runsVal_snoc, hp]
  simp [hb]

theorem drop_tw (g : Nat → Bool) : ∀ l : List Nat, l.drop (l.takeWhile g).length = l.dropWhile g
  | [] => rfl
  | b :: t => by
    by_cases h : g b = true
    · simp [h, drop_tw g t]
    · simp [h]
theorem mem_tw {g : Nat → Bool} {c : Nat} : ∀ {l : List Nat}, c ∈ l.takeWhile g → g c = true
  | [], h => by simp at h
  | b :: t, h => by
    by_cases hb : g b = true
    · simp only [List.takeWhile_cons, hb, if_true, List.mem_cons] at h
      rcases h with rfl | h
      · exact hb
      · exact mem_tw h
    · simp [hb] at h
theorem head_dw {g : Nat → Bool} {b : Nat} {t : List Nat} : ∀ {l : List Nat}, l.dropWhile g = b :: t → g b = false
  | [], h => by simp at h
  | c :: r, h => by
    by_cases hc : g c = true
    · simp only [List.dropWhile_cons, hc, if_true] at h
      exact head_dw h
    · simp only [List.dropWhile_cons, hc] at h
      simp at h
      rw [← h.1]; simpa using hc
/-- a text whose stripping leaves nothing is made of the stripped signs alone -/
theorem strip_all {x y : Str} (h : Txt.stripChars x y = Str.empty) : ∀ c ∈ x.cps.toList, y.cps.contains c = true := by
  have key : ∀ (g : Nat → Bool) (l : List Nat), (l.drop (l.takeWhile g).length).take (l.length - ((l.drop (l.takeWhile g).length).reverse.takeWhile g).length - (l.takeWhile g).length) = [] → ∀ c ∈ l, g c = true := by
    intro g l hl
    have hd := drop_tw g l
    rw [hd] at hl
    cases hw : l.dropWhile g with
    | nil =>
      have : l.takeWhile g = l := by
        have := List.takeWhile_append_dropWhile (p := g) (l := l)
        rw [hw, List.append_nil] at this; exact this
      intro c hc
      rw [← this] at hc
      exact mem_tw hc
    | cons b t =>
      exfalso
      have hb : g b = false := head_dw hw
      rw [hw] at hl
      have hlt : ((b :: t).reverse.takeWhile g).length < (b :: t).length := by
        have h1 := (List.takeWhile_prefix (l := (b :: t).reverse) g).length_le
        rcases Nat.lt_or_ge ((b :: t).reverse.takeWhile g).length (b :: t).length with h2 | h2
        · exact h2
        · exfalso
          have h3 : (b :: t).reverse.takeWhile g = (b :: t).reverse := by
            apply List.IsPrefix.eq_of_length_le (List.takeWhile_prefix g)
            simpa using h2
          have : b ∈ (b :: t).reverse.takeWhile g := by rw [h3]; simp
          have := mem_tw this
          rw [hb] at this; cases this
      have hlen : l.length = (l.takeWhile g).length + (b :: t).length := by
        have := congrArg List.length (List.takeWhile_append_dropWhile (p := g) (l := l))
        rw [List.length_append, hw] at this; exact this.symm
      have : ((b :: t).take (l.length - ((b :: t).reverse.takeWhile g).length - (l.takeWhile g).length)).length = 0 := by rw [hl]; rfl
      rw [List.length_take] at this
      simp only [List.length_cons] at *
      omega
  intro c hc
  unfold Txt.stripChars Txt.stripBy at h
  split at h
  · subst h
    exact absurd hc (by simp [Str.empty])
  · have h2 := congrArg (fun z : Str => z.cps.toList) h
    simp only [PySem.stripped, StrLaws.strSub_toList] at h2
    refine key y.cps.contains x.cps.toList ?_ c hc
    have e : (Str.empty).cps.toList = [] := rfl
    rw [e] at h2
    simpa [stripLo, stripHi, Str.length] using h2
theorem digit_found {r a : Str} (h : (Txt.stripChars r (Str.ofString "0123456789") != Str.ofString "") = false) (ha : a ∈ signs r) : Txt.find (Str.ofString "0123456789") a ≠ -1 := by
  have e0 : Str.ofString "" = Str.empty := by decide +kernel
  have h1 : Txt.stripChars r (Str.ofString "0123456789") = Str.empty := by
    rw [e0] at h
    simpa using h
  have h2 := strip_all h1
  simp only [signs, List.mem_map] at ha
  obtain ⟨n, hn, rfl⟩ := ha
  have h3 := h2 n hn
  have e1 : (Str.ofString "0123456789").cps = #[48, 49, 50, 51, 52, 53, 54, 55, 56, 57] := by decide +kernel
  rw [e1] at h3
  have h4 : n = 48 ∨ n = 49 ∨ n = 50 ∨ n = 51 ∨ n = 52 ∨ n = 53 ∨ n = 54 ∨ n = 55 ∨ n = 56 ∨ n = 57 := by simpa using h3
  rcases h4 with rfl | rfl | rfl | rfl | rfl | rfl | rfl | rfl | rfl | rfl <;> decide +kernel

section
variable {h₀ h' : Heap} {L : Addr} {m : Str → Option Value} {news nw : List (Addr × Obj)} {s : Shared} {Q : Value → Shared → Prop}
theorem end_ret {R : Tok → Value} {v : Value} {t : Tok} {tk' : Nat} (ret : ∀ t h' tk', Fr h₀ L h' m → News h₀ L h' news → Q (R t) { s with heap := h', toks := tk' }) (e : v = R t) (F : Fr h₀ L h' m) (N : News h₀ L h' nw) (hs : ∀ p ∈ news, p ∈ nw) :
    Q v { s with heap := h', toks := tk' } := by
  subst e
  exact ret t h' tk' F fun p hp => N p (hs p hp)
end
end Mine
end
section
open PySem PySem.W PyProof.Rows
theorem Mine.cut_NPlain1 : True ∧ True := by
  w_top off
  walk1
  all_goals exact True.intro
end

/- NPlain2 -/
section
open PySem PySem.W PyProof.Rows PySem.Calls PySem.Builtin PySem.Builtin.Str
set_option Elab.async false
set_option maxRecDepth 100000
namespace Mine
theorem find_digit {r a : Str} (h : (Txt.stripChars r (Str.ofString "0123456789") != Str.ofString "") = false) (ha : a ∈ signs r) : 0 ≤ Txt.find (Str.ofString "0123456789") a ∧ Txt.find (Str.ofString "0123456789") a ≤ 9 := by
  have e0 : Str.ofString "" = Str.empty := by decide +kernel
  have h1 : Txt.stripChars r (Str.ofString "0123456789") = Str.empty := by
    rw [e0] at h
    simpa using h
  have h2 := strip_all h1
  simp only [signs, List.mem_map] at ha
  obtain ⟨n, hn, rfl⟩ := ha
  have h3 := h2 n hn
  have e1 : (Str.ofString "0123456789").cps = #[48, 49, 50, 51, 52, 53, 54, 55, 56, 57] := by decide +kernel
  rw [e1] at h3
  have h4 : n = 48 ∨ n = 49 ∨ n = 50 ∨ n = 51 ∨ n = 52 ∨ n = 53 ∨ n = 54 ∨ n = 55 ∨ n = 56 ∨ n = 57 := by simpa using h3
  rcases h4 with rfl | rfl | rfl | rfl | rfl | rfl | rfl | rfl | rfl | rfl <;> decide +kernel
theorem badRun_strip {r : Str} (h : badRun r = false) : (Txt.stripChars r (Str.ofString "0123456789") != Str.ofString "") = false := (Bool.or_eq_false_iff.mp h).2
theorem foldl_bound {f : Str → Int} : ∀ (l : List Str) (n : Int) (k : Nat), (∀ a ∈ l, 0 ≤ f a ∧ f a ≤ 9) → 0 ≤ n → n < 10 ^ k →
    0 ≤ l.foldl (fun T a => T * 10 + f a) n ∧ l.foldl (fun T a => T * 10 + f a) n < 10 ^ (k + l.length)
  | [], n, k, _, h1, h2 => ⟨h1, by simpa using h2⟩
  | a :: r, n, k, hf, h1, h2 => by
    have ha := hf a (List.mem_cons_self ..)
    have ih := foldl_bound r (n * 10 + f a) (k + 1) (fun b hb => hf b (List.mem_cons_of_mem _ hb)) (by omega) (by rw [Int.pow_succ]; omega)
    rw [List.foldl_cons, List.length_cons, show k + (r.length + 1) = k + 1 + r.length by omega]
    exact ih
theorem runVal_bound {r : Str} {n : Int} {k : Nat} (hb : badRun r = false) (h1 : 0 ≤ n) (h2 : n < 10 ^ k) : 0 ≤ runVal n r ∧ runVal n r < 10 ^ (k + r.length) := by
  have h := foldl_bound (f := Txt.find (Str.ofString "0123456789")) (signs r) n k (fun a ha => find_digit (badRun_strip hb) ha) h1 h2
  have hl : (signs r).length = r.length := by simp [signs, Str.length]
  rw [hl] at h
  exact h
theorem runsVal_bound : ∀ (rs : List Str) (n v : Int) (k : Nat), runsVal n rs = some v → 0 ≤ n → n < 10 ^ k → 0 ≤ v ∧ v < 10 ^ (k + (rs.map (·.length)).sum)
  | [], n, v, k, h, h1, h2 => by
    have e : n = v := Option.some.inj h
    subst e
    exact ⟨h1, by simpa using h2⟩
  | r :: rs, n, v, k, h, h1, h2 => by
    unfold runsVal at h
    split at h
    · cases h
    · rename_i hb
      have hb' : badRun r = false := by simpa using hb
      have h3 := runVal_bound hb' h1 h2
      have ih := runsVal_bound rs _ v (k + r.length) h h3.1 h3.2
      rw [List.map_cons, List.sum_cons, ← Nat.add_assoc]
      exact ih
theorem figs_len (x : Str) : (figsF x).length ≤ x.length := by
  have h1 : (bareF x).length ≤ x.length := PyProof.Rows.len_stripChars x _
  have h2 := Txt.slice_le (bareF x) (some 1) none
  unfold figsF
  split <;> omega
theorem whole_bound {x : Str} {i : Int} (h : wholeF x = some i) : -(10 ^ x.length) < i ∧ i < 10 ^ x.length := by
  unfold wholeF at h
  obtain ⟨v, hv, e⟩ := Option.map_eq_some_iff.mp h
  have hb := runsVal_bound _ 0 v 0 hv (Int.le_refl _) (by decide)
  have hw := PyProof.Rows.split_weight (figsF x) (Str.ofString "_") (by decide +kernel)
  have hf := figs_len x
  have hp : ((Txt.split (figsF x) (Str.ofString "_")).map (·.length)).sum ≤ x.length := by
    have : 0 < (Txt.split (figsF x) (Str.ofString "_")).length := by
      cases hs : Txt.split (figsF x) (Str.ofString "_") with
      | nil =>
        exfalso
        revert hs
        unfold Txt.split
        split
        · simp
        · split
          · simp
          · intro hs
            have := congrArg List.length hs
            rw [length_partsBetween] at this
            simp at this
      | cons => simp
    omega
  have hle : (10 : Int) ^ (0 + ((Txt.split (figsF x) (Str.ofString "_")).map (·.length)).sum) ≤ 10 ^ x.length := by
    rw [Nat.zero_add]
    have := Nat.pow_le_pow_right (n := 10) (by decide) hp
    exact_mod_cast this
  split at e <;> omega
theorem log2_small {i : Int} {n : Nat} (hn : n ≤ 14) (h : -(10 ^ n) < i ∧ i < 10 ^ n) : (i.natAbs.log2 < 1920) ∧ ((i - 3).natAbs.log2 < 1920) := by
  have hle : (10 : Int) ^ n ≤ 10 ^ 14 := by
    have := Nat.pow_le_pow_right (n := 10) (by decide) hn
    exact_mod_cast this
  have e : (10 : Int) ^ 14 = 100000000000000 := by decide
  rw [e] at hle
  have key : ∀ m : Nat, m < 2 ^ 1000 → m.log2 < 1920 := by
    intro m hm
    by_cases h0 : m = 0
    · subst h0; decide
    · exact Nat.lt_trans ((Nat.log2_lt h0).mpr hm) (by decide)
  have e2 : (2 : Nat) ^ 50 ≤ 2 ^ 1000 := Nat.pow_le_pow_right (by decide) (by decide)
  have e3 : (2 : Nat) ^ 50 = 1125899906842624 := by decide
  constructor <;> apply key <;> omega
theorem whole_small {x : Str} {i : Int} (h : wholeF x = some i) (hx : x.length ≤ 14) : i.natAbs.log2 < 1920 ∧ (i - 3).natAbs.log2 < 1920 := log2_small hx (whole_bound h)
end Mine
namespace Mine
/-- what the text is worth; kept shut -/
structure WholeIs (x : Str) (o : Option Int) : Prop where
  out : wholeF x = o
/-- a text is an int's figures; kept shut, so that nothing opens it -/
structure TextOf (d : Str) (i : Int) : Prop where
  out : d = Str.ofString (toString i)
section
variable {prog : Program} {w : World} {A : Around} {E : Value → Shared → Prop} {s : Shared}
/-- str of a small int: an opaque text with a bound on its length -/
theorem str_small {i : Int} {t : Tok} {Q : Value → Shared → Prop} (h1 : i.natAbs < 10 ^ 20) (h : ∀ d : Str, TextOf d i → d.length ≤ 30 → Q (.str d s.toks) { s with toks := s.toks + 1 }) :
    wpAny (model prog w) A (call (.type "str") [.int i t]) Q E s := by
  refine PySem.P.str_of_int ?_ (h _ ⟨rfl⟩ ?_)
  · by_cases h0 : i.natAbs = 0
    · rw [h0]; decide
    · have h2 : i.natAbs < 2 ^ 70 := Nat.lt_of_lt_of_le h1 (by decide)
      exact Nat.lt_trans ((Nat.log2_lt h0).mpr h2) (by decide)
  · have := int_text_length_le10 (a := i) (k := 20) (by decide) h1
    rw [PySem.ofString_length]
    omega
end
theorem whole_lt {x : Str} {i : Int} (h : wholeF x = some i) (hx : x.length ≤ 14) : i.natAbs < 10 ^ 20 ∧ (i - 3).natAbs < 10 ^ 20 := by
  have hb := whole_bound h
  have hle : (10 : Int) ^ x.length ≤ 10 ^ 14 := by
    have := Nat.pow_le_pow_right (n := 10) (by decide) hx
    exact_mod_cast this
  have e : (10 : Int) ^ 14 = 100000000000000 := by decide
  rw [e] at hle
  have e2 : (10 : Nat) ^ 20 = 100000000000000000000 := by decide
  rw [e2]
  omega
end Mine
end
section
open PySem PySem.W PyProof.Rows
theorem Mine.cut_NPlain2 : True ∧ True := by
  w_top off
  walk1
  all_goals exact True.intro
end

/- NWhole -/
section
open PySem PySem.W PyProof.Rows PySem.Calls
set_option Elab.async false
set_option maxRecDepth 100000
set_option pp.deepTerms false
set_option pp.maxSteps 6000
namespace Mine
local macro_rules | `(tactic| k_steps) => `(tactic| repeat' (first | (k_end; wrow_close) | (walk1; all_goals (try ((with_reducible show wpAny _ _ (exec _ _) _ _ _); with_reducible refine foldF ?_; intro qF))) | (k_unfold; (try dsimp only)) | (dsimp only; walk1; all_goals (try ((with_reducible show wpAny _ _ (exec _ _) _ _ _); with_reducible refine foldF ?_; intro qF))) | (leave1; walk_say "STEP leave1"; try dsimp only) | fail "no step"))
theorem fill_whole : ∀ w : World, (hd.heap_39 w.params) = (hd.heap_39 w.params) ∧ PySem.Challenge.rw_nb0114_01.row.prog = PySem.Challenge.rw_nb0114_01.row.prog := by
  k_fill
  exact fun _ => ⟨rfl, rfl⟩
section
variable {w : World} {p : Program} {loose : List Str} {mean : ExcName → Option Value} {mg mb : Str → Option Value} {dp un : Nat} {gd : Option (List Code)} {cn : Str} {cs : Scope} {a : Addr} {ccd : Value} {cl : List (Str × Addr)} {outer : List Env} {A₀ : Around} {base h₀ : Heap} {L : Addr} {m : Str → Option Value} {news : List (Addr × Obj)} {s : Shared} {Q E : Value → Shared → Prop}
local macro_rules | `(tactic| walk_at "execs cons") => `(tactic| ((with_reducible show wpAny _ _ (execs (Stmt.Assign _ (Expr.IfExp _ _ _ _) _ :: _) _) _ _ _); refine Cut.out ?_))
set_option maxHeartbeats 8000000 in
theorem ct_whole {x : Str} {tx : Tok} (B : Below A₀ base outer h₀) (F : Fr h₀ L s.heap m) (X : (hd.heap_39 w.params).In h₀) (N : News h₀ L s.heap news) (T : Top p loose mean mg mb h₀) (hk : cs.kind = .function) (hdp : dp + 3 < recursionLimit) (hun : un + 30 < cLine) (hx : x.length ≤ 1000) (ret : ∀ t h' tk', Fr h₀ L h' m → News h₀ L h' news → Q (optInt (wholeF x) t) { s with heap := h', toks := tk' }) :
    wpAny (model PySem.Challenge.rw_nb0114_01.row.prog w) (ktrTop dp un gd cn cs L a ccd cl outer) (call (.ref 85) [.str x tx] []) Q E s := by

  refine wpAny_call ?_
  k_dflt cell_enter
  refine foldA ?_
  intro A₁
  k_steps
  unfold Cut
  rename Fr _ _ _ _ => F3
  rename News _ _ _ _ => N3
  obtain ⟨fg, hfg⟩ : ∃ fg, FigIs x fg figsF := ⟨_, ⟨rfl⟩⟩
  have hfl : fg.length ≤ 1000 := by rw [hfg.out]; exact Nat.le_trans (figs_len x) hx
  refine cutN (Str.ofString "figures") (fun v => ∃ t, v = .str fg t) F3 N3 ?_ ?_
  · k_steps
    all_goals try exact True.intro
    all_goals (
      rename (List.any _ _ = _) => hsg
      have hfig : figsF x = (if ([Str.ofString "+", Str.ofString "-"].any fun y => y == signF x) = true then Txt.slice (bareF x) (some 1) none else bareF x) := rfl
      have hsg' : ([Str.ofString "+", Str.ofString "-"].any fun y => y == signF x) = _ := hsg
      rw [hsg'] at hfig
      try simp only [if_true] at hfig
      try simp only [Bool.false_eq_true, if_false] at hfig
      refine' SetN.intro ?v1 (by k_asm) (by k_asm) ?v2
      case v2 => exact fun p hp => by repeat (first | exact hp | apply List.Mem.tail)
      case v1 => (rw [hfg.out, hfig]; exact ⟨_, rfl⟩))
  · rintro v5 h5 tk5 ⟨t5, rfl⟩ F5 N5
    clear F3 N3
    k_steps
    rename Fr _ _ _ _ => lF
    rename News _ _ _ _ => lN
    rename ∀ (a : Str), a ∈ _ → a.length ≤ _ => hlen
    rename List.map _ _ = Txt.split _ _ => hsp
    rename List (Str × Tok) => ll
    have hsp' : ll.map (·.1) = Txt.split (figsF x) (Str.ofString "_") := by rw [← hfg.out]; exact hsp
    refine' kv_list (σ := Int × Tok) (fun c => [(Str.ofString "number", .int c.1 c.2)]) [Str.ofString "figure"] (fun i c => runsVal 0 ((ll.map (·.1)).take i) = some c.1) (0, _) rfl (List.Mem.head _) lF lN ?k1 ?k2 ?k3 ?k4
    case k2 => rfl
    case k1 => intro p hp; rw [List.mem_singleton.mp hp]; rfl
    case k3 =>
      intro c i v u h tk nw hv hsub hP F1 N1
      obtain ⟨r, t, hr, rfl⟩ := strValues_get hv
      have hrl : r.length ≤ 1000 := Nat.le_trans (hlen r (List.mem_map.mpr ⟨_, List.mem_of_getElem? hr, rfl⟩)) (by omega)
      have hr' : (ll.map (·.1))[i]? = some r := by rw [List.getElem?_map, hr]; rfl
      have hnone : badRun r = true → wholeF x = none := fun hb => by
        unfold wholeF
        rw [← hsp', runsVal_bad hr' hb]
        rfl
      clear lF lN
      k_steps
      all_goals (try (dsimp only [KvPost]; k_steps))
      all_goals first
        | (exfalso
           rename (Txt.stripChars _ _ != _) = false => hst
           rename _ ∈ signs _ => hmem
           rename Txt.find _ _ = -1 => hfd
           exact digit_found hst hmem hfd)
        | (have hb : badRun r = true := by
             unfold badRun
             first
             | (rename (r == Str.ofString "") = true => h1; rw [h1]; rfl)
             | (rename (Txt.stripChars _ _ != _) = true => h1; rw [h1]; exact Bool.or_true _)
           refine' end_ret (t := 0) ret ?e1 ?e2 ?e3 ?e4
           case e1 => rw [hnone hb]; rfl
           case e2 => k_asm
           case e3 => k_asm
           case e4 => exact fun p hp => hsub p (by repeat (first | exact hp | apply List.Mem.tail)))
        | (rename (r == Str.ofString "") = false => h1
           rename (Txt.stripChars _ _ != _) = false => h2
           have hb : badRun r = false := by unfold badRun; rw [h1, h2]; rfl
           refine' KvEnd.intro (_, _) (by assumption) (by assumption) ?g1 ?g2 (runsVal_turn hr' hb hP)
           case g1 =>
             intro p hp
             rw [List.mem_singleton.mp hp]
             rfl
           case g2 =>
             intro z h1 h2 h3
             have h4 : z ≠ Str.ofString "number" := h2 _ (List.Mem.head _)
             have h5 : z ≠ Str.ofString "figure" := by
               intro e; rw [e] at h3; exact absurd h3 (by decide +kernel)
             simp only [accMap, kstB, h1, h4, h5, h3, if_false, Bool.false_eq_true])
    case k4 =>
      intro c u h tk hP F1 N1
      clear lF lN
      (try k_fold)
      have hall : runsVal 0 (Txt.split (figsF x) (Str.ofString "_")) = some c.1 := by
        rw [← hsp', ← hP, List.take_of_length_le]
        simp [strValues]
      k_steps
      all_goals (
        rename (Txt.slice _ _ _ == Str.ofString "-") = _ => hsn
        have hsn' : (signF x == Str.ofString "-") = _ := hsn
        refine' end_ret ret ?e1 ?e2 ?e3 ?e4
        case e1 =>
          unfold wholeF
          rw [hall, hsn']
          rfl
        case e2 => k_asm
        case e3 => k_asm
        case e4 => exact fun p hp => (by repeat (first | exact hp | apply List.Mem.tail)))
end
end Mine
end
section
open PySem PySem.W PyProof.Rows
theorem Mine.cut_NWhole : True ∧ True := by
  w_top off
  walk1
  all_goals exact True.intro
end

/- NAlias -/
section
open PySem PySem.W PyProof.Rows PySem.Calls
set_option Elab.async false
set_option maxRecDepth 100000
set_option pp.deepTerms false
set_option pp.maxSteps 6000
namespace Mine
local macro_rules | `(tactic| k_steps) => `(tactic| repeat' (first | (k_end; wrow_close) | (walk1; all_goals (try ((with_reducible show wpAny _ _ (exec _ _) _ _ _); with_reducible refine foldF ?_; intro qF))) | (k_unfold; (try dsimp only)) | (dsimp only; walk1; all_goals (try ((with_reducible show wpAny _ _ (exec _ _) _ _ _); with_reducible refine foldF ?_; intro qF))) | (leave1; walk_say "STEP leave1"; try dsimp only) | fail "no step"))
theorem fill_alias : ∀ w : World, (hd.heap_39 w.params) = (hd.heap_39 w.params) ∧ PySem.Challenge.rw_nb0114_01.row.prog = PySem.Challenge.rw_nb0114_01.row.prog := by
  k_fill
  exact fun _ => ⟨rfl, rfl⟩
section
variable {w : World} {p : Program} {loose : List Str} {mean : ExcName → Option Value} {mg mb : Str → Option Value} {dp un : Nat} {gd : Option (List Code)} {cn : Str} {cs : Scope} {a : Addr} {ccd : Value} {cl : List (Str × Addr)} {outer : List Env} {A₀ : Around} {base h₀ : Heap} {L : Addr} {m : Str → Option Value} {news : List (Addr × Obj)} {s : Shared} {Q E : Value → Shared → Prop}

theorem ct_whole2 {x : Str} {tx : Tok} (B : Below A₀ base outer h₀) (F : Fr h₀ L s.heap m) (X : (hd.heap_39 w.params).In h₀) (N : News h₀ L s.heap news) (T : Top p loose mean mg mb h₀) (hk : cs.kind = .function) (hdp : dp + 3 < recursionLimit) (hun : un + 30 < cLine) (hx : x.length ≤ 1000) (rN : ∀ h' tk', WholeIs x none → Fr h₀ L h' m → News h₀ L h' news → Q .none { s with heap := h', toks := tk' })
    (rS : ∀ i t h' tk', WholeIs x (some i) → Fr h₀ L h' m → News h₀ L h' news → Q (.int i t) { s with heap := h', toks := tk' }) :
    wpAny (model PySem.Challenge.rw_nb0114_01.row.prog w) (ktrTop dp un gd cn cs L a ccd cl outer) (call (.ref 85) [.str x tx] []) Q E s := by
  refine ct_whole B F X N T hk hdp hun hx fun t h' tk' F' N' => ?_
  cases hw : wholeF x with
  | none => exact rN h' tk' ⟨hw⟩ F' N'
  | some i => exact rS i t h' tk' ⟨hw⟩ F' N'

def aliasF (x y z : Str) : Str × Str × Str :=
  if ([Str.ofString "win32", Str.ofString "win16"].any fun y => y == x) = true then (Str.ofString "Windows", y, z)
  else if (x != Str.ofString "SunOS") = true then (x, y, z)
  else if y.cps.toList < (Str.ofString "5").cps.toList then (x, y, z)
  else (Str.ofString "Solaris", (match wholeF (Txt.partition y (Str.ofString ".")).1 with | some k => Str.ofString (toString (k - 3)) | none => (Txt.partition y (Str.ofString ".")).1) ++ (Txt.partition y (Str.ofString ".")).2.1 ++ (Txt.partition y (Str.ofString ".")).2.2, z)
theorem end_new {h₀ h' : Heap} {L : Addr} {m : Str → Option Value} {news nw : List (Addr × Obj)} {s : Shared} {Q : Value → Shared → Prop} {R : Addr → Obj → Prop} {r : Addr} {o : Obj} {tk' : Nat}
    (ret : ∀ r o h' tk', R r o → Fr h₀ L h' m → News h₀ L h' ((r, o) :: news) → (∀ p ∈ news, p.1 < r) → Q (.ref r) { s with heap := h', toks := tk' })
    (e : R r o) (F : Fr h₀ L h' m) (N : News h₀ L h' nw) (hm : (r, o) ∈ nw) (hs : ∀ p ∈ news, p ∈ nw) (hlt : ∀ p ∈ news, p.1 < r) : Q (.ref r) { s with heap := h', toks := tk' } :=
  ret r o h' tk' e F (fun p hp => by
    rcases List.mem_cons.mp hp with rfl | hp
    · exact N _ hm
    · exact N p (hs p hp)) hlt
/-- a new list of three texts -/
def Is3 (t : Str × Str × Str) (_ : Addr) (o : Obj) : Prop := ∃ ta tb tc n, o = listOf [Value.str t.1 ta, .str t.2.1 tb, .str t.2.2 tc].toArray n
theorem is3_of {t : Str × Str × Str} {x y z : Str} {r : Addr} {ta tb tc : Tok} {n : Nat} (h : t = (x, y, z)) : Is3 t r (listOf [Value.str x ta, .str y tb, .str z tc].toArray n) := by
  subst h; exact ⟨_, _, _, _, rfl⟩
theorem aliasF_1 {x y z : Str} (h1 : ([Str.ofString "win32", Str.ofString "win16"].any fun y => y == x) = true) : aliasF x y z = (Str.ofString "Windows", y, z) := by
  unfold aliasF; rw [if_pos h1]
theorem aliasF_2 {x y z : Str} (h1 : ([Str.ofString "win32", Str.ofString "win16"].any fun y => y == x) = false) (h2 : (x != Str.ofString "SunOS") = true) : aliasF x y z = (x, y, z) := by
  unfold aliasF; rw [if_neg (by rw [h1]; exact Bool.false_ne_true), if_pos h2]
theorem aliasF_3 {x y z : Str} (h1 : ([Str.ofString "win32", Str.ofString "win16"].any fun y => y == x) = false) (h2 : (x != Str.ofString "SunOS") = false) (h3 : y.cps.toList < (Str.ofString "5").cps.toList) : aliasF x y z = (x, y, z) := by
  unfold aliasF; rw [if_neg (by rw [h1]; exact Bool.false_ne_true), if_neg (by rw [h2]; exact Bool.false_ne_true), if_pos h3]
theorem aliasF_4 {x y z : Str} (h1 : ([Str.ofString "win32", Str.ofString "win16"].any fun y => y == x) = false) (h2 : (x != Str.ofString "SunOS") = false) (h3 : ¬ y.cps.toList < (Str.ofString "5").cps.toList) (hw : WholeIs (Txt.partition y (Str.ofString ".")).1 none) :
    aliasF x y z = (Str.ofString "Solaris", (Txt.partition y (Str.ofString ".")).1 ++ (Txt.partition y (Str.ofString ".")).2.1 ++ (Txt.partition y (Str.ofString ".")).2.2, z) := by
  unfold aliasF; rw [if_neg (by rw [h1]; exact Bool.false_ne_true), if_neg (by rw [h2]; exact Bool.false_ne_true), if_neg h3, hw.out]
theorem aliasF_5 {x y z : Str} {k : Int} (h1 : ([Str.ofString "win32", Str.ofString "win16"].any fun y => y == x) = false) (h2 : (x != Str.ofString "SunOS") = false) (h3 : ¬ y.cps.toList < (Str.ofString "5").cps.toList) {d : Str} (hw : WholeIs (Txt.partition y (Str.ofString ".")).1 (some k)) (hd : TextOf d (k - 3)) :
    aliasF x y z = (Str.ofString "Solaris", d ++ (Txt.partition y (Str.ofString ".")).2.1 ++ (Txt.partition y (Str.ofString ".")).2.2, z) := by
  unfold aliasF; rw [if_neg (by rw [h1]; exact Bool.false_ne_true), if_neg (by rw [h2]; exact Bool.false_ne_true), if_neg h3, hw.out, hd.out]
local macro_rules | `(tactic| walk_at "call ref") => `(tactic| (k_here; (with_reducible show wpAny _ _ (call (Value.ref 85) [Value.str _ _] _) _ _ _); k_dflt (refine' ct_whole2 ?k1 ?k2 ?k3 ?k4 ?k5 ?k6 ?k7 ?k8 ?k9 ?_ ?_; (case k1 => k_asm); (case k2 => k_asm); (case k3 => k_asm); (case k4 => k_asm); (case k5 => k_asm); (case k6 => first | exact rfl | assumption); (case k7 => ktr_room); (case k8 => ktr_units); (case k9 => first | exact Nat.le_trans (fact_partition _ _).1 (by omega) | omega)); (first | (intro h9 tk9 hw9 F9 N9) | (intro i9 t9 h9 tk9 hw9 F9 N9)); (try dsimp only); (try k_fold)))
local macro_rules | `(tactic| walk_at "call type:str") => `(tactic| (k_here; (with_reducible show wpAny _ _ (call (Value.type "str") [Value.int _ _]) _ _ _); (rename WholeIs _ _ => hw9); refine str_small (whole_lt hw9.out (Nat.le_trans (fact_partition _ _).1 (by omega))).2 ?_; intro d9 hd9 hl9; (try dsimp only); (try k_fold); skip))
set_option maxHeartbeats 8000000 in
theorem ct_alias {l : Addr} {x y z : Str} {tx ty tz : Tok} {n : Nat} (B : Below A₀ base outer h₀) (F : Fr h₀ L s.heap m) (X : (hd.heap_39 w.params).In h₀) (N : News h₀ L s.heap news) (T : Top p loose mean mg mb h₀) (hk : cs.kind = .function) (hdp : dp + 6 < recursionLimit) (hun : un + 60 < cLine) (hl : (l, listOf [Value.str x tx, .str y ty, .str z tz].toArray n) ∈ news) (hx : x.length ≤ 14) (hy : y.length ≤ 14) (hz : z.length ≤ 14) (ret : ∀ r o h' tk', Is3 (aliasF x y z) r o → Fr h₀ L h' m → News h₀ L h' ((r, o) :: news) → (∀ p ∈ news, p.1 < r) → Q (.ref r) { s with heap := h', toks := tk' }) :
    wpAny (model PySem.Challenge.rw_nb0114_01.row.prog w) (ktrTop dp un gd cn cs L a ccd cl outer) (call (.ref 92) [.ref l] []) Q E s := by

  refine wpAny_call ?_
  k_dflt cell_enter
  refine foldA ?_
  intro A₁
  k_steps
  all_goals (
    refine' end_new ret ?e1 ?e2 ?e3 ?e4 ?e5 ?e6
    case e3 => k_asm
    case e2 => k_asm
    case e4 => exact List.Mem.head _
    case e5 => exact fun p hp => by repeat (first | exact hp | apply List.Mem.tail)
    case e6 => (intro p hp; first | (rename AllLt _ _ => q; exact ktn_ltOf q p hp) | (rename _ < _ ∧ AllLt _ _ => q; exact ktn_ltOf q.2 p hp) | (rename _ < _ ∧ _ < _ ∧ AllLt _ _ => q; exact ktn_ltOf q.2.2 p hp) | (rename _ < _ ∧ _ < _ ∧ _ < _ ∧ AllLt _ _ => q; exact ktn_ltOf q.2.2.2 p hp))
    case e1 =>
      first
      | exact is3_of (aliasF_1 (by assumption))
      | exact is3_of (aliasF_2 (by assumption) (by assumption))
      | exact is3_of (aliasF_3 (by assumption) (by assumption) (by assumption))
      | exact is3_of (aliasF_4 (by assumption) (by assumption) (by assumption) (by assumption))
      | exact is3_of (aliasF_5 (by assumption) (by assumption) (by assumption) (by assumption) (by assumption)))
end
end Mine
end
section
open PySem PySem.W PyProof.Rows
theorem Mine.cut_NAlias : True ∧ True := by
  w_top off
  walk1
  all_goals exact True.intro
end

/- NRules -/
section
open PySem PySem.W PyProof.Rows PySem.Calls PySem.Builtin PySem.Builtin.Str
set_option Elab.async false
set_option maxRecDepth 100000
namespace Mine
/-- two lists, place by place -/
def Pairs (R : Value → Value → Prop) (vs ys : List Value) : Prop := ys.length = vs.length ∧ ∀ (i : Nat) (v : Value), vs[i]? = some v → ∃ y, ys[i]? = some y ∧ R v y
section
variable {prog : Program} {w : World} {A : Around} {h₀ : Heap} {L : Addr} {m : Str → Option Value} {env : Env} {elt : Expr} {x : Str} {scope : Scope} {cl : List (Str × Addr)} {s : Shared} {S : List (Addr × Obj) → Prop} {Fin : List Value → List (Addr × Obj) → Prop} {news : List (Addr × Obj)}
theorem kv_rest {vs : List Value} (R : Value → Value → Prop)
    (turn : ∀ (i : Nat) (v : Value) I oI C oC D m₂ ys h tk (E' : Value → Shared → Prop), vs[i]? = some v → LCg.NsObj oC m₂ → m₂ x = some v → Fr h₀ L h m → News h₀ L h ((I, oI) :: (C, oC) :: (D, LCg.lst ys) :: news) → LCg.Off3 I C D news → ((@Ne Nat I C) ∧ (@Ne Nat I D) ∧ (@Ne Nat C D)) →
      wpAny (model prog w) A (eval elt (compEnvC scope cl C env)) (LCg.CompEnd h₀ L m { s with heap := h, toks := tk } I oI C oC D (LCg.lst ys) S (fun y news' => news' = news ∧ R v y)) E' { s with heap := h, toks := tk })
    (fin : ∀ ys, Pairs R vs ys → Fin ys news) : LCg.CompRest prog w A h₀ L m env elt x scope cl s S (fun i v => vs.toArray[i]? = some v) Fin vs.toArray.size 0 [] news := by
  have key : ∀ (j i : Nat) (ys : List Value), i + j = vs.length → Pairs R (vs.take i) ys → LCg.CompRest prog w A h₀ L m env elt x scope cl s S (fun i v => vs.toArray[i]? = some v) Fin j i ys news := by
    intro j
    induction j with
    | zero =>
      intro i ys hi hy
      have e : i = vs.length := by omega
      subst e
      rw [List.take_length] at hy
      exact LCg.CompRest.zero (fin ys hy)
    | succ j ih =>
      intro i ys hi hy
      refine LCg.CompRest.succ ?_
      intro v I oI C oC D m₂ h tk E' hv hC hx F N off ne
      have hv' : vs[i]? = some v := by simpa using hv
      refine wpAny_mono (turn i v I oI C oC D m₂ ys h tk E' hv' hC hx F N off ne) (fun y s₂ hq => ?_) fun _ _ e => e
      obtain ⟨h', tk', nw, e, F', N', off', hS, hn, hR⟩ := hq
      rw [hn] at N' off' hS
      refine ⟨h', tk', news, e, F', N', off', hS, ?_⟩
      refine ih (i + 1) _ (by omega) ?_
      have hlen : ys.length = i := by
        have := hy.1
        rw [List.length_take] at this
        have : i ≤ vs.length := by omega
        omega
      refine ⟨?_, fun k u hu => ?_⟩
      · rw [List.length_append, hlen, List.length_take]
        simp only [List.length_cons, List.length_nil]
        omega
      · by_cases hk : k < i
        · have hu' : (vs.take i)[k]? = some u := by
            rw [List.getElem?_take] at hu ⊢
            rw [if_pos (by omega)] at hu
            rw [if_pos hk]; exact hu
          obtain ⟨y', h1, h2⟩ := hy.2 k u hu'
          exact ⟨y', by rw [List.getElem?_append_left (by omega)]; exact h1, h2⟩
        · rw [List.getElem?_take] at hu
          by_cases hk2 : k < i + 1
          · have : k = i := by omega
            subst this
            rw [if_pos hk2, hv'] at hu
            cases hu
            exact ⟨y, by rw [List.getElem?_append_right (by omega)]; simp [hlen], hR⟩
          · rw [if_neg hk2] at hu; cases hu
  have := key vs.length 0 [] (by omega) ⟨by simp, fun i v h => by simp at h⟩
  simpa using this
end
section
variable {prog : Program} {w : World} {A : Around} {h₀ : Heap} {L : Addr} {m : Str → Option Value} {env : Env} {ct elt : Expr} {x : Str} {scope : Scope} {cl : List (Str × Addr)} {s : Shared} {S : List (Addr × Obj) → Prop} {Fin : List Value → List (Addr × Obj) → Prop} {news : List (Addr × Obj)}
theorem kv_restT {vs : List Value} {rs : List Str} (hs : StrsAre vs rs) (p : Str → Bool) (f : Str → Str)
    (turn : ∀ (r : Str) (t : Tok) I oI C oC D m₂ ys h tk (E' : Value → Shared → Prop), r ∈ rs → LCg.NsObj oC m₂ → m₂ x = some (.str r t) → Fr h₀ L h m → News h₀ L h ((I, oI) :: (C, oC) :: (D, LCg.lst ys) :: news) → LCg.Off3 I C D news → ((@Ne Nat I C) ∧ (@Ne Nat I D) ∧ (@Ne Nat C D)) →
      wpAny (model prog w) A (isTrue ct (compEnvC scope cl C env) (eval ct (compEnvC scope cl C env))) (fun ok s' => if ok = true then
        wpAny (model prog w) A (eval elt (compEnvC scope cl C env)) (LCg.CompEnd h₀ L m { s with heap := h, toks := tk } I oI C oC D (LCg.lst ys) S (fun y news' => news' = news ∧ p r = true ∧ ∃ u, y = .str (f r) u)) E' s'
        else LCg.CompEnd h₀ L m { s with heap := h, toks := tk } I oI C oC D (LCg.lst ys) S (fun _ news' => news' = news ∧ p r = false) Value.none s') E' { s with heap := h, toks := tk })
    (fin : ∀ ys, StrsAre ys ((rs.filter p).map f) → Fin ys news) : LCt.CompRestT prog w A h₀ L m env ct elt x scope cl s S (fun i v => vs.toArray[i]? = some v) Fin vs.toArray.size 0 [] news := by
  have key : ∀ (j i : Nat) (ys : List Value), i + j = vs.length → StrsAre ys (((rs.take i).filter p).map f) → LCt.CompRestT prog w A h₀ L m env ct elt x scope cl s S (fun i v => vs.toArray[i]? = some v) Fin j i ys news := by
    intro j
    induction j with
    | zero =>
      intro i ys hi hy
      have e : i = rs.length := by rw [← hs.length]; omega
      subst e
      rw [List.take_length] at hy
      exact LCt.CompRestT.zero (fin ys hy)
    | succ j ih =>
      intro i ys hi hy
      refine LCt.CompRestT.succ ?_
      intro v I oI C oC D m₂ h tk E' hv hC hx F N off ne
      have hv' : vs[i]? = some v := by simpa using hv
      have hlt : i < rs.length := by rw [← hs.length]; omega
      obtain ⟨t, ht⟩ := hs.get i rs[i] (List.getElem?_eq_getElem hlt)
      rw [hv'] at ht
      have ev : v = .str rs[i] t := Option.some.inj ht
      subst ev
      have htake : rs.take (i + 1) = rs.take i ++ [rs[i]] := by rw [List.take_add_one, List.getElem?_eq_getElem hlt]; rfl
      refine wpAny_mono (turn rs[i] t I oI C oC D m₂ ys h tk E' (List.getElem_mem hlt) hC hx F N off ne) (fun ok s₂ hq => ?_) fun _ _ e => e
      cases ok with
      | true =>
        simp only [if_true] at hq ⊢
        refine wpAny_mono hq (fun y s₃ hq => ?_) fun _ _ e => e
        obtain ⟨h', tk', nw, e, F', N', off', hS, hn, hp, u, hy'⟩ := hq
        rw [hn] at N' off' hS
        refine ⟨h', tk', news, e, F', N', off', hS, ?_⟩
        rw [hy']
        refine ih (i + 1) _ (by omega) ?_
        rw [htake, List.filter_append, List.map_append]
        have e2 : [rs[i]].filter p = [rs[i]] := by simp [hp]
        rw [e2]
        exact hy.append' (.cons _ _ .nil)
      | false =>
        simp only [Bool.false_eq_true, if_false] at hq ⊢
        obtain ⟨h', tk', nw, e, F', N', off', hS, hn, hp⟩ := hq
        rw [hn] at N' off' hS
        refine ⟨h', tk', news, e, F', N', off', hS, ?_⟩
        refine ih (i + 1) _ (by omega) ?_
        rw [htake, List.filter_append]
        have e2 : [rs[i]].filter p = [] := by simp [hp]
        rw [e2, List.append_nil]
        exact hy
  have := key vs.length 0 [] (by omega) (by simp; exact .nil)
  simpa using this
end
section
variable {prog : Program} {w : World} {A : Around} {E : Value → Shared → Prop} {s : Shared} {h₀ : Heap} {L : Addr} {m : Str → Option Value} {news : List (Addr × Obj)}
theorem add_listN {l b : Addr} {xs ys : List Value} {n k : Nat} {Q : Value → Shared → Prop} (F : Fr h₀ L s.heap m) (N : News h₀ L s.heap news) (h1 : (l, listOf xs.toArray n) ∈ news) (h2 : (b, listOf ys.toArray k) ∈ news) (hsz : xs.length + ys.length ≤ 1000)
    (h : ∀ D h', Fr h₀ L h' m → News h₀ L h' ((D, listOf (xs ++ ys).toArray 0) :: news) → (∀ p ∈ news, p.1 < D) → Q (.ref D) { s with heap := h' }) :
    wpAny (model prog w) A (binaryOp .Add (.ref l) (.ref b)) Q E s := by
  refine PySem.P.add_list (items := xs.toArray) (items2 := ys.toArray) (n := n) (n2 := k) (N _ h1).1 (N _ h2).1 ?_ (by rw [sizeLine_eq]; simp only [List.size_toArray]; omega)
  have e : xs.toArray ++ ys.toArray = (xs ++ ys).toArray := by simp
  rw [e]
  exact h s.heap.objs.size _ (F.push _) (N.push F _) fun p hp => Heap.lt_size (N p hp).1
theorem add_strsN {l b : Addr} {xs ys : List Value} {as bs : List Str} {n k : Nat} {Q : Value → Shared → Prop} (F : Fr h₀ L s.heap m) (N : News h₀ L s.heap news) (h1 : (l, listOf xs.toArray n) ∈ news) (h2 : (b, listOf ys.toArray k) ∈ news)
    (hx : StrsAre xs as) (hy : StrsAre ys bs) (hsz : as.length + bs.length ≤ 1000)
    (h : ∀ D pv h', StrsAre pv (as ++ bs) → Fr h₀ L h' m → News h₀ L h' ((D, listOf pv.toArray 0) :: news) → (∀ p ∈ news, p.1 < D) → Q (.ref D) { s with heap := h' }) :
    wpAny (model prog w) A (binaryOp .Add (.ref l) (.ref b)) Q E s :=
  add_listN F N h1 h2 (by rw [hx.length, hy.length]; exact hsz) fun D h' F' N' hlt => h D _ h' (hx.append' hy) F' N' hlt
/-- None in or not in a list -/
theorem notIn_none {l : Addr} {ys : List Value} {n : Nat} {Q : Value → Shared → Prop} (N : News h₀ L s.heap news) (h1 : (l, listOf ys.toArray n) ∈ news)
    (hb : ∀ y ∈ ys, y = .none ∨ ∃ k t, y = .int k t) (h : Q (.bool (!ys.any fun y => match y with | .none => true | _ => false)) s) :
    wpAny (model prog w) A (compareOp .NotIn .none (.ref l)) Q E s := by
  refine PySem.SeqAt.notIn_listAt (items := ys.toArray) (fun y => match y with | .none => true | _ => false) ⟨_, (N _ h1).1, rfl, n, rfl⟩ (fun y hy => ?_) (by simpa using h)
  rcases hb y (by simpa using hy) with rfl | ⟨k, t, rfl⟩
  · exact PySem.SeqAt.EqAt.same _
  · exact PySem.SeqAt.EqAt.int_none _ _
end
/-- a stop of the walk -/
def Halt (P : Prop) : Prop := P
theorem Halt.out {P : Prop} (h : Halt P) : P := h
end Mine
end
section
open PySem PySem.W PyProof.Rows
theorem Mine.cut_NRules : True ∧ True := by
  w_top off
  walk1
  all_goals exact True.intro
end

/- NLnorm -/
section
open PySem PySem.W PyProof.Rows PySem.Calls
set_option Elab.async false
set_option maxRecDepth 100000
set_option pp.deepTerms false
set_option pp.maxSteps 6000
namespace Mine
local macro_rules | `(tactic| k_steps) => `(tactic| repeat' (first | (k_end; wrow_close) | (walk1; all_goals (try ((with_reducible show wpAny _ _ (exec _ _) _ _ _); with_reducible refine foldF ?_; intro qF))) | (k_unfold; (try dsimp only)) | (dsimp only; walk1; all_goals (try ((with_reducible show wpAny _ _ (exec _ _) _ _ _); with_reducible refine foldF ?_; intro qF))) | (leave1; walk_say "STEP leave1"; try dsimp only) | fail "no step"))
theorem fill_lnorm : ∀ w : World, (hd.heap_39 w.params) = (hd.heap_39 w.params) ∧ PySem.Challenge.rw_nb0114_01.row.prog = PySem.Challenge.rw_nb0114_01.row.prog := by
  k_fill
  exact fun _ => ⟨rfl, rfl⟩
section
variable {w : World} {p : Program} {loose : List Str} {mean : ExcName → Option Value} {mg mb : Str → Option Value} {dp un : Nat} {gd : Option (List Code)} {cn : Str} {cs : Scope} {a : Addr} {ccd : Value} {cl : List (Str × Addr)} {outer : List Env} {A₀ : Around} {base h₀ : Heap} {L : Addr} {m : Str → Option Value} {news : List (Addr × Obj)} {s : Shared} {Q E : Value → Shared → Prop}
local macro_rules | `(tactic| walk_at "call ref") => `(tactic| (k_here; (with_reducible show wpAny _ _ (call (Value.ref 85) [Value.str _ _] _) _ _ _); k_dflt (refine' ct_whole2 ?k1 ?k2 ?k3 ?k4 ?k5 ?k6 ?k7 ?k8 ?k9 ?_ ?_; (case k1 => k_asm); (case k2 => k_asm); (case k3 => k_asm); (case k4 => k_asm); (case k5 => k_asm); (case k6 => first | exact rfl | assumption); (case k7 => ktr_room); (case k8 => ktr_units); (case k9 => omega)); (first | (intro h9 tk9 hw9 F9 N9) | (intro i9 t9 h9 tk9 hw9 F9 N9)); (try dsimp only); (try k_fold)))

def RWhole (v y : Value) : Prop := ∃ r t u, v = .str r t ∧ y = optInt (wholeF r) u
theorem rwhole_n {r : Str} {t : Tok} (h : WholeIs r none) : RWhole (.str r t) .none := ⟨r, t, 0, rfl, by rw [h.out]; rfl⟩
theorem rwhole_s {r : Str} {t u : Tok} {i : Int} (h : WholeIs r (some i)) : RWhole (.str r t) (.int i u) := ⟨r, t, u, rfl, by rw [h.out]; rfl⟩
theorem strsAre_get {vs : List Value} {rs : List Str} (h : StrsAre vs rs) {i : Nat} {v : Value} (hv : vs[i]? = some v) : ∃ r t, rs[i]? = some r ∧ v = .str r t := by
  have hlt : i < rs.length := by rw [← h.length]; exact (List.getElem?_eq_some_iff.mp hv).1
  obtain ⟨t, ht⟩ := h.get i rs[i] (List.getElem?_eq_getElem hlt)
  rw [hv] at ht
  exact ⟨rs[i], t, List.getElem?_eq_getElem hlt, Option.some.inj ht⟩
theorem pairs_back {R : Value → Value → Prop} {vs ys : List Value} (h : Pairs R vs ys) {i : Nat} {y : Value} (hy : ys[i]? = some y) : ∃ v, vs[i]? = some v ∧ R v y := by
  have hlt : i < vs.length := by rw [← h.1]; exact (List.getElem?_eq_some_iff.mp hy).1
  obtain ⟨y', h1, h2⟩ := h.2 i vs[i] (List.getElem?_eq_getElem hlt)
  rw [hy] at h1
  cases h1
  exact ⟨_, List.getElem?_eq_getElem hlt, h2⟩
/-- what an item of the second list is -/
theorem whole_back {vs ys : List Value} {rs : List Str} (hs : StrsAre vs rs) (h : Pairs RWhole vs ys) {i : Nat} {y : Value} (hy : ys[i]? = some y) : ∃ r u, rs[i]? = some r ∧ y = optInt (wholeF r) u := by
  obtain ⟨v, hv, r, t, u, e, e2⟩ := pairs_back h hy
  obtain ⟨r', t', hr, e'⟩ := strsAre_get hs hv
  rw [e'] at e
  cases e
  exact ⟨r, u, hr, e2⟩
theorem whole_kinds {vs ys : List Value} {rs : List Str} (hs : StrsAre vs rs) (h : Pairs RWhole vs ys) : ∀ y ∈ ys, y = .none ∨ ∃ k t, y = .int k t := by
  intro y hy
  obtain ⟨i, hi⟩ := List.getElem?_of_mem hy
  obtain ⟨r, u, _, rfl⟩ := whole_back hs h hi
  cases wholeF r with
  | none => exact .inl rfl
  | some k => exact .inr ⟨k, u, rfl⟩
/-- is one of them no whole number; kept shut -/
structure NoneIn (rs : List Str) (b : Bool) : Prop where
  out : (rs.any fun r => (wholeF r).isNone) = b
theorem whole_any {vs ys : List Value} {rs : List Str} (hs : StrsAre vs rs) (h : Pairs RWhole vs ys) : NoneIn rs (ys.any fun y => match y with | .none => true | _ => false) := by
  refine ⟨?_⟩
  rw [Bool.eq_iff_iff, List.any_eq_true, List.any_eq_true]
  constructor
  · rintro ⟨r, hr, e⟩
    obtain ⟨i, hi⟩ := List.getElem?_of_mem hr
    obtain ⟨t, ht⟩ := hs.get i r hi
    obtain ⟨y, hy, r', t', u, e1, e2⟩ := h.2 i _ ht
    cases e1
    refine ⟨y, List.mem_of_getElem? hy, ?_⟩
    rw [e2]
    cases hw : wholeF r with
    | none => rfl
    | some k => rw [hw] at e; cases e
  · rintro ⟨y, hy, e⟩
    obtain ⟨i, hi⟩ := List.getElem?_of_mem hy
    obtain ⟨r, u, hr, rfl⟩ := whole_back hs h hi
    refine ⟨r, List.mem_of_getElem? hr, ?_⟩
    cases hw : wholeF r with
    | none => rfl
    | some k => rw [hw] at e; cases e
theorem NoneIn.some_of {rs : List Str} (h : NoneIn rs false) {r : Str} (hr : r ∈ rs) : ∃ k, WholeIs r (some k) := by
  cases hw : wholeF r with
  | some k => exact ⟨k, ⟨hw⟩⟩
  | none =>
    have := h.out
    rw [List.any_eq_false] at this
    exact absurd (by rw [hw]; rfl) (this r hr)
def numF (r : Str) : Str := match wholeF r with | some k => Str.ofString (toString k) | none => r
def RText (v y : Value) : Prop := ∃ k u d t, v = .int k u ∧ y = .str d t ∧ TextOf d k ∧ d.length ≤ 30
theorem text_back {vs ys zs : List Value} {rs : List Str} (hs : StrsAre vs rs) (h : Pairs RWhole vs ys) (hn : NoneIn rs false) (h2 : Pairs RText ys zs) : StrsAre zs (rs.map numF) ∧ ∀ r ∈ rs.map numF, r.length ≤ 30 := by
  have key : ∀ (i : Nat) (r : Str), rs[i]? = some r → ∃ t, zs[i]? = some (.str (numF r) t) ∧ (numF r).length ≤ 30 := by
    intro i r hr
    obtain ⟨t, ht⟩ := hs.get i r hr
    obtain ⟨y, hy, r', t', u, e1, e2⟩ := h.2 i _ ht
    cases e1
    obtain ⟨z, hz, k, u', d, t'', e3, e4, hd, hl⟩ := h2.2 i y hy
    have hw : wholeF r = some k := by
      rw [e2] at e3
      cases hq : wholeF r with
      | none => rw [hq] at e3; cases e3
      | some k' => rw [hq] at e3; cases e3; rfl
    have e5 : numF r = d := by unfold numF; rw [hw]; exact hd.out.symm
    rw [e5]
    exact ⟨t'', by rw [hz, e4], hl⟩
  have hlen : zs.length = rs.length := by rw [h2.1, h.1, hs.length]
  constructor
  · have gen : ∀ (rs : List Str) (zs : List Value), zs.length = rs.length → (∀ (i : Nat) (r : Str), rs[i]? = some r → ∃ t, zs[i]? = some (.str (numF r) t)) → StrsAre zs (rs.map numF) := by
      intro rs
      induction rs with
      | nil => intro zs hl _; cases zs with
        | nil => exact .nil
        | cons => simp at hl
      | cons r rs ih =>
        intro zs hl hk
        cases zs with
        | nil => simp at hl
        | cons z zs =>
          obtain ⟨t, ht⟩ := hk 0 r rfl
          have e : z = .str (numF r) t := Option.some.inj ht
          subst e
          exact .cons _ _ (ih zs (by simpa using hl) fun i r hr => hk (i + 1) r (by simpa using hr))
    exact gen rs zs hlen fun i r hr => let ⟨t, ht, _⟩ := key i r hr; ⟨t, ht⟩
  · intro r hr
    obtain ⟨r0, hr0, rfl⟩ := List.mem_map.mp hr
    obtain ⟨i, hi⟩ := List.getElem?_of_mem hr0
    exact (key i r0 hi).choose_spec.2
def partsF (x y : Str) : List Str := Txt.split x (Str.ofString ".") ++ (if (y == Str.ofString "") = true then [] else [y])
theorem partsF_len {x y : Str} (hx : x.length ≤ 14) (hy : y.length ≤ 14) : ∀ r ∈ partsF x y, r.length ≤ 14 := by
  intro r hr
  unfold partsF at hr
  rcases List.mem_append.mp hr with hr | hr
  · have := PyProof.Rows.part_short hr; omega
  · split at hr
    · exact absurd hr (by simp)
    · rw [List.mem_singleton.mp hr]; omega
theorem partsF_count {x y : Str} (hx : x.length ≤ 14) : (partsF x y).length ≤ 16 := by
  have hwt := PyProof.Rows.split_weight x (Str.ofString ".") (by decide +kernel)
  unfold partsF
  rw [List.length_append]
  have : (if (y == Str.ofString "") = true then ([] : List Str) else [y]).length ≤ 1 := by split <;> simp
  omega
def normF (x y : Str) : Str := Txt.join (Str.ofString ".") ((if ((partsF x y).any fun r => (wholeF r).isNone) = true then partsF x y else (partsF x y).map numF).take 3)
/-- the first three by dots; kept shut -/
structure Joined (d : Str) (qs : List Str) : Prop where
  out : d = Txt.join (Str.ofString ".") (qs.take 3)
theorem sum_len {k : Nat} : ∀ {qs : List Str}, (∀ r ∈ qs, r.length ≤ k) → (qs.map (·.length)).sum ≤ k * qs.length
  | [], _ => by simp
  | q :: qs, h => by
    have h1 := h q (List.mem_cons_self ..)
    have h2 := sum_len (qs := qs) fun r hr => h r (List.mem_cons_of_mem _ hr)
    simp only [List.map_cons, List.sum_cons, List.length_cons, Nat.mul_succ]
    omega
theorem join3 {prog : Program} {A : Around} {D : Addr} {q : List Value} {qs : List Str} {nn : Nat} {t : Tok} (N : News h₀ L s.heap news) (hm : (D, listOf (slicePick q.toArray none (some 3) none) nn) ∈ news) (hs : StrsAre q qs) (hl : ∀ r ∈ qs, r.length ≤ 30)
    (h : ∀ d t' k, Joined d qs → d.length ≤ 200 → Q (.str d t') { s with toks := k }) : wpAny (model prog w) A (call (.builtin "str.join") [.str (Str.ofString ".") t, .ref D]) Q E s := by
  have e : slicePick q.toArray none (some 3) none = (q.take 3).toArray := slicePick_upto' q.toArray 3
  rw [e] at hm
  have hs3 := hs.take' 3
  have hlen : (qs.take 3).length ≤ 3 := by rw [List.length_take]; omega
  have hsum := sum_len (k := 30) (qs := qs.take 3) fun r hr => hl r (List.mem_of_mem_take hr)
  have hsep : (Str.ofString ".").length ≤ 16 := by decide +kernel
  refine join_listW (items := (q.take 3).toArray) ⟨_, (N _ hm).1, rfl, nn, rfl⟩ (by simpa using hs3) hsep (by omega) fun t' k => h _ t' k ⟨rfl⟩ ?_
  have := StrLaws.join_length_le (Str.ofString ".") (qs.take 3)
  have e2 : (Str.ofString ".").length = 1 := by decide +kernel
  rw [e2] at this
  unfold Txt.join
  rw [StrLaws.glued_eq_join]
  omega
theorem normF_of {x y d : Str} {b : Bool} (hb : NoneIn (partsF x y) b) (hd : Joined d (if b = true then partsF x y else (partsF x y).map numF)) : d = normF x y := by
  unfold normF
  rw [hb.out]
  exact hd.out
local macro_rules | `(tactic| walk_at "call builtin:str.join") => `(tactic| (refine Halt.out ?_))
local macro_rules | `(tactic| walk_at "call type:str") => `(tactic| (k_here; (with_reducible show wpAny _ _ (call (Value.type "str") [Value.int _ _]) _ _ _); (rename WholeIs _ _ => hw9); refine str_small (whole_lt hw9.out (by omega)).1 ?_; intro d9 hd9 hl9; (try dsimp only); (try k_fold)))
local macro_rules | `(tactic| walk_at "binaryOp Add ref ref") => `(tactic| (refine Halt.out ?_))
local macro_rules | `(tactic| walk_at "exec Assign cons ListComp") => `(tactic| (refine Halt.out ?_))
local macro_rules | `(tactic| walk_at "CompSrc") => `(tactic| (refine Halt.out ?_))
local macro_rules | `(tactic| walk_at "CompEnd") => `(tactic| (refine Halt.out ?_))
local macro_rules | `(tactic| walk_at "execs cons") => `(tactic| ((with_reducible show wpAny _ _ (execs (Stmt.Assign _ (Expr.BinOp _ _ (Expr.IfExp _ _ _ _) _) _ :: _) _) _ _ _); refine Cut.out ?_))
set_option maxHeartbeats 8000000 in
theorem ct_lnorm {x y : Str} {tx ty : Tok} (B : Below A₀ base outer h₀) (F : Fr h₀ L s.heap m) (X : (hd.heap_39 w.params).In h₀) (N : News h₀ L s.heap news) (T : Top p loose mean mg mb h₀) (hk : cs.kind = .function) (hdp : dp + 6 < recursionLimit) (hun : un + 60 < cLine) (hx : x.length ≤ 14) (hy : y.length ≤ 14) (ret : ∀ t h' tk', Fr h₀ L h' m → News h₀ L h' news → Q (.str (normF x y) t) { s with heap := h', toks := tk' }) :
    wpAny (model PySem.Challenge.rw_nb0114_01.row.prog w) (ktrTop dp un gd cn cs L a ccd cl outer) (call (.ref 97) [.str x tx, .str y ty] []) Q E s := by

  refine wpAny_call ?_
  k_dflt cell_enter
  refine foldA ?_
  intro A₁
  k_steps
  unfold Cut
  rename Fr _ _ _ _ => F3
  rename News _ _ _ _ => N3
  refine cutL (Str.ofString "parts") (fun vs => StrsAre vs (partsF x y)) F3 N3 ?_ ?_
  · k_steps
    all_goals (
      refine Halt.out ?_
      unfold Halt
      rename List (Str × Tok) => ll
      rename StrsAre _ _ => hs0
      rename List.map _ _ = Txt.split _ _ => hsp
      rename ∀ (a : Str), a ∈ _ → a.length ≤ _ => hlen
      have hwt := PyProof.Rows.split_weight x (Str.ofString ".") (by decide +kernel)
      have hll : ll.length ≤ 15 := by
        have := congrArg List.length hsp
        rw [List.length_map] at this
        omega
      refine' add_strsN (by k_asm) (by k_asm) ?m1 ?m2 hs0 ?m4 ?m3 ?_
      case m1 => (repeat (first | exact List.Mem.head _ | assumption | apply List.Mem.tail))
      case m2 => (repeat (first | exact List.Mem.head _ | assumption | apply List.Mem.tail))
      case m4 => first | exact StrsAre.nil | exact StrsAre.cons _ _ StrsAre.nil
      case m3 => simp only [List.length_map, List.length_cons, List.length_nil]; omega
      intro D1 pv h1 hs1 F1 N1 hlt1
      have hs2 : StrsAre pv (partsF x y) := by
        unfold partsF
        rw [← hsp]
        rename (y == Str.ofString "") = _ => hyy
        rw [hyy]
        exact hs1
      clear hs1 hs0
      k_steps
      all_goals try exact True.intro
      refine' SetL.intro hs2 (by k_asm) (by k_asm) ?w1 ?w2 ?w3
      case w1 => (repeat (first | exact List.Mem.head _ | assumption | apply List.Mem.tail))
      case w2 => exact fun q hq => by repeat (first | exact hq | apply List.Mem.tail)
      case w3 => exact fun q hq => hlt1 q (by repeat (first | exact hq | apply List.Mem.tail)))
  · intro D1 pv n1 h1 tk1 hs2 F1 N1 hlt1
    clear F3 N3
    have hr14 : ∀ r ∈ partsF x y, r.length ≤ 14 := partsF_len hx hy
    have hpl : pv.length ≤ 16 := by rw [hs2.length]; exact partsF_count hx
    k_steps
    refine Halt.out ?_
    unfold Halt
    k_dflt (refine LCg.Assign_ListComp_U (F₀ := by k_asm) (by rfl) (by with_unfolding_all rfl) (by with_unfolding_all rfl) (by decide) (by rfl) (by decide) (by rfl) (by rfl) (by rfl) ?_)
    k_steps
    unfold Halt
    refine' LCg.CompSrc.ledger (its := pv.toArray) (k := n1) (by rfl) (by k_asm) (by k_asm) ?c1 ?c2 ?_
    case c1 => (repeat (first | exact List.Mem.head _ | assumption | apply List.Mem.tail))
    case c2 => rw [sizeLine_eq, List.size_toArray]; omega
    intro g1
    refine kv_rest RWhole ?_ ?_
    · intro i v I oI C oC D m₂ ys h tk E' hv hC hx2 F2 N2 off ne
      obtain ⟨r, t, hr, rfl⟩ := strsAre_get hs2 hv
      have hrl : r.length ≤ 14 := hr14 r (List.mem_of_getElem? hr)
      k_steps
      all_goals (
        unfold Halt
        refine' LCg.CompEnd.intro (by k_asm) (by k_asm) _ ?sub off ?S ⟨rfl, ?R⟩
        case R => rename WholeIs _ _ => hw; first | exact rwhole_n hw | exact rwhole_s hw
        case S => lcg_src
        case sub => intro p hp; exact hp)
    · intro ys hP
      unfold LCg.FinA
      intro D2 h2 tk2 F2 N2 off2
      k_steps
      have hnb := whole_any hs2 hP
      refine' notIn_none (n := ys.length) (by k_asm) ?n1 (whole_kinds hs2 hP) ?_
      case n1 => (repeat (first | exact List.Mem.head _ | assumption | apply List.Mem.tail))
      generalize (ys.any fun y => match y with | .none => true | _ => false) = nb at hnb
      k_steps
      · unfold Halt
        rename nb = true => hnt
        subst hnt
        refine' join3 (by k_asm) ?j1 hs2 (fun r hr => Nat.le_trans (hr14 r hr) (by decide)) ?_
        case j1 => (repeat (first | exact List.Mem.head _ | assumption | apply List.Mem.tail))
        intro d t' k hd hdl
        k_steps
        refine' end_ret ret ?e1 ?e2 ?e3 ?e4
        case e1 => rw [normF_of hnb hd]
        case e2 => k_asm
        case e3 => k_asm
        case e4 => exact fun p hp => by repeat (first | exact hp | apply List.Mem.tail)
      · unfold Halt
        rename nb = false => hnt
        subst hnt
        k_dflt (refine LCg.Assign_ListComp_U (F₀ := by k_asm) (by rfl) (by with_unfolding_all rfl) (by with_unfolding_all rfl) (by decide) (by rfl) (by decide) (by rfl) (by rfl) (by rfl) ?_)
        k_steps
        unfold Halt
        refine' LCg.CompSrc.ledger (its := ys.toArray) (k := ys.length) (by rfl) (by k_asm) (by k_asm) ?c1 ?c2 ?_
        case c1 => (repeat (first | exact List.Mem.head _ | assumption | apply List.Mem.tail))
        case c2 => rw [sizeLine_eq, List.size_toArray, hP.1]; omega
        intro g3
        refine kv_rest RText ?_ ?_
        · intro i v I oI C oC D m₂ ys3 h tk E' hv hC hx2 F3 N3 off ne
          obtain ⟨r, u, hr, ev⟩ := whole_back hs2 hP hv
          obtain ⟨k, hw⟩ := hnb.some_of (List.mem_of_getElem? hr)
          rw [hw.out] at ev
          change v = Value.int k u at ev
          subst ev
          have hrl : r.length ≤ 14 := hr14 r (List.mem_of_getElem? hr)
          k_steps
          all_goals (
            unfold Halt
            refine' LCg.CompEnd.intro (by k_asm) (by k_asm) _ ?sub off ?S ⟨rfl, ?R⟩
            case R => rename TextOf _ _ => hd; rename _ ≤ 30 => hl3; exact ⟨k, _, _, _, rfl, rfl, hd, hl3⟩
            case S => lcg_src
            case sub => intro p hp; exact hp)
        · intro zs hP2
          unfold LCg.FinA
          intro D4 h4 tk4 F4 N4 off4
          obtain ⟨hs5, hl5⟩ := text_back hs2 hP hnb hP2
          have hzl : zs.length ≤ 16 := by rw [hP2.1, hP.1]; exact hpl
          k_steps
          unfold Halt
          refine' join3 (q := zs) (by k_asm) ?j1 hs5 hl5 ?_
          case j1 => (repeat (first | exact List.Mem.head _ | assumption | apply List.Mem.tail))
          intro d t' k hd hdl
          k_steps
          refine' end_ret ret ?e1 ?e2 ?e3 ?e4
          case e1 => rw [normF_of hnb hd]
          case e2 => k_asm
          case e3 => k_asm
          case e4 => exact fun p hp => by repeat (first | exact hp | apply List.Mem.tail)
end
end Mine
end
section
open PySem PySem.W PyProof.Rows
theorem Mine.cut_NLnorm : True ∧ True := by
  w_top off
  walk1
  all_goals exact True.intro
end

/- NLname -/
section
open PySem PySem.W PyProof.Rows PySem.Calls
set_option Elab.async false
set_option maxRecDepth 100000
set_option pp.deepTerms false
set_option pp.maxSteps 6000
namespace Mine
local macro_rules | `(tactic| k_steps) => `(tactic| repeat' (first | (k_end; wrow_close) | (walk1; all_goals (try ((with_reducible show wpAny _ _ (exec _ _) _ _ _); with_reducible refine foldF ?_; intro qF))) | (k_unfold; (try dsimp only)) | (dsimp only; walk1; all_goals (try ((with_reducible show wpAny _ _ (exec _ _) _ _ _); with_reducible refine foldF ?_; intro qF))) | (leave1; walk_say "STEP leave1"; try dsimp only) | fail "no step"))
theorem fill_lname : ∀ w : World, (hd.heap_39 w.params) = (hd.heap_39 w.params) ∧ PySem.Challenge.rw_nb0114_01.row.prog = PySem.Challenge.rw_nb0114_01.row.prog := by
  k_fill
  exact fun _ => ⟨rfl, rfl⟩
section
variable {w : World} {p : Program} {loose : List Str} {mean : ExcName → Option Value} {mg mb : Str → Option Value} {dp un : Nat} {gd : Option (List Code)} {cn : Str} {cs : Scope} {a : Addr} {ccd : Value} {cl : List (Str × Addr)} {outer : List Env} {A₀ : Around} {base h₀ : Heap} {L : Addr} {m : Str → Option Value} {news : List (Addr × Obj)} {s : Shared} {Q E : Value → Shared → Prop}

local macro_rules | `(tactic| walk_at "eval ListComp") => `(tactic| (refine Halt.out ?_))
local macro_rules | `(tactic| walk_at "CompSrcT") => `(tactic| (refine Halt.out ?_))
local macro_rules | `(tactic| walk_at "CompEnd") => `(tactic| (refine Halt.out ?_))
local macro_rules | `(tactic| walk_at "call builtin:str.join") => `(tactic| (refine Halt.out ?_))
local macro_rules | `(tactic| walk_at "KswPost") => `(tactic| (refine Halt.out ?_))
local macro_rules | `(tactic| walk_at "exec While") => `(tactic| (refine Halt.out ?_))
local macro_rules | `(tactic| walk_at "exec While Compare cons nil") => `(tactic| (refine Halt.out ?_))
theorem sum_len' {k : Nat} : ∀ {qs : List Str}, (∀ r ∈ qs, r.length ≤ k) → (qs.map (·.length)).sum ≤ k * qs.length
  | [], _ => by simp
  | q :: qs, h => by
    have h1 := h q (List.mem_cons_self ..)
    have h2 := sum_len' (qs := qs) fun r hr => h r (List.mem_cons_of_mem _ hr)
    simp only [List.map_cons, List.sum_cons, List.length_cons, Nat.mul_succ]
    omega
/-- joined by hyphens; kept shut -/
structure JoinedH (d : Str) (qs : List Str) : Prop where
  out : d = Txt.join (Str.ofString "-") qs
theorem joinH {prog : Program} {A : Around} {D : Addr} {q : List Value} {qs : List Str} {nn : Nat} {t : Tok} (N : News h₀ L s.heap news) (hm : (D, listOf q.toArray nn) ∈ news) (hs : StrsAre q qs) (hl : ∀ r ∈ qs, r.length ≤ 20) (hc : qs.length ≤ 3)
    (h : ∀ d t' k, JoinedH d qs → d.length ≤ 70 → Q (.str d t') { s with toks := k }) : wpAny (model prog w) A (call (.builtin "str.join") [.str (Str.ofString "-") t, .ref D]) Q E s := by
  have hsum := sum_len' (k := 20) (qs := qs) hl
  have hsep : (Str.ofString "-").length ≤ 16 := by decide +kernel
  refine join_listW (items := q.toArray) ⟨_, (N _ hm).1, rfl, nn, rfl⟩ (by simpa using hs) hsep (by omega) fun t' k => h _ t' k ⟨rfl⟩ ?_
  have := StrLaws.join_length_le (Str.ofString "-") qs
  have e2 : (Str.ofString "-").length = 1 := by decide +kernel
  rw [e2] at this
  unfold Txt.join
  rw [StrLaws.glued_eq_join]
  omega
def factsF (x y z : Str) : List Str := ([x, y, z].filter fun r => r != Str.ofString "").map fun r => Txt.stripChars r (Str.ofString " ")
def stepN (raw out : Str) (at' : Int) : Str × Int :=
  let sign := if (Builtin.Str.occurrences (Str.ofString "/\\:;\"()") (Txt.item raw at') 0 (Str.ofString "/\\:;\"()").length 1).isEmpty = true then Txt.item raw at' else Str.ofString "-"
  if (Txt.slice raw (some at') (some (at' + 7)) == Str.ofString "unknown") = true then (out, at' + 7)
  else if (sign == Str.ofString "-") = true ∧ (Txt.slice out (some (-1)) none == Str.ofString "-") = true then (out, at' + 1)
  else (out ++ (if (sign == Str.ofString " ") = true then Str.ofString "_" else sign), at' + 1)
def runN (raw : Str) : Nat → Str → Int → Str
  | 0, out, _ => out
  | k + 1, out, at' => if at' < (raw.length : Int) then runN raw k (stepN raw out at').1 (stepN raw out at').2 else out
def nameRaw (raw : Str) : Str := runN raw (raw.length + 1) Str.empty 0
/-- the sign of a turn; kept shut -/
structure SignIs (raw : Str) (at' : Int) (sg : Str) : Prop where
  out : sg = if (Builtin.Str.occurrences (Str.ofString "/\\:;\"()") (Txt.item raw at') 0 (Str.ofString "/\\:;\"()").length 1).isEmpty = true then Txt.item raw at' else Str.ofString "-"
theorem SignIs.step {raw out sg : Str} {at' : Int} (h : SignIs raw at' sg) : stepN raw out at' =
    if (Txt.slice raw (some at') (some (at' + 7)) == Str.ofString "unknown") = true then (out, at' + 7)
    else if (sg == Str.ofString "-") = true ∧ (Txt.slice out (some (-1)) none == Str.ofString "-") = true then (out, at' + 1)
    else (out ++ (if (sg == Str.ofString " ") = true then Str.ofString "_" else sg), at' + 1) := by
  have e := h.out
  subst e
  rfl
theorem SignIs.len {raw sg : Str} {at' : Int} (h : SignIs raw at' sg) (hi : (Txt.item raw at').length ≤ 1) : sg.length ≤ 1 := by
  rw [h.out]
  split
  · exact hi
  · exact (by decide +kernel)
/-- the loop's word; kept shut -/
structure NameInv (raw out : Str) (at' : Int) : Prop where
  lo : 0 ≤ at'
  hi : at' ≤ raw.length + 6
  len : (out.length : Int) ≤ at'
  fin : ∃ k : Nat, (raw.length : Int) - at' ≤ k ∧ runN raw k out at' = nameRaw raw
theorem NameInv.bounds {raw out : Str} {at' : Int} (h : NameInv raw out at') : 0 ≤ at' ∧ at' ≤ raw.length + 6 ∧ (out.length : Int) ≤ at' := ⟨h.lo, h.hi, h.len⟩
theorem NameInv.start (raw : Str) : NameInv raw (Str.ofString "") 0 := by
  have e : Str.ofString "" = Str.empty := by decide +kernel
  rw [e]
  exact ⟨Int.le_refl _, by omega, Int.le_refl _, raw.length + 1, by omega, rfl⟩
theorem NameInv.step {raw out out' : Str} {at' at'' : Int} (h : NameInv raw out at') (hlt : at' < (raw.length : Int)) (e : stepN raw out at' = (out', at'')) (hle : (out'.length : Int) ≤ at'') (h1 : at' + 1 ≤ at'') (h7 : at'' ≤ at' + 7) : NameInv raw out' at'' := by
  obtain ⟨k, hk, hr⟩ := h.fin
  refine ⟨by have := h.lo; omega, by omega, hle, k - 1, by omega, ?_⟩
  cases k with
  | zero => omega
  | succ k =>
    rw [runN, if_pos hlt, e] at hr
    exact hr
theorem NameInv.done {raw out : Str} {at' : Int} (h : NameInv raw out at') (hlt : ¬ at' < (raw.length : Int)) : out = nameRaw raw := by
  obtain ⟨k, _, hr⟩ := h.fin
  rw [← hr]
  cases k with
  | zero => rfl
  | succ k => rw [runN, if_neg hlt]
def nameF (x y z : Str) : Str :=
  let o := nameRaw (Txt.join (Str.ofString "-") (factsF x y z))
  if (Txt.slice o (some (-1)) none == Str.ofString "-") = true then Txt.slice o none (some (-1)) else o
theorem nameF_of {x y z raw out : Str} {b : Bool} (hr : JoinedH raw (factsF x y z)) (ho : out = nameRaw raw) (hb : (Txt.slice out (some (-1)) none == Str.ofString "-") = b) : nameF x y z = if b = true then Txt.slice out none (some (-1)) else out := by
  unfold nameF
  rw [← hr.out, ← ho]
  dsimp only
  rw [hb]
theorem factsF_len {x y z : Str} (hx : x.length ≤ 20) (hy : y.length ≤ 20) (hz : z.length ≤ 20) : ∀ r ∈ factsF x y z, r.length ≤ 20 := by
  intro r hr
  unfold factsF at hr
  obtain ⟨r0, h0, rfl⟩ := List.mem_map.mp hr
  have h1 := (List.mem_filter.mp h0).1
  have h2 := PyProof.Rows.len_stripChars r0 (Str.ofString " ")
  simp only [List.mem_cons, List.not_mem_nil, or_false] at h1
  rcases h1 with rfl | rfl | rfl <;> exact Nat.le_trans h2 (by assumption)
theorem factsF_count (x y z : Str) : (factsF x y z).length ≤ 3 := by
  unfold factsF
  rw [List.length_map]
  exact Nat.le_trans (List.length_filter_le _ _) (by simp)
theorem item_one {raw : Str} {i : Int} (h0 : 0 ≤ i) (h : i < (raw.length : Int)) : (Txt.item raw i).length ≤ 1 := by
  rw [PySem.W.item_meets ⟨h0, h⟩]
  exact Nat.le_refl _
local macro_rules | `(tactic| walk_at "execs cons") => `(tactic| ((with_reducible show wpAny _ _ (execs (Stmt.Assign _ (Expr.IfExp _ _ _ _) _ :: _) _) _ _ _); refine Cut.out ?_))
set_option maxHeartbeats 8000000 in
theorem ct_lname {l : Addr} {x y z : Str} {tx ty tz : Tok} {n : Nat} (B : Below A₀ base outer h₀) (F : Fr h₀ L s.heap m) (X : (hd.heap_39 w.params).In h₀) (N : News h₀ L s.heap news) (T : Top p loose mean mg mb h₀) (hk : cs.kind = .function) (hdp : dp + 3 < recursionLimit) (hun : un + 30 < cLine) (hl : (l, listOf [Value.str x tx, .str y ty, .str z tz].toArray n) ∈ news) (hx : x.length ≤ 20) (hy : y.length ≤ 20) (hz : z.length ≤ 20) (ret : ∀ t h' tk', Fr h₀ L h' m → News h₀ L h' news → Q (.str (nameF x y z) t) { s with heap := h', toks := tk' }) :
    wpAny (model PySem.Challenge.rw_nb0114_01.row.prog w) (ktrTop dp un gd cn cs L a ccd cl outer) (call (.ref 102) [.ref l] []) Q E s := by

  refine wpAny_call ?_
  k_dflt cell_enter
  refine foldA ?_
  intro A₁
  k_steps
  unfold Halt
  k_dflt (refine LCt.ListComp_T (F₀ := by k_asm) (by with_unfolding_all rfl) (by decide) (by rfl) (by decide) (by rfl) ?_)
  k_steps
  unfold Halt
  refine' LCt.CompSrcT.ledger (its := [Value.str x tx, .str y ty, .str z tz].toArray) (k := n) (by rfl) (by k_asm) (by k_asm) ?c1 ?c2 ?_
  case c1 => (repeat (first | exact List.Mem.head _ | assumption | apply List.Mem.tail))
  case c2 => rw [sizeLine_eq]; simp
  intro g1
  refine kv_restT (rs := [x, y, z]) (StrsAre.cons _ _ (StrsAre.cons _ _ (StrsAre.cons _ _ StrsAre.nil))) (fun r => r != Str.ofString "") (fun r => Txt.stripChars r (Str.ofString " ")) ?_ ?_
  · intro r t I oI C oC D m₂ ys h tk E' hr hC hx2 F2 N2 off ne
    have hrl : r.length ≤ 20 := by
      simp only [List.mem_cons, List.not_mem_nil, or_false] at hr
      rcases hr with rfl | rfl | rfl <;> assumption
    k_steps
    all_goals (
      unfold Halt
      refine' LCg.CompEnd.intro (by k_asm) (by k_asm) _ ?sub off ?S ?R
      case R => first | exact ⟨rfl, by assumption, _, rfl⟩ | exact ⟨rfl, by assumption⟩
      case S => lcg_src
      case sub => intro p hp; exact hp)
  · intro ys hys
    unfold LCg.FinE
    intro D2 h2 tk2 F2 N2 off2
    k_steps
    unfold Halt
    have hq14 : ∀ r ∈ factsF x y z, r.length ≤ 20 := factsF_len hx hy hz
    refine' joinH (nn := ys.length) (by k_asm) ?j1 (show StrsAre ys (factsF x y z) from hys) hq14 (factsF_count x y z) ?_
    case j1 => (repeat (first | exact List.Mem.head _ | assumption | apply List.Mem.tail))
    intro raw t' k hraw hrl
    clear hys
    k_steps
    unfold Halt
    rename Fr _ _ _ _ => lF
    rename News _ _ _ _ => lN
    refine' ksw_while (σ := Str × Tok × Int × Tok) (fun _ => _) (fun c => [(Str.ofString "out", .str c.1 c.2.1), (Str.ofString "at", .int c.2.2.1 c.2.2.2)]) (fun _ => True) [Str.ofString "sign"] (fun c => NameInv raw c.1 c.2.2.1) (fun c => ((raw.length : Int) - c.2.2.1).toNat) (_, _, _, _) lF lN trivial ?w1 ?w2 ?w3
    case w1 =>
      intro p hp
      simp only [List.mem_cons, List.not_mem_nil, or_false] at hp
      rcases hp with rfl | rfl
      · rfl
      · rfl
    case w2 => exact NameInv.start raw
    case w3 =>
      rintro ⟨out, to, at', ta⟩ u h tk _ hP F1 N1
      dsimp only at hP F1 N1 ⊢
      obtain ⟨hat0, hat1, hol⟩ := hP.bounds
      clear lF lN
      k_steps
      unfold Cut
      rename Fr _ _ _ _ => F3
      rename News _ _ _ _ => N3
      obtain ⟨sg, hsg⟩ : ∃ sg, SignIs raw at' sg := ⟨_, ⟨rfl⟩⟩
      have hsl : sg.length ≤ 1 := hsg.len (item_one hat0 (by assumption))
      refine cutN (Str.ofString "sign") (fun v => ∃ t, v = .str sg t) F3 N3 ?_ ?_
      · k_steps
        all_goals try exact True.intro
        all_goals (
          rename (List.isEmpty _) = _ => h1
          refine' SetN.intro ?v1 (by k_asm) (by k_asm) ?v2
          case v2 => exact fun p hp => by repeat (first | exact hp | apply List.Mem.tail)
          case v1 => (rw [hsg.out, h1]; exact ⟨_, rfl⟩))
      rintro v5 h5 tk5 ⟨t5, rfl⟩ F5 N5
      clear F3 N3
      k_steps
      all_goals first
        | (unfold Halt KswPost
           rename (Txt.slice raw _ _ == _) = _ => h2
           have hl1 : (Str.ofString "_").length = 1 := by decide +kernel
           try (rename (sg == Str.ofString "-") = _ => h3)
           try (rename (Txt.slice out _ _ == Str.ofString "-") = _ => h4)
           try (rename (sg == Str.ofString " ") = _ => h5)
           refine' ksw_end (_, _, _, _) (by assumption) (by assumption) ?e1 trivial ?e2 ?e3 (NameInv.step hP (by assumption) ?e4 ?e5 ?e6 ?e7) ?e8
           case e1 => exact fun _ h => h
           case e2 =>
             intro p hp
             simp only [List.mem_cons, List.not_mem_nil, or_false] at hp
             rcases hp with rfl | rfl
             · rfl
             · rfl
           case e4 => first
             | (simp only [hsg.step, h2, h3, h4, h5, if_true, if_false, Bool.false_eq_true, and_true, true_and, false_and, and_false, and_self]; done)
             | (simp only [hsg.step, h2, h3, h4, if_true, if_false, Bool.false_eq_true, and_true, true_and, false_and, and_false, and_self]; done)
             | (simp only [hsg.step, h2, h3, h5, if_true, if_false, Bool.false_eq_true, and_true, true_and, false_and, and_false, and_self]; done)
             | (simp only [hsg.step, h2, if_true, if_false, Bool.false_eq_true, and_true, true_and, false_and, and_false, and_self]; done)
           case e3 =>
             intro z h2 h3
             have e1 : z ≠ Str.ofString "out" := h2 _ (List.Mem.head _)
             have e2 : z ≠ Str.ofString "at" := h2 _ (List.Mem.tail _ (List.Mem.head _))
             have e3 : z ≠ Str.ofString "sign" := by
               intro e; rw [e] at h3; exact absurd h3 (by decide +kernel)
             simp only [kstB, e1, e2, e3, h3, if_false, Bool.false_eq_true]
           case e5 => dsimp only; omega
           case e6 => dsimp only; omega
           case e7 => dsimp only; omega
           case e8 => dsimp only; omega)
        | (rename (Txt.slice out _ _ == Str.ofString "-") = _ => h4
           have ho := hP.done (by assumption)
           refine' end_ret ret ?e1 ?e2 ?e3 ?e4
           case e1 => rw [nameF_of hraw ho h4]; rfl
           case e2 => k_asm
           case e3 => k_asm
           case e4 => exact fun p hp => by repeat (first | exact hp | apply List.Mem.tail))
end
end Mine
end
section
open PySem PySem.W PyProof.Rows
theorem Mine.cut_NLname : True ∧ True := by
  w_top off
  walk1
  all_goals exact True.intro
end

/- NInt -/
section
open PySem PySem.W PyProof.Rows PySem.Calls PySem.NumText
set_option Elab.async false
set_option maxRecDepth 100000
namespace Mine
section
variable {prog : Program} {w : World} {A : Around} {E : Value → Shared → Prop} {s : Shared}
theorem codeC_builtin {R : Result → Shared → Prop} {id : String} {args : Args} {b : Builtin} (hb : entryFor table id = some b)
    (h : wpC (model prog w) (A.under (.builtin id args)) (b args) (fun fin s' => match fin with | .done f => R (.ok f) s' | .again c' => c'.quiet = true ∧ codeC (model prog w) A c' R s') (fun e s' => R (.error e) s') s) :
    codeC (model prog w) A (.builtin id args) R s := by
  refine codeC_of_tree ?_
  show wpC _ _ (match entryFor table id with | some b => b args | none => unsupported ((withoutEnding? id "#data").getD id)) _ _ s
  rw [hb]; exact h
theorem codeC_call_builtin {R : Result → Shared → Prop} {id : String} {args : Args} {b : Builtin} (hq : plainId id = true) (hb : entryFor table id = some b) (hc : checkBuiltinCall id args = pure ())
    (h : wpC (model prog w) A.in1 (b args) (fun fin s' => match fin with | .done f => R (.ok f) s' | .again c' => c'.quiet = true ∧ codeC (model prog w) A c' R s') (fun e s' => R (.error e) s') s) : codeC (model prog w) A (.call (.builtin id) args) R s := by
  refine codeC_of_tree ?_
  show wpC _ A.in1 (do checkBuiltinCall id args; again (.builtin id args)) _ _ s
  refine C_bind (C_any (wpAny_of_eq hc (C_pure ⟨plainId_quiet hq args, codeC_builtin hb ?_⟩)))
  rw [Around.under_plainId hq args]
  exact h
theorem type_call_int (x : Str) (t : Tok) : ∃ rest, Builtin.«type.__call__» ⟨[.type "int", .str x t], []⟩ = (holding [.builtin "int.__new__"] (call (.builtin "int.__new__") [.type "int", .str x t] []) >>= rest) := by
  obtain ⟨c, tl, hmro⟩ := F.called_int.mro
  have hmade := F.called_int.made
  have h2 := F.called_int.canCreate
  have hct := F.typeCall_int_1 (.str x t)
  unfold Builtin.«type.__call__»
  have h1 : (Value.type "int" == Value.type "type") = false := F.called_int.notType
  simp only [h1, Bool.false_eq_true, if_false, h2, hct, pure_bind, hmro, hmade, List.isEmpty_cons]
  exact ⟨_, rfl⟩
theorem int_new_eq (x : Str) (t : Tok) : ∃ rest, Builtin.«int.__new__» ⟨[.type "int", .str x t], []⟩ = ((int_private% "intFromObject") (.str x t) >>= rest) := by
  have f1 := F.conv_sub_int
  have f2 := F.madeHere_int
  unfold Builtin.«int.__new__»
  have h0 : isType (.type "int") = pure true := rfl
  simp only [h0, f1, f2, pure_bind, Bool.not_true, Bool.false_eq_true, if_false]
  exact ⟨_, rfl⟩
theorem C_intObj {x : Str} {t : Tok} {M : Model} {Q : Value → Shared → Prop} (h : wpC M A ((int_private% "intFromText") (.str x t) (numTextOf x) 10) Q E s) : wpC M A ((int_private% "intFromObject") (.str x t)) Q E s := by
  have f3 := KIN.str_int
  have f4 := KIN.str_idx
  have f5 := KIN.str_trunc
  have f6 : typeOf (.str x t) = pure (.type "str") := rfl
  obtain ⟨hp, g, d, tk, os⟩ := s
  refine C_step ?_
  repeat (any_goals (first | assumption | wp_step))
theorem C_if_pos {α : Type} {M : Model} {c : Prop} [Decidable c] {x y : Sem α} {Q : α → Shared → Prop} (hc : c) (h : wpC M A x Q E s) : wpC M A (if c then x else y) Q E s := by rw [if_pos hc]; exact h
theorem C_if_neg {α : Type} {M : Model} {c : Prop} [Decidable c] {x y : Sem α} {Q : α → Shared → Prop} (hc : ¬ c) (h : wpC M A y Q E s) : wpC M A (if c then x else y) Q E s := by rw [if_neg hc]; exact h
/-- with the claim's caller below, no mark is made -/
theorem C_mark {M : Model} {own : List String} {e : Value} {Q : Unit → Shared → Prop} (h : Q () s) : wpC M A (markTheRefusal own e) Q E s := by
  intro Γ p hΓ hC
  unfold markTheRefusal
  rw [Sem.wp_bind']
  show Sem.wp M Γ (if pythonCodeMadeTheCall own (((Γ.code, p) :: Γ.below).map (·.1)) = true then _ else _) _ _ p s
  have e0 : pythonCodeMadeTheCall own (((Γ.code, p) :: Γ.below).map (·.1)) = false := by
    have e1 : ((((Γ.code, p) :: Γ.below).map (·.1)).any Code.isCaller) = true := by
      rw [List.any_map, List.any_cons]
      show (_ || (Γ.below.any fun c => c.1.isCaller)) = true
      rw [show (Γ.below.any fun c => c.1.isCaller) = true from hC, Bool.or_true]
    show ((!((((Γ.code, p) :: Γ.below).map (·.1)).any Code.isCaller)) && _ && _) = false
    rw [e1]
    rfl
  rw [if_neg (by rw [e0]; exact Bool.false_ne_true)]
  exact h
theorem C_intText_fail {x : Str} {t : Tok} {Q : Value → Shared → Prop} (hh : A.handled = none) (hl : x.length ≤ 640) (hx : ∀ c ∈ x.cps.toList, c < 16 ^ 8) (hn : PySem.intText? x = none)
    (h : ∀ h' tk e v, Heap.MadeExc s.heap h' e "ValueError" [v] → E (.ref e) { s with heap := h', toks := tk }) :
    wpC (model prog w) A ((int_private% "intFromText") (.str x t) (numTextOf x) 10) Q E s := by
  have hs : (numSeenOf x).length ≤ 640 := Nat.le_trans (seen_length x) hl
  have hr := read0 x hs
  rcases hr with ⟨m, h1, _⟩ | ⟨_, hr⟩
  · rw [hn] at h1; cases h1
  obtain ⟨hp, g, d, tk, os⟩ := s
  refine C_if_pos (c := (numSeenOf x).length ≤ 640) hs ?_
  refine C_bind (C_pure ?_)
  dsimp only
  have tailC : ∀ {tk : Nat}, wpC (model prog w) A (do
      rule "int.__new__.invalid-literal"
      let shown ← pyRepr (Value.str x t)
      let m ← mkStr ((Str.ofString (toString "invalid literal for int() with base " ++ toString 10 ++ toString ": ") ++ (⟨shown.cps.extract 0 200⟩ : Str)))
      let refusal ← newExc (Value.type "ValueError") [m]
      markTheRefusal ["int.__new__"] refusal
      raiseNew refusal) Q E ⟨hp, g, d, tk, os⟩ := by
    intro tk
    refine C_step (wpAny_rule (C_step (wpAny_pyRepr_str (C_step (wpAny_mkStr (C_step (wpAny_newExc_plain plainExc_ValueError (fun h' e hx => C_bind (C_mark (C_any (wpAny_raiseNew_none hh (h h' _ e _ hx))))))) ?_)) ?_)))
    · show (Array.size ((Str.ofString (toString "invalid literal for int() with base " ++ toString 10 ++ toString ": ")).cps ++ (reprText x).cps.extract 0 200)) ≤ sizeLine
      have e1 : (Str.ofString (toString "invalid literal for int() with base " ++ toString 10 ++ toString ": ")).cps.size ≤ 100 := by decide +kernel
      rw [Array.size_append, Array.size_extract, sizeLine_eq]
      omega
    · have := StrLaws.reprText_len x hx
      rw [sizeLine_eq]
      omega
  rw [show List.takeWhile (fun x => x != 0) (numTextOf x) = numSeenOf x from rfl]
  rcases hr with hr | ⟨i, hr, hne⟩
  · rw [hr]
    dsimp only
    refine C_bind (C_pure (C_if_neg (by simp) ?_))
    exact tailC
  · rw [hr]
    dsimp only
    exact C_if_neg hne tailC
/-- int of a text that tells no number, under the claim's caller -/
theorem C_int_fail {x : Str} {t : Tok} {Q : Value → Shared → Prop} (hh : A.handled = none) (hl : x.length ≤ 640) (hx : ∀ c ∈ x.cps.toList, c < 16 ^ 8) (hn : PySem.intText? x = none)
    (h : ∀ h' tk e v, Heap.MadeExc s.heap h' e "ValueError" [v] → E (.ref e) { s with heap := h', toks := tk }) :
    wpC (model prog w) A (call (.type "int") [.str x t]) Q E s := by
  refine C_call (codeC_of_tree ?_)
  show wpC _ _ (callAny (.type "int") _) _ _ _
  refine C_pure ⟨Code.quiet_builtin _ (by decide +kernel), codeC_builtin F.entry_type_call ?_⟩
  rw [Around.under_plain (weight_type_call_type "int" [.str x t] []) (units_type_call_type "int" [.str x t] [])]
  obtain ⟨rest, e1⟩ := type_call_int x t
  rw [e1]
  refine C_bind (C_holding (C_call (codeC_call_builtin F.called_int.plain F.entry_int_new (F.newCall_int_1 _) ?_)))
  obtain ⟨rest2, e2⟩ := int_new_eq x t
  rw [e2]
  refine C_bind (C_intObj (C_intText_fail (by exact hh) hl hx hn fun h' tk e v hm => ?_))
  exact h h' tk e v hm
end
end Mine
end
section
open PySem PySem.W PyProof.Rows
theorem Mine.cut_NInt : True ∧ True := by
  w_top off
  walk1
  all_goals exact True.intro
end

/- NS -/
section
open PySem PySem.W PyProof.Rows PySem.Calls
set_option Elab.async false
set_option maxRecDepth 100000
namespace Mine
/-- the caller's frame and the frames below it -/
abbrev fsOf (outer : List Env) : List Addr := outer.filterMap (·.frame)
section
variable {prog : Program} {w : World} {A A₀ : Around} {s : Shared} {K : Frag} {L a : Addr} {h₀ base : Heap} {m mg mb : Str → Option Value} {news : List (Addr × Obj)} {p : Program} {loose : List Str} {mean : ExcName → Option Value} {outer : List Env} {cn : Str} {cs : Scope} {ccd : Value}
  {R : Result → Shared → Prop} {name qual : Str} {params : Arguments} {body : List Stmt} {scope : Scope} {dV kV doc pm cdv ct oc : Value} {an od : Option Addr} {osl : Array (Option Value)} {f : Addr} {args : Args} {binds : List (Str × Value)}
/-- back in the caller: the frames' slots may have changed, nothing else -/
theorem groundS (B : Below A₀ base outer h₀) (F : Fr h₀ L s.heap m) (N : News h₀ L s.heap news) (XB : K.In base) (TB : Top p loose mean mg mb base) (D : KtsDicts (fsOf outer) h₀) (X₀ : K.In h₀) (T : Top p loose mean mg mb h₀) (hA : A.frames = some (envOf cn cs L a ccd :: outer)) (hck : cs.kind = .function) :
    ∃ g, g = hideAll s.heap (news.map (·.1)) ∧ Fr h₀ L g m ∧ Below A base (envOf cn cs L a ccd :: outer) g ∧ K.In g ∧ Top p loose mean mg mb g ∧ KtsDicts (fsOf (envOf cn cs L a ccd :: outer)) g ∧
      ∀ v s', LeaveS (fsOf (envOf cn cs L a ccd :: outer)) A₀ base outer K p loose mean mg mb h₀ h₀ L m g R v s' → R (.ok (.ret v)) s' := by
  obtain ⟨oL, es, ep, hLg, hLd, hN, hNs, st, B₂⟩ := kts_enter B F N hA hck
  have nL₀ : h₀.get? L = none := kts_self F
  refine ⟨_, rfl, ⟨hN _ hLg, st, F.above⟩, B₂, X₀.keeps st, T.keeps st, fun b hb => ?_, fun v s' hl => ?_⟩
  · rcases kts_mem hb with rfl | hb
    · exact ⟨oL, es, ep, hLg, hLd⟩
    · obtain ⟨o, es', n', h1, h2⟩ := D b hb
      exact ⟨o, es', n', st b o h1, h2⟩
  have low : ∀ {g' : Heap} {L' : Addr} {news' : List (Addr × Obj)}, (∀ b o, (hideAll s.heap (news.map (·.1))).get? b = some o → ∃ sl, g'.get? b = some { o with slots := sl }) → News g' L' s'.heap news' → (∀ q ∈ news', q.1 ≠ L) ∧ ∀ q ∈ news', h₀.get? q.1 = none := by
    intro g' L' news' up N'
    refine ⟨fun q hq e => ?_, fun q hq => ?_⟩
    · obtain ⟨sl, hs⟩ := up _ _ hLg
      have z := (N' q hq).2.2
      rw [e, hs] at z; cases z
    · cases e : h₀.get? q.1 with
      | none => rfl
      | some o =>
        obtain ⟨sl, hs⟩ := up _ _ (st _ _ e)
        have z := (N' q hq).2.2
        rw [hs] at z; cases z
  rcases hl with ⟨L', m', news', F', N', k⟩ | ⟨g', L', m', news', T', F', N', k⟩
  · obtain ⟨n1, n2⟩ := low (fun b o e => ⟨o.slots, e⟩) N'
    exact k ⟨hN _ (F'.keep _ _ hLg), fun b o e => F'.keep b o (st b o e), F.above⟩ fun q hq => ⟨(N' q hq).1, n1 q hq, n2 q hq⟩
  · obtain ⟨n1, n2⟩ := low (fun b o e => T'.up e) N'
    obtain ⟨sl, hs⟩ := T'.up hLg
    obtain ⟨T₁, S₁⟩ := kts_turn_at (h := s'.heap) (fs := fsOf outer) (g := h₀)
      (fun b hb => by obtain ⟨_, o, e, _⟩ := B.frames.mem hb; exact ⟨o, e⟩)
      (fun b o e hn => F'.keep b o (T'.other b o (st b o e) fun q => by
        rcases kts_mem q with z | z
        · rw [z, nL₀] at e; cases e
        · exact hn z))
      (fun b o e _ => by obtain ⟨sl', hs'⟩ := T'.up (st b o e); exact ⟨sl', F'.keep _ _ hs'⟩)
    have B₃ : Below A₀ base outer (ktsHeap s'.heap (fsOf outer) h₀) := ⟨B.stack, fun b o e => T₁.other b o (B.stays b o e) (fun hm => by
      rw [(B.frames.mem hm).1] at e; cases e), B.frames.of_keeps fun b o e _ => by
        obtain ⟨sl', hs'⟩ := T₁.up e
        exact ⟨_, hs', rfl⟩⟩
    exact k _ T₁ ⟨hNs sl _ (F'.keep _ _ hs), S₁, by rw [T₁.size]; exact F.above⟩ (fun q hq => ⟨(N' q hq).1, n1 q hq, T₁.none_ _ (n2 q hq)⟩) B₃ (XB.keeps B₃.stays) (TB.keeps B₃.stays) (D.turn T₁)
theorem frameS {E : Value → Shared → Prop} (B : Below A₀ base outer h₀) (F : Fr h₀ L s.heap m) (X₀ : K.In h₀) (N : News h₀ L s.heap news) (T : Top p loose mean mg mb h₀) (XB : K.In base) (TB : Top p loose mean mg mb base) (D : KtsDicts (fsOf outer) h₀) (hA : A.frames = some (envOf cn cs L a ccd :: outer)) (hck : cs.kind = .function)
    (hloc : ∀ y ∈ binds, scope.names.lookup y.1 = some .local)
    (h : ∀ g L' h₁, Fr h₀ L g m → Fr g L' h₁ (fun y => binds.reverse.lookup y) → News g L' h₁ news → Below A base (envOf cn cs L a ccd :: outer) g → K.In g → Top p loose mean mg mb g → KtsDicts (fsOf (envOf cn cs L a ccd :: outer)) g →
      wpC (model prog w) (A.deeper (envOf qual scope L' f cdv)) (execs body (envOf qual scope L' f cdv)) (fun fl s' => LeaveS (fsOf (envOf cn cs L a ccd :: outer)) A₀ base outer K p loose mean mg mb h₀ h₀ L m g R (match fl with | .ret v => v | _ => .none) s') NoE
        { s with heap := h₁, toks := s.toks + binds.length })
    (hcell : ∀ x ∈ scope.names, x.2 ≠ .cell) (hk : scope.kind = .function) :
    wpAny (model prog w) A.in1 (newFunctionEnv scope mainGlobals [] binds (qual ++ ".<locals>.") (some f) cdv none builtinsNs) (fun env' s₂ => s₂.heap.NoLimit ∧ codeC (model prog w) A (.func body env') R s₂) E s := by
  obtain ⟨g, rfl, FG, BG, XG, TG, DG, lv⟩ := groundS (R := R) B F N XB TB D X₀ T hA hck
  refine wpAny_newFunctionEnv hcell hloc (fun h₁ hns hsb => ⟨(T.nolimit.keeps F.keep).fresh _ hsb, codeC_func ?_⟩) hk
  have up : ∀ b o, s.heap.get? b = some o → h₁.get? b = some o := fun b o e => hsb.extBut b o (Nat.ne_of_lt (Heap.lt_size e)) (Heap.get?_push_of_some _ e)
  exact C_mono (h _ s.heap.objs.size h₁ FG ⟨hns, fun b o e => up b o (of_hideAll _ e), Nat.le_of_eq (hideAll_size _ _)⟩
    (fun p hp => ⟨up _ _ (N p hp).1, Nat.ne_of_lt (Heap.lt_size (N p hp).1), hideAll_none _ (List.mem_map_of_mem hp)⟩) BG XG TG DG) (fun fl s' hl => lv _ _ hl) fun _ _ y => y
theorem enterS (B : Below A₀ base outer h₀) (F : Fr h₀ L s.heap m) (X₀ : K.In h₀) (N : News h₀ L s.heap news) (T : Top p loose mean mg mb h₀) (XB : K.In base) (TB : Top p loose mean mg mb base) (D : KtsDicts (fsOf outer) h₀) (hA : A.frames = some (envOf cn cs L a ccd :: outer)) (hck : cs.kind = .function)
    (ho : K.lookup f = some ⟨oc, od, .func (fnOf name qual params body scope dV kV doc pm an cdv ct), osl⟩) (hcd : codeIn K cdv qual = true) (hroom : A.depth < recursionLimit)
    (hbind : BindsTo s (fnOf name qual params body scope dV kV doc pm an cdv ct) args binds) (hloc : ∀ y ∈ binds, scope.names.lookup y.1 = some .local)
    (h : ∀ g L' h₁, Fr h₀ L g m → Fr g L' h₁ (fun y => binds.reverse.lookup y) → News g L' h₁ news → Below A base (envOf cn cs L a ccd :: outer) g → K.In g → Top p loose mean mg mb g → KtsDicts (fsOf (envOf cn cs L a ccd :: outer)) g →
      wpC (model prog w) (A.deeper (envOf qual scope L' f cdv)) (execs body (envOf qual scope L' f cdv)) (fun fl s' => LeaveS (fsOf (envOf cn cs L a ccd :: outer)) A₀ base outer K p loose mean mg mb h₀ h₀ L m g R (match fl with | .ret v => v | _ => .none) s') NoE
        { s with heap := h₁, toks := s.toks + binds.length })
    (hco : scope.isCoroutine = false) (hgen : scope.isGenerator = false) (hk : scope.kind = .function)
    (hcell : ∀ x ∈ scope.names, x.2 ≠ .cell) : codeC (model prog w) A (.call (.ref f) args) R s := by
  refine codeC_call_function (fd := fnOf name qual params body scope dV kV doc pm an cdv ct) (body := body) hroom ((X₀.keeps F.keep) _ _ ho) rfl hco hgen rfl (codeRec_of (X₀.keeps F.keep) hcd) (hbind _ _ _ _ ?_)
  exact frameS B F X₀ N T XB TB D hA hck hloc h hcell hk
theorem enterBothS {vs : List Value} {nm nr : Str} {front ex : List (Str × Value)} {g₁ : Addr → Sem (List (Str × Value))} {g₂ : Addr → Addr → Sem (List (Str × Value))}
    (B : Below A₀ base outer h₀) (F : Fr h₀ L s.heap m) (X₀ : K.In h₀) (N : News h₀ L s.heap news) (T : Top p loose mean mg mb h₀) (XB : K.In base) (TB : Top p loose mean mg mb base) (D : KtsDicts (fsOf outer) h₀) (hA : A.frames = some (envOf cn cs L a ccd :: outer)) (hck : cs.kind = .function)
    (ho : K.lookup f = some ⟨oc, od, .func (fnOf name qual params body scope dV kV doc pm an cdv ct), osl⟩) (hcd : codeIn K cdv qual = true) (hroom : A.depth < recursionLimit)
    (hp : peekA K ⟨prog, w.params⟩ (bindArgs (fnOf name qual params body scope dV kV doc pm an cdv ct) args) = some (({ cls := .type "tuple", data := .seq vs.toArray } : Obj), g₁))
    (hp₂ : ∀ D, peekA K ⟨prog, w.params⟩ (g₁ D) = some (dictOf [] 0, g₂ D))
    (hn : (ex.map (·.1)).Nodup)
    (hk₂ : ∀ C D, g₂ C D = (forIn ex PUnit.unit (fun x _ => (nsSet D x.1 x.2 >>= fun _ => pure (ForInStep.yield PUnit.unit))) >>= fun _ => pure (front ++ [(nr, Value.ref C)] ++ [(nm, Value.ref D)])))
    (hloc : ∀ C D, ∀ y ∈ front ++ [(nr, Value.ref C)] ++ [(nm, Value.ref D)], scope.names.lookup y.1 = some .local)
    (h : ∀ C D' g L' h₁ tk, (∀ p ∈ news, p.1 < C) → C < D' → (D' == sysModules) = false → Fr h₀ L g m → Fr g L' h₁ (fun y => (front ++ [(nr, Value.ref C)] ++ [(nm, Value.ref D')]).reverse.lookup y) →
      News g L' h₁ ((D', dictOf (kwEs w.params tk ex) (0 + ex.length)) :: (C, ({ cls := .type "tuple", data := .seq vs.toArray } : Obj)) :: news) → Below A base (envOf cn cs L a ccd :: outer) g → K.In g → Top p loose mean mg mb g → KtsDicts (fsOf (envOf cn cs L a ccd :: outer)) g →
      wpC (model prog w) (A.deeper (envOf qual scope L' f cdv)) (execs body (envOf qual scope L' f cdv)) (fun fl s' => LeaveS (fsOf (envOf cn cs L a ccd :: outer)) A₀ base outer K p loose mean mg mb h₀ h₀ L m g R (match fl with | .ret v => v | _ => .none) s') NoE
        { s with heap := h₁, toks := tk + ex.length + (front ++ [(nr, Value.ref C)] ++ [(nm, Value.ref D')]).length })
    (hco : scope.isCoroutine = false) (hgen : scope.isGenerator = false) (hk : scope.kind = .function)
    (hcell : ∀ x ∈ scope.names, x.2 ≠ .cell) : codeC (model prog w) A (.call (.ref f) args) R s := by
  refine codeC_call_function (fd := fnOf name qual params body scope dV kV doc pm an cdv ct) (body := body) hroom ((X₀.keeps F.keep) _ _ ho) rfl hco hgen rfl (codeRec_of (X₀.keeps F.keep) hcd) ?_
  refine wp_of_peekA (o := ({ cls := .type "tuple", data := .seq vs.toArray } : Obj)) F N (X₀.keeps F.keep) rfl _ g₁ hp fun h' F' N' l => ?_
  refine wp_of_peekA (s := { s with heap := h' }) (o := dictOf [] 0) F' N' (X₀.keeps F'.keep) rfl _ (g₂ s.heap.objs.size) (hp₂ _) fun h'' F'' N'' l' => ?_
  rw [hk₂]
  refine wpAny_bind (kp_fill ex { s with heap := h'' } [] 0 F'' N'' (fun p hp => Nat.ne_of_lt (l' p hp)) (fun _ he => nomatch he) (fun _ he => nomatch he) hn fun h₃ F₃ N₃ => wpAny_pure ?_)
  exact frameS (s := { s with heap := h₃, toks := s.toks + ex.length }) B F₃ X₀ N₃ T XB TB D hA hck (hloc _ _) (fun g L' h₁ FG FL NG BG XG TG DG => h _ _ g L' h₁ s.toks l (l' _ (.head _)) (F'.notModules (modules_low T.nolimit)) FG FL NG BG XG TG DG) hcell hk
end
end Mine
end
section
open PySem PySem.W PyProof.Rows
theorem Mine.cut_NS : True ∧ True := by
  w_top off
  walk1
  all_goals exact True.intro
end

/- NS2 -/
section
open PySem PySem.W PyProof.Rows PySem.Calls
set_option Elab.async false
set_option maxRecDepth 100000
namespace Mine
section
variable {prog : Program} {w : World} {A A₀ : Around} {E : Value → Shared → Prop} {s s' : Shared} {KF : Frag} {L a e : Addr} {h g base : Heap} {m mg mb : Str → Option Value} {news : List (Addr × Obj)} {p : Program} {loose : List Str} {mean : ExcName → Option Value} {outer : List Env} {name : Str} {scope : Scope} {cd : Value}
  {X T' : String} {vs : List Value} {x : Str} {np pos : Pos} {b₀ : Stmt} {suite : List Stmt} {rest : List ExceptHandler} {Q : Flow → Shared → Prop}
theorem noteNew {B : Heap} {env : Env} {Q : Unit → Shared → Prop} (hfr : A.frames = some (env :: outer)) (hf : env.frame = some L) (hkb : B.StaysIn h) (hl : h.FunFrames B (env :: outer)) (hx : Heap.MadeExc h s.heap e X vs)
    (hQ : ∀ h' t, Heap.HeldW B (env :: outer) e (.type X) (.ref t) L h' → s.heap.UpToSlots h' → Q () { s with heap := h' }) : wpAny (model prog w) A (noteFrame (.ref e) env) Q E s := by
  obtain ⟨t, he, htn, ht⟩ := hx.there
  have fresh : ∀ b, h.get? b = none → B.get? b = none := fun b hb => by
    cases hq : B.get? b with
    | none => rfl
    | some o' => have := hkb b o' hq; rw [hb] at this; cases this
  unfold noteFrame
  simp only [hf]
  refine wpAny_bind (wpAny_field he rfl (i := 1) (x := .none) rfl ?_)
  rw [if_neg (by decide)]
  refine wpAny_entryW (a0 := .ref t) hfr (hl.of_keeps fun b o hb _ => ⟨o, hx.keeps b o hb, rfl⟩) hf he (fun b o hb => hx.keeps b o (hkb b o hb)) (fresh e hx.new) rfl (by simp) rfl fun h' hN => ?_
  obtain ⟨k1, k2, k3, k4⟩ := hN
  exact hQ h' t ⟨k1, fresh e hx.new, k2, k3⟩ k4
/-- a new exception of a builtin class, raised in this frame and caught here; the frames' slots change -/
theorem caughtOwn (hx : Heap.MadeExc h s'.heap e X vs) (F : Fr g L h m) (N : News g L h news) (K : Below A₀ base outer g) (XB : KF.In base) (TB : Top p loose mean mg mb base) (D : KtsDicts (fsOf outer) g)
    (ex : nsIn KF mainGlobals x = some none) (hv : bootBuiltins x = some (.type T')) (hn' : x ≠ "__name__")
    (hexc : isSubtype (.type T') (.type "BaseException") = pure true) (hnt : isSubtype (.type ((Manifest.find? T').elim "type" fun y => y.metatype)) (.type "tuple") = pure false) (hsub : isSubtype (.type X) (.type T') = pure true)
    (k : ∀ h' g', KtsTurn (fsOf outer) g g' → Fr g' L h' m → News g' L h' news → Below A₀ base outer g' → KF.In g' → Top p loose mean mg mb g' → KtsDicts (fsOf outer) g' →
      wpAny (model prog w) ((A₀.deeper (envOf name scope L a cd)).mark (some (.ref e))) (execs (b₀ :: suite) (envOf name scope L a cd)) Q E { s' with heap := h' })
    (hE : PassesOwnAt (model prog w) ((A₀.deeper (envOf name scope L a cd)).mark (some (.ref e))) (A₀.deeper (envOf name scope L a cd)) (envOf name scope L a cd) E)
    (hk : scope.kind = .function := by rfl) (hxk : (envOf name scope L a cd).kindOf x = some .globalImplicit := by rfl) (hd : (x == ("__debug__" : Str)) = false := by decide) :
    wpAny (model prog w) (A₀.deeper (envOf name scope L a cd)) (noteFrame (.ref e) (envOf name scope L a cd))
      (fun _ s₂ => wpAny (model prog w) (A₀.deeper (envOf name scope L a cd)) (setFlight (.ref e) none) (fun _ s₃ =>
        wpAny (model prog w) (A₀.deeper (envOf name scope L a cd)) (handleBy (.ref e) (envOf name scope L a cd) (.ExceptHandler (some (.Name x np)) none (b₀ :: suite) pos :: rest)) Q E s₃) E s₂) E s' := by
  have K' := K.push (name := name) (a := a) (cd := cd) F hk
  have hin : ∀ env ∈ (envOf name scope L a cd :: outer), ∀ b, env.frame = some b → b ∈ fsOf (envOf name scope L a cd :: outer) := fun env he b hb => List.mem_filterMap.mpr ⟨env, he, hb⟩
  let B := hideAll h (fsOf (envOf name scope L a cd :: outer))
  have hBG : ∀ b o, h.get? b = some o → b ∉ fsOf (envOf name scope L a cd :: outer) → B.get? b = some o := fun b o q nm => hideAll_get _ q nm
  have hl : ∀ q ∈ news, B.get? q.1 = some q.2 ∧ g.get? q.1 = none := fun q hq => by
    refine ⟨hideAll_get _ (N q hq).1 fun hm => ?_, (N q hq).2.2⟩
    rcases kts_mem hm with z | z
    · exact (N q hq).2.1 z
    · obtain ⟨_, o, ho, _⟩ := K.frames.mem z
      rw [(N q hq).2.2] at ho; cases ho
  have hL : B.get? L = none := hideAll_none _ (hin _ (.head _) L rfl)
  have hsm : h.UpToSlots s'.heap := Heap.UpToSlots.of_keeps hx.keeps
  refine noteNew (Around.frames_deeper K.stack) rfl (fun b o q => of_hideAll _ q) (funFrames_hide K'.frames hin) hx fun h₄ t hheld₄ hsm₄ => ?_
  refine wpAny_landsW hheld₄ fun h₅ hheld hsm₅' => ?_
  have hsm₅ := (hsm.trans hsm₄).trans hsm₅'
  obtain ⟨g₅, T₅, F₅, K₅⟩ := kts_ground K F hBG hheld.1 hsm₅
  have X₅ : KF.In g₅ := XB.keeps K₅.stays
  have P₅ : TopRead p loose mg mb g₅ := topRead_of (TB.keeps K₅.stays)
  obtain ⟨ob, hob, hobc⟩ := hheld.there
  refine wpAny_handleBy_builtin (X := X) (T := T') (b := true) hexc hnt hsub (name_B F₅ X₅ P₅ ex hv hn' ⟨rfl, ⟨ob, hob, hobc⟩, ?_⟩ hk hxk hd)
  refine lands_againW hheld fun h₆ hfl₆ hsm₆ => ?_
  obtain ⟨g₆, T₆, F₆, K₆⟩ := kts_ground K F hBG hfl₆.1 (hsm₅.trans hsm₆)
  exact wpAny_passesOwnAt hE (k h₆ g₆ T₆ F₆ (fun q hq => ⟨hfl₆.1 _ _ (hl q hq).1, (fun z => by have := (hl q hq).1; rw [z, hL] at this; cases this), T₆.none_ _ (hl q hq).2⟩) K₆ (XB.keeps K₆.stays) (TB.keeps K₆.stays) (D.turn T₆))
end
end Mine
end
section
open PySem PySem.W PyProof.Rows
theorem Mine.cut_NS2 : True ∧ True := by
  w_top off
  walk1
  all_goals exact True.intro
end

/- NKw -/
section
open PySem PySem.W PyProof.Rows PySem.Calls
set_option Elab.async false
set_option maxRecDepth 100000
namespace Mine
section
variable {prog : Program} {w : World} {A : Around} {E : Value → Shared → Prop} {s : Shared} {h₀ : Heap} {L C D : Addr} {m : Str → Option Value} {news : List (Addr × Obj)}
theorem dict_iter_slot : typeLookup (.type "dict") "__iter__" = pure (some (.builtin "dict.__iter__")) := by rw [typeLookup_type, builtinLookup_eq_fast]; kernel_rfl
theorem dict_sub : isSubtype (.type "dict") (.type "dict") = pure true := by rw [isSubtype_type]; kernel_rfl
theorem merge0 {d : Addr} {Q : Unit → Shared → Prop} (hd : s.heap.get? d = some (dictOf [] 0)) (hD : s.heap.get? D = some (dictOf [] 0)) (hne : (D == sysModules) = false) (h : Q () s) : wpAny (model prog w) A (mergeMapping d (.ref D) true) Q E s := by
  have f1 := dict_iter_slot
  have f2 := dict_sub
  unfold mergeMapping
  refine wpAny_bind (wpAny_isInstance (T := "dict") (b := true) ⟨_, hD, rfl⟩ f2 ?_)
  dsimp only
  refine wpAny_bind (wpAny_specialOf (T := "dict") ⟨_, hD, rfl⟩ f1 (wpAny_bind (wpAny_pure ?_)))
  rw [show (some (Value.builtin "dict.__iter__") == some (.builtin "dict.__iter__")) = true by decide]
  dsimp only
  rw [if_neg (by rw [hne]; exact Bool.false_ne_true)]
  refine wpAny_bind (wpAny_dictEntries hd rfl ?_)
  rw [if_pos (by rfl)]
  refine wpAny_bind (wpAny_dictEntries hD rfl ?_)
  refine wpAny_bind (wpAny_of_eq (a := PUnit.unit) (by rfl) ?_)
  refine wpAny_bind (wpAny_dictEntries hD rfl (wpAny_bind (wpAny_dictEpoch hD rfl ?_)))
  exact wpAny_bind (wpAny_of_eq (a := PUnit.unit) (by rfl) (wpAny_pure h))
theorem find0 {d : Addr} {Q : Option Nat → Shared → Prop} {k : Str} {hsh : Int} {tk : Tok} (hd : s.heap.get? d = some (dictOf [] 0)) (h : Q none s) : wpAny (model prog w) A (dictFind d (.str k tk) hsh) Q E s := by
  unfold dictFind
  refine wpAny_holding (wpAny_bind (wpAny_dictEntries hd rfl ?_))
  dsimp only
  rw [if_pos (by simp)]
  unfold foundByValue
  have e0 : (#[] : Array DictEntry).findIdx? (·.key.isStr k) = none := by simp
  rw [e0]
  exact wpAny_pure h
theorem merge1 {d : Addr} {Q : Unit → Shared → Prop} {k : Str} {hsh : Int} {tk : Tok} {v : Value} {n : Nat} (hd : s.heap.get? d = some (dictOf [] 0)) (hD : s.heap.get? D = some (dictOf [⟨hsh, .str k tk, v⟩] n)) (hdD : d ≠ D) (hne : (D == sysModules) = false)
    (h : Q () { s with heap := s.heap.update d (Obj.mapDictKeys (·.push ⟨hsh, .str k tk, v⟩)) }) : wpAny (model prog w) A (mergeMapping d (.ref D) true) Q E s := by
  have f1 := dict_iter_slot
  have f2 := dict_sub
  unfold mergeMapping
  refine wpAny_bind (wpAny_isInstance (T := "dict") (b := true) ⟨_, hD, rfl⟩ f2 ?_)
  dsimp only
  refine wpAny_bind (wpAny_specialOf (T := "dict") ⟨_, hD, rfl⟩ f1 (wpAny_bind (wpAny_pure ?_)))
  rw [show (some (Value.builtin "dict.__iter__") == some (.builtin "dict.__iter__")) = true by decide]
  dsimp only
  rw [if_neg (by rw [hne]; exact Bool.false_ne_true)]
  refine wpAny_bind (wpAny_dictEntries hd rfl ?_)
  rw [if_pos (by rfl)]
  refine wpAny_bind (wpAny_dictEntries hD rfl ?_)
  refine wpAny_bind (wpAny_of_eq (a := PUnit.unit) (by rfl) ?_)
  refine wpAny_bind (wpAny_dictEntries hD rfl (wpAny_bind (wpAny_dictEpoch hD rfl ?_)))
  show wpAny _ _ (forIn [0] PUnit.unit _ >>= _) _ _ _
  rw [List.forIn_cons]
  refine wpAny_bind (wpAny_bind (wpAny_bind (wpAny_dictEntries hD rfl ?_)))
  show wpAny _ _ (holding _ _ >>= _) _ _ _
  refine wpAny_bind (wpAny_holding ?_)
  rw [if_pos rfl]
  refine wpAny_bind (find0 hd ?_)
  rw [if_neg (by simp)]
  show wpAny _ _ (dictPut d hsh (.str k tk) v) _ _ _
  unfold dictPut
  refine wpAny_bind (find0 hd (wpAny_updateDictKeys hd rfl ?_))
  have hD' : (s.heap.update d (Obj.mapDictKeys (·.push ⟨hsh, .str k tk, v⟩))).get? D = some (dictOf [⟨hsh, .str k tk, v⟩] n) := (Heap.get?_update_other _ _ hdD).trans hD
  refine wpAny_bind (wpAny_dictEpoch hD' rfl ?_)
  rw [if_neg (by simp)]
  refine wpAny_pure ?_
  show wpAny _ _ (forIn [] PUnit.unit _) _ _ _
  rw [List.forIn_nil]
  exact wpAny_pure (wpAny_pure h)
theorem merged0 {f : Value} {y : Sem Value} {py : Pos} {Q : Addr → Shared → Prop} (F : Fr h₀ L s.heap m) (N : News h₀ L s.heap news) (hD : (D, dictOf [] 0) ∈ news) (hne : (D == sysModules) = false)
    (hy : ∀ (s : Shared) (Q : Value → Shared → Prop), Fr h₀ L s.heap m → Q (.ref D) s → wpAny (model prog w) A y Q E s)
    (h : ∀ d h', Fr h₀ L h' m → News h₀ L h' ((d, dictOf [] 0) :: news) → Q d { s with heap := h' }) :
    wpAny (model prog w) A (mergedKeywords f [(none, (do let v ← y; standAt py; pure v))]) Q E s := by
  unfold mergedKeywords
  have F1 := F.push (dictOf [] 0)
  have N1 := News.push F N (dictOf [] 0) rfl
  refine wpAny_bind (wpAny_alloc (wpAny_bind (wpAny_holding ?_)))
  dsimp only
  have hd : (s.heap.push (dictOf [] 0)).get? s.heap.objs.size = some (dictOf [] 0) := Heap.get?_push_size _ rfl
  have hD1 : (s.heap.push (dictOf [] 0)).get? D = some (dictOf [] 0) := (N1 _ (List.Mem.tail _ hD)).1
  refine wpAny_bind ?_
  rw [List.forIn_cons]
  refine wpAny_bind ?_
  dsimp only
  refine wpAny_bind (wpAny_of_eq (a := ()) (by rfl) ?_)
  refine wpAny_bind (wpAny_bind (hy _ _ F1 (wpAny_bind (wpAny_standAt (wpAny_pure ?_)))))
  refine wpAny_bind (wpAny_onRaise (wpAny_holding (wpAny_tryCatch (wpAny_onRaise (merge0 hd hD1 hne ?_)))))
  refine wpAny_pure ?_
  show wpAny _ _ (forIn [] _ _) _ _ _
  rw [List.forIn_nil]
  refine wpAny_pure ?_
  refine wpAny_of_eq (a := ()) (by rfl) ?_
  exact wpAny_pure (h _ _ F1 N1)
/-- what stands behind `f(*C, **D)` when D is empty -/
theorem starArgs0 {f : Value} {x y : Sem Value} {px py : Pos} {vs : List Value} {n : Nat} {Q : Args → Shared → Prop} (F : Fr h₀ L s.heap m) (N : News h₀ L s.heap news) (hC : (C, ({ cls := .type "tuple", data := .seq vs.toArray n } : Obj)) ∈ news) (hD : (D, dictOf [] 0) ∈ news) (hne : (D == sysModules) = false) (hz : vs.length ≤ sizeLine)
    (hx : ∀ (s : Shared) (Q : Value → Shared → Prop), Fr h₀ L s.heap m → Q (.ref C) s → wpAny (model prog w) A x Q E s) (hy : ∀ (s : Shared) (Q : Value → Shared → Prop), Fr h₀ L s.heap m → Q (.ref D) s → wpAny (model prog w) A y Q E s)
    (h : ∀ h', Fr h₀ L h' m → News h₀ L h' news → Q ⟨vs, []⟩ { s with heap := h' }) :
    wpAny (model prog w) A (evalArgs f true [(true, (do let v ← x; standAt px; pure v))] [(none, (do let v ← y; standAt py; pure v))]) Q E s := by
  unfold evalArgs
  refine wpAny_bind (wpAny_bind (hx _ _ F (wpAny_bind (wpAny_standAt (wpAny_pure (wpAny_bind (wpAny_pure ?_)))))))
  refine wpAny_holding ?_
  dsimp only
  rw [if_neg (by simp)]
  refine wpAny_bind (merged0 F N hD hne hy fun d h' F' N' => ?_)
  have st := star_seq (prog := prog) (w := w) (A := A) (E := E) (s := { s with heap := h' }) (Q := fun ws s₂ => wpAny (model prog w) A (do let kw ← holding (Value.ref d :: ws) (keywordsIn f d); pure (⟨ws, kw⟩ : Args)) Q E s₂) F' N' (List.Mem.tail _ hC) rfl rfl (Or.inr rfl) rfl (by rw [List.size_toArray]; exact hz) (fun h2 F2 N2 => ?_)
  · unfold StarOf at st
    refine wpAny_bind (wpAny_bind (wpAny_mono st (fun b s₂ h₂ => ?_) fun _ _ x => x))
    obtain ⟨rfl, h₂⟩ := h₂
    rw [if_neg Bool.false_ne_true]
    exact wpAny_holding h₂
  · have hd := (N2 _ (List.Mem.head _)).1
    unfold keywordsIn
    refine wpAny_bind (wpAny_holding (wpAny_bind (wpAny_dictEntries hd rfl ?_)))
    refine wpAny_bind (wpAny_of_eq (a := ([] : List (Str × Value))) (by rfl) (wpAny_pure (wpAny_pure ?_)))
    have := h h2 F2 (fun p hp => N2 p (List.Mem.tail _ hp))
    simpa using this
theorem merged1 {f : Value} {y : Sem Value} {py : Pos} {Q : Addr → Shared → Prop} {k : Str} {hsh : Int} {tk : Tok} {v : Value} {n : Nat} (F : Fr h₀ L s.heap m) (N : News h₀ L s.heap news) (hD : (D, dictOf [⟨hsh, .str k tk, v⟩] n) ∈ news) (hne : (D == sysModules) = false)
    (hy : ∀ (s : Shared) (Q : Value → Shared → Prop), Fr h₀ L s.heap m → Q (.ref D) s → wpAny (model prog w) A y Q E s)
    (h : ∀ d h', Fr h₀ L h' m → News h₀ L h' ((d, dictOf [⟨hsh, .str k tk, v⟩] 1) :: news) → Q d { s with heap := h' }) :
    wpAny (model prog w) A (mergedKeywords f [(none, (do let v ← y; standAt py; pure v))]) Q E s := by
  unfold mergedKeywords
  have F1 := F.push (dictOf [] 0)
  have N1 := News.push F N (dictOf [] 0) rfl
  have lt : ∀ p ∈ news, p.1 ≠ s.heap.objs.size := fun p hp => Nat.ne_of_lt (Heap.lt_size (N p hp).1)
  refine wpAny_bind (wpAny_alloc (wpAny_bind (wpAny_holding ?_)))
  dsimp only
  have hd : (s.heap.push (dictOf [] 0)).get? s.heap.objs.size = some (dictOf [] 0) := Heap.get?_push_size _ rfl
  have hD1 : (s.heap.push (dictOf [] 0)).get? D = some (dictOf [⟨hsh, .str k tk, v⟩] n) := (N1 _ (List.Mem.tail _ hD)).1
  refine wpAny_bind ?_
  rw [List.forIn_cons]
  refine wpAny_bind ?_
  dsimp only
  refine wpAny_bind (wpAny_of_eq (a := ()) (by rfl) ?_)
  refine wpAny_bind (wpAny_bind (hy _ _ F1 (wpAny_bind (wpAny_standAt (wpAny_pure ?_)))))
  refine wpAny_bind (wpAny_onRaise (wpAny_holding (wpAny_tryCatch (wpAny_onRaise (merge1 hd hD1 (fun e => lt _ hD e.symm) hne ?_)))))
  refine wpAny_pure ?_
  show wpAny _ _ (forIn [] _ _) _ _ _
  rw [List.forIn_nil]
  refine wpAny_pure ?_
  refine wpAny_of_eq (a := ()) (by rfl) ?_
  have U := news_upd (pre := []) (f := Obj.mapDictKeys (·.push ⟨hsh, .str k tk, v⟩)) (o' := dictOf [⟨hsh, .str k tk, v⟩] 1) F1 N1 (fun _ hp => nomatch hp) lt rfl rfl
  exact wpAny_pure (h _ _ U.1 U.2)
theorem starArgs1 {f : Value} {x y : Sem Value} {px py : Pos} {vs : List Value} {n n' : Nat} {k : Str} {hsh : Int} {tk : Tok} {v : Value} {Q : Args → Shared → Prop} (F : Fr h₀ L s.heap m) (N : News h₀ L s.heap news) (hC : (C, ({ cls := .type "tuple", data := .seq vs.toArray n } : Obj)) ∈ news) (hD : (D, dictOf [⟨hsh, .str k tk, v⟩] n') ∈ news) (hne : (D == sysModules) = false) (hz : vs.length ≤ sizeLine)
    (hx : ∀ (s : Shared) (Q : Value → Shared → Prop), Fr h₀ L s.heap m → Q (.ref C) s → wpAny (model prog w) A x Q E s) (hy : ∀ (s : Shared) (Q : Value → Shared → Prop), Fr h₀ L s.heap m → Q (.ref D) s → wpAny (model prog w) A y Q E s)
    (h : ∀ h', Fr h₀ L h' m → News h₀ L h' news → Q ⟨vs, [(k, v)]⟩ { s with heap := h' }) :
    wpAny (model prog w) A (evalArgs f true [(true, (do let v ← x; standAt px; pure v))] [(none, (do let v ← y; standAt py; pure v))]) Q E s := by
  unfold evalArgs
  refine wpAny_bind (wpAny_bind (hx _ _ F (wpAny_bind (wpAny_standAt (wpAny_pure (wpAny_bind (wpAny_pure ?_)))))))
  refine wpAny_holding ?_
  dsimp only
  rw [if_neg (by simp)]
  refine wpAny_bind (merged1 F N hD hne hy fun d h' F' N' => ?_)
  have st := star_seq (prog := prog) (w := w) (A := A) (E := E) (s := { s with heap := h' }) (Q := fun ws s₂ => wpAny (model prog w) A (do let kw ← holding (Value.ref d :: ws) (keywordsIn f d); pure (⟨ws, kw⟩ : Args)) Q E s₂) F' N' (List.Mem.tail _ hC) rfl rfl (Or.inr rfl) rfl (by rw [List.size_toArray]; exact hz) (fun h2 F2 N2 => ?_)
  · unfold StarOf at st
    refine wpAny_bind (wpAny_bind (wpAny_mono st (fun b s₂ h₂ => ?_) fun _ _ x => x))
    obtain ⟨rfl, h₂⟩ := h₂
    rw [if_neg Bool.false_ne_true]
    exact wpAny_holding h₂
  · have hd := (N2 _ (List.Mem.head _)).1
    unfold keywordsIn
    refine wpAny_bind (wpAny_holding (wpAny_bind (wpAny_dictEntries hd rfl ?_)))
    refine wpAny_bind (wpAny_of_eq (a := ([(k, v)] : List (Str × Value))) (by rfl) (wpAny_pure (wpAny_pure ?_)))
    have := h h2 F2 (fun p hp => N2 p (List.Mem.tail _ hp))
    simpa using this
end
end Mine
end
section
open PySem PySem.W PyProof.Rows
theorem Mine.cut_NKw : True ∧ True := by
  w_top off
  walk1
  all_goals exact True.intro
end

/- NSet -/
section
open PySem PySem.W PyProof.Rows PySem.Calls
set_option Elab.async false
set_option maxRecDepth 100000
namespace Mine
section
variable {prog : Program} {w : World} {A : Around} {E : Value → Shared → Prop} {s : Shared} {h₀ : Heap} {L D : Addr} {m : Str → Option Value} {news news' : List (Addr × Obj)} {vs : List Value} {n : Nat} {k : Int} {t : Tok} {v : Value}
/-- an item of a list of any values is set -/
theorem set_any {Q : Unit → Shared → Prop} (F : Fr h₀ L s.heap m) (N : News h₀ L s.heap news) (U : Upd D (listOf vs.toArray n) (listOf (vs.set k.toNat v).toArray n) news news') (h0 : 0 ≤ k) (h1 : k < vs.length) (hfit : k < 2 ^ 63)
    (h : ∀ h', Fr h₀ L h' m → News h₀ L h' news' → Q () { s with heap := h' }) :
    wpAny (model prog w) A (setItem (.ref D) (.int k t) v) Q E s := by
  obtain ⟨pre, post, rfl, rfl, a, b⟩ := U.split
  have z := N (D, listOf vs.toArray n) (List.mem_append.mpr (.inr (.head _)))
  refine ki_setAt z.1 h0 hfit (by rw [List.size_toArray]; omega) (h _ (F.change (Heap.SameBut.update ..) z.2.1 z.2.2) (ki_turn _ N a b ?_ ?_))
  · show vs.toArray.setIfInBounds k.toNat v = (vs.set k.toNat v).toArray
    apply Array.toList_inj.mp
    simp
  · simp
theorem set_cons {o : Obj} {Q : Unit → Shared → Prop} (F : Fr h₀ L s.heap m) (N : News h₀ L s.heap ((D, o) :: news)) (ho : o = listOf vs.toArray n) (hne : ∀ p ∈ news, p.1 < D) (h0 : 0 ≤ k) (h1 : k < vs.length) (hfit : k < 2 ^ 63)
    (h : ∀ h', Fr h₀ L h' m → News h₀ L h' ((D, listOf (vs.set k.toNat v).toArray n) :: news) → Q () { s with heap := h' }) :
    wpAny (model prog w) A (setItem (.ref D) (.int k t) v) Q E s := by
  subst ho
  have z := N _ (.head _)
  refine ki_setAt z.1 h0 hfit (by rw [List.size_toArray]; omega) (h _ (F.change (Heap.SameBut.update ..) z.2.1 z.2.2) (ki_turn (pre := []) _ N (fun _ hp => nomatch hp) (fun p hp => Nat.ne_of_lt (hne p hp)) ?_ ?_))
  · show vs.toArray.setIfInBounds k.toNat v = (vs.set k.toNat v).toArray
    apply Array.toList_inj.mp
    simp
  · simp
end
end Mine
end
section
open PySem PySem.W PyProof.Rows
theorem Mine.cut_NSet : True ∧ True := by
  w_top off
  walk1
  all_goals exact True.intro
end

/- NSal -/
section
open PySem PySem.W PyProof.Rows PySem.Calls
set_option Elab.async false
set_option maxRecDepth 100000
set_option pp.deepTerms false
set_option pp.maxSteps 6000
namespace Mine
local macro_rules | `(tactic| k_steps) => `(tactic| repeat' (first | (k_end; wrow_close) | (walk1; all_goals (try ((with_reducible show wpAny _ _ (exec _ _) _ _ _); with_reducible refine foldF ?_; intro qF))) | (k_unfold; (try dsimp only)) | (dsimp only; walk1; all_goals (try ((with_reducible show wpAny _ _ (exec _ _) _ _ _); with_reducible refine foldF ?_; intro qF))) | (leave1; walk_say "STEP leave1"; try dsimp only) | fail "no step"))
theorem fill_sal : ∀ w : World, (hd.heap_39 w.params) = (hd.heap_39 w.params) ∧ PySem.Challenge.rw_nb0114_01.row.prog = PySem.Challenge.rw_nb0114_01.row.prog := by
  k_fill
  exact fun _ => ⟨rfl, rfl⟩
section
variable {w : World} {p : Program} {loose : List Str} {mean : ExcName → Option Value} {mg mb : Str → Option Value} {dp un : Nat} {gd : Option (List Code)} {cn : Str} {cs : Scope} {a : Addr} {ccd : Value} {cl : List (Str × Addr)} {outer : List Env} {A₀ : Around} {base h₀ : Heap} {L : Addr} {m : Str → Option Value} {news : List (Addr × Obj)} {s : Shared} {Q E : Value → Shared → Prop}
local macro_rules | `(tactic| walk_at "call type:str") => `(tactic| (k_here; (with_reducible show wpAny _ _ (call (Value.type "str") [Value.int _ _]) _ _ _); (rename WholeIs _ _ => hw9); refine str_small (whole_lt hw9.out (by omega)).2 ?_; intro d9 hd9 hl9; (try dsimp only); (try k_fold); skip))
local macro_rules | `(tactic| walk_at "setItem ref int") => `(tactic| (refine Halt.out ?_))
local macro_rules | `(tactic| walk_at "call builtin:str.join") => `(tactic| (refine Halt.out ?_))

/-- signs of the plain kind -/
def Asc (x : Str) : Prop := ∀ c ∈ x.cps.toList, 32 ≤ c ∧ c ≤ 126
/-- a plain law, proved apart -/
def IntLaw : Prop := ∀ x, Asc x → x.length ≤ 14 → PySem.intText? x = wholeF x
def SplitLaw : Prop := ∀ x, Asc x → ∀ r ∈ Txt.split x (Str.ofString "."), Asc r
structure SplitIs (y b : Str) (rest : List (Str × Tok)) : Prop where
  out : Txt.split y (Str.ofString ".") = b :: rest.map (·.1)
  len : b.length ≤ y.length
  lens : ∀ p ∈ rest, p.1.length ≤ y.length
  count : rest.length ≤ y.length + 1
  asc : Asc b
theorem SplitIs.small {y b : Str} {rest : List (Str × Tok)} (h : SplitIs y b rest) : ∀ c ∈ b.cps.toList, c < 16 ^ 8 := fun c hc => Nat.lt_of_le_of_lt (h.asc c hc).2 (by decide)
theorem splitIs_of {y : Str} {ll : List (Str × Tok)} (h : ll.map (·.1) = Txt.split y (Str.ofString ".")) (hl : ∀ a ∈ ll.map (·.1), a.length ≤ y.length) (hSL : SplitLaw) (ay : Asc y) : ∃ b tb rest, ll = (b, tb) :: rest ∧ SplitIs y b rest := by
  cases ll with
  | nil =>
    have := PyProof.Rows.split_pos y (Str.ofString ".")
    rw [← h] at this
    simp at this
  | cons q rest =>
    obtain ⟨b, tb⟩ := q
    refine ⟨b, tb, rest, rfl, h.symm, hl b (by simp), fun p hp => hl p.1 (by simp only [List.map_cons, List.mem_cons, List.mem_map]; exact Or.inr ⟨p, hp, rfl⟩), ?_, ?_⟩
    · have := PyProof.Rows.split_le y (Str.ofString ".")
      rw [← h] at this
      simp only [List.length_map, List.length_cons] at this
      omega
    · exact hSL y ay b (by rw [← h]; simp)

/-- partition against split: a plain law, proved apart -/
def PartLaw : Prop := ∀ (y b : Str) (rs : List Str), Txt.split y (Str.ofString ".") = b :: rs → (Txt.partition y (Str.ofString ".")).1 = b ∧ b ++ (Txt.partition y (Str.ofString ".")).2.1 ++ (Txt.partition y (Str.ofString ".")).2.2 = y ∧ ∀ d : Str, d ++ (Txt.partition y (Str.ofString ".")).2.1 ++ (Txt.partition y (Str.ofString ".")).2.2 = Txt.join (Str.ofString ".") (d :: rs)
structure JoinedS (o d : Str) (rest : List (Str × Tok)) : Prop where
  out : o = Txt.join (Str.ofString ".") (d :: rest.map (·.1))
theorem sum_len9 {k : Nat} : ∀ {qs : List Str}, (∀ r ∈ qs, r.length ≤ k) → (qs.map (·.length)).sum ≤ k * qs.length
  | [], _ => by simp
  | q :: qs, h => by
    have h1 := h q (List.mem_cons_self ..)
    have h2 := sum_len9 (qs := qs) fun r hr => h r (List.mem_cons_of_mem _ hr)
    simp only [List.map_cons, List.sum_cons, List.length_cons, Nat.mul_succ]
    omega
theorem joinS {prog : Program} {A : Around} {D : Addr} {d : Str} {td t : Tok} {rest : List (Str × Tok)} {o : Obj} (N : News h₀ L s.heap news) (hm : (D, o) ∈ news) (ho : o = listOf (Value.str d td :: strValues rest).toArray 0) (hd : d.length ≤ 30) (hr : ∀ p ∈ rest, p.1.length ≤ 14) (hc : rest.length ≤ 16)
    (h : ∀ o t' k, JoinedS o d rest → o.length ≤ 400 → Q (.str o t') { s with toks := k }) : wpAny (model prog w) A (call (.builtin "str.join") [.str (Str.ofString ".") t, .ref D]) Q E s := by
  subst ho
  have hsa : StrsAre (Value.str d td :: strValues rest) (d :: rest.map (·.1)) := StrsAre.cons _ _ (strsAre_of_values rest)
  have hs1 := sum_len9 (k := 14) (qs := rest.map (·.1)) fun r hr' => by obtain ⟨p, hp, rfl⟩ := List.mem_map.mp hr'; exact hr p hp
  rw [List.length_map] at hs1
  have hsum : ((d :: rest.map (·.1)).map (·.length)).sum ≤ 300 := by
    simp only [List.map_cons, List.sum_cons]
    omega
  refine join_listW (items := (Value.str d td :: strValues rest).toArray) ⟨_, (N _ hm).1, rfl, 0, rfl⟩ (by simpa using hsa) (by decide +kernel) (by simp only [List.length_cons, List.length_map]; omega) fun t' k => h _ t' k ⟨rfl⟩ ?_
  have := StrLaws.join_length_le (Str.ofString ".") (d :: rest.map (·.1))
  have e2 : (Str.ofString ".").length = 1 := by decide +kernel
  rw [e2] at this
  unfold Txt.join
  rw [StrLaws.glued_eq_join]
  simp only [List.length_cons, List.length_map] at this
  omega
abbrev tup3 (t : Str × Str × Str) (ta tb tc : Tok) : Obj := { cls := .type "tuple", data := .seq #[Value.str t.1 ta, .str t.2.1 tb, .str t.2.2 tc] }
theorem sun_not_win {x : Str} (h : (x == Str.ofString "SunOS") = true) : ([Str.ofString "win32", Str.ofString "win16"].any fun y => y == x) = false := by
  rw [beq_iff_eq.mp h]; decide +kernel
theorem sal1 {x y z : Str} (h1 : (x == Str.ofString "SunOS") = true) (h2 : y.cps.toList < (Str.ofString "5").cps.toList) : aliasF x y z = (x, y, z) := by
  unfold aliasF
  rw [if_neg (by rw [sun_not_win h1]; exact Bool.false_ne_true), if_neg (by rw [bne, h1]; decide), if_pos h2]
theorem sal2 {x y z b o d : Str} {i : Int} {rest : List (Str × Tok)} (hPL : PartLaw) (h1 : (x == Str.ofString "SunOS") = true) (h2 : ¬ y.cps.toList < (Str.ofString "5").cps.toList) (hB : SplitIs y b rest) (hw : WholeIs b (some i)) (hd : TextOf d (i - 3)) (hj : JoinedS o d rest) : aliasF x y z = (Str.ofString "Solaris", o, z) := by
  obtain ⟨p1, p2, p3⟩ := hPL y b _ hB.out
  unfold aliasF
  rw [if_neg (by rw [sun_not_win h1]; exact Bool.false_ne_true), if_neg (by rw [bne, h1]; decide), if_neg h2, p1, hw.out, hj.out, ← p3 d, hd.out]
theorem sal3 {x y z b : Str} {rest : List (Str × Tok)} (hPL : PartLaw) (h1 : (x == Str.ofString "SunOS") = true) (h2 : ¬ y.cps.toList < (Str.ofString "5").cps.toList) (hB : SplitIs y b rest) (hw : WholeIs b none) : aliasF x y z = (Str.ofString "Solaris", y, z) := by
  obtain ⟨p1, p2, p3⟩ := hPL y b _ hB.out
  unfold aliasF
  rw [if_neg (by rw [sun_not_win h1]; exact Bool.false_ne_true), if_neg (by rw [bne, h1]; decide), if_neg h2, p1, hw.out]
  show (_, b ++ _ ++ _, z) = _
  rw [p2]
theorem sal4 {x y z : Str} (h1 : ([Str.ofString "win32", Str.ofString "win16"].any fun y => y == x) = true) : aliasF x y z = (Str.ofString "Windows", y, z) := aliasF_1 h1
theorem sal5 {x y z : Str} (h1 : (x == Str.ofString "SunOS") = false) (h2 : ([Str.ofString "win32", Str.ofString "win16"].any fun y => y == x) = false) : aliasF x y z = (x, y, z) := by
  unfold aliasF
  rw [if_neg (by rw [h2]; exact Bool.false_ne_true), if_pos (by rw [bne, h1]; rfl)]
theorem end_tup {t : Str × Str × Str} {a1 a2 a3 : Str} {ta tb tc : Tok} {g h' : Heap} {nw : List (Addr × Obj)} {r : Addr} {tk' : Nat} {Q : Value → Shared → Prop}
    (ret : ∀ r ta tb tc h₀' h' tk', KtsTurn (fsOf outer) h₀ h₀' → Fr h₀' L h' m → News h₀' L h' ((r, tup3 t ta tb tc) :: news) → (∀ p ∈ news, p.1 < r) → Below A₀ base outer h₀' → (hd.heap_39 w.params).In h₀' → Top p loose mean mg mb h₀' → KtsDicts (fsOf outer) h₀' → Q (.ref r) { s with heap := h', toks := tk' })
    (hT : KtsTurn (fsOf outer) h₀ g) (F : Fr g L h' m) (N : News g L h' nw) (hm : (r, tup3 (a1, a2, a3) ta tb tc) ∈ nw) (hs : ∀ p ∈ news, p ∈ nw) (hlt : ∀ p ∈ news, p.1 < r) (B : Below A₀ base outer g) (X : (hd.heap_39 w.params).In g) (T : Top p loose mean mg mb g) (D : KtsDicts (fsOf outer) g) (e : t = (a1, a2, a3)) : Q (.ref r) { s with heap := h', toks := tk' } := by
  subst e
  exact ret r ta tb tc g h' tk' hT F (fun p hp => by
    rcases List.mem_cons.mp hp with rfl | hp
    · exact N _ hm
    · exact N p (hs p hp)) hlt B X T D
set_option maxHeartbeats 8000000 in
theorem cs_sal {x y z : Str} {tx ty tz : Tok} (B : Below A₀ base outer h₀) (F : Fr h₀ L s.heap m) (X : (hd.heap_39 w.params).In h₀) (N : News h₀ L s.heap news) (T : Top p loose mean mg mb h₀) (hk : cs.kind = .function) (hdp : dp + 6 < recursionLimit) (hun : un + 60 < cLine) (XB : (hd.heap_39 w.params).In base) (TB : Top p loose mean mg mb base) (D : KtsDicts (fsOf outer) h₀) (hIL : IntLaw) (hSL : SplitLaw) (hPL : PartLaw) (ay : Asc y) (hx : x.length ≤ 14) (hy : y.length ≤ 14) (hz : z.length ≤ 14) (ret : ∀ r ta tb tc h₀' h' tk', KtsTurn (fsOf outer) h₀ h₀' → Fr h₀' L h' m → News h₀' L h' ((r, tup3 (aliasF x y z) ta tb tc) :: news) → (∀ p ∈ news, p.1 < r) → Below A₀ base outer h₀' → (hd.heap_39 w.params).In h₀' → Top p loose mean mg mb h₀' → KtsDicts (fsOf outer) h₀' → Q (.ref r) { s with heap := h', toks := tk' }) :
    wpC (model PySem.Challenge.rw_nb0114_01.row.prog w) (ktrTop dp un gd cn cs L a ccd [] outer) (call (.ref 57) [.str x tx, .str y ty, .str z tz] []) Q NoE s := by

  refine C_call ?_
  refine' enterS (cn := cn) (cs := cs) (L := L) (a := a) (ccd := ccd) (outer := outer) ?k1 ?k2 ?k3 ?k4 ?k5 ?XB ?TB ?kD ?kA ?kK ?k6 ?k7 ?k8 ?k9 ?kB ?_ ?c2 ?c3 ?c4 ?c5
  case XB => assumption
  case TB => assumption
  case kD => assumption
  case kA => exact rfl
  case kK => assumption
  case k1 => k_asm
  case k2 => k_asm
  case k3 => k_asm
  case k4 => k_asm
  case k5 => k_asm
  case k6 => k_is
  case k7 => k_is
  case k8 => ktr_room
  case k9 => exact BindsTo.of_eq rfl
  case c5 => decide
  case kB => exact locs rfl
  case c2 => exact rfl
  case c3 => exact rfl
  case c4 => exact rfl
  intro g' L' h' FG' F' N' B' X' T' D'
  have hlt : ∀ p ∈ news, p.1 < h'.objs.size := fun p hp => Heap.lt_size (N' p hp).1
  (try dsimp only)
  (try k_lift B')
  (try k_fold)
  refine C_execs_cons (C_If (C_any ?_))
  k_steps
  · refine C_execs_cons (C_If (C_any ?_))
    k_steps
    · refine C_any ?_
      k_steps
      refine' end_tup ret ?t1 ?t2 ?t3 ?t4 ?t5 ?t6 ?t7 ?t8 ?t9 ?t10 ?t11
      case t3 => k_asm
      case t2 => k_asm
      case t1 => first | assumption | exact KtsTurn.refl
      case t4 => exact List.Mem.head _
      case t5 => exact fun p hp => by repeat (first | exact hp | apply List.Mem.tail)
      case t6 => (intro p hp; first | (rename ∀ (p : Addr × Obj), p ∈ _ → p.fst < _ => q; exact q p hp) | (rename AllLt _ _ => q; exact ktn_ltOf q p hp) | (rename _ < _ ∧ AllLt _ _ => q; exact ktn_ltOf q.2 p hp) | (rename _ < _ ∧ _ < _ ∧ AllLt _ _ => q; exact ktn_ltOf q.2.2 p hp) | (rename _ < _ ∧ _ < _ ∧ _ < _ ∧ AllLt _ _ => q; exact ktn_ltOf q.2.2.2 p hp))
      case t7 => assumption
      case t8 => assumption
      case t9 => assumption
      case t10 => assumption
      case t11 => first | exact sal1 (by assumption) (by assumption) | exact sal2 hPL (by assumption) (by assumption) hB (by assumption) (by assumption) (by assumption) | exact sal3 hPL (by assumption) (by assumption) hB (by assumption) | exact sal4 (by assumption) | exact sal5 (by assumption) (by assumption)
    · refine C_any ?_
      k_steps
      refine C_execs_cons (C_any ?_)
      k_steps
      rename List.map _ _ = Txt.split _ _ => hsp
      rename ∀ (a : Str), a ∈ _ → a.length ≤ _ => hlen
      rename List (Str × Tok) => ll
      obtain ⟨b, tb, rest, rfl, hB⟩ := splitIs_of hsp hlen hSL ay
      clear hsp hlen
      rename StrsAre _ _ => hsa
      clear hsa
      rename Heap.IsList _ _ _ => hil
      clear hil
      have hbl := hB.len
      refine C_execs_cons (C_If (C_any ?_))
      k_steps
      refine kgr_truthy (vs := .str b tb :: strValues rest) (by k_asm) (List.Mem.head _) rfl rfl ?_ ?_
      · have hc := hB.count
        simp only [List.length_cons, strValues, List.length_map]
        omega
      · rw [if_pos (by rfl)]
        refine C_execs_cons ?_
        refine C_Try ?_
        refine C_execs_cons ?_
        refine C_Assign_Name ?_ (by rfl)
        refine C_CallName ?_
        k_steps
        refine C_callType (C_any ?_) (by rfl)
        k_steps
        cases hi : PySem.intText? b with
        | some i =>
          have hw9 : WholeIs b (some i) := ⟨(hIL b hB.asc (Nat.le_trans hB.len hy)).symm.trans hi⟩
          refine C_any (KIN.call_text hi (by omega) ?_)
          clear hi
          k_steps
          refine C_any ?_
          k_steps
          refine C_any ?_
          k_steps
          unfold Halt
          refine' set_cons (vs := .str b tb :: strValues rest) (by k_asm) ?s1 rfl ?s2 (by decide) ?s3 (by decide) ?_
          case s1 => k_asm
          case s2 => exact hlt
          case s3 => simp only [List.length_cons]; omega
          intro h7 F7 N7
          k_steps
          unfold Halt
          refine' joinS (rest := rest) (by k_asm) (List.Mem.head _) rfl (by assumption) ?j1 ?j2 ?_
          case j1 => exact fun p hp => Nat.le_trans (hB.lens p hp) hy
          case j2 => have := hB.count; omega
          intro o7 t7 k7 hj7 hl7
          k_steps
          refine C_any ?_
          k_steps
          refine C_any ?_
          k_steps
          all_goals (try dsimp only)
          all_goals (refine C_any ?_; k_steps)
          all_goals (
            refine' end_tup ret ?t1 ?t2 ?t3 ?t4 ?t5 ?t6 ?t7 ?t8 ?t9 ?t10 ?t11
            case t3 => k_asm
            case t2 => k_asm
            case t1 => first | assumption | exact KtsTurn.refl
            case t4 => exact List.Mem.head _
            case t5 => exact fun p hp => by repeat (first | exact hp | apply List.Mem.tail)
            case t6 => (intro p hp; first | (rename ∀ (p : Addr × Obj), p ∈ _ → p.fst < _ => q; exact q p hp) | (rename AllLt _ _ => q; exact ktn_ltOf q p hp) | (rename _ < _ ∧ AllLt _ _ => q; exact ktn_ltOf q.2 p hp) | (rename _ < _ ∧ _ < _ ∧ AllLt _ _ => q; exact ktn_ltOf q.2.2 p hp) | (rename _ < _ ∧ _ < _ ∧ _ < _ ∧ AllLt _ _ => q; exact ktn_ltOf q.2.2.2 p hp))
            case t7 => assumption
            case t8 => assumption
            case t9 => assumption
            case t10 => assumption
            case t11 => first | exact sal1 (by assumption) (by assumption) | exact sal2 hPL (by assumption) (by assumption) hB (by assumption) (by assumption) (by assumption) | exact sal3 hPL (by assumption) (by assumption) hB (by assumption) | exact sal4 (by assumption) | exact sal5 (by assumption) (by assumption))
        | none =>
          have hw9 : WholeIs b none := ⟨(hIL b hB.asc (Nat.le_trans hB.len hy)).symm.trans hi⟩
          refine C_int_fail rfl (by omega) hB.small hi ?_
          clear hi
          intro h8 tk8 e8 v8 hm8
          refine' caughtOwn (KF := hd.heap_39 w.params) (X := "ValueError") (T' := "ValueError") hm8 ?q1 ?q2 ?q3 XB TB ?q4 ?q5 ?q6 ?q7 ?q8 ?q9 ?q10 ?_ PassesOwnAt.never (by rfl) (by rfl) (by decide)
          case q1 => k_asm
          case q2 => k_asm
          case q3 => k_asm
          case q4 => assumption
          case q5 => k_is
          case q6 => boot_fact
          case q7 => decide
          case q8 => (rw [isSubtype_type]; kernel_rfl!)
          case q9 => (rw [isSubtype_type]; kernel_rfl!)
          case q10 => (rw [isSubtype_type]; kernel_rfl!)
          clear hm8
          intro h9 g9 hT9 F9 N9 B9 X9 T9 D9
          k_steps
          dsimp only
          refine C_any ?_
          k_steps
          refine C_any ?_
          k_steps
          all_goals (try dsimp only)
          all_goals (refine C_any ?_; k_steps)
          all_goals (
            refine' end_tup ret ?t1 ?t2 ?t3 ?t4 ?t5 ?t6 ?t7 ?t8 ?t9 ?t10 ?t11
            case t3 => k_asm
            case t2 => k_asm
            case t1 => first | assumption | exact KtsTurn.refl
            case t4 => exact List.Mem.head _
            case t5 => exact fun p hp => by repeat (first | exact hp | apply List.Mem.tail)
            case t6 => (intro p hp; first | (rename ∀ (p : Addr × Obj), p ∈ _ → p.fst < _ => q; exact q p hp) | (rename AllLt _ _ => q; exact ktn_ltOf q p hp) | (rename _ < _ ∧ AllLt _ _ => q; exact ktn_ltOf q.2 p hp) | (rename _ < _ ∧ _ < _ ∧ AllLt _ _ => q; exact ktn_ltOf q.2.2 p hp) | (rename _ < _ ∧ _ < _ ∧ _ < _ ∧ AllLt _ _ => q; exact ktn_ltOf q.2.2.2 p hp))
            case t7 => assumption
            case t8 => assumption
            case t9 => assumption
            case t10 => assumption
            case t11 => first | exact sal1 (by assumption) (by assumption) | exact sal2 hPL (by assumption) (by assumption) hB (by assumption) (by assumption) (by assumption) | exact sal3 hPL (by assumption) (by assumption) hB (by assumption) | exact sal4 (by assumption) | exact sal5 (by assumption) (by assumption))
  · refine C_any ?_
    k_steps
    all_goals (refine C_any ?_; k_steps)
    all_goals (
      refine' end_tup ret ?t1 ?t2 ?t3 ?t4 ?t5 ?t6 ?t7 ?t8 ?t9 ?t10 ?t11
      case t3 => k_asm
      case t2 => k_asm
      case t1 => first | assumption | exact KtsTurn.refl
      case t4 => exact List.Mem.head _
      case t5 => exact fun p hp => by repeat (first | exact hp | apply List.Mem.tail)
      case t6 => (intro p hp; first | (rename ∀ (p : Addr × Obj), p ∈ _ → p.fst < _ => q; exact q p hp) | (rename AllLt _ _ => q; exact ktn_ltOf q p hp) | (rename _ < _ ∧ AllLt _ _ => q; exact ktn_ltOf q.2 p hp) | (rename _ < _ ∧ _ < _ ∧ AllLt _ _ => q; exact ktn_ltOf q.2.2 p hp) | (rename _ < _ ∧ _ < _ ∧ _ < _ ∧ AllLt _ _ => q; exact ktn_ltOf q.2.2.2 p hp))
      case t7 => assumption
      case t8 => assumption
      case t9 => assumption
      case t10 => assumption
      case t11 => first | exact sal1 (by assumption) (by assumption) | exact sal2 hPL (by assumption) (by assumption) hB (by assumption) (by assumption) (by assumption) | exact sal3 hPL (by assumption) (by assumption) hB (by assumption) | exact sal4 (by assumption) | exact sal5 (by assumption) (by assumption))
end
end Mine
end
section
open PySem PySem.W PyProof.Rows
theorem Mine.cut_NSal : True ∧ True := by
  w_top off
  walk1
  all_goals exact True.intro
end

/- NCall -/
section
open PySem PySem.W PyProof.Rows PySem.Calls
set_option Elab.async false
set_option maxRecDepth 100000
set_option pp.deepTerms false
set_option pp.maxSteps 6000
namespace Mine
theorem fill_call : ∀ w : World, (hd.heap_39 w.params) = (hd.heap_39 w.params) ∧ PySem.Challenge.rw_nb0114_01.row.prog = PySem.Challenge.rw_nb0114_01.row.prog := by
  k_fill
  exact fun _ => ⟨rfl, rfl⟩
section
variable {w : World} {p : Program} {loose : List Str} {mean : ExcName → Option Value} {mg mb : Str → Option Value} {dp un : Nat} {gd : Option (List Code)} {cn : Str} {cs : Scope} {a : Addr} {ccd : Value} {cl : List (Str × Addr)} {outer : List Env} {A₀ : Around} {base h₀ : Heap} {L : Addr} {m : Str → Option Value} {news : List (Addr × Obj)} {s : Shared} {Q E : Value → Shared → Prop}
set_option maxHeartbeats 8000000 in
theorem cs_call_sal {x y z : Str} {tx ty tz : Tok} (B : Below A₀ base outer h₀) (F : Fr h₀ L s.heap m) (X : (hd.heap_39 w.params).In h₀) (N : News h₀ L s.heap news) (T : Top p loose mean mg mb h₀) (hk : cs.kind = .function) (hdp : dp + 9 < recursionLimit) (hun : un + 90 < cLine) (XB : (hd.heap_39 w.params).In base) (TB : Top p loose mean mg mb base) (D : KtsDicts (fsOf outer) h₀) (hIL : IntLaw) (hSL : SplitLaw) (hPL : PartLaw) (ay : Asc y) (hx : x.length ≤ 14) (hy : y.length ≤ 14) (hz : z.length ≤ 14) (ret : ∀ r ta tb tc h₀' h' tk', KtsTurn (fsOf outer) h₀ h₀' → Fr h₀' L h' m → News h₀' L h' ((r, tup3 (aliasF x y z) ta tb tc) :: news) → (∀ p ∈ news, p.1 < r) → Below A₀ base outer h₀' → (hd.heap_39 w.params).In h₀' → Top p loose mean mg mb h₀' → KtsDicts (fsOf outer) h₀' → Q (.ref r) { s with heap := h', toks := tk' }) :
    wpC (model PySem.Challenge.rw_nb0114_01.row.prog w) (ktrTop dp un gd cn cs L a ccd [] outer) (call (.ref 42) [.ref 57, .str x tx, .str y ty, .str z tz] []) Q NoE s := by

  refine C_call ?_
  refine' enterBothS (cn := cn) (cs := cs) (L := L) (a := a) (ccd := ccd) (outer := outer) (ex := []) ?k1 ?k2 ?k3 ?k4 ?k5 ?XB ?TB ?kD ?kA ?kK ?k6 ?k7 ?k8 ?kP ?kS ?kN ?kT ?kB ?_ ?c2 ?c3 ?c4 ?c5
  case XB => assumption
  case TB => assumption
  case kD => assumption
  case kA => exact rfl
  case kK => assumption
  case k1 => k_asm
  case k2 => k_asm
  case k3 => k_asm
  case k4 => k_asm
  case k5 => k_asm
  case k6 => k_is
  case k7 => k_is
  case k8 => ktr_room
  case kP => exact rfl
  case kS => exact fun _ => rfl
  case kN => decide
  case kT => exact fun _ _ => rfl
  case kB => exact fun _ _ => locs rfl
  case c5 => decide
  case c2 => exact rfl
  case c3 => exact rfl
  case c4 => exact rfl
  intro C' D1 g' L' h' tk1 l1 l2 hne FG' F' N' B' X' T' D'
  (try dsimp only)
  (try k_lift B')
  (try k_fold)
  refine C_execs_cons ?_
  refine C_Return ?_
  refine C_CallName ?_
  k_steps
  refine C_callWith (K := hd.heap_39 w.params) (by k_is) (C_any ?_)
  refine' starArgs0 (C := C') (D := D1) (vs := [.str x tx, .str y ty, .str z tz]) (n := 0) ?a1 ?a2 ?a3 ?a4 hne ?a5 ?a6 ?a7 ?_
  case a1 => k_asm
  case a2 => k_asm
  case a3 => exact List.Mem.tail _ (List.Mem.head _)
  case a4 => exact List.Mem.head _
  case a5 => rw [sizeLine_eq]; simp
  case a6 =>
    intro s9 Q9 F9 q9
    k_steps
    exact q9
  case a7 =>
    intro s9 Q9 F9 q9
    k_steps
    exact q9
  intro h9 F9 N9
  refine ⟨X'.keeps F9.keep, ?_⟩
  refine' cs_sal ?b1 ?b2 ?b3 ?b4 ?b5 ?b6 ?b7 ?b8 XB TB ?b9 hIL hSL hPL ay hx hy hz ?_
  case b1 => k_asm
  case b2 => k_asm
  case b3 => k_asm
  case b4 => k_asm
  case b5 => k_asm
  case b6 => exact rfl
  case b7 => ktr_room
  case b8 => ktr_units
  case b9 => assumption
  intro r ta tb tc g9 h8 tk8 hT8 F8 N8 lt8 B8 X8 T8 D8
  dsimp only
  refine leaveS_r F8 N8 hT8 ?_
  intro h1 hT hF hN hB hX hTp hD
  exact ret r ta tb tc h1 h8 tk8 hT hF (fun p hp => hN p (by
    rcases List.mem_cons.mp hp with rfl | hp
    · exact List.Mem.head _
    · exact List.Mem.tail _ (List.Mem.tail _ (List.Mem.tail _ hp)))) (fun p hp => lt8 p (List.Mem.tail _ (List.Mem.tail _ hp))) hB hX hTp hD
end
end Mine
end
section
open PySem PySem.W PyProof.Rows
theorem Mine.cut_NCall : True ∧ True := by
  w_top off
  walk1
  all_goals exact True.intro
end

/- NGet -/
section
open PySem PySem.W PyProof.Rows PySem.Calls
set_option Elab.async false
set_option maxRecDepth 100000
set_option pp.deepTerms false
set_option pp.maxSteps 6000
namespace Mine
theorem fill_get : ∀ w : World, (hd.heap_39 w.params) = (hd.heap_39 w.params) ∧ PySem.Challenge.rw_nb0114_01.row.prog = PySem.Challenge.rw_nb0114_01.row.prog := by
  k_fill
  exact fun _ => ⟨rfl, rfl⟩
section
variable {w : World} {p : Program} {loose : List Str} {mean : ExcName → Option Value} {mg mb : Str → Option Value} {dp un : Nat} {gd : Option (List Code)} {cn : Str} {cs : Scope} {a : Addr} {ccd : Value} {cl : List (Str × Addr)} {outer : List Env} {A₀ : Around} {base h₀ : Heap} {L : Addr} {m : Str → Option Value} {news : List (Addr × Obj)} {s : Shared} {Q E : Value → Shared → Prop}
local macro_rules | `(tactic| walk_at "subscriptTail") => `(tactic| (refine Halt.out ?_))
local macro_rules | `(tactic| walk_at "setItem ref int") => `(tactic| (refine Halt.out ?_))
set_option maxHeartbeats 8000000 in
theorem ct_get {l : Addr} {vs : List Value} {n : Nat} {i : Int} {t : Tok} {v : Value} (B : Below A₀ base outer h₀) (F : Fr h₀ L s.heap m) (X : (hd.heap_39 w.params).In h₀) (N : News h₀ L s.heap news) (T : Top p loose mean mg mb h₀) (hk : cs.kind = .function) (hdp : dp + 3 < recursionLimit) (hun : un + 30 < cLine) (hm : (l, listOf vs.toArray n) ∈ news) (h0 : 0 ≤ i) (h1 : i < 2 ^ 63) (hv : vs[i.toNat]? = some v) (ret : ∀ h' tk', Fr h₀ L h' m → News h₀ L h' news → Q v { s with heap := h', toks := tk' }) :
    wpAny (model PySem.Challenge.rw_nb0114_01.row.prog w) (ktrTop dp un gd cn cs L a ccd cl outer) (call (.ref 28) [.ref l, .int i t] []) Q E s := by

  refine wpAny_call ?_
  k_dflt cell_enter
  rename News _ _ _ _ => lN
  have hl := PySem.IsL.isList (n := n) (lN _ hm).1
  k_steps
  unfold Halt
  refine' tail_any (T := "list") ?q1 slot_list_getitem.lookup (getItem_listL ?q2 h0 h1 hv ?_) ?q3
  case q1 => exact hl.typeIs
  case q2 => exact hl
  case q3 => with_unfolding_all rfl
  k_steps
  refine' ret _ _ ?e2 ?e3
  case e2 => k_asm
  case e3 => k_asm
set_option maxHeartbeats 8000000 in
theorem ct_set {l : Addr} {vs : List Value} {n : Nat} {i : Int} {t : Tok} {v : Value} {nw : List (Addr × Obj)} (B : Below A₀ base outer h₀) (F : Fr h₀ L s.heap m) (X : (hd.heap_39 w.params).In h₀) (N : News h₀ L s.heap news) (T : Top p loose mean mg mb h₀) (hk : cs.kind = .function) (hdp : dp + 3 < recursionLimit) (hun : un + 30 < cLine) (hU : Upd l (listOf vs.toArray n) (listOf (vs.set i.toNat v).toArray n) news nw) (h0 : 0 ≤ i) (h1 : i < 2 ^ 63) (hv : i < vs.length) (ret : ∀ h' tk', Fr h₀ L h' m → News h₀ L h' nw → Q .none { s with heap := h', toks := tk' }) :
    wpAny (model PySem.Challenge.rw_nb0114_01.row.prog w) (ktrTop dp un gd cn cs L a ccd cl outer) (call (.ref 35) [.ref l, .int i t, v] []) Q E s := by

  refine wpAny_call ?_
  k_dflt cell_enter
  k_steps
  unfold Halt
  refine' set_any (by k_asm) (by k_asm) hU h0 hv h1 ?_
  intro h7 F7 N7
  k_steps
  refine' ret _ _ ?e2 ?e3
  case e2 => k_asm
  case e3 => k_asm
end
end Mine
end
section
open PySem PySem.W PyProof.Rows
theorem Mine.cut_NGet : True ∧ True := by
  w_top off
  walk1
  all_goals exact True.intro
end

/- NSlice -/
section
open PySem PySem.W PyProof.Rows PySem.Calls
set_option Elab.async false
set_option maxRecDepth 100000
namespace Mine
namespace Sl
theorem mro_slice : mroOf (.type "slice") = pure [.type "slice", .type "object"] := by rw [mroOf_type]; kernel_rfl
theorem lookup_slice_new : typeLookup (.type "slice") "__new__" = pure (some (.builtin "slice.__new__")) := by rw [typeLookup_type, builtinLookup_eq_fast]; kernel_rfl
theorem sub_slice : isSubtype (.type "slice") (.type "slice") = pure true := by rw [isSubtype_type]; kernel_rfl
theorem slice_init : Slot "slice" "__init__" "object.__init__" :=
  .of (owner := "object") (n := "__init__") (by rw [typeLookup_type, builtinLookup_eq_fast]; kernel_rfl) (by decide +kernel) (by decide +kernel) (by decide +kernel)
    (by first | exact .inl (by decide +kernel) | exact .inr (by decide +kernel)) (by rw [isSubtype_type]; kernel_rfl)
theorem called_slice : TypeCalled "slice" "slice.__new__" "object.__init__" :=
  ⟨by decide +kernel, by decide +kernel, ⟨_, _, mro_slice⟩, madeBy_type mro_slice lookup_slice_new (by decide +kernel), by decide +kernel, sub_slice, slice_init⟩
theorem typeCall_slice_1 (a : Value) : checkTypeCall "slice" ⟨[a], []⟩ = pure () := by kernel_rfl
theorem newCall_slice_1 (a : Value) : checkBuiltinCall "slice.__new__" ⟨[.type "slice", a], []⟩ = pure () := by kernel_rfl
theorem typeCall_slice_2 (a b : Value) : checkTypeCall "slice" ⟨[a, b], []⟩ = pure () := by kernel_rfl
theorem newCall_slice_2 (a b : Value) : checkBuiltinCall "slice.__new__" ⟨[.type "slice", a, b], []⟩ = pure () := by kernel_rfl
theorem entry_slice_new : entryFor table "slice.__new__" = some Builtin.«slice.__new__» := entryFor_of_tree (by kernel_rfl)
theorem newNe_slice : (some "slice.__new__" != some "object.__new__") = true := by decide +kernel
theorem args_init_3 (a b c : Value) : argsOk "object.__init__" ⟨[a, b, c], []⟩ := by
  unfold argsOk; rw [signature?_of (id := "object.__init__") (n := ['_', '_', 't', 'i', 'n', 'i', '_', '_']) (o := ['t', 'c', 'e', 'j', 'b', 'o']) (by kernel_rfl) F.owner_object]; kernel_rfl
abbrev sliceObj (a b : Value) : Obj := { cls := .type "slice", data := .fields #[a, b, .none] }
section
variable {prog : Program} {w : World} {A : Around} {E : Value → Shared → Prop} {s : Shared}
theorem new1 (a : Value) : Meets (Builtin.«slice.__new__» ⟨[.type "slice", a], []⟩) (fun _ R s => R (.ok (.ret (.ref s.heap.objs.size))) { s with heap := s.heap.push (sliceObj .none a) }) :=
  .of_wp fun prog w A R s h => by
    have f1 := sub_slice
    obtain ⟨hp, g, d, tk, os⟩ := s
    repeat (any_goals (first | assumption | wp_step))
    all_goals first | exact ⟨_, rfl, h⟩ | skip
theorem new2 (a b : Value) : Meets (Builtin.«slice.__new__» ⟨[.type "slice", a, b], []⟩) (fun _ R s => R (.ok (.ret (.ref s.heap.objs.size))) { s with heap := s.heap.push (sliceObj a b) }) :=
  .of_wp fun prog w A R s h => by
    have f1 := sub_slice
    obtain ⟨hp, g, d, tk, os⟩ := s
    repeat (any_goals (first | assumption | wp_step))
    all_goals first | exact ⟨_, rfl, h⟩ | skip
theorem call1 {a : Value} {Q : Value → Shared → Prop} (h : Q (.ref s.heap.objs.size) { s with heap := s.heap.push (sliceObj .none a) }) : wpAny (model prog w) A (call (.type "slice") [a]) Q E s :=
  callType_new called_slice newNe_slice (typeCall_slice_1 a) (newCall_slice_1 a) (fun obj => F.args_object_init_2 obj a) entry_slice_new (new1 a) ⟨⟨_, Heap.get?_push_size _ rfl, rfl⟩, h⟩
theorem call2 {a b : Value} {Q : Value → Shared → Prop} (h : Q (.ref s.heap.objs.size) { s with heap := s.heap.push (sliceObj a b) }) : wpAny (model prog w) A (call (.type "slice") [a, b]) Q E s :=
  callType_new called_slice newNe_slice (typeCall_slice_2 a b) (newCall_slice_2 a b) (fun obj => args_init_3 obj a b) entry_slice_new (new2 a b) ⟨⟨_, Heap.get?_push_size _ rfl, rfl⟩, h⟩
end
end Sl
end Mine
end
section
open PySem PySem.W PyProof.Rows
theorem Mine.cut_NSlice : True ∧ True := by
  w_top off
  walk1
  all_goals exact True.intro
end

/- NGet2 -/
section
open PySem PySem.W PyProof.Rows PySem.Calls
set_option Elab.async false
set_option maxRecDepth 100000
set_option pp.deepTerms false
set_option pp.maxSteps 6000
namespace Mine
theorem fill_get2 : ∀ w : World, (hd.heap_39 w.params) = (hd.heap_39 w.params) ∧ PySem.Challenge.rw_nb0114_01.row.prog = PySem.Challenge.rw_nb0114_01.row.prog := by
  k_fill
  exact fun _ => ⟨rfl, rfl⟩
section
variable {w : World} {p : Program} {loose : List Str} {mean : ExcName → Option Value} {mg mb : Str → Option Value} {dp un : Nat} {gd : Option (List Code)} {cn : Str} {cs : Scope} {a : Addr} {ccd : Value} {cl : List (Str × Addr)} {outer : List Env} {A₀ : Around} {base h₀ : Heap} {L : Addr} {m : Str → Option Value} {news : List (Addr × Obj)} {s : Shared} {Q E : Value → Shared → Prop}
local macro_rules | `(tactic| walk_at "subscriptTail") => `(tactic| (refine Halt.out ?_))
set_option maxHeartbeats 8000000 in
theorem ct_get_s {sl : Addr} {x : Str} {tx t14 : Tok} (B : Below A₀ base outer h₀) (F : Fr h₀ L s.heap m) (X : (hd.heap_39 w.params).In h₀) (N : News h₀ L s.heap news) (T : Top p loose mean mg mb h₀) (hk : cs.kind = .function) (hdp : dp + 3 < recursionLimit) (hun : un + 30 < cLine) (hm : (sl, Sl.sliceObj .none (.int 14 t14)) ∈ news) (hx : x.length ≤ 1000) (ret : ∀ t h' tk', Fr h₀ L h' m → News h₀ L h' news → Q (.str (Txt.slice x none (some 14)) t) { s with heap := h', toks := tk' }) :
    wpAny (model PySem.Challenge.rw_nb0114_01.row.prog w) (ktrTop dp un gd cn cs L a ccd cl outer) (call (.ref 28) [.str x tx, .ref sl] []) Q E s := by

  refine wpAny_call ?_
  k_dflt cell_enter
  rename News _ _ _ _ => lN
  have hl := (lN _ hm).1
  k_steps
  unfold Halt
  refine' tail_any (T := "str") ?q1 PySem.F.slot_str_getitem.lookup (wpAny_getItem_str_slice (l := none) (u := some (14, t14)) (st := none) ⟨_, hl, rfl, rfl⟩ rfl ?_) ?q3
  case q1 => exact typeIs_str _ _ _
  case q3 => with_unfolding_all rfl
  refine post_val_or_str ⟨Nat.le_trans (Txt.slice_le x _ _) (by rw [sizeLine_eq]; omega), fun t' k => ?_⟩
  k_steps
  refine' ret _ _ _ ?e2 ?e3
  case e2 => k_asm
  case e3 => k_asm
set_option maxHeartbeats 8000000 in
theorem ct_get_l {l sl : Addr} {vs : List Value} {n : Nat} {i j : Int} {t1 t2 : Tok} (B : Below A₀ base outer h₀) (F : Fr h₀ L s.heap m) (X : (hd.heap_39 w.params).In h₀) (N : News h₀ L s.heap news) (T : Top p loose mean mg mb h₀) (hk : cs.kind = .function) (hdp : dp + 3 < recursionLimit) (hun : un + 30 < cLine) (hm : (sl, Sl.sliceObj (.int i t1) (.int j t2)) ∈ news) (hv : (l, listOf vs.toArray n) ∈ news) (hz : vs.length ≤ 1000) (ret : ∀ r h' tk', Fr h₀ L h' m → News h₀ L h' ((r, listOf (slicePick vs.toArray (some i) (some j) none) 0) :: news) → (∀ p ∈ news, p.1 < r) → Q (.ref r) { s with heap := h', toks := tk' }) :
    wpAny (model PySem.Challenge.rw_nb0114_01.row.prog w) (ktrTop dp un gd cn cs L a ccd cl outer) (call (.ref 28) [.ref l, .ref sl] []) Q E s := by

  refine wpAny_call ?_
  k_dflt cell_enter
  rename News _ _ _ _ => lN
  have hl := (lN _ hm).1
  have hl2 := PySem.IsL.isList (n := n) (lN _ hv).1
  k_steps
  unfold Halt
  refine' tail_any (T := "list") ?q1 slot_list_getitem.lookup (wpAny_getItem_list_slice hl2 ⟨_, hl, rfl, rfl⟩ (IsPart.int _ _) (IsPart.int _ _) IsPart.none (by simp) ?_ ?q2) ?q3
  case q1 => exact hl2.typeIs
  case q2 => rw [sizeLine_eq, List.size_toArray]; omega
  case q3 => with_unfolding_all rfl
  rename Fr _ _ _ _ => lF
  have l9 : ∀ p ∈ news, p.1 < _ := fun p hp => Heap.lt_size (lN p hp).1
  have F9 := lF.push (listOf (slicePick vs.toArray (some i) (some j) none) 0)
  have N9 := News.push lF lN (listOf (slicePick vs.toArray (some i) (some j) none) 0) rfl
  clear lF lN
  dsimp only
  k_steps
  refine' ret _ _ _ ?e2 ?e3 ?e4
  case e2 => k_asm
  case e3 => k_asm
  case e4 => exact l9
end
end Mine
end
section
open PySem PySem.W PyProof.Rows
theorem Mine.cut_NGet2 : True ∧ True := by
  w_top off
  walk1
  all_goals exact True.intro
end

/- NSetAll -/
section
open PySem PySem.W PyProof.Rows PySem.Calls
set_option Elab.async false
set_option maxRecDepth 100000
namespace Mine
section
variable {prog : Program} {w : World} {A : Around} {E : Value → Shared → Prop} {s : Shared}
/-- `l[:] = v`, v another list or a tuple -/
theorem setAll {l sl v : Addr} {items new : Array Value} {n n2 : Nat} {T : String} {Q : Unit → Shared → Prop} (ho : s.heap.get? l = some (listOf items n)) (hsl : s.heap.get? sl = some (Sl.sliceObj .none .none)) (hv : s.heap.get? v = some { cls := .type T, data := .seq new n2 }) (hT : T = "list" ∨ T = "tuple") (hne : l ≠ v) (hz : items.size + new.size ≤ 1000)
    (h : Q () { s with heap := s.heap.update l (Obj.mapSeq fun xs => xs.extract 0 ((0 : Int)).toNat ++ new ++ xs.extract (max (0 : Int) (items.size : Int)).toNat xs.size) }) : wpAny (model prog w) A (setItem (.ref l) (.ref sl) (.ref v)) Q E s := by
  have hl : s.heap.IsList l items := PySem.IsL.isList (n := n) ho
  have hTs : s.TypeIs (.ref sl) "slice" := ⟨_, hsl, rfl⟩
  unfold setItem
  try with_reducible refine wpAny_holding ?_
  first | refine wpAny_bind (wpAny_pure ?_) | skip
  refine wpAny_bind (wpAny_sequenceKey hl.typeIs (by decide) ?_)
  refine wpAny_bind (wpAny_callSpecial?_slot (name := Str.ofString "__setitem__") hl.typeIs slot_list_setitem
    (wpAny_call_entry slot_list_setitem hl.typeIs entry_list_setitem ?_ (args_list_setitem _ _ _)))
  show wpAny _ _ (Builtin.List.listSubscript? (.ref sl) >>= _) _ _ s
  refine wpAny_bind ?_
  unfold Builtin.List.listSubscript?
  refine wpAny_bind (wpAny_specialOf hTs slice_no_index ?_)
  simp only [Option.isNone_none, if_true]
  refine wpAny_pure ?_
  show wpAny _ _ (typeOf (.ref sl) >>= _) _ _ s
  refine wpAny_bind (wpAny_typeOf hTs ?_)
  rw [if_neg (by decide)]
  rw [listSliceParts_eq]
  refine wpAny_bind (wpAny_bind (wpAny_field hsl rfl (x := .none) rfl (wpAny_bind (wpAny_listPart .none ?_))))
  rw [if_neg (by decide)]
  refine wpAny_bind (wpAny_field hsl rfl (x := .none) rfl (wpAny_bind (wpAny_listPart .none ?_)))
  refine wpAny_bind (wpAny_field hsl rfl (x := .none) rfl (wpAny_bind (wpAny_listPart .none (wpAny_pure ?_))))
  dsimp only
  rw [if_neg (by simp [Builtin.List.listSameRef, hne])]
  have hTv : s.TypeIs (.ref v) T := ⟨_, hv, rfl⟩
  refine wpAny_bind ?_
  unfold Builtin.List.listAllItems
  refine wpAny_bind (wpAny_typeOf hTv ?_)
  rw [if_pos (by rcases hT with rfl | rfl <;> decide)]
  unfold Builtin.List.listItems
  refine wpAny_bind (wpAny_seqItems hv rfl (wpAny_pure ?_))
  refine wpAny_bind (wpAny_bind (wpAny_seqItems ho rfl (wpAny_pure ?_)))
  refine wpAny_bind (wpAny_of_eq (sliceIndices_raw none none none items.size (by simp)) ?_)
  have eb : sliceBounds none none none items.size = (0, (items.size : Int), 1) := rfl
  rw [eb]
  rw [if_pos (by rfl)]
  refine wpAny_bind (wpAny_rule ?_)
  rw [if_neg (by unfold Builtin.List.listTooLong; rw [decide_eq_true_eq]; first | omega | (rw [sizeLine_eq]; omega))]
  refine wpAny_bind (wpAny_updateSeq ho rfl ?_ (by rw [sizeLine_eq]; omega) ?_)
  · refine wpAny_bind (wpAny_letGo ?_)
    first
      | exact wpAny_pure ⟨.none, rfl, wpAny_pure h⟩
      | exact wpAny_bind (wpAny_pure (wpAny_pure ⟨.none, rfl, wpAny_pure h⟩))
  · rw [sizeLine_eq]
    simp only [Array.size_append, Array.size_extract]
    omega
variable {h₀ : Heap} {L : Addr} {m : Str → Option Value} {news : List (Addr × Obj)}
theorem setAll_news {l sl v : Addr} {items new : Array Value} {n n2 n3 : Nat} {T : String} {pre post : List (Addr × Obj)} {Q : Unit → Shared → Prop} (F : Fr h₀ L s.heap m) (N : News h₀ L s.heap (pre ++ (l, listOf items n) :: post)) (a : ∀ p ∈ pre, p.1 ≠ l) (b : ∀ p ∈ post, p.1 ≠ l)
    (hsl : s.heap.get? sl = some (Sl.sliceObj .none .none)) (hv : s.heap.get? v = some { cls := .type T, data := .seq new n2 }) (hT : T = "list" ∨ T = "tuple") (hne : l ≠ v) (hz : items.size + new.size ≤ 1000) (hn : (if new.size == items.size then n else n + 1) = n3)
    (h : ∀ h', Fr h₀ L h' m → News h₀ L h' (pre ++ (l, listOf new n3) :: post) → Q () { s with heap := h' }) : wpAny (model prog w) A (setItem (.ref l) (.ref sl) (.ref v)) Q E s := by
  have z := N (l, listOf items n) (List.mem_append.mpr (.inr (.head _)))
  refine setAll z.1 hsl hv hT hne hz (h _ (F.change (Heap.SameBut.update ..) z.2.1 z.2.2) (ki_turn _ N a b ?_ hn))
  apply Array.toList_inj.mp
  simp
end
end Mine
end
section
open PySem PySem.W PyProof.Rows
theorem Mine.cut_NSetAll : True ∧ True := by
  w_top off
  walk1
  all_goals exact True.intro
end

/- NSet2 -/
section
open PySem PySem.W PyProof.Rows PySem.Calls
set_option Elab.async false
set_option maxRecDepth 100000
set_option pp.deepTerms false
set_option pp.maxSteps 6000
namespace Mine
theorem fill_set2 : ∀ w : World, (hd.heap_39 w.params) = (hd.heap_39 w.params) ∧ PySem.Challenge.rw_nb0114_01.row.prog = PySem.Challenge.rw_nb0114_01.row.prog := by
  k_fill
  exact fun _ => ⟨rfl, rfl⟩
section
variable {w : World} {p : Program} {loose : List Str} {mean : ExcName → Option Value} {mg mb : Str → Option Value} {dp un : Nat} {gd : Option (List Code)} {cn : Str} {cs : Scope} {a : Addr} {ccd : Value} {cl : List (Str × Addr)} {outer : List Env} {A₀ : Around} {base h₀ : Heap} {L : Addr} {m : Str → Option Value} {news : List (Addr × Obj)} {s : Shared} {Q E : Value → Shared → Prop}
local macro_rules | `(tactic| walk_at "setItem ref ref") => `(tactic| (refine Halt.out ?_))
local macro_rules | `(tactic| walk_at "setItem ref") => `(tactic| (refine Halt.out ?_))
set_option maxHeartbeats 8000000 in
theorem ct_setall {l sl v : Addr} {items new : Array Value} {n n2 n3 : Nat} {Ty : String} {pre post : List (Addr × Obj)} (B : Below A₀ base outer h₀) (F : Fr h₀ L s.heap m) (X : (hd.heap_39 w.params).In h₀) (N : News h₀ L s.heap news) (T : Top p loose mean mg mb h₀) (hk : cs.kind = .function) (hdp : dp + 3 < recursionLimit) (hun : un + 30 < cLine) (hN : news = pre ++ (l, listOf items n) :: post) (ha : ∀ p ∈ pre, p.1 ≠ l) (hb : ∀ p ∈ post, p.1 ≠ l) (hsl : (sl, Sl.sliceObj .none .none) ∈ news) (hv : (v, ({ cls := .type Ty, data := .seq new n2 } : Obj)) ∈ news) (hT : Ty = "list" ∨ Ty = "tuple") (hne : l ≠ v) (hz : items.size + new.size ≤ 1000) (hn : (if new.size == items.size then n else n + 1) = n3) (ret : ∀ h' tk', Fr h₀ L h' m → News h₀ L h' (pre ++ (l, listOf new n3) :: post) → Q .none { s with heap := h', toks := tk' }) :
    wpAny (model PySem.Challenge.rw_nb0114_01.row.prog w) (ktrTop dp un gd cn cs L a ccd cl outer) (call (.ref 35) [.ref l, .ref sl, .ref v] []) Q E s := by

  refine wpAny_call ?_
  k_dflt cell_enter
  k_steps
  all_goals (try unfold Halt)
  rename News _ _ _ _ => lN
  have h1 := (lN _ hsl).1
  have h2 := (lN _ hv).1
  subst hN
  refine' setAll_news (by k_asm) lN ha hb h1 h2 hT hne hz hn ?_
  clear h1 h2 lN
  intro h7 F7 N7
  k_steps
  refine' ret _ _ ?e2 ?e3
  case e2 => k_asm
  case e3 => k_asm
end
end Mine
end
section
open PySem PySem.W PyProof.Rows
theorem Mine.cut_NSet2 : True ∧ True := by
  w_top off
  walk1
  all_goals exact True.intro
end

/- NLaw1 -/
section
open PySem PySem.W PyProof.Rows PySem.Calls
namespace Mine
theorem join_mem (y : Str) : ∀ (l : List Str) (r : Str), r ∈ l → ∀ c ∈ r.cps.toList, c ∈ (Str.join y l).cps.toList
  | [], _, h, _, _ => nomatch h
  | [a], r, h, c, hc => by
    rw [List.mem_singleton.mp h] at hc
    simpa [Str.join] using hc
  | a :: b :: l, r, h, c, hc => by
    have e : (Str.join y (a :: b :: l)).cps.toList = a.cps.toList ++ y.cps.toList ++ (Str.join y (b :: l)).cps.toList := by
      show ((a ++ y ++ Str.join y (b :: l)) : Str).cps.toList = _
      show ((a.cps ++ y.cps) ++ (Str.join y (b :: l)).cps).toList = _
      rw [Array.toList_append, Array.toList_append]
    rw [e]
    rcases List.mem_cons.mp h with rfl | h
    · exact List.mem_append_left _ (List.mem_append_left _ hc)
    · exact List.mem_append_right _ (join_mem y (b :: l) r h c hc)
theorem splitLaw : SplitLaw := by
  intro x ax r hr c hc
  have := join_mem (Str.ofString ".") _ r hr c hc
  rw [StrLaws.join_split] at this
  exact ax c this
end Mine
end
section
open PySem PySem.W PyProof.Rows
theorem Mine.cut_NLaw1 : True ∧ True := by
  w_top off
  walk1
  all_goals exact True.intro
end

/- NFacts -/
section
open PySem PySem.W PyProof.Rows PySem.Calls
set_option Elab.async false
set_option maxRecDepth 100000
namespace Mine
namespace FF
theorem args_object_init_3 (a b c : Value) : argsOk "object.__init__" ⟨[a, b, c], []⟩ := by
  unfold argsOk; kernel_rfl

theorem owner_filter : Manifest.owners.lookup (String.ofList ['r', 'e', 't', 'l', 'i', 'f'].reverse) = some Manifest.sig_filter := by kernel_rfl
theorem slot_filter_init : Slot "filter" "__init__" "object.__init__" :=
  .of (owner := "object") (n := "__init__") (by rw [typeLookup_type, builtinLookup_eq_fast]; kernel_rfl) (by decide +kernel) (by decide +kernel) (by decide +kernel)
    (by first | exact .inl (by decide +kernel) | exact .inr (by decide +kernel)) (by rw [isSubtype_type]; kernel_rfl)
theorem slot_filter_iter : Slot "filter" "__iter__" "filter.__iter__" :=
  .of (owner := "filter") (n := "__iter__") (by rw [typeLookup_type, builtinLookup_eq_fast]; kernel_rfl) (by decide +kernel) (by decide +kernel) (by decide +kernel)
    (by first | exact .inl (by decide +kernel) | exact .inr (by decide +kernel)) (by rw [isSubtype_type]; kernel_rfl)
theorem slot_filter_next : Slot "filter" "__next__" "filter.__next__" :=
  .of (owner := "filter") (n := "__next__") (by rw [typeLookup_type, builtinLookup_eq_fast]; kernel_rfl) (by decide +kernel) (by decide +kernel) (by decide +kernel)
    (by first | exact .inl (by decide +kernel) | exact .inr (by decide +kernel)) (by rw [isSubtype_type]; kernel_rfl)
theorem args_filter_iter_1 (a : Value) : argsOk "filter.__iter__" ⟨[a], []⟩ := by
  unfold argsOk; rw [signature?_of (id := "filter.__iter__") (n := ['_', '_', 'r', 'e', 't', 'i', '_', '_']) (o := ['r', 'e', 't', 'l', 'i', 'f']) (by kernel_rfl) owner_filter]; kernel_rfl
theorem args_filter_next_1 (a : Value) : argsOk "filter.__next__" ⟨[a], []⟩ := by
  unfold argsOk; rw [signature?_of (id := "filter.__next__") (n := ['_', '_', 't', 'x', 'e', 'n', '_', '_']) (o := ['r', 'e', 't', 'l', 'i', 'f']) (by kernel_rfl) owner_filter]; kernel_rfl
theorem entry_filter_iter : entryFor table "filter.__iter__" = some Builtin.«dict_keyiterator.__iter__» :=
  entryFor_alias (id' := "dict_keyiterator.__iter__") (by kernel_rfl) (by first | rfl | decide +kernel | (unfold String.splitOn; simp +decide [String.splitOnAux])) (by decide +kernel) (by kernel_rfl)
theorem entry_filter_next : entryFor table "filter.__next__" = some Builtin.«filter.__next__» := entryFor_of_tree (by kernel_rfl)
theorem entry_filter_new : entryFor table "filter.__new__" = some Builtin.«filter.__new__» := entryFor_of_tree (by kernel_rfl)
theorem mro_filter : mroOf (.type "filter") = pure [.type "filter", .type "object"] := by rw [mroOf_type]; kernel_rfl
theorem lookup_filter_new : typeLookup (.type "filter") "__new__" = pure (some (.builtin "filter.__new__")) := by rw [typeLookup_type, builtinLookup_eq_fast]; kernel_rfl
theorem called_filter : TypeCalled "filter" "filter.__new__" "object.__init__" :=
  ⟨by decide +kernel, by decide +kernel, ⟨_, _, mro_filter⟩, madeBy_type mro_filter lookup_filter_new (by decide +kernel), by decide +kernel, by rw [isSubtype_type]; kernel_rfl, slot_filter_init⟩
theorem typeCall_filter_2 (a b : Value) : checkTypeCall "filter" ⟨[a, b], []⟩ = pure () := by kernel_rfl
theorem newCall_filter_2 (a b : Value) : checkBuiltinCall "filter.__new__" ⟨[.type "filter", a, b], []⟩ = pure () := by kernel_rfl
theorem sub_filter : isSubtype (.type "filter") (.type "filter") = pure true := by rw [isSubtype_type]; kernel_rfl

theorem owner_map : Manifest.owners.lookup (String.ofList ['p', 'a', 'm'].reverse) = some Manifest.sig_map := by kernel_rfl
theorem slot_map_init : Slot "map" "__init__" "object.__init__" :=
  .of (owner := "object") (n := "__init__") (by rw [typeLookup_type, builtinLookup_eq_fast]; kernel_rfl) (by decide +kernel) (by decide +kernel) (by decide +kernel)
    (by first | exact .inl (by decide +kernel) | exact .inr (by decide +kernel)) (by rw [isSubtype_type]; kernel_rfl)
theorem slot_map_iter : Slot "map" "__iter__" "map.__iter__" :=
  .of (owner := "map") (n := "__iter__") (by rw [typeLookup_type, builtinLookup_eq_fast]; kernel_rfl) (by decide +kernel) (by decide +kernel) (by decide +kernel)
    (by first | exact .inl (by decide +kernel) | exact .inr (by decide +kernel)) (by rw [isSubtype_type]; kernel_rfl)
theorem slot_map_next : Slot "map" "__next__" "map.__next__" :=
  .of (owner := "map") (n := "__next__") (by rw [typeLookup_type, builtinLookup_eq_fast]; kernel_rfl) (by decide +kernel) (by decide +kernel) (by decide +kernel)
    (by first | exact .inl (by decide +kernel) | exact .inr (by decide +kernel)) (by rw [isSubtype_type]; kernel_rfl)
theorem args_map_iter_1 (a : Value) : argsOk "map.__iter__" ⟨[a], []⟩ := by
  unfold argsOk; rw [signature?_of (id := "map.__iter__") (n := ['_', '_', 'r', 'e', 't', 'i', '_', '_']) (o := ['p', 'a', 'm']) (by kernel_rfl) owner_map]; kernel_rfl
theorem args_map_next_1 (a : Value) : argsOk "map.__next__" ⟨[a], []⟩ := by
  unfold argsOk; rw [signature?_of (id := "map.__next__") (n := ['_', '_', 't', 'x', 'e', 'n', '_', '_']) (o := ['p', 'a', 'm']) (by kernel_rfl) owner_map]; kernel_rfl
theorem entry_map_iter : entryFor table "map.__iter__" = some Builtin.«dict_keyiterator.__iter__» :=
  entryFor_alias (id' := "dict_keyiterator.__iter__") (by kernel_rfl) (by first | rfl | decide +kernel | (unfold String.splitOn; simp +decide [String.splitOnAux])) (by decide +kernel) (by kernel_rfl)
theorem entry_map_next : entryFor table "map.__next__" = some Builtin.«map.__next__» := entryFor_of_tree (by kernel_rfl)
theorem entry_map_new : entryFor table "map.__new__" = some Builtin.«map.__new__» := entryFor_of_tree (by kernel_rfl)
theorem mro_map : mroOf (.type "map") = pure [.type "map", .type "object"] := by rw [mroOf_type]; kernel_rfl
theorem lookup_map_new : typeLookup (.type "map") "__new__" = pure (some (.builtin "map.__new__")) := by rw [typeLookup_type, builtinLookup_eq_fast]; kernel_rfl
theorem called_map : TypeCalled "map" "map.__new__" "object.__init__" :=
  ⟨by decide +kernel, by decide +kernel, ⟨_, _, mro_map⟩, madeBy_type mro_map lookup_map_new (by decide +kernel), by decide +kernel, by rw [isSubtype_type]; kernel_rfl, slot_map_init⟩
theorem typeCall_map_2 (a b : Value) : checkTypeCall "map" ⟨[a, b], []⟩ = pure () := by kernel_rfl
theorem newCall_map_2 (a b : Value) : checkBuiltinCall "map.__new__" ⟨[.type "map", a, b], []⟩ = pure () := by kernel_rfl
theorem sub_map : isSubtype (.type "map") (.type "map") = pure true := by rw [isSubtype_type]; kernel_rfl

end FF
end Mine
end
section
open PySem PySem.W PyProof.Rows
theorem Mine.cut_NFacts : True ∧ True := by
  w_top off
  walk1
  all_goals exact True.intro
end

/- NFilt -/
section
open PySem PySem.W PyProof.Rows PySem.Calls
set_option Elab.async false
set_option maxRecDepth 100000
namespace Mine
section
variable {prog : Program} {w : World} {A : Around} {E : Value → Shared → Prop} {s : Shared}
theorem tup_item {it t : Addr} {i : Nat} {items} {x : Value} {Q : Option Value → Shared → Prop} (hit : s.heap.IsTupleIter it t i)
    (ht : s.heap.IsTuple t items) (hx : items[i]? = some x)
    (hQ : ∀ h', h'.IsTupleIter it t (i + 1) → Heap.SameBut it s.heap h' → Q (some x) { s with heap := h' }) :
    wpAny (model prog w) A (callSpecial? (.ref it) (Str.ofString "__next__")) Q E s := by
  obtain ⟨o, ho, hc, hd⟩ := id hit
  obtain ⟨ol, hol, _, nl, hdl⟩ := ht
  refine wpAny_callSpecial?_slot (name := Str.ofString "__next__") hit.typeIs F.slot_tuple_iterator_next
    (wpAny_call_entry F.slot_tuple_iterator_next hit.typeIs F.entry_tuple_iterator_next ?_ (F.args_tuple_iterator_next_1 _))
  show wpAny _ _ (field (.ref it) 0 >>= _) _ _ s
  refine wpAny_bind (wpAny_field ho hd (x := .ref t) rfl ?_)
  show wpAny _ _ (if (Value.ref t == Value.none) = true then _ else _) _ _ s
  rw [if_neg (show ¬ ((Value.ref t == Value.none) = true) from Bool.false_ne_true)]
  show wpAny _ _ (field (.ref it) 1 >>= _) _ _ s
  refine wpAny_bind (wpAny_field ho hd (x := .int i 0) rfl ?_)
  show wpAny _ _ (seqItems? (.ref t) >>= _) _ _ s
  refine wpAny_bind (wpAny_seqItems hol hdl ?_)
  simp only [Int.toNat_natCast, hx]
  refine wpAny_bind (wpAny_setField ho hd (by simp) (wpAny_pure ⟨x, rfl, (hQ _ ?_ (Heap.SameBut.update ..))⟩))
  exact ⟨_, Heap.get?_update_self _ ho (Obj.isFreed_of_fields (Obj.data_mapFields hd _)), (Obj.cls_mapFields ..).trans hc, by
    rw [Obj.data_mapFields hd]; simp [rawInt]⟩
theorem tup_end {it t : Addr} {i : Nat} {items} {Q : Option Value → Shared → Prop} (hh : A.handled = none)
    (hit : s.heap.IsTupleIter it t i) (ht : s.heap.IsTuple t items) (hx : items[i]? = none)
    (hE : ∀ h' e, Heap.ExtBut it s.heap h' → (∃ o, h'.get? e = some o ∧ o.cls = .type "StopIteration") → E (.ref e) { s with heap := h' }) : wpAny (model prog w) A (callSpecial? (.ref it) (Str.ofString "__next__")) Q E s := by
  obtain ⟨o, ho, hc, hd⟩ := id hit
  obtain ⟨ol, hol, _, nl, hdl⟩ := ht
  refine wpAny_callSpecial?_slot (name := Str.ofString "__next__") hit.typeIs F.slot_tuple_iterator_next
    (wpAny_call_entry F.slot_tuple_iterator_next hit.typeIs F.entry_tuple_iterator_next ?_ (F.args_tuple_iterator_next_1 _))
  show wpAny _ _ (field (.ref it) 0 >>= _) _ _ s
  refine wpAny_bind (wpAny_field ho hd (x := .ref t) rfl ?_)
  show wpAny _ _ (if (Value.ref t == Value.none) = true then _ else _) _ _ s
  rw [if_neg (show ¬ ((Value.ref t == Value.none) = true) from Bool.false_ne_true)]
  show wpAny _ _ (field (.ref it) 1 >>= _) _ _ s
  refine wpAny_bind (wpAny_field ho hd (x := .int i 0) rfl ?_)
  show wpAny _ _ (seqItems? (.ref t) >>= _) _ _ s
  refine wpAny_bind (wpAny_seqItems hol hdl ?_)
  simp only [Int.toNat_natCast, hx]
  refine wpAny_bind (wpAny_rule (wpAny_bind (wpAny_setField ho hd (by simp) ?_)))
  show wpAny _ _ (newExc (.type "StopIteration") [] >>= _) _ _ _
  refine wpAny_bind ?_
  simp only [newExc, newTuple]
  refine wpAny_bind (wpAny_newObj_type ?_ (by size_fits))
  refine wpAny_bind (m := firstArgMember _ _) (wpAny_of_eq (a := Value.none) (by first | rfl | (simp only [firstArgMember]; rfl)) ?_)
  refine wpAny_newObj_type ?_ (by size_fits)
  simp only [raiseNew]
  refine wpAny_bind (wpAny_handled ?_)
  first | rw [show A.in1.handled = none from hh] | rw [hh]
  refine wpAny_bind (wpAny_pure (wpAny_throw ?_))
  exact hE _ _ (((Heap.SameBut.update ..).extBut.push _).push _) ⟨_, Heap.get?_push_size _ rfl, rfl⟩
def IsFilt (h : Heap) (I it : Addr) : Prop := h.get? I = some { cls := .type "filter", data := .fields #[.builtin "len", .ref it] }
def neT (p : Str × Tok) : Bool := p.1.length != 0
theorem filt_next {I it ax : Addr} {l : List (Str × Tok)} {R : Result → Shared → Prop} (hh : A.handled = none) (hI : I ≠ it) (hax : ax ≠ it) (hlen : ∀ p ∈ l, p.1.length ≤ 1000) : ∀ (n k : Nat) (s : Shared), n = l.length - k → k ≤ l.length →
    IsFilt s.heap I it → s.heap.IsTuple ax (strValues l).toArray → s.heap.IsTupleIter it ax k →
    ((l.drop k).filter neT = [] → ∀ h' e tk, Heap.ExtBut it s.heap h' → (∃ o, h'.get? e = some o ∧ o.cls = .type "StopIteration") → R (.error (.ref e)) { s with heap := h', toks := tk }) →
    (∀ p r, (l.drop k).filter neT = p :: r → ∀ h' tk k', k' ≤ l.length → h'.IsTupleIter it ax k' → (l.drop k').filter neT = r → Heap.ExtBut it s.heap h' → R (.ok (.ret (.str p.1 p.2))) { s with heap := h', toks := tk }) →
    codeAny (model prog w) A (.builtin "filter.__next__" ⟨[.ref I], []⟩) R s := by
  intro n
  induction n with
  | zero =>
    intro k s hn hk hf ht hit hE _
    have hk' : k = l.length := by omega
    refine codeAny_builtin FF.entry_filter_next ?_
    rw [Around.under_plainId FF.slot_filter_next.plain]
    show wpAny _ _ (field (.ref I) 0 >>= _) _ _ s
    refine wpAny_bind (wpAny_field hf rfl (x := .builtin "len") rfl ?_)
    show wpAny _ _ (field (.ref I) 1 >>= _) _ _ s
    refine wpAny_bind (wpAny_field hf rfl (x := .ref it) rfl ?_)
    refine wpAny_bind (tup_end (by exact hh) hit ht ?_ fun h' e hx he => ?_)
    · rw [hk']; simp [strValues]
    · refine hE ?_ h' e s.toks hx he
      rw [hk']; simp
  | succ n ih =>
    intro k s hn hk hf ht hit hE hS
    have hk' : k < l.length := by omega
    refine codeAny_builtin FF.entry_filter_next ?_
    rw [Around.under_plainId FF.slot_filter_next.plain]
    show wpAny _ _ (field (.ref I) 0 >>= _) _ _ s
    refine wpAny_bind (wpAny_field hf rfl (x := .builtin "len") rfl ?_)
    show wpAny _ _ (field (.ref I) 1 >>= _) _ _ s
    refine wpAny_bind (wpAny_field hf rfl (x := .ref it) rfl ?_)
    have hx : (strValues l).toArray[k]? = some (.str l[k].1 l[k].2) := by simp [strValues, hk']
    have hd : l.drop k = l[k] :: l.drop (k + 1) := List.drop_eq_getElem_cons hk'
    refine wpAny_bind (tup_item hit ht hx fun h' hit' hs' => ?_)
    refine wpAny_bind (wpAny_holding ?_)
    show wpAny _ _ (call (.builtin "len") [.str l[k].1 l[k].2] >>= _) _ _ _
    have hl := hlen l[k] (List.getElem_mem hk')
    refine wpAny_bind (P.len_str (by omega) (wpAny_holding ?_))
    refine PySem.P.truthy_int ?_
    by_cases h0 : l[k].1.length = 0
    · rw [show (((l[k].1.length : Nat) : Int) != 0) = false by simp [h0]]
      refine wpAny_pure ⟨Code.quiet_builtin _ (by decide +kernel), ?_⟩
      have hne : neT l[k] = false := by simp [neT, h0]
      have he : (l.drop k).filter neT = (l.drop (k + 1)).filter neT := by rw [hd, List.filter_cons_of_neg (by rw [hne]; exact Bool.false_ne_true)]
      refine ih (k + 1) _ (by omega) hk' (hs'.extBut _ _ hI hf) (ht.extBut hs'.extBut hax) hit' ?_ ?_
      · intro hz h2 e tk hx2 hx3
        exact hE (he.trans hz) h2 e tk (fun b o hb hg => hx2 b o hb (hs'.extBut b o hb hg)) hx3
      · intro p r hz h2 tk k' hk2 hi2 hr2 hx2
        exact hS p r (he.trans hz) h2 tk k' hk2 hi2 hr2 (fun b o hb hg => hx2 b o hb (hs'.extBut b o hb hg))
    · rw [show (((l[k].1.length : Nat) : Int) != 0) = true by simpa using h0]
      have hne : neT l[k] = true := by simp [neT, h0]
      refine wpAny_pure ?_
      exact hS l[k] ((l.drop (k + 1)).filter neT) (by rw [hd, List.filter_cons_of_pos hne]) h' _ (k + 1) hk' hit' rfl hs'.extBut
theorem filt_call {I it ax : Addr} {l : List (Str × Tok)} {Q : Value → Shared → Prop} {k : Nat} (hh : A.handled = none) (hI : I ≠ it) (hax : ax ≠ it) (hlen : ∀ p ∈ l, p.1.length ≤ 1000) (hk : k ≤ l.length)
    (hf : IsFilt s.heap I it) (ht : s.heap.IsTuple ax (strValues l).toArray) (hit : s.heap.IsTupleIter it ax k)
    (hE : (l.drop k).filter neT = [] → ∀ h' e tk, Heap.ExtBut it s.heap h' → (∃ o, h'.get? e = some o ∧ o.cls = .type "StopIteration") → E (.ref e) { s with heap := h', toks := tk })
    (hS : ∀ p r, (l.drop k).filter neT = p :: r → ∀ h' tk k', k' ≤ l.length → h'.IsTupleIter it ax k' → (l.drop k').filter neT = r → Heap.ExtBut it s.heap h' → Q (.str p.1 p.2) { s with heap := h', toks := tk }) :
    wpAny (model prog w) A (call (.builtin "filter.__next__") [.ref I]) Q E s := by
  refine wpAny_call (codeAny_call_builtin_code (plainId_quiet FF.slot_filter_next.plain _) (FF.slot_filter_next.check _ _ _ _ _ _ _ _ ⟨_, hf, rfl⟩ (FF.args_filter_next_1 _) ?_))
  exact filt_next hh hI hax hlen _ k s rfl hk hf ht hit (fun hz h' e tk hx he => hE hz h' e tk hx he) (fun p r hz h' tk k' hk' hi hr hx => hS p r hz h' tk k' hk' hi hr hx)
theorem drop_step {α : Type} {l r : List α} {p : α} {i : Nat} (h : p :: r = l.drop i) : l[i]? = some p ∧ r = l.drop (i + 1) := by
  have hi : i < l.length := by
    rcases Nat.lt_or_ge i l.length with h1 | h1
    · exact h1
    · rw [List.drop_eq_nil_of_le h1] at h; cases h
  rw [List.drop_eq_getElem_cons hi] at h
  injection h with h1 h2
  exact ⟨by rw [h1]; simp [hi], h2⟩
/-- filter(len, texts), item by item -/
theorem Walks.filt (hh : A.handled = none) (I it ax : Addr) (hI : I ≠ it) (hax : ax ≠ it) (l : List (Str × Tok)) (hlen : ∀ p ∈ l, p.1.length ≤ 1000) :
    Walks prog w A I [I, it, ax] [it] (l.filter neT).length (fun i v => ∃ p, (l.filter neT)[i]? = some p ∧ v = .str p.1 p.2)
      (fun i h => IsFilt h I it ∧ h.IsTuple ax (strValues l).toArray ∧ ∃ k, k ≤ l.length ∧ h.IsTupleIter it ax k ∧ (l.drop k).filter neT = (l.filter neT).drop i) where
  sub := fun b hb => by rw [List.mem_singleton.mp hb]; simp
  frame := fun _ _ _ st hk => ⟨hk I (by simp) _ st.1, st.2.1.at fun o e => hk ax (by simp) o e, let ⟨k, h1, h2, h3⟩ := st.2.2; ⟨k, h1, h2.at fun o e => hk it (by simp) o e, h3⟩⟩
  item := fun i s Q E hi st hQ => by
    obtain ⟨hf, ht, k, hk, hit, hd⟩ := st
    have hT : s.TypeIs (.ref I) "filter" := ⟨_, hf, rfl⟩
    unfold pyNext
    refine wpAny_bind (wpAny_attempt (wpAny_callSpecial?_slot (name := Str.ofString "__next__") hT FF.slot_filter_next (filt_call hh hI hax hlen hk hf ht hit (fun hz => ?_) fun p r hz h' tk k' hk' hit' hr hx => ?_)))
    · exfalso
      rw [hz] at hd
      have := congrArg List.length hd
      rw [List.length_drop] at this
      simp only [List.length_nil] at this
      omega
    · rw [hz] at hd
      obtain ⟨h1, h2⟩ := drop_step hd
      exact wpAny_pure (hQ _ h' tk ⟨p, h1, rfl⟩ ⟨hx _ _ hI hf, ht.extBut hx hax, k', hk', hit', hr.trans h2⟩ fun b o hb hg => hx b o (fun e => hb (by simp [e])) hg)
  done := fun s Q E st hQ => by
    obtain ⟨hf, ht, k, hk, hit, hd⟩ := st
    have hT : s.TypeIs (.ref I) "filter" := ⟨_, hf, rfl⟩
    unfold pyNext
    refine wpAny_bind (wpAny_attempt (wpAny_callSpecial?_slot (name := Str.ofString "__next__") hT FF.slot_filter_next (filt_call hh hI hax hlen hk hf ht hit (fun hz h' e tk hx he => ?_) fun p r hz => ?_)))
    · obtain ⟨o, ho, hc⟩ := he
      refine wpAny_bind (wpAny_isInstance (T := "StopIteration") (b := true) ⟨o, ho, hc⟩ isSubtype_stop ?_)
      exact wpAny_pure (hQ h' tk fun b o hb hg => hx b o (fun e => hb (by simp [e])) hg)
    · exfalso
      rw [hz] at hd
      have := congrArg List.length hd
      rw [List.length_drop] at this
      simp only [List.length_cons] at this
      omega
  self := fun i s Q E st hQ => by
    have hT : s.TypeIs (.ref I) "filter" := ⟨_, st.1, rfl⟩
    refine wpAny_pyIter_slot hT FF.slot_filter_iter (wpAny_call_entry FF.slot_filter_iter hT FF.entry_filter_iter ?_ (FF.args_filter_iter_1 _))
    show wpAny _ _ (ret (.ref I)) _ _ s
    exact wpAny_pure ⟨_, rfl, "filter", _, hT, FF.slot_filter_next.lookup, hQ⟩
/-- filter(len, t) of a tuple -/
theorem meets_filter_new (t : Addr) (items : Array Value) :
    Meets (Builtin.«filter.__new__» ⟨[.type "filter", .builtin "len", .ref t], []⟩) (fun _ R s => s.heap.IsTuple t items ∧
      R (.ok (.ret (.ref (s.heap.push { cls := .type "tuple_iterator", data := .fields #[.ref t, .int 0 0] }).objs.size)))
        { s with heap := (s.heap.push { cls := .type "tuple_iterator", data := .fields #[.ref t, .int 0 0] }).push { cls := .type "filter", data := .fields #[.builtin "len", .ref s.heap.objs.size] } }) :=
  .of_wp fun prog w A R s h => by
    obtain ⟨ht, h⟩ := h
    unfold Builtin.«filter.__new__» Builtin.SmallTypes.newClass
    refine wpAny_bind (wpAny_bind (wpAny_of_eq (a := true) (by rfl) ?_))
    refine wpAny_bind (wpAny_of_eq (a := true) FF.sub_filter ?_)
    refine wpAny_pure ?_
    refine wpAny_bind (wpAny_of_eq (a := ()) (by rfl) ?_)
    refine wpAny_bind (wpAny_of_eq (a := ()) (by rfl) ?_)
    refine wpAny_bind (wpAny_pyIter_tuple ht ?_)
    show wpAny _ _ (newObj (.type "filter") (.fields #[.builtin "len", .ref s.heap.objs.size]) >>= _) _ _ _
    refine wpAny_bind (wpAny_newObj_type (wpAny_pure ?_) (by size_fits))
    exact ⟨_, rfl, h⟩
theorem call_filter {t : Addr} {items : Array Value} {Q : Value → Shared → Prop} (ht : s.heap.IsTuple t items)
    (h : ∀ h', IsFilt h' (s.heap.objs.size + 1) s.heap.objs.size → h'.IsTupleIter s.heap.objs.size t 0 → h'.objs.size = s.heap.objs.size + 2 →
      (∀ b o, s.heap.get? b = some o → h'.get? b = some o) → Q (.ref (s.heap.objs.size + 1)) { s with heap := h' }) :
    wpAny (model prog w) A (call (.type "filter") [.builtin "len", .ref t]) Q E s := by
  refine callType_new FF.called_filter (by decide) (FF.typeCall_filter_2 _ _) (FF.newCall_filter_2 _ _) (fun obj => FF.args_object_init_3 obj _ _) FF.entry_filter_new
    (meets_filter_new t items) ⟨ht, ?_⟩
  have hz : (s.heap.push { cls := .type "tuple_iterator", data := .fields #[.ref t, .int 0 0] }).objs.size = s.heap.objs.size + 1 := Heap.size_push ..
  show _ ∧ _
  rw [hz]
  have he : IsFilt ((s.heap.push { cls := .type "tuple_iterator", data := .fields #[.ref t, .int 0 0] }).push
      { cls := .type "filter", data := .fields #[.builtin "len", .ref s.heap.objs.size] }) (s.heap.objs.size + 1) s.heap.objs.size := by
    have := Heap.get?_push_size (s.heap.push { cls := .type "tuple_iterator", data := .fields #[.ref t, .int 0 0] })
      (o := { cls := .type "filter", data := .fields #[.builtin "len", .ref s.heap.objs.size] }) rfl
    rw [hz] at this; exact this
  refine ⟨⟨_, he, rfl⟩, h _ he ⟨_, Heap.get?_push_of_some _ (Heap.get?_push_size _ rfl), rfl, rfl⟩ (by rw [Heap.size_push, hz]) fun b o x => Heap.get?_push_of_some _ (Heap.get?_push_of_some _ x)⟩
end
end Mine
end
section
open PySem PySem.W PyProof.Rows
theorem Mine.cut_NFilt : True ∧ True := by
  w_top off
  walk1
  all_goals exact True.intro
end

/- NGen -/
section
open PySem PySem.W PyProof.Rows PySem.Calls
set_option Elab.async false
set_option maxRecDepth 100000
namespace Mine
theorem natLt {a b : Addr} (h : a < b) : @LT.lt Nat instLTNat a b := h
theorem natLe {a b : Addr} (h : a ≤ b) : @LE.le Nat instLENat a b := h
theorem addrNe {a b : Addr} (h : ¬ @Eq Nat a b) : a ≠ b := h
/-- the generator of texts, kept shut -/
def GenIs (prog : Program) (w : World) (A : Around) (h₀ : Heap) (L : Addr) (nw : List (Addr × Obj)) (a : Addr) (ts : List Str) (s : Shared) : Prop :=
  ∃ fp wr g V St, WalksS prog w A.in4 a fp wr (GenOnlyQ g) ts.length V St ∧ St 0 s ∧ (∀ i s', St i s' → s'.TypeIs (.ref a) "generator") ∧ a ∈ fp ∧ (∀ b ∈ fp, b < s.heap.objs.size) ∧
    (∀ b ∈ wr, h₀.get? b = none ∧ b ≠ L ∧ ∀ q ∈ nw, q.1 ≠ b) ∧ (∀ j v, V j v → ∃ x u, ts[j]? = some x ∧ v = Value.str x u)
section
variable {prog : Program} {w : World} {A : Around} {E : Value → Shared → Prop} {s : Shared} {h₀ : Heap} {L a c P : Addr} {m mg mb : Str → Option Value} {nw nw₂ : List (Addr × Obj)} {p : Program} {loose : List Str} {mean : ExcName → Option Value} {ps : Array Value}
theorem movedF {s' : Shared} {wr : List Addr} {g : Nat} (F : Fr h₀ L s.heap m) (hm : Moved wr (GenOnlyQ g) s s') (hw : ∀ b ∈ wr, h₀.get? b = none ∧ b ≠ L) : Fr h₀ L s'.heap m :=
  ⟨F.ns.at' fun o e => hm.heap _ o (fun hb => (hw _ hb).2 rfl) e, fun b o e => hm.heap b o (fun hb => by rw [(hw _ hb).1] at e; cases e) (F.keep b o e), F.above⟩
theorem join_gen {sep : Str} {t : Tok} {ts : List Str} {Q : Value → Shared → Prop} (F : Fr h₀ L s.heap m) (N : News h₀ L s.heap nw) (G : AllBare s.gens) (X : GenIs prog w A h₀ L nw a ts s) (hok : JoinOk sep ts = true) (hsz : ts.length ≤ sizeLine)
    (hQ : ∀ s' t', Fr h₀ L s'.heap m → News h₀ L s'.heap nw → AllBare s'.gens → s'.os = s.os → Q (.str (Txt.join sep ts) t') s') :
    wpAny (model prog w) A (call (.builtin "str.join") [.str sep t, .ref a]) Q E s := by
  obtain ⟨fp, wr, g, V, St, W, hst, hT, ha, hfp, hwr, hV⟩ := X
  have W := W.in4_2
  refine SC.joinGen W hT hst hfp ha (fun j v hv => let ⟨x, u, _, e⟩ := hV j v hv; ⟨x, u, e⟩) (fun s' lt hm hacc => ?_) hsz
  have hl : lt.map (·.1) = ts := by
    apply List.ext_getElem?
    intro j
    have hsz : lt.length = ts.length := by simpa [strValues] using hacc.1
    by_cases hj : j < ts.length
    · have hj' : j < lt.length := hsz ▸ hj
      obtain ⟨x, u, hx, hv⟩ := hV j _ (hacc.2 j (.str lt[j].1 lt[j].2) (by simp [strValues, List.getElem?_eq_getElem hj']))
      injection hv with h1 _
      rw [hx, ← h1]
      simp [List.getElem?_eq_getElem hj']
    · rw [List.getElem?_eq_none (by simpa [hsz] using Nat.le_of_not_lt hj), List.getElem?_eq_none (by simpa using Nat.le_of_not_lt hj)]
  rw [hl]
  have f1 := movedF F hm fun b hb => ⟨(hwr b hb).1, (hwr b hb).2.1⟩
  have n1 : News h₀ L s'.heap nw := fun q hq => ⟨hm.heap _ _ (fun hb => (hwr _ hb).2.2 q hq rfl) (N q hq).1, (N q hq).2⟩
  have g1 := G.movedS hm
  have o1 := hm.os
  exact ⟨hok, fun t' k => hQ { s' with toks := k } t' f1 n1 g1 o1⟩
/-- the code of the generator expression: made, or found again -/
theorem code_K {env : Env} {pos : Pos} {qual : Str} {scope : Scope} {Q : Value → Shared → Prop} (C : CodeHd s.heap c P) (hP : s.heap.get? P = some (tabObj ps)) (ht : TriplesOk ps.toList) (hcode : env.code = .ref c)
    (h : ∀ cv h' tk ps', (∀ b o, b ≠ P → s.heap.get? b = some o → h'.get? b = some o) → s.heap.objs.size ≤ h'.objs.size → h'.get? P = some (tabObj ps') → TriplesOk ps'.toList → Q cv { s with heap := h', toks := tk }) :
    wpAny (model prog w) A (genexprCode env pos qual scope) Q E s := by
  cases hf : codeAmong pos ps.toList with
  | none =>
    refine wpAny_genexprCodeX hcode (C.code hP ht) (C.tab hP) hf fun c' h' tk hx hge hlt _ _ htab _ => ?_
    refine h _ h' tk _ (fun b o hb e => hx b o hb e) (Nat.le_trans hge (Nat.le_of_lt hlt)) htab.2 ?_
    rw [Array.toList_append]
    exact TriplesOk_snoc _ _ _ _ ht
  | some cv => exact wpAny_genexprCode_hit hcode (C.code hP ht) hf (h cv s.heap s.toks ps (fun _ _ _ e => e) (Nat.le_refl _) hP ht)
theorem passing_true (n : Nat) : passing (fun _ => true) n 0 = List.range n := by
  simp [passing]
/-- a generator expression over filter(len, texts) -/
theorem gen_K {env : Env} {elt iter : Expr} {x : Str} {px : Pos} {scope : Scope} {pos : Pos} {Q : Value → Shared → Prop} {l : List (Str × Tok)} {g : Str → Str}
    (F : Fr h₀ L s.heap m) (N : News h₀ L s.heap nw) (T : Top p loose mean mg mb h₀) (C : CodeHd h₀ c P) (hP : (P, tabObj ps) ∈ nw) (ht : TriplesOk ps.toList) (G : AllBare s.gens) (hs2 : ∀ q ∈ nw₂, q ∈ nw ∧ q.1 ≠ P)
    (hcode : env.code = .ref c) (hglob : env.globals = mainGlobals) (hlen : ∀ q ∈ l, q.1.length ≤ 1000)
    (hh : A.handled = none) (hco : scope.isCoroutine = false) (hclos : closureFor scope env = pure []) (hcell : ∀ y ∈ scope.names, y.2 ≠ .cell) (h0 : scope.names.lookup (".0" : Str) = some NameKind.local)
    (hx : scope.names.lookup x = some .local) (hkind : scope.kind = .function) (hroom : A.depth < recursionLimit)
    (h : wpAny (model prog w) A (eval iter env) (fun xv s₁ => ∃ I it ax h₁ tk₁, xv = .ref I ∧ s₁ = { s with heap := h₁, toks := tk₁ } ∧ (∀ b o, s.heap.get? b = some o → h₁.get? b = some o) ∧ IsFilt h₁ I it ∧ h₁.IsTupleIter it ax 0 ∧ h₁.IsTuple ax (strValues l).toArray ∧
      s.heap.objs.size ≤ it ∧ it < I ∧ ax ≠ it) E s)
    (helt : ∀ (cv : Value) (D : Addr) (A' : Around) E' (y : Str) u (t : Shared) m₂, A'.handled = none → t.heap.Ns D m₂ → m₂ x = some (.str y u) → y.length ≤ 1000 →
      wpAny (model prog w) A' (eval elt (genEnv scope [] D cv builtinsNs env)) (fun v s₃ => (∃ u', v = .str (g y) u') ∧ Keeps t s₃) E' t)
    (hs : ∀ x, genFold iter env x = pure x)
    (hQ : ∀ a s₅ ps', Fr h₀ L s₅.heap m → News h₀ L s₅.heap ((P, tabObj ps') :: nw₂) → TriplesOk ps'.toList → AllBare s₅.gens → s₅.os = s.os → GenIs prog w A h₀ L ((P, tabObj ps') :: nw₂) a ((l.filter neT).map fun q => g q.1) s₅ → Q (.ref a) s₅) :
    wpAny (model prog w) A (eval (.GeneratorExp elt [⟨.Name x px, iter, [], 0⟩] scope pos) env) Q E s := by
  obtain ⟨bm, ob, M⟩ := bmod_of_top T
  have hPn := (N _ hP).2
  have hPh := (N _ hP).1
  refine wpAny_GeneratorExp_walksQ hh hco hclos hcell h0 hx hkind hroom (wpAny_mono h (fun xv s₁ h₁' => ?_) fun _ _ e => e) hs
  obtain ⟨I, it, ax, h₁, tk₁, rfl, rfl, hk₁, hf₁, hi₁, ht₁, hit, hII, hax⟩ := h₁'
  have hlim : h₁.NoLimit := (T.nolimit.keeps F.keep).keeps hk₁
  have W₀ : ∀ A' : Around, A'.handled = none → Walks prog w A' I [I, it, ax] [it] (l.filter neT).length _ _ := fun A' hA => Walks.filt hA I it ax (Nat.ne_of_gt hII) hax l hlen
  have hst : IsFilt h₁ I it ∧ h₁.IsTuple ax (strValues l).toArray ∧ ∃ k, k ≤ l.length ∧ h₁.IsTupleIter it ax k ∧ (l.drop k).filter neT = (l.filter neT).drop 0 := ⟨hf₁, ht₁, 0, Nat.zero_le _, hi₁, rfl⟩
  refine (W₀ A hh).self 0 _ _ _ hst ?_
  refine ⟨hlim, code_K (C := (C.keeps F.keep).keeps hk₁) (hk₁ _ _ hPh) ht hcode fun cv h₃ tk₃ ps' hx₃ hsz hP₃ ht₃ => ?_⟩
  have hgP := (M.keeps (F.keep)).apart ((C.keeps F.keep).tab hPh)
  have k₃ : ∀ b o, b ≠ P → s.heap.get? b = some o → h₃.get? b = some o := fun b o hb e => hx₃ b o hb (hk₁ b o e)
  have M₃ : BMod h₃ mainGlobals mg bm ob := (M.keeps F.keep).extBut ((C.keeps F.keep).tab hPh) (fun b o hb e => k₃ b o hb e)
  have hcP : cStatics ≠ P := fun e => by
    obtain ⟨_, hns, _⟩ := T.nolimit.keeps F.keep
    obtain ⟨o, es, ep, ho, hd, _⟩ := hns
    rw [e, hPh] at ho; cases ho; cases hd
  have hl₃ : h₃.NoLimit := (T.nolimit.keeps F.keep).extBut (fun b o hb e => k₃ b o hb e) hcP
  have hlt₁ := natLt (Heap.lt_size hf₁)
  have hII' := natLt hII
  have hit' := natLe hit
  have hPlt := natLt (Heap.lt_size hPh)
  have hcs : @LT.lt Nat instLTNat cStatics s.heap.objs.size := by
    obtain ⟨_, hns, _⟩ := T.nolimit.keeps F.keep
    exact hns.lt
  have haxl : @LT.lt Nat instLTNat ax h₁.objs.size := by obtain ⟨o, ho, _⟩ := ht₁; exact Heap.lt_size ho
  have haxP : ax ≠ P := fun e => by
    obtain ⟨o, ho, hc, _⟩ := ht₁
    rw [e, hk₁ _ _ hPh] at ho; cases ho; cases hc
  have hIs : @LE.le Nat instLENat h₁.objs.size h₃.objs.size := hsz
  rw [hglob]
  refine wpAny_builtinsFor M₃.ns M₃.name M₃.ne M₃.obj M₃.cls M₃.dict M₃.data ?_
  refine ⟨I, [I, it, ax], [it], (l.filter neT).length, _, _, (fun _ => true), (fun i v => ∃ q u, (l.filter neT)[i]? = some q ∧ v = .str (g q.1) u), rfl, W₀, (W₀ A hh).frame _ _ _ hst (fun b hb o e => hx₃ b o (fun e' => ?_) e), (fun b hb => ?_), hl₃, ?_,
    (fun href hhref => ⟨?_, ?_⟩), fun a h₅ tk gs hgb hag hsz₅ hk₅ W hat => ?_⟩
  · rw [e'] at hb
    rcases List.mem_cons.mp hb with e | hb
    · have e2 : @Eq Nat P I := e
      omega
    · rcases List.mem_cons.mp hb with e | hb
      · have e2 : @Eq Nat P it := e
        omega
      · exact haxP (List.mem_singleton.mp hb).symm
  · show @LT.lt Nat instLTNat b h₃.objs.size
    rcases List.mem_cons.mp hb with rfl | hb
    · omega
    · rcases List.mem_cons.mp hb with rfl | hb
      · omega
      · rw [List.mem_singleton.mp hb]; omega
  · intro hm
    have e2 : @Eq Nat cStatics it := List.mem_singleton.mp hm
    omega
  · intro A' E' i v s₂ m₂ hA hp hn hm _
    rw [List.forIn_nil]
    exact wpAny_pure ⟨rfl, s₂.heap, s₂.toks, rfl, fun _ _ e => e⟩
  · intro A' E' i v s₂ m₂ hA hp _ hn hm _
    obtain ⟨q, hq, rfl⟩ := hp
    refine wpAny_mono (helt cv _ A' E' q.1 q.2 s₂ m₂ hA hn hm (hlen q ((List.mem_filter.mp (List.mem_of_getElem? hq)).1))) (fun v s₃ hv => ?_) fun _ _ e => e
    obtain ⟨⟨u', rfl⟩, hk⟩ := hv
    exact ⟨⟨q, u', hq, rfl⟩, hk⟩
  · have hpl : (passing (fun _ => true) (l.filter neT).length 0).length = ((l.filter neT).map fun q => g q.1).length := by rw [passing_true]; simp
    rw [hpl] at W
    have k₅ : ∀ b o, b ≠ P → s.heap.get? b = some o → h₅.get? b = some o := fun b o hb e => hk₅ b o (k₃ b o hb e)
    refine hQ a _ ps' ⟨F.ns.at' fun o e => k₅ _ o (Ne.symm hPn.1) e, fun b o e => k₅ b o (fun z => by rw [z, hPn.2] at e; cases e) (F.keep b o e), F.above⟩ (fun q hq => ?_) ht₃ (G.push hgb) rfl
      ⟨_, _, _, _, _, W, hat, (fun i s' st => st.1.typeIs), List.mem_cons_self, ?_, ?_, ?_⟩
    · rcases List.mem_cons.mp hq with rfl | hq
      · exact ⟨hk₅ _ _ hP₃, hPn⟩
      · exact ⟨k₅ _ _ (hs2 q hq).2 (N q (hs2 q hq).1).1, (N q (hs2 q hq).1).2⟩
    · intro b hb
      show b < h₅.objs.size
      rw [hsz₅]
      rcases List.mem_cons.mp hb with rfl | hb
      · exact Nat.lt_succ_self _
      · rcases List.mem_cons.mp hb with rfl | hb
        · exact Nat.lt_succ_of_lt hag
        · exact Nat.lt_succ_of_lt (Nat.lt_trans (List.mem_range.mp hb) hag)
    · have hge : ∀ b, s.heap.objs.size ≤ b → h₀.get? b = none ∧ b ≠ L ∧ ∀ q ∈ ((P, tabObj ps') :: nw₂), q.1 ≠ b := fun b hb => by
        have hb' := natLe hb
        have hL : @LT.lt Nat instLTNat L s.heap.objs.size := F.ns.lt
        refine ⟨Heap.get?_none_of_le (by have := natLe F.above; show @LE.le Nat instLENat h₀.objs.size b; omega), addrNe (by omega), fun q hq => ?_⟩
        rcases List.mem_cons.mp hq with rfl | hq
        · refine addrNe ?_
          show ¬ @Eq Nat P b
          omega
        · have := natLt (Heap.lt_size (N q (hs2 q hq).1).1)
          exact addrNe (by omega)
      intro b hb
      apply hge
      rcases List.mem_cons.mp hb with rfl | hb
      · have hk := hlt₁
        show @LE.le Nat instLENat s.heap.objs.size h₃.objs.size
        omega
      · rw [List.mem_singleton.mp hb]; exact hit
    · intro j v hv
      obtain ⟨i, hi, q, u, hq, rfl⟩ := hv
      rw [passing_true] at hi
      have : j = i := by
        rw [List.getElem?_range] at hi
        · injection hi
        · have := List.getElem?_eq_some_iff.mp hi
          obtain ⟨h1, _⟩ := this
          simpa using h1
      subst this
      exact ⟨g q.1, u, by rw [List.getElem?_map, hq]; rfl, rfl⟩
end
end Mine
end
section
open PySem PySem.W PyProof.Rows
theorem Mine.cut_NGen : True ∧ True := by
  w_top off
  walk1
  all_goals exact True.intro
end

/- NWhileT -/
section
open PySem PySem.W PyProof.Rows PySem.Calls
set_option Elab.async false
set_option maxRecDepth 100000
namespace Mine
section
variable {prog : Program} {w : World} {A : Around} {E : Value → Shared → Prop} {Q : Flow → Shared → Prop} {s : Shared} {env : Env} {h₀ : Heap} {L : Addr}
/-- a while by an invariant over its names, the tokens known to be past the first -/
theorem whileT {σ : Type} {test : Expr} {body : List Stmt} {pos : Pos} {m₀ : Str → Option Value} {news : List (Addr × Obj)} (ps : σ → List (Str × Value)) (stored : List Str) (P : σ → Prop) (μ : σ → Nat) (c₀ : σ)
    (F : Fr h₀ L s.heap m₀) (N : News h₀ L s.heap news) (hk : ∀ p ∈ ps c₀, m₀ p.1 = some p.2) (hp : P c₀) (ht : 1 ≤ s.toks)
    (turn : ∀ (c : σ) (u : Str → Option Value) h tk, 1 ≤ tk → P c → Fr h₀ L h (kstB (fun z => if stored.contains z then u z else m₀ z) (ps c)) → News h₀ L h news →
      wpAny (model prog w) A (isTrue test env (eval test env)) (fun b s₂ =>
        if b = true then wpAny (model prog w) A (execs body env) (KswPost h₀ L s (fun _ => news) ps (fun _ => True) stored m₀ P μ Q c) E s₂ else Q .next s₂) E { s with heap := h, toks := tk })
    (hE : PassesOwn (model prog w) A env E := by passes_own) :
    wpAny (model prog w) A (exec (.While test body [] pos) env) Q E s := by
  refine wpAny_While (codeAny_whileLoop (fun n s' => ∃ (c : σ) (h : Heap) (tk : Nat) (m₁ : Str → Option Value), s' = { s with heap := h, toks := tk } ∧ 1 ≤ tk ∧ Fr h₀ L h m₁ ∧ News h₀ L h news ∧ μ c = n ∧ (∀ p ∈ ps c, m₁ p.1 = some p.2) ∧ (∀ z, (∀ p ∈ ps c, z ≠ p.1) → stored.contains z = false → m₁ z = m₀ z) ∧ P c) ?_ (μ c₀)
    ⟨c₀, s.heap, s.toks, m₀, rfl, ht, F, N, rfl, hk, fun _ _ _ => rfl, hp⟩)
  rintro n s' ⟨c, h, tk, m₁, rfl, ht1, F₁, N₁, hsz, h1, h2, hp'⟩
  refine wpAny_mono (wpAny_toks_of (n := 1) ht1 (turn c m₁ h tk ht1 hp' (ksw_fr h1 h2 F₁) N₁)) (fun b s₂ q => ?_) fun e s' x => hE _ _ x.2
  obtain ⟨ht2, q⟩ := q
  cases b with
  | false =>
    simp only [Bool.false_eq_true, if_false] at q ⊢
    exact wpAny_execs_nil q
  | true =>
    simp only [if_true] at q ⊢
    refine wpAny_mono (wpAny_toks_of (n := 1) ht2 q) (fun f s₃ r => ?_) fun e s' x => hE _ _ x.2
    obtain ⟨ht3, r⟩ := r
    cases f with
    | ret v => exact r
    | brk => exact r
    | next =>
      obtain ⟨c', h', tk', m', news', rfl, F', N', hn, _, hk9, hr9, hp9, hm9⟩ := r
      exact ⟨μ c', hsz ▸ hm9, c', h', tk', m', rfl, ht3, F', fun p hp => N' p (hn p hp), rfl, hk9, hr9, hp9⟩
    | cont =>
      obtain ⟨c', h', tk', m', news', rfl, F', N', hn, _, hk9, hr9, hp9, hm9⟩ := r
      exact ⟨μ c', hsz ▸ hm9, c', h', tk', m', rfl, ht3, F', fun p hp => N' p (hn p hp), rfl, hk9, hr9, hp9⟩
/-- behind a step the tokens are past the first -/
def TokQ {α : Type} (Q : α → Shared → Prop) : α → Shared → Prop := fun a s' => 1 ≤ s'.toks → Q a s'
theorem with_tokQ {α : Type} {t : Sem α} {Q : α → Shared → Prop} (hn : 1 ≤ s.toks) (h : wpAny (model prog w) A t (TokQ Q) E s) : wpAny (model prog w) A t Q E s :=
  wpAny_mono (wpAny_toks_of hn h) (fun _ _ x => x.2 x.1) (fun _ _ x => x.2)
theorem TokQ.intro {α : Type} {Q : α → Shared → Prop} {a : α} (h : 1 ≤ s.toks → Q a s) : TokQ Q a s := h
structure TokGe (n : Nat) : Prop where
  out : 1 ≤ n
theorem tok_has {α : Type} {M : Model} {t : Sem α} {QQ : α → Shared → Prop} {hp : Heap} {g d} {tk : Nat} {os} (_ : TokGe tk) (h : wpAny M A t QQ E ⟨hp, g, d, tk, os⟩) : wpAny M A t QQ E ⟨hp, g, d, tk, os⟩ := h
theorem tok_gen {α : Type} {M : Model} {t : Sem α} {QQ : α → Shared → Prop} {hp : Heap} {g d} {tk : Nat} {os} (hn : 1 ≤ tk) (h : ∀ tk, TokGe tk → 1 ≤ tk → wpAny M A t QQ E ⟨hp, g, d, tk, os⟩) : wpAny M A t QQ E ⟨hp, g, d, tk, os⟩ := h tk ⟨hn⟩ hn
/-- a replaced text, kept shut -/
structure ReplIs (d x y z : Str) : Prop where
  out : d = Txt.replace x y z
theorem repl_len (x y z : Str) (h : z.length ≤ y.length) : (Txt.replace x y z).length ≤ x.length := by
  unfold Txt.replace
  split
  · exact Nat.le_refl _
  · have h1 := congrArg Str.length (StrLaws.glued_between_self x y (x.length + 1))
    rw [PySem.size_glued] at h1 ⊢
    have := Nat.mul_le_mul_left ((Builtin.Str.partsBetween x (Builtin.Str.occurrences x y 0 x.length (x.length + 1)) y.length).length - 1) h
    omega
theorem replK {x y z : Str} {t u v : Tok} {QV : Value → Shared → Prop} (htk : 1 ≤ s.toks) (hu : u ≠ 0) (hv : v ≠ 0) (huv : u ≠ v) (hyz : (y == z) = false) (hx : x.length ≤ 1000) (hzy : z.length ≤ y.length) (hz : z.length ≤ 14)
    (hq : ∀ d t' k, ReplIs d x y z → d.length ≤ x.length → 1 ≤ k → QV (.str d t') { s with toks := k }) : wpAny (model prog w) A (call (.builtin "str.replace") [.str x t, .str y u, .str z v]) QV E s := by
  refine wpAny_with_toks (n := 1) htk ?_
  exact SC.replaceW hu hv huv hyz (by omega) hz fun t' k hk => hq _ t' k ⟨rfl⟩ (repl_len x y z hzy) hk
end
end Mine
end
section
open PySem PySem.W PyProof.Rows
theorem Mine.cut_NWhileT : True ∧ True := by
  w_top off
  walk1
  all_goals exact True.intro
end

/- NText -/
section
open PySem PySem.W PyProof.Rows PySem.Calls PySem.Builtin PySem.Builtin.Str
set_option Elab.async false
set_option maxRecDepth 100000
namespace Mine
def clipN (n d : Nat) : Option Int → Nat
  | none => d
  | some i => (max 0 (min (if i < 0 then i + n else i) n)).toNat
theorem pick_range {α : Type} (l : List α) : ∀ (m a : Nat), (List.range' a m).filterMap (fun i => l[i]?) = (l.drop a).take m
  | 0, a => by simp
  | m + 1, a => by
    rw [List.range'_succ, List.filterMap_cons, pick_range l m (a + 1)]
    by_cases h : a < l.length
    · rw [List.getElem?_eq_getElem h, List.drop_eq_getElem_cons h, List.take_succ_cons]
    · rw [List.getElem?_eq_none (by omega), List.drop_eq_nil_of_le (by omega), List.drop_eq_nil_of_le (by omega)]
      simp
theorem sliceRange_one (a b : Nat) : sliceRange (a : Int) (b : Int) 1 = List.range' a (b - a) := by
  unfold sliceRange
  simp only [show (1 : Int) > 0 by decide, if_true]
  have e : (if (a : Int) < b then ((b : Int) - a + 1 - 1) / 1 else 0).toNat = b - a := by
    split <;> simp <;> omega
  rw [e, List.range'_eq_map_range]
  apply List.map_congr_left
  intro k _
  simp only [Int.one_mul]
  omega
theorem clip_eq (n d : Nat) (v : Option Int) : (match v with | none => (d : Int) | some i => max 0 (min (if i < 0 then i + n else i) n)) = (clipN n d v : Int) := by
  cases v with
  | none => rfl
  | some i =>
    simp only [clipN]
    omega
theorem sliceIdx_eq (l u : Option Int) (n : Nat) : strSliceIndices l u 1 n = List.range' (clipN n 0 l) (clipN n n u - clipN n 0 l) := by
  rw [← sliceRange_one]
  unfold strSliceIndices
  simp only [show (1 : Int) > 0 by decide, if_true]
  rw [← clip_eq n 0 l, ← clip_eq n n u]
  rfl
theorem clip_le (n d : Nat) (hd : d ≤ n) (v : Option Int) : clipN n d v ≤ n := by
  cases v with
  | none => exact hd
  | some i => simp only [clipN]; omega
theorem slice_toList (x : Str) (l u : Option Int) : (Txt.slice x l u).cps.toList = (x.cps.toList.drop (clipN x.length 0 l)).take (clipN x.length x.length u - clipN x.length 0 l) := by
  unfold Txt.slice
  rw [sliceIdx_eq]
  have hn : x.cps.toList.length = x.length := by simp [Str.length]
  have h1 := clip_le x.length 0 (Nat.zero_le _) l
  have h2 := clip_le x.length x.length (Nat.le_refl _) u
  split
  · rename_i h
    simp only [Bool.and_eq_true, beq_iff_eq, List.length_range', true_and] at h
    by_cases h0 : x.length = 0
    · have : x.cps.toList = [] := List.length_eq_zero_iff.mp (by omega)
      rw [this]; simp
    · have e1 : clipN x.length 0 l = 0 := by omega
      have e2 : clipN x.length x.length u = x.length := by omega
      rw [e1, e2, List.drop_zero, List.take_of_length_le (by omega)]
  · have := pick_range x.cps.toList (clipN x.length x.length u - clipN x.length 0 l) (clipN x.length 0 l)
    rw [← this]
    simp
theorem str_ext {x y : Str} (h : x.cps.toList = y.cps.toList) : x = y := by
  apply Str.ext'
  exact Array.toList_inj.mp h
theorem len_list (x : Str) : x.cps.toList.length = x.length := by simp [Str.length]
theorem slice_butLast (x : Str) : (Txt.slice x none (some (-1))).cps.toList = x.cps.toList.dropLast := by
  rw [slice_toList, List.dropLast_eq_take, len_list]
  simp only [clipN, List.drop_zero]
  congr 1
  split <;> omega
theorem slice_last (x : Str) : (Txt.slice x (some (-1)) none).cps.toList = x.cps.toList.drop (x.length - 1) := by
  rw [slice_toList]
  simp only [clipN]
  have e : (max 0 (min (if (-1 : Int) < 0 then -1 + (x.length : Int) else -1) x.length)).toNat = x.length - 1 := by
    split <;> omega
  rw [e, List.take_of_length_le]
  rw [List.length_drop, len_list]
  omega
theorem slice_at (x : Str) (a : Nat) (k : Nat) : (Txt.slice x (some (a : Int)) (some ((a : Int) + (k : Int)))).cps.toList = (x.cps.toList.drop a).take k := by
  rw [slice_toList]
  simp only [clipN]
  by_cases ha : a ≤ x.length
  · have e1 : (max 0 (min (if (a : Int) < 0 then (a : Int) + (x.length : Int) else a) x.length)).toNat = a := by split <;> omega
    have e2 : (max 0 (min (if (a : Int) + (k : Int) < 0 then (a : Int) + (k : Int) + (x.length : Int) else (a : Int) + (k : Int)) x.length)).toNat = min (a + k) x.length := by split <;> omega
    rw [e1, e2]
    by_cases hk : a + k ≤ x.length
    · congr 1; omega
    · rw [List.take_of_length_le (by rw [List.length_drop, len_list]; omega), List.take_of_length_le (by rw [List.length_drop, len_list]; omega)]
  · have e1 : (max 0 (min (if (a : Int) < 0 then (a : Int) + (x.length : Int) else a) x.length)).toNat = x.length := by split <;> omega
    rw [e1, List.drop_eq_nil_of_le (by rw [len_list]; exact Nat.le_refl _), List.drop_eq_nil_of_le (by rw [len_list]; omega)]
    simp
theorem item_last (x : Str) (h : x.length ≠ 0) : (Txt.item x (-1)).cps.toList = [x.cps.toList.getLastD 0] := by
  unfold Txt.item Txt.charAt seqIndex?
  have e : (if (-1 : Int) < 0 then -1 + (x.length : Int) else -1) = ((x.length - 1 : Nat) : Int) := by split <;> omega
  simp only [e]
  have hb : (0 ≤ ((x.length - 1 : Nat) : Int) ∧ ((x.length - 1 : Nat) : Int) < (x.length : Int)) := by omega
  have hl : x.cps.toList ≠ [] := fun e => h (by rw [← len_list, e]; rfl)
  have hlt : x.length - 1 < x.cps.size := by show x.length - 1 < x.length; omega
  have hlt' : x.cps.size - 1 < x.cps.size := hlt
  simp [List.getLastD_eq_getLast?, List.getLast?_eq_getElem?, Str.length, hlt']
theorem item_at (x : Str) (a : Nat) (h : a < x.length) : (Txt.item x (a : Int)).cps.toList = [x.cps.toList[a]'(by rw [len_list]; exact h)] := by
  unfold Txt.item Txt.charAt seqIndex?
  have e : (if (a : Int) < 0 then (a : Int) + (x.length : Int) else a) = (a : Int) := by split <;> omega
  simp only [e]
  have hlt : a < x.cps.size := h
  have hb : (0 ≤ (a : Int) ∧ (a : Int) < (x.length : Int)) := by omega
  simp [hlt, h]
end Mine
end
section
open PySem PySem.W PyProof.Rows
theorem Mine.cut_NText : True ∧ True := by
  w_top off
  walk1
  all_goals exact True.intro
end

/- NPlatD -/
section
open PySem PySem.W PyProof.Rows PySem.Calls
set_option Elab.async false
set_option maxRecDepth 100000
namespace Mine
def platParts (x y z : Str) : List Str := ([x, y, z].filter fun r => r.length != 0).map Txt.strip
def ddF (p : Str) : Str := Txt.replace p (Str.ofString "--") (Str.ofString "-")
theorem dd_len (p : Str) (h : ddF p ≠ p) : (ddF p).length < p.length := by
  unfold ddF Txt.replace at h ⊢
  split
  · rename_i hc; rw [if_pos hc] at h; exact absurd rfl h
  · rename_i hc
    have h1 := congrArg Str.length (StrLaws.glued_between_self p (Str.ofString "--") (p.length + 1))
    rw [PySem.size_glued] at h1 ⊢
    have e1 : (Str.ofString "--").length = 2 := by decide +kernel
    have e2 : (Str.ofString "-").length = 1 := by decide +kernel
    rw [PySem.length_partsBetween, e1] at h1
    rw [PySem.length_partsBetween, e1, e2]
    have h3 : 0 < (Builtin.Str.occurrences p (Str.ofString "--") 0 p.length (p.length + 1)).length := by
      rw [Bool.or_eq_true, not_or] at hc
      rcases Nat.eq_zero_or_pos (Builtin.Str.occurrences p (Str.ofString "--") 0 p.length (p.length + 1)).length with h4 | h4
      · exfalso
        apply hc.1
        rw [List.length_eq_zero_iff.mp h4]; rfl
      · exact h4
    omega
structure DashInv (d e : Str) : Prop where
  out : ∃ k : Nat, e = (Nat.repeat ddF k d)
theorem DashInv.start (d : Str) : DashInv d d := ⟨0, rfl⟩
theorem DashInv.step {d e f : Str} (h : DashInv d e) (hf : ReplIs f e (Str.ofString "--") (Str.ofString "-")) : DashInv d f := by
  obtain ⟨k, rfl⟩ := h.out
  exact ⟨k + 1, hf.out⟩
structure FixIs (e : Str) : Prop where
  out : ddF e = e
structure EndInv (e r : Str) : Prop where
  out : ∃ l : List Nat, (∀ c ∈ l, c = 45) ∧ e.cps.toList = r.cps.toList ++ l
theorem EndInv.start (e : Str) : EndInv e e := ⟨[], fun _ h => (nomatch h), (List.append_nil _).symm⟩
theorem dash_list : (Str.ofString "-").cps.toList = [45] := by decide +kernel
theorem EndInv.step {e r : Str} (h : EndInv e r) (h0 : (r.length : Int) ≠ 0) (hi : (Txt.item r (-1) == Str.ofString "-") = true) : EndInv e (Txt.slice r none (some (-1))) ∧ (Txt.slice r none (some (-1))).length < r.length := by
  obtain ⟨l, hl, he⟩ := h.out
  have hne : r.length ≠ 0 := fun e => h0 (by rw [e]; rfl)
  have h1 := item_last r hne
  rw [eq_of_beq hi, dash_list] at h1
  have hlast : r.cps.toList.getLastD 0 = 45 := by injection h1 with h1 _; exact h1.symm
  have hl0 : r.cps.toList ≠ [] := fun e => hne (by rw [← len_list, e]; rfl)
  have hsplit : r.cps.toList = r.cps.toList.dropLast ++ [45] := by
    conv => lhs; rw [← List.dropLast_concat_getLast hl0]
    rw [← hlast, List.getLastD_eq_getLast?, List.getLast?_eq_some_getLast hl0]; rfl
  refine ⟨⟨45 :: l, fun c hc => ?_, ?_⟩, ?_⟩
  · rcases List.mem_cons.mp hc with rfl | hc
    · rfl
    · exact hl c hc
  · rw [slice_butLast, he]
    conv => lhs; rw [hsplit]
    simp
  · rw [← len_list, ← len_list r, slice_butLast, List.length_dropLast]
    rw [len_list]; omega
/-- the chain of replacements -/
structure PlatChain (x y z d9 : Str) : Prop where
  out : ∃ d0 d1 d2 d3 d4 d5 d6 d7 d8, d0 = Txt.join (Str.ofString "-") (platParts x y z) ∧ ReplIs d1 d0 (Str.ofString " ") (Str.ofString "_") ∧ ReplIs d2 d1 (Str.ofString "/") (Str.ofString "-") ∧ ReplIs d3 d2 (Str.ofString "\\") (Str.ofString "-") ∧
    ReplIs d4 d3 (Str.ofString ":") (Str.ofString "-") ∧ ReplIs d5 d4 (Str.ofString ";") (Str.ofString "-") ∧ ReplIs d6 d5 (Str.ofString "\"") (Str.ofString "-") ∧ ReplIs d7 d6 (Str.ofString "(") (Str.ofString "-") ∧ ReplIs d8 d7 (Str.ofString ")") (Str.ofString "-") ∧
    ReplIs d9 d8 (Str.ofString "unknown") (Str.ofString "")
/-- what _platform gives back -/
structure PlatIs (x y z r : Str) : Prop where
  out : ∃ d9 e, PlatChain x y z d9 ∧ DashInv d9 e ∧ FixIs e ∧ EndInv e r ∧ (r.cps.toList = [] ∨ Txt.item r (-1) ≠ Str.ofString "-")
theorem sum_lenP {k : Nat} : ∀ {qs : List Str}, (∀ r ∈ qs, r.length ≤ k) → (qs.map (·.length)).sum ≤ k * qs.length
  | [], _ => by simp
  | q :: qs, h => by
    have h1 := h q (List.mem_cons_self ..)
    have h2 := sum_lenP (qs := qs) fun r hr => h r (List.mem_cons_of_mem _ hr)
    simp only [List.map_cons, List.sum_cons, List.length_cons, Nat.mul_succ]
    omega
theorem platParts_of (x y z : Str) (tx ty tz : Tok) : (([(x, tx), (y, ty), (z, tz)].filter neT).map fun q => Txt.strip q.1) = platParts x y z := by
  unfold platParts
  simp only [List.filter_cons, List.filter_nil, neT]
  by_cases h1 : (x.length != 0) = true <;> by_cases h2 : (y.length != 0) = true <;> by_cases h3 : (z.length != 0) = true <;> simp only [h1, h2, h3, if_true, if_false, List.map_cons, List.map_nil, Bool.false_eq_true]
theorem platParts_len {x y z : Str} (hx : x.length ≤ 20) (hy : y.length ≤ 20) (hz : z.length ≤ 20) : ∀ r ∈ platParts x y z, r.length ≤ 20 := by
  intro r hr
  unfold platParts at hr
  obtain ⟨q, hq, rfl⟩ := List.mem_map.mp hr
  have h1 := (List.mem_filter.mp hq).1
  have h2 := PyProof.Rows.len_strip q
  simp only [List.mem_cons, List.not_mem_nil, or_false] at h1
  rcases h1 with rfl | rfl | rfl <;> omega
theorem platParts_count (x y z : Str) : (platParts x y z).length ≤ 3 := by
  unfold platParts
  rw [List.length_map]
  exact Nat.le_trans (List.length_filter_le _ _) (by simp)
theorem platJoin_ok {x y z : Str} (hx : x.length ≤ 20) (hy : y.length ≤ 20) (hz : z.length ≤ 20) : JoinOk (Str.ofString "-") (platParts x y z) = true ∧ (Txt.join (Str.ofString "-") (platParts x y z)).length ≤ 70 := by
  have h1 := platParts_len hx hy hz
  have h2 := platParts_count x y z
  have h3 := sum_lenP (k := 20) h1
  have e2 : (Str.ofString "-").length = 1 := by decide +kernel
  constructor
  · have h4 := StrLaws.joinFits (sep := Str.ofString "-") (B := 20) h1 (by rw [e2]; omega)
    unfold JoinOk
    rw [h4]; rfl
  · have := StrLaws.join_length_le (Str.ofString "-") (platParts x y z)
    rw [e2] at this
    unfold Txt.join
    rw [StrLaws.glued_eq_join]
    omega
theorem ReplIs.len {d x y z : Str} (h : ReplIs d x y z) (hzy : z.length ≤ y.length) : d.length ≤ x.length := by
  rw [h.out]; exact repl_len x y z hzy
theorem PlatChain.len {x y z d : Str} (h : PlatChain x y z d) (hx : x.length ≤ 20) (hy : y.length ≤ 20) (hz : z.length ≤ 20) : d.length ≤ 70 := by
  obtain ⟨d0, d1, d2, d3, d4, d5, d6, d7, d8, h0, h1, h2, h3, h4, h5, h6, h7, h8, h9⟩ := h.out
  have k0 := (platJoin_ok hx hy hz).2
  rw [← h0] at k0
  have k1 := h1.len (by decide +kernel)
  have k2 := h2.len (by decide +kernel)
  have k3 := h3.len (by decide +kernel)
  have k4 := h4.len (by decide +kernel)
  have k5 := h5.len (by decide +kernel)
  have k6 := h6.len (by decide +kernel)
  have k7 := h7.len (by decide +kernel)
  have k8 := h8.len (by decide +kernel)
  have k9 := h9.len (by decide +kernel)
  omega
/-- the joined text; kept shut -/
structure PJoin (d x y z : Str) : Prop where
  out : d = Txt.join (Str.ofString "-") (platParts x y z)
end Mine
end
section
open PySem PySem.W PyProof.Rows
theorem Mine.cut_NPlatD : True ∧ True := by
  w_top off
  walk1
  all_goals exact True.intro
end

/- NPlat -/
section
open PySem PySem.W PyProof.Rows PySem.Calls
set_option Elab.async false
set_option maxRecDepth 100000
set_option pp.deepTerms false
set_option pp.maxSteps 6000
namespace Mine
theorem fill_plat : ∀ w : World, (hd.heap_39 w.params) = (hd.heap_39 w.params) ∧ PySem.Challenge.rw_nb0114_01.row.prog = PySem.Challenge.rw_nb0114_01.row.prog := by
  k_fill
  exact fun _ => ⟨rfl, rfl⟩
section
variable {w : World} {p : Program} {loose : List Str} {mean : ExcName → Option Value} {mg mb : Str → Option Value} {dp un : Nat} {gd : Option (List Code)} {cn : Str} {cs : Scope} {a : Addr} {ccd : Value} {cl : List (Str × Addr)} {outer : List Env} {A₀ : Around} {base h₀ : Heap} {L : Addr} {m : Str → Option Value} {news : List (Addr × Obj)} {P : Addr} {ps : Array Value} {s : Shared} {Q E : Value → Shared → Prop}

local macro_rules | `(tactic| walk_at "eval GeneratorExp") => `(tactic| (refine Halt.out ?_))
local macro_rules | `(tactic| walk_at "call builtin:str.join") => `(tactic| (refine Halt.out ?_))
local macro_rules | `(tactic| walk_at "KswPost") => `(tactic| (refine Halt.out ?_))
local macro_rules | `(tactic| walk_at "exec While") => `(tactic| (refine Halt.out ?_))
local macro_rules | `(tactic| walk_at "storeName") => `(tactic| ((fail_if_success (with_reducible show wpAny _ _ _ (TokQ _) _ _)); refine' with_tokQ ?tk1 ?_; (case tk1 => (try dsimp only); omega)))
local macro_rules | `(tactic| walk_at "TokQ") => `(tactic| (refine TokQ.intro fun _ => ?_))
local macro_rules | `(tactic| walk_at "execs cons") => `(tactic| ((fail_if_success (with_reducible refine tok_has (by with_reducible assumption) ?_)); refine' tok_gen ?tk1 ?_; (case tk1 => (try dsimp only at *); omega); intro _ _ _))
local macro_rules | `(tactic| walk_at "call builtin:str.replace") => `(tactic| (refine' replK ?r1 ?r2 ?r3 ?r4 ?r5 ?r6 ?r7 ?r8 ?_; (case r1 => (try dsimp only); omega); (case r2 => (show @Ne Nat _ _); omega); (case r3 => (show @Ne Nat _ _); omega); (case r4 => (show @Ne Nat _ _); omega); (case r5 => decide +kernel); (case r6 => omega); (case r7 => decide +kernel); (case r8 => decide +kernel); intro _ _ _ _ _ _))
set_option maxHeartbeats 8000000 in
theorem ct_plat {x y z : Str} {tx ty tz : Tok} (B : Below A₀ base outer h₀) (F : Fr h₀ L s.heap m) (X : (hd.heap_39 w.params).In h₀) (N : News h₀ L s.heap ((P, tabObj ps) :: news)) (T : Top p loose mean mg mb h₀) (hk : cs.kind = .function) (hdp : dp + 10 < recursionLimit) (hun : un + 100 < cLine) (G : AllBare s.gens) (C : CodeHd h₀ 63 P) (hps : TriplesOk ps.toList) (hPn : ∀ q ∈ news, q.1 ≠ P) (hx : x.length ≤ 20) (hy : y.length ≤ 20) (hz : z.length ≤ 20) (ret : ∀ r t s' ps', PlatIs x y z r → r.length ≤ 70 → Fr h₀ L s'.heap m → News h₀ L s'.heap ((P, tabObj ps') :: news) → TriplesOk ps'.toList → AllBare s'.gens → s'.os = s.os → Q (.str r t) s') :
    wpAny (model PySem.Challenge.rw_nb0114_01.row.prog w) (ktrTop dp un gd cn cs L a ccd cl outer) (call (.ref 64) [.str x tx, .str y ty, .str z tz] []) Q E s := by

  refine wpAny_call ?_
  refine' kp_rest (binds := fun D => [(Str.ofString "args", Value.ref D)]) ?k1 ?k2 ?k3 ?k4 ?k5 ?kA ?kF ?kK ?k6 ?k7 ?k8 ?kV ?kP ?kG ?kB ?_ ?c2 ?c3 ?c4 ?c5
  case kA => exact rfl
  case kF => exact rfl
  case kK => assumption
  case k1 => k_asm
  case k2 => k_asm
  case k3 => k_asm
  case k4 => k_asm
  case k5 => k_asm
  case k6 => k_is
  case k7 => k_is
  case k8 => ktr_room
  case kV => kl_lit
  case kP => exact rfl
  case kG => exact fun _ => rfl
  case kB => exact fun _ => locs rfl
  case c5 => decide
  case c2 => exact rfl
  case c3 => exact rfl
  case c4 => exact rfl
  intro D1 g' L' h' l1 FG' F' N' B' X' T'
  have C' : CodeHd g' 63 P := C.keeps FG'.keep
  (try dsimp only)
  (try k_lift B')
  (try k_fold)
  k_steps
  unfold Halt
  refine wpAny_with_toks (n := 1) (by (show 1 ≤ s.toks + 1 + 1); omega) ?_
  refine' gen_K (P := P) (c := 63) (nw₂ := (D1, ({ cls := Value.type "tuple", data := Data.seq #[Value.str x tx, Value.str y ty, Value.str z tz] } : Obj)) :: news) (l := [(x, tx), (y, ty), (z, tz)]) (g := Txt.strip) F' N' T' C' ?g1 hps ?g2 ?g3 rfl rfl ?g4 rfl rfl ?g5 ?g6 ?g7 ?g8 ?g9 ?g10 ?g11 ?g12 ?g13 ?_
  case g1 => exact List.Mem.tail _ (List.Mem.head _)
  case g2 => exact G
  case g3 =>
    intro q hq
    rcases List.mem_cons.mp hq with rfl | hq
    · exact ⟨List.Mem.head _, Nat.ne_of_gt (l1 _ (List.Mem.head _))⟩
    · exact ⟨List.Mem.tail _ (List.Mem.tail _ hq), hPn q hq⟩
  case g4 =>
    intro q hq
    simp only [List.mem_cons, List.not_mem_nil, or_false] at hq
    rcases hq with rfl | rfl | rfl <;> (dsimp only; omega)
  case g5 => exact rfl
  case g6 => decide
  case g7 => decide
  case g8 => decide
  case g9 => exact rfl
  case g10 => ktr_room
  case g11 =>
    k_steps
    have ht1 : h'.IsTuple D1 #[Value.str x tx, Value.str y ty, Value.str z tz] := ⟨_, (N' _ (List.Mem.head _)).1, rfl, 0, rfl⟩
    refine call_filter ht1 fun h1 hf hi hs hk1 => ?_
    refine ⟨_, _, D1, h1, _, rfl, rfl, hk1, hf, hi, ?_, Nat.le_refl _, Nat.lt_succ_self _, ?_⟩
    · exact ht1.at fun o e => hk1 _ o e
    · exact Nat.ne_of_lt (Heap.lt_size (N' _ (List.Mem.head _)).1)
  case g12 =>
    intro cv D9 A9 E9 y9 u9 t9 m9 hh9 hn9 hm9 hy9
    have F9 : Fr ({ t9.heap with objs := #[] } : Heap) D9 t9.heap m9 := ⟨hn9, fun b o e => by simp [Heap.get?] at e, Nat.zero_le _⟩
    have lgeM := LGe.Mark.mk
    clear F' N' N F FG'
    k_steps
    exact ⟨_, _, rfl, fun _ _ e => e⟩
  case g13 => intro _; exact rfl
  intro a9 s9 ps9 F9 N9 ht9 G9 ho9 X9 htk9
  clear F' N'
  k_steps
  unfold Halt
  rw [platParts_of] at X9
  have hok := platJoin_ok hx hy hz
  refine wpAny_with_toks (n := 1) htk9 ?_
  refine join_gen F9 N9 G9 X9 hok.1 (by rw [sizeLine_eq]; have := platParts_count x y z; omega) ?_
  intro s8 t8 F8 N8 G8 ho8 htk8
  clear F9 N9 X9 G9
  have hl8 := hok.2
  clear hok
  generalize hd0 : Txt.join (Str.ofString "-") (platParts x y z) = d0 at hl8
  have hd0' : PJoin d0 x y z := ⟨hd0.symm⟩
  clear hd0
  k_steps
  unfold Halt
  rename ReplIs _ _ (Str.ofString " ") _ => q1
  rename ReplIs _ _ (Str.ofString "/") _ => q2
  rename ReplIs _ _ (Str.ofString "\\") _ => q3
  rename ReplIs _ _ (Str.ofString ":") _ => q4
  rename ReplIs _ _ (Str.ofString ";") _ => q5
  rename ReplIs _ _ (Str.ofString "\"") _ => q6
  rename ReplIs _ _ (Str.ofString "(") _ => q7
  rename ReplIs _ _ (Str.ofString ")") _ => q8
  rename ReplIs _ _ (Str.ofString "unknown") _ => q9
  rename Fr _ _ _ _ => lF
  rename News _ _ _ _ => lN
  rename TokGe _ => lT
  have hch : PlatChain x y z _ := ⟨_, _, _, _, _, _, _, _, _, hd0'.out, q1, q2, q3, q4, q5, q6, q7, q8, q9⟩
  have hlen9 := hch.len hx hy hz
  clear q1 q2 q3 q4 q5 q6 q7 q8 q9
  refine' whileT (σ := Str × Tok) (fun c => [(Str.ofString "platform", .str c.1 c.2)]) [Str.ofString "cleaned"] (fun c => DashInv _ c.1 ∧ c.1.length ≤ 70) (fun c => c.1.length) (_, _) lF lN ?w1 ⟨DashInv.start _, hlen9⟩ ?w2 ?w3
  case w1 => intro p hp; rw [List.mem_singleton.mp hp]; rfl
  case w2 => exact lT.out
  case w3 =>
    rintro ⟨c1, t1⟩ u1 h1 tk1 htk1 ⟨hP1, hl1⟩ F1 N1
    dsimp only at hP1 hl1 F1 N1 ⊢
    clear lF lN lT
    have hT1 : TokGe tk1 := ⟨htk1⟩
    k_steps
    all_goals unfold Halt KswPost
    · rename ReplIs _ c1 _ _ => hr1
      rename (_ == c1) = true => hq1
      have hfix : FixIs c1 := ⟨by
        have := eq_of_beq hq1
        rw [hr1.out] at this
        exact this⟩
      clear hr1 hq1
      dsimp only
      k_steps
      unfold Halt
      rename Fr _ _ _ _ => lF
      rename News _ _ _ _ => lN
      rename TokGe _ => lT
      refine' whileT (σ := Str × Tok) (fun c => [(Str.ofString "platform", .str c.1 c.2)]) [] (fun c => EndInv c1 c.1 ∧ c.1.length ≤ 70) (fun c => c.1.length) (_, _) lF lN ?w1 ⟨EndInv.start _, hl1⟩ ?w2 ?w3
      case w1 => intro p hp; rw [List.mem_singleton.mp hp]; rfl
      case w2 => exact lT.out
      case w3 =>
        rintro ⟨c2, t2⟩ u2 h2 tk2 htk2 ⟨hP2, hl2⟩ F2 N2
        dsimp only at hP2 hl2 F2 N2 ⊢
        clear lF lN lT
        have hT2 : TokGe tk2 := ⟨htk2⟩
        k_steps
        · unfold Halt KswPost
          rename (Txt.item c2 (-1) == Str.ofString "-") = true => hq2
          rename (c2.length : Int) ≠ 0 => hz2
          obtain ⟨hs2, hm2⟩ := hP2.step hz2 hq2
          refine' ksw_end (Txt.slice c2 none (some (-1)), _) (by assumption) (by assumption) ?e1 trivial ?e2 ?e3 ⟨hs2, Nat.le_trans (Nat.le_of_lt hm2) hl2⟩ ?e8
          case e1 => exact fun _ h => h
          case e2 => intro p hp; rw [List.mem_singleton.mp hp]; rfl
          case e3 =>
            intro z h2 h3
            have e1 : z ≠ Str.ofString "platform" := h2 _ (List.Mem.head _)
            simp only [kstB, e1, h3, if_false, Bool.false_eq_true]
          case e8 => exact hm2
        · rename (Txt.item c2 (-1) == Str.ofString "-") = false => hq2
          refine ret c2 t2 _ ps9 ⟨_, c1, hch, hP1, hfix, hP2, .inr fun e => ?_⟩ hl2 (by k_asm) (fun q hq => ?_) ht9 G8 (ho8.trans ho9)
          · rw [e] at hq2; simp at hq2
          · rename News h₀ _ _ _ => kN
            rcases List.mem_cons.mp hq with rfl | hq
            · exact kN _ (List.Mem.head _)
            · exact kN _ (List.Mem.tail _ (List.Mem.tail _ hq))
        · rename (c2.length : Int) = 0 => hz2
          refine ret c2 t2 _ ps9 ⟨_, c1, hch, hP1, hfix, hP2, .inl ?_⟩ hl2 (by k_asm) (fun q hq => ?_) ht9 G8 (ho8.trans ho9)
          · have h0 : c2.length = 0 := by omega
            exact List.length_eq_zero_iff.mp (by rw [len_list]; exact h0)
          · rename News h₀ _ _ _ => kN
            rcases List.mem_cons.mp hq with rfl | hq
            · exact kN _ (List.Mem.head _)
            · exact kN _ (List.Mem.tail _ (List.Mem.tail _ hq))
    · rename ReplIs _ c1 _ _ => hr1
      rename (_ == c1) = false => hq1
      refine' ksw_end (_, _) (by assumption) (by assumption) ?e1 trivial ?e2 ?e3 ⟨hP1.step hr1, by dsimp only; omega⟩ ?e8
      case e1 => exact fun _ h => h
      case e2 => intro p hp; rw [List.mem_singleton.mp hp]; rfl
      case e3 =>
        intro z h2 h3
        have e1 : z ≠ Str.ofString "platform" := h2 _ (List.Mem.head _)
        have e3 : z ≠ Str.ofString "cleaned" := by
          intro e; rw [e] at h3; exact absurd h3 (by decide +kernel)
        simp only [kstB, e1, e3, h3, if_false, Bool.false_eq_true]
      case e8 =>
        dsimp only
        have hne : ddF c1 ≠ c1 := fun e => by
          rw [hr1.out, show Txt.replace c1 (Str.ofString "--") (Str.ofString "-") = c1 from e] at hq1
          simp at hq1
        rw [hr1.out]
        exact dd_len c1 hne
end
end Mine
end
section
open PySem PySem.W PyProof.Rows
theorem Mine.cut_NPlat : True ∧ True := by
  w_top off
  walk1
  all_goals exact True.intro
end

/- NMapInt -/
section
open PySem PySem.W PyProof.Rows PySem.Calls PySem.NumText
set_option Elab.async false
set_option maxRecDepth 100000
namespace Mine
def isMapNext : Code → Bool
  | .builtin id _ => id == "map.__next__"
  | _ => false
/-- map.__next__ stands below, ahead of any Python code -/
def NBelow (Γ : Ctx) : Prop := (((Γ.below.map (·.1)).takeWhile (·.env?.isNone)).any isMapNext) = true
def wpX {α : Type} (M : Model) (A : Around) (t : Sem α) (Q : α → Shared → Prop) (E : Value → Shared → Prop) (s : Shared) : Prop :=
  ∀ Γ p, Γ.In A → Γ.code.env?.isNone = true → NBelow Γ → Sem.wp M Γ t (fun a _ s' => Q a s') (fun e _ s' => E e s') p s
def codeX (M : Model) (A : Around) (c : Code) (R : Result → Shared → Prop) (s : Shared) : Prop :=
  ∀ Γ p, Γ.code = c → Γ.Below A → NBelow Γ → wpCode M Γ R p s
section
variable {α β : Type} {M : Model} {A : Around} {E : Value → Shared → Prop} {s : Shared}
theorem X_any {t : Sem α} {Q : α → Shared → Prop} (h : wpAny M A t Q E s) : wpX M A t Q E s := fun Γ p hΓ _ _ => h Γ p hΓ
theorem X_pure {a : α} {Q : α → Shared → Prop} (h : Q a s) : wpX M A (pure a) Q E s := X_any (wpAny_pure h)
theorem X_bind {m : Sem α} {f : α → Sem β} {Q : β → Shared → Prop} (h : wpX M A m (fun a s' => wpX M A (f a) Q E s') E s) : wpX M A (m >>= f) Q E s := fun Γ p hΓ h1 hC => by
  rw [Sem.wp_bind']
  exact Sem.wp_mono M Γ m (fun a p' s' h' => h' Γ p' hΓ h1 hC) (fun _ _ _ h' => h') p s (h Γ p hΓ h1 hC)
theorem X_step {m : Sem α} {f : α → Sem β} {Q : β → Shared → Prop} (h : wpAny M A m (fun a s' => wpX M A (f a) Q E s') E s) : wpX M A (m >>= f) Q E s := X_bind (X_any h)
theorem X_holding {vs : List Value} {m : Sem α} {Q : α → Shared → Prop} (h : wpX M A m Q E s) : wpX M A (holding vs m) Q E s := fun Γ p hΓ h1 hC => by rw [Sem.wp_holding]; exact h Γ p hΓ h1 hC
theorem nb_enter {Γ : Ctx} (h1 : Γ.code.env?.isNone = true) (h : NBelow Γ) (c : Code) (hd : Option Value) (p : Pos) : NBelow (Γ.enter c hd p) := by
  show ((((Γ.code, p) :: Γ.below).map (·.1)).takeWhile (·.env?.isNone)).any isMapNext = true
  rw [List.map_cons, List.takeWhile_cons, if_pos h1, List.any_cons, show (((Γ.below.map (·.1)).takeWhile (·.env?.isNone)).any isMapNext) = true from h, Bool.or_true]
theorem X_call {f : Value} {pos : List Value} {kw : List (Str × Value)} {Q : Value → Shared → Prop} (hc : codeX M A (.call f ⟨pos, kw⟩) (fun r s' => match r with | .ok (.ret v) => Q v s' | .ok _ => False | .error e => E e s') s) : wpX M A (call f pos kw) Q E s :=
  fun Γ p hΓ h1 hC => by
    show Sem.wp M Γ (runValue _) _ _ p s
    rw [Sem.wp_runValue]
    exact hc _ p rfl (hΓ.enter _ none p (by intro x; cases x)) (nb_enter h1 hC ..)
theorem codeX_of_tree {c : Code} {R : Result → Shared → Prop} (he : c.env?.isNone = true)
    (h : wpX M (A.under c) (M.den c) (fun fin s' => match fin with | .done f => R (.ok f) s' | .again c' => c'.quiet = true ∧ codeX M A c' R s') (fun e s' => R (.error e) s') s) : codeX M A c R s := fun Γ p hc hΓ hC => by
  rw [wpCode_iff_wp, hc]
  refine Sem.wp_mono M Γ _ (fun fin p' s' h' => ?_) (fun _ _ _ h' => h') p s (h Γ p (hc ▸ hΓ.in) (hc ▸ he) hC)
  cases fin with
  | done f => exact h'
  | again c' => exact ⟨h'.1, h'.2 (Γ.goto c') p' rfl (hΓ.goto c') hC⟩
end
section
variable {prog : Program} {w : World} {A : Around} {E : Value → Shared → Prop} {s : Shared}
theorem codeX_builtin {R : Result → Shared → Prop} {id : String} {args : Args} {b : Builtin} (hb : entryFor table id = some b)
    (h : wpX (model prog w) (A.under (.builtin id args)) (b args) (fun fin s' => match fin with | .done f => R (.ok f) s' | .again c' => c'.quiet = true ∧ codeX (model prog w) A c' R s') (fun e s' => R (.error e) s') s) :
    codeX (model prog w) A (.builtin id args) R s := by
  refine codeX_of_tree rfl ?_
  show wpX _ _ (match entryFor table id with | some b => b args | none => unsupported ((withoutEnding? id "#data").getD id)) _ _ s
  rw [hb]; exact h
theorem codeX_call_builtin {R : Result → Shared → Prop} {id : String} {args : Args} {b : Builtin} (hq : plainId id = true) (hb : entryFor table id = some b) (hc : checkBuiltinCall id args = pure ())
    (h : wpX (model prog w) A.in1 (b args) (fun fin s' => match fin with | .done f => R (.ok f) s' | .again c' => c'.quiet = true ∧ codeX (model prog w) A c' R s') (fun e s' => R (.error e) s') s) : codeX (model prog w) A (.call (.builtin id) args) R s := by
  refine codeX_of_tree rfl ?_
  show wpX _ A.in1 (do checkBuiltinCall id args; again (.builtin id args)) _ _ s
  refine X_bind (X_any (wpAny_of_eq hc (X_pure ⟨plainId_quiet hq args, codeX_builtin hb ?_⟩)))
  rw [Around.under_plainId hq args]
  exact h
theorem X_intObj {x : Str} {t : Tok} {M : Model} {Q : Value → Shared → Prop} (h : wpX M A ((int_private% "intFromText") (.str x t) (numTextOf x) 10) Q E s) : wpX M A ((int_private% "intFromObject") (.str x t)) Q E s := by
  have f3 := KIN.str_int
  have f4 := KIN.str_idx
  have f5 := KIN.str_trunc
  have f6 : typeOf (.str x t) = pure (.type "str") := rfl
  obtain ⟨hp, g, d, tk, os⟩ := s
  refine X_step ?_
  repeat (any_goals (first | assumption | wp_step))
theorem X_if_pos {α : Type} {M : Model} {c : Prop} [Decidable c] {x y : Sem α} {Q : α → Shared → Prop} (hc : c) (h : wpX M A x Q E s) : wpX M A (if c then x else y) Q E s := by rw [if_pos hc]; exact h
theorem X_if_neg {α : Type} {M : Model} {c : Prop} [Decidable c] {x y : Sem α} {Q : α → Shared → Prop} (hc : ¬ c) (h : wpX M A y Q E s) : wpX M A (if c then x else y) Q E s := by rw [if_neg hc]; exact h
theorem any_not_all {l : List Code} {f : Code → Bool} (h : l.any isMapNext = true) (hf : ∀ c, isMapNext c = true → f c = false) : l.all f = false := by
  induction l with
  | nil => cases h
  | cons c l ih =>
    rw [List.any_cons] at h
    rw [List.all_cons]
    cases hc : isMapNext c with
    | true => rw [hf c hc]; rfl
    | false => rw [hc, Bool.false_or] at h; rw [ih h, Bool.and_false]
/-- below map.__next__ no mark is made -/
theorem X_mark {M : Model} {e : Value} {Q : Unit → Shared → Prop} (h : Q () s) : wpX M A (markTheRefusal ["int.__new__"] e) Q E s := by
  intro Γ p hΓ h1 hC
  unfold markTheRefusal
  rw [Sem.wp_bind']
  show Sem.wp M Γ (if pythonCodeMadeTheCall ["int.__new__"] (((Γ.code, p) :: Γ.below).map (·.1)) = true then _ else _) _ _ p s
  have e0 : pythonCodeMadeTheCall ["int.__new__"] (((Γ.code, p) :: Γ.below).map (·.1)) = false := by
    have hany : ((((Γ.code, p) :: Γ.below).map (·.1)).takeWhile (·.env?.isNone)).any isMapNext = true := by
      rw [List.map_cons, List.takeWhile_cons, if_pos h1, List.any_cons, show (((Γ.below.map (·.1)).takeWhile (·.env?.isNone)).any isMapNext) = true from hC, Bool.or_true]
    unfold pythonCodeMadeTheCall
    rw [any_not_all hany, Bool.and_false]
    intro c hc
    cases c with
    | builtin id a =>
      have e : id = "map.__next__" := by simpa [isMapNext] using hc
      subst e
      rfl
    | _ => simp [isMapNext] at hc
  rw [if_neg (by rw [e0]; exact Bool.false_ne_true)]
  exact h
theorem X_intText_fail {x : Str} {t : Tok} {Q : Value → Shared → Prop} (hh : A.handled = none) (hl : x.length ≤ 640) (hx : ∀ c ∈ x.cps.toList, c < 16 ^ 8) (hn : PySem.intText? x = none)
    (h : ∀ h' tk e v, Heap.MadeExc s.heap h' e "ValueError" [v] → E (.ref e) { s with heap := h', toks := tk }) :
    wpX (model prog w) A ((int_private% "intFromText") (.str x t) (numTextOf x) 10) Q E s := by
  have hs : (numSeenOf x).length ≤ 640 := Nat.le_trans (seen_length x) hl
  have hr := read0 x hs
  rcases hr with ⟨m, h1, _⟩ | ⟨_, hr⟩
  · rw [hn] at h1; cases h1
  obtain ⟨hp, g, d, tk, os⟩ := s
  refine X_if_pos (c := (numSeenOf x).length ≤ 640) hs ?_
  refine X_bind (X_pure ?_)
  dsimp only
  have tailC : ∀ {tk : Nat}, wpX (model prog w) A (do
      rule "int.__new__.invalid-literal"
      let shown ← pyRepr (Value.str x t)
      let m ← mkStr ((Str.ofString (toString "invalid literal for int() with base " ++ toString 10 ++ toString ": ") ++ (⟨shown.cps.extract 0 200⟩ : Str)))
      let refusal ← newExc (Value.type "ValueError") [m]
      markTheRefusal ["int.__new__"] refusal
      raiseNew refusal) Q E ⟨hp, g, d, tk, os⟩ := by
    intro tk
    refine X_step (wpAny_rule (X_step (wpAny_pyRepr_str (X_step (wpAny_mkStr (X_step (wpAny_newExc_plain plainExc_ValueError (fun h' e hx => X_bind (X_mark (X_any (wpAny_raiseNew_none hh (h h' _ e _ hx))))))) ?_)) ?_)))
    · show (Array.size ((Str.ofString (toString "invalid literal for int() with base " ++ toString 10 ++ toString ": ")).cps ++ (reprText x).cps.extract 0 200)) ≤ sizeLine
      have e1 : (Str.ofString (toString "invalid literal for int() with base " ++ toString 10 ++ toString ": ")).cps.size ≤ 100 := by decide +kernel
      rw [Array.size_append, Array.size_extract, sizeLine_eq]
      omega
    · have := StrLaws.reprText_len x hx
      rw [sizeLine_eq]
      omega
  rw [show List.takeWhile (fun x => x != 0) (numTextOf x) = numSeenOf x from rfl]
  rcases hr with hr | ⟨i, hr, hne⟩
  · rw [hr]
    dsimp only
    refine X_bind (X_pure (X_if_neg (by simp) ?_))
    exact tailC
  · rw [hr]
    dsimp only
    exact X_if_neg hne tailC
/-- int of a text that tells no number, below map.__next__ -/
theorem X_int_fail {x : Str} {t : Tok} {R : Result → Shared → Prop} (hh : A.handled = none) (hl : x.length ≤ 640) (hx : ∀ c ∈ x.cps.toList, c < 16 ^ 8) (hn : PySem.intText? x = none)
    (h : ∀ h' tk e v, Heap.MadeExc s.heap h' e "ValueError" [v] → R (.error (.ref e)) { s with heap := h', toks := tk }) :
    codeX (model prog w) A (.call (.type "int") ⟨[.str x t], []⟩) R s := by
  refine codeX_of_tree rfl ?_
  show wpX _ _ (callAny (.type "int") _) _ _ _
  refine X_pure ⟨Code.quiet_builtin _ (by decide +kernel), codeX_builtin F.entry_type_call ?_⟩
  rw [Around.under_plain (weight_type_call_type "int" [.str x t] []) (units_type_call_type "int" [.str x t] [])]
  obtain ⟨rest, e1⟩ := type_call_int x t
  rw [e1]
  refine X_bind (X_holding (X_call (codeX_call_builtin F.called_int.plain F.entry_int_new (F.newCall_int_1 _) ?_)))
  obtain ⟨rest2, e2⟩ := int_new_eq x t
  rw [e2]
  refine X_bind (X_intObj (X_intText_fail (by exact hh) hl hx hn fun h' tk e v hm => ?_))
  exact h h' tk e v hm
end
end Mine
end
section
open PySem PySem.W PyProof.Rows
theorem Mine.cut_NMapInt : True ∧ True := by
  w_top off
  walk1
  all_goals exact True.intro
end

/- NMap -/
section
open PySem PySem.W PyProof.Rows PySem.Calls PySem.NumText
set_option Elab.async false
set_option maxRecDepth 100000
namespace Mine
def IsMap (h : Heap) (M T : Addr) (f : Value) (it : Addr) : Prop := h.get? M = some { cls := .type "map", data := .fields #[.ref T, f] } ∧ h.get? T = some { cls := .type "tuple", data := .seq #[.ref it] }
section
variable {prog : Program} {w : World} {A : Around} {E : Value → Shared → Prop} {s : Shared}
abbrev mapCode (M : Addr) : Code := .builtin "map.__next__" ⟨[.ref M], []⟩
theorem map_next_eq (M : Addr) : Builtin.«map.__next__» ⟨[.ref M], []⟩ = (do
    let v ← field (.ref M) 0
    match ← seqItems? v with
    | some its => do
      let items ← forIn its (#[] : Array Value) (fun it r => do
        let x ← holding r.toList (Builtin.SmallTypes.nextOf it)
        pure (ForInStep.yield (r.push x)))
      let f ← field (.ref M) 1
      let result ← holding items.toList (call f items.toList)
      letGo items.toList [result]
      ret result
    | none => unsupported "internal:map.__next__") := by
  unfold Builtin.«map.__next__»
  rw [show slotArgs "__next__" 0 (⟨[.ref M], []⟩ : Args) = pure (Value.ref M, []) from rfl]
  simp only [pure_bind]
  congr 1
  funext v
  congr 1
  funext o
  cases o <;> rfl
theorem own_call {Ac : Args} {f : Value} {pos : List Value} {Q : Value → Shared → Prop} (hc : codeX (model prog w) (A.under (.builtin "map.__next__" Ac)) (.call f ⟨pos, []⟩) (fun r s' => match r with | .ok (.ret v) => Q v s' | .ok _ => False | .error e => E e s') s) :
    wpOwn (model prog w) A (.builtin "map.__next__" Ac) (call f pos) Q E s := fun Γ p hcode hΓ => by
  show Sem.wp _ Γ (runValue _) _ _ p s
  rw [Sem.wp_runValue]
  refine hc _ p rfl ((hcode ▸ hΓ.in : Γ.In _).enter _ none p (by intro x; cases x)) ?_
  show ((((Γ.code, p) :: Γ.below).map (·.1)).takeWhile (·.env?.isNone)).any isMapNext = true
  rw [hcode]
  rfl
theorem own_any {Ac : Args} {α : Type} {t : Sem α} {Q : α → Shared → Prop} (h : wpAny (model prog w) A.in1 t Q E s) : wpOwn (model prog w) A (.builtin "map.__next__" Ac) t Q E s :=
  wpOwn_of_wpAny (by rw [Around.under_plainId FF.slot_map_next.plain]; exact h)
/-- a step of a map object: draw, then call -/
theorem map_step {M T it : Addr} {f : Value} {R : Result → Shared → Prop} (hM : IsMap s.heap M T f it)
    (h : wpAny (model prog w) A.in1 (Builtin.SmallTypes.nextOf (.ref it)) (fun x s₁ => IsMap s₁.heap M T f it ∧
      wpOwn (model prog w) A (mapCode M) (call f [x]) (fun r s₂ => R (.ok (.ret r)) s₂) (fun e s' => R (.error e) s') s₁) (fun e s' => R (.error e) s') s) :
    codeAny (model prog w) A (.call (.builtin "map.__next__") ⟨[.ref M], []⟩) R s := by
  refine codeAny_call_builtin_own (plainId_quiet FF.slot_map_next.plain _) FF.entry_map_next (FF.slot_map_next.check _ _ _ _ _ _ _ _ ⟨_, hM.1, rfl⟩ (FF.args_map_next_1 _) ?_)
  rw [map_next_eq]
  refine wpOwn_bind (own_any (wpAny_field hM.1 rfl (x := .ref T) rfl ?_))
  refine wpOwn_bind (own_any (wpAny_seqItems hM.2 rfl ?_))
  dsimp only
  have ef : (forIn (#[Value.ref it] : Array Value) (#[] : Array Value) (fun it r => do
        let x ← holding r.toList (Builtin.SmallTypes.nextOf it)
        pure (ForInStep.yield (r.push x))) : Sem (Array Value)) = (holding [] (Builtin.SmallTypes.nextOf (.ref it)) >>= fun x => pure #[x]) := by
    rw [← Array.forIn_toList, List.forIn_cons]
    simp
  rw [ef]
  refine wpOwn_bind (wpOwn_bind (own_any (wpAny_holding (wpAny_mono h (fun x s₁ h₁ => ?_) fun _ _ e => e))))
  obtain ⟨hM1, h₁⟩ := h₁
  refine own_any (wpAny_pure ?_)
  refine wpOwn_bind (own_any (wpAny_field hM1.1 rfl (x := f) rfl ?_))
  refine wpOwn_bind (fun Γ p hc hΓ => ?_)
  rw [Sem.wp_holding]
  refine Sem.wp_mono _ Γ _ (fun r p' s₂ h₂ => ?_) (fun _ _ _ e => e) p s₁ (h₁ Γ p hc hΓ)
  exact wpOwn_bind (own_any (wpAny_letGo (own_any (wpAny_pure h₂))))
end
end Mine
end
section
open PySem PySem.W PyProof.Rows
theorem Mine.cut_NMap : True ∧ True := by
  w_top off
  walk1
  all_goals exact True.intro
end

/- NMap2 -/
section
open PySem PySem.W PyProof.Rows PySem.Calls PySem.NumText
set_option Elab.async false
set_option maxRecDepth 100000
namespace Mine
structure MM (h : Heap) (M2 T2 M1 T1 it l : Addr) (i : Nat) (ts : List (Str × Tok)) : Prop where
  o : IsMap h M2 T2 (.type "str") M1
  n : IsMap h M1 T1 (.type "int") it
  it' : h.IsListIter it l i
  li : h.IsList l (strValues ts).toArray
structure Apart (M2 T2 M1 T1 it l : Addr) : Prop where
  a : M2 ≠ it
  b : T2 ≠ it
  c : M1 ≠ it
  d : T1 ≠ it
  e : l ≠ it
section
variable {prog : Program} {w : World} {A : Around} {E : Value → Shared → Prop} {s : Shared} {M2 T2 M1 T1 it l : Addr} {i : Nat} {ts : List (Str × Tok)}
theorem MM.keep {h h' : Heap} {j : Nat} (m : MM h M2 T2 M1 T1 it l i ts) (ap : Apart M2 T2 M1 T1 it l) (hk : ∀ b o, b ≠ it → h.get? b = some o → h'.get? b = some o) (hi : h'.IsListIter it l j) : MM h' M2 T2 M1 T1 it l j ts :=
  ⟨⟨hk _ _ ap.a m.o.1, hk _ _ ap.b m.o.2⟩, ⟨hk _ _ ap.c m.n.1, hk _ _ ap.d m.n.2⟩, hi, let ⟨o, ho, r⟩ := m.li; ⟨o, hk _ _ ap.e ho, r⟩⟩
/-- the inner map: the next number -/
theorem m1_item {x : Str} {t : Tok} {n : Int} {Q : Value → Shared → Prop} (m : MM s.heap M2 T2 M1 T1 it l i ts) (ap : Apart M2 T2 M1 T1 it l) (hx : ts[i]? = some (x, t)) (hl : x.length ≤ 640) (hn : PySem.intText? x = some n)
    (hQ : ∀ h' tk t', MM h' M2 T2 M1 T1 it l (i + 1) ts → Heap.SameBut it s.heap h' → Q (.int n t') { s with heap := h', toks := tk }) :
    wpAny (model prog w) A (Builtin.SmallTypes.nextOf (.ref M1)) Q E s := by
  unfold Builtin.SmallTypes.nextOf
  refine wpAny_bind (wpAny_callSpecial?_slot (name := Str.ofString "__next__") ⟨_, m.n.1, rfl⟩ FF.slot_map_next (wpAny_call (map_step m.n ?_)))
  have hx' : (strValues ts).toArray[i]? = some (.str x t) := by simp [strValues, hx]
  refine wpAny_nextOf_list_item m.it' m.li hx' fun h' hi' hs' => ?_
  have m' := m.keep ap (fun b o hb e => hs'.extBut b o hb e) hi'
  refine ⟨m'.n, own_any (KIN.call_text hn hl ?_)⟩
  exact wpAny_pure (hQ h' _ _ m' hs')
theorem m1_fail {x : Str} {t : Tok} {Q : Value → Shared → Prop} (hh : A.handled = none) (m : MM s.heap M2 T2 M1 T1 it l i ts) (ap : Apart M2 T2 M1 T1 it l) (hx : ts[i]? = some (x, t)) (hl : x.length ≤ 640) (hc : ∀ c ∈ x.cps.toList, c < 16 ^ 8) (hn : PySem.intText? x = none)
    (hE : ∀ h₁ h' tk e v, Heap.SameBut it s.heap h₁ → Heap.MadeExc h₁ h' e "ValueError" [v] → E (.ref e) { s with heap := h', toks := tk }) :
    wpAny (model prog w) A (Builtin.SmallTypes.nextOf (.ref M1)) Q E s := by
  unfold Builtin.SmallTypes.nextOf
  refine wpAny_bind (wpAny_callSpecial?_slot (name := Str.ofString "__next__") ⟨_, m.n.1, rfl⟩ FF.slot_map_next (wpAny_call (map_step m.n ?_)))
  have hx' : (strValues ts).toArray[i]? = some (.str x t) := by simp [strValues, hx]
  refine wpAny_nextOf_list_item m.it' m.li hx' fun h' hi' hs' => ?_
  have m' := m.keep ap (fun b o hb e => hs'.extBut b o hb e) hi'
  refine ⟨m'.n, own_call (X_int_fail (by exact hh) hl hc hn fun h2 tk e v hm => ?_)⟩
  exact hE h' h2 tk e v hs' hm
theorem m1_end {Q : Value → Shared → Prop} (hh : A.handled = none) (m : MM s.heap M2 T2 M1 T1 it l i ts) (hx : ts[i]? = none)
    (hE : ∀ h' e, Heap.ExtBut it s.heap h' → (∃ o, h'.get? e = some o ∧ o.cls = .type "StopIteration") → E (.ref e) { s with heap := h' }) :
    wpAny (model prog w) A (Builtin.SmallTypes.nextOf (.ref M1)) Q E s := by
  unfold Builtin.SmallTypes.nextOf
  refine wpAny_bind (wpAny_callSpecial?_slot (name := Str.ofString "__next__") ⟨_, m.n.1, rfl⟩ FF.slot_map_next (wpAny_call (map_step m.n ?_)))
  have hx' : (strValues ts).toArray[i]? = none := by
    have := List.getElem?_eq_none_iff.mp hx
    simp [strValues, this]
  exact wpAny_nextOf_list_end (by exact hh) m.it' m.li hx' fun h' e hx he => hE h' e hx he
/-- the outer map: the next text -/
theorem m2_item {x : Str} {t : Tok} {n : Int} {Q : Option Value → Shared → Prop} (m : MM s.heap M2 T2 M1 T1 it l i ts) (ap : Apart M2 T2 M1 T1 it l) (hx : ts[i]? = some (x, t)) (hl : x.length ≤ 640) (hn : PySem.intText? x = some n) (hb : n.natAbs < 10 ^ 20)
    (hQ : ∀ h' tk t', MM h' M2 T2 M1 T1 it l (i + 1) ts → Heap.SameBut it s.heap h' → Q (some (.str (Str.ofString (toString n)) t')) { s with heap := h', toks := tk }) :
    wpAny (model prog w) A (pyNext (.ref M2)) Q E s := by
  unfold pyNext
  refine wpAny_bind (wpAny_attempt (wpAny_callSpecial?_slot (name := Str.ofString "__next__") ⟨_, m.o.1, rfl⟩ FF.slot_map_next (wpAny_call (map_step m.o ?_))))
  refine m1_item m ap hx hl hn fun h' tk t' m' hs' => ⟨m'.o, own_any (str_small hb fun d hd _ => ?_)⟩
  rw [hd.out]
  exact wpAny_pure (hQ h' _ _ m' hs')
theorem made_cls {h h' : Heap} {e : Addr} {c : String} {args : List Value} (hm : Heap.MadeExc h h' e c args) : ∃ o, h'.get? e = some o ∧ o.cls = .type c := by
  obtain ⟨t, h1, _⟩ := hm.there
  exact ⟨_, h1, rfl⟩
theorem value_not_stop : isSubtype (.type "ValueError") (.type "StopIteration") = pure false := by rw [isSubtype_type]; kernel_rfl
theorem m2_fail {x : Str} {t : Tok} {Q : Option Value → Shared → Prop} (hh : A.handled = none) (m : MM s.heap M2 T2 M1 T1 it l i ts) (ap : Apart M2 T2 M1 T1 it l) (hx : ts[i]? = some (x, t)) (hl : x.length ≤ 640) (hc : ∀ c ∈ x.cps.toList, c < 16 ^ 8) (hn : PySem.intText? x = none)
    (hE : ∀ h₁ h' tk e v, Heap.SameBut it s.heap h₁ → Heap.MadeExc h₁ h' e "ValueError" [v] → E (.ref e) { s with heap := h', toks := tk }) :
    wpAny (model prog w) A (pyNext (.ref M2)) Q E s := by
  unfold pyNext
  refine wpAny_bind (wpAny_attempt (wpAny_callSpecial?_slot (name := Str.ofString "__next__") ⟨_, m.o.1, rfl⟩ FF.slot_map_next (wpAny_call (map_step m.o ?_))))
  refine m1_fail (by exact hh) m ap hx hl hc hn fun h₁ h' tk e v hs hm => ?_
  refine wpAny_bind (wpAny_isInstance (T := "ValueError") (b := false) ?_ value_not_stop ?_)
  · obtain ⟨o, ho, hcl⟩ := made_cls hm
    exact ⟨o, ho, hcl⟩
  · exact wpAny_throw (hE h₁ h' tk e v hs hm)
theorem m2_end {Q : Option Value → Shared → Prop} (hh : A.handled = none) (m : MM s.heap M2 T2 M1 T1 it l i ts) (hx : ts[i]? = none)
    (hQ : ∀ h', Heap.ExtBut it s.heap h' → Q none { s with heap := h' }) :
    wpAny (model prog w) A (pyNext (.ref M2)) Q E s := by
  unfold pyNext
  refine wpAny_bind (wpAny_attempt (wpAny_callSpecial?_slot (name := Str.ofString "__next__") ⟨_, m.o.1, rfl⟩ FF.slot_map_next (wpAny_call (map_step m.o ?_))))
  refine m1_end (by exact hh) m hx fun h' e hx he => ?_
  obtain ⟨o, ho, hc⟩ := he
  exact wpAny_bind (wpAny_isInstance (T := "StopIteration") (b := true) ⟨o, ho, hc⟩ isSubtype_stop (wpAny_pure (hQ h' hx)))
/-- the numbers that the texts tell, in figures; none where one tells no number -/
def figsOf : List (Str × Tok) → Option (List Str)
  | [] => some []
  | p :: r => match PySem.intText? p.1 with
    | none => none
    | some n => (figsOf r).map fun l => Str.ofString (toString n) :: l
/-- what stands behind the loop -/
theorem ext_loop {S : Addr} {R : Result → Shared → Prop} (hh : A.handled = none) (ap : Apart M2 T2 M1 T1 it l) (hSi : S ≠ it) (hS2 : S ≠ M2) (hS3 : S ≠ T2) (hS4 : S ≠ M1) (hS5 : S ≠ T1) (hSl : S ≠ l)
    (hl : ∀ p ∈ ts, p.1.length ≤ 640) (hc : ∀ p ∈ ts, ∀ c ∈ p.1.cps.toList, c < 16 ^ 8) (hb : ∀ p ∈ ts, ∀ n, PySem.intText? p.1 = some n → n.natAbs < 10 ^ 20) (hcount : ts.length ≤ 100) :
    ∀ (k i : Nat) (s : Shared) (acc : List (Str × Tok)) (c : Nat), k = ts.length - i → i ≤ ts.length → acc.length = i → MM s.heap M2 T2 M1 T1 it l i ts → s.heap.get? S = some { cls := .type "list", data := .seq (strValues acc).toArray c } →
    (∀ h' tk c' fs, figsOf (ts.drop i) = some fs → (∀ b o, b ≠ S → b ≠ it → s.heap.get? b = some o → h'.get? b = some o) → (∃ acc', h'.get? S = some { cls := .type "list", data := .seq (strValues acc').toArray c' } ∧ acc'.map (·.1) = acc.map (·.1) ++ fs) → R (.ok (.ret .none)) { s with heap := h', toks := tk }) →
    (∀ h₁ h' tk e v, figsOf (ts.drop i) = none → (∀ b o, b ≠ S → b ≠ it → s.heap.get? b = some o → h₁.get? b = some o) → Heap.MadeExc h₁ h' e "ValueError" [v] → R (.error (.ref e)) { s with heap := h', toks := tk }) →
    codeAny (model prog w) A (.builtin "list.extend.loop" ⟨[.ref S, .ref M2, .none], []⟩) R s := by
  intro k
  induction k with
  | zero =>
    intro i s acc c hk hi ha m hS hR hE
    have hin : i = ts.length := by omega
    refine codeAny_builtin F.entry_extend_loop ?_
    rw [Around.under_plainId F.plain_extend_loop _]
    show wpAny _ A.in1 (pyNext (.ref M2) >>= _) _ _ s
    have hnone : ts[i]? = none := List.getElem?_eq_none_iff.mpr (by omega)
    refine wpAny_bind (m2_end (by exact hh) m hnone fun h' hx => ?_)
    have hd : ts.drop i = [] := List.drop_eq_nil_of_le (by omega)
    refine wpAny_pure (hR h' s.toks c [] (by rw [hd]; rfl) (fun b o _ hb e => hx b o hb e) ⟨acc, hx _ _ hSi hS, by simp⟩)
  | succ k ih =>
    intro i s acc c hk hi ha m hS hR hE
    have hlt : i < ts.length := by omega
    have hx : ts[i]? = some (ts[i].1, ts[i].2) := by rw [List.getElem?_eq_getElem hlt]
    have hmem : ts[i] ∈ ts := List.getElem_mem hlt
    have hd : ts.drop i = ts[i] :: ts.drop (i + 1) := List.drop_eq_getElem_cons hlt
    refine codeAny_builtin F.entry_extend_loop ?_
    rw [Around.under_plainId F.plain_extend_loop _]
    show wpAny _ A.in1 (pyNext (.ref M2) >>= _) _ _ s
    cases hn : PySem.intText? ts[i].1 with
    | none =>
      refine wpAny_bind (m2_fail (by exact hh) m ap hx (hl _ hmem) (hc _ hmem) hn fun h₁ h' tk e v hs hm => ?_)
      exact hE h₁ h' tk e v (by rw [hd, figsOf, hn]) (fun b o _ hb e => hs.extBut b o hb e) hm
    | some n =>
      refine wpAny_bind (m2_item m ap hx (hl _ hmem) hn (hb _ hmem n hn) fun h' tk t' m' hs => ?_)
      have hS' : h'.get? S = some { cls := .type "list", data := .seq (strValues acc).toArray c } := hs.extBut _ _ hSi hS
      show wpAny _ A.in1 (updateSeq S (·.push _) >>= _) _ _ _
      have hz1 : (strValues acc).toArray.size ≤ 100 := by simp [strValues]; omega
      refine wpAny_bind (wpAny_updateSeq (hz := by rw [sizeLine_eq]; omega) (_hz' := by rw [sizeLine_eq]; simp only [Array.size_push]; omega) hS' rfl ?_)
      have hS2' := Heap.get?_update_self (Obj.mapSeq (·.push (.str (Str.ofString (toString n)) t'))) hS' rfl
      have oth : ∀ b o, b ≠ S → h'.get? b = some o → (h'.update S (Obj.mapSeq (·.push (.str (Str.ofString (toString n)) t')))).get? b = some o := fun b o hb e => (Heap.get?_update_other _ _ (Ne.symm hb)).trans e
      refine wpAny_pure ⟨plainId_quiet F.plain_extend_loop _, ?_⟩
      obtain ⟨c3, hS9⟩ : ∃ c3, (h'.update S (Obj.mapSeq (·.push (.str (Str.ofString (toString n)) t')))).get? S = some { cls := .type "list", data := .seq ((strValues acc).toArray.push (.str (Str.ofString (toString n)) t')) c3 } := ⟨_, hS2'⟩
      refine ih (i + 1) _ (acc ++ [(Str.ofString (toString n), t')]) c3 (by omega) hlt (by simp [ha]) ⟨⟨oth _ _ (Ne.symm hS2) m'.o.1, oth _ _ (Ne.symm hS3) m'.o.2⟩, ⟨oth _ _ (Ne.symm hS4) m'.n.1, oth _ _ (Ne.symm hS5) m'.n.2⟩, m'.it'.at fun o e => oth _ o (Ne.symm hSi) e, m'.li.at fun o e => oth _ o (Ne.symm hSl) e⟩ ?_ ?_ ?_
      · have e : (strValues (acc ++ [(Str.ofString (toString n), t')])).toArray = (strValues acc).toArray.push (.str (Str.ofString (toString n)) t') := by simp [strValues]
        rw [e]
        exact hS9
      · intro h2 tk2 c2 fs hf hk2 hacc
        obtain ⟨acc', h3, h4⟩ := hacc
        refine hR h2 tk2 c2 (Str.ofString (toString n) :: fs) (by rw [hd, figsOf, hn]; dsimp only; rw [hf]; rfl) (fun b o hb1 hb2 e => hk2 b o hb1 hb2 (oth b o hb1 (hs.extBut b o hb2 e))) ⟨acc', h3, ?_⟩
        rw [h4]; simp
      · intro h₁ h2 tk2 e v hf hk2 hm
        exact hE h₁ h2 tk2 e v (by rw [hd, figsOf, hn]; dsimp only; rw [hf]; rfl) (fun b o hb1 hb2 e => hk2 b o hb1 hb2 (oth b o hb1 (hs.extBut b o hb2 e))) hm
theorem iterAll_one (v : Value) : Builtin.SmallTypes.iterAll [v] = (holding [] (pyIter v) >>= fun x => pure [x]) := by
  unfold Builtin.SmallTypes.iterAll
  simp
theorem meets_map_list (f : Value) (l : Addr) (items : Array Value) :
    Meets (Builtin.«map.__new__» ⟨[.type "map", f, .ref l], []⟩) (fun _ R s => s.heap.IsList l items ∧
      ∀ h', h' = ((s.heap.push { cls := .type "list_iterator", data := .fields #[.ref l, .int 0 0] }).push { cls := .type "tuple", data := .seq #[.ref s.heap.objs.size] }).push { cls := .type "map", data := .fields #[.ref (s.heap.objs.size + 1), f] } →
      R (.ok (.ret (.ref (s.heap.objs.size + 2)))) { s with heap := h' }) :=
  .of_wp fun prog w A R s h => by
    obtain ⟨hl, h⟩ := h
    unfold Builtin.«map.__new__» Builtin.SmallTypes.newClass
    refine wpAny_bind (wpAny_bind (wpAny_of_eq (a := true) (by rfl) ?_))
    refine wpAny_bind (wpAny_of_eq (a := true) FF.sub_map ?_)
    refine wpAny_pure ?_
    refine wpAny_bind (wpAny_of_eq (a := ()) (by rfl) ?_)
    show wpAny _ _ (Builtin.SmallTypes.iterAll [.ref l] >>= _) _ _ _
    rw [iterAll_one]
    refine wpAny_bind (wpAny_bind (wpAny_holding (wpAny_pyIter_list hl (wpAny_pure ?_))))
    refine wpAny_bind (wpAny_newTuple ?_)
    show wpAny _ _ (newObj (.type "map") (.fields #[.ref _, f]) >>= _) _ _ _
    refine wpAny_bind (wpAny_newObj_type (wpAny_pure ?_) (by size_fits))
    have e1 : (s.heap.push { cls := .type "list_iterator", data := .fields #[.ref l, .int 0 0] }).objs.size = s.heap.objs.size + 1 := Heap.size_push ..
    have e2 : ((s.heap.push { cls := .type "list_iterator", data := .fields #[.ref l, .int 0 0] }).push { cls := .type "tuple", data := .seq #[.ref s.heap.objs.size] }).objs.size = s.heap.objs.size + 2 := by rw [Heap.size_push, e1]
    refine ⟨_, rfl, ?_⟩
    have := h _ rfl
    rw [← e1, ← e2] at this
    exact this
theorem meets_map_it (f : Value) (M1 : Addr) :
    Meets (Builtin.«map.__new__» ⟨[.type "map", f, .ref M1], []⟩) (fun _ R s => s.TypeIs (.ref M1) "map" ∧
      ∀ h', h' = (s.heap.push { cls := .type "tuple", data := .seq #[.ref M1] }).push { cls := .type "map", data := .fields #[.ref s.heap.objs.size, f] } →
      R (.ok (.ret (.ref (s.heap.objs.size + 1)))) { s with heap := h' }) :=
  .of_wp fun prog w A R s h => by
    obtain ⟨hT, h⟩ := h
    unfold Builtin.«map.__new__» Builtin.SmallTypes.newClass
    refine wpAny_bind (wpAny_bind (wpAny_of_eq (a := true) (by rfl) ?_))
    refine wpAny_bind (wpAny_of_eq (a := true) FF.sub_map ?_)
    refine wpAny_pure ?_
    refine wpAny_bind (wpAny_of_eq (a := ()) (by rfl) ?_)
    show wpAny _ _ (Builtin.SmallTypes.iterAll [.ref M1] >>= _) _ _ _
    rw [iterAll_one]
    refine wpAny_bind (wpAny_bind (wpAny_holding (wpAny_pyIter_slot hT FF.slot_map_iter (wpAny_call_entry FF.slot_map_iter hT FF.entry_map_iter ?_ (FF.args_map_iter_1 _)))))
    show wpAny _ _ (ret (.ref M1)) _ _ s
    refine wpAny_pure ⟨_, rfl, "map", _, hT, FF.slot_map_next.lookup, wpAny_pure ?_⟩
    refine wpAny_bind (wpAny_newTuple ?_)
    show wpAny _ _ (newObj (.type "map") (.fields #[.ref _, f]) >>= _) _ _ _
    refine wpAny_bind (wpAny_newObj_type (wpAny_pure ?_) (by size_fits))
    have e1 : (s.heap.push { cls := .type "tuple", data := .seq #[.ref M1] }).objs.size = s.heap.objs.size + 1 := Heap.size_push ..
    refine ⟨_, rfl, ?_⟩
    have := h _ rfl
    rw [← e1] at this
    exact this
theorem call_map_list {f : Value} {l : Addr} {items : Array Value} {Q : Value → Shared → Prop} (hl : s.heap.IsList l items)
    (h : ∀ h', IsMap h' (s.heap.objs.size + 2) (s.heap.objs.size + 1) f s.heap.objs.size → h'.IsListIter s.heap.objs.size l 0 → h'.objs.size = s.heap.objs.size + 3 → (∀ b o, s.heap.get? b = some o → h'.get? b = some o) →
      Q (.ref (s.heap.objs.size + 2)) { s with heap := h' }) :
    wpAny (model prog w) A (call (.type "map") [f, .ref l]) Q E s := by
  refine callType_new FF.called_map (by decide) (FF.typeCall_map_2 _ _) (FF.newCall_map_2 _ _) (fun obj => FF.args_object_init_3 obj _ _) FF.entry_map_new (meets_map_list f l items) ⟨hl, ?_⟩
  intro h' he
  have e1 : (s.heap.push { cls := .type "list_iterator", data := .fields #[.ref l, .int 0 0] }).objs.size = s.heap.objs.size + 1 := Heap.size_push ..
  have e2 : ((s.heap.push { cls := .type "list_iterator", data := .fields #[.ref l, .int 0 0] }).push { cls := .type "tuple", data := .seq #[.ref s.heap.objs.size] }).objs.size = s.heap.objs.size + 2 := by rw [Heap.size_push, e1]
  have g3 : h'.get? (s.heap.objs.size + 2) = some { cls := .type "map", data := .fields #[.ref (s.heap.objs.size + 1), f] } := by
    rw [he, ← e2]; exact Heap.get?_push_size _ rfl
  have g2 : h'.get? (s.heap.objs.size + 1) = some { cls := .type "tuple", data := .seq #[.ref s.heap.objs.size] } := by
    rw [he]
    refine Heap.get?_push_of_some _ ?_
    rw [← e1]; exact Heap.get?_push_size _ rfl
  have g1 : h'.get? s.heap.objs.size = some { cls := .type "list_iterator", data := .fields #[.ref l, .int 0 0] } := by
    rw [he]
    exact Heap.get?_push_of_some _ (Heap.get?_push_of_some _ (Heap.get?_push_size _ rfl))
  refine ⟨⟨_, g3, rfl⟩, h h' ⟨g3, g2⟩ ⟨_, g1, rfl, rfl⟩ (by rw [he, Heap.size_push, e2]) fun b o e => ?_⟩
  rw [he]
  exact Heap.get?_push_of_some _ (Heap.get?_push_of_some _ (Heap.get?_push_of_some _ e))
theorem call_map_it {f : Value} {M1 : Addr} {Q : Value → Shared → Prop} (hT : s.TypeIs (.ref M1) "map")
    (h : ∀ h', IsMap h' (s.heap.objs.size + 1) s.heap.objs.size f M1 → h'.objs.size = s.heap.objs.size + 2 → (∀ b o, s.heap.get? b = some o → h'.get? b = some o) →
      Q (.ref (s.heap.objs.size + 1)) { s with heap := h' }) :
    wpAny (model prog w) A (call (.type "map") [f, .ref M1]) Q E s := by
  refine callType_new FF.called_map (by decide) (FF.typeCall_map_2 _ _) (FF.newCall_map_2 _ _) (fun obj => FF.args_object_init_3 obj _ _) FF.entry_map_new (meets_map_it f M1) ⟨hT, ?_⟩
  intro h' he
  have e1 : (s.heap.push { cls := .type "tuple", data := .seq #[.ref M1] }).objs.size = s.heap.objs.size + 1 := Heap.size_push ..
  have g3 : h'.get? (s.heap.objs.size + 1) = some { cls := .type "map", data := .fields #[.ref s.heap.objs.size, f] } := by
    rw [he, ← e1]; exact Heap.get?_push_size _ rfl
  have g2 : h'.get? s.heap.objs.size = some { cls := .type "tuple", data := .seq #[.ref M1] } := by
    rw [he]
    exact Heap.get?_push_of_some _ (Heap.get?_push_size _ rfl)
  refine ⟨⟨_, g3, rfl⟩, h h' ⟨g3, g2⟩ (by rw [he, Heap.size_push, e1]) fun b o e => ?_⟩
  rw [he]
  exact Heap.get?_push_of_some _ (Heap.get?_push_of_some _ e)
theorem map_no_len : typeLookup (.type "map") "__len__" = pure none := by rw [typeLookup_type, builtinLookup_eq_fast]; kernel_rfl
theorem map_no_hint : typeLookup (.type "map") "__length_hint__" = pure none := by rw [typeLookup_type, builtinLookup_eq_fast]; kernel_rfl
/-- list(map(str, map(int, l))) -/
theorem list_mm {Q : Value → Shared → Prop} (hh : A.handled = none) (m : MM s.heap M2 T2 M1 T1 it l 0 ts) (ap : Apart M2 T2 M1 T1 it l)
    (hl : ∀ p ∈ ts, p.1.length ≤ 640) (hc : ∀ p ∈ ts, ∀ c ∈ p.1.cps.toList, c < 16 ^ 8) (hb : ∀ p ∈ ts, ∀ n, PySem.intText? p.1 = some n → n.natAbs < 10 ^ 20) (hcount : ts.length ≤ 100)
    (hR : ∀ h' tk c' fs acc', figsOf ts = some fs → (∀ b o, b ≠ it → s.heap.get? b = some o → h'.get? b = some o) → h'.get? s.heap.objs.size = some { cls := .type "list", data := .seq (strValues acc').toArray c' } → acc'.map (·.1) = fs → Q (.ref s.heap.objs.size) { s with heap := h', toks := tk })
    (hE : ∀ h₁ h' tk e v, figsOf ts = none → (∀ b o, b ≠ it → s.heap.get? b = some o → h₁.get? b = some o) → Heap.MadeExc h₁ h' e "ValueError" [v] → E (.ref e) { s with heap := h', toks := tk }) :
    wpAny (model prog w) A (call (.type "list") [.ref M2]) Q E s := by
  refine callType_codes (Q₁ := fun obj s₁ => obj = .ref s.heap.objs.size ∧ s₁ = { s with heap := s.heap.push { cls := .type "list", data := .seq #[] } }) F.called_list (F.typeCall_list_1 _) F.entry_list_init
    (code_list_new _ ⟨rfl, rfl⟩) fun obj s₁ h₁ => ?_
  obtain ⟨rfl, rfl⟩ := h₁
  have hS : (s.heap.push { cls := .type "list", data := .seq #[] }).get? s.heap.objs.size = some { cls := .type "list", data := .seq #[] } := Heap.get?_push_size _ rfl
  refine ⟨⟨_, hS, rfl⟩, F.args_list_init_2 _ _, ?_⟩
  have lt : ∀ {b : Addr} {o : Obj}, s.heap.get? b = some o → b ≠ s.heap.objs.size := fun e => Nat.ne_of_lt (Heap.lt_size e)
  have g1 := lt m.o.1
  have g2 := lt m.o.2
  have g3 := lt m.n.1
  have g4 := lt m.n.2
  have g5 : it ≠ s.heap.objs.size := by obtain ⟨o, ho, _⟩ := m.it'; exact lt ho
  have g6 : l ≠ s.heap.objs.size := by obtain ⟨o, ho, _⟩ := m.li; exact lt ho
  have up : ∀ b o, s.heap.get? b = some o → (s.heap.push { cls := .type "list", data := .seq #[] }).get? b = some o := fun b o e => Heap.get?_push_of_some _ e
  have m1 : MM (s.heap.push { cls := .type "list", data := .seq #[] }) M2 T2 M1 T1 it l 0 ts := m.keep ap (fun b o _ e => up b o e) (m.it'.at fun o e => up _ o e)
  show wpAny _ A.in1.in1 (do let old ← Builtin.List.listItems (.ref s.heap.objs.size); Builtin.List.listUpdate (.ref s.heap.objs.size) (fun _ => #[]); letGo old.toList.reverse; Builtin.List.listExtendWith (.ref s.heap.objs.size) (.ref M2) .none) _ _ _
  generalize s.heap.objs.size = S at *
  refine wpAny_bind ?_
  unfold Builtin.List.listItems
  refine wpAny_bind (wpAny_seqItems hS rfl (wpAny_pure ?_))
  show wpAny _ A.in1.in1 (updateSeq S (fun _ => #[]) >>= fun _ => letGo (#[] : Array Value).toList.reverse >>= fun _ => Builtin.List.listExtendWith (.ref S) (.ref M2) .none) _ _ _
  refine wpAny_bind (wpAny_updateSeq hS rfl ?_)
  have hS₂ := Heap.get?_update_self (Obj.mapSeq (fun _ => (#[] : Array Value))) hS rfl
  obtain ⟨c2, hS3⟩ : ∃ c2, ((s.heap.push { cls := .type "list", data := .seq #[] }).update S (Obj.mapSeq (fun _ => (#[] : Array Value)))).get? S = some { cls := .type "list", data := .seq #[] c2 } := ⟨_, hS₂⟩
  have oth : ∀ b o, b ≠ S → (s.heap.push { cls := .type "list", data := .seq #[] }).get? b = some o → ((s.heap.push { cls := .type "list", data := .seq #[] }).update S (Obj.mapSeq (fun _ => (#[] : Array Value)))).get? b = some o :=
    fun b o hb e => (Heap.get?_update_other _ _ (Ne.symm hb)).trans e
  refine wpAny_bind (wpAny_letGo ?_)
  have m2 : MM ((s.heap.push { cls := .type "list", data := .seq #[] }).update S (Obj.mapSeq (fun _ => (#[] : Array Value)))) M2 T2 M1 T1 it l 0 ts :=
    ⟨⟨oth _ _ g1 m1.o.1, oth _ _ g2 m1.o.2⟩, ⟨oth _ _ g3 m1.n.1, oth _ _ g4 m1.n.2⟩, m1.it'.at fun o e => oth _ o g5 e, m1.li.at fun o e => oth _ o g6 e⟩
  have keep : ∀ b o, s.heap.get? b = some o → b ≠ S → ((s.heap.push { cls := .type "list", data := .seq #[] }).update S (Obj.mapSeq (fun _ => (#[] : Array Value)))).get? b = some o := fun b o e hb => oth b o hb (up b o e)
  unfold Builtin.List.listExtendWith
  refine wpAny_bind (wpAny_typeOf (T := "map") ⟨_, m2.o.1, rfl⟩ ?_)
  have h1 : Builtin.List.listSameRef (.ref S) (.ref M2) = false := by simp [Builtin.List.listSameRef, Ne.symm g1]
  have h2 : (Value.type "map" == Value.type "list") = false := by decide
  have h3 : (Value.type "map" == Value.type "tuple") = false := by decide
  simp only [h1, h2, h3, Bool.or_false, Bool.false_eq_true, if_false]
  have hT2 : Shared.TypeIs { s with heap := (s.heap.push { cls := .type "list", data := .seq #[] }).update S (Obj.mapSeq (fun _ => (#[] : Array Value))) } (.ref M2) "map" := ⟨_, m2.o.1, rfl⟩
  refine wpAny_bind (wpAny_pyIter_slot hT2 FF.slot_map_iter (wpAny_call_entry FF.slot_map_iter hT2 FF.entry_map_iter ?_ (FF.args_map_iter_1 _)))
  show wpAny _ _ (ret (.ref M2)) _ _ _
  refine wpAny_pure ⟨_, rfl, "map", _, hT2, FF.slot_map_next.lookup, ?_⟩
  refine wpAny_bind (wpAny_holding ?_)
  unfold Builtin.List.listLengthHint
  refine wpAny_bind (wpAny_specialOf hT2 map_no_len ?_)
  show wpAny _ _ (specialOf (Value.ref M2) (Str.ofString "__length_hint__") >>= _) _ _ _
  refine wpAny_bind (wpAny_specialOf hT2 map_no_hint ?_)
  refine wpAny_pure ?_
  show wpAny _ _ (rule "list.extend.makes-room" >>= fun _ => Builtin.List.listTouch (.ref S) >>= fun _ =>
    again (.builtin "list.extend.loop" ⟨[.ref S, .ref M2, .none], []⟩)) _ _ _
  refine wpAny_bind (wpAny_rule ?_)
  refine wpAny_bind ?_
  show wpAny _ _ (updateSeq S (·.push .none) >>= fun _ => updateSeq S (·.pop)) _ _ _
  generalize hH : (s.heap.push { cls := .type "list", data := .seq #[] }).update S (Obj.mapSeq (fun _ => (#[] : Array Value))) = H at *
  refine wpAny_bind (wpAny_updateSeq hS3 rfl ?_)
  have hS4 := Heap.get?_update_self (Obj.mapSeq (·.push Value.none)) hS3 rfl
  refine wpAny_updateSeq (hz := by seq_fits) hS4 rfl ?_
  have hS5 := Heap.get?_update_self (Obj.mapSeq (·.pop)) hS4 rfl
  obtain ⟨c5, hS6⟩ : ∃ c5, ((H.update S (Obj.mapSeq (·.push Value.none))).update S (Obj.mapSeq (·.pop))).get? S = some { cls := .type "list", data := .seq #[] c5 } := ⟨_, hS5⟩
  have oth2 : ∀ b o, b ≠ S → H.get? b = some o → ((H.update S (Obj.mapSeq (·.push Value.none))).update S (Obj.mapSeq (·.pop))).get? b = some o :=
    fun b o hb e => (Heap.get?_update_other _ _ (Ne.symm hb)).trans ((Heap.get?_update_other _ _ (Ne.symm hb)).trans e)
  have m3 : MM ((H.update S (Obj.mapSeq (·.push Value.none))).update S (Obj.mapSeq (·.pop))) M2 T2 M1 T1 it l 0 ts :=
    ⟨⟨oth2 _ _ g1 m2.o.1, oth2 _ _ g2 m2.o.2⟩, ⟨oth2 _ _ g3 m2.n.1, oth2 _ _ g4 m2.n.2⟩, m2.it'.at fun o e => oth2 _ o g5 e, m2.li.at fun o e => oth2 _ o g6 e⟩
  refine wpAny_pure ⟨plainId_quiet F.plain_extend_loop _, ?_⟩
  refine ext_loop (by exact hh) ap (Ne.symm g5) (Ne.symm g1) (Ne.symm g2) (Ne.symm g3) (Ne.symm g4) (Ne.symm g6) hl hc hb hcount _ 0 _ [] c5 rfl (Nat.zero_le _) rfl m3 hS6 ?_ ?_
  · intro h' tk c' fs hf hk hacc
    obtain ⟨acc', h5, h6⟩ := hacc
    exact ⟨rfl, hR h' tk c' fs acc' hf (fun b o hb e => hk b o (lt e) hb (oth2 b o (lt e) (keep b o e (lt e)))) h5 (by simpa using h6)⟩
  · intro h₁ h' tk e v hf hk hm
    exact hE h₁ h' tk e v hf (fun b o hb e => hk b o (lt e) hb (oth2 b o (lt e) (keep b o e (lt e)))) hm
end
end Mine
end
section
open PySem PySem.W PyProof.Rows
theorem Mine.cut_NMap2 : True ∧ True := by
  w_top off
  walk1
  all_goals exact True.intro
end

/- NKeep -/
section
open PySem PySem.W PyProof.Rows PySem.Calls
set_option Elab.async false
set_option maxRecDepth 100000
namespace Mine
section
variable {h₀ h h' : Heap} {L it : Addr} {m : Str → Option Value} {news : List (Addr × Obj)}
theorem keepN (N : News h₀ L h news) (hk : ∀ b o, h.get? b = some o → h'.get? b = some o) : News h₀ L h' news := fun p hp => ⟨hk _ _ (N p hp).1, (N p hp).2⟩
theorem keepF1 (F : Fr h₀ L h m) (hk : ∀ b o, b ≠ it → h.get? b = some o → h'.get? b = some o) (h1 : L ≠ it) (h2 : h₀.get? it = none) : Fr h₀ L h' m :=
  ⟨F.ns.at' fun o e => hk _ o h1 e, fun b o e => hk b o (fun q => by rw [q, h2] at e; cases e) (F.keep b o e), F.above⟩
theorem keepN1 (N : News h₀ L h news) (hk : ∀ b o, b ≠ it → h.get? b = some o → h'.get? b = some o) (h1 : ∀ p ∈ news, p.1 ≠ it) : News h₀ L h' news := fun p hp => ⟨hk _ _ (h1 p hp) (N p hp).1, (N p hp).2⟩
end
end Mine
end
section
open PySem PySem.W PyProof.Rows
theorem Mine.cut_NKeep : True ∧ True := by
  w_top off
  walk1
  all_goals exact True.intro
end

/- NNorm -/
section
open PySem PySem.W PyProof.Rows PySem.Calls
set_option Elab.async false
set_option maxRecDepth 100000
set_option pp.deepTerms false
set_option pp.maxSteps 6000
namespace Mine
local macro_rules | `(tactic| k_steps) => `(tactic| repeat' (first | (k_end; wrow_close) | (walk1; all_goals (try ((with_reducible show wpAny _ _ (exec _ _) _ _ _); with_reducible refine foldF ?_; intro qF))) | (k_unfold; (try dsimp only)) | (dsimp only; walk1; all_goals (try ((with_reducible show wpAny _ _ (exec _ _) _ _ _); with_reducible refine foldF ?_; intro qF))) | (leave1; walk_say "STEP leave1"; try dsimp only) | fail "no step"))
theorem fill_norm : ∀ w : World, (hd.heap_39 w.params) = (hd.heap_39 w.params) ∧ PySem.Challenge.rw_nb0114_01.row.prog = PySem.Challenge.rw_nb0114_01.row.prog := by
  k_fill
  exact fun _ => ⟨rfl, rfl⟩
section
variable {w : World} {p : Program} {loose : List Str} {mean : ExcName → Option Value} {mg mb : Str → Option Value} {dp un : Nat} {gd : Option (List Code)} {cn : Str} {cs : Scope} {a : Addr} {ccd : Value} {cl : List (Str × Addr)} {outer : List Env} {A₀ : Around} {base h₀ : Heap} {L : Addr} {m : Str → Option Value} {news : List (Addr × Obj)} {s : Shared} {Q E : Value → Shared → Prop}

local macro_rules | `(tactic| walk_at "call type:map") => `(tactic| (refine Halt.out ?_))
local macro_rules | `(tactic| walk_at "call type:list") => `(tactic| (refine Halt.out ?_))
local macro_rules | `(tactic| walk_at "call builtin:str.join") => `(tactic| (refine Halt.out ?_))
local macro_rules | `(tactic| walk_at "call builtin:list.append") => `(tactic| (refine Halt.out ?_))
/-- the parts of a version, in a list of the call's own -/
structure PartsAre (ts : List (Str × Tok)) (x y : Str) : Prop where
  out : ts.map (·.1) = partsF x y
  len : ∀ p ∈ ts, p.1.length ≤ 14
  asc : ∀ p ∈ ts, Asc p.1
  count : ts.length ≤ 16
theorem partsAre_of {ts : List (Str × Tok)} {x y : Str} (h : ts.map (·.1) = partsF x y) (hSL : SplitLaw) (ax : Asc x) (ay : Asc y) (hx : x.length ≤ 14) (hy : y.length ≤ 14) : PartsAre ts x y := by
  have hm : ∀ p ∈ ts, p.1 ∈ partsF x y := fun p hp => by rw [← h]; exact List.mem_map_of_mem hp
  refine ⟨h, fun p hp => partsF_len hx hy _ (hm p hp), fun p hp => ?_, ?_⟩
  · have := hm p hp
    unfold partsF at this
    rcases List.mem_append.mp this with h1 | h1
    · exact hSL x ax _ h1
    · split at h1
      · cases h1
      · rw [List.mem_singleton.mp h1]; exact ay
  · have := congrArg List.length h
    rw [List.length_map] at this
    rw [this]
    exact partsF_count hx
theorem figs_none (hIL : IntLaw) : ∀ (ts : List (Str × Tok)), (∀ p ∈ ts, Asc p.1 ∧ p.1.length ≤ 14) → figsOf ts = if ((ts.map (·.1)).any fun r => (wholeF r).isNone) = true then none else some ((ts.map (·.1)).map numF)
  | [], _ => rfl
  | p :: r, h => by
    have ih := figs_none hIL r fun q hq => h q (List.mem_cons_of_mem _ hq)
    have h1 := hIL p.1 (h p (List.mem_cons_self ..)).1 (h p (List.mem_cons_self ..)).2
    rw [figsOf, h1]
    cases hw : wholeF p.1 with
    | none => simp only [List.map_cons, List.any_cons, hw, Option.isNone_none, Bool.true_or, if_true]
    | some n =>
      show (figsOf r).map _ = _
      have hn : numF p.1 = Str.ofString (toString n) := by unfold numF; rw [hw]
      rw [ih]
      simp only [List.map_cons, List.any_cons, hw, Option.isNone_some, Bool.false_or, hn]
      by_cases hc : ((r.map (·.1)).any fun r => (wholeF r).isNone) = true
      · rw [if_pos hc, if_pos hc]; rfl
      · rw [if_neg hc, if_neg hc]; rfl
theorem PartsAre.noneF {ts : List (Str × Tok)} {x y : Str} (h : PartsAre ts x y) (hIL : IntLaw) (hf : figsOf ts = none) : NoneIn (partsF x y) true := by
  rw [figs_none hIL ts (fun p hp => ⟨h.asc p hp, h.len p hp⟩), h.out] at hf
  refine ⟨?_⟩
  split at hf
  · assumption
  · cases hf
theorem PartsAre.allF {ts : List (Str × Tok)} {fs : List Str} {x y : Str} (h : PartsAre ts x y) (hIL : IntLaw) (hf : figsOf ts = some fs) : NoneIn (partsF x y) false ∧ fs = (partsF x y).map numF := by
  rw [figs_none hIL ts (fun p hp => ⟨h.asc p hp, h.len p hp⟩), h.out] at hf
  split at hf
  · cases hf
  · rename_i hc
    exact ⟨⟨by simpa using hc⟩, (Option.some.inj hf).symm⟩
theorem PartsAre.small {ts : List (Str × Tok)} {x y : Str} (h : PartsAre ts x y) : ∀ p ∈ ts, ∀ c ∈ p.1.cps.toList, c < 16 ^ 8 := fun p hp c hc => Nat.lt_of_le_of_lt (h.asc p hp c hc).2 (by decide)
theorem PartsAre.bound {ts : List (Str × Tok)} {x y : Str} (h : PartsAre ts x y) (hIL : IntLaw) : ∀ p ∈ ts, ∀ n, PySem.intText? p.1 = some n → n.natAbs < 10 ^ 20 := fun p hp n hn => by
  rw [hIL p.1 (h.asc p hp) (h.len p hp)] at hn
  exact (whole_lt hn (h.len p hp)).1
theorem figsN_len {ts : List (Str × Tok)} {fs : List Str} {x y : Str} (h : PartsAre ts x y) (hf : fs = (partsF x y).map numF) : ∀ r ∈ fs, r.length ≤ 30 := by
  intro r hr
  rw [hf] at hr
  obtain ⟨q, hq, rfl⟩ := List.mem_map.mp hr
  rw [← h.out] at hq
  obtain ⟨p, hp, rfl⟩ := List.mem_map.mp hq
  unfold numF
  cases hw : wholeF p.1 with
  | none => have := h.len p hp; dsimp only; omega
  | some n =>
    have := int_text_length_le10 (a := n) (k := 20) (by decide) (whole_lt hw (h.len p hp)).1
    dsimp only
    rw [PySem.ofString_length]
    omega
theorem app_head {prog : Program} {A : Around} {D : Addr} {vs : List Value} {n : Nat} {v : Value} (F : Fr h₀ L s.heap m) (N : News h₀ L s.heap ((D, listOf vs.toArray n) :: news)) (hne : ∀ p ∈ news, p.1 < D) (hsz : vs.length ≤ 1000)
    (h : ∀ n' h', Fr h₀ L h' m → News h₀ L h' ((D, listOf (vs ++ [v]).toArray n') :: news) → Q .none { s with heap := h' }) :
    wpAny (model prog w) A (call (.builtin "list.append") [.ref D, v]) Q E s := by
  have z := N _ (.head _)
  refine wpAny_list_append_plain (hsz := by rw [List.size_toArray, sizeLine_eq]; omega) ⟨n, z.1⟩ fun h' hpl hs => ?_
  have e : vs.toArray.push v = (vs ++ [v]).toArray := by simp
  rw [e] at hpl
  obtain ⟨n', hn'⟩ := hpl
  refine h n' h' (F.change hs z.2.1 z.2.2) fun p hp => ?_
  rcases List.mem_cons.mp hp with rfl | hp
  · exact ⟨hn', z.2⟩
  · have zp := N p (List.Mem.tail _ hp)
    exact ⟨hs.extBut _ _ (Nat.ne_of_lt (hne p hp)) zp.1, zp.2⟩
theorem end_s {r d : Str} {t : Tok} {g h' : Heap} {nw : List (Addr × Obj)} {tk' : Nat}
    (ret : ∀ t h₀' h' tk', KtsTurn (fsOf outer) h₀ h₀' → Fr h₀' L h' m → News h₀' L h' news → Below A₀ base outer h₀' → (hd.heap_39 w.params).In h₀' → Top p loose mean mg mb h₀' → KtsDicts (fsOf outer) h₀' → Q (.str r t) { s with heap := h', toks := tk' })
    (e : d = r) (hT : KtsTurn (fsOf outer) h₀ g) (F : Fr g L h' m) (N : News g L h' nw) (hs : ∀ p ∈ news, p ∈ nw) (B : Below A₀ base outer g) (X : (hd.heap_39 w.params).In g) (T : Top p loose mean mg mb g) (D : KtsDicts (fsOf outer) g) : Q (.str d t) { s with heap := h', toks := tk' } := by
  subst e
  exact ret t g h' tk' hT F (fun p hp => N p (hs p hp)) B X T D
theorem str_ext0 {y : Str} (h : y.length = 0) : y = Str.ofString "" := by
  have e : Str.ofString "" = Str.empty := by decide +kernel
  rw [e]
  apply Str.ext'
  exact Array.eq_empty_of_size_eq_zero h
/-- behind the choice of the build -/
def NormMid (g : Heap) (L : Addr) (m : Str → Option Value) (D : Addr) (nw : List (Addr × Obj)) (s : Shared) (x y : Str) (s' : Shared) : Prop :=
  ∃ (ts : List (Str × Tok)) (nn : Nat) (h' : Heap) (tk' : Nat), s' = { s with heap := h', toks := tk' } ∧ Fr g L h' m ∧ News g L h' ((D, listOf (strValues ts).toArray nn) :: nw) ∧ PartsAre ts x y
theorem NormMid.intro {g h' : Heap} {L D : Addr} {m : Str → Option Value} {nw : List (Addr × Obj)} {s : Shared} {x y : Str} {ts : List (Str × Tok)} {nn tk' : Nat} (F : Fr g L h' m) (N : News g L h' ((D, listOf (strValues ts).toArray nn) :: nw)) (h : PartsAre ts x y) : NormMid g L m D nw s x y { s with heap := h', toks := tk' } :=
  ⟨ts, nn, h', tk', rfl, F, N, h⟩
theorem C_cutL {M : Model} {A : Around} {st : Stmt} {rest : List Stmt} {env : Env} {Q : Flow → Shared → Prop} {E : Value → Shared → Prop} {s : Shared} {g : Heap} {L D : Addr} {o : Obj} {m : Str → Option Value} {nw : List (Addr × Obj)} (_ : Fr g L s.heap m) (_ : News g L s.heap ((D, o) :: nw)) (x y : Str)
    (h1 : wpC M A (exec st env) (fun f s' => f = .next ∧ NormMid g L m D nw s x y s') E s)
    (h2 : ∀ ts nn h' tk', Fr g L h' m → News g L h' ((D, listOf (strValues ts).toArray nn) :: nw) → PartsAre ts x y → wpC M A (execs rest env) Q E { s with heap := h', toks := tk' }) : wpC M A (execs (st :: rest) env) Q E s :=
  C_execs_cons (C_mono h1 (fun f s' ⟨e, hp⟩ => by
    subst e
    obtain ⟨ts, nn, h', tk', rfl, F, N, hpa⟩ := hp
    exact h2 ts nn h' tk' F N hpa) fun _ _ x => x)
def funcOf : Option Obj → FuncData
  | some ⟨_, _, .func fd, _⟩ => fd
  | _ => default
noncomputable def normFd (w : World) : FuncData := funcOf ((hd.heap_39 w.params).lookup 50)
set_option maxHeartbeats 8000000 in
theorem cs_normG {x y : Str} {tx ty : Tok} {kw : List (Str × Value)} (B : Below A₀ base outer h₀) (F : Fr h₀ L s.heap m) (X : (hd.heap_39 w.params).In h₀) (N : News h₀ L s.heap news) (T : Top p loose mean mg mb h₀) (hk : cs.kind = .function) (hdp : dp + 6 < recursionLimit) (hun : un + 60 < cLine) (XB : (hd.heap_39 w.params).In base) (TB : Top p loose mean mg mb base) (D : KtsDicts (fsOf outer) h₀) (hkb : ∀ S, peek (hd.heap_39 w.params) S (bindArgs (normFd w) ⟨[.str x tx], kw⟩) = some [(Str.ofString "version", .str x tx), (Str.ofString "build", .str y ty)]) (hIL : IntLaw) (hSL : SplitLaw) (ax : Asc x) (hx : x.length ≤ 14) (ay : Asc y) (hy : y.length ≤ 14) (ret : ∀ t h₀' h' tk', KtsTurn (fsOf outer) h₀ h₀' → Fr h₀' L h' m → News h₀' L h' news → Below A₀ base outer h₀' → (hd.heap_39 w.params).In h₀' → Top p loose mean mg mb h₀' → KtsDicts (fsOf outer) h₀' → Q (.str (normF x y) t) { s with heap := h', toks := tk' }) :
    wpC (model PySem.Challenge.rw_nb0114_01.row.prog w) (ktrTop dp un gd cn cs L a ccd [] outer) (call (.ref 50) [.str x tx] kw) Q NoE s := by

  refine C_call ?_
  refine' enterS (cn := cn) (cs := cs) (L := L) (a := a) (ccd := ccd) (outer := outer) (binds := [(Str.ofString "version", .str x tx), (Str.ofString "build", .str y ty)]) ?k1 ?k2 ?k3 ?k4 ?k5 ?XB ?TB ?kD ?kA ?kK ?k6 ?k7 ?k8 ?k9 ?kB ?_ ?c2 ?c3 ?c4 ?c5
  case XB => assumption
  case TB => assumption
  case kD => assumption
  case kA => exact rfl
  case kK => assumption
  case k1 => k_asm
  case k2 => k_asm
  case k3 => k_asm
  case k4 => k_asm
  case k5 => k_asm
  case k6 => k_is
  case k7 => k_is
  case k8 => ktr_room
  case k9 => exact kp_binds (K := hd.heap_39 w.params) (X.keeps F.keep) hkb
  case c5 => decide
  case kB => exact locs rfl
  case c2 => exact rfl
  case c3 => exact rfl
  case c4 => exact rfl
  intro g' L' h' FG' F' N' B' X' T' D'
  have hlt : ∀ p ∈ news, p.1 < h'.objs.size := fun p hp => Heap.lt_size (N' p hp).1
  (try dsimp only)
  (try k_lift B')
  (try k_fold)
  refine C_execs_cons (C_any ?_)
  k_steps
  rename List.map _ _ = Txt.split _ _ => hsp
  rename ∀ (a : Str), a ∈ _ → a.length ≤ _ => hlen
  rename StrsAre _ _ => hsa
  rename Heap.IsList _ _ _ => hil
  rename List (Str × Tok) => ll
  clear hsa hil hlen
  have hll : ll.length ≤ 15 := by
    have h1 := congrArg List.length hsp
    have hwt := PyProof.Rows.split_weight x (Str.ofString ".") (by decide +kernel)
    rw [List.length_map] at h1
    omega
  rename Fr _ _ _ _ => F3
  rename News _ _ _ _ => N3
  refine C_cutL F3 N3 x y ?_ ?_
  · refine C_If (C_any ?_)
    k_steps
    · refine C_any ?_
      k_steps
      unfold Halt
      rename (y.length : Int) ≠ 0 => hy0
      refine app_head (by k_asm) (by k_asm) hlt (by simp only [strValues, List.length_map]; omega) ?_
      intro n7 h7 F7 N7
      obtain ⟨ts, hts, hpa⟩ : ∃ ts, strValues ll ++ [Value.str y ty] = strValues ts ∧ PartsAre ts x y := ⟨ll ++ [(y, ty)], by simp [strValues], partsAre_of (by
        have hyb : (y == Str.ofString "") = false := by
          rw [beq_eq_false_iff_ne]
          intro e
          apply hy0
          rw [e]
          rfl
        unfold partsF
        rw [hyb, List.map_append, hsp]; rfl) hSL ax ay hx hy⟩
      rw [hts] at N7
      k_steps
      all_goals try exact True.intro
      refine NormMid.intro (by k_asm) (by k_asm) hpa
    · rename (y.length : Int) = 0 => hy0
      obtain ⟨ts, hts, hpa⟩ : ∃ ts, ts = ll ∧ PartsAre ts x y := ⟨ll, rfl, partsAre_of (by
        have hyb : (y == Str.ofString "") = true := by
          rw [beq_iff_eq]
          refine str_ext0 ?_
          omega
        unfold partsF
        rw [hyb, hsp]
        simp) hSL ax ay hx hy⟩
      subst hts
      refine C_any ?_
      k_steps
      all_goals try exact True.intro
      refine NormMid.intro (by k_asm) (by k_asm) hpa
  · intro ts n7 h7 tk7 F7 N7 hpa
    clear F3 N3
    (try dsimp only)
    refine C_execs_cons (C_Try (C_any ?_))
    k_steps
    unfold Halt
    rename Fr _ _ _ _ => lF
    rename News _ _ _ _ => lN
    have hD0 : ∀ p ∈ news, p.1 < h'.objs.size := hlt
    have hil0 := (lN _ (List.Mem.head _)).1
    refine call_map_list (items := (strValues ts).toArray) ⟨_, hil0, rfl, _, rfl⟩ fun h1 hm1 hi1 hs1 hk1 => ?_
    have F1 := lF.keeps hk1
    have N1 := keepN lN hk1
    have hit0 := lF.ns.lt
    have hab0 := lF.above
    have lN' := lN
    have lF' := lF
    clear lF lN
    k_steps
    unfold Halt
    refine call_map_it ⟨_, hm1.1, rfl⟩ fun h2 hm2 hs2 hk2 => ?_
    have F2 := F1.keeps hk2
    have N2 := keepN N1 hk2
    clear F1 N1
    k_steps
    unfold Halt
    rename Fr _ _ _ _ => lF2
    rename News _ _ _ _ => lN2
    (try dsimp only at hm1 hi1 hs1 hk1 hm2 hs2 hk2 hD0 hit0)
    have hil2 := (lN2 _ (List.Mem.head _)).1
    have hDl := Heap.lt_size hil0
    have hL1 : L' < h1.objs.size := by rw [hs1]; exact Nat.lt_of_lt_of_le hit0 (Nat.le_add_right _ _)
    refine list_mm (ts := ts) (by exact rfl) ⟨hm2, ⟨hk2 _ _ hm1.1, hk2 _ _ hm1.2⟩, hi1.at fun o e => hk2 _ o e, ⟨_, hil2, rfl, _, rfl⟩⟩ ⟨?p1, ?p2, ?p3, ?p4, ?p5⟩ (fun p hp => Nat.le_trans (hpa.len p hp) (by decide)) hpa.small (hpa.bound hIL) (Nat.le_trans hpa.count (by decide)) ?r1 ?r2
    case p1 => exact addrNe (by rw [hs1]; omega)
    case p2 => exact addrNe (by rw [hs1]; omega)
    case p3 => exact addrNe (by omega)
    case p4 => exact addrNe (by omega)
    case p5 => exact addrNe (by have h9 := natLt hDl; (try dsimp only at h9); (try dsimp only); omega)
    case r1 =>
      intro h3 tk3 c3 fs acc3 hf hk3 hS3 hm3
      dsimp only at hk3 hS3
      have F3 := keepF1 lF2 hk3 (Nat.ne_of_lt hit0) (next_is_new lF')
      have N3 := keepN1 lN2 hk3 (fun p hp => Nat.ne_of_lt (Heap.lt_size (lN' p hp).1))
      have N4 : News _ _ _ ((_, listOf (strValues acc3).toArray c3) :: _) := fun p hp => by
        rcases List.mem_cons.mp hp with rfl | hp
        · exact ⟨hS3, Nat.ne_of_gt lF2.ns.lt, next_is_new lF2⟩
        · exact N3 p hp
      obtain ⟨hno, hfs⟩ := hpa.allF hIL hf
      have hl30 := figsN_len hpa hfs
      have hsa3 : StrsAre (strValues acc3) fs := by rw [← hm3]; exact strsAre_of_values acc3
      have hq3 : (strValues acc3).length ≤ 16 := by rw [hsa3.length, hfs, List.length_map]; exact partsF_count hx
      clear lF2 lN2 N3 hk3 hS3 hm3 hf lF' lN' hk1 hk2 hm1 hm2 hi1 hil0 hil2
      generalize strValues acc3 = q3 at hsa3 N4 hq3
      k_steps
      repeat (refine C_any ?_; k_steps)
      unfold Halt
      refine' join3 (q := q3) (by k_asm) ?j1 hsa3 hl30 ?_
      case j1 => (repeat (first | exact List.Mem.head _ | assumption | apply List.Mem.tail))
      intro d8 t8 k8 hd8 hdl8
      k_steps
      refine' end_s ret ?e1 ?e2 ?e3 ?e4 ?e5 ?e6 ?e7 ?e8 ?e9
      case e1 => rw [hfs] at hd8; exact normF_of hno hd8
      case e2 => first | assumption | exact KtsTurn.refl
      case e3 => k_asm
      case e4 => k_asm
      case e5 => exact fun p hp => by repeat (first | exact hp | apply List.Mem.tail)
      case e6 => assumption
      case e7 => assumption
      case e8 => assumption
      case e9 => assumption
    case r2 =>
      intro h3 h4 tk4 e4 v4 hf hk3 hx4
      dsimp only at hk3
      have F3 := keepF1 lF2 hk3 (Nat.ne_of_lt hit0) (next_is_new lF')
      have N3 := keepN1 lN2 hk3 (fun p hp => Nat.ne_of_lt (Heap.lt_size (lN' p hp).1))
      have hno := hpa.noneF hIL hf
      have hl30 : ∀ r ∈ partsF x y, r.length ≤ 30 := fun r hr => Nat.le_trans (partsF_len hx hy r hr) (by decide)
      have hsa3 : StrsAre (strValues ts) (partsF x y) := by rw [← hpa.out]; exact strsAre_of_values ts
      have hq3 : (strValues ts).length ≤ 16 := by rw [hsa3.length]; exact partsF_count hx
      clear lF2 lN2 hk3 hf lF' lN' hk1 hk2 hm1 hm2 hi1 hil0 hil2
      generalize strValues ts = q3 at hsa3 N3 hq3
      refine' caughtOwn (KF := hd.heap_39 w.params) (X := "ValueError") (T' := "ValueError") hx4 ?q1 ?q2 ?q3 XB TB ?q4 ?q5 ?q6 ?q7 ?q8 ?q9 ?q10 ?_ PassesOwnAt.never (by rfl) (by rfl) (by decide)
      case q1 => exact F3
      case q2 => exact N3
      case q3 => k_asm
      case q4 => assumption
      case q5 => k_is
      case q6 => boot_fact
      case q7 => decide
      case q8 => (rw [isSubtype_type]; kernel_rfl!)
      case q9 => (rw [isSubtype_type]; kernel_rfl!)
      case q10 => (rw [isSubtype_type]; kernel_rfl!)
      clear hx4 F3 N3
      intro h9 g9 hT9 F9 N9 B9 X9 T9 D9
      k_steps
      repeat (refine C_any ?_; k_steps)
      unfold Halt
      refine' join3 (q := q3) (by k_asm) ?j1 hsa3 hl30 ?_
      case j1 => (repeat (first | exact List.Mem.head _ | assumption | apply List.Mem.tail))
      intro d8 t8 k8 hd8 hdl8
      k_steps
      refine' end_s ret ?e1 ?e2 ?e3 ?e4 ?e5 ?e6 ?e7 ?e8 ?e9
      case e1 => exact normF_of hno hd8
      case e2 => first | assumption | exact KtsTurn.refl
      case e3 => k_asm
      case e4 => k_asm
      case e5 => exact fun p hp => by repeat (first | exact hp | apply List.Mem.tail)
      case e6 => assumption
      case e7 => assumption
      case e8 => assumption
      case e9 => assumption
  

theorem cs_norm1 {x y : Str} {tx ty : Tok} (B : Below A₀ base outer h₀) (F : Fr h₀ L s.heap m) (X : (hd.heap_39 w.params).In h₀) (N : News h₀ L s.heap news) (T : Top p loose mean mg mb h₀) (hk : cs.kind = .function) (hdp : dp + 6 < recursionLimit) (hun : un + 60 < cLine) (XB : (hd.heap_39 w.params).In base) (TB : Top p loose mean mg mb base) (D : KtsDicts (fsOf outer) h₀) (hIL : IntLaw) (hSL : SplitLaw) (ax : Asc x) (hx : x.length ≤ 14) (ay : Asc y) (hy : y.length ≤ 14) (ret : ∀ t h₀' h' tk', KtsTurn (fsOf outer) h₀ h₀' → Fr h₀' L h' m → News h₀' L h' news → Below A₀ base outer h₀' → (hd.heap_39 w.params).In h₀' → Top p loose mean mg mb h₀' → KtsDicts (fsOf outer) h₀' → Q (.str (normF x y) t) { s with heap := h', toks := tk' }) :
    wpC (model PySem.Challenge.rw_nb0114_01.row.prog w) (ktrTop dp un gd cn cs L a ccd [] outer) (call (.ref 50) [.str x tx] [(Str.ofString "build", .str y ty)]) Q NoE s :=
  cs_normG (kw := [(Str.ofString "build", .str y ty)]) B F X N T hk hdp hun XB TB D (fun _ => rfl) hIL hSL ax hx ay hy ret
theorem cs_norm0 {x : Str} {tx : Tok} (B : Below A₀ base outer h₀) (F : Fr h₀ L s.heap m) (X : (hd.heap_39 w.params).In h₀) (N : News h₀ L s.heap news) (T : Top p loose mean mg mb h₀) (hk : cs.kind = .function) (hdp : dp + 6 < recursionLimit) (hun : un + 60 < cLine) (XB : (hd.heap_39 w.params).In base) (TB : Top p loose mean mg mb base) (D : KtsDicts (fsOf outer) h₀) (hIL : IntLaw) (hSL : SplitLaw) (ax : Asc x) (hx : x.length ≤ 14) (ret : ∀ t h₀' h' tk', KtsTurn (fsOf outer) h₀ h₀' → Fr h₀' L h' m → News h₀' L h' news → Below A₀ base outer h₀' → (hd.heap_39 w.params).In h₀' → Top p loose mean mg mb h₀' → KtsDicts (fsOf outer) h₀' → Q (.str (normF x (Str.ofString "")) t) { s with heap := h', toks := tk' }) :
    wpC (model PySem.Challenge.rw_nb0114_01.row.prog w) (ktrTop dp un gd cn cs L a ccd [] outer) (call (.ref 50) [.str x tx] []) Q NoE s :=
  cs_normG (kw := []) (y := Str.ofString "") (ty := 226) B F X N T hk hdp hun XB TB D (fun _ => rfl) hIL hSL ax hx (fun c hc => by
    have e : (Str.ofString "").cps.toList = [] := by decide +kernel
    rw [e] at hc
    cases hc) (by decide +kernel) ret
end
end Mine
end
section
open PySem PySem.W PyProof.Rows
theorem Mine.cut_NNorm : True ∧ True := by
  w_top off
  walk1
  all_goals exact True.intro
end

/- NHas2 -/
section
open PySem PySem.W PyProof.Rows PySem.Calls
set_option Elab.async false
set_option maxRecDepth 100000
namespace Mine
namespace Has
theorem lk_str_gi : typeLookup (.type "str") "__getitem__" = pure (some (.builtin "str.__getitem__")) := by rw [typeLookup_type, builtinLookup_eq_fast]; kernel_rfl
theorem lk_int_gi : typeLookup (.type "int") "__getitem__" = pure none := am_miss_of_fast (by kernel_rfl)
theorem typeOf_str_gi : typeOf (.builtin "str.__getitem__") = pure (.type "wrapper_descriptor") := by kernel_rfl
theorem wd_get : typeLookup (.type "wrapper_descriptor") "__get__" = pure (some (.builtin "wrapper_descriptor.__get__")) := by rw [typeLookup_type, builtinLookup_eq_fast]; kernel_rfl
theorem wd_set : typeLookup (.type "wrapper_descriptor") "__set__" = pure none := by rw [typeLookup_type, builtinLookup_eq_fast]; kernel_rfl
theorem wd_del : typeLookup (.type "wrapper_descriptor") "__delete__" = pure none := by rw [typeLookup_type, builtinLookup_eq_fast]; kernel_rfl
theorem md_get : typeLookup (.type "method_descriptor") "__get__" = pure (some (.builtin "method_descriptor.__get__")) := by rw [typeLookup_type, builtinLookup_eq_fast]; kernel_rfl
theorem md_set : typeLookup (.type "method_descriptor") "__set__" = pure none := by rw [typeLookup_type, builtinLookup_eq_fast]; kernel_rfl
theorem md_del : typeLookup (.type "method_descriptor") "__delete__" = pure none := by rw [typeLookup_type, builtinLookup_eq_fast]; kernel_rfl
theorem own_str_gi : ".".intercalate ("str.__getitem__".cutAt '.').dropLast = "str" := by decide +kernel
theorem sub_str_own : isSubtype (.type "str") (.type (".".intercalate ("str.__getitem__".cutAt '.').dropLast)) = pure true := by rw [own_str_gi, isSubtype_type]; kernel_rfl
theorem own_list_gi : ".".intercalate ("list.__getitem__".cutAt '.').dropLast = "list" := by decide +kernel
theorem sub_list_own : isSubtype (.type "list") (.type (".".intercalate ("list.__getitem__".cutAt '.').dropLast)) = pure true := by rw [own_list_gi, isSubtype_type]; kernel_rfl
theorem wd_entry : entryFor table "wrapper_descriptor.__get__" = some Builtin.«wrapper_descriptor.__get__» := entryFor_of_tree (by kernel_rfl)
theorem md_entry : entryFor table "method_descriptor.__get__" = some Builtin.«method_descriptor.__get__» := entryFor_of_tree (by kernel_rfl)
theorem hasattr_entry : entryFor table "hasattr" = some Builtin.«hasattr» := entryFor_of_tree (by kernel_rfl)
section
variable {prog : Program} {w : World} {A : Around} {E : Value → Shared → Prop} {s : Shared} {h : Heap} {g : Array GenState} {d : Drawn} {t : Nat} {os : OsState} {x : Str} {u : Tok}
theorem by_gen {o name : Value} {T gaid : String} {Q : Value → Shared → Prop} (hT : s.TypeIs o T) (ga : Slot T "__getattribute__" gaid)
    (h : wpAny (model prog w) A (call (.builtin gaid) [o, name]) (fun v s' => wpAny (model prog w) A (handedOut v) Q E s') (fun e s' => wpAny (model prog w) A (getattributeRaised o name (.type T) e none false false) Q E s') s) :
    wpAny (model prog w) A (getAttrBy o name false) Q E s := by
  unfold getAttrBy
  refine wpAny_holding (wpAny_bind (wpAny_typeOf hT (wpAny_bind (wpAny_of_eq ga.lookup ?_))))
  dsimp only
  rw [if_neg (by rw [show onTheHeap (.type T) = false from rfl]; simp)]
  unfold getAttrByItsOwn
  refine wpAny_bind (wpAny_of_eq (a := none) (by rfl) ?_)
  refine wpAny_bind (wpAny_attempt (wpAny_holding ?_))
  show wpAny _ _ (boundAndCalled (.builtin gaid) o name) _ _ _
  unfold boundAndCalled
  refine wpAny_bind (wpAny_of_eq (ga.bind o) ?_)
  exact h
/-- object.__getattribute__ finds a method on the type -/
theorem entry_gen {o : Value} {T gid D getid : String} {tk : Tok} {Q : Fin → Shared → Prop} (hT : s.TypeIs o T) (hn : o ≠ .none) (lk : typeLookup (.type T) "__getitem__" = pure (some (.builtin gid))) (ty : typeOf (.builtin gid) = pure (.type D))
    (lget : typeLookup (.type D) "__get__" = pure (some (.builtin getid))) (lset : typeLookup (.type D) "__set__" = pure none) (ldel : typeLookup (.type D) "__delete__" = pure none)
    (hown : ∀ Q' : Option Value → Shared → Prop, Q' none s → wpAny (model prog w) A (Builtin.ObjectAttr.inOwnDict "__getitem__" o) Q' E s) (hc : Builtin.ObjectAttr.copiedAttributeGuard "__getitem__" o = pure ())
    (h : wpAny (model prog w) A (call (.builtin getid) [.builtin gid, o, .type T]) (fun v s' => Q (.done (.ret v)) s') E s) :
    wpAny (model prog w) A (Builtin.«object.__getattribute__» ⟨[o, .str "__getitem__" tk], []⟩) Q E s := by
  have hD : s.TypeIs (.builtin gid) D := ty
  unfold Builtin.«object.__getattribute__»
  refine wpAny_bind (wpAny_of_eq (a := (o, [.str "__getitem__" tk])) (by rfl) ?_)
  dsimp only
  refine wpAny_bind (wpAny_of_eq (a := Str.ofString "__getitem__") (by rfl) ?_)
  refine wpAny_bind (wpAny_typeOf hT ?_)
  refine wpAny_bind ?_
  unfold Builtin.ObjectAttr.find
  refine wpAny_bind (wpAny_of_eq lk ?_)
  refine wpAny_bind ?_
  show wpAny _ _ (specialOf (.builtin gid) "__get__") _ _ _
  refine wpAny_specialOf hD lget ?_
  refine wpAny_bind ?_
  show wpAny _ _ (do if ← Builtin.ObjectAttr.takesStores (.builtin gid) then pure (some (Value.builtin getid, Value.builtin gid)) else pure none) _ _ _
  refine wpAny_bind ?_
  unfold Builtin.ObjectAttr.takesStores
  refine wpAny_bind (wpAny_specialOf hD lset ?_)
  rw [if_neg (by simp)]
  refine wpAny_bind (wpAny_specialOf hD ldel (wpAny_pure ?_))
  rw [if_neg (by simp)]
  refine wpAny_pure ?_
  show wpAny _ _ (Builtin.ObjectAttr.ownThenClass o "__getitem__" (some (.builtin gid)) (some (.builtin getid))) _ _ _
  unfold Builtin.ObjectAttr.ownThenClass
  refine wpAny_bind (hown _ ?_)
  dsimp only
  refine wpAny_bind (wpAny_of_eq hc ?_)
  show wpAny _ _ (rule "getattr.non-data-descriptor" >>= fun _ => pure (Builtin.ObjectAttr.Found.bind (.builtin getid) (.builtin gid))) _ _ _
  refine wpAny_bind (wpAny_rule (wpAny_pure ?_))
  dsimp only
  have e : Builtin.ObjectAttr.bindTo (.builtin getid) (.builtin gid) o (.type T) = (do let v ← holding [.builtin gid] (call (.builtin getid) [.builtin gid, o, .type T]); ret v) := by
    cases o with
    | none => exact absurd rfl hn
    | _ => rfl
  rw [e]
  exact wpAny_bind (wpAny_holding (wpAny_mono h (fun v s' h' => wpAny_pure h') fun _ _ e => e))
theorem entry_str {tk : Tok} {Q : Fin → Shared → Prop} (hq : ∀ ob, Q (.done (.ret (.ref h.objs.size))) ⟨h.push ob, g, d, t, os⟩) : wpAny (model prog w) A (Builtin.«object.__getattribute__» ⟨[.str x u, .str "__getitem__" tk], []⟩) Q E ⟨h, g, d, t, os⟩ := by
  have hT : (⟨h, g, d, t, os⟩ : Shared).TypeIs (.str x u) "str" := rfl
  have f9 := sub_str_own
  refine entry_gen (T := "str") rfl (by intro e; cases e) lk_str_gi typeOf_str_gi wd_get wd_set wd_del (fun Q' h' => wpAny_pure h') rfl ?_
  refine wpAny_call (codeAny_call_builtin (by decide +kernel) wd_entry (wpAny_of_eq (a := ()) (by kernel_rfl) ?_))
  repeat (any_goals (first | assumption | wp_step))
  exact hq _
theorem entry_list {a : Addr} {its : Array Value} {n : Nat} {tk : Tok} {Q : Fin → Shared → Prop} (ha : h.get? a = some { cls := .type "list", data := .seq its n }) (hq : ∀ ob, Q (.done (.ret (.ref h.objs.size))) ⟨h.push ob, g, d, t, os⟩) : wpAny (model prog w) A (Builtin.«object.__getattribute__» ⟨[.ref a, .str "__getitem__" tk], []⟩) Q E ⟨h, g, d, t, os⟩ := by
  have hT : (⟨h, g, d, t, os⟩ : Shared).TypeIs (.ref a) "list" := ⟨_, ha, rfl⟩
  have f9 := sub_list_own
  refine entry_gen (T := "list") hT (by intro e; cases e) list_getitem_lookup PySem.F.type_list_getitem md_get md_set md_del ?_ ?_ ?_
  · intro Q' h'
    repeat (any_goals (first | assumption | wp_step))
  · rfl
  refine wpAny_call (codeAny_call_builtin (by decide +kernel) md_entry (wpAny_of_eq (a := ()) (by kernel_rfl) ?_))
  repeat (any_goals (first | assumption | wp_step))
  exact hq _
theorem by_str {tk : Tok} {Q : Value → Shared → Prop} (hq : ∀ h', (∀ b o, s.heap.get? b = some o → h'.get? b = some o) → Q (.ref s.heap.objs.size) { s with heap := h' }) : wpAny (model prog w) A (getAttrBy (.str x u) (.str "__getitem__" tk) false) Q E s := by
  refine by_gen (T := "str") rfl PySem.F.slot_str_getattribute (wpAny_call (codeAny_call_builtin PySem.F.slot_str_getattribute.plain PySem.F.entry_object_getattribute (PySem.F.slot_str_getattribute.check _ _ _ _ _ _ _ _ rfl (PySem.F.args_object_getattribute_2 _ _) ?_)))
  exact entry_str fun ob => wpAny_pure (hq _ fun b o e => Heap.get?_push_of_some _ e)
theorem str_found {tk : Tok} {Q : Value → Shared → Prop}
    (hq : ∀ h', (∀ b o, s.heap.get? b = some o → h'.get? b = some o) → Q (.bool true) { s with heap := h' }) : wpAny (model prog w) A (call (.builtin "hasattr") [.str x u, .str "__getitem__" tk]) Q E s := by
  refine wpAny_call (codeAny_call_builtin (by decide +kernel) hasattr_entry (wpAny_of_eq (a := ()) (by kernel_rfl) ?_))
  unfold Builtin.«hasattr»
  refine wpAny_bind (wpAny_of_eq (a := [.str x u, .str "__getitem__" tk]) (by rfl) ?_)
  refine wpAny_bind (wpAny_of_eq (a := ()) (by rfl) ?_)
  rw [if_neg (show ¬ ((Value.str x u == Value.builtin "__main__.__loader__#opaque") = true) from Bool.false_ne_true)]
  refine wpAny_bind (wpAny_of_eq (a := .type "str") (by rfl) ?_)
  dsimp only
  refine wpAny_bind (wpAny_of_eq (a := some (Str.ofString "__getitem__")) (by rfl) ?_)
  dsimp only
  refine wpAny_bind (wpAny_of_eq (a := _) lk_str_gi ?_)
  dsimp only
  refine wpAny_bind (wpAny_of_eq PySem.F.slot_str_getattribute.lookup ?_)
  rw [if_neg (by decide +kernel)]
  refine wpAny_bind (wpAny_of_eq (a := 0) (by rfl) ?_)
  rw [if_neg (by decide)]
  refine wpAny_bind ?_
  unfold getAttrBy?
  refine wpAny_bind (wpAny_attempt (by_str fun h' hk => wpAny_pure ?_))
  rw [if_neg (by simp)]
  exact wpAny_pure (hq h' hk)
theorem by_list {a : Addr} {its : Array Value} {n : Nat} {tk : Tok} {Q : Value → Shared → Prop} (ha : s.heap.get? a = some { cls := .type "list", data := .seq its n }) (hq : ∀ h', (∀ b o, s.heap.get? b = some o → h'.get? b = some o) → Q (.ref s.heap.objs.size) { s with heap := h' }) : wpAny (model prog w) A (getAttrBy (.ref a) (.str "__getitem__" tk) false) Q E s := by
  refine by_gen (T := "list") ⟨_, ha, rfl⟩ PySem.F.slot_list_getattribute (wpAny_call (codeAny_call_builtin PySem.F.slot_list_getattribute.plain PySem.F.entry_list_ga (PySem.F.slot_list_getattribute.check _ _ _ _ _ _ _ _ ⟨_, ha, rfl⟩ (PySem.F.args_list_getattribute_2 _ _) ?_)))
  exact entry_list ha fun ob => wpAny_pure (hq _ fun b o e => Heap.get?_push_of_some _ e)
theorem list_not_module : isSubtype (.type "list") (.type "module") = pure false := by rw [isSubtype_type]; kernel_rfl
theorem list_found {a : Addr} {its : Array Value} {n : Nat} {tk : Tok} {Q : Value → Shared → Prop} (ha : s.heap.get? a = some { cls := .type "list", data := .seq its n })
    (hq : ∀ h', (∀ b o, s.heap.get? b = some o → h'.get? b = some o) → Q (.bool true) { s with heap := h' }) : wpAny (model prog w) A (call (.builtin "hasattr") [.ref a, .str "__getitem__" tk]) Q E s := by
  have hT : s.TypeIs (.ref a) "list" := ⟨_, ha, rfl⟩
  refine wpAny_call (codeAny_call_builtin (by decide +kernel) hasattr_entry (wpAny_of_eq (a := ()) (by kernel_rfl) ?_))
  unfold Builtin.«hasattr»
  refine wpAny_bind (wpAny_of_eq (a := [.ref a, .str "__getitem__" tk]) (by rfl) ?_)
  refine wpAny_bind (wpAny_of_eq (a := ()) (by rfl) ?_)
  rw [if_neg (show ¬ ((Value.ref a == Value.builtin "__main__.__loader__#opaque") = true) from Bool.false_ne_true)]
  refine wpAny_bind (wpAny_typeOf hT ?_)
  dsimp only
  refine wpAny_bind (wpAny_of_eq (a := some (Str.ofString "__getitem__")) (by rfl) ?_)
  dsimp only
  refine wpAny_bind (wpAny_of_eq (a := _) list_getitem_lookup ?_)
  dsimp only
  refine wpAny_bind (wpAny_of_eq PySem.F.slot_list_getattribute.lookup ?_)
  rw [if_neg (by decide +kernel)]
  refine wpAny_bind ?_
  show wpAny _ _ (isInstance (.ref a) (.type "module") >>= _) _ _ _
  refine wpAny_bind (wpAny_isInstance (T := "list") (b := false) hT list_not_module ?_)
  refine wpAny_pure ?_
  rw [if_neg (by decide)]
  refine wpAny_bind ?_
  unfold getAttrBy?
  refine wpAny_bind (wpAny_attempt (by_list ha fun h' hk => wpAny_pure ?_))
  rw [if_neg (by simp)]
  exact wpAny_pure (hq h' hk)
theorem by_int {i : Int} {tk : Tok} {Q : Value → Shared → Prop} (hh : A.handled = none) (hE : ∀ h' tk e, Heap.NewAttrErr s.heap h' e (.int i u) "__getitem__" → E (.ref e) { s with heap := h', toks := tk }) : wpAny (model prog w) A (getAttrBy (.int i u) (.str "__getitem__" tk) false) Q E s := by
  refine by_gen (T := "int") rfl PySem.F.slot_int_getattribute (call_meets PySem.F.slot_int_getattribute rfl am_entry_int_getattribute (PySem.F.args_int_getattribute_2 _ _) (meets_getattribute_miss_int i u "__getitem__" _ lk_int_gi (by rw [sizeLine_eq]; decide +kernel)) ⟨hh, fun h' tk' e hx => ?_⟩)
  obtain ⟨t', u', he⟩ := hx.there
  unfold getattributeRaised
  refine wpAny_bind (wpAny_isInstance (T := "AttributeError") (b := true) ⟨_, he, rfl⟩ sub_AttributeError ?_)
  rw [if_pos rfl]
  refine wpAny_bind (wpAny_of_eq (a := none) (by exact am_int_getattr_none) ?_)
  unfold hookOrError
  dsimp only
  unfold attributeErrorLeaves
  rw [if_pos (by rfl)]
  exact wpAny_bind (wpAny_throw (hE h' tk' e hx))
theorem int_lacks {i : Int} {tk : Tok} {Q : Value → Shared → Prop} (hh : A.handled = none)
    (hq : ∀ h' k, (∀ b o, s.heap.get? b = some o → h'.get? b = some o) → Q (.bool false) { s with heap := h', toks := k }) : wpAny (model prog w) A (call (.builtin "hasattr") [.int i u, .str "__getitem__" tk]) Q E s := by
  refine wpAny_call (codeAny_call_builtin (by decide +kernel) hasattr_entry (wpAny_of_eq (a := ()) (by kernel_rfl) ?_))
  unfold Builtin.«hasattr»
  refine wpAny_bind (wpAny_of_eq (a := [.int i u, .str "__getitem__" tk]) (by rfl) ?_)
  refine wpAny_bind (wpAny_of_eq (a := ()) (by rfl) ?_)
  rw [if_neg (show ¬ ((Value.int i u == Value.builtin "__main__.__loader__#opaque") = true) from Bool.false_ne_true)]
  refine wpAny_bind (wpAny_of_eq (a := .type "int") (by rfl) ?_)
  dsimp only
  refine wpAny_bind (wpAny_of_eq (a := some (Str.ofString "__getitem__")) (by rfl) ?_)
  dsimp only
  refine wpAny_bind (wpAny_of_eq (a := _) lk_int_gi ?_)
  dsimp only
  refine wpAny_bind (wpAny_of_eq (a := 0) (by rfl) ?_)
  rw [if_neg (by decide)]
  refine wpAny_bind ?_
  unfold getAttrBy?
  refine wpAny_bind (wpAny_attempt (by_int (by exact hh) fun h' k e hx => ?_))
  obtain ⟨t', u', he⟩ := hx.there
  refine wpAny_bind (wpAny_isInstance (T := "AttributeError") (b := true) ⟨_, he, rfl⟩ sub_AttributeError ?_)
  rw [if_pos rfl]
  refine wpAny_pure ?_
  rw [if_neg (by simp)]
  exact wpAny_pure (hq h' k hx.keeps)
end
end Has
end Mine
end
section
open PySem PySem.W PyProof.Rows
theorem Mine.cut_NHas2 : True ∧ True := by
  w_top off
  walk1
  all_goals exact True.intro
end

/- NConcat -/
section
open PySem PySem.W PyProof.Rows PySem.Calls
set_option Elab.async false
set_option maxRecDepth 100000
set_option pp.deepTerms false
set_option pp.maxSteps 6000
namespace Mine
theorem fill_concat : ∀ w : World, (hd.heap_39 w.params) = (hd.heap_39 w.params) ∧ PySem.Challenge.rw_nb0114_01.row.prog = PySem.Challenge.rw_nb0114_01.row.prog := by
  k_fill
  exact fun _ => ⟨rfl, rfl⟩
section
variable {w : World} {p : Program} {loose : List Str} {mean : ExcName → Option Value} {mg mb : Str → Option Value} {dp un : Nat} {gd : Option (List Code)} {cn : Str} {cs : Scope} {a : Addr} {ccd : Value} {cl : List (Str × Addr)} {outer : List Env} {A₀ : Around} {base h₀ : Heap} {L : Addr} {m : Str → Option Value} {news : List (Addr × Obj)} {s : Shared} {Q E : Value → Shared → Prop}

local macro_rules | `(tactic| walk_at "call builtin:hasattr") => `(tactic| (refine Halt.out ?_))
set_option maxHeartbeats 8000000 in
theorem ct_concat_s {x y : Str} {tx ty : Tok} (B : Below A₀ base outer h₀) (F : Fr h₀ L s.heap m) (X : (hd.heap_39 w.params).In h₀) (N : News h₀ L s.heap news) (T : Top p loose mean mg mb h₀) (hk : cs.kind = .function) (hdp : dp + 3 < recursionLimit) (hun : un + 30 < cLine) (hx : x.length ≤ 100) (hy : y.length ≤ 100) (ret : ∀ t h' tk', Fr h₀ L h' m → News h₀ L h' news → Q (.str (x ++ y) t) { s with heap := h', toks := tk' }) :
    wpAny (model PySem.Challenge.rw_nb0114_01.row.prog w) (ktrTop dp un gd cn cs L a ccd cl outer) (call (.ref 21) [.str x tx, .str y ty] []) Q E s := by

  refine wpAny_call ?_
  k_dflt cell_enter
  k_steps
  unfold Halt
  rename Fr _ _ _ _ => lF
  rename News _ _ _ _ => lN
  refine Has.str_found fun h1 hk1 => ?_
  have F1 := lF.keeps hk1
  have N1 := keepN lN hk1
  clear lF lN
  k_steps
  refine' end_ret ret ?e1 ?e2 ?e3 ?e4
  case e1 => rfl
  case e2 => k_asm
  case e3 => k_asm
  case e4 => exact fun p hp => by repeat (first | exact hp | apply List.Mem.tail)
set_option maxHeartbeats 8000000 in
theorem ct_concat_l {b c : Addr} {n k : Nat} {x y z : Str} {tx ty tz : Tok} (B : Below A₀ base outer h₀) (F : Fr h₀ L s.heap m) (X : (hd.heap_39 w.params).In h₀) (N : News h₀ L s.heap news) (T : Top p loose mean mg mb h₀) (hk : cs.kind = .function) (hdp : dp + 3 < recursionLimit) (hun : un + 30 < cLine) (hb : (b, listOf [Value.str x tx, .str y ty].toArray n) ∈ news) (hc : (c, listOf [Value.str z tz].toArray k) ∈ news) (ret : ∀ r h' tk', Fr h₀ L h' m → News h₀ L h' ((r, listOf [Value.str x tx, .str y ty, .str z tz].toArray 0) :: news) → (∀ p ∈ news, p.1 < r) → Q (.ref r) { s with heap := h', toks := tk' }) :
    wpAny (model PySem.Challenge.rw_nb0114_01.row.prog w) (ktrTop dp un gd cn cs L a ccd cl outer) (call (.ref 21) [.ref b, .ref c] []) Q E s := by

  refine wpAny_call ?_
  k_dflt cell_enter
  k_steps
  unfold Halt
  rename Fr _ _ _ _ => lF
  rename News _ _ _ _ => lN
  refine Has.list_found (lN _ (by repeat (first | exact hb | apply List.Mem.tail))).1 fun h1 hk1 => ?_
  have F1 := lF.keeps hk1
  have N1 := keepN lN hk1
  clear lF lN
  k_steps
  rename News h₀ _ _ _ => kN
  rename Fr h₀ _ _ _ => kF
  rename ∀ (p : Addr × Obj), p ∈ news → p.fst < _ => l1
  exact ret _ _ _ kF kN l1
end
end Mine
end
section
open PySem PySem.W PyProof.Rows
theorem Mine.cut_NConcat : True ∧ True := by
  w_top off
  walk1
  all_goals exact True.intro
end

/- NDueD -/
section
open PySem PySem.W PyProof.Rows PySem.Calls
set_option Elab.async false
set_option maxRecDepth 100000
namespace Mine
def textsL : List Str := [Str.ofString "SunOS", Str.ofString "win32", Str.ofString "win16", Str.ofString "9_0.1", Str.ofString "7 .2", Str.ofString "10.5", Str.ofString "+6", Str.ofString "x.05", Str.ofString ""]
def piecesL : List Str := [Str.ofString "5", Str.ofString "0", Str.ofString "10", Str.ofString "9", Str.ofString ".", Str.ofString "-", Str.ofString " ", Str.ofString "_", Str.ofString "+", Str.ofString "unknown", Str.ofString "un", Str.ofString "known", Str.ofString "/", Str.ofString "(", Str.ofString "x", Str.ofString "SunOS", Str.ofString "\\", Str.ofString ":", Str.ofString ";", Str.ofString "\"", Str.ofString ")"]
def itemL (fs : List Str) (i : Int) : Str := fs.getD i.toNat Str.empty
def cut14 (r : Str) : Str := Txt.slice r none (some 14)
theorem textsL_len : ∀ r ∈ textsL, r.length ≤ 7 := by decide +kernel
theorem piecesL_len : ∀ r ∈ piecesL, r.length ≤ 7 := by decide +kernel
/-- the facts behind a deed, not yet cut -/
def outL (x y z : Str) (n : Int) : List Str :=
  if n.fmod 8 = 0 then [(aliasF x y z).1, (aliasF x y z).2.1, (aliasF x y z).2.2]
  else if n.fmod 8 = 1 then [x, y, z].set ((n.fdiv 8).fmod 3).toNat (normF (itemL [x, y, z] ((n.fdiv 8).fmod 3)) (itemL [x, y, z] (((n.fdiv 8).fdiv 3).fmod 3)))
  else if n.fmod 8 = 2 then [x, y, z].set ((n.fdiv 8).fmod 3).toNat (normF (itemL [x, y, z] ((n.fdiv 8).fmod 3)) (Str.ofString ""))
  else if n.fmod 8 = 3 then [x, y, z].set ((n.fdiv 8).fmod 3).toNat (nameF x y z)
  else if n.fmod 8 = 4 then [x, y, z].set ((n.fdiv 8).fmod 3).toNat (itemL textsL (((n.fdiv 8).fdiv 3).fmod 9))
  else if n.fmod 8 < 7 then [x, y, z].set ((n.fdiv 8).fmod 3).toNat (itemL [x, y, z] ((n.fdiv 8).fmod 3) ++ itemL piecesL (((n.fdiv 8).fdiv 3).fmod 21))
  else if (n.fdiv 8).fmod 2 = 1 then [y, z, x]
  else [x, y, z]
def dueL (x y z : Str) (n : Int) : List Str := (outL x y z n).map cut14
/-- kept shut -/
structure OutIs (x y z : Str) (n : Int) (fs : List Str) : Prop where
  out : fs = outL x y z n
section
variable {x y z : Str} {n : Int}
theorem out0 (h : n.fmod 8 = 0) : OutIs x y z n [(aliasF x y z).1, (aliasF x y z).2.1, (aliasF x y z).2.2] := ⟨by rw [outL, if_pos h]⟩
theorem out1 (h : n.fmod 8 = 1) : OutIs x y z n ([x, y, z].set ((n.fdiv 8).fmod 3).toNat (normF (itemL [x, y, z] ((n.fdiv 8).fmod 3)) (itemL [x, y, z] (((n.fdiv 8).fdiv 3).fmod 3)))) := ⟨by rw [outL, if_neg (by omega), if_pos h]⟩
theorem out2 (h : n.fmod 8 = 2) : OutIs x y z n ([x, y, z].set ((n.fdiv 8).fmod 3).toNat (normF (itemL [x, y, z] ((n.fdiv 8).fmod 3)) (Str.ofString ""))) := ⟨by rw [outL, if_neg (by omega), if_neg (by omega), if_pos h]⟩
theorem out3 (h : n.fmod 8 = 3) : OutIs x y z n ([x, y, z].set ((n.fdiv 8).fmod 3).toNat (nameF x y z)) := ⟨by rw [outL, if_neg (by omega), if_neg (by omega), if_neg (by omega), if_pos h]⟩
theorem out4 (h : n.fmod 8 = 4) : OutIs x y z n ([x, y, z].set ((n.fdiv 8).fmod 3).toNat (itemL textsL (((n.fdiv 8).fdiv 3).fmod 9))) := ⟨by rw [outL, if_neg (by omega), if_neg (by omega), if_neg (by omega), if_neg (by omega), if_pos h]⟩
theorem out5 (h0 : n.fmod 8 ≠ 0) (h1 : n.fmod 8 ≠ 1) (h2 : n.fmod 8 ≠ 2) (h3 : n.fmod 8 ≠ 3) (h4 : n.fmod 8 ≠ 4) (h : n.fmod 8 < 7) : OutIs x y z n ([x, y, z].set ((n.fdiv 8).fmod 3).toNat (itemL [x, y, z] ((n.fdiv 8).fmod 3) ++ itemL piecesL (((n.fdiv 8).fdiv 3).fmod 21))) := ⟨by rw [outL, if_neg h0, if_neg h1, if_neg h2, if_neg h3, if_neg h4, if_pos h]⟩
theorem out7 (h : ¬ n.fmod 8 < 7) (hq : (n.fdiv 8).fmod 2 = 1) : OutIs x y z n [y, z, x] := ⟨by rw [outL, if_neg (by omega), if_neg (by omega), if_neg (by omega), if_neg (by omega), if_neg (by omega), if_neg h, if_pos hq]⟩
theorem out8 (h : ¬ n.fmod 8 < 7) (hq : (n.fdiv 8).fmod 2 ≠ 1) : OutIs x y z n [x, y, z] := ⟨by rw [outL, if_neg (by omega), if_neg (by omega), if_neg (by omega), if_neg (by omega), if_neg (by omega), if_neg h, if_neg hq]⟩
end
theorem fmod_bounds (a b : Int) (h : 0 < b) : 0 ≤ a.fmod b ∧ a.fmod b < b := ⟨Int.fmod_nonneg_of_pos a h, Int.fmod_lt_of_pos a h⟩
/-- a text at a place of a list of texts -/
theorem strs_at {vs : List Value} {fs : List Str} (hs : StrsAre vs fs) {i : Int} (h0 : 0 ≤ i) (h1 : i < fs.length) : ∃ t, vs[i.toNat]? = some (.str (itemL fs i) t) := by
  have key : ∀ {vs : List Value} {fs : List Str}, StrsAre vs fs → ∀ k : Nat, k < fs.length → ∃ t, vs[k]? = some (.str (fs.getD k Str.empty) t) := by
    intro vs fs hs
    induction hs with
    | nil => intro k hk; exact absurd hk (Nat.not_lt_zero _)
    | cons y t _ ih =>
      intro k hk
      cases k with
      | zero => exact ⟨t, rfl⟩
      | succ k => exact ih k (by simpa using hk)
  exact key hs i.toNat (by omega)
theorem itemL_mem {fs : List Str} {i : Int} (h0 : 0 ≤ i) (h1 : i < fs.length) : itemL fs i ∈ fs := by
  unfold itemL
  have h : i.toNat < fs.length := by omega
  rw [List.getD_eq_getElem?_getD, List.getElem?_eq_getElem h]
  exact List.getElem_mem h
theorem strs_set {vs : List Value} {fs : List Str} (hs : StrsAre vs fs) : ∀ (k : Nat) (r : Str) (t : Tok), StrsAre (vs.set k (.str r t)) (fs.set k r) := by
  induction hs with
  | nil => intro k r t; exact StrsAre.nil
  | cons y u h ih =>
    intro k r t
    cases k with
    | zero => exact StrsAre.cons _ _ h
    | succ k => exact StrsAre.cons _ _ (ih k r t)
theorem off1_mem {D : Addr} {l : List (Addr × Obj)} (h : LCg.Off1 D l) : ∀ p ∈ l, p.1 ≠ D := by
  induction l with
  | nil => intro p hp; exact absurd hp List.not_mem_nil
  | cons q r ih =>
    intro p hp
    rcases List.mem_cons.mp hp with e | hp
    · rw [e]; exact h.1
    · exact ih h.2 p hp
def RCut (v y : Value) : Prop := ∃ r t u, v = .str r t ∧ y = .str (cut14 r) u
theorem cut_strs : ∀ {vs ys : List Value} {fs : List Str}, StrsAre vs fs → Pairs RCut vs ys → StrsAre ys (fs.map cut14) := by
  intro vs ys fs hs
  induction hs generalizing ys with
  | nil =>
    intro h
    have : ys = [] := List.length_eq_zero_iff.mp (by simpa using h.1)
    subst this
    exact StrsAre.nil
  | cons y t hr ih =>
    intro h
    cases ys with
    | nil => have := h.1; simp at this
    | cons w ws =>
      obtain ⟨w', hw, r, t', u, e1, e2⟩ := h.2 0 _ rfl
      have : w = w' := by simpa using hw
      subst this
      injection e1 with e1 _
      subst e1
      subst e2
      refine StrsAre.cons _ _ (ih ⟨by have := h.1; simpa using this, fun i v hv => ?_⟩)
      exact h.2 (i + 1) v (by simpa using hv)
theorem cut14_len (r : Str) : (cut14 r).length ≤ 14 := by
  rw [← len_list]
  unfold cut14
  rw [slice_toList, List.length_take]
  simp only [clipN]
  omega
/-- the object of a new list of such texts -/
def IsLs (fs : List Str) (_ : Addr) (o : Obj) : Prop := ∃ (ts : List (Str × Tok)) (n : Nat), ts.map (·.1) = fs ∧ o = listOf (strValues ts).toArray n
theorem strs_vals {ys : List Value} {fs : List Str} (h : StrsAre ys fs) : ∃ ts : List (Str × Tok), strValues ts = ys ∧ ts.map (·.1) = fs := by
  induction h with
  | nil => exact ⟨[], rfl, rfl⟩
  | cons y t _ ih =>
    obtain ⟨ts, h1, h2⟩ := ih
    exact ⟨(y, t) :: ts, by rw [← h1]; rfl, by rw [← h2]; rfl⟩
theorem isLs_of {ys : List Value} {fs : List Str} {r : Addr} {n : Nat} (h : StrsAre ys fs) : IsLs fs r (listOf ys.toArray n) := by
  obtain ⟨ts, rfl, h2⟩ := strs_vals h
  exact ⟨ts, n, h2, rfl⟩
/-- an item of a list of the ledger -/
theorem itemK {prog : Program} {w : World} {A : Around} {E : Value → Shared → Prop} {s : Shared} {h₀ : Heap} {L l : Addr} {news : List (Addr × Obj)} {value slice : PySem.Expr} {vs : List Value} {n : Nat} {k : Int} {u : Tok} {v : Value} {Q : Value → Shared → Prop}
    (N : News h₀ L s.heap news) (hm : (l, listOf vs.toArray n) ∈ news) (h0 : 0 ≤ k) (hhi : k < 2 ^ 63) (hx : vs[k.toNat]? = some v) (h : Q v s)
    (hs : subscripted slice false (.ref l) (.int k u) = operate [.ref l, .int k u] (getItem (.ref l) (.int k u)) := by with_unfolding_all rfl) :
    wpAny (model prog w) A (subscriptTail value slice (.ref l) (.int k u)) Q E s :=
  have hl : s.heap.IsList l vs.toArray := ⟨_, (N _ hm).1, rfl, n, rfl⟩
  tail_any hl.typeIs slot_list_getitem.lookup (wpAny_getItem_list hl h0 hhi (by simpa using hx) h) hs
theorem normF_len {x y : Str} (hx : x.length ≤ 14) (hy : y.length ≤ 14) : (normF x y).length ≤ 300 := by
  unfold normF
  have hp := partsF_len hx hy
  have hq : ∀ r ∈ (if ((partsF x y).any fun r => (wholeF r).isNone) = true then partsF x y else (partsF x y).map numF), r.length ≤ 30 := by
    split
    · intro r hr; have := hp r hr; omega
    · intro r hr
      obtain ⟨q, hq, rfl⟩ := List.mem_map.mp hr
      have hl := hp q hq
      unfold numF
      cases hw : wholeF q with
      | none => dsimp only; omega
      | some k =>
        have := int_text_length_le10 (a := k) (k := 20) (by decide) (whole_lt hw hl).1
        dsimp only
        rw [PySem.ofString_length]
        omega
  generalize (if ((partsF x y).any fun r => (wholeF r).isNone) = true then partsF x y else (partsF x y).map numF) = qs at hq
  have h1 := StrLaws.join_length_le (Str.ofString ".") (qs.take 3)
  have e2 : (Str.ofString ".").length = 1 := by decide +kernel
  rw [e2] at h1
  have hsum := sum_len (k := 30) (qs := qs.take 3) fun r hr => hq r (List.mem_of_mem_take hr)
  have hlen : (qs.take 3).length ≤ 3 := by rw [List.length_take]; omega
  unfold Txt.join
  rw [StrLaws.glued_eq_join]
  omega
theorem aliasF_len {x y z : Str} (hx : x.length ≤ 14) (hy : y.length ≤ 14) (hz : z.length ≤ 14) : (aliasF x y z).1.length ≤ 300 ∧ (aliasF x y z).2.1.length ≤ 300 ∧ (aliasF x y z).2.2.length ≤ 300 := by
  unfold aliasF
  have e1 : (Str.ofString "Windows").length ≤ 300 := by decide +kernel
  have e2 : (Str.ofString "Solaris").length ≤ 300 := by decide +kernel
  split
  · dsimp only; exact ⟨e1, by omega, by omega⟩
  · split
    · dsimp only; exact ⟨by omega, by omega, by omega⟩
    · split
      · dsimp only; exact ⟨by omega, by omega, by omega⟩
      · obtain ⟨p1, p2, p3⟩ := fact_partition y (Str.ofString ".")
        dsimp only
        refine ⟨e2, ?_, by omega⟩
        rw [strLen_append, strLen_append]
        cases hw : wholeF (Txt.partition y (Str.ofString ".")).1 with
        | none => dsimp only; omega
        | some k =>
          have := int_text_length_le10 (a := k - 3) (k := 20) (by decide) (whole_lt hw (by omega)).2
          dsimp only
          rw [PySem.ofString_length]
          omega
theorem runN_len (raw : Str) : ∀ (k : Nat) (out : Str) (a : Int), (runN raw k out a).length ≤ out.length + k
  | 0, out, a => by rw [runN]; omega
  | k + 1, out, a => by
    rw [runN]
    split
    · have ih := runN_len raw k (stepN raw out a).1 (stepN raw out a).2
      have h1 : (stepN raw out a).1.length ≤ out.length + 1 := by
        have key : ∀ sg : Str, sg.length = 1 → (if (Txt.slice raw (some a) (some (a + 7)) == Str.ofString "unknown") = true then (out, a + 7) else if (sg == Str.ofString "-") = true ∧ (Txt.slice out (some (-1)) none == Str.ofString "-") = true then (out, a + 1) else (out ++ (if (sg == Str.ofString " ") = true then Str.ofString "_" else sg), a + 1) : Str × Int).1.length ≤ out.length + 1 := by
          intro sg hs
          have e1 : (Str.ofString "_").length = 1 := by decide +kernel
          split
          · exact Nat.le_succ _
          · split
            · exact Nat.le_succ _
            · show (out ++ _).length ≤ _
              rw [strLen_append]
              split <;> omega
        unfold stepN
        refine key _ ?_
        split
        · rfl
        · decide +kernel
      omega
    · omega
theorem nameF_len {x y z : Str} (hx : x.length ≤ 20) (hy : y.length ≤ 20) (hz : z.length ≤ 20) : (nameF x y z).length ≤ 300 := by
  have h1 := factsF_len hx hy hz
  have h2 := factsF_count x y z
  have h3 := sum_len' (k := 20) h1
  have e2 : (Str.ofString "-").length = 1 := by decide +kernel
  have h4 := StrLaws.join_length_le (Str.ofString "-") (factsF x y z)
  rw [e2] at h4
  have h5 : (Txt.join (Str.ofString "-") (factsF x y z)).length ≤ 70 := by
    unfold Txt.join
    rw [StrLaws.glued_eq_join]
    omega
  have h6 : (nameRaw (Txt.join (Str.ofString "-") (factsF x y z))).length ≤ 80 := by
    unfold nameRaw
    have := runN_len (Txt.join (Str.ofString "-") (factsF x y z)) ((Txt.join (Str.ofString "-") (factsF x y z)).length + 1) Str.empty 0
    have e : (Str.empty).length = 0 := rfl
    omega
  unfold nameF
  dsimp only
  split
  · have := Txt.slice_le (nameRaw (Txt.join (Str.ofString "-") (factsF x y z))) none (some (-1)); omega
  · omega
end Mine
end
section
open PySem PySem.W PyProof.Rows
theorem Mine.cut_NDueD : True ∧ True := by
  w_top off
  walk1
  all_goals exact True.intro
end

/- NDue -/
section
open PySem PySem.W PyProof.Rows PySem.Calls
set_option Elab.async false
set_option maxRecDepth 100000
set_option pp.deepTerms false
set_option pp.maxSteps 6000
namespace Mine
theorem fill_due : ∀ w : World, (hd.heap_39 w.params) = (hd.heap_39 w.params) ∧ PySem.Challenge.rw_nb0114_01.row.prog = PySem.Challenge.rw_nb0114_01.row.prog := by
  k_fill
  exact fun _ => ⟨rfl, rfl⟩
section
variable {w : World} {p : Program} {loose : List Str} {mean : ExcName → Option Value} {mg mb : Str → Option Value} {dp un : Nat} {gd : Option (List Code)} {cn : Str} {cs : Scope} {a : Addr} {ccd : Value} {cl : List (Str × Addr)} {outer : List Env} {A₀ : Around} {base h₀ : Heap} {L : Addr} {m : Str → Option Value} {news : List (Addr × Obj)} {s : Shared} {Q E : Value → Shared → Prop}

local macro_rules | `(tactic| k_steps) => `(tactic| repeat' (first | (k_end; wrow_close) | (walk1; all_goals (try ((with_reducible show wpAny _ _ (exec _ _) _ _ _); with_reducible refine foldF ?_; intro qF))) | (k_unfold; (try dsimp only)) | (dsimp only; walk1; all_goals (try ((with_reducible show wpAny _ _ (exec _ _) _ _ _); with_reducible refine foldF ?_; intro qF))) | (leave1; walk_say "STEP leave1"; try dsimp only) | fail "no step"))
set_option maxHeartbeats 8000000 in
theorem ct_texts  (B : Below A₀ base outer h₀) (F : Fr h₀ L s.heap m) (X : (hd.heap_39 w.params).In h₀) (N : News h₀ L s.heap news) (T : Top p loose mean mg mb h₀) (hk : cs.kind = .function) (hdp : dp + 3 < recursionLimit) (hun : un + 30 < cLine) (ret : ∀ r vs n h' tk', StrsAre vs textsL → Fr h₀ L h' m → News h₀ L h' ((r, listOf vs.toArray n) :: news) → (∀ p ∈ news, p.1 < r) → Q (.ref r) { s with heap := h', toks := tk' }) :
    wpAny (model PySem.Challenge.rw_nb0114_01.row.prog w) (ktrTop dp un gd cn cs L a ccd cl outer) (call (.ref 71) [] []) Q E s := by

  refine wpAny_call ?_
  k_dflt cell_enter
  k_steps
  rename News h₀ _ _ _ => kN
  rename Fr h₀ _ _ _ => kF
  refine' ret _ _ _ _ _ ?s1 kF kN ?_
  case s1 => (unfold textsL; repeat (first | exact StrsAre.nil | apply StrsAre.cons))
  (intro p hp; first | (rename ∀ (p : Addr × Obj), p ∈ _ → p.fst < _ => q; exact q p hp) | (rename AllLt _ _ => q; exact ktn_ltOf q p hp) | (rename _ < _ ∧ AllLt _ _ => q; exact ktn_ltOf q.2 p hp))
set_option maxHeartbeats 8000000 in
theorem ct_pieces  (B : Below A₀ base outer h₀) (F : Fr h₀ L s.heap m) (X : (hd.heap_39 w.params).In h₀) (N : News h₀ L s.heap news) (T : Top p loose mean mg mb h₀) (hk : cs.kind = .function) (hdp : dp + 3 < recursionLimit) (hun : un + 30 < cLine) (ret : ∀ r vs n h' tk', StrsAre vs piecesL → Fr h₀ L h' m → News h₀ L h' ((r, listOf vs.toArray n) :: news) → (∀ p ∈ news, p.1 < r) → Q (.ref r) { s with heap := h', toks := tk' }) :
    wpAny (model PySem.Challenge.rw_nb0114_01.row.prog w) (ktrTop dp un gd cn cs L a ccd cl outer) (call (.ref 78) [] []) Q E s := by

  refine wpAny_call ?_
  k_dflt cell_enter
  k_steps
  rename News h₀ _ _ _ => kN
  rename Fr h₀ _ _ _ => kF
  refine' ret _ _ _ _ _ ?s1 kF kN ?_
  case s1 => (unfold piecesL; repeat (first | exact StrsAre.nil | apply StrsAre.cons))
  (intro p hp; first | (rename ∀ (p : Addr × Obj), p ∈ _ → p.fst < _ => q; exact q p hp) | (rename AllLt _ _ => q; exact ktn_ltOf q p hp) | (rename _ < _ ∧ AllLt _ _ => q; exact ktn_ltOf q.2 p hp))
theorem outL_len3 {x y z : Str} {n : Int} : (outL x y z n).length = 3 := by
  unfold outL
  repeat' split
  all_goals (first | rfl | simp)
/-- what stands behind the choice -/
def DueMid (g : Heap) (L l : Addr) (o3 : Obj) (news : List (Addr × Obj)) (s : Shared) (x y z : Str) (n : Int) (s' : Shared) : Prop :=
  ∃ (D : Addr) (vs : List Value) (nn : Nat) (h' : Heap) (tk' : Nat) (m' : Str → Option Value), s' = { s with heap := h', toks := tk' } ∧ Fr g L h' (fun y => if y = Str.ofString "out" then some (.ref D) else m' y) ∧ News g L h' ((D, listOf vs.toArray nn) :: (l, o3) :: news) ∧ StrsAre vs (outL x y z n) ∧ (∀ r ∈ outL x y z n, r.length ≤ 300)
theorem dueMid {g h' : Heap} {L l D : Addr} {m1 : Str → Option Value} {nw news : List (Addr × Obj)} {vs : List Value} {fs : List Str} {nn tk' : Nat} {o3 : Obj} {s : Shared} {x y z : Str} {n : Int} (F : Fr g L h' m1) (N : News g L h' nw) (hm : m1 (Str.ofString "out") = some (.ref D)) (hD : (D, listOf vs.toArray nn) ∈ nw) (hsub : ∀ p ∈ (l, o3) :: news, p ∈ nw) (hs : StrsAre vs fs) (ho : OutIs x y z n fs) (hl : ∀ r ∈ fs, r.length ≤ 300) : DueMid g L l o3 news s x y z n { s with heap := h', toks := tk' } := by
  refine ⟨D, vs, nn, h', tk', m1, rfl, ?_, ?_, by rw [← ho.out]; exact hs, by rw [← ho.out]; exact hl⟩
  · have e : (fun y => if y = Str.ofString "out" then some (.ref D) else m1 y) = m1 := by
      funext y
      by_cases h : y = Str.ofString "out"
      · rw [if_pos h, h, hm]
      · rw [if_neg h]
    rw [e]
    exact F
  · intro p hp
    rcases List.mem_cons.mp hp with rfl | hp
    · exact N _ hD
    · exact N p (hsub p hp)
local macro_rules | `(tactic| walk_at "execs cons") => `(tactic| ((with_reducible show wpAny _ _ (execs (Stmt.If _ _ _ _ :: _ :: _) _) _ _ _); refine Halt.out ?_))
local macro_rules | `(tactic| walk_at "call type:list") => `(tactic| (refine Halt.out ?_))
local macro_rules | `(tactic| walk_at "subscriptTail") => `(tactic| ((with_reducible show wpAny _ _ (subscriptTail _ _ (Value.ref _) (Value.int _ _)) _ _ _); refine Halt.out ?_))
local macro_rules | `(tactic| walk_at "setItem ref int") => `(tactic| (refine Halt.out ?_))
local macro_rules | `(tactic| walk_at "setItem ref int ref") => `(tactic| (refine Halt.out ?_))
local macro_rules | `(tactic| walk_at "setItem ref int str") => `(tactic| (refine Halt.out ?_))
local macro_rules | `(tactic| walk_at "eval ListComp") => `(tactic| (refine Halt.out ?_))
local macro_rules | `(tactic| walk_at "CompEnd") => `(tactic| (refine Halt.out ?_))
local macro_rules | `(tactic| walk_at "CompSrc") => `(tactic| (refine Halt.out ?_))
local macro_rules | `(tactic| walk_at "call ref") => `(tactic| ((with_reducible show wpAny _ _ (call (Value.ref _) (_ :: _) _) _ _ _); refine Halt.out ?_))
set_option maxHeartbeats 8000000 in
theorem ct_due {l : Addr} {x y z : Str} {tx ty tz tn : Tok} {k : Nat} {n : Int} (B : Below A₀ base outer h₀) (F : Fr h₀ L s.heap m) (X : (hd.heap_39 w.params).In h₀) (N : News h₀ L s.heap ((l, listOf [Value.str x tx, .str y ty, .str z tz].toArray k) :: news)) (T : Top p loose mean mg mb h₀) (hk : cs.kind = .function) (hdp : dp + 10 < recursionLimit) (hun : un + 100 < cLine) (hx : x.length ≤ 14) (hy : y.length ≤ 14) (hz : z.length ≤ 14) (ret : ∀ r o h' tk', IsLs (dueL x y z n) r o → Fr h₀ L h' m → News h₀ L h' ((r, o) :: (l, listOf [Value.str x tx, .str y ty, .str z tz].toArray k) :: news) → (∀ p ∈ (l, listOf [Value.str x tx, .str y ty, .str z tz].toArray k) :: news, p.1 ≠ r) → Q (.ref r) { s with heap := h', toks := tk' }) :
    wpAny (model PySem.Challenge.rw_nb0114_01.row.prog w) (ktrTop dp un gd cn cs L a ccd cl outer) (call (.ref 107) [.ref l, .int n tn] []) Q E s := by

  refine wpAny_call ?_
  k_dflt cell_enter
  refine foldA ?_
  intro A₁
  k_steps
  unfold Halt
  rename Fr _ _ _ _ => lF
  rename News _ _ _ _ => lN
  have ho := (lN (l, listOf [Value.str x tx, .str y ty, .str z tz].toArray k) (by repeat (first | exact List.Mem.head _ | apply List.Mem.tail))).1
  refine list_copyK (items := [Value.str x tx, .str y ty, .str z tz].toArray) lF lN ⟨_, ho, rfl, k, rfl⟩ ?_ (by rw [sizeLine_eq]; simp)
  intro D1 c1 h1 F1 N1 hlt1
  clear lF lN ho
  k_steps
  unfold Halt
  rename Fr _ _ _ _ => F3
  refine cutF F3 (fun g L s' => DueMid g L l (listOf [Value.str x tx, .str y ty, .str z tz].toArray k) news s x y z n s') ?_ ?_
  · have hs3 : StrsAre [Value.str x tx, .str y ty, .str z tz] [x, y, z] := StrsAre.cons _ _ (StrsAre.cons _ _ (StrsAre.cons _ _ StrsAre.nil))
    have hl3 : ∀ r ∈ [x, y, z], r.length ≤ 14 := by
      intro r hr
      simp only [List.mem_cons, List.not_mem_nil, or_false] at hr
      rcases hr with rfl | rfl | rfl <;> assumption
    k_steps
    · unfold Halt
      k_dflt (refine' ct_alias ?b1 ?b2 ?b3 ?b4 ?b5 ?b6 ?b7 ?b8 ?b9 hx hy hz ?_)
      case b1 => k_asm
      case b2 => k_asm
      case b3 => k_asm
      case b4 => k_asm
      case b5 => k_asm
      case b6 => exact rfl
      case b7 => ktr_room
      case b8 => ktr_units
      case b9 => exact (by repeat (first | exact List.Mem.head _ | apply List.Mem.tail))
      intro r9 o9 h9 tk9 hi9 F9 N9 lt9
      obtain ⟨ta9, tb9, tc9, n9, rfl⟩ := hi9
      k_steps
      have hso : StrsAre [Value.str (aliasF x y z).1 ta9, .str (aliasF x y z).2.1 tb9, .str (aliasF x y z).2.2 tc9] [(aliasF x y z).1, (aliasF x y z).2.1, (aliasF x y z).2.2] := StrsAre.cons _ _ (StrsAre.cons _ _ (StrsAre.cons _ _ StrsAre.nil))
      have hoi := out0 (x := x) (y := y) (z := z) (n := n) (by assumption)
      have hln : ∀ r ∈ [(aliasF x y z).1, (aliasF x y z).2.1, (aliasF x y z).2.2], r.length ≤ 300 := by
        have h9 := aliasF_len hx hy hz
        intro r hr
        simp only [List.mem_cons, List.not_mem_nil, or_false] at hr
        rcases hr with rfl | rfl | rfl
        · exact h9.1
        · exact h9.2.1
        · exact h9.2.2
      refine' dueMid (by k_asm) (by k_asm) ?h1 ?h2 ?h3 hso hoi hln
      case h1 => with_unfolding_all rfl
      case h2 => (repeat (first | exact List.Mem.head _ | assumption | apply List.Mem.tail))
      case h3 => exact fun p hp => by repeat (first | exact hp | apply List.Mem.tail)
    · unfold Halt
      obtain ⟨t9, hv9⟩ := strs_at hs3 (i := (n.fdiv 8).fmod 3) (fmod_bounds _ 3 (by decide)).1 (fmod_bounds _ 3 (by decide)).2
      refine' itemK (by k_asm) ?m1 (fmod_bounds _ 3 (by decide)).1 (Int.lt_trans (fmod_bounds _ 3 (by decide)).2 (by decide)) hv9 ?_ ?m2
      case m2 => with_unfolding_all rfl
      case m1 => exact (by repeat (first | exact List.Mem.head _ | apply List.Mem.tail))
      clear hv9
      k_steps
      unfold Halt
      obtain ⟨t9, hv9⟩ := strs_at hs3 (i := ((n.fdiv 8).fdiv 3).fmod 3) (fmod_bounds _ 3 (by decide)).1 (fmod_bounds _ 3 (by decide)).2
      refine' itemK (by k_asm) ?m1 (fmod_bounds _ 3 (by decide)).1 (Int.lt_trans (fmod_bounds _ 3 (by decide)).2 (by decide)) hv9 ?_ ?m2
      case m2 => with_unfolding_all rfl
      case m1 => exact (by repeat (first | exact List.Mem.head _ | apply List.Mem.tail))
      clear hv9
      k_steps
      unfold Halt
      have hq1 : (itemL [x, y, z] ((n.fdiv 8).fmod 3)).length ≤ 14 := hl3 _ (itemL_mem (fmod_bounds _ 3 (by decide)).1 (fmod_bounds _ 3 (by decide)).2)
      have hq2 : (itemL [x, y, z] (((n.fdiv 8).fdiv 3).fmod 3)).length ≤ 14 := hl3 _ (itemL_mem (fmod_bounds _ 3 (by decide)).1 (fmod_bounds _ 3 (by decide)).2)
      k_dflt (refine' ct_lnorm (x := itemL [x, y, z] ((n.fdiv 8).fmod 3)) (y := itemL [x, y, z] (((n.fdiv 8).fdiv 3).fmod 3)) ?b1 ?b2 ?b3 ?b4 ?b5 ?b6 ?b7 ?b8 hq1 hq2 ?_)
      case b1 => k_asm
      case b2 => k_asm
      case b3 => k_asm
      case b4 => k_asm
      case b5 => k_asm
      case b6 => exact rfl
      case b7 => ktr_room
      case b8 => ktr_units
      intro t8 h8 tk8 F8 N8
      k_steps
      unfold Halt
      refine' set_any (vs := [Value.str x tx, .str y ty, .str z tz]) (by k_asm) (by k_asm) ?u1 (fmod_bounds _ 3 (by decide)).1 (fmod_bounds _ 3 (by decide)).2 (Int.lt_trans (fmod_bounds _ 3 (by decide)).2 (by decide)) ?_
      case u1 => exact Upd.head (fun p hp => Nat.ne_of_lt (hlt1 p hp))
      intro h7 F7 N7
      k_steps
      have hso := strs_set hs3 ((n.fdiv 8).fmod 3).toNat (normF (itemL [x, y, z] ((n.fdiv 8).fmod 3)) (itemL [x, y, z] (((n.fdiv 8).fdiv 3).fmod 3))) t8
      have hoi := out1 (x := x) (y := y) (z := z) (n := n) (by assumption)
      have hln : ∀ r ∈ [x, y, z].set ((n.fdiv 8).fmod 3).toNat (normF (itemL [x, y, z] ((n.fdiv 8).fmod 3)) (itemL [x, y, z] (((n.fdiv 8).fdiv 3).fmod 3))), r.length ≤ 300 := by
        intro r hr
        rcases List.mem_or_eq_of_mem_set hr with h9 | rfl
        · have := hl3 r h9; omega
        · exact normF_len hq1 hq2
      refine' dueMid (by k_asm) (by k_asm) ?h1 ?h2 ?h3 hso hoi hln
      case h1 => with_unfolding_all rfl
      case h2 => (repeat (first | exact List.Mem.head _ | assumption | apply List.Mem.tail))
      case h3 => exact fun p hp => by repeat (first | exact hp | apply List.Mem.tail)
    · unfold Halt
      obtain ⟨t9, hv9⟩ := strs_at hs3 (i := (n.fdiv 8).fmod 3) (fmod_bounds _ 3 (by decide)).1 (fmod_bounds _ 3 (by decide)).2
      refine' itemK (by k_asm) ?m1 (fmod_bounds _ 3 (by decide)).1 (Int.lt_trans (fmod_bounds _ 3 (by decide)).2 (by decide)) hv9 ?_ ?m2
      case m2 => with_unfolding_all rfl
      case m1 => exact (by repeat (first | exact List.Mem.head _ | apply List.Mem.tail))
      clear hv9
      k_steps
      unfold Halt
      have hq1 : (itemL [x, y, z] ((n.fdiv 8).fmod 3)).length ≤ 14 := hl3 _ (itemL_mem (fmod_bounds _ 3 (by decide)).1 (fmod_bounds _ 3 (by decide)).2)
      have hq2 : (Str.ofString "").length ≤ 14 := by decide +kernel
      k_dflt (refine' ct_lnorm (x := itemL [x, y, z] ((n.fdiv 8).fmod 3)) (y := Str.ofString "") ?b1 ?b2 ?b3 ?b4 ?b5 ?b6 ?b7 ?b8 hq1 hq2 ?_)
      case b1 => k_asm
      case b2 => k_asm
      case b3 => k_asm
      case b4 => k_asm
      case b5 => k_asm
      case b6 => exact rfl
      case b7 => ktr_room
      case b8 => ktr_units
      intro t8 h8 tk8 F8 N8
      k_steps
      unfold Halt
      refine' set_any (vs := [Value.str x tx, .str y ty, .str z tz]) (by k_asm) (by k_asm) ?u1 (fmod_bounds _ 3 (by decide)).1 (fmod_bounds _ 3 (by decide)).2 (Int.lt_trans (fmod_bounds _ 3 (by decide)).2 (by decide)) ?_
      case u1 => exact Upd.head (fun p hp => Nat.ne_of_lt (hlt1 p hp))
      intro h7 F7 N7
      k_steps
      have hso := strs_set hs3 ((n.fdiv 8).fmod 3).toNat (normF (itemL [x, y, z] ((n.fdiv 8).fmod 3)) (Str.ofString "")) t8
      have hoi := out2 (x := x) (y := y) (z := z) (n := n) (by assumption)
      have hln : ∀ r ∈ [x, y, z].set ((n.fdiv 8).fmod 3).toNat (normF (itemL [x, y, z] ((n.fdiv 8).fmod 3)) (Str.ofString "")), r.length ≤ 300 := by
        intro r hr
        rcases List.mem_or_eq_of_mem_set hr with h9 | rfl
        · have := hl3 r h9; omega
        · exact normF_len hq1 hq2
      refine' dueMid (by k_asm) (by k_asm) ?h1 ?h2 ?h3 hso hoi hln
      case h1 => with_unfolding_all rfl
      case h2 => (repeat (first | exact List.Mem.head _ | assumption | apply List.Mem.tail))
      case h3 => exact fun p hp => by repeat (first | exact hp | apply List.Mem.tail)
    · unfold Halt
      k_dflt (refine' ct_lname ?b1 ?b2 ?b3 ?b4 ?b5 ?b6 ?b7 ?b8 ?b9 (Nat.le_trans hx (by decide)) (Nat.le_trans hy (by decide)) (Nat.le_trans hz (by decide)) ?_)
      case b1 => k_asm
      case b2 => k_asm
      case b3 => k_asm
      case b4 => k_asm
      case b5 => k_asm
      case b6 => exact rfl
      case b7 => ktr_room
      case b8 => ktr_units
      case b9 => exact (by repeat (first | exact List.Mem.head _ | apply List.Mem.tail))
      intro t8 h8 tk8 F8 N8
      k_steps
      unfold Halt
      refine' set_any (vs := [Value.str x tx, .str y ty, .str z tz]) (by k_asm) (by k_asm) ?u1 (fmod_bounds _ 3 (by decide)).1 (fmod_bounds _ 3 (by decide)).2 (Int.lt_trans (fmod_bounds _ 3 (by decide)).2 (by decide)) ?_
      case u1 => exact Upd.head (fun p hp => Nat.ne_of_lt (hlt1 p hp))
      intro h7 F7 N7
      k_steps
      have hso := strs_set hs3 ((n.fdiv 8).fmod 3).toNat (nameF x y z) t8
      have hoi := out3 (x := x) (y := y) (z := z) (n := n) (by assumption)
      have hln : ∀ r ∈ [x, y, z].set ((n.fdiv 8).fmod 3).toNat (nameF x y z), r.length ≤ 300 := by
        intro r hr
        rcases List.mem_or_eq_of_mem_set hr with h9 | rfl
        · have := hl3 r h9; omega
        · exact nameF_len (Nat.le_trans hx (by decide)) (Nat.le_trans hy (by decide)) (Nat.le_trans hz (by decide))
      refine' dueMid (by k_asm) (by k_asm) ?h1 ?h2 ?h3 hso hoi hln
      case h1 => with_unfolding_all rfl
      case h2 => (repeat (first | exact List.Mem.head _ | assumption | apply List.Mem.tail))
      case h3 => exact fun p hp => by repeat (first | exact hp | apply List.Mem.tail)
    · (try unfold Halt)
      k_dflt (refine' ct_texts ?b1 ?b2 ?b3 ?b4 ?b5 ?b6 ?b7 ?b8 ?_)
      case b1 => k_asm
      case b2 => k_asm
      case b3 => k_asm
      case b4 => k_asm
      case b5 => k_asm
      case b6 => exact rfl
      case b7 => ktr_room
      case b8 => ktr_units
      intro r9 vs9 n9 h9 tk9 hs9 F9 N9 lt9
      k_steps
      unfold Halt
      obtain ⟨t8, hv8⟩ := strs_at hs9 (i := ((n.fdiv 8).fdiv 3).fmod 9) (fmod_bounds _ 9 (by decide)).1 (fmod_bounds _ 9 (by decide)).2
      refine' itemK (by k_asm) (List.Mem.head _) (fmod_bounds _ 9 (by decide)).1 (Int.lt_trans (fmod_bounds _ 9 (by decide)).2 (by decide)) hv8 ?_ ?m2
      case m2 => with_unfolding_all rfl
      have hq9 := textsL_len _ (itemL_mem (fs := textsL) (i := ((n.fdiv 8).fdiv 3).fmod 9) (fmod_bounds _ 9 (by decide)).1 (fmod_bounds _ 9 (by decide)).2)
      clear hv8
      k_steps
      unfold Halt
      refine' set_any (vs := [Value.str x tx, .str y ty, .str z tz]) (by k_asm) (by k_asm) ?u1 (fmod_bounds _ 3 (by decide)).1 (fmod_bounds _ 3 (by decide)).2 (Int.lt_trans (fmod_bounds _ 3 (by decide)).2 (by decide)) ?_
      case u1 => exact Upd.tail (Nat.ne_of_gt (lt9 _ (List.Mem.head _))) (Upd.head (fun p hp => Nat.ne_of_lt (hlt1 p hp)))
      intro h7 F7 N7
      k_steps
      have hso := strs_set hs3 ((n.fdiv 8).fmod 3).toNat (itemL textsL (((n.fdiv 8).fdiv 3).fmod 9)) t8
      have hoi := out4 (x := x) (y := y) (z := z) (n := n) (by assumption)
      have hln : ∀ r ∈ [x, y, z].set ((n.fdiv 8).fmod 3).toNat (itemL textsL (((n.fdiv 8).fdiv 3).fmod 9)), r.length ≤ 300 := by
        intro r hr
        rcases List.mem_or_eq_of_mem_set hr with h9 | rfl
        · have := hl3 r h9; omega
        · omega
      refine' dueMid (by k_asm) (by k_asm) ?h1 ?h2 ?h3 hso hoi hln
      case h1 => with_unfolding_all rfl
      case h2 => (repeat (first | exact List.Mem.head _ | assumption | apply List.Mem.tail))
      case h3 => exact fun p hp => by repeat (first | exact hp | apply List.Mem.tail)
    · unfold Halt
      obtain ⟨t9, hv9⟩ := strs_at hs3 (i := (n.fdiv 8).fmod 3) (fmod_bounds _ 3 (by decide)).1 (fmod_bounds _ 3 (by decide)).2
      refine' itemK (by k_asm) ?m1 (fmod_bounds _ 3 (by decide)).1 (Int.lt_trans (fmod_bounds _ 3 (by decide)).2 (by decide)) hv9 ?_ ?m2
      case m2 => with_unfolding_all rfl
      case m1 => exact (by repeat (first | exact List.Mem.head _ | apply List.Mem.tail))
      clear hv9
      k_steps
      have hq1 : (itemL [x, y, z] ((n.fdiv 8).fmod 3)).length ≤ 14 := hl3 _ (itemL_mem (fmod_bounds _ 3 (by decide)).1 (fmod_bounds _ 3 (by decide)).2)
      (try unfold Halt)
      k_dflt (refine' ct_pieces ?b1 ?b2 ?b3 ?b4 ?b5 ?b6 ?b7 ?b8 ?_)
      case b1 => k_asm
      case b2 => k_asm
      case b3 => k_asm
      case b4 => k_asm
      case b5 => k_asm
      case b6 => exact rfl
      case b7 => ktr_room
      case b8 => ktr_units
      intro r9 vs9 n9 h9 tk9 hs9 F9 N9 lt9
      k_steps
      unfold Halt
      obtain ⟨t8, hv8⟩ := strs_at hs9 (i := ((n.fdiv 8).fdiv 3).fmod 21) (fmod_bounds _ 21 (by decide)).1 (fmod_bounds _ 21 (by decide)).2
      refine' itemK (by k_asm) (List.Mem.head _) (fmod_bounds _ 21 (by decide)).1 (Int.lt_trans (fmod_bounds _ 21 (by decide)).2 (by decide)) hv8 ?_ ?m2
      case m2 => with_unfolding_all rfl
      have hq9 := piecesL_len _ (itemL_mem (fs := piecesL) (i := ((n.fdiv 8).fdiv 3).fmod 21) (fmod_bounds _ 21 (by decide)).1 (fmod_bounds _ 21 (by decide)).2)
      clear hv8
      k_steps
      unfold Halt
      refine' set_any (vs := [Value.str x tx, .str y ty, .str z tz]) (by k_asm) (by k_asm) ?u1 (fmod_bounds _ 3 (by decide)).1 (fmod_bounds _ 3 (by decide)).2 (Int.lt_trans (fmod_bounds _ 3 (by decide)).2 (by decide)) ?_
      case u1 => exact Upd.tail (Nat.ne_of_gt (lt9 _ (List.Mem.head _))) (Upd.head (fun p hp => Nat.ne_of_lt (hlt1 p hp)))
      intro h7 F7 N7
      k_steps
      have hso := fun t7 : Tok => strs_set hs3 ((n.fdiv 8).fmod 3).toNat (itemL [x, y, z] ((n.fdiv 8).fmod 3) ++ itemL piecesL (((n.fdiv 8).fdiv 3).fmod 21)) t7
      have hoi := out5 (x := x) (y := y) (z := z) (n := n) (by assumption) (by assumption) (by assumption) (by assumption) (by assumption) (by assumption)
      have hln : ∀ r ∈ [x, y, z].set ((n.fdiv 8).fmod 3).toNat (itemL [x, y, z] ((n.fdiv 8).fmod 3) ++ itemL piecesL (((n.fdiv 8).fdiv 3).fmod 21)), r.length ≤ 300 := by
        intro r hr
        rcases List.mem_or_eq_of_mem_set hr with h9 | rfl
        · have := hl3 r h9; omega
        · rw [strLen_append]; omega
      refine' dueMid (by k_asm) (by k_asm) ?h1 ?h2 ?h3 (hso _) hoi hln
      case h1 => with_unfolding_all rfl
      case h2 => (repeat (first | exact List.Mem.head _ | assumption | apply List.Mem.tail))
      case h3 => exact fun p hp => by repeat (first | exact hp | apply List.Mem.tail)
    · have hso : StrsAre [Value.str y ty, .str z tz, .str x tx] [y, z, x] := StrsAre.cons _ _ (StrsAre.cons _ _ (StrsAre.cons _ _ StrsAre.nil))
      have hoi := out7 (x := x) (y := y) (z := z) (n := n) (by assumption) (by assumption)
      have hln : ∀ r ∈ [y, z, x], r.length ≤ 300 := by
        intro r hr
        simp only [List.mem_cons, List.not_mem_nil, or_false] at hr
        rcases hr with rfl | rfl | rfl <;> omega
      refine' dueMid (by k_asm) (by k_asm) ?h1 ?h2 ?h3 hso hoi hln
      case h1 => with_unfolding_all rfl
      case h2 => (repeat (first | exact List.Mem.head _ | assumption | apply List.Mem.tail))
      case h3 => exact fun p hp => by repeat (first | exact hp | apply List.Mem.tail)
    · have hso := hs3
      have hoi := out8 (x := x) (y := y) (z := z) (n := n) (by assumption) (by assumption)
      have hln : ∀ r ∈ [x, y, z], r.length ≤ 300 := fun r hr => Nat.le_trans (hl3 r hr) (by decide)
      refine' dueMid (by k_asm) (by k_asm) ?h1 ?h2 ?h3 hso hoi hln
      case h1 => with_unfolding_all rfl
      case h2 => (repeat (first | exact List.Mem.head _ | assumption | apply List.Mem.tail))
      case h3 => exact fun p hp => by repeat (first | exact hp | apply List.Mem.tail)
  · clear F3
    rename News _ _ _ _ => N3
    clear N3
    rintro s5 ⟨D5, vs5, n5, h5, tk5, m5, rfl, F5, N5, hs5, hl5⟩
    k_steps
    unfold Halt
    k_dflt (refine LCg.ListComp_U (F₀ := by k_asm) (by with_unfolding_all rfl) (by decide) (by rfl) (by decide) (by rfl) ?_)
    k_steps
    unfold Halt
    refine' LCg.CompSrc.ledger (by rfl) (by k_asm) (by k_asm) ?c1 ?c2 ?_
    case c1 => (repeat (first | exact List.Mem.head _ | assumption | apply List.Mem.tail))
    case c2 => rw [sizeLine_eq]; simp [hs5.len_eq, outL_len3]
    intro g1
    refine kv_rest RCut ?_ ?_
    · intro i v I oI C oC D m₂ ys h tk E' hv hC hx2 F2 N2 off ne
      obtain ⟨r, t, hr, rfl⟩ := strsAre_get hs5 hv
      have hrl : r.length ≤ 300 := hl5 r (List.mem_of_getElem? hr)
      k_steps
      all_goals (
        unfold Halt
        refine' LCg.CompEnd.intro (by k_asm) (by k_asm) _ ?sub off ?S ⟨rfl, ?R⟩
        case R => exact ⟨r, t, _, rfl, rfl⟩
        case S => lcg_src
        case sub => intro p hp; exact hp)
    · intro ys hP
      unfold LCg.FinE
      intro D2 h2 tk2 F2 N2 off2
      have lt2 : ∀ p ∈ (l, listOf [Value.str x tx, .str y ty, .str z tz].toArray k) :: news, p.1 ≠ D2 := fun p hp => off1_mem off2 p (by repeat (first | exact hp | apply List.Mem.tail))
      clear off2
      k_steps
      rename News h₀ _ _ _ => kN
      rename Fr h₀ _ _ _ => kF
      refine ret _ _ _ _ (by unfold dueL; exact isLs_of (n := ys.length) (cut_strs hs5 hP)) kF (fun p hp => ?_) lt2
      rcases List.mem_cons.mp hp with rfl | hp
      · exact kN _ (List.Mem.head _)
      · exact kN p (by repeat (first | exact hp | apply List.Mem.tail))
end
end Mine
end
section
open PySem PySem.W PyProof.Rows
theorem Mine.cut_NDue : True ∧ True := by
  w_top off
  walk1
  all_goals exact True.intro
end

/- NCrai -/
section
open PySem PySem.W PyProof.Rows PySem.Calls
set_option Elab.async false
set_option maxRecDepth 100000
set_option pp.deepTerms false
set_option pp.maxSteps 6000
namespace Mine
theorem fill_crai : ∀ w : World, (hd.heap_39 w.params) = (hd.heap_39 w.params) ∧ PySem.Challenge.rw_nb0114_01.row.prog = PySem.Challenge.rw_nb0114_01.row.prog := by
  k_fill
  exact fun _ => ⟨rfl, rfl⟩
section
variable {w : World} {p : Program} {loose : List Str} {mean : ExcName → Option Value} {mg mb : Str → Option Value} {dp un : Nat} {gd : Option (List Code)} {cn : Str} {cs : Scope} {a : Addr} {ccd : Value} {cl : List (Str × Addr)} {outer : List Env} {A₀ : Around} {base h₀ : Heap} {L : Addr} {m : Str → Option Value} {news : List (Addr × Obj)} {s : Shared} {Q E : Value → Shared → Prop}

theorem exc_made {prog : Program} {A : Around} {E : Value → Shared → Prop} {X N I N' I' : String} (Fc : ExcCallFacts X N I) (hc : ExcClass X N' I') {rest : List Value} (hrest : rest.length ≤ 100)
    (h : ∀ h' e, Heap.MadeExc s.heap h' e X rest → E (.ref e) { s with heap := h' }) : wpAny (model prog w) A (call (.type X) rest) (Raisable E) E s := by
  obtain ⟨hp, g, d, tk, os⟩ := s
  refine wpAny_call_exc Fc (fun h' e hm => ?_) (by rw [sizeLine_eq]; omega)
  exact raisable_of_new hc hm.newExc (h h' e hm)
local macro_rules | `(tactic| walk_at "call builtin:hasattr") => `(tactic| (refine Halt.out ?_))
local macro_rules | `(tactic| walk_at "call type:TypeError") => `(tactic| (refine Halt.out ?_))
local macro_rules | `(tactic| walk_at "leaving ref") => `(tactic| (refine Halt.out ?_))
set_option maxHeartbeats 8000000 in
theorem ct_concat_i {q : Int} {x : Str} {tq tx : Tok} (B : Below A₀ base outer h₀) (F : Fr h₀ L s.heap m) (X : (hd.heap_39 w.params).In h₀) (N : News h₀ L s.heap news) (T : Top p loose mean mg mb h₀) (hk : cs.kind = .function) (hdp : dp + 3 < recursionLimit) (hun : un + 30 < cLine) (err : ∀ e t G tm h' tk', RaisedS base G (envOf cn cs L a ccd :: outer) e (.type "TypeError") t [.str (Str.ofString "'int' object can't be concatenated") tm] news h' → Fr h₀ L G m → G.UpToSlots h' → E (.ref e) { s with heap := h', toks := tk' }) :
    wpAny (model PySem.Challenge.rw_nb0114_01.row.prog w) (ktrTop dp un gd cn cs L a ccd [] outer) (call (.ref 21) [.int q tq, .str x tx] []) Q E s := by

  refine wpAny_call ?_
  k_dflt cell_enter
  k_steps
  unfold Halt
  rename Fr _ _ _ _ => lF
  rename News _ _ _ _ => lN
  refine Has.int_lacks rfl fun h1 k1 hk1 => ?_
  have F1 := lF.keeps hk1
  have N1 := keepN lN hk1
  clear lF lN
  k_steps
  unfold Halt
  refine exc_made PySem.F.excCall_TypeError excClass_TypeError (by simp) fun h2 e2 hm2 => ?_
  k_steps
  unfold Halt
  rename Below _ base _ _ => lB
  refine leave_raiseS lB hm2.of (by k_asm) (by k_asm) (fun h3 t3 R3 _ U3 => ?_) rfl
  rename Fr h₀ _ _ _ => lG
  exact err _ _ _ _ _ _ R3 lG U3
end
end Mine
end
section
open PySem PySem.W PyProof.Rows
theorem Mine.cut_NCrai : True ∧ True := by
  w_top off
  walk1
  all_goals exact True.intro
end

/- NCallE -/
section
open PySem PySem.W PyProof.Rows PySem.Calls
set_option Elab.async false
set_option maxRecDepth 100000
set_option pp.deepTerms false
set_option pp.maxSteps 6000
namespace Mine
theorem fill_calle : ∀ w : World, (hd.heap_39 w.params) = (hd.heap_39 w.params) ∧ PySem.Challenge.rw_nb0114_01.row.prog = PySem.Challenge.rw_nb0114_01.row.prog := by
  k_fill
  exact fun _ => ⟨rfl, rfl⟩
section
variable {w : World} {p : Program} {loose : List Str} {mean : ExcName → Option Value} {mg mb : Str → Option Value} {dp un : Nat} {gd : Option (List Code)} {cn : Str} {cs : Scope} {a : Addr} {ccd : Value} {cl : List (Str × Addr)} {outer : List Env} {A₀ : Around} {base h₀ : Heap} {L : Addr} {m : Str → Option Value} {news : List (Addr × Obj)} {s : Shared} {Q E : Value → Shared → Prop}

theorem A_callWith {K : Frag} {M : Model} {A : Around} {pos : Pos} {f : Value} {first : List Value} {args : List (Bool × Sem Value)} {kws : List (Option Str × Sem Value)} {Q : Value → Shared → Prop} (hk : keepIn K f = true)
    (h : wpAny M A (evalArgs f true args kws) (fun a s₁ => K.In s₁.heap ∧ wpAny M A (call f (first ++ a.pos) a.kw) Q E s₁) E s) : wpAny M A (callWith pos f first args kws) Q E s := by
  unfold callWith
  refine wpAny_bind (wpAny_holding (wpAny_mono h (fun a s₁ h₁ => wpAny_bind (wpAny_standAt ?_)) fun _ _ x => x))
  obtain ⟨k, hk', Lk⟩ := keeps_K (M := M) hk _ h₁.1
  refine wpAny_bind (Lk.here ?_)
  have tail : ∀ {t : Sem Value}, wpAny M A t Q E s₁ → wpAny M A (t >>= fun r => holding [r] point >>= fun _ => pure r) Q E s₁ :=
    fun ht => wpAny_bind (wpAny_mono ht (fun r s₂ hr => wpAny_bind (wpAny_holding (wpAny_point (wpAny_pure hr)))) fun _ _ x => x)
  have marked (mk : Value) : wpAny M A (callMarked mk f (first ++ a.pos) a.kw) Q E s₁ := by unfold callMarked; exact wpAny_keep h₁.2
  have h2 := h₁.2
  have op : ∀ {vs : List Value} {m : Sem Value}, wpAny M A m Q E s₁ → wpAny M A (operate vs m) Q E s₁ := fun h Γ p hΓ => by rw [Sem.wp_operate]; exact h Γ p hΓ
  cases hs : (args.any (·.1) || kws.any (·.1.isNone)) <;> rcases hk' with rfl | rfl | rfl <;> dsimp only <;>
    first | exact tail (marked _) | exact tail h2 | exact tail (op h2) | (split <;> first | exact tail (marked _) | exact tail h2)
theorem enterBothA {K : Frag} {prog : Program} {A : Around} {env : Env} {R : Result → Shared → Prop} {name qual : Str} {params : Arguments} {body : List Stmt} {scope : Scope} {dV kV doc pm cdv ct oc : Value} {an od : Option Addr} {osl : Array (Option Value)} {f : Addr} {args : Args} {vs : List Value} {nm nr : Str} {front : List (Str × Value)} {g₁ : Addr → Sem (List (Str × Value))} {g₂ : Addr → Addr → Sem (List (Str × Value))}
    (B : Below A₀ base outer h₀) (F : Fr h₀ L s.heap m) (X₀ : K.In h₀) (N : News h₀ L s.heap news) (T : Top p loose mean mg mb h₀) (hA : A.frames = some (env :: outer)) (hf : env.frame = some L) (hke : env.scope.kind = .function)
    (ho : K.lookup f = some ⟨oc, od, .func (fnOf name qual params body scope dV kV doc pm an cdv ct), osl⟩) (hcd : codeIn K cdv qual = true) (hroom : A.depth < recursionLimit)
    (hp : peekA K ⟨prog, w.params⟩ (bindArgs (fnOf name qual params body scope dV kV doc pm an cdv ct) args) = some (({ cls := .type "tuple", data := .seq vs.toArray } : Obj), g₁))
    (hp₂ : ∀ D, peekA K ⟨prog, w.params⟩ (g₁ D) = some (dictOf [] 0, g₂ D))
    (hk₂ : ∀ C D, g₂ C D = pure (front ++ [(nr, Value.ref C)] ++ [(nm, Value.ref D)]))
    (hloc : ∀ C D, ∀ y ∈ front ++ [(nr, Value.ref C)] ++ [(nm, Value.ref D)], scope.names.lookup y.1 = some .local)
    (h : ∀ C D g L' h₁, (∀ p ∈ news, p.1 < C) → C < D → (D == sysModules) = false → Fr h₀ L g m → Fr g L' h₁ (fun y => (front ++ [(nr, Value.ref C)] ++ [(nm, Value.ref D)]).reverse.lookup y) →
      News g L' h₁ ((D, dictOf [] 0) :: (C, ({ cls := .type "tuple", data := .seq vs.toArray } : Obj)) :: news) → Below A base (env :: outer) g → K.In g → Top p loose mean mg mb g →
      wpAny (model prog w) (A.deeper (envOf qual scope L' f cdv)) (execs body (envOf qual scope L' f cdv))
        (fun fl s' => LeaveK h₀ L m g R (match fl with | .ret v => v | _ => .none) s')
        (fun e s' => wpAny (model prog w) (A.deeper (envOf qual scope L' f cdv)) (leaving (envOf qual scope L' f cdv) e) (fun _ s'' => R (.error e) s'') (fun e' s'' => R (.error e') s'') s')
        { s with heap := h₁, toks := s.toks + (front ++ [(nr, Value.ref C)] ++ [(nm, Value.ref D)]).length })
    (hco : scope.isCoroutine = false) (hgen : scope.isGenerator = false) (hk : scope.kind = .function)
    (hcell : ∀ x ∈ scope.names, x.2 ≠ .cell) : codeAny (model prog w) A (.call (.ref f) args) R s := by
  refine codeAny_call_function (fd := fnOf name qual params body scope dV kV doc pm an cdv ct) (body := body) hroom ((X₀.keeps F.keep) _ _ ho) rfl hco hgen rfl (codeRec_of (X₀.keeps F.keep) hcd) ?_
  refine wp_of_peekA (o := ({ cls := .type "tuple", data := .seq vs.toArray } : Obj)) F N (X₀.keeps F.keep) rfl _ g₁ hp fun h' F' N' l => ?_
  refine wp_of_peekA (s := { s with heap := h' }) (o := dictOf [] 0) F' N' (X₀.keeps F'.keep) rfl _ (g₂ s.heap.objs.size) (hp₂ _) fun h'' F'' N'' l' => ?_
  rw [hk₂]
  refine wpAny_pure (kp_frame (cl := []) (s := { s with heap := h'' }) B F'' N'' T.nolimit hA hf hke (hloc _ _) (fun g L' h₁ FG FL NG BG st => h _ _ g L' h₁ l (l' _ (.head _)) (F'.notModules (modules_low T.nolimit)) FG FL NG BG (X₀.keeps st) (T.keeps st)) hcell hk)
theorem raisedSN_sub {G h : Heap} {l : List Env} {e : Addr} {c : Value} {nw nw' : List (Addr × Obj)} (R : RaisedSN base G l e c nw h) (hs : ∀ p ∈ nw', p ∈ nw) : RaisedSN base G l e c nw' h := by
  obtain ⟨B, t, h1, h2, h3, h4⟩ := R
  exact ⟨B, t, h1, h2, fun q hq => h3 q (hs q hq), h4⟩
local macro_rules | `(tactic| walk_at "subscriptTail") => `(tactic| ((with_reducible show wpAny _ _ (subscriptTail _ _ (Value.ref _) (Value.int _ _)) _ _ _); refine Halt.out ?_))
local macro_rules | `(tactic| walk_at "leaving ref") => `(tactic| (refine Halt.out ?_))
set_option maxHeartbeats 8000000 in
theorem ct_get_i {l : Addr} {vs : List Value} {n : Nat} {i : Int} {t : Tok} (B : Below A₀ base outer h₀) (F : Fr h₀ L s.heap m) (X : (hd.heap_39 w.params).In h₀) (N : News h₀ L s.heap news) (T : Top p loose mean mg mb h₀) (hk : cs.kind = .function) (hdp : dp + 3 < recursionLimit) (hun : un + 30 < cLine) (hm : (l, listOf vs.toArray n) ∈ news) (h0 : (vs.length : Int) ≤ i) (h1 : i < 2 ^ 63) (err : ∀ e G h' tk', RaisedSN base G (envOf cn cs L a ccd :: outer) e (.type "IndexError") news h' → Fr h₀ L G m → G.UpToSlots h' → E (.ref e) { s with heap := h', toks := tk' }) :
    wpAny (model PySem.Challenge.rw_nb0114_01.row.prog w) (ktrTop dp un gd cn cs L a ccd [] outer) (call (.ref 28) [.ref l, .int i t] []) Q E s := by

  refine wpAny_call ?_
  k_dflt cell_enter
  k_steps
  unfold Halt
  rename News _ _ _ _ => lN
  have ho := (lN (l, listOf vs.toArray n) (by repeat (first | exact hm | apply List.Mem.tail))).1
  refine item_outK (items := vs.toArray) rfl ⟨_, ho, rfl, n, rfl⟩ (.inr (by rw [List.size_toArray]; exact h0)) (by omega) h1 (fun h2 k2 e2 hx2 => ?_) (by with_unfolding_all rfl)
  clear ho
  k_steps
  unfold Halt
  rename Below _ base _ _ => lB
  refine leave_newS lB hx2 (by k_asm) (by k_asm) (fun h3 R3 _ U3 => ?_) rfl
  rename Fr h₀ _ _ _ => lG
  exact err _ _ _ _ R3 lG U3
local macro_rules | `(tactic| walk_at "callWith") => `(tactic| (refine Halt.out ?_))
local macro_rules | `(tactic| walk_at "callWith ref") => `(tactic| (refine Halt.out ?_))
set_option maxHeartbeats 8000000 in
theorem ct_call_get {l : Addr} {vs : List Value} {n : Nat} {i : Int} {t : Tok} (B : Below A₀ base outer h₀) (F : Fr h₀ L s.heap m) (X : (hd.heap_39 w.params).In h₀) (N : News h₀ L s.heap news) (T : Top p loose mean mg mb h₀) (hk : cs.kind = .function) (hdp : dp + 6 < recursionLimit) (hun : un + 60 < cLine) (hm : (l, listOf vs.toArray n) ∈ news) (h0 : (vs.length : Int) ≤ i) (h1 : i < 2 ^ 63) (err : ∀ e G h' tk', RaisedSN base G (envOf cn cs L a ccd :: outer) e (.type "IndexError") news h' → Fr h₀ L G m → G.UpToSlots h' → E (.ref e) { s with heap := h', toks := tk' }) :
    wpAny (model PySem.Challenge.rw_nb0114_01.row.prog w) (ktrTop dp un gd cn cs L a ccd [] outer) (call (.ref 42) [.ref 28, .ref l, .int i t] []) Q E s := by

  refine wpAny_call ?_
  refine' enterBothA (env := envOf cn cs L a ccd) (front := [(Str.ofString "obj", Value.ref 28)]) (vs := [.ref l, .int i t]) ?k1 ?k2 ?k3 ?k4 ?k5 ?kA ?kF ?kK ?k6 ?k7 ?k8 ?kP ?kS ?kT ?kB ?_ ?c2 ?c3 ?c4 ?c5
  case kA => exact rfl
  case kF => exact rfl
  case kK => assumption
  case k1 => k_asm
  case k2 => k_asm
  case k3 => k_asm
  case k4 => k_asm
  case k5 => k_asm
  case k6 => k_is
  case k7 => k_is
  case k8 => ktr_room
  case kP => exact rfl
  case kS => exact fun _ => rfl
  case kT => exact fun _ _ => rfl
  case kB => exact fun _ _ => locs rfl
  case c5 => decide
  case c2 => exact rfl
  case c3 => exact rfl
  case c4 => exact rfl
  intro C' D1 g' L' h' l1 l2 hne FG' F' N' B' X' T'
  (try dsimp only)
  (try k_lift B')
  (try k_fold)
  k_steps
  unfold Halt
  refine A_callWith (K := hd.heap_39 w.params) (by k_is) ?_
  refine' starArgs0 (C := C') (D := D1) (vs := [.ref l, .int i t]) (n := 0) ?a1 ?a2 ?a3 ?a4 hne ?a5 ?a6 ?a7 ?_
  case a1 => k_asm
  case a2 => k_asm
  case a3 => exact List.Mem.tail _ (List.Mem.head _)
  case a4 => exact List.Mem.head _
  case a5 => rw [sizeLine_eq]; simp
  case a6 =>
    intro s9 Q9 F9 q9
    k_steps
    exact q9
  case a7 =>
    intro s9 Q9 F9 q9
    k_steps
    exact q9
  intro h9 F9 N9
  refine ⟨X'.keeps F9.keep, ?_⟩
  k_dflt (refine' ct_get_i (vs := vs) (n := n) ?b1 ?b2 ?b3 ?b4 ?b5 ?b6 ?b7 ?b8 ?b9 h0 h1 ?_)
  case b1 => k_asm
  case b2 => k_asm
  case b3 => k_asm
  case b4 => k_asm
  case b5 => k_asm
  case b6 => exact rfl
  case b7 => ktr_room
  case b8 => ktr_units
  case b9 => (repeat (first | exact hm | apply List.Mem.tail))
  intro e8 G8 h8 tk8 R8 FG8 U8
  k_steps
  unfold Halt
  rename Below _ base _ _ => lB
  refine leave_onSN lB FG8 R8 U8 (fun h3 R3 _ U3 => ?_)
  exact err _ _ _ _ (raisedSN_sub R3 (fun p hp => List.Mem.tail _ (List.Mem.tail _ hp))) FG' U3
end
end Mine
end
section
open PySem PySem.W PyProof.Rows
theorem Mine.cut_NCallE : True ∧ True := by
  w_top off
  walk1
  all_goals exact True.intro
end

/- NRef -/
section
open PySem PySem.W PyProof.Rows PySem.Calls
set_option Elab.async false
set_option maxRecDepth 100000
set_option pp.deepTerms false
set_option pp.maxSteps 6000
namespace Mine
local macro_rules | `(tactic| k_steps) => `(tactic| repeat' (first | (k_end; wrow_close) | (walk1; all_goals (try ((with_reducible show wpAny _ _ (exec _ _) _ _ _); with_reducible refine foldF ?_; intro qF))) | (k_unfold; (try dsimp only)) | (dsimp only; walk1; all_goals (try ((with_reducible show wpAny _ _ (exec _ _) _ _ _); with_reducible refine foldF ?_; intro qF))) | (leave1; walk_say "STEP leave1"; try dsimp only) | fail "no step"))
theorem fill_ref : ∀ w : World, (hd.heap_39 w.params) = (hd.heap_39 w.params) ∧ PySem.Challenge.rw_nb0114_01.row.prog = PySem.Challenge.rw_nb0114_01.row.prog := by
  k_fill
  exact fun _ => ⟨rfl, rfl⟩
section
variable {w : World} {p : Program} {loose : List Str} {mean : ExcName → Option Value} {mg mb : Str → Option Value} {dp un : Nat} {gd : Option (List Code)} {cn : Str} {cs : Scope} {a : Addr} {ccd : Value} {cl : List (Str × Addr)} {outer : List Env} {A₀ : Around} {base h₀ : Heap} {L : Addr} {m : Str → Option Value} {news : List (Addr × Obj)} {s : Shared} {Q E : Value → Shared → Prop}

local macro_rules | `(tactic| walk_at "call ref") => `(tactic| (refine Halt.out ?_))
set_option maxHeartbeats 8000000 in
theorem cs_ref {l : Addr} {x y z : Str} {tx ty tz tq : Tok} {n : Nat} {q : Int} (B : Below A₀ base outer h₀) (F : Fr h₀ L s.heap m) (X : (hd.heap_39 w.params).In h₀) (N : News h₀ L s.heap news) (T : Top p loose mean mg mb h₀) (hk : cs.kind = .function) (hdp : dp + 10 < recursionLimit) (hun : un + 100 < cLine) (XB : (hd.heap_39 w.params).In base) (TB : Top p loose mean mg mb base) (D : KtsDicts (fsOf outer) h₀) (hl : (l, listOf [Value.str x tx, .str y ty, .str z tz].toArray n) ∈ news) (ret : ∀ h₀' h' tk', KtsTurn (fsOf outer) h₀ h₀' → Fr h₀' L h' m → News h₀' L h' news → Below A₀ base outer h₀' → (hd.heap_39 w.params).In h₀' → Top p loose mean mg mb h₀' → KtsDicts (fsOf outer) h₀' → Q (.bool true) { s with heap := h', toks := tk' }) :
    wpC (model PySem.Challenge.rw_nb0114_01.row.prog w) (ktrTop dp un gd cn cs L a ccd [] outer) (call (.ref 114) [.ref l, .int q tq] []) Q NoE s := by

  refine C_any ?_
  refine wpAny_call ?_
  refine' code_defS (g₀ := h₀) (cn := cn) (cs := cs) (L := L) (a := a) (ccd := ccd) (outer := outer) ?k1 ?k2 ?k3 ?k4 ?k5 ?XB ?TB ?kD ?kT ?kA ?k6 ?k7 ?k8 ?k9 ?kB ?_ ?kK ?c2 ?c3 ?c4 ?c5
  case XB => assumption
  case TB => assumption
  case kD => assumption
  case kT => exact KtsTurn.refl
  case kA => exact rfl
  case kK => assumption
  case k1 => k_asm
  case k2 => k_asm
  case k3 => k_asm
  case k4 => k_asm
  case k5 => k_asm
  case k6 => k_is
  case k7 => k_is
  case k8 => ktr_room
  case k9 => exact BindsTo.of_eq rfl
  case c5 => decide
  case kB => exact locs rfl
  case c2 => exact rfl
  case c3 => exact rfl
  case c4 => exact rfl
  intro g' L' h' FG' F' N' B' X' T' D'
  (try dsimp only)
  (try k_lift B')
  (try k_fold)
  k_steps
  unfold Halt
  k_dflt (refine' ct_get (vs := [Value.str x tx, .str y ty, .str z tz]) (n := n) (v := .str x tx) ?b1 ?b2 ?b3 ?b4 ?b5 ?b6 ?b7 ?b8 ?b9 (by decide) (by decide) rfl ?_)
  case b1 => k_asm
  case b2 => k_asm
  case b3 => k_asm
  case b4 => k_asm
  case b5 => k_asm
  case b6 => exact rfl
  case b7 => ktr_room
  case b8 => ktr_units
  case b9 => exact List.Mem.tail _ (by repeat (first | exact hl | apply List.Mem.tail))
  intro h2 tk2 F2 N2
  k_steps
  unfold Halt
  k_dflt (refine' ct_concat_i ?b1 ?b2 ?b3 ?b4 ?b5 ?b6 ?b7 ?b8 ?_)
  case b1 => k_asm
  case b2 => k_asm
  case b3 => k_asm
  case b4 => k_asm
  case b5 => k_asm
  case b6 => exact rfl
  case b7 => ktr_room
  case b8 => ktr_units
  intro e3 t3 G3 tm3 h3 tk3 R3 FG3 U3
  have T0 : KtsTurn (fsOf (envOf cn cs L a ccd :: outer)) g' g' := KtsTurn.refl
  k_steps
  unfold Halt
  have hq9 := fmod_bounds q 10 (by decide)
  k_dflt (refine' ct_call_get (vs := [Value.str x tx, .str y ty, .str z tz]) (n := n) ?b1 ?b2 ?b3 ?b4 ?b5 ?b6 ?b7 ?b8 ?b9 (by simp only [List.length_cons, List.length_nil]; omega) (by omega) ?_)
  case b1 => k_asm
  case b2 => k_asm
  case b3 => k_asm
  case b4 => k_asm
  case b5 => k_asm
  case b6 => exact rfl
  case b7 => ktr_room
  case b8 => ktr_units
  case b9 => exact List.Mem.tail _ (by repeat (first | exact hl | apply List.Mem.tail))
  clear FG3 U3
  intro e4 G4 h4 tk4 R4 FG4 U4
  k_steps
  rename KtsTurn _ h₀ _ => kT
  rename Fr _ L _ m => kF
  rename News _ L _ _ => kN
  exact ret _ _ _ kT kF (fun p hp => kN p (List.Mem.tail _ (List.Mem.tail _ hp))) (by assumption) (by assumption) (by assumption) (by assumption)
end
end Mine
end
section
open PySem PySem.W PyProof.Rows
theorem Mine.cut_NRef : True ∧ True := by
  w_top off
  walk1
  all_goals exact True.intro
end

/- NCallN -/
section
open PySem PySem.W PyProof.Rows PySem.Calls
set_option Elab.async false
set_option maxRecDepth 100000
set_option pp.deepTerms false
set_option pp.maxSteps 6000
namespace Mine
theorem fill_calln : ∀ w : World, (hd.heap_39 w.params) = (hd.heap_39 w.params) ∧ PySem.Challenge.rw_nb0114_01.row.prog = PySem.Challenge.rw_nb0114_01.row.prog := by
  k_fill
  exact fun _ => ⟨rfl, rfl⟩
section
variable {w : World} {p : Program} {loose : List Str} {mean : ExcName → Option Value} {mg mb : Str → Option Value} {dp un : Nat} {gd : Option (List Code)} {cn : Str} {cs : Scope} {a : Addr} {ccd : Value} {cl : List (Str × Addr)} {outer : List Env} {A₀ : Around} {base h₀ : Heap} {L : Addr} {m : Str → Option Value} {news : List (Addr × Obj)} {s : Shared} {Q E : Value → Shared → Prop}
set_option maxHeartbeats 8000000 in
theorem cs_call_norm0 {x : Str} {tx : Tok} (B : Below A₀ base outer h₀) (F : Fr h₀ L s.heap m) (X : (hd.heap_39 w.params).In h₀) (N : News h₀ L s.heap news) (T : Top p loose mean mg mb h₀) (hk : cs.kind = .function) (hdp : dp + 9 < recursionLimit) (hun : un + 90 < cLine) (XB : (hd.heap_39 w.params).In base) (TB : Top p loose mean mg mb base) (D : KtsDicts (fsOf outer) h₀) (hIL : IntLaw) (hSL : SplitLaw) (ax : Asc x) (hx : x.length ≤ 14) (ret : ∀ t h₀' h' tk', KtsTurn (fsOf outer) h₀ h₀' → Fr h₀' L h' m → News h₀' L h' news → Below A₀ base outer h₀' → (hd.heap_39 w.params).In h₀' → Top p loose mean mg mb h₀' → KtsDicts (fsOf outer) h₀' → Q (.str (normF x (Str.ofString "")) t) { s with heap := h', toks := tk' }) :
    wpC (model PySem.Challenge.rw_nb0114_01.row.prog w) (ktrTop dp un gd cn cs L a ccd [] outer) (call (.ref 42) [.ref 50, .str x tx] []) Q NoE s := by

  refine C_call ?_
  refine' enterBothS (cn := cn) (cs := cs) (L := L) (a := a) (ccd := ccd) (outer := outer) (ex := []) ?k1 ?k2 ?k3 ?k4 ?k5 ?XB ?TB ?kD ?kA ?kK ?k6 ?k7 ?k8 ?kP ?kS ?kN ?kT ?kB ?_ ?c2 ?c3 ?c4 ?c5
  case XB => assumption
  case TB => assumption
  case kD => assumption
  case kA => exact rfl
  case kK => assumption
  case k1 => k_asm
  case k2 => k_asm
  case k3 => k_asm
  case k4 => k_asm
  case k5 => k_asm
  case k6 => k_is
  case k7 => k_is
  case k8 => ktr_room
  case kP => exact rfl
  case kS => exact fun _ => rfl
  case kN => simp
  case kT => exact fun _ _ => rfl
  case kB => exact fun _ _ => locs rfl
  case c5 => decide
  case c2 => exact rfl
  case c3 => exact rfl
  case c4 => exact rfl
  intro C' D1 g' L' h' tk1 l1 l2 hne FG' F' N' B' X' T' D'
  (try dsimp only)
  (try k_lift B')
  (try k_fold)
  refine C_execs_cons ?_
  refine C_Return ?_
  refine C_CallName ?_
  k_steps
  refine C_callWith (K := hd.heap_39 w.params) (by k_is) (C_any ?_)
  refine' starArgs0 (C := C') (D := D1) (vs := [.str x tx]) (n := 0) ?a1 ?a2 ?a3 ?a4 hne ?a5 ?a6 ?a7 ?_
  case a1 => k_asm
  case a2 => k_asm
  case a3 => exact List.Mem.tail _ (List.Mem.head _)
  case a4 => exact List.Mem.head _
  case a5 => rw [sizeLine_eq]; simp
  case a6 =>
    intro s9 Q9 F9 q9
    k_steps
    exact q9
  case a7 =>
    intro s9 Q9 F9 q9
    k_steps
    exact q9
  intro h9 F9 N9
  refine ⟨X'.keeps F9.keep, ?_⟩
  refine' cs_norm0 ?b1 ?b2 ?b3 ?b4 ?b5 ?b6 ?b7 ?b8 XB TB ?b9 hIL hSL ax hx  ?_
  case b1 => k_asm
  case b2 => k_asm
  case b3 => k_asm
  case b4 => k_asm
  case b5 => k_asm
  case b6 => exact rfl
  case b7 => ktr_room
  case b8 => ktr_units
  case b9 => assumption
  intro t8 g9 h8 tk8 hT8 F8 N8 B8 X8 T8 D8
  dsimp only
  refine leaveS_r F8 N8 hT8 ?_
  intro h1 hT hF hN hB hX hTp hD
  exact ret t8 h1 h8 tk8 hT hF (fun p hp => hN p (List.Mem.tail _ (List.Mem.tail _ hp))) hB hX hTp hD
set_option maxHeartbeats 8000000 in
theorem cs_call_norm1 {x y : Str} {tx ty : Tok} (B : Below A₀ base outer h₀) (F : Fr h₀ L s.heap m) (X : (hd.heap_39 w.params).In h₀) (N : News h₀ L s.heap news) (T : Top p loose mean mg mb h₀) (hk : cs.kind = .function) (hdp : dp + 9 < recursionLimit) (hun : un + 90 < cLine) (XB : (hd.heap_39 w.params).In base) (TB : Top p loose mean mg mb base) (D : KtsDicts (fsOf outer) h₀) (hIL : IntLaw) (hSL : SplitLaw) (ax : Asc x) (hx : x.length ≤ 14) (ay : Asc y) (hy : y.length ≤ 14) (ret : ∀ t h₀' h' tk', KtsTurn (fsOf outer) h₀ h₀' → Fr h₀' L h' m → News h₀' L h' news → Below A₀ base outer h₀' → (hd.heap_39 w.params).In h₀' → Top p loose mean mg mb h₀' → KtsDicts (fsOf outer) h₀' → Q (.str (normF x y) t) { s with heap := h', toks := tk' }) :
    wpC (model PySem.Challenge.rw_nb0114_01.row.prog w) (ktrTop dp un gd cn cs L a ccd [] outer) (call (.ref 42) [.ref 50, .str x tx] [(Str.ofString "build", .str y ty)]) Q NoE s := by

  refine C_call ?_
  refine' enterBothS (cn := cn) (cs := cs) (L := L) (a := a) (ccd := ccd) (outer := outer) (ex := [(Str.ofString "build", .str y ty)]) ?k1 ?k2 ?k3 ?k4 ?k5 ?XB ?TB ?kD ?kA ?kK ?k6 ?k7 ?k8 ?kP ?kS ?kN ?kT ?kB ?_ ?c2 ?c3 ?c4 ?c5
  case XB => assumption
  case TB => assumption
  case kD => assumption
  case kA => exact rfl
  case kK => assumption
  case k1 => k_asm
  case k2 => k_asm
  case k3 => k_asm
  case k4 => k_asm
  case k5 => k_asm
  case k6 => k_is
  case k7 => k_is
  case k8 => ktr_room
  case kP => exact rfl
  case kS => exact fun _ => rfl
  case kN => simp
  case kT => exact fun _ _ => rfl
  case kB => exact fun _ _ => locs rfl
  case c5 => decide
  case c2 => exact rfl
  case c3 => exact rfl
  case c4 => exact rfl
  intro C' D1 g' L' h' tk1 l1 l2 hne FG' F' N' B' X' T' D'
  (try dsimp only)
  (try k_lift B')
  (try k_fold)
  refine C_execs_cons ?_
  refine C_Return ?_
  refine C_CallName ?_
  k_steps
  refine C_callWith (K := hd.heap_39 w.params) (by k_is) (C_any ?_)
  refine' starArgs1 (C := C') (D := D1) (vs := [.str x tx]) (n := 0) ?a1 ?a2 ?a3 ?a4 hne ?a5 ?a6 ?a7 ?_
  case a1 => k_asm
  case a2 => k_asm
  case a3 => exact List.Mem.tail _ (List.Mem.head _)
  case a4 => exact List.Mem.head _
  case a5 => rw [sizeLine_eq]; simp
  case a6 =>
    intro s9 Q9 F9 q9
    k_steps
    exact q9
  case a7 =>
    intro s9 Q9 F9 q9
    k_steps
    exact q9
  intro h9 F9 N9
  refine ⟨X'.keeps F9.keep, ?_⟩
  refine' cs_norm1 ?b1 ?b2 ?b3 ?b4 ?b5 ?b6 ?b7 ?b8 XB TB ?b9 hIL hSL ax hx ay hy ?_
  case b1 => k_asm
  case b2 => k_asm
  case b3 => k_asm
  case b4 => k_asm
  case b5 => k_asm
  case b6 => exact rfl
  case b7 => ktr_room
  case b8 => ktr_units
  case b9 => assumption
  intro t8 g9 h8 tk8 hT8 F8 N8 B8 X8 T8 D8
  dsimp only
  refine leaveS_r F8 N8 hT8 ?_
  intro h1 hT hF hN hB hX hTp hD
  exact ret t8 h1 h8 tk8 hT hF (fun p hp => hN p (List.Mem.tail _ (List.Mem.tail _ hp))) hB hX hTp hD
end
end Mine
end
section
open PySem PySem.W PyProof.Rows
theorem Mine.cut_NCallN : True ∧ True := by
  w_top off
  walk1
  all_goals exact True.intro
end

/- NCallP -/
section
open PySem PySem.W PyProof.Rows PySem.Calls
set_option Elab.async false
set_option maxRecDepth 100000
set_option pp.deepTerms false
set_option pp.maxSteps 6000
namespace Mine
theorem fill_callp : ∀ w : World, (hd.heap_39 w.params) = (hd.heap_39 w.params) ∧ PySem.Challenge.rw_nb0114_01.row.prog = PySem.Challenge.rw_nb0114_01.row.prog := by
  k_fill
  exact fun _ => ⟨rfl, rfl⟩
section
variable {w : World} {p : Program} {loose : List Str} {mean : ExcName → Option Value} {mg mb : Str → Option Value} {dp un : Nat} {gd : Option (List Code)} {cn : Str} {cs : Scope} {a : Addr} {ccd : Value} {cl : List (Str × Addr)} {outer : List Env} {A₀ : Around} {base h₀ : Heap} {L : Addr} {m : Str → Option Value} {news : List (Addr × Obj)} {P : Addr} {ps : Array Value} {s : Shared} {Q E : Value → Shared → Prop}
local macro_rules | `(tactic| walk_at "callWith") => `(tactic| (refine Halt.out ?_))
local macro_rules | `(tactic| walk_at "callWith ref") => `(tactic| (refine Halt.out ?_))
set_option maxHeartbeats 8000000 in
theorem ct_call_plat {x y z : Str} {tx ty tz : Tok} (B : Below A₀ base outer h₀) (F : Fr h₀ L s.heap m) (X : (hd.heap_39 w.params).In h₀) (N : News h₀ L s.heap ((P, tabObj ps) :: news)) (T : Top p loose mean mg mb h₀) (hk : cs.kind = .function) (hdp : dp + 20 < recursionLimit) (hun : un + 200 < cLine) (G : AllBare s.gens) (C : CodeHd h₀ 63 P) (hps : TriplesOk ps.toList) (hPn : ∀ q ∈ news, q.1 ≠ P) (hx : x.length ≤ 20) (hy : y.length ≤ 20) (hz : z.length ≤ 20) (ret : ∀ r t s' ps', PlatIs x y z r → r.length ≤ 70 → Fr h₀ L s'.heap m → News h₀ L s'.heap ((P, tabObj ps') :: news) → TriplesOk ps'.toList → AllBare s'.gens → s'.os = s.os → Q (.str r t) s') :
    wpAny (model PySem.Challenge.rw_nb0114_01.row.prog w) (ktrTop dp un gd cn cs L a ccd [] outer) (call (.ref 42) [.ref 64, .str x tx, .str y ty, .str z tz] []) Q E s := by

  refine wpAny_call ?_
  refine' enterBothA (env := envOf cn cs L a ccd) (front := [(Str.ofString "obj", Value.ref 64)]) (vs := [.str x tx, .str y ty, .str z tz]) ?k1 ?k2 ?k3 ?k4 ?k5 ?kA ?kF ?kK ?k6 ?k7 ?k8 ?kP ?kS ?kT ?kB ?_ ?c2 ?c3 ?c4 ?c5
  case kA => exact rfl
  case kF => exact rfl
  case kK => assumption
  case k1 => k_asm
  case k2 => k_asm
  case k3 => k_asm
  case k4 => k_asm
  case k5 => k_asm
  case k6 => k_is
  case k7 => k_is
  case k8 => ktr_room
  case kP => exact rfl
  case kS => exact fun _ => rfl
  case kT => exact fun _ _ => rfl
  case kB => exact fun _ _ => locs rfl
  case c5 => decide
  case c2 => exact rfl
  case c3 => exact rfl
  case c4 => exact rfl
  intro C' D1 g' L' h' l1 l2 hne FG' F' N' B' X' T'
  (try dsimp only)
  (try k_lift B')
  (try k_fold)
  k_steps
  unfold Halt
  refine A_callWith (K := hd.heap_39 w.params) (by k_is) ?_
  refine' starArgs0 (C := C') (D := D1) (vs := [.str x tx, .str y ty, .str z tz]) (n := 0) ?a1 ?a2 ?a3 ?a4 hne ?a5 ?a6 ?a7 ?_
  case a1 => k_asm
  case a2 => k_asm
  case a3 => exact List.Mem.tail _ (List.Mem.head _)
  case a4 => exact List.Mem.head _
  case a5 => rw [sizeLine_eq]; simp
  case a6 =>
    intro s9 Q9 F9 q9
    k_steps
    exact q9
  case a7 =>
    intro s9 Q9 F9 q9
    k_steps
    exact q9
  intro h9 F9 N9
  refine ⟨X'.keeps F9.keep, ?_⟩
  have N8 : News g' L' h9 ((P, tabObj ps) :: (D1, dictOf [] 0) :: (C', ({ cls := .type "tuple", data := .seq [Value.str x tx, .str y ty, .str z tz].toArray } : Obj)) :: news) := fun p hp => N9 p (by
    rcases List.mem_cons.mp hp with rfl | hp
    · exact List.Mem.tail _ (List.Mem.tail _ (List.Mem.head _))
    · rcases List.mem_cons.mp hp with rfl | hp
      · exact List.Mem.head _
      · rcases List.mem_cons.mp hp with rfl | hp
        · exact List.Mem.tail _ (List.Mem.head _)
        · exact List.Mem.tail _ (List.Mem.tail _ (List.Mem.tail _ hp)))
  clear N9
  k_dflt (refine' ct_plat (P := P) (ps := ps) ?b1 ?b2 ?b3 ?b4 ?b5 ?b6 ?b7 ?b8 G (C.keeps FG'.keep) hps ?b9 hx hy hz ?_)
  case b1 => k_asm
  case b2 => k_asm
  case b3 => k_asm
  case b4 => exact N8
  case b5 => k_asm
  case b6 => exact rfl
  case b7 => ktr_room
  case b8 => ktr_units
  case b9 =>
    intro q hq
    rcases List.mem_cons.mp hq with rfl | hq
    · exact Nat.ne_of_gt (Nat.lt_trans (l1 _ (List.Mem.head _)) l2)
    · rcases List.mem_cons.mp hq with rfl | hq
      · exact Nat.ne_of_gt (l1 _ (List.Mem.head _))
      · exact hPn q hq
  intro r8 t8 s8 ps8 hr8 hl8 F8 N7 ht8 G8 ho8
  clear F9 N8
  k_steps
  rename Fr h₀ _ _ _ => kF
  rename News h₀ _ _ _ => kN
  exact ret r8 t8 s8 ps8 hr8 hl8 kF (fun p hp => by
    rcases List.mem_cons.mp hp with rfl | hp
    · exact kN _ (List.Mem.head _)
    · exact kN _ (List.Mem.tail _ (List.Mem.tail _ (List.Mem.tail _ hp)))) ht8 G8 ho8
end
end Mine
end
section
open PySem PySem.W PyProof.Rows
theorem Mine.cut_NCallP : True ∧ True := by
  w_top off
  walk1
  all_goals exact True.intro
end

/- NDeed -/
section
open PySem PySem.W PyProof.Rows PySem.Calls
set_option Elab.async false
set_option maxRecDepth 100000
set_option pp.deepTerms false
set_option pp.maxSteps 6000
namespace Mine
local macro_rules | `(tactic| k_steps) => `(tactic| repeat' (first | (k_end; wrow_close) | (walk1; all_goals (try ((with_reducible show wpAny _ _ (exec _ _) _ _ _); with_reducible refine foldF ?_; intro qF))) | (k_unfold; (try dsimp only)) | (dsimp only; walk1; all_goals (try ((with_reducible show wpAny _ _ (exec _ _) _ _ _); with_reducible refine foldF ?_; intro qF))) | (leave1; walk_say "STEP leave1"; try dsimp only) | fail "no step"))
theorem fill_deed : ∀ w : World, (hd.heap_39 w.params) = (hd.heap_39 w.params) ∧ PySem.Challenge.rw_nb0114_01.row.prog = PySem.Challenge.rw_nb0114_01.row.prog := by
  k_fill
  exact fun _ => ⟨rfl, rfl⟩
section
variable {w : World} {p : Program} {loose : List Str} {mean : ExcName → Option Value} {mg mb : Str → Option Value} {dp un : Nat} {gd : Option (List Code)} {cn : Str} {cs : Scope} {a : Addr} {ccd : Value} {cl : List (Str × Addr)} {outer : List Env} {A₀ : Around} {base h₀ : Heap} {L : Addr} {m : Str → Option Value} {news : List (Addr × Obj)} {P : Addr} {ps : Array Value} {s : Shared} {Q E : Value → Shared → Prop}

local macro_rules | `(tactic| walk_at "call ref") => `(tactic| (refine Halt.out ?_))
local macro_rules | `(tactic| walk_at "call type:slice") => `(tactic| (refine Halt.out ?_))
theorem Sl.k1 {prog : Program} {A : Around} {v : Value} (F : Fr h₀ L s.heap m) (N : News h₀ L s.heap news) (h : ∀ r h', Fr h₀ L h' m → News h₀ L h' ((r, Sl.sliceObj .none v) :: news) → (∀ p ∈ news, p.1 < r) → Q (.ref r) { s with heap := h' }) :
    wpAny (model prog w) A (call (.type "slice") [v]) Q E s :=
  Sl.call1 (h _ _ (F.push _) (News.push F N _ rfl) fun p hp => Heap.lt_size (N p hp).1)
theorem Sl.k2 {prog : Program} {A : Around} {u v : Value} (F : Fr h₀ L s.heap m) (N : News h₀ L s.heap news) (h : ∀ r h', Fr h₀ L h' m → News h₀ L h' ((r, Sl.sliceObj u v) :: news) → (∀ p ∈ news, p.1 < r) → Q (.ref r) { s with heap := h' }) :
    wpAny (model prog w) A (call (.type "slice") [u, v]) Q E s :=
  Sl.call2 (h _ _ (F.push _) (News.push F N _ rfl) fun p hp => Heap.lt_size (N p hp).1)
theorem newsSub {g h : Heap} {nw nw' : List (Addr × Obj)} (N : News g L h nw) (hs : ∀ p ∈ nw', p ∈ nw) : News g L h nw' := fun p hp => N p (hs p hp)
def PlatLaw : Prop := ∀ x y z r, Asc x → Asc y → Asc z → PlatIs x y z r → r = nameF x y z
theorem C_arg {M : Model} {A : Around} {E : Value → Shared → Prop} {s : Shared} {env : Env} {e : PySem.Expr} {rest : List PySem.Expr} {pos : Pos} {Q : List Value → Shared → Prop} (h : wpC M A (eval e env) (fun v s₁ => wpC M A (spliced (backTo pos (starEach rest env))) (fun vs s₂ => Q (v :: vs) s₂) E s₁) E s)
    (he : starEach (e :: rest) env = (false, eval e env) :: starEach rest env) : wpC M A (spliced (backTo pos (starEach (e :: rest) env))) Q E s := by
  rw [he]
  exact C_spliced_plain h
theorem C_execs_one {M : Model} {A : Around} {E : Value → Shared → Prop} {s : Shared} {env : Env} {st : Stmt} {Q : Flow → Shared → Prop} (h : wpC M A (exec st env) Q E s) : wpC M A (execs [st] env) Q E s := by
  refine C_execs_cons (C_mono h (fun f s' hf => ?_) fun _ _ x => x)
  cases f <;> first | exact hf | exact C_any (wpAny_pure hf) | (rw [execs]; exact C_pure hf)
theorem C_argNil {M : Model} {A : Around} {E : Value → Shared → Prop} {s : Shared} {env : Env} {pos : Pos} {Q : List Value → Shared → Prop} (h : Q [] s) : wpC M A (spliced (backTo pos (starEach [] env))) Q E s := C_spliced_nil h
theorem cut14_id {r : Str} (h : r.length ≤ 14) : cut14 r = r := by
  apply Str.ext'
  apply Array.toList_inj.mp
  unfold cut14
  rw [slice_toList]
  have hn : r.cps.toList.length = r.length := by simp [Str.length]
  have e1 : clipN r.length 0 none = 0 := rfl
  rw [e1, List.drop_zero, Nat.sub_zero, List.take_of_length_le]
  rw [hn]
  simp only [clipN]
  omega
theorem pick13 {u v t : Value} : slicePick [u, v, t].toArray (some 1) (some 3) none = [v, t].toArray := by with_unfolding_all rfl
theorem pick01 {u v t : Value} : slicePick [u, v, t].toArray (some 0) (some 1) none = [u].toArray := by with_unfolding_all rfl
theorem strs3 {vs : List Value} {fs : List Str} (h : StrsAre vs fs) (h3 : fs.length = 3) : ∃ a b c ta tb tc, fs = [a, b, c] ∧ vs = [Value.str a ta, .str b tb, .str c tc] := by
  cases h with
  | nil => simp at h3
  | cons _ _ h => cases h with
    | nil => simp at h3
    | cons _ _ h => cases h with
      | nil => simp at h3
      | cons _ _ h => cases h with
        | nil => exact ⟨_, _, _, _, _, _, rfl, rfl⟩
        | cons _ _ h => simp only [List.length_cons] at h3; omega
/-- what stands behind the choice of the deed -/
def Mid (w : World) (p : Program) (loose : List Str) (mean : ExcName → Option Value) (mg mb : Str → Option Value) (A₁ : Around) (base : Heap) (stk : List Env) (g' : Heap) (L' l P : Addr) (news : List (Addr × Obj)) (x y z : Str) (n : Int) (os : OsState) (f : Flow) (s' : Shared) : Prop :=
  (f = .next ∨ (f = .ret (.bool true) ∧ ¬ n.fmod 8 < 7 ∧ (n.fdiv 8).fmod 2 ≠ 1)) ∧ ∃ g₁ m₁ vs nn ps', StrsAre vs (outL x y z n) ∧ (∀ r ∈ outL x y z n, r.length ≤ 300) ∧ KtsTurn (fsOf stk) g' g₁ ∧ Fr g₁ L' s'.heap m₁ ∧ m₁ (Str.ofString "facts") = some (.ref l) ∧ News g₁ L' s'.heap ((l, listOf vs.toArray nn) :: (P, tabObj ps') :: news) ∧
    TriplesOk ps'.toList ∧ AllBare s'.gens ∧ s'.os = os ∧ Below A₁ base stk g₁ ∧ (hd.heap_39 w.params).In g₁ ∧ Top p loose mean mg mb g₁ ∧ KtsDicts (fsOf stk) g₁
theorem mid_of {A₁ : Around} {stk : List Env} {g' g₁ : Heap} {L' l : Addr} {x y z : Str} {n : Int} {os : OsState} {f : Flow} {s' : Shared} {m₁ : Str → Option Value} {vs : List Value} {fs : List Str} {nn : Nat} {ps' : Array Value} {nw : List (Addr × Obj)}
    (hf : f = .next ∨ (f = .ret (.bool true) ∧ ¬ n.fmod 8 < 7 ∧ (n.fdiv 8).fmod 2 ≠ 1)) (hs : StrsAre vs fs) (ho : OutIs x y z n fs) (hl : ∀ r ∈ fs, r.length ≤ 300) (hT : KtsTurn (fsOf stk) g' g₁) (F : Fr g₁ L' s'.heap m₁) (hm : m₁ (Str.ofString "facts") = some (.ref l)) (N : News g₁ L' s'.heap nw) (hs' : ∀ p ∈ (l, listOf vs.toArray nn) :: (P, tabObj ps') :: news, p ∈ nw)
    (h1 : TriplesOk ps'.toList) (h2 : AllBare s'.gens) (h3 : s'.os = os) (B : Below A₁ base stk g₁) (X : (hd.heap_39 w.params).In g₁) (T : Top p loose mean mg mb g₁) (D : KtsDicts (fsOf stk) g₁) : Mid w p loose mean mg mb A₁ base stk g' L' l P news x y z n os f s' :=
  ⟨hf, g₁, m₁, vs, nn, ps', by rw [← ho.out]; exact hs, by rw [← ho.out]; exact hl, hT, F, hm, fun p hp => N p (hs' p hp), h1, h2, h3, B, X, T, D⟩
set_option maxHeartbeats 8000000 in
theorem cs_deed {l : Addr} {x y z : Str} {tx ty tz tn : Tok} {k : Nat} {n : Int} (B : Below A₀ base outer h₀) (F : Fr h₀ L s.heap m) (X : (hd.heap_39 w.params).In h₀) (N : News h₀ L s.heap ((l, listOf [Value.str x tx, .str y ty, .str z tz].toArray k) :: (P, tabObj ps) :: news)) (T : Top p loose mean mg mb h₀) (hk : cs.kind = .function) (hdp : dp + 60 < recursionLimit) (hun : un + 600 < cLine) (XB : (hd.heap_39 w.params).In base) (TB : Top p loose mean mg mb base) (D : KtsDicts (fsOf outer) h₀) (G : AllBare s.gens) (C : CodeHd base 63 P) (hps : TriplesOk ps.toList) (hlP : l ≠ P) (hnl : ∀ q ∈ news, q.1 ≠ l) (hPn : ∀ q ∈ news, q.1 ≠ P) (hIL : IntLaw) (hSL : SplitLaw) (hPL : PartLaw) (hPl : PlatLaw) (ax : Asc x) (ay : Asc y) (az : Asc z) (hx : x.length ≤ 14) (hy : y.length ≤ 14) (hz : z.length ≤ 14) (ret : ∀ o h₀' s' ps', IsLs (dueL x y z n) l o → KtsTurn (fsOf outer) h₀ h₀' → Fr h₀' L s'.heap m → News h₀' L s'.heap ((l, o) :: (P, tabObj ps') :: news) → TriplesOk ps'.toList → AllBare s'.gens → s'.os = s.os → Below A₀ base outer h₀' → (hd.heap_39 w.params).In h₀' → Top p loose mean mg mb h₀' → KtsDicts (fsOf outer) h₀' → Q (.bool true) s') :
    wpC (model PySem.Challenge.rw_nb0114_01.row.prog w) (ktrTop dp un gd cn cs L a ccd [] outer) (call (.ref 121) [.ref l, .int n tn] []) Q NoE s := by

  refine C_call ?_
  refine' enterS (cn := cn) (cs := cs) (L := L) (a := a) (ccd := ccd) (outer := outer) (binds := [(Str.ofString "facts", .ref l), (Str.ofString "n", .int n tn)]) ?k1 ?k2 ?k3 ?k4 ?k5 ?XB ?TB ?kD ?kA ?kK ?k6 ?k7 ?k8 ?k9 ?kB ?_ ?c2 ?c3 ?c4 ?c5
  case XB => assumption
  case TB => assumption
  case kD => assumption
  case kA => exact rfl
  case kK => assumption
  case k1 => k_asm
  case k2 => k_asm
  case k3 => k_asm
  case k4 => k_asm
  case k5 => k_asm
  case k6 => k_is
  case k7 => k_is
  case k8 => ktr_room
  case k9 => exact BindsTo.of_eq rfl
  case c5 => decide
  case kB => exact locs rfl
  case c2 => exact rfl
  case c3 => exact rfl
  case c4 => exact rfl
  intro g' L' h' FG' F' N' B' X' T' D'
  (try dsimp only)
  (try k_lift B')
  (try k_fold)
  refine C_execs_cons (C_any ?_)
  k_steps
  refine C_execs_cons (C_any ?_)
  k_steps
  rename News g' _ _ _ => N6
  have N5 := newsSub (nw' := (l, listOf [Value.str x tx, .str y ty, .str z tz].toArray k) :: (P, tabObj ps) :: news) N6 (fun p hp => List.Mem.tail _ (List.Mem.tail _ hp))
  clear N6
  rename _ ∧ _ ∧ _ ∧ AllLt _ _ => l12
  clear l12
  rename _ ∧ _ ∧ AllLt _ _ => l11
  clear l11
  have hlN : ∀ ps : Array Value, ∀ q ∈ (P, tabObj ps) :: news, q.1 ≠ l := by
    intro ps q hq
    rcases List.mem_cons.mp hq with rfl | hq
    · exact Ne.symm hlP
    · exact hnl q hq
  have hs3 : StrsAre [Value.str x tx, .str y ty, .str z tz] [x, y, z] := StrsAre.cons _ _ (StrsAre.cons _ _ (StrsAre.cons _ _ StrsAre.nil))
  have hl3 : ∀ r ∈ [x, y, z], r.length ≤ 14 := by
    intro r hr
    simp only [List.mem_cons, List.not_mem_nil, or_false] at hr
    rcases hr with rfl | rfl | rfl <;> assumption
  have ha3 : ∀ r ∈ [x, y, z], Asc r := by
    intro r hr
    simp only [List.mem_cons, List.not_mem_nil, or_false] at hr
    rcases hr with rfl | rfl | rfl <;> assumption
  refine C_execs_cons (C_mono (Q := Mid w p loose mean mg mb (ktrTop dp un gd cn cs L a ccd [] outer) base (envOf cn cs L a ccd :: outer) g' L' l P news x y z n s.os) ?br ?tl fun _ _ x => x)
  case br =>
    refine C_If (C_any ?_)
    k_steps
    · refine C_execs_one (C_Expr (C_CallName ?_) (by rfl) (by rfl))
      k_steps
      refine C_callWith_K (K := hd.heap_39 w.params) (by k_is) ?_ (by rfl)
      refine C_arg (C_any ?_) (by rfl)
      k_steps
      refine C_arg (C_any ?_) (by rfl)
      k_steps
      unfold Halt
      refine Sl.k1 (by k_asm) (by k_asm) fun r7 h7 F7 N7 lt7 => ?_
      k_steps
      refine C_arg (C_CallName ?_) (by rfl)
      k_steps
      refine C_callWith (K := hd.heap_39 w.params) (by k_is) (C_any ?_)
      k_steps
      refine' cs_call_sal ?b1 ?b2 ?b3 ?b4 ?b5 ?b6 ?b7 ?b8 XB TB ?b9 hIL hSL hPL ay hx hy hz ?_
      case b1 => k_asm
      case b2 => k_asm
      case b3 => k_asm
      case b4 => k_asm
      case b5 => k_asm
      case b6 => exact rfl
      case b7 => ktr_room
      case b8 => ktr_units
      case b9 => assumption
      clear B' X' T' D'
      intro r8 ta8 tb8 tc8 g8 h8 tk8 hT8 F8 N8 lt8 B8 X8 T8 D8
      refine C_argNil ⟨X8.keeps F8.keep, ?_⟩
      refine C_any ?_
      k_fold
      k_dflt (refine' ct_setall (pre := [_, _]) (post := (P, tabObj ps) :: news) (items := [Value.str x tx, .str y ty, .str z tz].toArray) ?b1 ?b2 ?b3 ?b4 ?b5 ?b6 ?b7 ?b8 ?c1 ?c2 ?c3 ?c4 ?c5 (Or.inr rfl) ?c6 ?c7 rfl ?_)
      case b1 => k_asm
      case b2 => k_asm
      case b3 => k_asm
      case b4 => k_asm
      case b5 => k_asm
      case b6 => exact rfl
      case b7 => ktr_room
      case b8 => ktr_units
      case c1 => exact rfl
      case c2 =>
        intro p hp
        simp only [List.mem_cons, List.not_mem_nil, or_false] at hp
        rcases hp with rfl | rfl
        · exact Ne.symm (Nat.ne_of_lt (lt8 (l, _) (by repeat (first | exact List.Mem.head _ | assumption | apply List.Mem.tail))))
        · exact Ne.symm (Nat.ne_of_lt (lt7 (l, _) (by repeat (first | exact List.Mem.head _ | assumption | apply List.Mem.tail))))
      case c3 =>
        intro p hp
        rcases List.mem_cons.mp hp with rfl | hp
        · exact Ne.symm hlP
        · exact hnl p hp
      case c4 => exact (by repeat (first | exact List.Mem.head _ | assumption | apply List.Mem.tail))
      case c5 => exact (by repeat (first | exact List.Mem.head _ | assumption | apply List.Mem.tail))
      case c6 => exact Nat.ne_of_lt (lt8 (l, _) (by repeat (first | exact List.Mem.head _ | assumption | apply List.Mem.tail)))
      case c7 => exact (by decide : 3 + 3 ≤ 1000)
      intro h9 tk9 F9 N9
      k_steps
      have hso : StrsAre [Value.str (aliasF x y z).1 ta8, .str (aliasF x y z).2.1 tb8, .str (aliasF x y z).2.2 tc8] [(aliasF x y z).1, (aliasF x y z).2.1, (aliasF x y z).2.2] := StrsAre.cons _ _ (StrsAre.cons _ _ (StrsAre.cons _ _ StrsAre.nil))
      have hoi := out0 (x := x) (y := y) (z := z) (n := n) (by assumption)
      have hln : ∀ r ∈ [(aliasF x y z).1, (aliasF x y z).2.1, (aliasF x y z).2.2], r.length ≤ 300 := by
        have h9 := aliasF_len hx hy hz
        intro r hr
        simp only [List.mem_cons, List.not_mem_nil, or_false] at hr
        rcases hr with rfl | rfl | rfl
        · exact h9.1
        · exact h9.2.1
        · exact h9.2.2
      refine' mid_of (Or.inl rfl) hso hoi hln ?t1 ?t2 ?t3 ?t4 ?t5 ?t6 ?t7 ?t8 ?t9 ?t10 ?t11 ?t12
      case t4 => k_asm
      case t2 => k_asm
      case t1 => first | assumption | exact KtsTurn.refl
      case t3 => rfl
      case t5 =>
        intro p hp
        rcases List.mem_cons.mp hp with rfl | hp
        · exact (by repeat (first | exact List.Mem.head _ | assumption | apply List.Mem.tail))
        · rcases List.mem_cons.mp hp with rfl | hp
          · exact (by repeat (first | exact List.Mem.head _ | assumption | apply List.Mem.tail))
          · (repeat (first | exact hp | apply List.Mem.tail))
      case t6 => assumption
      case t7 => assumption
      case t8 => first | rfl | assumption
      case t9 => assumption
      case t10 => assumption
      case t11 => assumption
      case t12 => assumption
    · skip
      refine C_execs_one ?_
      refine C_If (C_any ?_)
      k_steps
      · refine C_execs_one (C_Expr (C_CallName ?_) (by rfl) (by rfl))
        k_steps
        refine C_callWith_K (K := hd.heap_39 w.params) (by k_is) ?_ (by rfl)
        refine C_arg (C_any ?_) (by rfl)
        k_steps
        refine C_arg (C_any ?_) (by rfl)
        k_steps
        refine C_arg (C_CallName ?_) (by rfl)
        k_steps
        refine C_callWith (K := hd.heap_39 w.params) (by k_is) (C_any ?_)
        k_steps
        unfold Halt
        obtain ⟨t9, hv9⟩ := strs_at hs3 (i := (n.fdiv 8).fmod 3) (fmod_bounds _ 3 (by decide)).1 (fmod_bounds _ 3 (by decide)).2
        k_dflt (refine' ct_get (vs := [Value.str x tx, .str y ty, .str z tz]) ?b1 ?b2 ?b3 ?b4 ?b5 ?b6 ?b7 ?b8 ?b9 (fmod_bounds _ 3 (by decide)).1 (Int.lt_trans (fmod_bounds _ 3 (by decide)).2 (by decide)) hv9 ?_)
        case b1 => k_asm
        case b2 => k_asm
        case b3 => k_asm
        case b4 => k_asm
        case b5 => k_asm
        case b6 => exact rfl
        case b7 => ktr_room
        case b8 => ktr_units
        case b9 => exact (by repeat (first | exact List.Mem.head _ | assumption | apply List.Mem.tail))
        clear hv9
        intro h7 tk7 F7 N7
        k_steps
        unfold Halt
        obtain ⟨t10, hv8⟩ := strs_at hs3 (i := ((n.fdiv 8).fdiv 3).fmod 3) (fmod_bounds _ 3 (by decide)).1 (fmod_bounds _ 3 (by decide)).2
        k_dflt (refine' ct_get (vs := [Value.str x tx, .str y ty, .str z tz]) ?b1 ?b2 ?b3 ?b4 ?b5 ?b6 ?b7 ?b8 ?b9 (fmod_bounds _ 3 (by decide)).1 (Int.lt_trans (fmod_bounds _ 3 (by decide)).2 (by decide)) hv8 ?_)
        case b1 => k_asm
        case b2 => k_asm
        case b3 => k_asm
        case b4 => k_asm
        case b5 => k_asm
        case b6 => exact rfl
        case b7 => ktr_room
        case b8 => ktr_units
        case b9 => exact (by repeat (first | exact List.Mem.head _ | assumption | apply List.Mem.tail))
        clear hv8
        intro h6 tk6 F6 N6
        k_steps
        refine' cs_call_norm1 ?b1 ?b2 ?b3 ?b4 ?b5 ?b6 ?b7 ?b8 XB TB ?b9 hIL hSL (ha3 _ (itemL_mem (fmod_bounds _ 3 (by decide)).1 (fmod_bounds _ 3 (by decide)).2)) (hl3 _ (itemL_mem (fmod_bounds _ 3 (by decide)).1 (fmod_bounds _ 3 (by decide)).2)) (ha3 _ (itemL_mem (fmod_bounds _ 3 (by decide)).1 (fmod_bounds _ 3 (by decide)).2)) (hl3 _ (itemL_mem (fmod_bounds _ 3 (by decide)).1 (fmod_bounds _ 3 (by decide)).2)) ?_
        case b1 => k_asm
        case b2 => k_asm
        case b3 => k_asm
        case b4 => k_asm
        case b5 => k_asm
        case b6 => exact rfl
        case b7 => ktr_room
        case b8 => ktr_units
        case b9 => assumption
        clear B' X' T' D'
        intro t8 g8 h8 tk8 hT8 F8 N8 B8 X8 T8 D8
        refine C_argNil ⟨X8.keeps F8.keep, ?_⟩
        refine C_any ?_
        k_fold
        k_dflt (refine' ct_set (vs := [Value.str x tx, .str y ty, .str z tz]) ?b1 ?b2 ?b3 ?b4 ?b5 ?b6 ?b7 ?b8 ?b9 (fmod_bounds _ 3 (by decide)).1 (Int.lt_trans (fmod_bounds _ 3 (by decide)).2 (by decide)) (fmod_bounds _ 3 (by decide)).2 ?_)
        case b1 => k_asm
        case b2 => k_asm
        case b3 => k_asm
        case b4 => k_asm
        case b5 => k_asm
        case b6 => exact rfl
        case b7 => ktr_room
        case b8 => ktr_units
        case b9 => exact Upd.head (hlN _)
        intro h9 tk9 F9 N9
        k_steps
        have hso := strs_set hs3 ((n.fdiv 8).fmod 3).toNat (normF (itemL [x, y, z] ((n.fdiv 8).fmod 3)) (itemL [x, y, z] (((n.fdiv 8).fdiv 3).fmod 3))) t8
        have hoi := out1 (x := x) (y := y) (z := z) (n := n) (by assumption)
        have hln : ∀ r ∈ [x, y, z].set ((n.fdiv 8).fmod 3).toNat (normF (itemL [x, y, z] ((n.fdiv 8).fmod 3)) (itemL [x, y, z] (((n.fdiv 8).fdiv 3).fmod 3))), r.length ≤ 300 := by
          intro r hr
          rcases List.mem_or_eq_of_mem_set hr with h9 | rfl
          · have := hl3 r h9; omega
          · exact normF_len (hl3 _ (itemL_mem (fmod_bounds _ 3 (by decide)).1 (fmod_bounds _ 3 (by decide)).2)) (hl3 _ (itemL_mem (fmod_bounds _ 3 (by decide)).1 (fmod_bounds _ 3 (by decide)).2))
        refine' mid_of (Or.inl rfl) hso hoi hln ?t1 ?t2 ?t3 ?t4 ?t5 ?t6 ?t7 ?t8 ?t9 ?t10 ?t11 ?t12
        case t4 => k_asm
        case t2 => k_asm
        case t1 => first | assumption | exact KtsTurn.refl
        case t3 => rfl
        case t5 =>
          intro p hp
          rcases List.mem_cons.mp hp with rfl | hp
          · exact (by repeat (first | exact List.Mem.head _ | assumption | apply List.Mem.tail))
          · rcases List.mem_cons.mp hp with rfl | hp
            · exact (by repeat (first | exact List.Mem.head _ | assumption | apply List.Mem.tail))
            · (repeat (first | exact hp | apply List.Mem.tail))
        case t6 => assumption
        case t7 => assumption
        case t8 => first | rfl | assumption
        case t9 => assumption
        case t10 => assumption
        case t11 => assumption
        case t12 => assumption
      · skip
        refine C_execs_one ?_
        refine C_If (C_any ?_)
        k_steps
        · refine C_execs_one (C_Expr (C_CallName ?_) (by rfl) (by rfl))
          k_steps
          refine C_callWith_K (K := hd.heap_39 w.params) (by k_is) ?_ (by rfl)
          refine C_arg (C_any ?_) (by rfl)
          k_steps
          refine C_arg (C_any ?_) (by rfl)
          k_steps
          refine C_arg (C_CallName ?_) (by rfl)
          k_steps
          refine C_callWith (K := hd.heap_39 w.params) (by k_is) (C_any ?_)
          k_steps
          unfold Halt
          obtain ⟨t9, hv9⟩ := strs_at hs3 (i := (n.fdiv 8).fmod 3) (fmod_bounds _ 3 (by decide)).1 (fmod_bounds _ 3 (by decide)).2
          k_dflt (refine' ct_get (vs := [Value.str x tx, .str y ty, .str z tz]) ?b1 ?b2 ?b3 ?b4 ?b5 ?b6 ?b7 ?b8 ?b9 (fmod_bounds _ 3 (by decide)).1 (Int.lt_trans (fmod_bounds _ 3 (by decide)).2 (by decide)) hv9 ?_)
          case b1 => k_asm
          case b2 => k_asm
          case b3 => k_asm
          case b4 => k_asm
          case b5 => k_asm
          case b6 => exact rfl
          case b7 => ktr_room
          case b8 => ktr_units
          case b9 => exact (by repeat (first | exact List.Mem.head _ | assumption | apply List.Mem.tail))
          clear hv9
          intro h7 tk7 F7 N7
          k_steps
          refine' cs_call_norm0 ?b1 ?b2 ?b3 ?b4 ?b5 ?b6 ?b7 ?b8 XB TB ?b9 hIL hSL (ha3 _ (itemL_mem (fmod_bounds _ 3 (by decide)).1 (fmod_bounds _ 3 (by decide)).2)) (hl3 _ (itemL_mem (fmod_bounds _ 3 (by decide)).1 (fmod_bounds _ 3 (by decide)).2)) ?_
          case b1 => k_asm
          case b2 => k_asm
          case b3 => k_asm
          case b4 => k_asm
          case b5 => k_asm
          case b6 => exact rfl
          case b7 => ktr_room
          case b8 => ktr_units
          case b9 => assumption
          clear B' X' T' D'
          intro t8 g8 h8 tk8 hT8 F8 N8 B8 X8 T8 D8
          refine C_argNil ⟨X8.keeps F8.keep, ?_⟩
          refine C_any ?_
          k_fold
          k_dflt (refine' ct_set (vs := [Value.str x tx, .str y ty, .str z tz]) ?b1 ?b2 ?b3 ?b4 ?b5 ?b6 ?b7 ?b8 ?b9 (fmod_bounds _ 3 (by decide)).1 (Int.lt_trans (fmod_bounds _ 3 (by decide)).2 (by decide)) (fmod_bounds _ 3 (by decide)).2 ?_)
          case b1 => k_asm
          case b2 => k_asm
          case b3 => k_asm
          case b4 => k_asm
          case b5 => k_asm
          case b6 => exact rfl
          case b7 => ktr_room
          case b8 => ktr_units
          case b9 => exact Upd.head (hlN _)
          intro h9 tk9 F9 N9
          k_steps
          have hso := strs_set hs3 ((n.fdiv 8).fmod 3).toNat (normF (itemL [x, y, z] ((n.fdiv 8).fmod 3)) (Str.ofString "")) t8
          have hoi := out2 (x := x) (y := y) (z := z) (n := n) (by assumption)
          have hln : ∀ r ∈ [x, y, z].set ((n.fdiv 8).fmod 3).toNat (normF (itemL [x, y, z] ((n.fdiv 8).fmod 3)) (Str.ofString "")), r.length ≤ 300 := by
            intro r hr
            rcases List.mem_or_eq_of_mem_set hr with h9 | rfl
            · have := hl3 r h9; omega
            · exact normF_len (hl3 _ (itemL_mem (fmod_bounds _ 3 (by decide)).1 (fmod_bounds _ 3 (by decide)).2)) (by decide +kernel)
          refine' mid_of (Or.inl rfl) hso hoi hln ?t1 ?t2 ?t3 ?t4 ?t5 ?t6 ?t7 ?t8 ?t9 ?t10 ?t11 ?t12
          case t4 => k_asm
          case t2 => k_asm
          case t1 => first | assumption | exact KtsTurn.refl
          case t3 => rfl
          case t5 =>
            intro p hp
            rcases List.mem_cons.mp hp with rfl | hp
            · exact (by repeat (first | exact List.Mem.head _ | assumption | apply List.Mem.tail))
            · rcases List.mem_cons.mp hp with rfl | hp
              · exact (by repeat (first | exact List.Mem.head _ | assumption | apply List.Mem.tail))
              · (repeat (first | exact hp | apply List.Mem.tail))
          case t6 => assumption
          case t7 => assumption
          case t8 => first | rfl | assumption
          case t9 => assumption
          case t10 => assumption
          case t11 => assumption
          case t12 => assumption
        · skip
          refine C_execs_one ?_
          refine C_If (C_any ?_)
          k_steps
          · refine C_execs_one (C_any ?_)
            k_steps
            unfold Halt
            rename News _ _ _ _ => N6
            have N5 := newsSub (nw' := (P, tabObj ps) :: (l, listOf [Value.str x tx, .str y ty, .str z tz].toArray k) :: news) N6 (fun p hp => by
              rcases List.mem_cons.mp hp with rfl | hp
              · exact List.Mem.tail _ (List.Mem.head _)
              · rcases List.mem_cons.mp hp with rfl | hp
                · exact List.Mem.head _
                · exact List.Mem.tail _ (List.Mem.tail _ hp))
            clear N6
            refine' ct_call_plat ?b1 ?b2 ?b3 ?b4 ?b5 ?b6 ?b7 ?b8 G (C.keeps B'.stays) hps ?b9 (Nat.le_trans hx (by decide)) (Nat.le_trans hy (by decide)) (Nat.le_trans hz (by decide)) ?_
            case b1 => k_asm
            case b2 => k_asm
            case b3 => k_asm
            case b4 => k_asm
            case b5 => k_asm
            case b6 => exact rfl
            case b7 => ktr_room
            case b8 => ktr_units
            case b9 =>
              intro q hq
              rcases List.mem_cons.mp hq with rfl | hq
              · exact hlP
              · exact hPn q hq
            clear N5
            intro r8 t8 s8 ps8 hp8 hr8 F8 N8 hps8 G8 ho8
            obtain ⟨hp, gn, ds, tks, os⟩ := s8
            have N7 := newsSub (nw' := (l, listOf [Value.str x tx, .str y ty, .str z tz].toArray k) :: (P, tabObj ps8) :: news) N8 (fun p hp => by
              rcases List.mem_cons.mp hp with rfl | hp
              · exact List.Mem.tail _ (List.Mem.head _)
              · rcases List.mem_cons.mp hp with rfl | hp
                · exact List.Mem.head _
                · exact List.Mem.tail _ (List.Mem.tail _ hp))
            have hr9 := hPl x y z r8 ax ay az hp8
            subst hr9
            clear N8
            k_steps
            unfold Halt
            k_dflt (refine' ct_set (vs := [Value.str x tx, .str y ty, .str z tz]) ?b1 ?b2 ?b3 ?b4 ?b5 ?b6 ?b7 ?b8 ?b9 (fmod_bounds _ 3 (by decide)).1 (Int.lt_trans (fmod_bounds _ 3 (by decide)).2 (by decide)) (fmod_bounds _ 3 (by decide)).2 ?_)
            case b1 => k_asm
            case b2 => k_asm
            case b3 => k_asm
            case b4 => k_asm
            case b5 => k_asm
            case b6 => exact rfl
            case b7 => ktr_room
            case b8 => ktr_units
            case b9 => exact Upd.head (hlN _)
            intro h9 tk9 F9 N9
            k_steps
            have hso := strs_set hs3 ((n.fdiv 8).fmod 3).toNat (nameF x y z) t8
            have hoi := out3 (x := x) (y := y) (z := z) (n := n) (by assumption)
            have hln : ∀ r ∈ [x, y, z].set ((n.fdiv 8).fmod 3).toNat (nameF x y z), r.length ≤ 300 := by
              intro r hr
              rcases List.mem_or_eq_of_mem_set hr with h9 | rfl
              · have := hl3 r h9; omega
              · exact nameF_len (Nat.le_trans hx (by decide)) (Nat.le_trans hy (by decide)) (Nat.le_trans hz (by decide))
            refine' mid_of (Or.inl rfl) hso hoi hln ?t1 ?t2 ?t3 ?t4 ?t5 ?t6 ?t7 ?t8 ?t9 ?t10 ?t11 ?t12
            case t4 => k_asm
            case t2 => k_asm
            case t1 => first | assumption | exact KtsTurn.refl
            case t3 => rfl
            case t5 =>
              intro p hp
              rcases List.mem_cons.mp hp with rfl | hp
              · exact (by repeat (first | exact List.Mem.head _ | assumption | apply List.Mem.tail))
              · rcases List.mem_cons.mp hp with rfl | hp
                · exact (by repeat (first | exact List.Mem.head _ | assumption | apply List.Mem.tail))
                · (repeat (first | exact hp | apply List.Mem.tail))
            case t6 => assumption
            case t7 => assumption
            case t8 => first | rfl | assumption
            case t9 => assumption
            case t10 => assumption
            case t11 => assumption
            case t12 => assumption
          · skip
            refine C_execs_one ?_
            refine C_If (C_any ?_)
            k_steps
            · refine C_execs_one (C_any ?_)
              k_steps
              unfold Halt
              k_dflt (refine' ct_texts ?b1 ?b2 ?b3 ?b4 ?b5 ?b6 ?b7 ?b8 ?_)
              case b1 => k_asm
              case b2 => k_asm
              case b3 => k_asm
              case b4 => k_asm
              case b5 => k_asm
              case b6 => exact rfl
              case b7 => ktr_room
              case b8 => ktr_units
              intro r9 vs9 n9 h9 tk9 hs9 F9 N9 lt9
              k_steps
              unfold Halt
              obtain ⟨t8, hv8⟩ := strs_at hs9 (i := ((n.fdiv 8).fdiv 3).fmod 9) (fmod_bounds _ 9 (by decide)).1 (fmod_bounds _ 9 (by decide)).2
              k_dflt (refine' ct_get (vs := vs9) ?b1 ?b2 ?b3 ?b4 ?b5 ?b6 ?b7 ?b8 ?b9 (fmod_bounds _ 9 (by decide)).1 (Int.lt_trans (fmod_bounds _ 9 (by decide)).2 (by decide)) hv8 ?_)
              case b1 => k_asm
              case b2 => k_asm
              case b3 => k_asm
              case b4 => k_asm
              case b5 => k_asm
              case b6 => exact rfl
              case b7 => ktr_room
              case b8 => ktr_units
              case b9 => exact (by repeat (first | exact List.Mem.head _ | assumption | apply List.Mem.tail))
              clear hv8
              intro h6 tk6 F6 N6
              k_steps
              unfold Halt
              k_dflt (refine' ct_set (vs := [Value.str x tx, .str y ty, .str z tz]) ?b1 ?b2 ?b3 ?b4 ?b5 ?b6 ?b7 ?b8 ?b9 (fmod_bounds _ 3 (by decide)).1 (Int.lt_trans (fmod_bounds _ 3 (by decide)).2 (by decide)) (fmod_bounds _ 3 (by decide)).2 ?_)
              case b1 => k_asm
              case b2 => k_asm
              case b3 => k_asm
              case b4 => k_asm
              case b5 => k_asm
              case b6 => exact rfl
              case b7 => ktr_room
              case b8 => ktr_units
              case b9 => exact Upd.tail (Ne.symm (Nat.ne_of_lt (lt9 (l, _) (List.Mem.head _)))) (Upd.head (hlN _))
              intro h9 tk9 F9 N9
              k_steps
              have hso := strs_set hs3 ((n.fdiv 8).fmod 3).toNat (itemL textsL (((n.fdiv 8).fdiv 3).fmod 9)) t8
              have hoi := out4 (x := x) (y := y) (z := z) (n := n) (by assumption)
              have hln : ∀ r ∈ [x, y, z].set ((n.fdiv 8).fmod 3).toNat (itemL textsL (((n.fdiv 8).fdiv 3).fmod 9)), r.length ≤ 300 := by
                intro r hr
                rcases List.mem_or_eq_of_mem_set hr with h9 | rfl
                · have := hl3 r h9; omega
                · have := textsL_len _ (itemL_mem (fs := textsL) (i := ((n.fdiv 8).fdiv 3).fmod 9) (fmod_bounds _ 9 (by decide)).1 (fmod_bounds _ 9 (by decide)).2); omega
              refine' mid_of (Or.inl rfl) hso hoi hln ?t1 ?t2 ?t3 ?t4 ?t5 ?t6 ?t7 ?t8 ?t9 ?t10 ?t11 ?t12
              case t4 => k_asm
              case t2 => k_asm
              case t1 => first | assumption | exact KtsTurn.refl
              case t3 => rfl
              case t5 =>
                intro p hp
                rcases List.mem_cons.mp hp with rfl | hp
                · exact (by repeat (first | exact List.Mem.head _ | assumption | apply List.Mem.tail))
                · rcases List.mem_cons.mp hp with rfl | hp
                  · exact (by repeat (first | exact List.Mem.head _ | assumption | apply List.Mem.tail))
                  · (repeat (first | exact hp | apply List.Mem.tail))
              case t6 => assumption
              case t7 => assumption
              case t8 => first | rfl | assumption
              case t9 => assumption
              case t10 => assumption
              case t11 => assumption
              case t12 => assumption
            · skip
              refine C_execs_one ?_
              refine C_If (C_any ?_)
              k_steps
              · refine C_execs_one (C_any ?_)
                k_steps
                unfold Halt
                obtain ⟨t9, hv9⟩ := strs_at hs3 (i := (n.fdiv 8).fmod 3) (fmod_bounds _ 3 (by decide)).1 (fmod_bounds _ 3 (by decide)).2
                k_dflt (refine' ct_get (vs := [Value.str x tx, .str y ty, .str z tz]) ?b1 ?b2 ?b3 ?b4 ?b5 ?b6 ?b7 ?b8 ?b9 (fmod_bounds _ 3 (by decide)).1 (Int.lt_trans (fmod_bounds _ 3 (by decide)).2 (by decide)) hv9 ?_)
                case b1 => k_asm
                case b2 => k_asm
                case b3 => k_asm
                case b4 => k_asm
                case b5 => k_asm
                case b6 => exact rfl
                case b7 => ktr_room
                case b8 => ktr_units
                case b9 => exact (by repeat (first | exact List.Mem.head _ | assumption | apply List.Mem.tail))
                clear hv9
                intro h7 tk7 F7 N7
                k_steps
                unfold Halt
                k_dflt (refine' ct_pieces ?b1 ?b2 ?b3 ?b4 ?b5 ?b6 ?b7 ?b8 ?_)
                case b1 => k_asm
                case b2 => k_asm
                case b3 => k_asm
                case b4 => k_asm
                case b5 => k_asm
                case b6 => exact rfl
                case b7 => ktr_room
                case b8 => ktr_units
                intro r9 vs9 n9 h9 tk9 hs9 F9 N9 lt9
                k_steps
                unfold Halt
                obtain ⟨t8, hv8⟩ := strs_at hs9 (i := ((n.fdiv 8).fdiv 3).fmod 21) (fmod_bounds _ 21 (by decide)).1 (fmod_bounds _ 21 (by decide)).2
                k_dflt (refine' ct_get (vs := vs9) ?b1 ?b2 ?b3 ?b4 ?b5 ?b6 ?b7 ?b8 ?b9 (fmod_bounds _ 21 (by decide)).1 (Int.lt_trans (fmod_bounds _ 21 (by decide)).2 (by decide)) hv8 ?_)
                case b1 => k_asm
                case b2 => k_asm
                case b3 => k_asm
                case b4 => k_asm
                case b5 => k_asm
                case b6 => exact rfl
                case b7 => ktr_room
                case b8 => ktr_units
                case b9 => exact (by repeat (first | exact List.Mem.head _ | assumption | apply List.Mem.tail))
                clear hv8
                intro h6 tk6 F6 N6
                k_steps
                unfold Halt
                have hq1 := hl3 _ (itemL_mem (i := (n.fdiv 8).fmod 3) (fmod_bounds _ 3 (by decide)).1 (fmod_bounds _ 3 (by decide)).2)
                have hq2 := piecesL_len _ (itemL_mem (fs := piecesL) (i := ((n.fdiv 8).fdiv 3).fmod 21) (fmod_bounds _ 21 (by decide)).1 (fmod_bounds _ 21 (by decide)).2)
                k_dflt (refine' ct_concat_s ?b1 ?b2 ?b3 ?b4 ?b5 ?b6 ?b7 ?b8 (Nat.le_trans hq1 (by decide)) (Nat.le_trans hq2 (by decide)) ?_)
                case b1 => k_asm
                case b2 => k_asm
                case b3 => k_asm
                case b4 => k_asm
                case b5 => k_asm
                case b6 => exact rfl
                case b7 => ktr_room
                case b8 => ktr_units
                intro t8 h8 tk8 F8 N8
                k_steps
                unfold Halt
                k_dflt (refine' ct_set (vs := [Value.str x tx, .str y ty, .str z tz]) ?b1 ?b2 ?b3 ?b4 ?b5 ?b6 ?b7 ?b8 ?b9 (fmod_bounds _ 3 (by decide)).1 (Int.lt_trans (fmod_bounds _ 3 (by decide)).2 (by decide)) (fmod_bounds _ 3 (by decide)).2 ?_)
                case b1 => k_asm
                case b2 => k_asm
                case b3 => k_asm
                case b4 => k_asm
                case b5 => k_asm
                case b6 => exact rfl
                case b7 => ktr_room
                case b8 => ktr_units
                case b9 => exact Upd.tail (Ne.symm (Nat.ne_of_lt (lt9 (l, _) (List.Mem.head _)))) (Upd.head (hlN _))
                intro h9 tk9 F9 N9
                k_steps
                have hso := strs_set hs3 ((n.fdiv 8).fmod 3).toNat (itemL [x, y, z] ((n.fdiv 8).fmod 3) ++ itemL piecesL (((n.fdiv 8).fdiv 3).fmod 21)) t8
                have hoi := out5 (x := x) (y := y) (z := z) (n := n) (by assumption) (by assumption) (by assumption) (by assumption) (by assumption) (by assumption)
                have hln : ∀ r ∈ [x, y, z].set ((n.fdiv 8).fmod 3).toNat (itemL [x, y, z] ((n.fdiv 8).fmod 3) ++ itemL piecesL (((n.fdiv 8).fdiv 3).fmod 21)), r.length ≤ 300 := by
                  intro r hr
                  rcases List.mem_or_eq_of_mem_set hr with h9 | rfl
                  · have := hl3 r h9; omega
                  · rw [PySem.Str.length_append]; omega
                refine' mid_of (Or.inl rfl) hso hoi hln ?t1 ?t2 ?t3 ?t4 ?t5 ?t6 ?t7 ?t8 ?t9 ?t10 ?t11 ?t12
                case t4 => k_asm
                case t2 => k_asm
                case t1 => first | assumption | exact KtsTurn.refl
                case t3 => rfl
                case t5 =>
                  intro p hp
                  rcases List.mem_cons.mp hp with rfl | hp
                  · exact (by repeat (first | exact List.Mem.head _ | assumption | apply List.Mem.tail))
                  · rcases List.mem_cons.mp hp with rfl | hp
                    · exact (by repeat (first | exact List.Mem.head _ | assumption | apply List.Mem.tail))
                    · (repeat (first | exact hp | apply List.Mem.tail))
                case t6 => assumption
                case t7 => assumption
                case t8 => first | rfl | assumption
                case t9 => assumption
                case t10 => assumption
                case t11 => assumption
                case t12 => assumption
              · skip
                refine C_execs_one ?_
                refine C_If (C_any ?_)
                k_steps
                · refine C_execs_one (C_any ?_)
                  k_steps
                  unfold Halt
                  refine Sl.k1 (by k_asm) (by k_asm) fun r7 h7 F7 N7 lt7 => ?_
                  k_steps
                  unfold Halt
                  refine Sl.k2 (by k_asm) (by k_asm) fun r6 h6 F6 N6 lt6 => ?_
                  k_steps
                  unfold Halt
                  k_dflt (refine' ct_get_l (vs := [Value.str x tx, .str y ty, .str z tz]) (sl := r6) ?b1 ?b2 ?b3 ?b4 ?b5 ?b6 ?b7 ?b8 ?b9 ?c1 (by decide : 3 ≤ 1000) ?_)
                  case b1 => k_asm
                  case b2 => k_asm
                  case b3 => k_asm
                  case b4 => k_asm
                  case b5 => k_asm
                  case b6 => exact rfl
                  case b7 => ktr_room
                  case b8 => ktr_units
                  case b9 => exact (by repeat (first | exact List.Mem.head _ | assumption | apply List.Mem.tail))
                  case c1 => exact (by repeat (first | exact List.Mem.head _ | assumption | apply List.Mem.tail))
                  intro r5 h5 tk5 F5 N5 lt5
                  k_steps
                  rw [pick13] at N5
                  unfold Halt
                  refine Sl.k2 (by k_asm) (by k_asm) fun r4 h4 F4 N4 lt4 => ?_
                  k_steps
                  unfold Halt
                  k_dflt (refine' ct_get_l (vs := [Value.str x tx, .str y ty, .str z tz]) (sl := r4) ?b1 ?b2 ?b3 ?b4 ?b5 ?b6 ?b7 ?b8 ?b9 ?c1 (by decide : 3 ≤ 1000) ?_)
                  case b1 => k_asm
                  case b2 => k_asm
                  case b3 => k_asm
                  case b4 => k_asm
                  case b5 => k_asm
                  case b6 => exact rfl
                  case b7 => ktr_room
                  case b8 => ktr_units
                  case b9 => exact (by repeat (first | exact List.Mem.head _ | assumption | apply List.Mem.tail))
                  case c1 => exact (by repeat (first | exact List.Mem.head _ | assumption | apply List.Mem.tail))
                  intro r3 h3 tk3 F3 N3 lt3
                  k_steps
                  rw [pick01] at N3
                  unfold Halt
                  k_dflt (refine' ct_concat_l (b := r5) (c := r3) ?b1 ?b2 ?b3 ?b4 ?b5 ?b6 ?b7 ?b8 ?b9 ?c1 ?_)
                  case b1 => k_asm
                  case b2 => k_asm
                  case b3 => k_asm
                  case b4 => k_asm
                  case b5 => k_asm
                  case b6 => exact rfl
                  case b7 => ktr_room
                  case b8 => ktr_units
                  case b9 => exact (by repeat (first | exact List.Mem.head _ | assumption | apply List.Mem.tail))
                  case c1 => exact (by repeat (first | exact List.Mem.head _ | assumption | apply List.Mem.tail))
                  intro r2 h2 tk2 F2 N2 lt2
                  k_steps
                  unfold Halt
                  k_dflt (refine' ct_setall (pre := [_, _, _, _, _, _]) (post := (P, tabObj ps) :: news) (items := [Value.str x tx, .str y ty, .str z tz].toArray) ?b1 ?b2 ?b3 ?b4 ?b5 ?b6 ?b7 ?b8 ?c1 ?c2 ?c3 ?c4 ?c5 (Or.inl rfl) ?c6 ?c7 rfl ?_)
                  case b1 => k_asm
                  case b2 => k_asm
                  case b3 => k_asm
                  case b4 => k_asm
                  case b5 => k_asm
                  case b6 => exact rfl
                  case b7 => ktr_room
                  case b8 => ktr_units
                  case c1 => exact rfl
                  case c2 =>
                    intro p hp
                    simp only [List.mem_cons, List.not_mem_nil, or_false] at hp
                    rcases hp with rfl | rfl | rfl | rfl | rfl | rfl
                    · exact Ne.symm (Nat.ne_of_lt (lt2 (l, _) (by repeat (first | exact List.Mem.head _ | assumption | apply List.Mem.tail))))
                    · exact Ne.symm (Nat.ne_of_lt (lt3 (l, _) (by repeat (first | exact List.Mem.head _ | assumption | apply List.Mem.tail))))
                    · exact Ne.symm (Nat.ne_of_lt (lt4 (l, _) (by repeat (first | exact List.Mem.head _ | assumption | apply List.Mem.tail))))
                    · exact Ne.symm (Nat.ne_of_lt (lt5 (l, _) (by repeat (first | exact List.Mem.head _ | assumption | apply List.Mem.tail))))
                    · exact Ne.symm (Nat.ne_of_lt (lt6 (l, _) (by repeat (first | exact List.Mem.head _ | assumption | apply List.Mem.tail))))
                    · exact Ne.symm (Nat.ne_of_lt (lt7 (l, _) (by repeat (first | exact List.Mem.head _ | assumption | apply List.Mem.tail))))
                  case c3 =>
                    intro p hp
                    rcases List.mem_cons.mp hp with rfl | hp
                    · exact Ne.symm hlP
                    · exact hnl p hp
                  case c4 => exact (by repeat (first | exact List.Mem.head _ | assumption | apply List.Mem.tail))
                  case c5 => exact (by repeat (first | exact List.Mem.head _ | assumption | apply List.Mem.tail))
                  case c6 => exact Nat.ne_of_lt (lt2 (l, _) (by repeat (first | exact List.Mem.head _ | assumption | apply List.Mem.tail)))
                  case c7 => exact (by decide : 3 + 3 ≤ 1000)
                  intro h9 tk9 F9 N9
                  k_steps
                  have hso : StrsAre [Value.str y ty, .str z tz, .str x tx] [y, z, x] := StrsAre.cons _ _ (StrsAre.cons _ _ (StrsAre.cons _ _ StrsAre.nil))
                  have hoi := out7 (x := x) (y := y) (z := z) (n := n) (by assumption) (by assumption)
                  have hln : ∀ r ∈ [y, z, x], r.length ≤ 300 := by
                    intro r hr
                    simp only [List.mem_cons, List.not_mem_nil, or_false] at hr
                    rcases hr with rfl | rfl | rfl <;> omega
                  refine' mid_of (Or.inl rfl) hso hoi hln ?t1 ?t2 ?t3 ?t4 ?t5 ?t6 ?t7 ?t8 ?t9 ?t10 ?t11 ?t12
                  case t4 => k_asm
                  case t2 => k_asm
                  case t1 => first | assumption | exact KtsTurn.refl
                  case t3 => rfl
                  case t5 =>
                    intro p hp
                    rcases List.mem_cons.mp hp with rfl | hp
                    · exact (by repeat (first | exact List.Mem.head _ | assumption | apply List.Mem.tail))
                    · rcases List.mem_cons.mp hp with rfl | hp
                      · exact (by repeat (first | exact List.Mem.head _ | assumption | apply List.Mem.tail))
                      · (repeat (first | exact hp | apply List.Mem.tail))
                  case t6 => assumption
                  case t7 => assumption
                  case t8 => first | rfl | assumption
                  case t9 => assumption
                  case t10 => assumption
                  case t11 => assumption
                  case t12 => assumption
                · refine C_execs_one (C_Return (C_CallName ?_))
                  k_steps
                  refine C_callWith (K := hd.heap_39 w.params) (by k_is) (C_any ?_)
                  k_steps
                  refine' cs_ref ?b1 ?b2 ?b3 ?b4 ?b5 ?b6 ?b7 ?b8 XB TB ?b9 ?c1 ?_
                  case b1 => k_asm
                  case b2 => k_asm
                  case b3 => k_asm
                  case b4 => k_asm
                  case b5 => k_asm
                  case b6 => exact rfl
                  case b7 => ktr_room
                  case b8 => ktr_units
                  case b9 => assumption
                  case c1 => exact (by repeat (first | exact List.Mem.head _ | assumption | apply List.Mem.tail))
                  clear B' X' T' D'
                  intro g8 h8 tk8 hT8 F8 N8 B8 X8 T8 D8
                  have hso := hs3
                  have hoi := out8 (x := x) (y := y) (z := z) (n := n) (by assumption) (by assumption)
                  have hln : ∀ r ∈ [x, y, z], r.length ≤ 300 := fun r hr => Nat.le_trans (hl3 r hr) (by decide)
                  refine' mid_of (Or.inr ⟨rfl, by assumption, by assumption⟩) hso hoi hln ?t1 ?t2 ?t3 ?t4 ?t5 ?t6 ?t7 ?t8 ?t9 ?t10 ?t11 ?t12
                  case t4 => k_asm
                  case t2 => k_asm
                  case t1 => first | assumption | exact KtsTurn.refl
                  case t3 => rfl
                  case t5 =>
                    intro p hp
                    rcases List.mem_cons.mp hp with rfl | hp
                    · exact (by repeat (first | exact List.Mem.head _ | assumption | apply List.Mem.tail))
                    · rcases List.mem_cons.mp hp with rfl | hp
                      · exact (by repeat (first | exact List.Mem.head _ | assumption | apply List.Mem.tail))
                      · (repeat (first | exact hp | apply List.Mem.tail))
                  case t6 => assumption
                  case t7 => assumption
                  case t8 => first | rfl | assumption
                  case t9 => assumption
                  case t10 => assumption
                  case t11 => assumption
                  case t12 => assumption
  case tl =>
    intro f s1 hm
    obtain ⟨hf, g1, m1, vs, nn, ps1, hs1, hl1, hT1, F1, hm1, N1, hps1, G1, ho1, B1, X1, T1, D1⟩ := hm
    obtain ⟨a1, a2, a3, t1, t2, t3, ho9, rfl⟩ := strs3 hs1 outL_len3
    have hd9 : dueL x y z n = [cut14 a1, cut14 a2, cut14 a3] := by unfold dueL; rw [ho9]; rfl
    rw [ho9] at hl1
    have hz1 : a1.length ≤ 1000 := Nat.le_trans (hl1 a1 (by simp)) (by decide)
    have hz2 : a2.length ≤ 1000 := Nat.le_trans (hl1 a2 (by simp)) (by decide)
    have hz3 : a3.length ≤ 1000 := Nat.le_trans (hl1 a3 (by simp)) (by decide)
    have hm9 : m1 = fun y => if y = Str.ofString "facts" then some (Value.ref l) else m1 y := by
      funext y
      by_cases h : y = Str.ofString "facts"
      · rw [if_pos h, h, hm1]
      · rw [if_neg h]
    rw [hm9] at F1
    clear B' X' T' D' hs1 hl1 hm9
    obtain ⟨hp1, gn1, ds1, tk1, os1⟩ := s1
    rcases hf with rfl | ⟨rfl, hf1, hf2⟩
    · dsimp only
      dsimp only at F1 N1 G1 ho1
      refine C_any ?_
      k_steps
      rename l < _ ∧ _ ∧ AllLt _ _ => hit
      unfold Halt
      k_dflt (refine' ct_get (vs := [Value.str a1 t1, .str a2 t2, .str a3 t3]) (v := Value.str a1 t1) ?b1 ?b2 ?b3 ?b4 ?b5 ?b6 ?b7 ?b8 ?b9 (by decide) (by decide) rfl ?_)
      case b1 => k_asm
      case b2 => k_asm
      case b3 => k_asm
      case b4 => k_asm
      case b5 => k_asm
      case b6 => exact rfl
      case b7 => ktr_room
      case b8 => ktr_units
      case b9 => exact (by repeat (first | exact List.Mem.head _ | assumption | apply List.Mem.tail))
      intro h7 tk7 F7 N7
      k_steps
      unfold Halt
      refine Sl.k1 (by k_asm) (by k_asm) fun r6 h6 F6 N6 lt6 => ?_
      k_steps
      unfold Halt
      k_dflt (refine' ct_get_s (sl := r6) ?b1 ?b2 ?b3 ?b4 ?b5 ?b6 ?b7 ?b8 ?b9 hz1 ?_)
      case b1 => k_asm
      case b2 => k_asm
      case b3 => k_asm
      case b4 => k_asm
      case b5 => k_asm
      case b6 => exact rfl
      case b7 => ktr_room
      case b8 => ktr_units
      case b9 => exact (by repeat (first | exact List.Mem.head _ | assumption | apply List.Mem.tail))
      intro s0 h5 tk5 F5 N5
      k_steps
      unfold Halt
      k_dflt (refine' ct_set (vs := [Value.str a1 t1, .str a2 t2, .str a3 t3]) ?b1 ?b2 ?b3 ?b4 ?b5 ?b6 ?b7 ?b8 ?b9 (by decide) (by decide) (by show (_ : Int) < ((3 : Nat) : Int); decide) ?_)
      case b1 => k_asm
      case b2 => k_asm
      case b3 => k_asm
      case b4 => k_asm
      case b5 => k_asm
      case b6 => exact rfl
      case b7 => ktr_room
      case b8 => ktr_units
      case b9 => exact Upd.tail (Ne.symm (Nat.ne_of_lt (lt6 (l, _) (by repeat (first | exact List.Mem.head _ | assumption | apply List.Mem.tail))))) (Upd.tail (Ne.symm (Nat.ne_of_lt hit.1)) (Upd.head (hlN _)))
      intro h4 tk4 F4 N4
      change News _ _ _ (_ :: _ :: (l, listOf [.str (cut14 a1) s0, .str a2 t2, .str a3 t3].toArray nn) :: _) at N4
      k_steps
      refine' UnrEnd.intro F4 N4 ((l, listOf [.str (cut14 a1) s0, .str a2 t2, .str a3 t3].toArray nn) :: (P, tabObj ps1) :: news) ?u1 ?u2 ?_
      case u1 =>
        intro p hp
        rcases List.mem_cons.mp hp with rfl | hp
        · exact (by repeat (first | exact List.Mem.head _ | assumption | apply List.Mem.tail))
        · exact List.Mem.tail _ (List.Mem.tail _ hp)
      case u2 => exact fun p hp => Nat.ne_of_lt (ktn_ltOf (l := (l, listOf [.str (cut14 a1) s0, .str a2 t2, .str a3 t3].toArray nn) :: (P, tabObj ps1) :: news) hit p hp)
      clear N7 N6 N5 N4 lt6
      k_steps
      unfold Halt
      k_dflt (refine' ct_get (vs := [Value.str (cut14 a1) s0, .str a2 t2, .str a3 t3]) (v := .str a2 t2) ?b1 ?b2 ?b3 ?b4 ?b5 ?b6 ?b7 ?b8 ?b9 (by decide) (by decide) rfl ?_)
      case b1 => k_asm
      case b2 => k_asm
      case b3 => k_asm
      case b4 => k_asm
      case b5 => k_asm
      case b6 => exact rfl
      case b7 => ktr_room
      case b8 => ktr_units
      case b9 => exact (by repeat (first | exact List.Mem.head _ | assumption | apply List.Mem.tail))
      intro h7 tk7 F7 N7
      k_steps
      unfold Halt
      refine Sl.k1 (by k_asm) (by k_asm) fun r6 h6 F6 N6 lt6 => ?_
      k_steps
      unfold Halt
      k_dflt (refine' ct_get_s (sl := r6) ?b1 ?b2 ?b3 ?b4 ?b5 ?b6 ?b7 ?b8 ?b9 hz2 ?_)
      case b1 => k_asm
      case b2 => k_asm
      case b3 => k_asm
      case b4 => k_asm
      case b5 => k_asm
      case b6 => exact rfl
      case b7 => ktr_room
      case b8 => ktr_units
      case b9 => exact (by repeat (first | exact List.Mem.head _ | assumption | apply List.Mem.tail))
      intro s1 h5 tk5 F5 N5
      k_steps
      unfold Halt
      k_dflt (refine' ct_set (vs := [Value.str (cut14 a1) s0, .str a2 t2, .str a3 t3]) ?b1 ?b2 ?b3 ?b4 ?b5 ?b6 ?b7 ?b8 ?b9 (by decide) (by decide) (by show (_ : Int) < ((3 : Nat) : Int); decide) ?_)
      case b1 => k_asm
      case b2 => k_asm
      case b3 => k_asm
      case b4 => k_asm
      case b5 => k_asm
      case b6 => exact rfl
      case b7 => ktr_room
      case b8 => ktr_units
      case b9 => exact Upd.tail (Ne.symm (Nat.ne_of_lt (lt6 (l, _) (by repeat (first | exact List.Mem.head _ | assumption | apply List.Mem.tail))))) (Upd.tail (Ne.symm (Nat.ne_of_lt hit.1)) (Upd.head (hlN _)))
      intro h4 tk4 F4 N4
      change News _ _ _ (_ :: _ :: (l, listOf [Value.str (cut14 a1) s0, .str (cut14 a2) s1, .str a3 t3].toArray nn) :: _) at N4
      k_steps
      refine' UnrEnd.intro F4 N4 ((l, listOf [Value.str (cut14 a1) s0, .str (cut14 a2) s1, .str a3 t3].toArray nn) :: (P, tabObj ps1) :: news) ?u1 ?u2 ?_
      case u1 =>
        intro p hp
        rcases List.mem_cons.mp hp with rfl | hp
        · exact (by repeat (first | exact List.Mem.head _ | assumption | apply List.Mem.tail))
        · exact List.Mem.tail _ (List.Mem.tail _ hp)
      case u2 => exact fun p hp => Nat.ne_of_lt (ktn_ltOf (l := (l, listOf [Value.str (cut14 a1) s0, .str (cut14 a2) s1, .str a3 t3].toArray nn) :: (P, tabObj ps1) :: news) hit p hp)
      clear N7 N6 N5 N4 lt6
      k_steps
      unfold Halt
      k_dflt (refine' ct_get (vs := [Value.str (cut14 a1) s0, .str (cut14 a2) s1, .str a3 t3]) (v := .str a3 t3) ?b1 ?b2 ?b3 ?b4 ?b5 ?b6 ?b7 ?b8 ?b9 (by decide) (by decide) rfl ?_)
      case b1 => k_asm
      case b2 => k_asm
      case b3 => k_asm
      case b4 => k_asm
      case b5 => k_asm
      case b6 => exact rfl
      case b7 => ktr_room
      case b8 => ktr_units
      case b9 => exact (by repeat (first | exact List.Mem.head _ | assumption | apply List.Mem.tail))
      intro h7 tk7 F7 N7
      k_steps
      unfold Halt
      refine Sl.k1 (by k_asm) (by k_asm) fun r6 h6 F6 N6 lt6 => ?_
      k_steps
      unfold Halt
      k_dflt (refine' ct_get_s (sl := r6) ?b1 ?b2 ?b3 ?b4 ?b5 ?b6 ?b7 ?b8 ?b9 hz3 ?_)
      case b1 => k_asm
      case b2 => k_asm
      case b3 => k_asm
      case b4 => k_asm
      case b5 => k_asm
      case b6 => exact rfl
      case b7 => ktr_room
      case b8 => ktr_units
      case b9 => exact (by repeat (first | exact List.Mem.head _ | assumption | apply List.Mem.tail))
      intro s2 h5 tk5 F5 N5
      k_steps
      unfold Halt
      k_dflt (refine' ct_set (vs := [Value.str (cut14 a1) s0, .str (cut14 a2) s1, .str a3 t3]) ?b1 ?b2 ?b3 ?b4 ?b5 ?b6 ?b7 ?b8 ?b9 (by decide) (by decide) (by show (_ : Int) < ((3 : Nat) : Int); decide) ?_)
      case b1 => k_asm
      case b2 => k_asm
      case b3 => k_asm
      case b4 => k_asm
      case b5 => k_asm
      case b6 => exact rfl
      case b7 => ktr_room
      case b8 => ktr_units
      case b9 => exact Upd.tail (Ne.symm (Nat.ne_of_lt (lt6 (l, _) (by repeat (first | exact List.Mem.head _ | assumption | apply List.Mem.tail))))) (Upd.tail (Ne.symm (Nat.ne_of_lt hit.1)) (Upd.head (hlN _)))
      intro h4 tk4 F4 N4
      change News _ _ _ (_ :: _ :: (l, listOf [Value.str (cut14 a1) s0, .str (cut14 a2) s1, .str (cut14 a3) s2].toArray nn) :: _) at N4
      k_steps
      refine' UnrEnd.intro F4 N4 ((l, listOf [Value.str (cut14 a1) s0, .str (cut14 a2) s1, .str (cut14 a3) s2].toArray nn) :: (P, tabObj ps1) :: news) ?u1 ?u2 ?_
      case u1 =>
        intro p hp
        rcases List.mem_cons.mp hp with rfl | hp
        · exact (by repeat (first | exact List.Mem.head _ | assumption | apply List.Mem.tail))
        · exact List.Mem.tail _ (List.Mem.tail _ hp)
      case u2 => exact fun p hp => Nat.ne_of_lt (ktn_ltOf (l := (l, listOf [Value.str (cut14 a1) s0, .str (cut14 a2) s1, .str (cut14 a3) s2].toArray nn) :: (P, tabObj ps1) :: news) hit p hp)
      clear N7 N6 N5 N4 lt6
      k_steps
      rename KtsTurn _ h₀ _ => kT
      rename Fr _ L _ m => kF
      rename News _ L _ _ => kN
      exact ret _ _ _ ps1 (by rw [hd9]; exact isLs_of (StrsAre.cons _ _ (StrsAre.cons _ _ (StrsAre.cons _ _ StrsAre.nil)))) kT kF kN hps1 G1 ho1 (by assumption) (by assumption) (by assumption) (by assumption)
    · have ho8 := (out8 (x := x) (y := y) (z := z) hf1 hf2).out.trans ho9
      simp only [List.cons.injEq, and_true] at ho8
      obtain ⟨rfl, rfl, rfl⟩ := ho8
      rw [cut14_id hx, cut14_id hy, cut14_id hz] at hd9
      dsimp only
      dsimp only at F1 N1 G1 ho1
      k_steps
      rename KtsTurn _ h₀ _ => kT
      rename Fr _ L _ m => kF
      rename News _ L _ _ => kN
      exact ret _ _ _ ps1 (by rw [hd9]; exact isLs_of (StrsAre.cons _ _ (StrsAre.cons _ _ (StrsAre.cons _ _ StrsAre.nil)))) kT kF kN hps1 G1 ho1 (by assumption) (by assumption) (by assumption) (by assumption)
end
end Mine
end
section
open PySem PySem.W PyProof.Rows
theorem Mine.cut_NDeed : True ∧ True := by
  w_top off
  walk1
  all_goals exact True.intro
end

/- NLoop -/
section
open PySem PySem.W PyProof.Rows PySem.Calls
set_option Elab.async false
set_option maxRecDepth 100000
namespace Mine
/-- what holds ahead of each turn of the law's loop -/
structure LawInv (w : World) (p : Program) (loose : List Str) (mean : ExcName → Option Value) (mg mb : Str → Option Value) (base : Heap) (L fl P : Addr) (os : OsState) (nw : List (Addr × Obj)) (s : Shared) (g : Heap) (m : Str → Option Value) (da : Addr) (x y z : Str) (o o' : Obj) (ps : Array Value) : Prop where
  B : Below callerA base [] g
  F : Fr g L s.heap m
  X : (hd.heap_39 w.params).In g
  T : Top p loose mean mg mb g
  mf : m (Str.ofString "facts") = some (.ref fl)
  md : m (Str.ofString "due") = some (.ref da)
  N : News g L s.heap ((da, o) :: (fl, o') :: (P, tabObj ps) :: nw)
  od : IsLs [x, y, z] da o
  of : IsLs [x, y, z] fl o'
  hps : TriplesOk ps.toList
  G : AllBare s.gens
  hos : s.os = os
  df : da ≠ fl
  dP : da ≠ P
  dn : ∀ q ∈ nw, q.1 ≠ da
  fP : fl ≠ P
  fn : ∀ q ∈ nw, q.1 ≠ fl
  Pn : ∀ q ∈ nw, q.1 ≠ P
  ax : Asc x
  ay : Asc y
  az : Asc z
  lx : x.length ≤ 14
  ly : y.length ≤ 14
  lz : z.length ≤ 14
def Inv (w : World) (p : Program) (loose : List Str) (mean : ExcName → Option Value) (mg mb : Str → Option Value) (base : Heap) (L fl P : Addr) (os : OsState) (nw : List (Addr × Obj)) (s : Shared) : Prop :=
  ∃ g m da x y z o o' ps, LawInv w p loose mean mg mb base L fl P os nw s g m da x y z o o' ps
section
variable {w : World} {p : Program} {loose : List Str} {mean : ExcName → Option Value} {mg mb : Str → Option Value} {base : Heap} {L fl P I : Addr} {os : OsState} {r : List (Addr × Obj)} {s : Shared} {oI oI' : Obj} {h' : Heap} {tk : Nat}
theorem Inv.change (i : Inv w p loose mean mg mb base L fl P os ((I, oI) :: r) s) (hr : ∀ q ∈ r, q.1 ≠ I) (hk : ∀ b o, b ≠ I → s.heap.get? b = some o → h'.get? b = some o) (hI : h'.get? I = some oI') :
    Inv w p loose mean mg mb base L fl P os ((I, oI') :: r) { s with heap := h', toks := tk } := by
  obtain ⟨g, m, da, x, y, z, o, o', ps, i⟩ := i
  have zI := i.N (I, oI) (List.Mem.tail _ (List.Mem.tail _ (List.Mem.tail _ (List.Mem.head _))))
  have d1 := i.dn (I, oI) (List.Mem.head _)
  have d2 := i.fn (I, oI) (List.Mem.head _)
  have d3 := i.Pn (I, oI) (List.Mem.head _)
  refine ⟨g, m, da, x, y, z, o, o', ps, { i with F := keepF1 i.F hk (Ne.symm zI.2.1) zI.2.2, N := fun q hq => ?_, G := i.G, hos := i.hos, dn := fun q hq => ?_, fn := fun q hq => ?_, Pn := fun q hq => ?_ }⟩
  · rcases List.mem_cons.mp hq with rfl | hq
    · have z := i.N _ (List.Mem.head _)
      exact ⟨hk _ _ (Ne.symm d1) z.1, z.2⟩
    rcases List.mem_cons.mp hq with rfl | hq
    · have z := i.N _ (List.Mem.tail _ (List.Mem.head _))
      exact ⟨hk _ _ (Ne.symm d2) z.1, z.2⟩
    rcases List.mem_cons.mp hq with rfl | hq
    · have z := i.N _ (List.Mem.tail _ (List.Mem.tail _ (List.Mem.head _)))
      exact ⟨hk _ _ (Ne.symm d3) z.1, z.2⟩
    rcases List.mem_cons.mp hq with rfl | hq
    · exact ⟨hI, zI.2⟩
    · have z := i.N q (List.Mem.tail _ (List.Mem.tail _ (List.Mem.tail _ (List.Mem.tail _ hq))))
      exact ⟨hk _ _ (hr q hq) z.1, z.2⟩
  · rcases List.mem_cons.mp hq with rfl | hq
    · exact d1
    · exact i.dn q (List.Mem.tail _ hq)
  · rcases List.mem_cons.mp hq with rfl | hq
    · exact d2
    · exact i.fn q (List.Mem.tail _ hq)
  · rcases List.mem_cons.mp hq with rfl | hq
    · exact d3
    · exact i.Pn q (List.Mem.tail _ hq)
theorem Inv.drop (i : Inv w p loose mean mg mb base L fl P os ((I, oI) :: r) s) (hr : ∀ q ∈ r, q.1 ≠ I) (hk : ∀ b o, b ≠ I → s.heap.get? b = some o → h'.get? b = some o) :
    Inv w p loose mean mg mb base L fl P os r { s with heap := h', toks := tk } := by
  obtain ⟨g, m, da, x, y, z, o, o', ps, i⟩ := i
  have zI := i.N (I, oI) (List.Mem.tail _ (List.Mem.tail _ (List.Mem.tail _ (List.Mem.head _))))
  have d1 := i.dn (I, oI) (List.Mem.head _)
  have d2 := i.fn (I, oI) (List.Mem.head _)
  have d3 := i.Pn (I, oI) (List.Mem.head _)
  refine ⟨g, m, da, x, y, z, o, o', ps, { i with F := keepF1 i.F hk (Ne.symm zI.2.1) zI.2.2, N := fun q hq => ?_, G := i.G, hos := i.hos, dn := fun q hq => i.dn q (List.Mem.tail _ hq), fn := fun q hq => i.fn q (List.Mem.tail _ hq), Pn := fun q hq => i.Pn q (List.Mem.tail _ hq) }⟩
  rcases List.mem_cons.mp hq with rfl | hq
  · have z := i.N _ (List.Mem.head _)
    exact ⟨hk _ _ (Ne.symm d1) z.1, z.2⟩
  rcases List.mem_cons.mp hq with rfl | hq
  · have z := i.N _ (List.Mem.tail _ (List.Mem.head _))
    exact ⟨hk _ _ (Ne.symm d2) z.1, z.2⟩
  rcases List.mem_cons.mp hq with rfl | hq
  · have z := i.N _ (List.Mem.tail _ (List.Mem.tail _ (List.Mem.head _)))
    exact ⟨hk _ _ (Ne.symm d3) z.1, z.2⟩
  · have z := i.N q (List.Mem.tail _ (List.Mem.tail _ (List.Mem.tail _ (List.Mem.tail _ hq))))
    exact ⟨hk _ _ (hr q hq) z.1, z.2⟩
theorem Inv.push (i : Inv w p loose mean mg mb base L fl P os r s) (hf : oI.isFreed = false) :
    Inv w p loose mean mg mb base L fl P os ((s.heap.objs.size, oI) :: r) { s with heap := s.heap.push oI } := by
  obtain ⟨g, m, da, x, y, z, o, o', ps, i⟩ := i
  have N' := News.push i.F i.N oI hf
  have lt : ∀ q ∈ (da, o) :: (fl, o') :: (P, tabObj ps) :: r, q.1 < s.heap.objs.size := fun q hq => Heap.lt_size (i.N q hq).1
  refine ⟨g, m, da, x, y, z, o, o', ps, { i with F := i.F.push _, N := fun q hq => ?_, G := i.G, hos := i.hos, dn := fun q hq => ?_, fn := fun q hq => ?_, Pn := fun q hq => ?_ }⟩
  · refine N' q ?_
    rcases List.mem_cons.mp hq with rfl | hq
    · exact List.Mem.tail _ (List.Mem.head _)
    rcases List.mem_cons.mp hq with rfl | hq
    · exact List.Mem.tail _ (List.Mem.tail _ (List.Mem.head _))
    rcases List.mem_cons.mp hq with rfl | hq
    · exact List.Mem.tail _ (List.Mem.tail _ (List.Mem.tail _ (List.Mem.head _)))
    rcases List.mem_cons.mp hq with rfl | hq
    · exact List.Mem.head _
    · exact List.Mem.tail _ (List.Mem.tail _ (List.Mem.tail _ (List.Mem.tail _ hq)))
  · rcases List.mem_cons.mp hq with rfl | hq
    · exact Ne.symm (Nat.ne_of_lt (lt (da, o) (List.Mem.head _)))
    · exact i.dn q hq
  · rcases List.mem_cons.mp hq with rfl | hq
    · exact Ne.symm (Nat.ne_of_lt (lt (fl, o') (List.Mem.tail _ (List.Mem.head _))))
    · exact i.fn q hq
  · rcases List.mem_cons.mp hq with rfl | hq
    · exact Ne.symm (Nat.ne_of_lt (lt (P, tabObj ps) (List.Mem.tail _ (List.Mem.tail _ (List.Mem.head _)))))
    · exact i.Pn q hq
theorem Inv.at {q : Addr × Obj} (i : Inv w p loose mean mg mb base L fl P os r s) (hq : q ∈ r) : s.heap.get? q.1 = some q.2 := by
  obtain ⟨g, m, da, x, y, z, o, o', ps, i⟩ := i
  exact (i.N q (List.Mem.tail _ (List.Mem.tail _ (List.Mem.tail _ hq)))).1
/-- the law's loop -/
theorem lawLoop {prog : Program} {A : Around} {env : Env} {target : Expr} {body : List Stmt} {D : Addr} {vs : List Value} {nn : Nat} {Q : Flow → Shared → Prop} (hh : A.handled = none)
    (i₀ : Inv w p loose mean mg mb base L fl P os [(D, listOf vs.toArray nn)] s) (hints : ∀ v ∈ vs, ∃ n t, v = .int n t)
    (turn : ∀ nw v s, (∃ n t, v = .int n t) → Inv w p loose mean mg mb base L fl P os nw s →
      wpAny (model prog w) A (assign target env v) (fun _ s₂ => wpC (model prog w) A (execs body env) (fun f s₃ => f = .next ∧ Inv w p loose mean mg mb base L fl P os nw s₃) NoE s₂) NoE s)
    (done : ∀ nw s, Inv w p loose mean mg mb base L fl P os nw s → Q .next s) (ht : ∀ it v, letOwnedTupleGo target it v = pure () := by intro _ _; rfl) :
    wpAny (model prog w) A (pyIter (.ref D)) (fun it s₂ => codeC (model prog w) A (.forLoop target it body [] env) (fun r s' => match r with | .ok f => Q f s' | .error _ => False) s₂) NoE s := by
  have hol : s.heap.get? D = some (listOf vs.toArray nn) := i₀.at (List.Mem.head _)
  have hls : s.heap.IsList D vs.toArray := ⟨_, hol, rfl, nn, rfl⟩
  have hne : D ≠ s.heap.objs.size := Nat.ne_of_lt (Heap.lt_size hol)
  refine wpAny_pyIter_list hls ?_
  have W := Walks.list (prog := prog) (w := w) hh s.heap.objs.size D hne vs.toArray
  have hlen : vs.toArray.size = vs.length := by simp
  rw [hlen] at W
  have hr : ∀ q ∈ [(D, listOf vs.toArray nn)], q.1 ≠ s.heap.objs.size := fun q hq => by rw [List.mem_singleton.mp hq]; exact hne
  have lsOf : ∀ {oI : Obj} {s' : Shared}, Inv w p loose mean mg mb base L fl P os ((s.heap.objs.size, oI) :: [(D, listOf vs.toArray nn)]) s' → s'.heap.IsList D vs.toArray := fun j => ⟨_, j.at (q := (D, listOf vs.toArray nn)) (List.Mem.tail _ (List.Mem.head _)), rfl, nn, rfl⟩
  refine codeC_forLoop (fun n s' => ∃ i oI, n = vs.length - i ∧ i ≤ vs.length ∧ s'.heap.IsListIter s.heap.objs.size D i ∧ Inv w p loose mean mg mb base L fl P os ((s.heap.objs.size, oI) :: [(D, listOf vs.toArray nn)]) s')
    (fun n s' hI => ?_) vs.length ⟨0, _, rfl, Nat.zero_le _, ⟨_, Heap.get?_push_size _ rfl, rfl, rfl⟩, i₀.push rfl⟩ (fun v => ht _ v)
  obtain ⟨i, oI, rfl, hle, hit, inv⟩ := hI
  by_cases hi : i < vs.length
  · refine W.item i s' _ _ hi ⟨hit, lsOf inv⟩ fun v h' tk hv hst hk => ?_
    obtain ⟨oI', hoI, hcI, hdI⟩ := id hst.1
    have inv' := inv.change (h' := h') (tk := tk) hr (fun b o hb e => hk b o (fun q => hb (List.mem_singleton.mp q)) e) hoI
    have hv' := hints v (by
      have : vs[i]? = some v := by simpa using hv
      exact List.mem_of_getElem? this)
    refine wpAny_mono (turn _ v _ hv' inv') (fun _ s₂ h₂ => C_mono h₂ (fun f s₃ h₃ => ?_) fun _ _ x => x) fun _ _ x => x
    obtain ⟨rfl, inv₃⟩ := h₃
    exact ⟨vs.length - (i + 1), by omega, i + 1, oI', rfl, hi, ⟨oI', inv₃.at (List.Mem.head _), hcI, hdI⟩, inv₃⟩
  · have hi' : i = vs.length := by omega
    subst hi'
    refine W.done s' _ _ ⟨hit, lsOf inv⟩ fun h' tk hk => ?_
    exact done _ _ (inv.drop (h' := h') (tk := tk) hr fun b o hb e => hk b o (fun q => hb (List.mem_singleton.mp q)) e)
end
end Mine
end
section
open PySem PySem.W PyProof.Rows
theorem Mine.cut_NLoop : True ∧ True := by
  w_top off
  walk1
  all_goals exact True.intro
end

/- NEq3 -/
section
open PySem PySem.W PyProof.Rows PySem.Calls
set_option Elab.async false
set_option maxRecDepth 100000
namespace Mine
theorem strOk_asc {x : Str} (h : Asc x) : PyData.strOk x = true := by
  unfold PyData.strOk
  rw [← Array.all_toList, List.all_eq_true]
  intro c hc
  exact decide_eq_true (Nat.lt_of_le_of_lt (h c hc).2 (by decide))
theorem ne3 {prog : Program} {w : World} {A : Around} {E : Value → Shared → Prop} {s : Shared} {a b : Addr} {x y z : Str} {tx ty tz ux uy uz : Tok} {k k' : Nat} {Q : Value → Shared → Prop}
    (ha : s.heap.get? a = some (listOf [Value.str x tx, .str y ty, .str z tz].toArray k)) (hb : s.heap.get? b = some (listOf [Value.str x ux, .str y uy, .str z uz].toArray k')) (ox : PyData.strOk x = true) (oy : PyData.strOk y = true) (oz : PyData.strOk z = true) (hu : A.units + 64 < cLine) (h : Q (.bool false) s) :
    wpAny (model prog w) A (compareOp .NotEq (.ref a) (.ref b)) Q E s := by
  have sh : SeqAt.shaped (.list [.str x, .str y, .str z]) = true := by simp [SeqAt.shaped, PyData.canLay0, PyData.canLayAll0, PyData.depth, PyData.depthAll, ox, oy, oz]
  refine ne_dataH (reads_list_at ha rfl rfl (ReadsAll.cons (Reads.str _ _) (ReadsAll.cons (Reads.str _ _) (ReadsAll.cons (Reads.str _ _) ReadsAll.nil)))) (reads_list_at hb rfl rfl (ReadsAll.cons (Reads.str _ _) (ReadsAll.cons (Reads.str _ _) (ReadsAll.cons (Reads.str _ _) ReadsAll.nil)))) sh sh hu ?_
  simp only [PyData.eqv, PyData.eqvAll, beq_self_eq_true, Bool.and_true, Bool.true_and, Bool.not_true, Bool.and_self]
  exact h
end Mine
end
section
open PySem PySem.W PyProof.Rows
theorem Mine.cut_NEq3 : True ∧ True := by
  w_top off
  walk1
  all_goals exact True.intro
end

/- NTop -/
section
open PySem PySem.W PyProof.Rows PySem.Calls
set_option Elab.async false
set_option maxRecDepth 100000
set_option pp.deepTerms false
set_option pp.maxSteps 6000
namespace Mine
theorem call_fullC {prog : Program} {w : World} {A : Around} {R : Result → Shared → Prop} {s : Shared} {name : Str} {params : Arguments} {body : List Stmt} {scope : Scope}
    {dV kV pm cd doc : Value} {a : Addr} {o : Obj} {args : Args} {binds : List (Str × Value)}
    (hroom : A.depth < recursionLimit) (ho : s.heap.get? a = some o) (hdata : o.data = .func { docDef name params body scope pm cd doc with defaults := dV, kwdefaults := kV }) (hlim : s.heap.NoLimit) (hcd : s.heap.CodeRec cd name)
    (hbind : BindsTo s { docDef name params body scope pm cd doc with defaults := dV, kwdefaults := kV } args binds)
    (hloc : ∀ x ∈ binds, scope.names.lookup x.1 = some .local)
    (h : ∀ h₁, Fr s.heap s.heap.objs.size h₁ (fun x => binds.reverse.lookup x) →
      wpC (model prog w) (A.deeper (envOf name scope s.heap.objs.size a cd)) (execs body (envOf name scope s.heap.objs.size a cd))
        (fun f s' => R (.ok (.ret (match f with | .ret v => v | _ => .none))) s') NoE
        { s with heap := h₁, toks := s.toks + binds.length })
    (hco : scope.isCoroutine = false := by rfl) (hgen : scope.isGenerator = false := by rfl) (hk : scope.kind = .function := by rfl)
    (hcell : ∀ x ∈ scope.names, x.2 ≠ .cell := by decide) :
    codeC (model prog w) A (.call (.ref a) args) R s := by
  refine codeC_call_function (body := body) hroom ho hdata hco hgen rfl hcd (hbind _ _ _ _ ?_)
  refine wpAny_newFunctionEnv hcell hloc (fun h₁ hns hsb => ⟨hlim.fresh _ hsb, codeC_func ?_⟩) hk
  have up : ∀ b o, s.heap.get? b = some o → h₁.get? b = some o := fun b o e => hsb.extBut b o (Nat.ne_of_lt (Heap.lt_size e)) (Heap.get?_push_of_some _ e)
  exact h h₁ ⟨hns, up, Nat.le_refl _⟩
local macro_rules | `(tactic| walk_at "call ref") => `(tactic| (refine Halt.out ?_))
theorem C_isTrueCall {M : Model} {A : Around} {E : Value → Shared → Prop} {s : Shared} {env : Env} {f : Expr} {args : List Expr} {kws : List Keyword} {pos : Pos} {whole : Sem Value} {Q : Bool → Shared → Prop}
    (h : wpC M A whole (fun v s₁ => wpAny M A (truthy v) Q E s₁) E s) : wpC M A (isTrue (.Call f args kws pos) env whole) Q E s := by
  rw [PySem.isTrue]
  · exact C_bind (C_mono h (fun v s₁ h₁ => C_bind (C_standAt (C_holding (C_any h₁)))) fun _ _ x => x)
  all_goals (intros; first | contradiction | (intro h; cases h) | nofun)
theorem ints_all {vs : List Value} {ns : List Int} (h : IntsAre vs ns) : ∀ v ∈ vs, ∃ n t, v = Value.int n t := by
  induction h with
  | nil => intro v hv; cases hv
  | cons i t _ ih =>
    intro v hv
    rcases List.mem_cons.mp hv with rfl | hv
    · exact ⟨_, _, rfl⟩
    · exact ih v hv
def allInt : List Value → Prop
  | [] => True
  | .int _ _ :: r => allInt r
  | _ :: _ => False
theorem ints_lit : ∀ {vs : List Value}, allInt vs → ∀ v ∈ vs, ∃ n t, v = Value.int n t
  | .int n t :: r, h, v, hv => by
    rcases List.mem_cons.mp hv with rfl | hv
    · exact ⟨n, t, rfl⟩
    · exact ints_lit (vs := r) h v hv
def AliasLaw : Prop := ∀ x y z, Asc x → Asc y → Asc z → x.length ≤ 14 → y.length ≤ 14 → z.length ≤ 14 → (Asc (aliasF x y z).1 ∧ Asc (aliasF x y z).2.1 ∧ Asc (aliasF x y z).2.2) ∧ (aliasF x y z).1.length ≤ 20 ∧ (aliasF x y z).2.1.length ≤ 20 ∧ (aliasF x y z).2.2.length ≤ 20
theorem C_argStar {M : Model} {A : Around} {E : Value → Shared → Prop} {s : Shared} {env : Env} {e : PySem.Expr} {rest : List PySem.Expr} {pos p : Pos} {Q : List Value → Shared → Prop} (h : wpC M A (eval e env) (fun v s₁ => StarOf M A E v (fun here s₂ => wpC M A (spliced (backTo pos (starEach rest env))) (fun vs s₃ => Q (here ++ vs) s₃) E s₂) s₁) E s)
    (he : starEach (.Starred e p :: rest) env = (true, eval e env) :: starEach rest env) : wpC M A (spliced (backTo pos (starEach (.Starred e p :: rest) env))) Q E s := by
  rw [he]
  exact C_spliced_star h
def AscLaw : Prop := ∀ x y z n, Asc x → Asc y → Asc z → x.length ≤ 14 → y.length ≤ 14 → z.length ≤ 14 → ∀ r ∈ dueL x y z n, Asc r
theorem dueL3 (x y z : Str) (n : Int) : ∃ a b c, dueL x y z n = [a, b, c] ∧ a.length ≤ 14 ∧ b.length ≤ 14 ∧ c.length ≤ 14 := by
  have h := outL_len3 (x := x) (y := y) (z := z) (n := n)
  unfold dueL
  match outL x y z n, h with
  | [a, b, c], _ => exact ⟨_, _, _, rfl, cut14_len a, cut14_len b, cut14_len c⟩
theorem isLs3 {x y z : Str} {r : Addr} {o : Obj} (h : IsLs [x, y, z] r o) : ∃ tx ty tz k, o = listOf [Value.str x tx, .str y ty, .str z tz].toArray k := by
  obtain ⟨ts, k, h1, rfl⟩ := h
  match ts, h1 with
  | [(a, ta), (b, tb), (c, tc)], h1 =>
    simp only [List.map_cons, List.map_nil, List.cons.injEq, and_true] at h1
    obtain ⟨rfl, rfl, rfl⟩ := h1
    exact ⟨ta, tb, tc, k, rfl⟩
theorem loose_of {p : Program} {loose : List Str} {mean : ExcName → Option Value} {mg mb : Str → Option Value} {h : Heap} (_ : Top p loose mean mg mb h) : ∃ lo, lo = loose := ⟨_, rfl⟩
theorem mean_of {p : Program} {loose : List Str} {mean : ExcName → Option Value} {mg mb : Str → Option Value} {h : Heap} (_ : Top p loose mean mg mb h) : ∃ me, me = mean := ⟨_, rfl⟩
def AtLoop (w : World) (p : Program) (loose : List Str) (mean : ExcName → Option Value) (mg mb : Str → Option Value) (base : Heap) (L P : Addr) (os : OsState) (v : Value) (s : Shared) : Prop :=
  ∃ (D fl : Addr) (vs : List Value) (nn : Nat), v = .ref D ∧ (∀ v ∈ vs, ∃ n t, v = Value.int n t) ∧ Inv w p loose mean mg mb base L fl P os [(D, listOf vs.toArray nn)] s
theorem at_start {w : World} {p : Program} {loose : List Str} {mean : ExcName → Option Value} {mg mb : Str → Option Value} {base : Heap} {L fl P da D : Addr} {os : OsState} {nw : List (Addr × Obj)} {s : Shared} {m : Str → Option Value} {vs : List Value} {nn k k' : Nat} {tx ty tz ux uy uz : Tok}
    (mf : m (Str.ofString "facts") = some (.ref fl)) (md : m (Str.ofString "due") = some (.ref da)) (B : Below callerA base [] base) (F : Fr base L s.heap m) (X : (hd.heap_39 w.params).In base) (T : Top p loose mean mg mb base) (N : News base L s.heap nw)
    (hd' : (da, listOf [Value.str (Str.ofString "SunOS") tx, .str (Str.ofString "5.10") ty, .str (Str.ofString "unknown") tz].toArray k) ∈ nw) (hf : (fl, listOf [Value.str (Str.ofString "SunOS") ux, .str (Str.ofString "5.10") uy, .str (Str.ofString "unknown") uz].toArray k') ∈ nw)
    (hP : (P, tabObj #[]) ∈ nw) (hD : (D, listOf vs.toArray nn) ∈ nw) (hi : ∀ v ∈ vs, ∃ n t, v = Value.int n t) (G : AllBare s.gens) (ho : s.os = os) (df : da ≠ fl) (dP : da ≠ P) (dD : D ≠ da) (fP : fl ≠ P) (fD : D ≠ fl) (PD : D ≠ P) : AtLoop w p loose mean mg mb base L P os (.ref D) s := by
  refine ⟨D, fl, vs, nn, rfl, hi, base, m, da, Str.ofString "SunOS", Str.ofString "5.10", Str.ofString "unknown", listOf [Value.str (Str.ofString "SunOS") tx, .str (Str.ofString "5.10") ty, .str (Str.ofString "unknown") tz].toArray k, listOf [Value.str (Str.ofString "SunOS") ux, .str (Str.ofString "5.10") uy, .str (Str.ofString "unknown") uz].toArray k', #[], { B := B, F := F, X := X, T := T, mf := mf, md := md, N := fun q hq => ?_, od := isLs_of (StrsAre.cons _ _ (StrsAre.cons _ _ (StrsAre.cons _ _ StrsAre.nil))), of := isLs_of (StrsAre.cons _ _ (StrsAre.cons _ _ (StrsAre.cons _ _ StrsAre.nil))), hps := ?_, G := G, hos := ho, df := df, dP := dP, dn := fun q hq => ?_, fP := fP, fn := fun q hq => ?_, Pn := fun q hq => ?_, ax := (by unfold Asc; decide +kernel), ay := (by unfold Asc; decide +kernel), az := (by unfold Asc; decide +kernel), lx := by decide +kernel, ly := by decide +kernel, lz := by decide +kernel }⟩
  · rcases List.mem_cons.mp hq with rfl | hq
    · exact N _ hd'
    rcases List.mem_cons.mp hq with rfl | hq
    · exact N _ hf
    rcases List.mem_cons.mp hq with rfl | hq
    · exact N _ hP
    rw [List.mem_singleton.mp hq]
    exact N _ hD
  · simp [TriplesOk]
  · rw [List.mem_singleton.mp hq]; exact dD
  · rw [List.mem_singleton.mp hq]; exact fD
  · rw [List.mem_singleton.mp hq]; exact PD
/-- the end of the law: the claim's own words, from the ledger -/
def Fin (base : Heap) (P : Addr) (os : OsState) (f : Flow) (s : Shared) : Prop :=
  f = .ret (.bool true) ∧ (∀ b o, base.get? b = some o → s.heap.get? b = some o) ∧ GrownAt P s.heap ∧ AllBare s.gens ∧ s.os = os
theorem fin_good {cw : ClaimW} {cl : Str → Option Addr} {mean : ExcName → Option Value} {args : List WData} {s₁ s' : Shared} {c P : Addr} (hT : TabsAt [(c, P)] s₁.heap)
    (hk : ∀ b o, (ghostOf s₁.heap [(c, P)]).get? b = some o → s'.heap.get? b = some o) (hgr : GrownAt P s'.heap) (hb : AllBare s'.gens) (ho : s'.os = s₁.os) (hr : ∀ cls, cw.raises args cls = false) (hp : cw.post args (.bool true) args = true) : GoodWG cw cl mean args s₁ (.ok (.ret (.bool true))) s' := by
  have keep : ∀ b o, b ≠ P → s₁.heap.get? b = some o → s'.heap.get? b = some o := fun b o hb e => hk b o (ghost_ne e (by simpa using hb))
  have grown : ∀ o, s₁.heap.get? P = some o → isCodeTable s₁.heap P ∧ o = tabObj #[] ∧ ∃ ps, s'.heap.get? P = some (tabObj ps) := fun o e => by
    have z := hT (c, P) (List.Mem.head _)
    have e2 := z.2
    rw [e] at e2
    exact ⟨(z.1.tab z.2).isCodeTable, Option.some.inj e2, hgr⟩
  refine ⟨.inl ⟨.bool true, .bool true, [], rfl, hr, .bool true, hp, unshared_nil⟩, ⟨fun b o e => ?_, fun b o e => ?_⟩, ho, hb⟩
  · by_cases hb : b = P
    · subst hb
      obtain ⟨ht, rfl, ps, hP⟩ := grown o e
      exact .inr (.inl ⟨ht, rfl, #[], ps, rfl, by rw [Array.empty_append]; exact hP⟩)
    · exact .inl (keep b o hb e)
  · by_cases hb : b = P
    · subst hb
      obtain ⟨_, _, ps, hP⟩ := grown o e
      exact ⟨_, hP⟩
    · exact ⟨o, keep b o hb e⟩
set_option maxHeartbeats 8000000 in
theorem tops (hIL : IntLaw) (hPL : PartLaw) (hPl : PlatLaw) (hAL : AscLaw) (hAA : AliasLaw) : PySem.Challenge.rw_nb0114_01.Holds := by
  refine hd ?_
  k_fill
  intro w s₀ s₁ mg mb G Y fa o pm cd doc dV kV ho hd' hcd hD hmg hg args vals as hpre hlay hrd hwl hlo
  have KX := kIn_of Y
  have X := (Ground.X G).1
  have V := (Ground.X G).2
  refine Ground.open G ?_
  intro T B D TE TW
  try (refine guard_noD D (by decide +kernel) ?_; clear D)
  have hT9 : TabsAt ([(63, 59)] : List (Addr × Addr)) _ := List.forall_mem_cons.mpr ⟨tab_of (x := PySem.Str.ofString "_platform") (c := 63) (P := 59) T KX rfl (by kernel_rfl), fun _ h => nomatch h⟩
  clear hmg
  wrow_args hpre hlay hrd hwl hlo
  have he := Dflts.none hD rfl
  subst he
  refine call_fullC (by decide) ho hd' (Top.nolimit T) hcd (BindsTo.of_eq rfl) (locs rfl) fun h₁ F => ?_
  w_binds F
  have N0 := (News.nil : News _ _ _ []).at F
  kn_ghosts F T
  clear G Y V X B TE TW hcd hd' hD ho
  dsimp only
  (try k_fold)
  refine C_mono (Q := Fin (ghostOf s₁.heap [(63, 59)]) 59 s₁.os) ?walk ?fin fun _ _ x => x
  case fin =>
    intro f s' hf
    obtain ⟨rfl, hk, hgr, hb, ho'⟩ := hf
    dsimp only
    refine fin_good hT9 hk hgr hb ho' (fun _ => rfl) ?_
    exact postW_of (by wrow_shape) (by wtm_val) (by w_fin)
  case walk =>
    rename Below _ _ _ _ => K9
    rename Top topProg _ _ _ _ _ => T9
    rename Frag.In _ _ => X9
    rename CodeHd _ _ _ => C9
    obtain ⟨lo9, hlo9⟩ := loose_of T9
    rw [← hlo9] at T9
    clear hlo9
    obtain ⟨me9, hme9⟩ := mean_of T9
    rw [← hme9] at T9
    clear hme9
    have X8 := X9
    have T8 := T9
    have C8 := C9
    refine C_execs_cons (C_any ?_)
    k_steps
    refine C_execs_cons (C_For (wpAny_mono (Q := AtLoop w topProg lo9 me9 mg mb (ghostOf s₁.heap [(63, 59)]) s₁.heap.objs.size 59 s₁.os) ?iter ?loop fun _ _ x => x))
    case iter =>
      k_steps
      · rename Fr _ _ _ _ => kF
        refine' at_start rfl rfl K9 kF X8 T8 ?n1 ?n2 ?n3 ?n4 ?n5 ?n6 ?n7 ?n8 ?n9 ?n10 ?n11 ?n12 ?n13 ?n14
        case n1 => k_asm
        case n2 => exact (by repeat (first | exact List.Mem.head _ | assumption | apply List.Mem.tail))
        case n3 => exact (by repeat (first | exact List.Mem.head _ | assumption | apply List.Mem.tail))
        case n4 => exact (by repeat (first | exact List.Mem.head _ | assumption | apply List.Mem.tail))
        case n5 => exact (by repeat (first | exact List.Mem.head _ | assumption | apply List.Mem.tail))
        case n6 => exact ints_all (by assumption)
        case n7 => exact AllBare.of_eq hg
        case n8 => exact rfl
        case n9 => k_ne
        case n10 => k_ne
        case n11 => k_ne
        case n12 => k_ne
        case n13 => k_ne
        case n14 => k_ne
      · rename Fr _ _ _ _ => kF
        refine' at_start rfl rfl K9 kF X8 T8 ?n1 ?n2 ?n3 ?n4 ?n5 ?n6 ?n7 ?n8 ?n9 ?n10 ?n11 ?n12 ?n13 ?n14
        case n1 => k_asm
        case n2 => exact (by repeat (first | exact List.Mem.head _ | assumption | apply List.Mem.tail))
        case n3 => exact (by repeat (first | exact List.Mem.head _ | assumption | apply List.Mem.tail))
        case n4 => exact (by repeat (first | exact List.Mem.head _ | assumption | apply List.Mem.tail))
        case n5 => exact (by repeat (first | exact List.Mem.head _ | assumption | apply List.Mem.tail))
        case n6 => exact ints_lit (by simp [allInt])
        case n7 => exact AllBare.of_eq hg
        case n8 => exact rfl
        case n9 => k_ne
        case n10 => k_ne
        case n11 => k_ne
        case n12 => k_ne
        case n13 => k_ne
        case n14 => k_ne
    case loop =>
      intro v9 s9 hv9
      obtain ⟨D9, fl, vs9, nn9, rfl, hints9, inv9⟩ := hv9
      refine lawLoop rfl inv9 hints9 ?turn ?done
      case turn =>
        clear inv9 hints9
        intro nw v s9 hv inv9
        obtain ⟨n, tn, rfl⟩ := hv
        obtain ⟨g, m, da, x, y, z, o, o', ps, i⟩ := inv9
        obtain ⟨⟨tx, ty, tz, k, rfl⟩, ⟨ux, uy, uz, k', rfl⟩⟩ := And.intro (isLs3 i.od) (isLs3 i.of)
        obtain ⟨B, F, X, T, mf, md, N, _, _, hps, G, hos, df, dP, dn, fP, fn, Pn, ax, ay, az, lx, ly, lz⟩ := i
        have hm9 : m = fun y => if y = Str.ofString "facts" then some (Value.ref fl) else if y = Str.ofString "due" then some (Value.ref da) else m y := by
          funext y
          by_cases h : y = Str.ofString "facts"
          · rw [if_pos h, h, mf]
          · rw [if_neg h]
            by_cases h : y = Str.ofString "due"
            · rw [if_pos h, h, md]
            · rw [if_neg h]
        rw [hm9] at F
        clear hm9 mf md
        obtain ⟨hp, gn, ds, tk, os9⟩ := s9
        dsimp only at F N G hos
        subst hos
        k_steps
        refine C_execs_cons (C_any ?_)
        k_steps
        unfold Halt
        k_dflt (refine' ct_due ?b1 ?b2 ?b3 ?b4 ?b5 ?b6 ?b7 ?b8 lx ly lz ?_)
        case b1 => k_asm
        case b2 => k_asm
        case b3 => k_asm
        case b4 => k_asm
        case b5 => k_asm
        case b6 => exact rfl
        case b7 => ktr_room
        case b8 => ktr_units
        intro r9 o9 h9 tk9 hi9 F9 N9 ap9
        obtain ⟨x', y', z', hd9, lx', ly', lz'⟩ := dueL3 x y z n
        have ha9 := hAL x y z n ax ay az lx ly lz
        rw [hd9] at hi9 ha9
        have ax' : Asc x' := ha9 x' (by simp)
        have ay' : Asc y' := ha9 y' (by simp)
        have az' : Asc z' := ha9 z' (by simp)
        clear ha9
        obtain ⟨vx, vy, vz, k9, rfl⟩ := isLs3 hi9
        k_steps
        refine C_execs_one (C_If (C_Or2 (C_Not (C_isTrueCall (C_CallName ?_)))))
        k_steps
        refine C_callWith (K := hd.heap_39 w.params) (by k_is) (C_any ?_)
        k_steps
        rename News _ _ _ _ => N7
        refine' cs_deed (P := 59) (ps := ps) (news := (r9, listOf [Value.str x' vx, .str y' vy, .str z' vz].toArray k9) :: (da, listOf [Value.str x tx, .str y ty, .str z tz].toArray k) :: nw) ?b1 ?b2 ?b3 ?b4 ?b5 ?b6 ?b7 ?b8 X8 T8 ?c1 G C8 hps fP ?c2 ?c3 hIL splitLaw hPL hPl ax ay az lx ly lz ?_
        case b1 => k_asm
        case b2 => k_asm
        case b3 => k_asm
        case b4 =>
          exact newsSub N7 (fun p hp => by
            rcases List.mem_cons.mp hp with rfl | hp
            · exact (by repeat (first | exact List.Mem.head _ | apply List.Mem.tail))
            rcases List.mem_cons.mp hp with rfl | hp
            · exact (by repeat (first | exact List.Mem.head _ | apply List.Mem.tail))
            rcases List.mem_cons.mp hp with rfl | hp
            · exact (by repeat (first | exact List.Mem.head _ | apply List.Mem.tail))
            rcases List.mem_cons.mp hp with rfl | hp
            · exact (by repeat (first | exact List.Mem.head _ | apply List.Mem.tail))
            · exact List.Mem.tail _ (List.Mem.tail _ (List.Mem.tail _ (List.Mem.tail _ hp))))
        case b5 => k_asm
        case b6 => exact rfl
        case b7 => ktr_room
        case b8 => ktr_units
        case c1 => intro b hb; cases hb
        case c2 =>
          intro q hq
          rcases List.mem_cons.mp hq with rfl | hq
          · exact fun e => ap9 (fl, _) (List.Mem.tail _ (List.Mem.head _)) e.symm
          rcases List.mem_cons.mp hq with rfl | hq
          · exact df
          · exact fn q hq
        case c3 =>
          intro q hq
          rcases List.mem_cons.mp hq with rfl | hq
          · exact fun e => ap9 (59, _) (List.Mem.tail _ (List.Mem.tail _ (List.Mem.head _))) e.symm
          rcases List.mem_cons.mp hq with rfl | hq
          · exact dP
          · exact Pn q hq
        intro o8 g8 s8 ps8 hi8 hT8 F8 N8 hps8 G8 ho8 B8 X8' T8' D8
        rw [hd9] at hi8
        obtain ⟨wx, wy, wz, k8, rfl⟩ := isLs3 hi8
        obtain ⟨hp8, gn8, ds8, tk8, os8⟩ := s8
        dsimp only at F8 N8 G8 ho8
        k_steps
        refine C_any ?_
        k_steps
        refine' ne3 (N8 (fl, _) (List.Mem.head _)).1 (N8 (r9, _) (List.Mem.tail _ (List.Mem.tail _ (List.Mem.head _)))).1 (strOk_asc ax') (strOk_asc ay') (strOk_asc az') ?e3 ?_
        case e3 => ktr_units
        k_steps
        refine C_any (wpAny_execs_nil ?_)
        refine ⟨rfl, g8, _, r9, x', y', z', _, _, ps8, { B := B8, F := F8, X := X8', T := T8', mf := rfl, md := rfl, N := newsSub N8 ?_, od := hi9, of := hi8, hps := hps8, G := G8, hos := ho8, df := fun e => ap9 (fl, _) (List.Mem.tail _ (List.Mem.head _)) e.symm, dP := fun e => ap9 (59, _) (List.Mem.tail _ (List.Mem.tail _ (List.Mem.head _))) e.symm, dn := fun q hq => ap9 q (List.Mem.tail _ (List.Mem.tail _ (List.Mem.tail _ hq))), fP := fP, fn := fn, Pn := Pn, ax := ax', ay := ay', az := az', lx := lx', ly := ly', lz := lz' }⟩
        intro p hp
        rcases List.mem_cons.mp hp with rfl | hp
        · exact (by repeat (first | exact List.Mem.head _ | apply List.Mem.tail))
        rcases List.mem_cons.mp hp with rfl | hp
        · exact (by repeat (first | exact List.Mem.head _ | apply List.Mem.tail))
        rcases List.mem_cons.mp hp with rfl | hp
        · exact (by repeat (first | exact List.Mem.head _ | apply List.Mem.tail))
        · exact List.Mem.tail _ (List.Mem.tail _ (List.Mem.tail _ (List.Mem.tail _ hp)))
      case done =>
        clear inv9 hints9
        intro nw s9 inv9
        obtain ⟨g, m, da, x, y, z, o, o', ps, i⟩ := inv9
        obtain ⟨⟨tx, ty, tz, k, rfl⟩, ⟨ux, uy, uz, k', rfl⟩⟩ := And.intro (isLs3 i.od) (isLs3 i.of)
        obtain ⟨B, F, X, T, mf, md, N, _, _, hps, G, hos, df, dP, dn, fP, fn, Pn, ax, ay, az, lx, ly, lz⟩ := i
        have hm9 : m = fun y => if y = Str.ofString "facts" then some (Value.ref fl) else if y = Str.ofString "due" then some (Value.ref da) else m y := by
          funext y
          by_cases h : y = Str.ofString "facts"
          · rw [if_pos h, h, mf]
          · rw [if_neg h]
            by_cases h : y = Str.ofString "due"
            · rw [if_pos h, h, md]
            · rw [if_neg h]
        rw [hm9] at F
        clear hm9 mf md
        obtain ⟨hp, gn, ds, tk, os9⟩ := s9
        dsimp only at F N G hos
        subst hos
        dsimp only
        have D : KtsDicts (fsOf []) g := by intro b hb; cases hb
        refine C_execs_one (C_Return (C_Compare1 (C_CallName ?_)))
        k_steps
        refine C_callWith_K (K := hd.heap_39 w.params) (by k_is) ?_ (by rfl)
        refine C_arg (C_any ?_) (by rfl)
        k_steps
        refine C_argStar (C_CallName ?_) (by rfl)
        k_steps
        refine C_callWith (K := hd.heap_39 w.params) (by k_is) (C_any ?_)
        k_steps
        refine' cs_call_sal (outer := []) ?b1 ?b2 ?b3 ?b4 ?b5 ?b6 ?b7 ?b8 X8 T8 D hIL splitLaw hPL ay lx ly lz ?_
        case b1 => k_asm
        case b2 => k_asm
        case b3 => k_asm
        case b4 => k_asm
        case b5 => k_asm
        case b6 => exact rfl
        case b7 => ktr_room
        case b8 => ktr_units
        clear B X T D
        intro r8 ta8 tb8 tc8 g8 h8 tk8 hT8 F8 N8 lt8 B8 X8' T8' D8
        obtain ⟨⟨aa1, aa2, aa3⟩, al1, al2, al3⟩ := hAA x y z ax ay az lx ly lz
        k_steps
        rename Fr g8 _ _ _ => F7
        rename News g8 _ _ _ => N7
        refine C_argNil ⟨X8'.keeps F7.keep, ?_⟩
        refine C_any ?_
        have N6 := newsSub (nw' := (59, tabObj ps) :: (r8, tup3 (aliasF x y z) ta8 tb8 tc8) :: (da, listOf [Value.str x tx, .str y ty, .str z tz].toArray k) :: (fl, listOf [Value.str x ux, .str y uy, .str z uz].toArray k') :: nw) N7 (fun p hp => by
          rcases List.mem_cons.mp hp with rfl | hp
          · exact (by repeat (first | exact List.Mem.head _ | apply List.Mem.tail))
          rcases List.mem_cons.mp hp with rfl | hp
          · exact (by repeat (first | exact List.Mem.head _ | apply List.Mem.tail))
          rcases List.mem_cons.mp hp with rfl | hp
          · exact (by repeat (first | exact List.Mem.head _ | apply List.Mem.tail))
          rcases List.mem_cons.mp hp with rfl | hp
          · exact (by repeat (first | exact List.Mem.head _ | apply List.Mem.tail))
          · exact List.Mem.tail _ (List.Mem.tail _ (List.Mem.tail _ (List.Mem.tail _ hp))))
        clear N7
        refine' ct_call_plat (P := 59) (ps := ps) (news := (r8, tup3 (aliasF x y z) ta8 tb8 tc8) :: (da, listOf [Value.str x tx, .str y ty, .str z tz].toArray k) :: (fl, listOf [Value.str x ux, .str y uy, .str z uz].toArray k') :: nw) ?b1 ?b2 ?b3 ?b4 ?b5 ?b6 ?b7 ?b8 G (CodeHd.keeps C8 B8.stays) hps ?c1 al1 al2 al3 ?_
        case b1 => k_asm
        case b2 => k_asm
        case b3 => k_asm
        case b4 => k_asm
        case b5 => k_asm
        case b6 => exact rfl
        case b7 => ktr_room
        case b8 => ktr_units
        case c1 =>
          intro q hq
          rcases List.mem_cons.mp hq with rfl | hq
          · exact Ne.symm (Nat.ne_of_lt (lt8 (59, tabObj ps) (by repeat (first | exact List.Mem.head _ | apply List.Mem.tail))))
          rcases List.mem_cons.mp hq with rfl | hq
          · exact dP
          rcases List.mem_cons.mp hq with rfl | hq
          · exact fP
          · exact Pn q hq
        clear N6
        intro rn tn s7 ps7 hp7 hl7 F7 N7 hps7 G7 ho7
        have hrn := hPl _ _ _ _ aa1 aa2 aa3 hp7
        subst hrn
        obtain ⟨hp6, gn6, ds6, tk6, os6⟩ := s7
        dsimp only at F7 N7 G7 ho7
        clear hp7
        k_steps
        unfold Halt
        k_dflt (refine' ct_alias ?b1 ?b2 ?b3 ?b4 ?b5 ?b6 ?b7 ?b8 ?b9 lx ly lz ?_)
        case b1 => k_asm
        case b2 => k_asm
        case b3 => k_asm
        case b4 => k_asm
        case b5 => k_asm
        case b6 => exact rfl
        case b7 => ktr_room
        case b8 => ktr_units
        case b9 => exact (by repeat (first | exact List.Mem.head _ | apply List.Mem.tail))
        intro r5 o5 h5 tk5 hi5 F5 N5 lt5
        obtain ⟨ta9, tb9, tc9, n9, rfl⟩ := hi5
        k_steps
        unfold Halt
        k_dflt (refine' ct_lname ?b1 ?b2 ?b3 ?b4 ?b5 ?b6 ?b7 ?b8 ?b9 al1 al2 al3 ?_)
        case b1 => k_asm
        case b2 => k_asm
        case b3 => k_asm
        case b4 => k_asm
        case b5 => k_asm
        case b6 => exact rfl
        case b7 => ktr_room
        case b8 => ktr_units
        case b9 => exact (by repeat (first | exact List.Mem.head _ | apply List.Mem.tail))
        intro t4 h4 tk4 F4 N4
        k_steps
        exact ⟨by rw [beq_self_eq_true], fun b o e => F4.keep b o (B8.stays b o e), ⟨ps7, (N4 (59, tabObj ps7) (List.Mem.tail _ (List.Mem.head _))).1⟩, G7, ho7⟩
end Mine
end
section
open PySem PySem.W PyProof.Rows
theorem Mine.cut_NTop : True ∧ True := by
  w_top off
  walk1
  all_goals exact True.intro
end

/- NLaw2 -/
section
open PySem PySem.W PyProof.Rows PySem.Calls
namespace Mine
theorem dot_is : Str.ofString "." = ⟨#[46]⟩ := by decide +kernel
theorem join_cons2 (y a b : Str) (l : List Str) : (Str.join y (a :: b :: l)).cps.toList = a.cps.toList ++ (y.cps.toList ++ (Str.join y (b :: l)).cps.toList) := by
  show ((a ++ y ++ Str.join y (b :: l)) : Str).cps.toList = _
  show ((a.cps ++ y.cps) ++ (Str.join y (b :: l)).cps).toList = _
  rw [Array.toList_append, Array.toList_append, List.append_assoc]
theorem emp_list : (Str.empty).cps.toList = [] := rfl
theorem partLaw : PartLaw := by
  intro y b rs h
  have hj := StrLaws.join_split y (Str.ofString ".")
  have hfree := StrLaws.split_free y 46
  rw [← dot_is, h] at hfree
  rw [h] at hj
  have hb : 46 ∉ b.cps.toList := hfree b (List.mem_cons_self ..)
  have ed : (Str.ofString ".").cps.toList = [46] := by decide +kernel
  have el : (Str.ofString ".").length = 1 := by decide +kernel
  unfold Txt.partition
  rcases StrLaws.occ_head y (Str.ofString ".") 1 (Nat.le_refl 1) with ⟨h0, hn⟩ | ⟨i, r, h0, hA, hn⟩
  · rw [h0]
    dsimp only
    cases rs with
    | nil =>
      have e : b = y := hj
      subst e
      refine ⟨rfl, str_ext (by rw [cps_toList_append, cps_toList_append, emp_list]; simp), fun d => ?_⟩
      unfold Txt.join
      rw [StrLaws.glued_eq_join]
      exact str_ext (by rw [cps_toList_append, cps_toList_append, emp_list]; simp [Str.join])
    | cons c rs =>
      exfalso
      refine hn b.length ?_
      rw [dot_is]
      refine (StrLaws.subAt_one y 46 b.length).mpr ?_
      rw [← hj, join_cons2, ed]
      have hl : b.cps.toList.length = b.length := by simp [Str.length]
      rw [← hl]
      simp
  · rw [h0]
    dsimp only
    have hi : y.cps.toList[i]? = some 46 := by
      rw [dot_is] at hA
      exact (StrLaws.subAt_one y 46 i).mp hA
    cases rs with
    | nil =>
      exfalso
      have e : b = y := hj
      subst e
      exact hb (List.mem_of_getElem? hi)
    | cons c rs =>
      have hy : y.cps.toList = b.cps.toList ++ (46 :: (Str.join (Str.ofString ".") (c :: rs)).cps.toList) := by
        rw [← hj, join_cons2, ed]; rfl
      have hl : b.cps.toList.length = b.length := by simp [Str.length]
      have hyl : y.cps.toList.length = y.length := by simp [Str.length]
      have hib : i = b.length := by
        rcases Nat.lt_trichotomy i b.length with hlt | he | hgt
        · exfalso
          rw [hy, List.getElem?_append_left (by omega)] at hi
          exact hb (List.mem_of_getElem? hi)
        · exact he
        · exfalso
          refine hn b.length hgt ?_
          rw [dot_is]
          refine (StrLaws.subAt_one y 46 b.length).mpr ?_
          rw [hy, ← hl]
          simp
      have e1 : (Builtin.Str.strSub y 0 i).cps.toList = b.cps.toList := by
        rw [StrLaws.strSub_toList, hy, hib, ← hl]
        simp
      have e2 : (Builtin.Str.strSub y (i + (Str.ofString ".").length) y.length).cps.toList = (Str.join (Str.ofString ".") (c :: rs)).cps.toList := by
        rw [StrLaws.strSub_toList, el, hib, ← hyl, hy, ← hl]
        have e3 : List.drop (b.cps.toList.length + 1) (b.cps.toList ++ 46 :: (Str.join (Str.ofString ".") (c :: rs)).cps.toList) = (Str.join (Str.ofString ".") (c :: rs)).cps.toList := by
          rw [← List.drop_drop, List.drop_left]; rfl
        rw [e3]
        refine List.take_of_length_le ?_
        simp only [List.length_append, List.length_cons]
        omega
      refine ⟨str_ext e1, str_ext ?_, fun d => ?_⟩
      · rw [cps_toList_append, cps_toList_append, e2, hy, ed]; simp
      · unfold Txt.join
        rw [StrLaws.glued_eq_join]
        exact str_ext (by rw [cps_toList_append, cps_toList_append, e2, join_cons2, List.append_assoc])
end Mine
end
section
open PySem PySem.W PyProof.Rows
theorem Mine.cut_NLaw2 : True ∧ True := by
  w_top off
  walk1
  all_goals exact True.intro
end

/- NLaw3 -/
section
open PySem PySem.W PyProof.Rows PySem.Calls
namespace Mine
theorem asc_app {a b : Str} (h1 : Asc a) (h2 : Asc b) : Asc (a ++ b) := by
  intro c hc
  rw [cps_toList_append] at hc
  rcases List.mem_append.mp hc with h | h
  · exact h1 c h
  · exact h2 c h
theorem asc_lit {s : String} (h : ∀ c ∈ s.toList, 32 ≤ c.toNat ∧ c.toNat ≤ 126) : Asc (Str.ofString s) := by
  intro c hc
  rw [Str.ofString_eq_toList] at hc
  simp only [List.mem_map] at hc
  obtain ⟨d, hd, rfl⟩ := hc
  exact h d hd
theorem digit_asc {c : Char} (h : c.isDigit = true) : 32 ≤ c.toNat ∧ c.toNat ≤ 126 := by
  simp only [Char.isDigit, Bool.and_eq_true, decide_eq_true_eq] at h
  have h1 : (48 : Nat) ≤ c.toNat := h.1
  have h2 : c.toNat ≤ 57 := h.2
  omega
theorem nat_asc (n : Nat) : ∀ c ∈ (Nat.repr n).toList, 32 ≤ c.toNat ∧ c.toNat ≤ 126 := by
  intro c hc
  rw [Nat.toList_repr] at hc
  exact digit_asc (Nat.isDigit_of_mem_toDigits (by decide) (by decide) hc)
theorem int_asc (i : Int) : Asc (Str.ofString (toString i)) := by
  refine asc_lit ?_
  cases i with
  | ofNat m => exact nat_asc m
  | negSucc m =>
    intro c hc
    have e : toString (Int.negSucc m) = "-" ++ Nat.repr (m + 1) := rfl
    rw [e, String.toList_append] at hc
    rcases List.mem_append.mp hc with h | h
    · have : c = '-' := by simpa using h
      subst this
      decide
    · exact nat_asc _ c h
theorem part_asc {y : Str} (h : Asc y) : Asc (Txt.partition y (Str.ofString ".")).1 ∧ Asc (Txt.partition y (Str.ofString ".")).2.1 ∧ Asc (Txt.partition y (Str.ofString ".")).2.2 := by
  have e := StrLaws.partition_sum y (Str.ofString ".")
  refine ⟨fun c hc => h c ?_, fun c hc => h c ?_, fun c hc => h c ?_⟩ <;> rw [← e, cps_toList_append, cps_toList_append]
  · exact List.mem_append_left _ (List.mem_append_left _ hc)
  · exact List.mem_append_left _ (List.mem_append_right _ hc)
  · exact List.mem_append_right _ hc
theorem aliasLaw : AliasLaw := by
  intro x y z ax ay az hx hy hz
  have aw : Asc (Str.ofString "Windows") := by unfold Asc; decide +kernel
  have as : Asc (Str.ofString "Solaris") := by unfold Asc; decide +kernel
  have lw : (Str.ofString "Windows").length ≤ 20 := by decide +kernel
  have ls : (Str.ofString "Solaris").length ≤ 20 := by decide +kernel
  unfold aliasF
  split
  · exact ⟨⟨aw, ay, az⟩, lw, by dsimp only; omega, by dsimp only; omega⟩
  · split
    · exact ⟨⟨ax, ay, az⟩, by dsimp only; omega, by dsimp only; omega, by dsimp only; omega⟩
    · split
      · exact ⟨⟨ax, ay, az⟩, by dsimp only; omega, by dsimp only; omega, by dsimp only; omega⟩
      · obtain ⟨p1, p2, p3⟩ := part_asc ay
        have e := congrArg Str.length (StrLaws.partition_sum y (Str.ofString "."))
        rw [Str.length_append, Str.length_append] at e
        dsimp only
        refine ⟨⟨as, ?_, az⟩, ls, ?_, by omega⟩
        · refine asc_app (asc_app ?_ p2) p3
          split
          · exact int_asc _
          · exact p1
        · rw [Str.length_append, Str.length_append]
          cases hw : wholeF (Txt.partition y (Str.ofString ".")).1 with
          | none => dsimp only; omega
          | some k =>
            dsimp only
            have hb := whole_bound hw
            have h3 : (10 : Int) ^ ((Txt.partition y (Str.ofString ".")).1.length + 1) = 10 * 10 ^ (Txt.partition y (Str.ofString ".")).1.length := by rw [Int.pow_succ]; omega
            have h4 : (0 : Int) < 10 ^ (Txt.partition y (Str.ofString ".")).1.length := Int.pow_pos (by decide)
            have h5 : ((k - 3).natAbs : Int) < (10 : Int) ^ ((Txt.partition y (Str.ofString ".")).1.length + 1) := by rw [h3]; omega
            have := int_text_length_le10 (a := k - 3) (k := (Txt.partition y (Str.ofString ".")).1.length + 1) (by omega) (by exact_mod_cast h5)
            rw [PySem.ofString_length]
            omega
end Mine
end
section
open PySem PySem.W PyProof.Rows
theorem Mine.cut_NLaw3 : True ∧ True := by
  w_top off
  walk1
  all_goals exact True.intro
end

/- NLaw4 -/
section
open PySem PySem.W PyProof.Rows PySem.Calls
namespace Mine
theorem asc_sub {a b : Str} (h : Asc a) (hs : ∀ c ∈ b.cps.toList, c ∈ a.cps.toList) : Asc b := fun c hc => h c (hs c hc)
theorem asc_slice {a : Str} (l u : Option Int) (h : Asc a) : Asc (Txt.slice a l u) := asc_sub h fun c hc => by
  rw [slice_toList] at hc
  exact List.mem_of_mem_drop (List.mem_of_mem_take hc)
theorem asc_strip {a : Str} (g : Nat → Bool) (l r : Bool) (h : Asc a) : Asc (Txt.stripBy g l r a) := asc_sub h fun c hc => by
  rw [PyProof.Rows.stripBy_eq, StrLaws.strSub_toList] at hc
  exact List.mem_of_mem_drop (List.mem_of_mem_take hc)
theorem asc_join {sep : Str} (hs : Asc sep) : ∀ {l : List Str}, (∀ r ∈ l, Asc r) → Asc (Str.join sep l)
  | [], _ => fun c hc => nomatch hc
  | [a], h => by simpa [Str.join] using h a (by simp)
  | a :: b :: l, h => by
    intro c hc
    rw [join_cons2] at hc
    rcases List.mem_append.mp hc with hc | hc
    · exact h a (by simp) c hc
    rcases List.mem_append.mp hc with hc | hc
    · exact hs c hc
    · exact asc_join hs (l := b :: l) (fun r hr => h r (List.mem_cons_of_mem _ hr)) c hc
theorem asc_joinT {sep : Str} (hs : Asc sep) {l : List Str} (h : ∀ r ∈ l, Asc r) : Asc (Txt.join sep l) := by
  unfold Txt.join
  rw [StrLaws.glued_eq_join]
  exact asc_join hs h
theorem asc_emp : Asc Str.empty := fun c hc => nomatch hc
theorem norm_asc {x y : Str} (ax : Asc x) (ay : Asc y) : Asc (normF x y) := by
  have hp : ∀ r ∈ partsF x y, Asc r := by
    intro r hr
    unfold partsF at hr
    rcases List.mem_append.mp hr with hr | hr
    · exact splitLaw x ax r hr
    · split at hr
      · cases hr
      · rw [List.mem_singleton.mp hr]; exact ay
  unfold normF
  refine asc_joinT (by unfold Asc; decide +kernel) fun r hr => ?_
  have hr := List.mem_of_mem_take hr
  split at hr
  · exact hp r hr
  · obtain ⟨q, hq, rfl⟩ := List.mem_map.mp hr
    unfold numF
    split
    · exact int_asc _
    · exact hp q hq
theorem item_asc {a : Str} (h : Asc a) (i : Nat) (hi : i < a.length) : Asc (Txt.item a (i : Int)) := asc_sub h fun c hc => by
  rw [item_at a i hi] at hc
  rw [List.mem_singleton.mp hc]
  exact List.getElem_mem _
theorem step_asc {raw out : Str} {a : Int} (hr : Asc raw) (ho : Asc out) (h0 : 0 ≤ a) (h1 : a < raw.length) : Asc (stepN raw out a).1 ∧ 0 ≤ (stepN raw out a).2 := by
  have hi : Asc (Txt.item raw a) := by
    have := item_asc hr a.toNat (by omega)
    rwa [Int.toNat_of_nonneg h0] at this
  have hd : Asc (Str.ofString "-") := by unfold Asc; decide +kernel
  have hu : Asc (Str.ofString "_") := by unfold Asc; decide +kernel
  have key : ∀ sg : Str, Asc sg → Asc (if (Txt.slice raw (some a) (some (a + 7)) == Str.ofString "unknown") = true then (out, a + 7) else if (sg == Str.ofString "-") = true ∧ (Txt.slice out (some (-1)) none == Str.ofString "-") = true then (out, a + 1) else (out ++ (if (sg == Str.ofString " ") = true then Str.ofString "_" else sg), a + 1)).1 ∧
      0 ≤ (if (Txt.slice raw (some a) (some (a + 7)) == Str.ofString "unknown") = true then (out, a + 7) else if (sg == Str.ofString "-") = true ∧ (Txt.slice out (some (-1)) none == Str.ofString "-") = true then (out, a + 1) else (out ++ (if (sg == Str.ofString " ") = true then Str.ofString "_" else sg), a + 1)).2 := by
    intro sg hs
    split
    · exact ⟨ho, by dsimp only; omega⟩
    · split
      · exact ⟨ho, by dsimp only; omega⟩
      · refine ⟨asc_app ho ?_, by dsimp only; omega⟩
        split
        · exact hu
        · exact hs
  unfold stepN
  refine key _ ?_
  split
  · exact hi
  · exact hd
theorem run_asc {raw : Str} (hr : Asc raw) : ∀ (k : Nat) (out : Str) (a : Int), Asc out → 0 ≤ a → Asc (runN raw k out a)
  | 0, out, a, ho, _ => by rw [runN]; exact ho
  | k + 1, out, a, ho, h0 => by
    rw [runN]
    split
    · rename_i h1
      have z := step_asc hr ho h0 h1
      exact run_asc hr k _ _ z.1 z.2
    · exact ho
theorem name_asc {x y z : Str} (ax : Asc x) (ay : Asc y) (az : Asc z) : Asc (nameF x y z) := by
  have hf : ∀ r ∈ factsF x y z, Asc r := by
    intro r hr
    unfold factsF at hr
    obtain ⟨q, hq, rfl⟩ := List.mem_map.mp hr
    have hq := (List.mem_filter.mp hq).1
    simp only [List.mem_cons, List.not_mem_nil, or_false] at hq
    unfold Txt.stripChars
    rcases hq with rfl | rfl | rfl
    · exact asc_strip _ _ _ ax
    · exact asc_strip _ _ _ ay
    · exact asc_strip _ _ _ az
  have ho : Asc (nameRaw (Txt.join (Str.ofString "-") (factsF x y z))) := by
    unfold nameRaw
    exact run_asc (asc_joinT (by unfold Asc; decide +kernel) hf) _ _ _ asc_emp (Int.le_refl _)
  unfold nameF
  dsimp only
  split
  · exact asc_slice _ _ ho
  · exact ho
theorem texts_asc : ∀ r ∈ textsL, Asc r := by unfold Asc; decide +kernel
theorem pieces_asc : ∀ r ∈ piecesL, Asc r := by unfold Asc; decide +kernel
theorem itemL_asc {fs : List Str} (h : ∀ r ∈ fs, Asc r) (i : Int) : Asc (itemL fs i) := by
  unfold itemL
  rw [List.getD_eq_getElem?_getD]
  cases e : fs[i.toNat]? with
  | none => exact asc_emp
  | some r => exact h r (List.mem_of_getElem? e)
theorem ascLaw : AscLaw := by
  intro x y z n ax ay az hx hy hz r hr
  have h3 : ∀ r ∈ [x, y, z], Asc r := by
    intro r hr
    simp only [List.mem_cons, List.not_mem_nil, or_false] at hr
    rcases hr with rfl | rfl | rfl <;> assumption
  have hset : ∀ (k : Nat) (v : Str), Asc v → ∀ r ∈ [x, y, z].set k v, Asc r := by
    intro k v hv r hr
    rcases List.mem_or_eq_of_mem_set hr with h | rfl
    · exact h3 r h
    · exact hv
  have hout : ∀ r ∈ outL x y z n, Asc r := by
    unfold outL
    split
    · have h := (aliasLaw x y z ax ay az hx hy hz).1
      intro r hr
      simp only [List.mem_cons, List.not_mem_nil, or_false] at hr
      rcases hr with rfl | rfl | rfl
      · exact h.1
      · exact h.2.1
      · exact h.2.2
    split
    · exact hset _ _ (norm_asc (itemL_asc h3 _) (itemL_asc h3 _))
    split
    · exact hset _ _ (norm_asc (itemL_asc h3 _) (by unfold Asc; decide +kernel))
    split
    · exact hset _ _ (name_asc ax ay az)
    split
    · exact hset _ _ (itemL_asc texts_asc _)
    split
    · exact hset _ _ (asc_app (itemL_asc h3 _) (itemL_asc pieces_asc _))
    split
    · intro r hr
      refine h3 r ?_
      simp only [List.mem_cons, List.not_mem_nil, or_false] at hr ⊢
      rcases hr with rfl | rfl | rfl <;> simp
    · exact h3
  unfold dueL at hr
  obtain ⟨q, hq, rfl⟩ := List.mem_map.mp hr
  exact asc_slice _ _ (hout q hq)
end Mine
end
section
open PySem PySem.W PyProof.Rows
theorem Mine.cut_NLaw4 : True ∧ True := by
  w_top off
  walk1
  all_goals exact True.intro
end

/- NLaw5 -/
section
open PySem PySem.W PyProof.Rows PySem.Calls
namespace Mine
open PySem.Builtin PySem.Builtin.Str
/-! the replacements of one sign -/
def rep (c d a : Nat) : Nat := if a = c then d else a
theorem rep_free {c d : Nat} : ∀ {l : List Nat}, c ∉ l → l.map (rep c d) = l
  | [], _ => rfl
  | a :: l, h => by
    rw [List.map_cons, rep_free (l := l) fun q => h (List.mem_cons_of_mem _ q)]
    have : a ≠ c := fun e => h (by rw [e]; exact List.mem_cons_self ..)
    rw [rep, if_neg this]
theorem join_rep (c d : Nat) : ∀ (l : List Str), (∀ p ∈ l, c ∉ p.cps.toList) → (Str.join ⟨#[d]⟩ l).cps.toList = (Str.join ⟨#[c]⟩ l).cps.toList.map (rep c d)
  | [], _ => rfl
  | [a], h => by simp only [Str.join]; rw [rep_free (h a (by simp))]
  | a :: b :: l, h => by
    rw [join_cons2, join_cons2, List.map_append, List.map_append, rep_free (h a (by simp)), join_rep c d (b :: l) fun p hp => h p (List.mem_cons_of_mem _ hp)]
    have : ([c] : List Nat).map (rep c d) = [d] := by simp [rep]
    show _ ++ ([d] ++ _) = _ ++ (([c] : List Nat).map (rep c d) ++ _)
    rw [this]
theorem repl1 (x : Str) (c d : Nat) : (Txt.replace x ⟨#[c]⟩ ⟨#[d]⟩).cps.toList = x.cps.toList.map (rep c d) := by
  have hj := StrLaws.join_split x ⟨#[c]⟩
  rw [StrLaws.replace_one, join_rep c d _ (StrLaws.split_free x c), hj]
def fc (a : Nat) : Nat := rep 41 45 (rep 40 45 (rep 34 45 (rep 59 45 (rep 58 45 (rep 92 45 (rep 47 45 (rep 32 95 a)))))))
theorem fc_eq (a : Nat) : fc a = if a = 32 then 95 else if a = 47 ∨ a = 92 ∨ a = 58 ∨ a = 59 ∨ a = 34 ∨ a = 40 ∨ a = 41 then 45 else a := by
  by_cases h1 : a = 32
  · subst h1; rfl
  by_cases h2 : a = 47
  · subst h2; rfl
  by_cases h3 : a = 92
  · subst h3; rfl
  by_cases h4 : a = 58
  · subst h4; rfl
  by_cases h5 : a = 59
  · subst h5; rfl
  by_cases h6 : a = 34
  · subst h6; rfl
  by_cases h7 : a = 40
  · subst h7; rfl
  by_cases h8 : a = 41
  · subst h8; rfl
  simp only [fc, rep, h1, h2, h3, h4, h5, h6, h7, h8, if_false, or_self]
/-! the word taken out -/
def unk : List Nat := [117, 110, 107, 110, 111, 119, 110]
def rmS : Nat → List Nat → List Nat
  | _, [] => []
  | 0, c :: t => if (c :: t).take 7 = unk then rmS 6 t else c :: rmS 0 t
  | k + 1, _ :: t => rmS k t
theorem rmS_drop : ∀ (k : Nat) (l : List Nat), rmS k l = rmS 0 (l.drop k)
  | 0, l => by rw [List.drop_zero]
  | k + 1, [] => by simp [rmS]
  | k + 1, c :: t => by rw [rmS, rmS_drop k t, List.drop_succ_cons]
theorem rm_at {l : List Nat} (h : l.take 7 = unk) : rmS 0 l = rmS 0 (l.drop 7) := by
  cases l with
  | nil => simp [unk] at h
  | cons c t => rw [rmS, if_pos h, rmS_drop 6 t, List.drop_succ_cons]
theorem unk_list : (Str.ofString "unknown").cps.toList = unk := by decide +kernel
theorem unk_len : (Str.ofString "unknown").length = 7 := by decide +kernel
theorem at_unk (x : Str) (k : Nat) : StrLaws.At x (Str.ofString "unknown") x.length k ↔ (x.cps.toList.drop k).take 7 = unk := by
  unfold StrLaws.At
  rw [StrLaws.subAt_eq, unk_len, unk_list, beq_iff_eq]
  constructor
  · exact fun h => h.2
  · intro h
    refine ⟨?_, h⟩
    have := congrArg List.length h
    rw [List.length_take, List.length_drop, len_list] at this
    have e : unk.length = 7 := rfl
    omega
theorem rm_gap (l : List Nat) (c : Nat) (hc : c ≤ l.length) : ∀ (n a : Nat), a + n = c → (∀ k, a ≤ k → k < c → ¬ (l.drop k).take 7 = unk) → rmS 0 (l.drop a) = (l.drop a).take n ++ rmS 0 (l.drop c)
  | 0, a, h, _ => by
    have : a = c := by omega
    subst this; simp
  | n + 1, a, h, hn => by
    have ih := rm_gap l c hc n (a + 1) (by omega) fun k h1 h2 => hn k (by omega) h2
    have h0 := hn a (Nat.le_refl _) (by omega)
    have e : l.drop a = l[a]'(by omega) :: l.drop (a + 1) := List.drop_eq_getElem_cons (by omega)
    rw [e] at h0 ⊢
    rw [rmS, if_neg h0, ih]
    rfl
theorem join_nil_list : ∀ (l : List Str), (Str.join ⟨#[]⟩ l).cps.toList = (l.map fun p => p.cps.toList).flatten
  | [] => rfl
  | [a] => by simp [Str.join]
  | a :: b :: l => by rw [join_cons2, join_nil_list (b :: l)]; simp
theorem chain_rm (x : Str) : ∀ (cuts : List Nat) (a f : Nat), a ≤ x.length → StrLaws.ChainG x (Str.ofString "unknown") x.length a cuts f → (∀ k, f ≤ k → ¬ StrLaws.At x (Str.ofString "unknown") x.length k) →
    ((StrLaws.partsFrom x 7 a cuts).map fun p => p.cps.toList).flatten = rmS 0 (x.cps.toList.drop a)
  | [], a, f, ha, h, hn => by
    have e : f = a := h
    subst e
    have hl := len_list x
    have g := rm_gap x.cps.toList x.length (by omega) (x.length - f) f (by omega) fun k h1 _ q => hn k h1 ((at_unk x k).mpr q)
    rw [g, StrLaws.partsFrom]
    have e2 : x.cps.toList.drop x.length = [] := List.drop_eq_nil_of_le (by omega)
    rw [e2]
    simp [StrLaws.strSub_toList, rmS]
  | c :: r, a, f, ha, h, hn => by
    obtain ⟨h1, h2, h3, h4⟩ := h
    have hl := len_list x
    have hc := h2.1
    rw [unk_len] at hc h4
    have g := rm_gap x.cps.toList c (by omega) (c - a) a (by omega) fun k k1 k2 q => h3 k k1 k2 ((at_unk x k).mpr q)
    have ih := chain_rm x r (c + 7) f (by omega) h4 hn
    rw [g, rm_at ((at_unk x c).mp h2), List.drop_drop, ← ih, StrLaws.partsFrom]
    simp [StrLaws.strSub_toList]
theorem rm_unk (x : Str) : (Txt.replace x (Str.ofString "unknown") (Str.ofString "")).cps.toList = rmS 0 x.cps.toList := by
  obtain ⟨f, hG, hn⟩ := StrLaws.occ_tight x (Str.ofString "unknown") (by rw [unk_len]; decide)
  have key := chain_rm x _ 0 f (Nat.zero_le _) hG hn
  rw [List.drop_zero] at key
  have e0 : Str.ofString "" = ⟨#[]⟩ := by decide +kernel
  unfold Txt.replace
  split
  · rename_i hc
    rw [unk_len] at hc
    simp only [Bool.or_eq_true, List.isEmpty_iff, Bool.and_eq_true, beq_iff_eq] at hc
    rcases hc with hc | hc
    · rw [← key, hc, StrLaws.partsFrom]
      simp [StrLaws.strSub_toList]
      exact (List.take_of_length_le (Nat.le_of_eq (len_list x))).symm
    · exact absurd hc.1 (by decide)
  · rw [StrLaws.glued_eq_join, e0, join_nil_list, StrLaws.partsBetween_eq, unk_len]
    exact key
/-! hyphens beside each other -/
def app (out : List Nat) (c : Nat) : List Nat := if c = 45 ∧ out.getLast? = some 45 then out else out ++ [c]
theorem app_twice (o : List Nat) : app (app o 45) 45 = app o 45 := by
  by_cases h : o.getLast? = some 45
  · have e : app o 45 = o := by rw [app, if_pos ⟨rfl, h⟩]
    rw [e, e]
  · have e : app o 45 = o ++ [45] := by rw [app, if_neg fun q => h q.2]
    rw [e, app, if_pos ⟨rfl, by simp⟩]
theorem dd_list : (Str.ofString "--").cps.toList = [45, 45] := by decide +kernel
theorem fold_dd : ∀ (l : List Str) (o : List Nat), (Str.join (Str.ofString "--") l).cps.toList.foldl app o = (Str.join (Str.ofString "-") l).cps.toList.foldl app o
  | [], _ => rfl
  | [a], _ => rfl
  | a :: b :: l, o => by
    rw [join_cons2, join_cons2, dd_list, dash_list]
    simp only [List.foldl_append, List.foldl_cons, List.foldl_nil, app_twice]
    exact fold_dd (b :: l) _
theorem fold_ddF (p : Str) (o : List Nat) : (ddF p).cps.toList.foldl app o = p.cps.toList.foldl app o := by
  unfold ddF Txt.replace
  split
  · rfl
  · have h := StrLaws.glued_between_self p (Str.ofString "--") (p.length + 1)
    rw [StrLaws.glued_eq_join] at h ⊢
    rw [← fold_dd, h]
theorem fold_inv {d e : Str} (h : DashInv d e) : e.cps.toList.foldl app [] = d.cps.toList.foldl app [] := by
  obtain ⟨k, rfl⟩ := h.out
  induction k with
  | zero => rfl
  | succ k ih =>
    show (ddF (Nat.repeat ddF k d)).cps.toList.foldl app [] = _
    rw [fold_ddF]
    exact ih ⟨k, rfl⟩
/-- no two hyphens beside each other -/
def NoDD : List Nat → Prop
  | [] => True
  | [_] => True
  | a :: b :: l => ¬ (a = 45 ∧ b = 45) ∧ NoDD (b :: l)
theorem noDD_of : ∀ (l : List Nat), (∀ k, (l.drop k).take 2 ≠ [45, 45]) → NoDD l
  | [], _ => True.intro
  | [_], _ => True.intro
  | a :: b :: l, h => ⟨fun q => h 0 (by simp [q.1, q.2]), noDD_of (b :: l) fun k => by have := h (k + 1); simpa using this⟩
theorem fix_noDD {e : Str} (h : FixIs e) : NoDD e.cps.toList := by
  refine noDD_of _ fun k hk => ?_
  have e2 : (Str.ofString "--").length = 2 := by decide +kernel
  have e1 : (Str.ofString "-").length = 1 := by decide +kernel
  have hA : StrLaws.At e (Str.ofString "--") e.length k := by
    unfold StrLaws.At
    rw [StrLaws.subAt_eq, e2, dd_list, beq_iff_eq]
    refine ⟨?_, hk⟩
    have := congrArg List.length hk
    rw [List.length_take, List.length_drop, len_list] at this
    simp only [List.length_cons, List.length_nil] at this
    omega
  have hne : occurrences e (Str.ofString "--") 0 e.length (e.length + 1) ≠ [] := by
    rcases StrLaws.occ_head e (Str.ofString "--") (e.length + 1) (by omega) with ⟨_, hn⟩ | ⟨i, r, h0, _⟩
    · exact absurd hA (hn k)
    · rw [h0]; exact List.cons_ne_nil _ _
  have ho := h.out
  unfold ddF Txt.replace at ho
  rw [if_neg] at ho
  · have h1 := congrArg Str.length (StrLaws.glued_between_self e (Str.ofString "--") (e.length + 1))
    have h2 := congrArg Str.length ho
    rw [PySem.size_glued, PySem.length_partsBetween, e2] at h1
    rw [PySem.size_glued, PySem.length_partsBetween, e2, e1] at h2
    have h3 : 0 < (occurrences e (Str.ofString "--") 0 e.length (e.length + 1)).length := List.length_pos_iff.mpr hne
    omega
  · intro hc
    rw [e2] at hc
    simp only [Bool.or_eq_true, List.isEmpty_iff, Bool.and_eq_true, beq_iff_eq] at hc
    rcases hc with hc | hc
    · exact hne hc
    · exact absurd hc.1 (by decide)
theorem noDD_fold : ∀ (l o : List Nat), NoDD l → ¬ (o.getLast? = some 45 ∧ l.head? = some 45) → l.foldl app o = o ++ l
  | [], o, _, _ => by simp
  | [a], o, _, hj => by
    have : ¬ (a = 45 ∧ o.getLast? = some 45) := fun q => hj ⟨q.2, by simp [q.1]⟩
    simp only [List.foldl_cons, List.foldl_nil, app, if_neg this]
  | a :: b :: l, o, h, hj => by
    have h1 : ¬ (a = 45 ∧ o.getLast? = some 45) := fun q => hj ⟨q.2, by simp [q.1]⟩
    rw [List.foldl_cons, app, if_neg h1, noDD_fold (b :: l) (o ++ [a]) h.2 (fun q => h.1 ⟨by simpa using q.1, by simpa using q.2⟩)]
    simp
theorem fold_self {e : Str} (h : FixIs e) : e.cps.toList.foldl app [] = e.cps.toList := by
  have := noDD_fold e.cps.toList [] (fix_noDD h) (fun q => by simp at q)
  simpa using this
end Mine
end
section
open PySem PySem.W PyProof.Rows
theorem Mine.cut_NLaw5 : True ∧ True := by
  w_top off
  walk1
  all_goals exact True.intro
end

/- NLaw6 -/
section
open PySem PySem.W PyProof.Rows PySem.Calls
namespace Mine
open PySem.Builtin PySem.Builtin.Str
theorem fc_unk (b u : Nat) (hu : u ∈ unk) : fc b = u ↔ b = u := by
  rw [fc_eq]
  have h : u ≠ 95 ∧ u ≠ 45 ∧ u ≠ 32 ∧ u ≠ 47 ∧ u ≠ 92 ∧ u ≠ 58 ∧ u ≠ 59 ∧ u ≠ 34 ∧ u ≠ 40 ∧ u ≠ 41 := by
    simp only [unk, List.mem_cons, List.not_mem_nil, or_false] at hu
    rcases hu with rfl | rfl | rfl | rfl | rfl | rfl | rfl <;> decide
  constructor
  · intro e
    split at e
    · omega
    · split at e
      · omega
      · exact e
  · rintro rfl
    rw [if_neg (by omega), if_neg (by omega)]
theorem map_fc_eq : ∀ (l us : List Nat), (∀ u ∈ us, u ∈ unk) → (l.map fc = us ↔ l = us)
  | [], [], _ => by simp
  | [], _ :: _, _ => by simp
  | _ :: _, [], _ => by simp
  | b :: l, u :: us, h => by
    rw [List.map_cons, List.cons.injEq, List.cons.injEq, fc_unk b u (h u (by simp)), map_fc_eq l us fun v hv => h v (List.mem_cons_of_mem _ hv)]
theorem item_eq {raw : Str} {a : Nat} (h : a < raw.length) (c : Nat) (hc : raw.cps.toList[a]'(by rw [len_list]; exact h) = c) : Txt.item raw (a : Int) = ⟨#[c]⟩ := by
  apply str_ext
  rw [item_at raw a h, hc]
theorem beq_one (c d : Nat) : ((⟨#[c]⟩ : Str) == ⟨#[d]⟩) = decide (c = d) := by
  by_cases h : c = d
  · subst h; simp
  · rw [decide_eq_false h]
    refine beq_eq_false_iff_ne.mpr fun e => h ?_
    have := congrArg (fun s : Str => s.cps.toList) e
    simpa using this
theorem dash_is : Str.ofString "-" = ⟨#[45]⟩ := by decide +kernel
theorem blank_is : Str.ofString " " = ⟨#[32]⟩ := by decide +kernel
theorem under_is : Str.ofString "_" = ⟨#[95]⟩ := by decide +kernel
theorem marks_list : (Str.ofString "/\\:;\"()").cps.toList = [47, 92, 58, 59, 34, 40, 41] := by decide +kernel
/-- the last sign of a text -/
theorem last_is (out : Str) : (Txt.slice out (some (-1)) none == Str.ofString "-") = decide (out.cps.toList.getLast? = some 45) := by
  have e := slice_last out
  have hl := len_list out
  have key : (Txt.slice out (some (-1)) none).cps.toList = [45] ↔ out.cps.toList.getLast? = some 45 := by
    rw [e, ← hl]
    cases hn : out.cps.toList.reverse with
    | nil =>
      have : out.cps.toList = [] := List.reverse_eq_nil_iff.mp hn
      rw [this]; simp
    | cons c r =>
      have : out.cps.toList = r.reverse ++ [c] := by rw [← List.reverse_reverse out.cps.toList, hn, List.reverse_cons]
      rw [this]; simp
  by_cases h : out.cps.toList.getLast? = some 45
  · rw [decide_eq_true h]
    refine beq_iff_eq.mpr (str_ext ?_)
    rw [key.mpr h, dash_list]
  · rw [decide_eq_false h]
    refine beq_eq_false_iff_ne.mpr fun q => h (key.mp ?_)
    rw [q, dash_list]
/-- one turn, in lists -/
theorem step_unk {raw out : Str} {a : Nat} (h : (raw.cps.toList.drop a).take 7 = unk) : stepN raw out a = (out, (a : Int) + 7) := by
  unfold stepN
  dsimp only
  rw [if_pos]
  refine beq_iff_eq.mpr (str_ext ?_)
  rw [unk_list, ← h]
  exact slice_at raw a 7
theorem step_sign {raw out : Str} {a : Nat} (ha : a < raw.length) (h : ¬ (raw.cps.toList.drop a).take 7 = unk) :
    (stepN raw out a).1.cps.toList = app out.cps.toList (fc (raw.cps.toList[a]'(by rw [len_list]; exact ha))) ∧ (stepN raw out a).2 = (a : Int) + 1 := by
  have hu : ¬ (Txt.slice raw (some (a : Int)) (some ((a : Int) + 7)) == Str.ofString "unknown") = true := fun q => h (by
    have := congrArg (fun s : Str => s.cps.toList) (beq_iff_eq.mp q)
    rw [← unk_list, ← this]
    exact (slice_at raw a 7).symm)
  generalize hc : raw.cps.toList[a]'(by rw [len_list]; exact ha) = c
  have hi := item_eq ha c hc
  have hsign : (if (Builtin.Str.occurrences (Str.ofString "/\\:;\"()") (Txt.item raw (a : Int)) 0 (Str.ofString "/\\:;\"()").length 1).isEmpty = true then Txt.item raw (a : Int) else Str.ofString "-") = if c ∈ [47, 92, 58, 59, 34, 40, 41] then (⟨#[45]⟩ : Str) else ⟨#[c]⟩ := by
    rw [hi, PyProof.Rows.empty_one, marks_list, dash_is]
    by_cases hm : c ∈ [47, 92, 58, 59, 34, 40, 41]
    · rw [decide_eq_true hm, if_pos hm]; rfl
    · rw [decide_eq_false hm, if_neg hm]; rfl
  unfold stepN
  dsimp only
  rw [hsign, if_neg hu, last_is, dash_is, blank_is, under_is]
  have hmem : c ∈ [47, 92, 58, 59, 34, 40, 41] ↔ (c = 47 ∨ c = 92 ∨ c = 58 ∨ c = 59 ∨ c = 34 ∨ c = 40 ∨ c = 41) := by simp
  rw [fc_eq]
  by_cases hm : c ∈ [47, 92, 58, 59, 34, 40, 41]
  · have h32 : c ≠ 32 := by have := hmem.mp hm; omega
    rw [if_pos hm, if_neg h32, if_pos (hmem.mp hm)]
    by_cases hl : out.cps.toList.getLast? = some 45
    · rw [if_pos ⟨by simp, decide_eq_true hl⟩, app, if_pos ⟨rfl, hl⟩]
      exact ⟨rfl, rfl⟩
    · have n1 : ¬ (((⟨#[45]⟩ : Str) == ⟨#[45]⟩) = true ∧ decide (out.cps.toList.getLast? = some 45) = true) := fun q => hl (of_decide_eq_true q.2)
      have n2 : ¬ ((⟨#[45]⟩ : Str) == ⟨#[32]⟩) = true := by rw [beq_one]; decide
      have n3 : ¬ ((45 : Nat) = 45 ∧ out.cps.toList.getLast? = some 45) := fun q => hl q.2
      rw [if_neg n1, if_neg n2, app, if_neg n3]
      exact ⟨cps_toList_append _ _, rfl⟩
  · rw [if_neg hm]
    by_cases h32 : c = 32
    · subst h32
      have n1 : ¬ (((⟨#[32]⟩ : Str) == ⟨#[45]⟩) = true ∧ decide (out.cps.toList.getLast? = some 45) = true) := fun q => absurd q.1 (by rw [beq_one]; decide)
      have n2 : ((⟨#[32]⟩ : Str) == ⟨#[32]⟩) = true := by rw [beq_one]; rfl
      have n3 : ¬ ((95 : Nat) = 45 ∧ out.cps.toList.getLast? = some 45) := fun q => absurd q.1 (by decide)
      rw [if_neg n1, if_pos n2, if_pos (rfl : (32 : Nat) = 32), app, if_neg n3]
      exact ⟨cps_toList_append _ _, rfl⟩
    · rw [if_neg h32, if_neg fun q => hm (hmem.mpr q), beq_one, beq_one]
      by_cases hl : c = 45 ∧ out.cps.toList.getLast? = some 45
      · rw [if_pos ⟨decide_eq_true hl.1, decide_eq_true hl.2⟩, app, if_pos hl]
        exact ⟨rfl, rfl⟩
      · rw [if_neg fun q => hl ⟨of_decide_eq_true q.1, of_decide_eq_true q.2⟩, app, if_neg hl, if_neg (by simpa using h32)]
        exact ⟨cps_toList_append _ _, rfl⟩
theorem run_list (raw : Str) : ∀ (k : Nat) (out : Str) (a : Nat), raw.length - a ≤ k → (runN raw k out (a : Int)).cps.toList = (rmS 0 ((raw.cps.toList.drop a).map fc)).foldl app out.cps.toList
  | 0, out, a, h => by
    have hl := len_list raw
    have : raw.cps.toList.drop a = [] := List.drop_eq_nil_of_le (by omega)
    rw [runN, this]; rfl
  | k + 1, out, a, h => by
    have hl := len_list raw
    rw [runN]
    by_cases ha : a < raw.length
    · rw [if_pos (by omega)]
      have hd : raw.cps.toList.drop a = raw.cps.toList[a]'(by omega) :: raw.cps.toList.drop (a + 1) := List.drop_eq_getElem_cons (by omega)
      have hun : ((raw.cps.toList.drop a).map fc).take 7 = unk ↔ (raw.cps.toList.drop a).take 7 = unk := by
        rw [← List.map_take]; exact map_fc_eq _ _ fun _ q => q
      by_cases hu : (raw.cps.toList.drop a).take 7 = unk
      · rw [step_unk hu]
        dsimp only
        have e : (a : Int) + 7 = ((a + 7 : Nat) : Int) := by omega
        rw [e, run_list raw k out (a + 7) (by omega), rm_at (hun.mpr hu), ← List.map_drop, List.drop_drop]
      · obtain ⟨s1, s2⟩ := step_sign (out := out) ha hu
        have e : (a : Int) + 1 = ((a + 1 : Nat) : Int) := by omega
        rw [s2, e, run_list raw k _ (a + 1) (by omega), s1]
        have hr : rmS 0 ((raw.cps.toList.drop a).map fc) = fc (raw.cps.toList[a]'(by omega)) :: rmS 0 ((raw.cps.toList.drop (a + 1)).map fc) := by
          have h9 := fun q => hu (hun.mp q)
          rw [hd, List.map_cons] at h9 ⊢
          rw [rmS, if_neg h9]
        rw [hr, List.foldl_cons]
    · rw [if_neg (by omega)]
      have : raw.cps.toList.drop a = [] := List.drop_eq_nil_of_le (by omega)
      rw [this]; rfl
theorem nameRaw_list (raw : Str) : (nameRaw raw).cps.toList = (rmS 0 (raw.cps.toList.map fc)).foldl app [] := by
  unfold nameRaw
  have := run_list raw (raw.length + 1) Str.empty 0 (by omega)
  rw [List.drop_zero] at this
  exact this
end Mine
end
section
open PySem PySem.W PyProof.Rows
theorem Mine.cut_NLaw6 : True ∧ True := by
  w_top off
  walk1
  all_goals exact True.intro
end

/- NLaw7 -/
section
open PySem PySem.W PyProof.Rows PySem.Calls
namespace Mine
open PySem.Builtin PySem.Builtin.Str
theorem tw_congr {g g' : Nat → Bool} : ∀ {l : List Nat}, (∀ c ∈ l, g c = g' c) → l.takeWhile g = l.takeWhile g'
  | [], _ => rfl
  | a :: l, h => by
    simp only [List.takeWhile_cons, h a (by simp), tw_congr (l := l) fun c hc => h c (List.mem_cons_of_mem _ hc)]
theorem strip_congr {x : Str} {g g' : Nat → Bool} (h : ∀ c ∈ x.cps.toList, g c = g' c) : Txt.stripBy g true true x = Txt.stripBy g' true true x := by
  rw [PySem.W.stripBy_eq, PySem.W.stripBy_eq]
  unfold PySem.W.stripped
  simp only [if_true]
  rw [tw_congr h, tw_congr (g := g) (g' := g') fun c hc => h c (List.mem_of_mem_drop (List.mem_reverse.mp hc))]
theorem space_asc : ∀ c, c < 127 → 32 ≤ c → Unicode.isSpace c = ((Str.ofString " ").cps.contains c) := by decide +kernel
theorem strip_same {x : Str} (h : Asc x) : Txt.strip x = Txt.stripChars x (Str.ofString " ") := by
  unfold Txt.strip Txt.stripChars
  exact strip_congr fun c hc => space_asc c (by have := (h c hc).2; omega) (h c hc).1
theorem ne_emp (r : Str) : (r.length != 0) = (r != Str.ofString "") := by
  have e : Str.ofString "" = Str.empty := by decide +kernel
  rw [e]
  by_cases h : r = Str.empty
  · subst h; rfl
  · have h1 : (r != Str.empty) = true := bne_iff_ne.mpr h
    rw [h1]
    refine bne_iff_ne.mpr fun q => h (str_ext ?_)
    rw [emp_list]
    exact List.length_eq_zero_iff.mp (by rw [len_list]; exact q)
theorem parts_same {x y z : Str} (ax : Asc x) (ay : Asc y) (az : Asc z) : platParts x y z = factsF x y z := by
  unfold platParts factsF
  have e : (fun r : Str => r.length != 0) = fun r => r != Str.ofString "" := funext ne_emp
  rw [e]
  refine List.map_congr_left fun r hr => ?_
  have hr := (List.mem_filter.mp hr).1
  simp only [List.mem_cons, List.not_mem_nil, or_false] at hr
  rcases hr with rfl | rfl | rfl
  · exact strip_same ax
  · exact strip_same ay
  · exact strip_same az
theorem replL {d x y z : Str} {c e : Nat} (h : ReplIs d x y z) (hy : y = ⟨#[c]⟩) (hz : z = ⟨#[e]⟩) : d.cps.toList = x.cps.toList.map (rep c e) := by
  rw [h.out, hy, hz]; exact repl1 x c e
theorem platLaw : PlatLaw := by
  intro x y z r ax ay az h
  obtain ⟨d9, e, hc, hd, hf, he, hr⟩ := h.out
  obtain ⟨d0, d1, d2, d3, d4, d5, d6, d7, d8, e0, r1, r2, r3, r4, r5, r6, r7, r8, r9⟩ := hc.out
  have l1 := replL r1 blank_is under_is
  have l2 := replL r2 (c := 47) (by decide +kernel) dash_is
  have l3 := replL r3 (c := 92) (by decide +kernel) dash_is
  have l4 := replL r4 (c := 58) (by decide +kernel) dash_is
  have l5 := replL r5 (c := 59) (by decide +kernel) dash_is
  have l6 := replL r6 (c := 34) (by decide +kernel) dash_is
  have l7 := replL r7 (c := 40) (by decide +kernel) dash_is
  have l8 := replL r8 (c := 41) (by decide +kernel) dash_is
  have l9 : d8.cps.toList = d0.cps.toList.map fc := by
    rw [l8, l7, l6, l5, l4, l3, l2, l1]
    simp only [List.map_map]
    rfl
  have l10 : d9.cps.toList = rmS 0 (d0.cps.toList.map fc) := by rw [r9.out, rm_unk, l9]
  have l11 : e.cps.toList = (nameRaw d0).cps.toList := by
    rw [nameRaw_list, ← l10, ← fold_inv hd, fold_self hf]
  have l12 : e = nameRaw d0 := str_ext l11
  rw [parts_same ax ay az] at e0
  have hN : nameF x y z = if (Txt.slice e (some (-1)) none == Str.ofString "-") = true then Txt.slice e none (some (-1)) else e := by
    unfold nameF
    rw [← e0, ← l12]
  rw [hN, last_is]
  obtain ⟨l, hl, hel⟩ := he.out
  have hno := fix_noDD hf
  have hlast : ¬ r.cps.toList.getLast? = some 45 := by
    intro q
    rcases hr with hr | hr
    · rw [hr] at q; simp at q
    · refine hr (str_ext ?_)
      have hne : r.length ≠ 0 := by
        intro e9
        have : r.cps.toList = [] := List.length_eq_zero_iff.mp (by rw [len_list]; exact e9)
        rw [this] at q; simp at q
      rw [item_last r hne, dash_list, List.getLastD_eq_getLast?, q]; rfl
  have hshort : l = [] ∨ l = [45] := by
    match l, hl, hel with
    | [], _, _ => exact .inl rfl
    | [a], hl, _ => exact .inr (by rw [hl a (by simp)])
    | a :: b :: t, hl, hel =>
      exfalso
      have key : ∀ (p : List Nat), ¬ NoDD (p ++ a :: b :: t) := by
        intro p
        induction p with
        | nil => intro q; exact q.1 ⟨hl a (by simp), hl b (by simp)⟩
        | cons u p ih =>
          intro q
          cases hp : p ++ a :: b :: t with
          | nil => simp at hp
          | cons v t' =>
            rw [List.cons_append, hp] at q
            rw [hp] at ih
            exact ih q.2
      exact key _ (hel ▸ hno)
  rcases hshort with rfl | rfl
  · rw [List.append_nil] at hel
    have : e = r := str_ext hel
    subst this
    rw [if_neg (by simpa using hlast)]
  · have q : e.cps.toList.getLast? = some 45 := by rw [hel]; simp
    rw [if_pos (by simpa using q)]
    refine str_ext ?_
    rw [slice_butLast, hel]; simp
end Mine
end
section
open PySem PySem.W PyProof.Rows
theorem Mine.cut_NLaw7 : True ∧ True := by
  w_top off
  walk1
  all_goals exact True.intro
end

/- NLaw8 -/
section
open PySem PySem.W PyProof.Rows PySem.Calls
namespace Mine
open PySem.Builtin PySem.Builtin.Str PySem.NumText
theorem str_extI {a b : Str} (h : a.cps.toList = b.cps.toList) : a = b := Str.ext' (Array.toList_inj.mp h)
theorem dwn {q : Nat → Bool} : ∀ {l : List Nat}, l.dropWhile q = [] ↔ ∀ a ∈ l, q a = true
  | [] => by simp
  | a :: l => by
    rw [List.dropWhile_cons]
    by_cases h : q a = true
    · rw [if_pos h, dwn (l := l)]
      simp [h]
    · rw [if_neg h]
      simp [h]
/-- stripping, in lists -/
theorem strip_list (g : Nat → Bool) (x : Str) : (Txt.stripBy g true true x).cps.toList = ((x.cps.toList.dropWhile g).reverse.dropWhile g).reverse := by
  rw [PySem.W.stripBy_eq]
  unfold PySem.W.stripped
  simp only [if_true]
  rw [StrLaws.strSub_toList]
  have dw : ∀ l : List Nat, l.drop (l.takeWhile g).length = l.dropWhile g := by
    intro l
    induction l with
    | nil => rfl
    | cons a l ih =>
      rw [List.takeWhile_cons, List.dropWhile_cons]
      by_cases h : g a = true
      · rw [if_pos h, if_pos h, List.length_cons, List.drop_succ_cons]; exact ih
      · rw [if_neg h, if_neg h]; rfl
  have hl : x.cps.toList.length = x.length := by simp [Str.length]
  rw [dw]
  have key : ∀ l : List Nat, l.take (l.length - (l.reverse.takeWhile g).length) = (l.reverse.dropWhile g).reverse := fun l => by
    rw [← dw l.reverse, List.reverse_drop]
    simp
  rw [← key]
  congr 1
  have h1 : x.cps.toList.length = (x.cps.toList.takeWhile g).length + (x.cps.toList.dropWhile g).length := by
    rw [← List.length_append, List.takeWhile_append_dropWhile]
  omega
def rst (l : List Nat) : List Nat := (l.reverse.dropWhile blank).reverse
theorem rst_cons {c : Nat} {r : List Nat} (hc : blank c = false) : rst (c :: r) = c :: rst r := by
  unfold rst
  rw [List.reverse_cons]
  by_cases h : ∀ a ∈ r.reverse, blank a = true
  · rw [List.dropWhile_append_of_pos h]
    have : r.reverse.dropWhile blank = [] := by
      rw [dwn]; exact h
    rw [this]
    simp [List.dropWhile_cons, hc]
  · have hne : r.reverse.dropWhile blank ≠ [] := fun e => h (dwn.mp e)
    have key : ∀ l : List Nat, l.dropWhile blank ≠ [] → (l ++ [c]).dropWhile blank = l.dropWhile blank ++ [c] := by
      intro l
      induction l with
      | nil => intro q; exact absurd rfl q
      | cons a l ih =>
        intro q
        rw [List.cons_append, List.dropWhile_cons, List.dropWhile_cons] at *
        split at q
        · rename_i ha
          rw [if_pos ha, if_pos ha]; exact ih q
        · rename_i ha
          rw [if_neg ha, if_neg ha]; rfl
    rw [key _ hne, List.reverse_append]
    rfl
/-- the sign may be taken behind the stripping -/
theorem core_eq (t : List Nat) : core t = (sign (rst (t.dropWhile blank))).2 ∧ (sign (t.dropWhile blank)).1 = (sign (rst (t.dropWhile blank))).1 := by
  show rst (sign (t.dropWhile blank)).2 = _ ∧ _
  cases hu : t.dropWhile blank with
  | nil => exact ⟨rfl, rfl⟩
  | cons c r =>
    have hc : blank c = false := by
      have := List.head_dropWhile_not blank (l := t) (by rw [hu]; exact List.cons_ne_nil _ _)
      simpa [hu] using this
    rw [rst_cons hc]
    by_cases h1 : c = 45
    · subst h1; exact ⟨rfl, rfl⟩
    · by_cases h2 : c = 43
      · subst h2; exact ⟨rfl, rfl⟩
      · have e : ∀ q, sign (c :: q) = (false, c :: q) := by
          intro q
          unfold sign
          split
          · rename_i h; injection h with h _; exact absurd h h1
          · rename_i h; injection h with h _; exact absurd h h2
          · rfl
        rw [e, e]
        exact ⟨rst_cons hc, rfl⟩
/-- the figures of a run -/
def figB (c : Nat) : Bool := 48 ≤ c && c ≤ 57
theorem step_fig {arr : Array Nat} {b : Bool} {c : Nat} (h : figB c = true) : NumText.step 10 (arr, b) c = some (arr.push (c - 48), true) := by
  simp only [figB, Bool.and_eq_true, decide_eq_true_eq] at h
  have e : digit? c = some (c - 48) := by unfold digit?; rw [if_pos (by simp; omega)]
  unfold NumText.step
  rw [if_neg (by simp; omega), e]
  dsimp only
  rw [if_pos (by omega)]
theorem step_bad {arr : Array Nat} {b : Bool} {c : Nat} (h : figB c = false) (h95 : c ≠ 95) : NumText.step 10 (arr, b) c = none := by
  unfold NumText.step
  rw [if_neg (by simpa using h95)]
  have hf : ¬ (48 ≤ c ∧ c ≤ 57) := by
    intro q; simp [figB, q.1, q.2] at h
  unfold digit?
  split
  · rename_i d hd
    split at hd
    · rename_i q; simp at q; omega
    · split at hd
      · rename_i q; simp at q; cases hd; rw [if_neg (by omega)]
      · split at hd
        · rename_i q; simp at q; cases hd; rw [if_neg (by omega)]
        · cases hd
  · rfl
theorem run_figs : ∀ (p : List Nat) (arr : Array Nat) (b : Bool), (∀ c ∈ p, figB c = true) → p.foldlM (NumText.step 10) (arr, b) = some (p.foldl (fun a c => a.push (c - 48)) arr, b || !p.isEmpty)
  | [], arr, b, _ => by simp
  | c :: p, arr, b, h => by
    rw [List.foldlM_cons, step_fig (h c (by simp))]
    show p.foldlM (NumText.step 10) (arr.push (c - 48), true) = _
    rw [run_figs p _ _ fun d hd => h d (List.mem_cons_of_mem _ hd)]
    simp
theorem run_bad : ∀ (p : List Nat) (arr : Array Nat) (b : Bool) (rest : List Nat), 95 ∉ p → (∃ c ∈ p, figB c = false) → (p ++ rest).foldlM (NumText.step 10) (arr, b) = none
  | [], _, _, _, _, h => by obtain ⟨c, hc, _⟩ := h; cases hc
  | c :: p, arr, b, rest, h95, h => by
    rw [List.cons_append, List.foldlM_cons]
    by_cases hc : figB c = true
    · rw [step_fig hc]
      show (p ++ rest).foldlM (NumText.step 10) (arr.push (c - 48), true) = none
      refine run_bad p _ _ rest (fun q => h95 (List.mem_cons_of_mem _ q)) ?_
      obtain ⟨d, hd, hf⟩ := h
      rcases List.mem_cons.mp hd with rfl | hd
      · rw [hc] at hf; cases hf
      · exact ⟨d, hd, hf⟩
    · rw [step_bad (by simpa using hc) fun e => h95 (by rw [e]; exact List.mem_cons_self ..)]
      rfl
end Mine
namespace Mine
open PySem.Builtin PySem.Builtin.Str PySem.NumText
def badP (p : Str) : Bool := p.cps.toList.isEmpty || p.cps.toList.any fun c => !figB c
def pushR (a : Array Nat) (p : Str) : Array Nat := p.cps.toList.foldl (fun a c => a.push (c - 48)) a
theorem under_list : (Str.ofString "_").cps.toList = [95] := by decide +kernel
theorem join_cons3 (y a b : Str) (l : List Str) : (Str.join y (a :: b :: l)).cps.toList = a.cps.toList ++ (y.cps.toList ++ (Str.join y (b :: l)).cps.toList) := by
  show ((a.cps ++ y.cps) ++ (Str.join y (b :: l)).cps).toList = _
  rw [Array.toList_append, Array.toList_append, List.append_assoc]
theorem digits_parts : ∀ (ps : List Str) (arr : Array Nat), ps ≠ [] → (∀ p ∈ ps, 95 ∉ p.cps.toList) →
    ((Str.join (Str.ofString "_") ps).cps.toList.foldlM (NumText.step 10) (arr, false)).bind (fun q => if q.2 = true then some q.1 else none) = if ps.any badP = true then none else some (ps.foldl pushR arr)
  | [], _, h, _ => absurd rfl h
  | [p], arr, _, h95 => by
    show (p.cps.toList.foldlM (NumText.step 10) (arr, false)).bind _ = _
    by_cases hb : ∃ c ∈ p.cps.toList, figB c = false
    · have z := run_bad p.cps.toList arr false [] (h95 p (by simp)) hb
      rw [List.append_nil] at z
      rw [z, if_pos]
      · rfl
      · obtain ⟨c, hc, hf⟩ := hb
        simp only [List.any_cons, List.any_nil, Bool.or_false, badP, Bool.or_eq_true, List.any_eq_true]
        exact .inr ⟨c, hc, by simp [hf]⟩
    · have hg : ∀ c ∈ p.cps.toList, figB c = true := fun c hc => by
        cases hf : figB c with
        | true => rfl
        | false => exact absurd ⟨c, hc, hf⟩ hb
      rw [run_figs _ _ _ hg]
      have e : badP p = p.cps.toList.isEmpty := by
        unfold badP
        have : (p.cps.toList.any fun c => !figB c) = false := by
          rw [List.any_eq_false]; intro c hc; simp [hg c hc]
        rw [this, Bool.or_false]
      simp only [List.any_cons, List.any_nil, Bool.or_false, e, Option.bind_some, Bool.false_or]
      cases p.cps.toList.isEmpty <;> rfl
  | p :: q :: ps, arr, _, h95 => by
    rw [join_cons3, under_list]
    by_cases hb : ∃ c ∈ p.cps.toList, figB c = false
    · rw [run_bad p.cps.toList arr false _ (h95 p (by simp)) hb, if_pos]
      · rfl
      · obtain ⟨c, hc, hf⟩ := hb
        simp only [List.any_cons, Bool.or_eq_true, badP, List.any_eq_true]
        exact .inl (.inr ⟨c, hc, by simp [hf]⟩)
    · have hg : ∀ c ∈ p.cps.toList, figB c = true := fun c hc => by
        cases hf : figB c with
        | true => rfl
        | false => exact absurd ⟨c, hc, hf⟩ hb
      have e : badP p = p.cps.toList.isEmpty := by
        unfold badP
        have : (p.cps.toList.any fun c => !figB c) = false := by
          rw [List.any_eq_false]; intro c hc; simp [hg c hc]
        rw [this, Bool.or_false]
      rw [List.foldlM_append, run_figs _ _ _ hg]
      have ih := digits_parts (q :: ps) (pushR arr p) (List.cons_ne_nil _ _) fun r hr => h95 r (List.mem_cons_of_mem _ hr)
      cases he : p.cps.toList.isEmpty with
      | true =>
        rw [if_pos (by rw [List.any_cons, e, he]; rfl)]
        rfl
      | false =>
        rw [List.any_cons, e, he, List.foldl_cons]
        exact ih
def val (a : Array Nat) : Int := ((a.foldl (fun acc d => acc * 10 + d) 0 : Nat) : Int)
theorem val_push (a : Array Nat) (d : Nat) : val (a.push d) = val a * 10 + d := by
  unfold val
  rw [Array.foldl_push]
  omega
theorem find_fig : ∀ k, k < 10 → Txt.find (Str.ofString "0123456789") ⟨#[k + 48]⟩ = (k : Int) := by decide +kernel
theorem figs_contain : ∀ c, c < 127 → (Str.ofString "0123456789").cps.contains c = figB c := by decide +kernel
end Mine
end
section
open PySem PySem.W PyProof.Rows
theorem Mine.cut_NLaw8 : True ∧ True := by
  w_top off
  walk1
  all_goals exact True.intro
end

/- NLaw9 -/
section
open PySem PySem.W PyProof.Rows PySem.Calls
namespace Mine
open PySem.Builtin PySem.Builtin.Str PySem.NumText
theorem runVal_val (l : List Nat) (hg : ∀ c ∈ l, figB c = true) : ∀ arr : Array Nat, l.foldl (fun (T : Int) c => T * 10 + Txt.find (Str.ofString "0123456789") ⟨#[c]⟩) (val arr) = val (l.foldl (fun a c => a.push (c - 48)) arr) := by
  induction l with
  | nil => intro arr; rfl
  | cons c l ih =>
    intro arr
    have hc := hg c (by simp)
    simp only [figB, Bool.and_eq_true, decide_eq_true_eq] at hc
    have hf := find_fig (c - 48) (by omega)
    rw [show c - 48 + 48 = c by omega] at hf
    rw [List.foldl_cons, List.foldl_cons, hf, ← val_push]
    exact ih (fun d hd => hg d (List.mem_cons_of_mem _ hd)) _
theorem runVal_eq {p : Str} (hg : ∀ c ∈ p.cps.toList, figB c = true) (arr : Array Nat) : runVal (val arr) p = val (pushR arr p) := by
  unfold runVal signs pushR
  rw [List.foldl_map]
  exact runVal_val _ hg arr
theorem emp_isI : Str.ofString "" = Str.empty := by decide +kernel
theorem beq_emp (p : Str) : (p == Str.empty) = p.cps.toList.isEmpty := by
  by_cases h : p = Str.empty
  · subst h; rfl
  · rw [beq_eq_false_iff_ne.mpr h]
    symm
    rw [Bool.eq_false_iff]
    intro q
    exact h (str_extI (List.isEmpty_iff.mp q))
theorem badRun_eq {p : Str} (ha : Asc p) : badRun p = badP p := by
  unfold badRun badP
  rw [emp_isI, beq_emp]
  congr 1
  have hm : ∀ c ∈ p.cps.toList, (Str.ofString "0123456789").cps.contains c = figB c := fun c hc => figs_contain c (by have := (ha c hc).2; omega)
  cases hb : p.cps.toList.any fun c => !figB c with
  | true =>
    refine bne_iff_ne.mpr fun q => ?_
    have z := strip_all q
    obtain ⟨c, hc, hf⟩ := List.any_eq_true.mp hb
    rw [← hm c hc, z c hc] at hf
    cases hf
  | false =>
    have hg : ∀ c ∈ p.cps.toList, (Str.ofString "0123456789").cps.contains c = true := fun c hc => by
      rw [hm c hc]
      have := (List.any_eq_false.mp hb) c hc
      simpa using this
    have e : Txt.stripChars p (Str.ofString "0123456789") = Str.empty := by
      apply str_extI
      unfold Txt.stripChars
      rw [strip_list, dwn.mpr hg]; rfl
    rw [e]; rfl
theorem runs_parts : ∀ (ps : List Str) (arr : Array Nat), (∀ p ∈ ps, Asc p) → runsVal (val arr) ps = if ps.any badP = true then none else some (val (ps.foldl pushR arr))
  | [], arr, _ => rfl
  | p :: ps, arr, h => by
    rw [runsVal, badRun_eq (h p (by simp)), List.any_cons, List.foldl_cons]
    cases hb : badP p with
    | true => rfl
    | false =>
      have hg : ∀ c ∈ p.cps.toList, figB c = true := fun c hc => by
        unfold badP at hb
        have := (List.any_eq_false.mp (Bool.or_eq_false_iff.mp hb).2) c hc
        simpa using this
      rw [if_neg Bool.false_ne_true, runVal_eq hg]
      exact runs_parts ps _ fun q hq => h q (List.mem_cons_of_mem _ hq)
theorem blank_asc : ∀ c, c < 127 → 32 ≤ c → (Str.ofString " ").cps.contains c = blank c := by decide +kernel
theorem dw_congr {g g' : Nat → Bool} : ∀ {l : List Nat}, (∀ c ∈ l, g c = g' c) → l.dropWhile g = l.dropWhile g'
  | [], _ => rfl
  | a :: l, h => by
    simp only [List.dropWhile_cons, h a (by simp), dw_congr (l := l) fun c hc => h c (List.mem_cons_of_mem _ hc)]
theorem bare_list {x : Str} (ha : Asc x) : (bareF x).cps.toList = rst (x.cps.toList.dropWhile blank) := by
  unfold bareF Txt.stripChars rst
  rw [strip_list]
  have hm : ∀ c ∈ x.cps.toList, (Str.ofString " ").cps.contains c = blank c := fun c hc => blank_asc c (by have := (ha c hc).2; omega) (ha c hc).1
  rw [dw_congr hm, dw_congr (g := (Str.ofString " ").cps.contains) (g' := blank) fun c hc => hm c ((List.dropWhile_sublist _).mem (List.mem_reverse.mp hc))]
end Mine
end
section
open PySem PySem.W PyProof.Rows
theorem Mine.cut_NLaw9 : True ∧ True := by
  w_top off
  walk1
  all_goals exact True.intro
end

/- NLaw10 -/
section
open PySem PySem.W PyProof.Rows PySem.Calls
namespace Mine
open PySem.Builtin PySem.Builtin.Str PySem.NumText
theorem tw_all {q : Nat → Bool} : ∀ {l : List Nat}, (∀ c ∈ l, q c = true) → l.takeWhile q = l
  | [], _ => rfl
  | a :: l, h => by rw [List.takeWhile_cons, if_pos (h a (by simp)), tw_all fun c hc => h c (List.mem_cons_of_mem _ hc)]
theorem first_list (b : Str) : (Txt.slice b none (some 1)).cps.toList = b.cps.toList.take 1 := by
  rw [slice_toList]
  have hl := len_list b
  have e1 : clipN b.length 0 none = 0 := rfl
  rw [e1, List.drop_zero, Nat.sub_zero]
  simp only [clipN]
  by_cases h : b.length = 0
  · have : b.cps.toList = [] := List.length_eq_zero_iff.mp (by omega)
    rw [this]; simp
  · congr 1; omega
theorem rest_list (b : Str) : (Txt.slice b (some 1) none).cps.toList = b.cps.toList.drop 1 := by
  rw [slice_toList]
  have hl := len_list b
  have e1 : clipN b.length b.length none = b.length := rfl
  rw [e1]
  by_cases h : b.length = 0
  · have : b.cps.toList = [] := List.length_eq_zero_iff.mp (by omega)
    rw [this]; simp
  · have e2 : clipN b.length 0 (some 1) = 1 := by simp only [clipN]; omega
    rw [e2, List.take_of_length_le]
    rw [List.length_drop]; omega
theorem plus_list : (Str.ofString "+").cps.toList = [43] := by decide +kernel
theorem minus_list : (Str.ofString "-").cps.toList = [45] := by decide +kernel
theorem beq_list (a b : Str) : (a == b) = decide (a.cps.toList = b.cps.toList) := by
  by_cases h : a = b
  · subst h; simp
  · rw [beq_eq_false_iff_ne.mpr h, decide_eq_false fun q => h (str_extI q)]
theorem figs_sign (x : Str) : (figsF x).cps.toList = (sign (bareF x).cps.toList).2 ∧ (signF x == Str.ofString "-") = (sign (bareF x).cps.toList).1 := by
  unfold figsF signF
  rw [beq_list, minus_list, first_list]
  simp only [List.any_cons, List.any_nil, Bool.or_false, beq_list, plus_list, minus_list, first_list]
  cases hB : (bareF x).cps.toList with
  | nil =>
    refine ⟨?_, rfl⟩
    rw [if_neg (by decide)]
    exact hB
  | cons c r =>
    by_cases h1 : c = 45
    · subst h1
      refine ⟨?_, by simp [sign]⟩
      rw [if_pos (by simp), rest_list, hB]; rfl
    · by_cases h2 : c = 43
      · subst h2
        refine ⟨?_, by simp [sign]⟩
        rw [if_pos (by simp), rest_list, hB]; rfl
      · have e : sign (c :: r) = (false, c :: r) := by
          unfold sign
          split
          · rename_i h; injection h with h _; exact absurd h h1
          · rename_i h; injection h with h _; exact absurd h h2
          · rfl
        rw [e]
        refine ⟨?_, by simp [h1]⟩
        rw [if_neg, hB]
        simp only [List.take_succ_cons, List.take_zero, Bool.or_eq_true, decide_eq_true_eq, List.cons.injEq, and_true]
        intro q
        rcases q with q | q
        · exact h2 q.symm
        · exact h1 q.symm
theorem intLaw : IntLaw := by
  intro x ha hx
  have hl := len_list x
  have hall : x.cps.all (· < 128) = true := by
    rw [← Array.all_toList, List.all_eq_true]
    intro c hc
    exact decide_eq_true (by have := (ha c hc).2; omega)
  have hT : numTextOf x = x.cps.toList := if_pos hall
  have hS : numSeenOf x = x.cps.toList := by
    show (numTextOf x).takeWhile (· != 0) = _
    rw [hT]
    exact tw_all fun c hc => by have := (ha c hc).1; simp; omega
  have hB := bare_list ha
  obtain ⟨c1, c2⟩ := core_eq x.cps.toList
  rw [← hB] at c1 c2
  obtain ⟨f1, f2⟩ := figs_sign x
  have hsz : ∀ ds, digits? 10 (core x.cps.toList) = some ds → ds.size ≤ 4300 := fun ds h => by
    have h1 := digits_size h
    have h2 := core_length x.cps.toList
    omega
  have hfa : Asc (figsF x) := by
    intro c hc
    refine ha c ?_
    rw [f1] at hc
    have h1 : c ∈ (bareF x).cps.toList := by
      unfold sign at hc
      split at hc
      · rename_i r h; rw [h]; exact List.mem_cons_of_mem _ hc
      · rename_i r h; rw [h]; exact List.mem_cons_of_mem _ hc
      · exact hc
    rw [hB] at h1
    unfold rst at h1
    exact (List.dropWhile_sublist _).mem (List.mem_reverse.mp ((List.dropWhile_sublist _).mem (List.mem_reverse.mp h1)))
  have hj := StrLaws.join_split (figsF x) (Str.ofString "_")
  have eu : Str.ofString "_" = ⟨#[95]⟩ := by decide +kernel
  have hfree := StrLaws.split_free (figsF x) 95
  rw [← eu] at hfree
  have hpa : ∀ p ∈ Txt.split (figsF x) (Str.ofString "_"), Asc p := fun p hp c hc => by
    have := join_mem (Str.ofString "_") _ p hp c hc
    rw [hj] at this
    exact hfa c this
  have hne : Txt.split (figsF x) (Str.ofString "_") ≠ [] := fun e => by
    have := PyProof.Rows.split_pos (figsF x) (Str.ofString "_")
    rw [e] at this
    simp at this
  have hdig := digits_parts _ #[] hne hfree
  rw [hj, f1, ← c1] at hdig
  have hrun := runs_parts _ #[] hpa
  have hv0 : val #[] = 0 := rfl
  rw [hv0] at hrun
  have hd : digits? 10 (core x.cps.toList) = if (Txt.split (figsF x) (Str.ofString "_")).any badP = true then none else some ((Txt.split (figsF x) (Str.ofString "_")).foldl pushR #[]) := hdig
  unfold PySem.intText? wholeF
  rw [hS, hT, if_pos (beq_self_eq_true _), hrun, f2, c2]
  cases hb : (Txt.split (figsF x) (Str.ofString "_")).any badP with
  | true =>
    rw [hb, if_pos rfl] at hd
    rw [hd]; rfl
  | false =>
    rw [hb, if_neg Bool.false_ne_true] at hd
    rw [hd]
    dsimp only
    rw [if_pos (hsz _ hd), if_neg Bool.false_ne_true]
    rw [Option.map_some]
    unfold worth val
    cases (sign (bareF x).cps.toList).1 with
    | true => simp only [if_true, Int.zero_sub]
    | false => simp only [Bool.false_eq_true, if_false]
end Mine
end
section
open PySem PySem.W PyProof.Rows
theorem Mine.cut_NLaw10 : True ∧ True := by
  w_top off
  walk1
  all_goals exact True.intro
end

theorem PySem.Challenge.cw_nb0114_01_holds : PySem.Challenge.rw_nb0114_01.Holds :=
  Mine.tops Mine.intLaw Mine.partLaw Mine.platLaw Mine.ascLaw Mine.aliasLaw
