import PyProof.Rows.All
import Wide.All
import OpenK.AllK
import Wide.FinOn
import PyProof.FactsAll.range_1
import PySem.Challenge.RW_ez0286_01
set_option Elab.async false
section
open PySem PySem.W PyProof.Rows
namespace Mine
local macro_rules | `(tactic| walk_at "RESTART") => `(tactic| skip)
theorem restart_WpC {M : Model} {A : Around} {E : Value → Shared → Prop} {s : Shared} {Q : Value → Shared → Prop} (h : Q .none s) : wpAny M A (pure Value.none) Q E s := by
  w_top off
  first
    | (walk1; fail "on")
    | exact wpAny_pure h
end Mine
end
section
open PySem PySem.W PySem.Calls PyProof.Rows PySem.Spec
open Sem (wp)
set_option maxRecDepth 100000
namespace Mine
/-- the stack bears the claim's caller -/
def Cal (Γ : PySem.Ctx) : Prop := Γ.code.isCaller = true ∨ ∃ x ∈ Γ.below, x.1.isCaller = true
theorem Cal.enter {Γ : PySem.Ctx} (h : Cal Γ) (c : Code) (hd : Option Value) (p : Pos) : Cal (Γ.enter c hd p) := by
  refine .inr ?_
  rcases h with h | ⟨x, hx, h⟩
  · exact ⟨(Γ.code, p), List.mem_cons_self .., h⟩
  · exact ⟨x, List.mem_cons_of_mem _ hx, h⟩
/-- it stands below -/
def CalB (Γ : PySem.Ctx) : Prop := ∃ x ∈ Γ.below, x.1.isCaller = true
theorem CalB.cal {Γ : PySem.Ctx} (h : CalB Γ) : Cal Γ := .inr h
theorem Cal.below {Γ : PySem.Ctx} (h : Cal Γ) (c : Code) (hd : Option Value) (p : Pos) : CalB (Γ.enter c hd p) := by
  rcases h with h | ⟨x, hx, h⟩
  · exact ⟨(Γ.code, p), List.mem_cons_self .., h⟩
  · exact ⟨x, List.mem_cons_of_mem _ hx, h⟩
def wpC {α : Type} (M : Model) (A : Around) (t : Sem α) (Q : α → Shared → Prop) (E : Value → Shared → Prop) (s : Shared) : Prop :=
  ∀ Γ p, Γ.In A → Cal Γ → wp M Γ t (fun a _ s' => Q a s') (fun e _ s' => E e s') p s
def codeC (M : Model) (A : Around) (c : Code) (R : Result → Shared → Prop) (s : Shared) : Prop :=
  ∀ Γ p, Γ.code = c → Γ.Below A → CalB Γ → wpCode M Γ R p s
section
variable {α β : Type} {M : Model} {A : Around} {E : Value → Shared → Prop} {s : Shared}
theorem wpC_any {t : Sem α} {Q : α → Shared → Prop} (h : wpAny M A t Q E s) : wpC M A t Q E s := fun Γ p hΓ _ => h Γ p hΓ
theorem codeC_any {c : Code} {R : Result → Shared → Prop} (h : codeAny M A c R s) : codeC M A c R s := fun Γ p hc hΓ _ => h Γ p hc hΓ
theorem wpC_mono {t : Sem α} {Q Q' : α → Shared → Prop} {E' : Value → Shared → Prop} (h : wpC M A t Q E s) (hQ : ∀ a s, Q a s → Q' a s) (hE : ∀ e s, E e s → E' e s) : wpC M A t Q' E' s :=
  fun Γ p hΓ hc => Sem.wp_mono M Γ t (fun a _ s => hQ a s) (fun e _ s => hE e s) p s (h Γ p hΓ hc)
theorem codeC_mono {c : Code} {R R' : Result → Shared → Prop} (h : codeC M A c R s) (hR : ∀ r s, R r s → R' r s) : codeC M A c R' s :=
  fun Γ p hc hΓ hb => wpCode_mono hR (h Γ p hc hΓ hb)
theorem wpC_pure {a : α} {Q : α → Shared → Prop} (h : Q a s) : wpC M A (pure a) Q E s := wpC_any (wpAny_pure h)
theorem wpC_bind {m : Sem α} {f : α → Sem β} {Q : β → Shared → Prop} (h : wpC M A m (fun a s' => wpC M A (f a) Q E s') E s) : wpC M A (m >>= f) Q E s := fun Γ p hΓ hc => by
  rw [Sem.wp_bind']
  exact Sem.wp_mono M Γ m (fun a p' s' h' => h' Γ p' hΓ hc) (fun _ _ _ h' => h') p s (h Γ p hΓ hc)
/-- a leaf, then the rest -/
theorem wpC_then {m : Sem α} {f : α → Sem β} {Q : β → Shared → Prop} (h : wpAny M A m (fun a s' => wpC M A (f a) Q E s') E s) : wpC M A (m >>= f) Q E s := wpC_bind (wpC_any h)
theorem wpC_eq {t t' : Sem α} {Q : α → Shared → Prop} (e : t = t') (h : wpC M A t' Q E s) : wpC M A t Q E s := e ▸ h
theorem wpC_holding {vs : List Value} {m : Sem α} {Q : α → Shared → Prop} (h : wpC M A m Q E s) : wpC M A (holding vs m) Q E s :=
  fun Γ p hΓ hc => by rw [Sem.wp_holding]; exact h Γ p hΓ hc
theorem wpC_onRaise {m : Sem α} {k : Value → Sem Unit} {Q : α → Shared → Prop} (h : wpC M A m Q (fun e s' => wpC M A (k e) (fun _ s'' => E e s'') E s') s) : wpC M A (m.onRaise k) Q E s := fun Γ p hΓ hc => by
  rw [Sem.wp_onRaise]
  exact Sem.wp_mono M Γ m (fun _ _ _ h' => h') (fun e p' s' h' => h' Γ p' hΓ hc) p s (h Γ p hΓ hc)
theorem wpC_attempt {m : Sem α} {Q : Except Value α → Shared → Prop} (h : wpC M A m (fun a => Q (.ok a)) (fun e => Q (.error e)) s) : wpC M A m.attempt Q E s := fun Γ p hΓ hc => by
  rw [Sem.wp_attempt]; exact h Γ p hΓ hc
theorem wpC_operate {vs : List Value} {m : Sem Value} {Q : Value → Shared → Prop} (h : wpC M A m Q E s) : wpC M A (operate vs m) Q E s := fun Γ p hΓ hc => by
  rw [Sem.wp_operate]; exact h Γ p hΓ hc
theorem wpC_tryCatch {m : Sem α} {k : Value → Sem α} {Q : α → Shared → Prop} (h : wpC M A m Q (fun e s' => wpC M A (k e) Q E s') s) : wpC M A (tryCatch m k) Q E s := fun Γ p hΓ hc => by
  rw [Sem.wp_tryCatch']
  exact Sem.wp_mono M Γ m (fun _ _ _ h' => h') (fun e p' s' h' => h' Γ p' hΓ hc) p s (h Γ p hΓ hc)
theorem wpC_run {c : Code} {h : Option Value} {Q : Flow → Shared → Prop} (hc : codeC M (A.mark h) c (fun r s' => match r with | .ok f => Q f s' | .error e => E e s') s) (hnb : h ≠ some byPass := by intro x; cases x) :
    wpC M A (run c h) Q E s := fun Γ p hΓ hb => by rw [Sem.wp_run]; exact hc _ p rfl (hΓ.enter c h p hnb) (hb.below ..)
theorem wpC_runValue {c : Code} {Q : Value → Shared → Prop} (hc : codeC M A c (fun r s' => match r with | .ok (.ret v) => Q v s' | .ok _ => False | .error e => E e s') s) :
    wpC M A (runValue c) Q E s := fun Γ p hΓ hb => by rw [Sem.wp_runValue]; exact hc _ p rfl (hΓ.enter c none p (by intro x; cases x)) (hb.below ..)
theorem wpC_call {f : Value} {pos : List Value} {kw : List (Str × Value)} {Q : Value → Shared → Prop}
    (hc : codeC M A (.call f ⟨pos, kw⟩) (fun r s' => match r with | .ok (.ret v) => Q v s' | .ok _ => False | .error e => E e s') s) : wpC M A (call f pos kw) Q E s := wpC_runValue hc
theorem codeC_of_tree {c : Code} {R : Result → Shared → Prop}
    (h : wpC M (A.under c) (M.den c) (fun fin s' => match fin with | .done f => R (.ok f) s' | .again c' => c'.quiet = true ∧ codeC M A c' R s') (fun e s' => R (.error e) s') s) : codeC M A c R s := fun Γ p hc hΓ hb => by
  rw [wpCode_iff_wp, hc]
  refine Sem.wp_mono M Γ _ (fun fin p' s' h' => ?_) (fun _ _ _ h' => h') p s (h Γ p (hc ▸ hΓ.in) hb.cal)
  cases fin with
  | done f => exact h'
  | again c' => exact ⟨h'.1, h'.2 (Γ.goto c') p' rfl (hΓ.goto c') hb⟩
theorem wpC_runOwn {env : Env} {c : Code} {h : Option Value} {Q : Flow → Shared → Prop}
    (hc : codeC M (A.mark h) c (fun r s' => match r with | .ok f => Q f s' | .error e => cameBackBy M A env E e s') s) (hnb : h ≠ some byPass := by intro x; cases x) : wpC M A (runOwn c env h) Q E s := by
  unfold runOwn
  refine wpC_onRaise (wpC_mono (wpC_run (E := fun e s' => cameBackBy M A env E e s') hc hnb) (fun _ _ x => x) fun e s' x => wpC_any x)
end
section
variable {prog : Program} {w : World} {A : Around} {E : Value → Shared → Prop} {s : Shared} {R : Result → Shared → Prop}
theorem codeC_func {body : List Stmt} {env : Env}
    (h : wpC (model prog w) (A.deeper env) (execs body env) (fun f s' => R (.ok (.ret (match f with | .ret v => v | _ => .none))) s')
      (fun e s' => wpAny (model prog w) (A.deeper env) (leaving env e) (fun _ s'' => R (.error e) s'') (fun e' s'' => R (.error e') s'') s') s) : codeC (model prog w) A (.func body env) R s := by
  refine codeC_of_tree ?_
  show wpC _ (A.deeper env) (do point; match ← (execs body env).onRaise (leaving env) with | .ret v => ret v | _ => ret .none) _ _ s
  refine wpC_then (wpAny_point (wpC_bind (wpC_onRaise (wpC_mono h (fun f s' h' => ?_) fun _ _ h' => wpC_any h'))))
  cases f <;> exact wpC_pure h'
theorem codeC_call_function {a : Addr} {args : Args} {o : Obj} {fd : FuncData} {body : List Stmt} (hroom : A.depth < recursionLimit) (ho : s.heap.get? a = some o)
    (hd' : o.data = .func fd) (hco : fd.scope.isCoroutine = false) (hgen : fd.scope.isGenerator = false) (hbody : fd.body = .stmts body) (hcd : s.heap.CodeRec fd.code fd.qualname)
    (h : wpAny (model prog w) A.in1 (bindArgs fd args) (fun binds s₁ =>
      wpAny (model prog w) A.in1 (newFunctionEnv fd.scope fd.globals fd.closure binds (fd.qualname ++ ".<locals>.") (some a) fd.code none fd.builtins)
        (fun env s₂ => s₂.heap.NoLimit ∧ codeC (model prog w) A (.func body env) R s₂) (fun e s' => R (.error e) s') s₁) (fun e s' => R (.error e) s') s) :
    codeC (model prog w) A (.call (.ref a) args) R s := by
  refine codeC_of_tree (wpC_any ?_)
  show wpAny _ A.in1 (callAny (.ref a) args) _ _ s
  simp only [callAny]
  refine wpAny_bind (wpAny_load ho ?_)
  obtain ⟨c, oc, vs, tq, hc, hoc, hdc, hq⟩ := hcd
  simp only [hd', callFunction, hco, hgen, hbody, hc]
  rw [hc] at h
  refine wpAny_bind (m := field (.ref c) 1) (wpAny_field hoc hdc hq (wpAny_bind (wpAny_pure ?_)))
  exact wpAny_bind (wpAny_mono h (fun binds s₁ h₁ => wpAny_bind (wpAny_mono h₁ (fun env s₂ h₂ => wpAny_bind (wpAny_enterFrame h₂.1 hroom
    (wpAny_pure (And.intro rfl h₂.2)))) fun _ _ h' => h')) fun _ _ h' => h')
theorem codeC_call_def {a : Addr} {o : Obj} {fd : FuncData} {body : List Stmt} {args : Args} {binds : List (Str × Value)}
    (hroom : A.depth < recursionLimit) (ho : s.heap.get? a = some o) (hdata : o.data = .func fd) (hlim : s.heap.NoLimit) (hcd : s.heap.CodeRec fd.code fd.qualname)
    (hbody : fd.body = .stmts body) (hbind : BindsTo s fd args binds) (hcell : ∀ x ∈ fd.scope.names, x.2 ≠ .cell) (hloc : ∀ x ∈ binds, fd.scope.names.lookup x.1 = some .local)
    (h : ∀ h₀, h₀.Ns s.heap.objs.size (fun x => binds.reverse.lookup x) → (∀ b o, s.heap.get? b = some o → h₀.get? b = some o) →
      wpC (model prog w) (A.deeper (callEnv fd s.heap.objs.size a)) (execs body (callEnv fd s.heap.objs.size a)) (fun f s' => R (.ok (.ret (match f with | .ret v => v | _ => .none))) s')
        (fun e s' => wpAny (model prog w) (A.deeper (callEnv fd s.heap.objs.size a)) (leaving (callEnv fd s.heap.objs.size a) e) (fun _ s'' => R (.error e) s'') (fun e' s'' => R (.error e') s'') s')
        { s with heap := h₀, toks := s.toks + binds.length })
    (hco : fd.scope.isCoroutine = false := by rfl) (hgen : fd.scope.isGenerator = false := by rfl) (hk : fd.scope.kind = .function := by rfl) :
    codeC (model prog w) A (.call (.ref a) args) R s := by
  refine codeC_call_function hroom ho hdata hco hgen hbody hcd (hbind _ _ _ _ ?_)
  refine wpAny_newFunctionEnv hcell hloc (fun h₀ hns₀ hsb₀ => ⟨hlim.fresh _ hsb₀, codeC_func (h h₀ hns₀ fun b o e => ?_)⟩) hk
  exact hsb₀.extBut b o (Nat.ne_of_lt (Heap.lt_size e)) (Heap.get?_push_of_some _ e)
end
section
variable {prog : Program} {w : World} {A A₀ : Around} {s : Shared} {K : Frag} {L : Addr} {h₀ base : Heap} {m mg mb : Str → Option Value} {p : Program} {loose : List Str} {mean : ExcName → Option Value}
theorem enterC {env : Env} {outer : List Env} {R : Result → Shared → Prop} {name qual : Str} {params : Arguments} {body : List Stmt} {scope : Scope} {dV kV doc pm cdv ct oc : Value} {an od : Option Addr} {osl : Array (Option Value)} {f : Addr} {args : Args} {binds : List (Str × Value)}
    (B : Below A₀ base outer h₀) (F : Fr h₀ L s.heap m) (X₀ : K.In base) (T : Top p loose mean mg mb base) (hA : A.frames = some (env :: outer)) (hf : env.frame = some L) (hke : env.scope.kind = .function)
    (ho : K.lookup f = some ⟨oc, od, .func (fnOf name qual params body scope dV kV doc pm an cdv ct), osl⟩) (hcd : codeIn K cdv qual = true) (hroom : A.depth < recursionLimit)
    (hbind : BindsTo s (fnOf name qual params body scope dV kV doc pm an cdv ct) args binds) (hloc : ∀ y ∈ binds, scope.names.lookup y.1 = some .local)
    (h : ∀ L' h₁, L' = s.heap.objs.size → Fr s.heap L' h₁ (fun y => binds.reverse.lookup y) → News s.heap L' h₁ [] → Below A base (env :: outer) s.heap → K.In s.heap → Top p loose mean mg mb s.heap →
      wpC (model prog w) (A.deeper (envOf qual scope L' f cdv)) (execs body (envOf qual scope L' f cdv))
        (fun fl s' => R (.ok (.ret (match fl with | .ret v => v | _ => .none))) s')
        (fun e s' => wpAny (model prog w) (A.deeper (envOf qual scope L' f cdv)) (leaving (envOf qual scope L' f cdv) e) (fun _ s'' => R (.error e) s'') (fun e' s'' => R (.error e') s'') s')
        { s with heap := h₁, toks := s.toks + binds.length })
    (hco : scope.isCoroutine = false) (hgen : scope.isGenerator = false) (hk : scope.kind = .function)
    (hcell : ∀ x ∈ scope.names, x.2 ≠ .cell) : codeC (model prog w) A (.call (.ref f) args) R s := by
  obtain ⟨_, BG, st, _⟩ := groundX (R := R) B F News.nil hA hf hke
  have st' : base.StaysIn s.heap := fun b o e => F.keep b o (B.stays b o e)
  refine codeC_call_def (fd := fnOf name qual params body scope dV kV doc pm an cdv ct) (body := body) (binds := binds) hroom ((X₀.keeps st') _ _ ho) rfl ((T.keeps st').nolimit) (codeRec_of (X₀.keeps st') hcd) rfl hbind hcell hloc (fun h₁ hns hk₁ => ?_) hco hgen hk
  exact h _ h₁ rfl ⟨hns, hk₁, Nat.le_refl _⟩ News.nil BG (X₀.keeps st') (T.keeps st')
end
section
variable {M : Model} {A : Around} {E : Value → Shared → Prop} {s : Shared} {env : Env}
theorem wpC_execs_cons {st : Stmt} {rest : List Stmt} {Q : Flow → Shared → Prop} (h : wpC M A (exec st env) (fun f s' => match f with | .next => wpC M A (execs rest env) Q E s' | f => Q f s') E s) : wpC M A (execs (st :: rest) env) Q E s := by
  rw [execs_cons]
  refine wpC_bind (wpC_mono h (fun f s' h' => ?_) fun _ _ x => x)
  cases f <;> first | exact h' | exact wpC_pure h'
theorem wpC_execs_nil {Q : Flow → Shared → Prop} (h : Q .next s) : wpC M A (execs [] env) Q E s := wpC_any (wpAny_execs_nil h)
theorem wpC_If {test : Expr} {body orelse : List Stmt} {pos : Pos} {Q : Flow → Shared → Prop}
    (h : wpAny M A (isTrue test env (eval test env)) (fun b s₂ => if b then wpC M A (execs body env) Q E s₂ else wpC M A (execs orelse env) Q E s₂) E s) : wpC M A (exec (.If test body orelse pos) env) Q E s := by
  rw [exec_If]
  refine wpC_then (wpAny_standAt (wpC_then (wpAny_mono h (fun b s₂ h₂ => ?_) fun _ _ x => x)))
  cases b <;> exact h₂
theorem wpC_Assign_Name {x : Str} {pos' pos : Pos} {value : Expr} {Q : Flow → Shared → Prop} (h : wpC M A (eval value env) (fun v s₁ => wpAny M A (storeName env x v) (fun _ s₂ => Q .next s₂) E s₁) E s)
    (hs : swapsWith value (some (.Name x pos')) pos.line env = pure false := by rfl) : wpC M A (exec (.Assign [.Name x pos'] value pos) env) Q E s := by
  rw [exec_Assign_Name env x pos' value pos hs]
  refine wpC_then (wpAny_standAt (wpC_bind (wpC_mono h (fun v s₁ h₁ => ?_) fun _ _ x => x)))
  exact wpC_any (wpAny_bind (wpAny_standAt (wpAny_bind (wpAny_bindName (wpAny_mono h₁ (fun _ _ hq => wpAny_pure hq) fun _ _ x => x)))))
end
end Mine
end
section
open PySem PySem.W PyProof.Rows
namespace Mine
local macro_rules | `(tactic| walk_at "RESTART") => `(tactic| skip)
theorem restart_HeadC {M : Model} {A : Around} {E : Value → Shared → Prop} {s : Shared} {Q : Value → Shared → Prop} (h : Q .none s) : wpAny M A (pure Value.none) Q E s := by
  w_top off
  first
    | (walk1; fail "on")
    | exact wpAny_pure h
end Mine
end
section
open PySem PySem.W PySem.Calls PyProof.Rows PySem.Spec
open Sem (wp)
set_option maxRecDepth 100000
namespace Mine
theorem wp_of_wpC_done {M : Model} {A : Around} {Γ : PySem.Ctx} {t : Sem Fin} {R : Result → Shared → Prop} {s : Shared} (hin : Γ.In A) (hc : Cal Γ)
    (h : wpC M A t (fun fin s' => ∃ f, fin = .done f ∧ R (.ok f) s') (fun e s' => R (.error e) s') s) (p : Pos) : wp M Γ t (Sem.finPost M Γ R) (fun e _ s' => R (.error e) s') p s := by
  refine Sem.wp_mono M Γ t (fun fin p' s' h' => ?_) (fun _ _ _ h' => h') p s (h Γ p hin hc)
  obtain ⟨f, rfl, hf⟩ := h'
  exact hf
theorem caller_cal : Cal ⟨.builtin "claim.caller" {}, none, none, [], none⟩ := .inl rfl
theorem threadC {prog : Program} {w : World} {t : Sem Fin} {s : Shared} {R : Result → Shared → Prop} (hreg : s.asleep)
    (h : wpC (model prog w) callerA t (fun fin s' => ∃ f, fin = .done f ∧ (R (.ok f) s' ∧ leftWithCleanup s'.gens = false)) (fun e s' => R (.error e) s' ∧ leftWithCleanup s'.gens = false) s) :
    ∃ n r s' s'', runN (denote table) prog w n s ⟨t, .builtin "claim.caller" {}, default, []⟩ = .halted (outcomeOf r) s' ∧
      schedN (denote table) prog w n (.single s ⟨t, .builtin "claim.caller" {}, default, []⟩) = .halted (outcomeOf r) s' ∧ s'.forget = s''.forget ∧ R r s'' := by
  obtain ⟨n, r, s₁, s₂, hs, hn, hfo, hR⟩ := wp_halts_full (M := model prog w) (R := R) hreg (wp_of_wpC_done (R := fun r s' => R r s' ∧ leftWithCleanup s'.gens = false) caller_in caller_cal h default)
  exact ⟨n, r, s₂, s₁, hn, hs, hfo, hR⟩
theorem callFromC {c : ClaimW} {tree : List Value → Sem Fin} {w : World} {s : Shared} {free : Addr → Prop} {gens : Prop} {kept : Heap → Prop} (hz : s.asleep) (hgens : s.gens = #[])
    (hspec : ∀ args, c.pre args = true → WData.layableAll args = true → ∀ ord : List DictEntry → List DictEntry, (∀ l, (ord l).Perm l) →
      ∃ vs s₁, layAllW c.records (classAt s.heap) w.params ord args s = some (vs, s₁) ∧
        wpC (model c.prog w) callerA (tree vs) (fun fin s' => ∃ f, fin = .done f ∧ (c.Ends s args vs s₁ (.ok f) s' ∧ s'.os = s.os ∧ AllBare s'.gens ∧ kept s'.heap))
          (fun e s' => c.Ends s args vs s₁ (.error e) s' ∧ s'.os = s.os ∧ AllBare s'.gens ∧ kept s'.heap) s₁) :
    c.CallFrom (fun vs => ⟨tree vs, .builtin "claim.caller" {}, default, []⟩) w free gens kept s := by
  intro args hpre hlay ord hord
  obtain ⟨vs, s₁, hlaid, hcode⟩ := hspec args hpre hlay ord hord
  have rest := layAllW_rest _ _ _ hlaid
  obtain ⟨k, r, s', s'', hrun, hsched, hfo, hends, hos, hkept⟩ := threadC (prog := c.prog) (w := w) (t := tree vs) (s := s₁) (R := fun r s' => c.Ends s args vs s₁ r s' ∧ s'.os = s.os ∧ kept s'.heap)
    (Shared.asleep_of_life rest.2.2.2 hz)
    (wpC_mono hcode (fun fin s' ⟨f, e, h1, h2, h3, h4⟩ => ⟨f, e, ⟨h1, h2, h4⟩, leftWithCleanup_false_of_bare h3⟩) fun e s' ⟨h1, h2, h3, h4⟩ => ⟨⟨h1, h2, h4⟩, leftWithCleanup_false_of_bare h3⟩)
  obtain ⟨eh, _, _, eo, _⟩ := Shared.forget_eq hfo
  have hends := hends.congr eh
  have hkept : kept s'.heap := by rw [eh]; exact hkept
  rw [← eo] at hos
  have hlife : s'.heap.life = s.heap.life := (runN_life _ _ _ hrun).trans rest.2.2.2
  refine ⟨vs, s₁, hlaid, k, _, s', hsched, ?_, (fun _ i x hx => by rw [hgens] at hx; simp at hx), hkept, by rw [hlife], Shared.rest_eq hos⟩
  rcases hends with ⟨v, rfl, d1, d2, d3, d4, d5⟩ | ⟨e, ob, cls, rfl, d1, d2, d3, d4, d5⟩
  · exact .inl ⟨v, rfl, d1, d2, d3, fun b o y _ => d4 b o y, d5⟩
  · exact .inr ⟨e, ob, cls, rfl, d1, d2, d3, d4, fun b o y _ => d5 b o y⟩
/-- what is left of the head: the call, over contexts that bear the caller -/
abbrev WalkC (q : Program) (loose : List Str) (XP : (Str → Option Value) → Heap → Prop) (YP : World → Heap → Prop) (r : RowW) (d : DefRec) (kwd : List (Str × Expr)) : Prop :=
  ∀ (w : World) (s₀ s₁ : Shared) (mg mb : Str → Option Value), Ground q loose r.records XP w s₀ mg mb s₁.heap → YP w s₁.heap → ∀ (a : Addr) (o : Obj) (pm cd doc dV kV : Value), s₁.heap.get? a = some o →
    o.data = .func { docDef d.name d.params d.body d.scope pm cd doc with defaults := dV, kwdefaults := kV } → s₁.heap.CodeRec cd d.name → Dflts mg s₁.heap d.params kwd dV kV → mg d.name = some (.ref a) → s₁.gens = #[] →
    ∀ (args : List WData) (vals : List Value) (as : List Addr), r.claim.pre args = true → WData.layableAll args = true → ReadsAllW r.records (classAt s₀.heap) s₁.heap vals args as → WellAll w.params s₁.heap vals args → (∀ a ∈ as, (a == sysModules) = false) →
      wpC (model r.prog w) callerA (PySem.call (.ref a) vals) (fun v s' => GoodWG r.claim (classAt s₀.heap) (ExcName.means s₀.heap) args s₁ (.ok (.ret v)) s')
        (fun e s' => GoodWG r.claim (classAt s₀.heap) (ExcName.means s₀.heap) args s₁ (.error e) s') s₁
theorem PySem.W.holds_open {r : OpenRow} {q : Program} {loose : List Str} {Xt : Shared → Bool} {XP : (Str → Option Value) → Heap → Prop} {α : Type} {Yf : Shared → α} {Ya : World → α} {YP : World → Heap → Prop} {d : DefRec} {kwd : List (Str × Expr)} {N : Nat}
    (left : LeftO r.prog q loose Xt Yf Ya N) (hY : ∀ w s, Yf s = Ya w → YP w s.heap) (hYk : ∀ w h h', YP w h → (∀ b o, h.get? b = some o → h'.get? b = some o) → YP w h')
    (hX : ∀ s, Xt s = true → XP (s.heap.nsMap mainGlobals) s.heap) (hXk : ∀ mg h h', XP mg h → (∀ b o, h.get? b = some o → h'.get? b = some o) → XP mg h')
    (hdef : defOf q r.name = some (d, kwd)) (hp : r.prog.theDef r.name = some (d.params, d.body, d.scope)) (hk : kwWritten? d.params.kwonlyargs d.params.kw_defaults = some kwd) (hRf : ∀ s, Xt s = true → RecFacts r.records s.heap) (hwr : (!r.writes || r.records.isEmpty) = true)
    (k1 : r.wellSaid = true) (ok : (chainsOk q && opensWell r.prog && (frees r.toRowW && r.within.isEmpty)) = true) (hb : r.prog.bare) (hw : r.toRowW.promised)
    (call : WalkC q loose XP YP r.toRowW d kwd) : r.Holds := by
  refine ⟨k1, hw, ?_⟩
  obtain ⟨ok, k5⟩ := Bool.and_eq_true_iff.mp ok
  obtain ⟨hch, o1⟩ := Bool.and_eq_true_iff.mp ok
  obtain ⟨k5, k6⟩ := Bool.and_eq_true_iff.mp k5
  obtain ⟨hsame, hu, ha, hap, hm⟩ := frees_parts k5
  refine ⟨⟨hb, o1, by show r.toRowW.makers.map _ = []; rw [hm]; rfl⟩, hw.witness, fun w => ⟨(left.behind hX hch w).1, fun s' hs' => ?_⟩⟩
  obtain ⟨s₀, hf, hg0, s, hT, hz, hgens, hg, G00, y⟩ := (left.behind (XP := fun mg h => XP mg h ∧ RecFacts r.records h) (fun s hs => ⟨hX s hs, hRf s hs⟩) hch w).2 s' hs'
  have G0 : Ground q loose [] XP w s (s.heap.nsMap mainGlobals) (s.heap.nsMap builtinsNs) s.heap := ⟨G00.T, G00.B, G00.D, G00.TE, G00.TD, G00.W, G00.X.1, G00.cls, G00.has, G00.apart, G00.once, G00.K⟩
  have RF := G00.X.2
  have hT' := hT
  refine ⟨s₀, hf, hg0, s, hT, ?_, RF.1, RF.2.1, ?_⟩
  · intro n hn
    obtain rfl : n = r.name := by split at hn <;> simp_all
    exact pinned_of_view hg G0 hdef hp hk
  have hgens : s.gens = #[] := Array.eq_empty_of_size_eq_zero (beq_iff_eq.mp hgens)
  have G : Ground q loose r.records XP w s _ _ s.heap := RF.ground G0
  refine callFromC (c := r.toRowW.claim) hz hgens fun args hpre hlay ord hord => ?_
  obtain ⟨⟨vs, s₁⟩, hlaid⟩ := Option.isSome_iff_exists.mp (layAllW_isSome (P := w.params) (ord := ord) G.has args r.toRowW.args s (pre_splitW hpre).1)
  have keeps := layAllW_keeps _ _ _ hlaid
  have hal := layAllW_rest _ _ _ hlaid
  obtain ⟨as, hrd, hin, hold⟩ := reads_layAllW hord _ _ _ hlaid hlay s₁.heap (fun _ _ e => e)
  have L : Laid r.records w s s₁ args vs as := ⟨⟨ord, hord, hlaid⟩, hrd, hin, hold, keeps, hal.1.trans hgens, hal.2.2.1⟩
  have G₁ := G.keeps hXk keeps
  have hi := ident_freeW hu ha hap
  have hwi : r.toRowW.claim.within = [] := List.isEmpty_iff.mp k6
  obtain ⟨a, o, pm, cd, doc, dV, kV, h1, h2, h3, h4, h5⟩ := G₁.fn hdef
  have h := call w s s₁ _ _ G₁ (hYk _ _ _ (hY w s y) keeps) a o pm cd doc dV kV h2 h3 h4 h5 (defOf_name hdef ▸ h1) L.gens args vs as hpre hlay L.reads L.well (L.low G.low)
  refine ⟨vs, s₁, hlaid, ?_⟩
  refine wpC_then (wpAny_nsGet G₁.T.g ?_)
  rw [h1]
  refine wpC_bind (wpC_mono h (fun v s' g => wpC_pure ?_) fun e s' g => ?_)
  · have z := g.laid (c := r.toRowW.claim) hsame hwi hi L
    exact ⟨_, rfl, z.1, z.2.1, z.2.2, fun q => ⟨namesKept_of hT' hg _ keeps g.2.1.old, noTable hwr q⟩⟩
  · have z := g.laid (c := r.toRowW.claim) hsame hwi hi L
    exact ⟨z.1, z.2.1, z.2.2, fun q => ⟨namesKept_of hT' hg _ keeps g.2.1.old, noTable hwr q⟩⟩
end Mine
end
section
open PySem PySem.W PyProof.Rows
namespace Mine
local macro_rules | `(tactic| walk_at "RESTART") => `(tactic| skip)
theorem restart_Top2 {M : Model} {A : Around} {E : Value → Shared → Prop} {s : Shared} {Q : Value → Shared → Prop} (h : Q .none s) : wpAny M A (pure Value.none) Q E s := by
  w_top off
  first
    | (walk1; fail "on")
    | exact wpAny_pure h
end Mine
end
section
open PySem PySem.W PyProof.Rows
namespace Mine
set_option maxRecDepth 100000 in
set_option maxHeartbeats 8000000 in
open_top hd for PySem.Challenge.rw_ez0286_01
end Mine
end
section
open PySem PySem.W PyProof.Rows
namespace Mine
local macro_rules | `(tactic| walk_at "RESTART") => `(tactic| skip)
theorem restart_Base1 {M : Model} {A : Around} {E : Value → Shared → Prop} {s : Shared} {Q : Value → Shared → Prop} (h : Q .none s) : wpAny M A (pure Value.none) Q E s := by
  w_top off
  first
    | (walk1; fail "on")
    | exact wpAny_pure h
end Mine
end
section
open PySem PySem.W PySem.Calls PyProof.Rows PySem.Spec
set_option maxRecDepth 100000
namespace Mine
section
variable {prog : Program} {w : World} {A A₀ : Around} {s : Shared} {K : Frag} {L : Addr} {h₀ base : Heap} {m mg mb : Str → Option Value} {p : Program} {loose : List Str} {mean : ExcName → Option Value}
theorem enter {env : Env} {outer : List Env} {R : Result → Shared → Prop} {name qual : Str} {params : Arguments} {body : List Stmt} {scope : Scope} {dV kV doc pm cdv ct oc : Value} {an od : Option Addr} {osl : Array (Option Value)} {f : Addr} {args : Args} {binds : List (Str × Value)}
    (B : Below A₀ base outer h₀) (F : Fr h₀ L s.heap m) (X₀ : K.In base) (T : Top p loose mean mg mb base) (hA : A.frames = some (env :: outer)) (hf : env.frame = some L) (hke : env.scope.kind = .function)
    (ho : K.lookup f = some ⟨oc, od, .func (fnOf name qual params body scope dV kV doc pm an cdv ct), osl⟩) (hcd : codeIn K cdv qual = true) (hroom : A.depth < recursionLimit)
    (hbind : BindsTo s (fnOf name qual params body scope dV kV doc pm an cdv ct) args binds) (hloc : ∀ y ∈ binds, scope.names.lookup y.1 = some .local)
    (h : ∀ L' h₁, L' = s.heap.objs.size → Fr s.heap L' h₁ (fun y => binds.reverse.lookup y) → News s.heap L' h₁ [] → Below A base (env :: outer) s.heap → K.In s.heap → Top p loose mean mg mb s.heap →
      wpAny (model prog w) (A.deeper (envOf qual scope L' f cdv)) (execs body (envOf qual scope L' f cdv))
        (fun fl s' => R (.ok (.ret (match fl with | .ret v => v | _ => .none))) s')
        (fun e s' => wpAny (model prog w) (A.deeper (envOf qual scope L' f cdv)) (leaving (envOf qual scope L' f cdv) e) (fun _ s'' => R (.error e) s'') (fun e' s'' => R (.error e') s'') s')
        { s with heap := h₁, toks := s.toks + binds.length })
    (hco : scope.isCoroutine = false) (hgen : scope.isGenerator = false) (hk : scope.kind = .function)
    (hcell : ∀ x ∈ scope.names, x.2 ≠ .cell) : codeAny (model prog w) A (.call (.ref f) args) R s := by
  obtain ⟨_, BG, st, _⟩ := groundX (R := R) B F News.nil hA hf hke
  have st' : base.StaysIn s.heap := fun b o e => F.keep b o (B.stays b o e)
  refine codeAny_call_def (fd := fnOf name qual params body scope dV kV doc pm an cdv ct) (body := body) (binds := binds) hroom ((X₀.keeps st') _ _ ho) rfl ((T.keeps st').nolimit) (codeRec_of (X₀.keeps st') hcd) rfl hbind hcell hloc (fun h₁ hns hk₁ => ?_) hco hgen hk
  exact h _ h₁ rfl ⟨hns, hk₁, Nat.le_refl _⟩ News.nil BG (X₀.keeps st') (T.keeps st')
end
/-- what a call leaves of the heap: all stands, but for the slots of the frames' dicts -/
structure Step (fs : List Addr) (h h' : Heap) : Prop where
  keep : ∀ b o, h.get? b = some o → b ∉ fs → h'.get? b = some o
  frame : ∀ b o, h.get? b = some o → b ∈ fs → ∃ sl, h'.get? b = some { o with slots := sl }
/-- a contract of a def that raises nothing and changes nothing that stood -/
def Ctr (w : World) (k : Nat) (f : Addr) (vs : List Value) (Pre : Heap → Prop) (Post : List (Addr × Obj) → Value → Prop) : Prop :=
  ∀ (mean : ExcName → Option Value) (mg mb : Str → Option Value) (dp un : Nat) (gd : Option (List Code)) (cn : Str) (cs : Scope) (a : Addr) (ccd : Value) (cl : List (Str × Addr)) (outer : List Env) (A₀ : Around) (base h₀ : Heap) (L : Addr) (m : Str → Option Value) (s : Shared) (Q E : Value → Shared → Prop),
    Below A₀ base outer h₀ → (hd.heap_39 w.params).In base → Top hd.view_39 (looseW hd.view_39 [Str.ofString "_tuplegetter", Str.ofString "Time", Str.ofString "NMEASentence", Str.ofString "BWC"]) mean mg mb base → Fr h₀ L s.heap m → cs.kind = .function → dp + k < recursionLimit → un + 10 * k < cLine → Pre s.heap →
    (∀ v h' tk' new, s.heap.StaysIn h' → News s.heap L h' new → Post new v → Q v { s with heap := h', toks := tk' }) →
    wpAny (model PySem.Challenge.rw_ez0286_01.row.prog w) (ktrTop dp un gd cn cs L a ccd cl outer) (call (.ref f) vs) Q E s
theorem Ctr.use {w : World} {k : Nat} {f : Addr} {vs : List Value} {Pre : Heap → Prop} {Post : List (Addr × Obj) → Value → Prop} (C : Ctr w k f vs Pre Post)
    {mean : ExcName → Option Value} {mg mb : Str → Option Value} {dp un : Nat} {gd : Option (List Code)} {cn : Str} {cs : Scope} {a : Addr} {ccd : Value} {cl : List (Str × Addr)} {outer : List Env} {A₀ : Around} {base h₀ : Heap} {L : Addr} {m : Str → Option Value} {s : Shared} {Q E : Value → Shared → Prop} {news : List (Addr × Obj)}
    (B : Below A₀ base outer h₀) (X : (hd.heap_39 w.params).In base) (T : Top hd.view_39 (looseW hd.view_39 [Str.ofString "_tuplegetter", Str.ofString "Time", Str.ofString "NMEASentence", Str.ofString "BWC"]) mean mg mb base)
    (F : Fr h₀ L s.heap m) (N : News h₀ L s.heap news) (hk : cs.kind = .function) (hd' : dp + k < recursionLimit) (hu : un + 10 * k < cLine) (hp : Pre s.heap)
    (h : ∀ v h' tk' new, Fr h₀ L h' m → News h₀ L h' (new ++ news) → (∀ p ∈ new, ∀ q ∈ news, q.1 ≠ p.1) → s.heap.StaysIn h' → Post new v → Q v { s with heap := h', toks := tk' }) :
    wpAny (model PySem.Challenge.rw_ez0286_01.row.prog w) (ktrTop dp un gd cn cs L a ccd cl outer) (call (.ref f) vs) Q E s := by
  refine C mean mg mb dp un gd cn cs a ccd cl outer A₀ base h₀ L m s Q E B X T F hk hd' hu hp fun v h' tk' new st N' po => ?_
  obtain ⟨oL, es, ep, hL, hLr⟩ := F.ns
  refine h v h' tk' new ⟨⟨oL, es, ep, st _ _ hL, hLr⟩, fun b o e => st b o (F.keep b o e), F.above⟩ (fun p hp => ?_) (fun p hp q hq e => ?_) st po
  · rcases List.mem_append.mp hp with hp | hp
    · refine ⟨(N' p hp).1, (N' p hp).2.1, ?_⟩
      cases q : h₀.get? p.1 with
      | none => rfl
      | some o => have := F.keep _ _ q; rw [(N' p hp).2.2] at this; cases this
    · exact ⟨st _ _ (N p hp).1, (N p hp).2⟩
  · have := (N q hq).1
    rw [e, (N' p hp).2.2] at this
    cases this
end Mine
end
section
open PySem PySem.W PyProof.Rows
namespace Mine
local macro_rules | `(tactic| walk_at "RESTART") => `(tactic| skip)
theorem restart_Two {M : Model} {A : Around} {E : Value → Shared → Prop} {s : Shared} {Q : Value → Shared → Prop} (h : Q .none s) : wpAny M A (pure Value.none) Q E s := by
  w_top off
  first
    | (walk1; fail "on")
    | exact wpAny_pure h
end Mine
end
section
open PySem PySem.W PySem.Calls PyProof.Rows PySem.Spec
set_option maxRecDepth 100000
namespace Mine
def two (n : Int) : Str := ⟨#[48 + n.toNat / 10, 48 + n.toNat % 10]⟩
theorem two_slice : ∀ k : Nat, k < 100 → Txt.slice (Str.ofString (toString (100 + (k : Int)))) (some 1) none = two (k : Int) := by decide +kernel
theorem two_slice' {n : Int} (h0 : 0 ≤ n) (h1 : n < 100) : Txt.slice (Str.ofString (toString (100 + n))) (some 1) none = two n := by
  obtain ⟨k, rfl⟩ := Int.eq_ofNat_of_zero_le h0
  exact two_slice k (by omega)
set_option maxHeartbeats 8000000 in
theorem two_ok (w : World) (n : Int) (t : Tok) (h0 : 0 ≤ n) (h1 : n < 100) :
    Ctr w 4 405 [.int n t] (fun _ => True) (fun new v => new = [] ∧ ∃ t', v = .str (two n) t') := by
  unfold Ctr
  k_fill
  intro mean mg mb dp un gd cn cs a ccd cl outer A₀ base h₀ L m s Q E B X T F hk hd hu _ hret
  refine wpAny_call ?_
  refine' enter ?k1 ?k2 ?k3 ?k4 ?kA ?kF ?kK ?k6 ?k7 ?k8 ?k9 ?kB ?_ ?c2 ?c3 ?c4 ?c5
  case kA => exact rfl
  case kF => exact rfl
  case kK => assumption
  case k1 => k_asm
  case k2 => k_asm
  case k3 => k_asm
  case k4 => k_asm
  case k6 => k_is
  case k7 => k_is
  case k8 => ktr_room
  case k9 => exact BindsTo.of_eq rfl
  case kB => exact locs rfl
  case c2 => exact rfl
  case c3 => exact rfl
  case c4 => exact rfl
  case c5 => decide
  intro L' h₁ hL F' N' B' X' T'
  dsimp only
  k_steps
  exact hret _ _ _ [] (Fr.keep (by assumption)) News.nil ⟨rfl, _, congrArg (fun x => Value.str x _) (two_slice' h0 h1)⟩
end Mine
end
section
open PySem PySem.W PyProof.Rows
namespace Mine
local macro_rules | `(tactic| walk_at "RESTART") => `(tactic| skip)
theorem restart_Text1 {M : Model} {A : Around} {E : Value → Shared → Prop} {s : Shared} {Q : Value → Shared → Prop} (h : Q .none s) : wpAny M A (pure Value.none) Q E s := by
  w_top off
  first
    | (walk1; fail "on")
    | exact wpAny_pure h
end Mine
end
section
open PySem PySem.W PySem.Calls PyProof.Rows PySem.Spec
set_option maxRecDepth 100000
namespace Mine
def fracStep (d : Int) (st : Str × Int × Int) (k : Int) : Str × Int × Int :=
  if k ≤ d then (st.1 ++ Str.ofString (toString (st.2.2.fmod 10)), (if k < 6 then 10 * st.2.1 + st.2.2.fmod 10 else st.2.1), st.2.2.fdiv 10)
  else (st.1, if k < 6 then 10 * st.2.1 else st.2.1, st.2.2)
def fracN (d : Int) : Nat → Str × Int × Int → Str × Int × Int
  | 0, st => st
  | n + 1, st => fracStep d (fracN d n st) (n : Int)
def fracEnd (d r : Int) (x : Str) : Str × Int × Int := fracN d 8 (x, 0, r)
def pickOf (p d r : Int) (x : Str) (b : Bool) : Str × Int × Bool :=
  if 1 ≤ p ∧ p ≤ 4 then ((fracEnd d r (x ++ Str.ofString ".")).1, (fracEnd d r (x ++ Str.ofString ".")).2.1, b)
  else if p = 5 then (x ++ Str.ofString ".", 0, false)
  else if p = 6 then (x ++ Str.ofString ":5", 0, false)
  else if p = 7 then (x ++ Str.ofString ".5x", 0, false)
  else (x, 0, b)
structure RowOf (ns : List Int) : Prop where
abbrev dOf {ns : List Int} (_ : RowOf ns) : Int := ((ns.getD (Int.toNat 3) 0).fdiv 8).fmod 8
theorem dOf_eq {ns : List Int} (h : RowOf ns) : dOf h = ((ns.getD (Int.toNat 3) 0).fdiv 8).fmod 8 := rfl
abbrev rOf {ns : List Int} (_ : RowOf ns) : Int := ns.getD (Int.toNat 4) 0
theorem wpAny_cut {α : Type} {M : Model} {A : Around} {t : Sem α} {R Q : α → Shared → Prop} {E : Value → Shared → Prop} {s : Shared} (h : wpAny M A t R E s) (k : ∀ a s', R a s' → Q a s') : wpAny M A t Q E s := wpAny_mono h k fun _ _ x => x
theorem fig_len : ∀ k : Nat, k < 10 → (Str.ofString (toString (k : Int))).length = 1 := by decide
theorem fig_len' (r : Int) : (Str.ofString (toString (r.fmod 10))).length = 1 := by
  have h0 : 0 ≤ r.fmod 10 := Int.fmod_nonneg_of_pos _ (by decide)
  have h1 : r.fmod 10 < 10 := Int.fmod_lt_of_pos _ (by decide)
  obtain ⟨k, hk⟩ := Int.eq_ofNat_of_zero_le h0
  rw [hk] at h1 ⊢
  exact fig_len k (by omega)
theorem any4 (p : Int) : (([1, 2, 3, 4] : List Int).any fun x => x == p) = decide (1 ≤ p ∧ p ≤ 4) := by
  rw [Bool.eq_iff_iff]
  simp only [List.any_cons, List.any_nil, Bool.or_eq_true, beq_iff_eq, decide_eq_true_eq, Bool.or_false]
  omega
theorem two_len (n : Int) : (two n).length = 2 := rfl
theorem lit_dot : (Str.ofString ".").length = 1 := by decide
structure CutMark (n : Nat) : Prop where
/-- the end of a value that is a bool -/
def BoolEnd (s : Shared) (c : Prop) (v : Value) (s' : Shared) : Prop := ∃ b tk, v = .bool b ∧ (b = true ↔ c) ∧ s' = { s with toks := tk }
theorem good_cut {M : Model} {A : Around} {t : Sem Value} {Q : Value → Shared → Prop} {E : Value → Shared → Prop} {s : Shared} {g : Heap} {L : Addr} {m : Str → Option Value} {x y z : Int} {tx ty tz : Tok} (_F : Fr g L s.heap m)
    (_hx : m (Str.ofString "hour") = some (.int x tx)) (_hy : m (Str.ofString "minute") = some (.int y ty)) (_hz : m (Str.ofString "second") = some (.int z tz))
    (h : CutMark 1 → wpAny M A t (fun v s' => BoolEnd s (x < 24 ∧ y < 60 ∧ z < 60) v s') E s) (k : ∀ b tk, (b = true ↔ (x < 24 ∧ y < 60 ∧ z < 60)) → Q (.bool b) { s with toks := tk }) : wpAny M A t Q E s :=
  wpAny_cut (h ⟨⟩) fun v s' ⟨b, tk, hv, hb, hs⟩ => by subst hv; subst hs; exact k b tk hb
theorem bool_end {s : Shared} {c p : Prop} [Decidable p] {tk : Nat} (h : p ↔ c) : BoolEnd s c (.bool (decide p)) { s with toks := tk } := ⟨_, tk, rfl, by rw [decide_eq_true_eq]; exact h, rfl⟩
/-- the names of the loop over the figures -/
abbrev fracMap (m₀ : Str → Option Value) (ok : Option Value) (x : Str) (v r : Int) (tx tv tr : Tok) : Str → Option Value :=
  fun y => if y = Str.ofString "k" then ok else if y = Str.ofString "rest" then some (.int r tr) else if y = Str.ofString "value" then some (.int v tv) else if y = Str.ofString "text" then some (.str x tx) else m₀ y
def FracTurn (g : Heap) (L : Addr) (m₀ : Str → Option Value) (own : List (Addr × Obj)) (n : Nat) (st : Str × Int × Int) (s : Shared) (f : Flow) (s' : Shared) : Prop :=
  f = .next ∧ ∃ tx tv tr ok h tk, s' = { s with heap := h, toks := tk } ∧ Fr g L h (fracMap m₀ ok st.1 st.2.1 st.2.2 tx tv tr) ∧ News g L h own ∧ st.1.length ≤ n
theorem fracMap_of {m m₀ : Str → Option Value} {x : Str} {v r : Int} {tx tv tr : Tok} (hx : m (Str.ofString "text") = some (.str x tx)) (hv : m (Str.ofString "value") = some (.int v tv)) (hr : m (Str.ofString "rest") = some (.int r tr))
    (ho : ∀ y, y ≠ Str.ofString "k" → y ≠ Str.ofString "rest" → y ≠ Str.ofString "value" → y ≠ Str.ofString "text" → m y = m₀ y) : m = fracMap m₀ (m (Str.ofString "k")) x v r tx tv tr := by
  funext y
  show m y = if y = Str.ofString "k" then m (Str.ofString "k") else if y = Str.ofString "rest" then some (.int r tr) else if y = Str.ofString "value" then some (.int v tv) else if y = Str.ofString "text" then some (.str x tx) else m₀ y
  by_cases h1 : y = Str.ofString "k"
  · rw [if_pos h1, h1]
  rw [if_neg h1]
  by_cases h2 : y = Str.ofString "rest"
  · rw [if_pos h2, h2, hr]
  rw [if_neg h2]
  by_cases h4 : y = Str.ofString "value"
  · rw [if_pos h4, h4, hv]
  rw [if_neg h4]
  by_cases h5 : y = Str.ofString "text"
  · rw [if_pos h5, h5, hx]
  rw [if_neg h5]
  exact ho y h1 h2 h4 h5
theorem frac_turn {g h : Heap} {L : Addr} {m m₀ : Str → Option Value} {own : List (Addr × Obj)} {n : Nat} {st : Str × Int × Int} {s : Shared} {tk : Nat} {x : Str} {v r : Int} {tx tv tr : Tok} (F : Fr g L h m) (N : News g L h own)
    (hx : m (Str.ofString "text") = some (.str x tx)) (hv : m (Str.ofString "value") = some (.int v tv)) (hr : m (Str.ofString "rest") = some (.int r tr))
    (ho : ∀ y, y ≠ Str.ofString "k" → y ≠ Str.ofString "rest" → y ≠ Str.ofString "value" → y ≠ Str.ofString "text" → m y = m₀ y) (hs : (x, v, r) = st) (hl : x.length ≤ n) : FracTurn g L m₀ own n st s .next { s with heap := h, toks := tk } := by
  subst hs
  exact ⟨rfl, tx, tv, tr, _, h, tk, rfl, fracMap_of hx hv hr ho ▸ F, N, hl⟩
section
variable {prog : Program} {w : World} {A : Around} {E : Value → Shared → Prop} {s : Shared} {env : Env} {g : Heap} {body : List Stmt} {Q : Flow → Shared → Prop}
theorem frac_loop {r : Addr} {t₀ u₀ v₀ : Tok} {m₀ : Str → Option Value} {x0 : Str} {r0 : Int} {tx tv tr : Tok} (d : Int)
    (hh : A.handled = none) (hr : IsRange s.heap r 0 8 1 t₀ u₀ v₀) (F : Fr g env.locals s.heap m₀)
    (hx : m₀ (Str.ofString "text") = some (.str x0 tx)) (hv : m₀ (Str.ofString "value") = some (.int 0 tv)) (hr0 : m₀ (Str.ofString "rest") = some (.int r0 tr)) (hl : x0.length ≤ 7)
    (turn : ∀ (i : Nat) t x v r tx tv tr h tk own, i < 8 → (x, v, r) = fracN d i (x0, 0, r0) → x.length ≤ 7 + i → Fr g env.locals h (fracMap m₀ (some (.int i t)) x v r tx tv tr) → News g env.locals h own →
      wpAny (model prog w) A (execs body env) (FracTurn g env.locals m₀ own (7 + (i + 1)) (fracStep d (x, v, r) (i : Int)) { s with heap := h, toks := tk }) E { s with heap := h, toks := tk })
    (done : ∀ x v r tx tv tr ok h tk, (x, v, r) = fracN d 8 (x0, 0, r0) → x.length ≤ 15 → Fr g env.locals h (fracMap m₀ ok x v r tx tv tr) → Q .next { s with heap := h, toks := tk }) :
    wpAny (model prog w) A (pyIter (.ref r)) (fun it s₂ => LoopAtV prog w A g env (Str.ofString "k") body Q E it s₂) E s := by
  have hsmall : Builtin.Range.small 0 8 1 = true := by decide
  have hn : Builtin.Range.rangeSize 0 8 1 = ((8 : Nat) : Int) := by decide
  refine wpAny_pyIter_range hr hsmall ?_
  have W : Walks prog w A s.heap.objs.size [s.heap.objs.size] [s.heap.objs.size] 8 (fun i v => i < 8 ∧ ∃ t, v = .int (0 + i * 1) t)
      (fun i h => IsRangeIter h s.heap.objs.size (0 + (i : Nat) * 1) (((8 : Nat) : Int) - (i : Nat)) 1) := (Walks.range hh _ 0 1 8).bound
  refine loop_invN (news := []) (m₀ := m₀) (fun i m nx => nx = [] ∧ ∃ x v r tx tv tr ok, (x, v, r) = fracN d i (x0, 0, r0) ∧ x.length ≤ 7 + i ∧ m = fracMap m₀ ok x v r tx tv tr) W ?_ ?_ ?_ ?_ ?_ (F.push _) News.nil ⟨rfl, x0, 0, r0, tx, tv, tr, m₀ (Str.ofString "k"), rfl, hl, fracMap_of hx hv hr0 (fun _ _ _ _ _ => rfl)⟩ ?_ ?_
  · intro hm
    exact absurd F.ns.lt ((List.mem_singleton.mp hm) ▸ Nat.lt_irrefl _)
  · intro b hb
    rw [List.mem_singleton.mp hb]
    exact next_is_new F
  · intro p hp
    cases hp
  · intro p hp
    cases hp
  · show IsRangeIter _ _ _ _ _
    rw [hn]
    simpa using Heap.get?_push_size _ rfl
  · rintro i v m₁ nx h tk own hi ⟨_, t, rfl⟩ _ _ ⟨rfl, x, v, r, tx, tv, tr, ok, hst, hle, rfl⟩ F₁ N₁
    have ek : (0 + (i : Int) * 1) = (i : Int) := by omega
    rw [ek] at F₁
    have F₂ : Fr g env.locals h (fracMap m₀ (some (.int i t)) x v r tx tv tr) := by
      have e : (fun y => if y = Str.ofString "k" then some (Value.int i t) else fracMap m₀ ok x v r tx tv tr y) = fracMap m₀ (some (.int i t)) x v r tx tv tr := by
        funext y
        show (if y = Str.ofString "k" then some (Value.int i t) else if y = Str.ofString "k" then ok else _) = if y = Str.ofString "k" then _ else _
        by_cases h1 : y = Str.ofString "k"
        · rw [if_pos h1, if_pos h1]
        · rw [if_neg h1, if_neg h1, if_neg h1]
      rw [← e]
      exact F₁
    refine wpAny_mono (turn i t x v r tx tv tr h tk own hi hst hle F₂ (by simpa using N₁)) (fun f s₂ q => ?_) fun _ _ e => e
    obtain ⟨rfl, tx', tv', tr', ok', h', tk', rfl, F', N', hle'⟩ := q
    refine InvEndN.intro F' N' ⟨rfl, _, _, _, tx', tv', tr', ok', ?_, hle', rfl⟩ rfl (fun _ hp => nomatch hp) fun p hp => hp
    rw [hst]
    rfl
  · rintro m₁ nx h tk ⟨rfl, x, v, r, tx, tv, tr, ok, hst, hle, rfl⟩ F₁ _
    exact done x v r tx tv tr ok h tk hst hle F₁
end
theorem fracStep_len (d : Int) (st : Str × Int × Int) (k : Int) : (fracStep d st k).1.length ≤ st.1.length + 1 := by
  unfold fracStep
  split
  · show (st.1 ++ Str.ofString (toString (st.2.2.fmod 10))).length ≤ _
    rw [PySem.Str.length_append, fig_len']
    exact Nat.le_refl _
  · exact Nat.le_succ _
theorem fracN_len (d : Int) (st : Str × Int × Int) : ∀ n, (fracN d n st).1.length ≤ st.1.length + n
  | 0 => Nat.le_refl _
  | n + 1 => Nat.le_trans (fracStep_len d _ _) (Nat.succ_le_succ (fracN_len d st n))
theorem lit_colon : (Str.ofString ":5").length = 2 := by decide
theorem lit_x : (Str.ofString ".5x").length = 3 := by decide
theorem pickOf_len {p d r : Int} {x : Str} {b : Bool} (h : x.length ≤ 6) : (pickOf p d r x b).1.length ≤ 15 := by
  unfold pickOf
  (repeat' split)
  · refine Nat.le_trans (fracN_len d _ 8) ?_
    show (x ++ Str.ofString ".").length + 8 ≤ 15
    rw [PySem.Str.length_append, lit_dot]
    omega
  · show (x ++ Str.ofString ".").length ≤ 15
    rw [PySem.Str.length_append, lit_dot]
    omega
  · show (x ++ Str.ofString ":5").length ≤ 15
    rw [PySem.Str.length_append, lit_colon]
    omega
  · show (x ++ Str.ofString ".5x").length ≤ 15
    rw [PySem.Str.length_append, lit_x]
    omega
  · show x.length ≤ 15
    omega
/-- what the row's text and value are behind the picks -/
def PickEnd (g : Heap) (L : Addr) (m : Str → Option Value) (s : Shared) (r : Str × Int × Bool) (f : Flow) (s' : Shared) : Prop :=
  f = .next ∧ ∃ tx tv ok or h tk, s' = { s with heap := h, toks := tk } ∧
    Fr g L h (fun y => if y = Str.ofString "k" then ok else if y = Str.ofString "rest" then or else if y = Str.ofString "good" then some (.bool r.2.2) else if y = Str.ofString "value" then some (.int r.2.1 tv) else if y = Str.ofString "text" then some (.str r.1 tx) else m y)
theorem pick_cut {M : Model} {A : Around} {t : Sem Flow} {Q : Flow → Shared → Prop} {E : Value → Shared → Prop} {s : Shared} {g : Heap} {L : Addr} {m : Str → Option Value} {x : Str} {p : Int} {b : Bool} {tx tp : Tok} (d r : Int) (_F : Fr g L s.heap m)
    (_hx : m (Str.ofString "text") = some (.str x tx)) (_hb : m (Str.ofString "good") = some (.bool b)) (_hp : m (Str.ofString "pick") = some (.int p tp)) (hl : x.length ≤ 6)
    (h : CutMark 2 → wpAny M A t (fun f s' => PickEnd g L m s (pickOf p d r x b) f s') E s)
    (k : ∀ x' v' b' tx tv ok or h tk, (x', v', b') = pickOf p d r x b → x'.length ≤ 15 →
      Fr g L h (fun y => if y = Str.ofString "k" then ok else if y = Str.ofString "rest" then or else if y = Str.ofString "good" then some (.bool b') else if y = Str.ofString "value" then some (.int v' tv) else if y = Str.ofString "text" then some (.str x' tx) else m y) →
      News g L h [] → Q .next { s with heap := h, toks := tk }) : wpAny M A t Q E s :=
  wpAny_cut (h ⟨⟩) fun f s' ⟨hf, tx, tv, ok, or, h, tk, hs, F⟩ => by subst hf; subst hs; exact k _ _ _ tx tv ok or h tk rfl (pickOf_len hl) F News.nil
theorem pick_end {g h : Heap} {L : Addr} {m m' : Str → Option Value} {s : Shared} {r : Str × Int × Bool} {tk : Nat} {x : Str} {v : Int} {b : Bool} {tx tv : Tok} (F : Fr g L h m')
    (hx : m' (Str.ofString "text") = some (.str x tx)) (hv : m' (Str.ofString "value") = some (.int v tv)) (hb : m' (Str.ofString "good") = some (.bool b))
    (ho : ∀ y, y ≠ Str.ofString "k" → y ≠ Str.ofString "rest" → y ≠ Str.ofString "good" → y ≠ Str.ofString "value" → y ≠ Str.ofString "text" → m' y = m y) (hr : (x, v, b) = r) :
    PickEnd g L m s r .next { s with heap := h, toks := tk } := by
  subst hr
  refine ⟨rfl, tx, tv, m' (Str.ofString "k"), m' (Str.ofString "rest"), h, tk, rfl, ?_⟩
  have e : (fun y => if y = Str.ofString "k" then m' (Str.ofString "k") else if y = Str.ofString "rest" then m' (Str.ofString "rest") else if y = Str.ofString "good" then some (.bool b) else if y = Str.ofString "value" then some (.int v tv) else if y = Str.ofString "text" then some (.str x tx) else m y) = m' := by
    funext y
    by_cases h1 : y = Str.ofString "k"
    · subst h1; rfl
    rw [if_neg h1]
    by_cases h2 : y = Str.ofString "rest"
    · subst h2; rfl
    rw [if_neg h2]
    by_cases h3 : y = Str.ofString "good"
    · subst h3; exact hb.symm
    rw [if_neg h3]
    by_cases h4 : y = Str.ofString "value"
    · subst h4; exact hv.symm
    rw [if_neg h4]
    by_cases h5 : y = Str.ofString "text"
    · subst h5; exact hx.symm
    rw [if_neg h5]
    exact (ho y h1 h2 h3 h4 h5).symm
  rw [e]
  exact F
def spoilOf (q c : Int) (x : Str) (b : Bool) : Str × Bool :=
  if q = 5 then (Txt.slice x none (some (c.fmod 5)), false)
  else if q = 6 then (Txt.slice x none (some (c.fmod 6)) ++ Str.ofString "o" ++ Txt.slice x (some (c.fmod 6 + 1)) none, false)
  else if q = 7 then (Str.ofString "", false)
  else (x, b)
abbrev cOf {ns : List Int} (_ : RowOf ns) : Int := ns.getD (Int.toNat 6) 0
def SpoilEnd (g : Heap) (L : Addr) (m : Str → Option Value) (s : Shared) (r : Str × Bool) (f : Flow) (s' : Shared) : Prop :=
  f = .next ∧ ∃ tx op h tk, s' = { s with heap := h, toks := tk } ∧
    Fr g L h (fun y => if y = Str.ofString "place" then op else if y = Str.ofString "good" then some (.bool r.2) else if y = Str.ofString "text" then some (.str r.1 tx) else m y)
theorem spoil_cut {M : Model} {A : Around} {t : Sem Flow} {Q : Flow → Shared → Prop} {E : Value → Shared → Prop} {s : Shared} {g : Heap} {L : Addr} {m : Str → Option Value} {x : Str} {q : Int} {b : Bool} {tx tq : Tok} (c : Int) (_F : Fr g L s.heap m)
    (_hx : m (Str.ofString "text") = some (.str x tx)) (_hb : m (Str.ofString "good") = some (.bool b)) (_hq : m (Str.ofString "spoil") = some (.int q tq))
    (h : CutMark 3 → wpAny M A t (fun f s' => SpoilEnd g L m s (spoilOf q c x b) f s') E s)
    (k : ∀ x' b' tx op h tk, (x', b') = spoilOf q c x b →
      Fr g L h (fun y => if y = Str.ofString "place" then op else if y = Str.ofString "good" then some (.bool b') else if y = Str.ofString "text" then some (.str x' tx) else m y) →
      News g L h [] → Q .next { s with heap := h, toks := tk }) : wpAny M A t Q E s :=
  wpAny_cut (h ⟨⟩) fun f s' ⟨hf, tx, op, h, tk, hs, F⟩ => by subst hf; subst hs; exact k _ _ tx op h tk rfl F News.nil
theorem spoil_end {g h : Heap} {L : Addr} {m m' : Str → Option Value} {s : Shared} {r : Str × Bool} {tk : Nat} {x : Str} {b : Bool} {tx : Tok} (F : Fr g L h m')
    (hx : m' (Str.ofString "text") = some (.str x tx)) (hb : m' (Str.ofString "good") = some (.bool b))
    (ho : ∀ y, y ≠ Str.ofString "place" → y ≠ Str.ofString "good" → y ≠ Str.ofString "text" → m' y = m y) (hr : (x, b) = r) :
    SpoilEnd g L m s r .next { s with heap := h, toks := tk } := by
  subst hr
  refine ⟨rfl, tx, m' (Str.ofString "place"), h, tk, rfl, ?_⟩
  have e : (fun y => if y = Str.ofString "place" then m' (Str.ofString "place") else if y = Str.ofString "good" then some (.bool b) else if y = Str.ofString "text" then some (.str x tx) else m y) = m' := by
    funext y
    by_cases h1 : y = Str.ofString "place"
    · subst h1; rfl
    rw [if_neg h1]
    by_cases h3 : y = Str.ofString "good"
    · subst h3; exact hb.symm
    rw [if_neg h3]
    by_cases h5 : y = Str.ofString "text"
    · subst h5; exact hx.symm
    rw [if_neg h5]
    exact (ho y h1 h3 h5).symm
  rw [e]
  exact F
abbrev rowHead (ns : List Int) : Str := two ((ns.getD (Int.toNat 0) 0).fmod 30) ++ two ((ns.getD (Int.toNat 1) 0).fmod 70) ++ two ((ns.getD (Int.toNat 2) 0).fmod 70)
abbrev rowGood (ns : List Int) : Bool := decide ((ns.getD (Int.toNat 0) 0).fmod 30 < 24 ∧ (ns.getD (Int.toNat 1) 0).fmod 70 < 60 ∧ (ns.getD (Int.toNat 2) 0).fmod 70 < 60)
def rowPick (ns : List Int) : Str × Int × Bool := pickOf ((ns.getD (Int.toNat 3) 0).fmod 8) (((ns.getD (Int.toNat 3) 0).fdiv 8).fmod 8) (ns.getD (Int.toNat 4) 0) (rowHead ns) (rowGood ns)
def rowSpoil (ns : List Int) : Str × Bool := spoilOf ((ns.getD (Int.toNat 5) 0).fmod 8) (ns.getD (Int.toNat 6) 0) (rowPick ns).1 (rowPick ns).2.2
/-- the time that the row asks for, as data -/
def rowFour (ns : List Int) : Dat := if (rowSpoil ns).2 then .list [.int ((ns.getD (Int.toNat 0) 0).fmod 30), .int ((ns.getD (Int.toNat 1) 0).fmod 70), .int ((ns.getD (Int.toNat 2) 0).fmod 70), .int (rowPick ns).2.1] else .none
theorem row_of {ns : List Int} {hr : RowOf ns} {b0 b1 b2 : Bool} {x1 x2 : Str} {v : Int} (hb : b0 = true ↔ ((ns.getD (Int.toNat 0) 0).fmod 30 < 24 ∧ (ns.getD (Int.toNat 1) 0).fmod 70 < 60 ∧ (ns.getD (Int.toNat 2) 0).fmod 70 < 60))
    (e1 : (x1, v, b1) = pickOf ((ns.getD (Int.toNat 3) 0).fmod 8) (dOf hr) (rOf hr) (rowHead ns) b0) (e2 : (x2, b2) = spoilOf ((ns.getD (Int.toNat 5) 0).fmod 8) (cOf hr) x1 b1) : rowPick ns = (x1, v, b1) ∧ rowSpoil ns = (x2, b2) := by
  have h0 : b0 = rowGood ns := by rw [Bool.eq_iff_iff, hb]; simp only [rowGood, decide_eq_true_eq]
  have h1 : rowPick ns = (x1, v, b1) := by rw [e1, h0]; rfl
  refine ⟨h1, ?_⟩
  unfold rowSpoil
  rw [h1, e2]
def RowPost (ns : List Int) (new : List (Addr × Obj)) (v : Value) : Prop :=
  ∃ D tx fv rest c, v = .ref D ∧ new = (D, ({ cls := .type "tuple", data := .seq #[.str (rowSpoil ns).1 tx, fv] c } : Obj)) :: rest ∧ DatIn rest fv (rowFour ns)
theorem row_list {ns : List Int} {hr : RowOf ns} {b0 b1 b2 : Bool} {x1 x2 : Str} {v : Int} {D l : Addr} {tx t1 t2 t3 t4 : Tok} {c d : Nat} (hb : b0 = true ↔ ((ns.getD (Int.toNat 0) 0).fmod 30 < 24 ∧ (ns.getD (Int.toNat 1) 0).fmod 70 < 60 ∧ (ns.getD (Int.toNat 2) 0).fmod 70 < 60))
    (e1 : (x1, v, b1) = pickOf ((ns.getD (Int.toNat 3) 0).fmod 8) (dOf hr) (rOf hr) (rowHead ns) b0) (e2 : (x2, b2) = spoilOf ((ns.getD (Int.toNat 5) 0).fmod 8) (cOf hr) x1 b1) (h2 : b2 = true) :
    RowPost ns [(D, { cls := .type "tuple", data := .seq #[.str x2 tx, .ref l] c }), (l, listOf #[.int ((ns.getD (Int.toNat 0) 0).fmod 30) t1, .int ((ns.getD (Int.toNat 1) 0).fmod 70) t2, .int ((ns.getD (Int.toNat 2) 0).fmod 70) t3, .int v t4] d)] (.ref D) := by
  obtain ⟨p1, p2⟩ := row_of hb e1 e2
  subst h2
  refine ⟨D, tx, .ref l, _, c, rfl, by rw [p2], ?_⟩
  unfold rowFour
  rw [p2, p1, if_pos rfl]
  exact DatIn.list (.head _) (.cons (.int _ _) (.cons (.int _ _) (.cons (.int _ _) (.cons (.int _ _) .nil))))
theorem row_none {ns : List Int} {hr : RowOf ns} {b0 b1 b2 : Bool} {x1 x2 : Str} {v : Int} {D : Addr} {tx : Tok} {c : Nat} (hb : b0 = true ↔ ((ns.getD (Int.toNat 0) 0).fmod 30 < 24 ∧ (ns.getD (Int.toNat 1) 0).fmod 70 < 60 ∧ (ns.getD (Int.toNat 2) 0).fmod 70 < 60))
    (e1 : (x1, v, b1) = pickOf ((ns.getD (Int.toNat 3) 0).fmod 8) (dOf hr) (rOf hr) (rowHead ns) b0) (e2 : (x2, b2) = spoilOf ((ns.getD (Int.toNat 5) 0).fmod 8) (cOf hr) x1 b1) (h2 : b2 = false) :
    RowPost ns [(D, { cls := .type "tuple", data := .seq #[.str x2 tx, .none] c })] (.ref D) := by
  obtain ⟨p1, p2⟩ := row_of hb e1 e2
  subst h2
  refine ⟨D, tx, .none, _, c, rfl, by rw [p2], ?_⟩
  unfold rowFour
  rw [p2, if_neg Bool.false_ne_true]
  exact DatIn.none
theorem news_back {h₀ g h' : Heap} {L L' : Addr} {m : Str → Option Value} {new : List (Addr × Obj)} (F : Fr h₀ L g m) (N : News g L' h' new) : News g L h' new := by
  obtain ⟨oL, es, ep, hL, _⟩ := F.ns
  refine fun p hp => ⟨(N p hp).1, fun e => ?_, (N p hp).2.2⟩
  have := (N p hp).2.2
  rw [e, hL] at this
  cases this
local macro_rules | `(tactic| walk_at "subscriptTail") => `(tactic| (k_here; (with_reducible show wpAny _ _ (subscriptTail _ (Expr.Slice none (some _) none _) (Value.str _ _) (Value.ref _)) _ _ _); (with_reducible rename Fr _ _ _ _ => F9); (with_reducible rename News _ _ _ _ => N9); k_dflt (refine' slice_strN_ns_len (hsz := ?hsz) (s := ⟨_, _, _, _, _⟩) F9 N9 ?_; (case hsz => (rw [sizeLine_eq]; omega))); intro h9 t9 k9 F9 N9 hl9; (try k_sweep)))
local macro_rules | `(tactic| walk_at "subscriptTail") => `(tactic| (k_here; (with_reducible show wpAny _ _ (subscriptTail _ (Expr.Slice (some _) none none _) (Value.str _ _) (Value.ref _)) _ _ _); (with_reducible rename Fr _ _ _ _ => F9); (with_reducible rename News _ _ _ _ => N9); k_dflt (refine' slice_strN_sn_len (hsz := ?hsz) (s := ⟨_, _, _, _, _⟩) F9 N9 ?_; (case hsz => (rw [sizeLine_eq]; omega))); intro h9 t9 k9 F9 N9 hl9; (try k_sweep)))
local macro_rules | `(tactic| walk_at "call ref") => `(tactic| (k_here; (with_reducible show wpAny _ _ (call (Value.ref 405) [Value.int _ _]) _ _ _); k_dflt (refine' (two_ok _ _ _ ?h0 ?h1).use (by assumption) (by assumption) (by assumption) (by assumption) (by assumption) ?hk ?hd ?hu trivial ?_; (case hk => exact rfl); (case hd => ktr_room); (case hu => ktr_units); (case h0 => exact Int.fmod_nonneg_of_pos _ (by decide)); (case h1 => exact Int.lt_trans (Int.fmod_lt_of_pos _ (by decide)) (by decide)); k_whole); intro v9 h9 tk9 new9 F9 N9 _ _ hp9; obtain ⟨e9, t9, f9⟩ := hp9; subst e9; subst f9; simp only [List.nil_append] at N9; (try k_sweep)))
local macro_rules | `(tactic| walk_at "eval BoolOp") => `(tactic| (k_here; (with_reducible show wpAny _ _ (eval (Expr.BoolOp BoolOp.And [Expr.Compare (Expr.Name (Str.ofString "hour") _) _ _ _, _, _] _) _) _ _ _); (fail_if_success (with_reducible rename CutMark 1 => zz9)); k_dflt (refine' good_cut ?kF ?k1 ?k2 ?k3 ?_ ?_; (case kF => assumption); (case k1 => exact rfl); (case k2 => exact rfl); (case k3 => exact rfl)); (intro mark9); rotate_left; (intro b9 tk9 hb9); rotate_left))
local macro_rules | `(tactic| walk_at "exec If") => `(tactic| (k_here; (with_reducible show wpAny _ _ (exec (Stmt.If (Expr.Compare (Expr.Name (Str.ofString "pick") _) [CmpOp.In] _ _) _ _ _) _) _ _ _); (fail_if_success (with_reducible rename CutMark 2 => zz9)); k_dflt (refine' pick_cut (dOf (by assumption)) (rOf (by assumption)) ?kF ?k1 ?k2 ?k3 ?hl ?_ ?_; (case kF => assumption); (case k1 => exact rfl); (case k2 => exact rfl); (case k3 => exact rfl); (case hl => (simp only [PySem.Str.length_append, two_len]; decide))); (intro mark9); rotate_left; (intro x9 v9 b9 tx9 tv9 ok9 or9 h9 tk9 e9 hl9 F9 N9); rotate_left))
local macro_rules | `(tactic| walk_at "pyIter ref") => `(tactic| (k_here; k_dflt (refine' frac_loop (dOf (by assumption)) ?hh ?hr ?kF ?k1 ?k2 ?k3 ?hl ?_ ?_; (case hh => exact rfl); (case hr => assumption); (case kF => assumption); (case k1 => exact rfl); (case k2 => exact rfl); (case k3 => exact rfl); (case hl => (simp only [PySem.Str.length_append, two_len, lit_dot]; decide))); (intro i9 t9 x9 v9 r9 tx9 tv9 tr9 h9 tk9 own9 hi9 hst9 hle9 F9 N9); rotate_left; (intro x9 v9 r9 tx9 tv9 tr9 ok9 h9 tk9 hst9 hle9 F9); rotate_left))
local macro_rules | `(tactic| walk_at "FracTurn") => `(tactic| (k_dflt (refine' frac_turn ?kF ?kN ?k1 ?k2 ?k3 ?k4 ?k5 ?k6; (case kF => assumption); (case kN => assumption); (case k1 => exact rfl); (case k2 => exact rfl); (case k3 => exact rfl); (case k4 => (intro y9 hy1 hy2 hy3 hy4; simp only [fracMap, hy1, hy2, hy3, hy4, if_false])); (case k5 => ((have e9 := dOf_eq (by with_reducible assumption)); unfold fracStep; (repeat' split) <;> first | rfl | (exfalso; omega))); (case k6 => first | omega | (rw [PySem.Str.length_append, fig_len']; omega)))))
local macro_rules | `(tactic| walk_at "PickEnd") => `(tactic| (k_dflt (refine' pick_end ?kF ?k1 ?k2 ?k3 ?k4 ?k5; (case kF => assumption); (case k1 => exact rfl); (case k2 => exact rfl); (case k3 => exact rfl); (case k4 => (intro y9 hy1 hy2 hy3 hy4 hy5; simp only [fracMap, hy1, hy2, hy3, hy4, hy5, if_false])); (case k5 => ((simp only [any4, decide_eq_true_eq, decide_eq_false_iff_not] at *); unfold pickOf; (repeat' split) <;> first | rfl | (exfalso; omega) | (unfold fracEnd; (with_reducible rename (_ = fracN _ 8 _) => e9); rw [← e9]))))))
local macro_rules | `(tactic| walk_at "binaryOp Add str str") => `(tactic| (k_here; (with_reducible show wpAny _ _ (binaryOp Operator.Add (Value.str _ _) (Value.str (Str.ofString (toString (Int.fmod _ 10))) _)) _ _ _); k_dflt (refine' KOpn.add ?hs ?_; (case hs => (rw [fig_len']; omega))); intro t9 k9 hl9))
local macro_rules | `(tactic| walk_at "exec If") => `(tactic| (k_here; (with_reducible show wpAny _ _ (exec (Stmt.If (Expr.Compare (Expr.Name (Str.ofString "spoil") _) [CmpOp.Eq] _ _) _ _ _) _) _ _ _); (fail_if_success (with_reducible rename CutMark 3 => zz9)); k_dflt (refine' spoil_cut (cOf (by assumption)) ?kF ?k1 ?k2 ?k3 ?_ ?_; (case kF => assumption); (case k1 => exact rfl); (case k2 => exact rfl); (case k3 => exact rfl)); (intro mark9); rotate_left; (intro x9 b9 tx9 op9 h9 tk9 e9 F9 N9); rotate_left))
local macro_rules | `(tactic| walk_at "SpoilEnd") => `(tactic| (k_dflt (refine' spoil_end ?kF ?k1 ?k2 ?k4 ?k5; (case kF => assumption); (case k1 => exact rfl); (case k2 => exact rfl); (case k4 => (intro y9 hy1 hy2 hy3; simp only [hy1, hy2, hy3, if_false])); (case k5 => (unfold spoilOf; (repeat' split) <;> first | rfl | (exfalso; omega))))))
local macro_rules | `(tactic| walk_at "BoolEnd") => `(tactic| (k_dflt (refine' bool_end ?_); omega))
set_option maxHeartbeats 8000000 in
theorem text_ok (w : World) (l : Addr) (vs : List Value) (ns : List Int) (hn : ns.length = 10) :
    Ctr w 8 412 [.ref l] (fun h => h.IsList l vs.toArray ∧ IntsAre vs ns) (RowPost ns) := by
  unfold Ctr
  k_fill
  intro mean mg mb dp un gd cn cs a ccd cl outer A₀ base h₀ L m s Q E B X T F hk hd hu hpre hret
  obtain ⟨hlist, hints⟩ := hpre
  have hrow : RowOf ns := ⟨⟩
  refine wpAny_call ?_
  refine' enter ?k1 ?k2 ?k3 ?k4 ?kA ?kF ?kK ?k6 ?k7 ?k8 ?k9 ?kB ?_ ?c2 ?c3 ?c4 ?c5
  case kA => exact rfl
  case kF => exact rfl
  case kK => assumption
  case k1 => k_asm
  case k2 => k_asm
  case k3 => k_asm
  case k4 => k_asm
  case k6 => k_is
  case k7 => k_is
  case k8 => ktr_room
  case k9 => exact BindsTo.of_eq rfl
  case kB => exact locs rfl
  case c2 => exact rfl
  case c3 => exact rfl
  case c4 => exact rfl
  case c5 => decide
  intro L' h₁ hL F' N' B' X' T'
  dsimp only
  k_with "exec For Name Call cons nil" => kpr_for
  k_steps
  all_goals (rename (_ = true ↔ _ ∧ _ ∧ _) => hb; rename (_ = pickOf _ _ _ _ _) => e1; rename (_ = spoilOf _ _ _ _) => e2; rename (News _ _ _ (_ :: _)) => N9; rename (Fr s.heap _ _ _) => F9)
  · exact hret _ _ _ _ F9.keep (news_back F N9) (row_list hb e1 e2 (by assumption))
  · exact hret _ _ _ _ F9.keep (news_back F N9) (row_none hb e1 e2 (by assumption))
end Mine
end
section
open PySem PySem.W PyProof.Rows
namespace Mine
local macro_rules | `(tactic| walk_at "RESTART") => `(tactic| skip)
theorem restart_IntC {M : Model} {A : Around} {E : Value → Shared → Prop} {s : Shared} {Q : Value → Shared → Prop} (h : Q .none s) : wpAny M A (pure Value.none) Q E s := by
  w_top off
  first
    | (walk1; fail "on")
    | exact wpAny_pure h
end Mine
end
section
open PySem PySem.W PySem.Calls PyProof.Rows PySem.Spec PySem.NumText
open Sem (wp)
set_option maxRecDepth 100000
namespace Mine
theorem typeCall_int (x : Value) : ∃ k, Builtin.«type.__call__» ⟨[.type "int", x], []⟩ = (holding [Value.builtin "int.__new__"] (call (.builtin "int.__new__") [.type "int", x] [])) >>= k := by
  have h1 := F.called_int.notType
  have h2 := F.called_int.canCreate
  have h3 := F.typeCall_int_1 x
  have h4 := F.called_int.made
  have h5 := F.mro_int
  refine' ⟨_, ?e⟩
  case e =>
    unfold Builtin.«type.__call__»
    simp only [h1, h2, h3, h4, h5, Bool.false_eq_true, if_false, pure_bind, List.isEmpty_cons]
    exact rfl
theorem intObject (x : Str) (u : Tok) : (int_private% "intFromObject") (.str x u) = (int_private% "intFromText") (.str x u) (numTextOf x) 10 := by
  have f3 := KIN.str_int
  have f4 := KIN.str_idx
  have f5 := KIN.str_trunc
  have f6 : typeOf (.str x u) = pure (.type "str") := rfl
  k_delta "intFromObject"
  simp [callSpecial?, specialOf, f3, f4, f5, f6]
  k_delta "numeralText?"
  have f7 : asStr? (.str x u) = pure (some x) := rfl
  simp only [f7, pure_bind]
def intRest (x : Str) (u : Tok) : Sem Value := do
  rule "int.__new__.invalid-literal"
  let shown ← pyRepr (.str x u)
  let refusal ← newExc (.type "ValueError") [← mkStr (((s!"invalid literal for int() with base {10}: " : String) ++ ⟨shown.cps.extract 0 200⟩ : Str))]
  markTheRefusal ["int.__new__"] refusal
  raiseNew refusal
theorem intText_no {x : Str} {u : Tok} (hl : x.length ≤ 640) (hn : PySem.intText? x = none) : (int_private% "intFromText") (.str x u) (numTextOf x) 10 = intRest x u := by
  have hs : (numSeenOf x).length ≤ 640 := Nat.le_trans (seen_length x) hl
  have hb : (int_private% "bytesOf?") (.str x u) = pure none := rfl
  rcases read0 x hs with ⟨m, h1, h2, h3⟩ | ⟨h1, h2 | ⟨i, h2, h3⟩⟩
  · rw [hn] at h1; cases h1
  · k_delta "intFromText"
    simp only [if_pos hs, pure_bind, h2, hb, Option.isSome_none, Bool.false_and, Bool.false_eq_true, if_false]
    rfl
  · k_delta "intFromText"
    simp only [if_pos hs, pure_bind, h2, hb]
    rw [if_neg h3]
    rfl
theorem not_marked {own : List String} {l : List Code} (h : l.any Code.isCaller = true) : pythonCodeMadeTheCall own l = false := by
  unfold pythonCodeMadeTheCall
  show ((!(l.any Code.isCaller) && _) && _) = false
  rw [h]
  rfl
theorem wpC_mark {M : Model} {A : Around} {E : Value → Shared → Prop} {s : Shared} {own : List String} {e : Value} {Q : Unit → Shared → Prop} (h : Q () s) : wpC M A (markTheRefusal own e) Q E s := fun Γ p _ hc => by
  have hm : pythonCodeMadeTheCall own (((Γ.code, p) :: Γ.below).map (·.1)) = false := not_marked (by
    rw [List.any_eq_true]
    rcases hc with h | ⟨x, hx, h⟩
    · exact ⟨Γ.code, by simp, h⟩
    · exact ⟨x.1, List.mem_map.mpr ⟨x, List.mem_cons_of_mem _ hx, rfl⟩, h⟩)
  unfold markTheRefusal
  rw [Sem.wp_bind']
  show wp M Γ (if pythonCodeMadeTheCall own (((Γ.code, p) :: Γ.below).map (·.1)) = true then _ else _) _ _ p s
  rw [hm, if_neg Bool.false_ne_true]
  exact h
theorem reprText_le {x : Str} (hl : x.length ≤ 640) (hx : ∀ c ∈ x.cps.toList, c < 16 ^ 8) : (reprText x).length ≤ sizeLine := by
  refine Nat.le_trans (StrLaws.reprText_len x hx) ?_
  rw [sizeLine_eq]
  omega
section
variable {prog : Program} {w : World} {A : Around} {E : Value → Shared → Prop} {s : Shared}
theorem wpC_intRest {x : Str} {u : Tok} {Q : Value → Shared → Prop} (hh : A.handled = none) (hl : x.length ≤ 640) (hx : ∀ c ∈ x.cps.toList, c < 16 ^ 8)
    (h : ∀ h' tk e, Heap.NewExc s.heap h' e "ValueError" → E (.ref e) { s with heap := h', toks := tk }) : wpC (model prog w) A (intRest x u) Q E s := by
  unfold intRest
  refine wpC_then (wpAny_rule (wpC_then (wpAny_pyRepr_str ?_ (reprText_le hl hx))))
  refine wpC_then (wpAny_mkStr ?_ ?_)
  · refine wpC_then ?_
    unfold newExc newTuple
    refine wpAny_bind (wpAny_newObj_type ?_)
    refine wpAny_bind (m := firstArgMember _ _) (wpAny_of_eq (a := Value.none) (by simp only [firstArgMember, plainExc_ValueError.first]; rfl) ?_)
    rw [plainExc_ValueError.own]
    refine wpAny_newObj_type ?_
    refine wpC_bind (wpC_mark (wpC_any ?_))
    unfold raiseNew
    refine wpAny_bind (wpAny_handled ?_)
    rw [hh]
    first
      | refine wpAny_throw ?_
      | refine wpAny_bind (wpAny_pure (wpAny_throw ?_))
    exact h _ _ _ ⟨fun b o hb => Heap.get?_push_of_some _ (Heap.get?_push_of_some _ hb), Heap.get?_none_of_le (by simp), _, .ref s.heap.objs.size, Heap.get?_push_size _ rfl, rfl, by simp⟩
  · rw [PySem.Str.length_append, sizeLine_eq]
    have h1 : (Str.ofString (toString "invalid literal for int() with base " ++ toString 10 ++ toString ": ")).length ≤ 100 := by decide
    have h2 : (⟨(reprText x).cps.extract 0 200⟩ : Str).length ≤ 200 := by
      show ((reprText x).cps.extract 0 200).size ≤ 200
      simp
      omega
    omega
end
theorem intNew (x : Str) (u : Tok) : ∃ k, Builtin.«int.__new__» ⟨[.type "int", .str x u], []⟩ = (int_private% "intFromText") (.str x u) (numTextOf x) 10 >>= k := by
  have f1 := F.conv_sub_int
  have f2 := F.madeHere_int
  have f3 := KIN.str_int
  have f4 := KIN.str_idx
  have f5 := KIN.str_trunc
  have f6 : typeOf (.str x u) = pure (.type "str") := rfl
  refine' ⟨_, ?e⟩
  case e =>
    unfold Builtin.«int.__new__»
    have f0 : isType (.type "int") = pure true := by first | rfl | (rw [isType_type]; kernel_rfl)
    simp [f0, f1, f2, intObject x u]
    exact rfl
section
variable {prog : Program} {w : World} {A : Around} {E : Value → Shared → Prop} {s : Shared} {R : Result → Shared → Prop}
theorem codeC_builtin {id : String} {args : Args} {b : Builtin} (hb : entryFor table id = some b)
    (h : wpC (model prog w) (A.under (.builtin id args)) (b args) (fun fin s' => match fin with | .done f => R (.ok f) s' | .again c' => c'.quiet = true ∧ codeC (model prog w) A c' R s') (fun e s' => R (.error e) s') s) :
    codeC (model prog w) A (.builtin id args) R s := by
  refine codeC_of_tree ?_
  show wpC _ _ (match entryFor table id with | some b => b args | none => unsupported ((withoutEnding? id "#data").getD id)) _ _ s
  rw [hb]; exact h
theorem codeC_call_builtin {id : String} {args : Args} {b : Builtin} (hp : plainId id = true) (hb : entryFor table id = some b) (hck : checkBuiltinCall id args = pure ())
    (h : wpC (model prog w) A.in1 (b args) (fun fin s' => match fin with | .done f => R (.ok f) s' | .again c' => c'.quiet = true ∧ codeC (model prog w) A c' R s') (fun e s' => R (.error e) s') s) :
    codeC (model prog w) A (.call (.builtin id) args) R s := by
  refine codeC_of_tree ?_
  show wpC _ A.in1 (do checkBuiltinCall id args; again (.builtin id args)) _ _ s
  rw [hck]
  refine wpC_bind (wpC_pure (wpC_pure (And.intro (plainId_quiet hp args) (codeC_builtin hb ?_))))
  rw [Around.under_plainId hp args]
  exact h
theorem codeC_call_type {T : String} {args : Args} (h : codeC (model prog w) A (.builtin "type.__call__" { args with pos := .type T :: args.pos }) R s) : codeC (model prog w) A (.call (.type T) args) R s := by
  refine codeC_of_tree ?_
  show wpC _ _ (callAny (.type T) _) _ _ _
  exact wpC_pure ⟨Code.quiet_builtin _ (by decide +kernel), h⟩
theorem wpC_int_no {x : Str} {u : Tok} {Q : Value → Shared → Prop} (hh : A.handled = none) (hl : x.length ≤ 640) (hx : ∀ c ∈ x.cps.toList, c < 16 ^ 8) (hn : PySem.intText? x = none)
    (h : ∀ h' tk e, Heap.NewExc s.heap h' e "ValueError" → E (.ref e) { s with heap := h', toks := tk }) : wpC (model prog w) A (call (.type "int") [.str x u]) Q E s := by
  refine wpC_call (codeC_call_type (codeC_builtin F.entry_type_call ?_))
  rw [Around.under_plain (weight_type_call_type "int" [.str x u] []) (units_type_call_type "int" [.str x u] [])]
  obtain ⟨k, hk⟩ := typeCall_int (.str x u)
  refine wpC_eq hk (wpC_bind (wpC_holding (wpC_call (codeC_call_builtin F.called_int.plain F.entry_int_new (F.newCall_int_1 (.str x u)) ?_))))
  obtain ⟨k', hk'⟩ := intNew x u
  refine wpC_eq hk' (wpC_bind (wpC_eq (intText_no hl hn) (wpC_intRest hh hl hx h)))
theorem wpC_int_both {x : Str} {u : Tok} {Q : Value → Shared → Prop} (hh : A.handled = none) (hl : x.length ≤ 640) (hx : ∀ c ∈ x.cps.toList, c < 16 ^ 8)
    (no : PySem.intText? x = none → ∀ h' tk e, Heap.NewExc s.heap h' e "ValueError" → E (.ref e) { s with heap := h', toks := tk })
    (yes : ∀ n, PySem.intText? x = some n → Q (.int n s.toks) { s with toks := s.toks + 1 }) : wpC (model prog w) A (call (.type "int") [.str x u]) Q E s := by
  cases hI : PySem.intText? x with
  | none => exact wpC_int_no hh hl hx hI (no hI)
  | some n => exact wpC_any (KIN.call_text hI hl (yes n hI))
end
end Mine
end
section
open PySem PySem.W PyProof.Rows
namespace Mine
local macro_rules | `(tactic| walk_at "RESTART") => `(tactic| skip)
theorem restart_WpC2 {M : Model} {A : Around} {E : Value → Shared → Prop} {s : Shared} {Q : Value → Shared → Prop} (h : Q .none s) : wpAny M A (pure Value.none) Q E s := by
  w_top off
  first
    | (walk1; fail "on")
    | exact wpAny_pure h
end Mine
end
section
open PySem PySem.W PySem.Calls PyProof.Rows PySem.Spec
open Sem (wp)
set_option maxRecDepth 100000
namespace Mine
section
variable {M : Model} {A : Around} {E : Value → Shared → Prop} {s : Shared} {env : Env}
theorem wpC_step {α β : Type} {m : Sem α} {f : α → Sem β} {Q : β → Shared → Prop} (h : wpC M A m (fun a s₁ => wpC M A (f a) Q E s₁) E s) : wpC M A (m >>= f) Q E s := wpC_bind h
theorem wpC_boolOne {pos : Pos} {op : BoolOp} {x : Sem Value} {Q : Value → Shared → Prop} (h : wpC M A x Q E s) : wpC M A (boolOp pos op [x]) Q E s := h
theorem wpC_boolOr {pos : Pos} {x y : Sem Value} {rest : List (Sem Value)} {Q : Value → Shared → Prop}
    (h : wpC M A x (fun v s₁ => wpAny M A (truthy v) (fun t s₂ => if t then Q v s₂ else wpC M A (boolOp pos .Or (y :: rest)) Q E s₂) E s₁) E s) : wpC M A (boolOp pos .Or (x :: y :: rest)) Q E s := by
  show wpC M A (x >>= fun v => _) Q E s
  refine wpC_bind (wpC_mono h (fun v s₁ h₁ => wpC_then (wpAny_standAt (wpC_then (wpAny_holding (wpAny_mono h₁ (fun t s₂ h₂ => ?_) fun _ _ x => x))))) fun _ _ x => x)
  cases t
  · exact h₂
  · exact wpC_pure h₂
theorem wpC_boolAnd {pos : Pos} {x y : Sem Value} {rest : List (Sem Value)} {Q : Value → Shared → Prop}
    (h : wpC M A x (fun v s₁ => wpAny M A (truthy v) (fun t s₂ => if t then wpC M A (boolOp pos .And (y :: rest)) Q E s₂ else Q v s₂) E s₁) E s) : wpC M A (boolOp pos .And (x :: y :: rest)) Q E s := by
  show wpC M A (x >>= fun v => _) Q E s
  refine wpC_bind (wpC_mono h (fun v s₁ h₁ => wpC_then (wpAny_standAt (wpC_then (wpAny_holding (wpAny_mono h₁ (fun t s₂ h₂ => ?_) fun _ _ x => x))))) fun _ _ x => x)
  cases t
  · exact wpC_pure h₂
  · exact h₂
theorem wpC_keep {α : Type} {vs : List Value} {m : Sem α} {Q : α → Shared → Prop} (h : wpC M A m Q E s) : wpC M A (m.keep vs) Q E s :=
  fun Γ p hΓ hc => by rw [Sem.wp_keep]; exact h Γ p hΓ hc
theorem wpC_callWith {P : Heap → Prop} {pos : Pos} {f : Value} {first : List Value} {args : List (Bool × Sem Value)} {keywords : List (Option Str × Sem Value)} {Q : Value → Shared → Prop} (hplain : (args.any (·.1) || keywords.any (·.1.isNone)) = false)
    (hk : ∀ h, P h → ∃ k, (k = Keeper.frame ∨ k = Keeper.machine ∨ k = Keeper.boundFrame) ∧ Looks M h (keeperOf f) k)
    (h : wpC M A (evalArgs f true args keywords) (fun a s₁ => P s₁.heap ∧ wpC M A (call f (first ++ a.pos) a.kw) Q E s₁) E s) : wpC M A (callWith pos f first args keywords) Q E s := by
  unfold callWith
  refine wpC_bind (wpC_holding (wpC_mono h (fun a s₁ h₁ => wpC_then (wpAny_standAt ?_)) fun _ _ x => x))
  obtain ⟨k, hk', L⟩ := hk _ h₁.1
  simp only [hplain]
  refine wpC_then (L.here ?_)
  have tail : ∀ {t : Sem Value}, wpC M A t Q E s₁ → wpC M A (t >>= fun r => holding [r] point >>= fun _ => pure r) Q E s₁ :=
    fun ht => wpC_bind (wpC_mono ht (fun r s₂ hr => wpC_any (wpAny_bind (wpAny_holding (wpAny_point (wpAny_pure hr))))) fun _ _ x => x)
  have marked (mk : Value) : wpC M A (callMarked mk f (first ++ a.pos) a.kw) Q E s₁ := by unfold callMarked; exact wpC_keep h₁.2
  rcases hk' with rfl | rfl | rfl <;> dsimp only <;> first | exact tail h₁.2 | (split <;> first | exact tail h₁.2 | exact tail (marked _))
theorem wpC_callWith_type {pos : Pos} {T : String} {e : Expr} {rest : List Expr} {Q : Value → Shared → Prop}
    (h : wpAny M A (spliced (backTo pos (starEach (e :: rest) env))) (fun vs s₁ => wpC M A (call (.type T) vs) Q E s₁) E s)
    (he : starEach (e :: rest) env = (false, eval e env) :: starEach rest env) (hplain : (backTo pos (starEach rest env)).any (·.1) = false) :
    wpC M A (callWith pos (.type T) [] (backTo pos (starEach (e :: rest) env)) []) Q E s := by
  rw [he] at h ⊢
  refine wpC_callWith (P := fun _ => True) (by show ((false || (backTo pos (starEach rest env)).any (·.1)) || false) = false; rw [hplain]; rfl) (fun _ _ => ⟨.machine, .inr (.inl rfl), .now⟩) ?_
  exact wpC_any (Calls.evalArgs_plain (wpAny_mono h (fun vs s₁ h₁ => ⟨trivial, h₁⟩) fun _ _ x => x))
theorem wpC_evalAll_cons {x : Sem Value} {rest : List (Sem Value)} {Q : List Value → Shared → Prop}
    (h : wpC M A x (fun v s₁ => wpC M A (evalAll rest) (fun vs s₂ => Q (v :: vs) s₂) E s₁) E s) : wpC M A (evalAll (x :: rest)) Q E s := by
  rw [evalAll]
  exact wpC_bind (wpC_mono h (fun v s₁ h₁ => wpC_bind (wpC_holding (wpC_mono h₁ (fun vs s₂ h₂ => wpC_pure h₂) fun _ _ x => x))) fun _ _ x => x)
theorem wpC_kwAll_nil {pos : Pos} {Q : List Value → Shared → Prop} (h : Q [] s) : wpC M A (evalAll ((backToKw pos (keywordEach [] env)).map (·.2))) Q E s := wpC_any (wpAny_evalAll_nil h)
theorem wpC_kwAll_cons {pos p : Pos} {name : Str} {value : Expr} {rest : List Keyword} {Q : List Value → Shared → Prop}
    (h : wpC M A (eval value env) (fun v s₁ => wpC M A (evalAll ((backToKw pos (keywordEach rest env)).map (·.2))) (fun vs s₂ => Q (v :: vs) s₂) E s₁) E s) :
    wpC M A (evalAll ((backToKw pos (keywordEach (⟨some name, value, p⟩ :: rest) env)).map (·.2))) Q E s := by
  show wpC M A (evalAll ((do let v ← eval value env; standAt pos; pure v) :: (backToKw pos (keywordEach rest env)).map (·.2))) Q E s
  exact wpC_evalAll_cons (wpC_bind (wpC_mono h (fun v s₁ h₁ => wpC_then (wpAny_standAt (wpC_pure h₁))) fun _ _ x => x))
theorem wpC_evalArgs_kw_nil {f : Value} {keywords : List (Option Str × Sem Value)} {Q : Args → Shared → Prop} (hall : keywords.all (·.1.isSome) = true)
    (h : wpC M A (evalAll (keywords.map (·.2))) (fun ks s₂ => Q ⟨[], (keywords.filterMap (·.1)).zip ks⟩ s₂) E s) : wpC M A (evalArgs f true [] keywords) Q E s := by
  unfold evalArgs
  show wpC M A (spliced [] >>= _) Q E s
  refine wpC_then (Calls.spliced_nil ?_)
  refine wpC_bind (wpC_pure ?_)
  refine wpC_holding ?_
  simp only [hall, if_true]
  refine wpC_bind (wpC_mono h (fun ks s₂ h₂ => ?_) fun _ _ x => x)
  exact wpC_bind (wpC_pure (wpC_pure h₂))
theorem wpC_spliced1 {x : Sem Value} {Q : List Value → Shared → Prop} (h : wpC M A x (fun v s₁ => Q [v] s₁) E s) : wpC M A (spliced [(false, x)]) Q E s := by
  unfold spliced
  refine wpC_bind (wpC_mono h (fun v s₁ h₁ => ?_) fun _ _ x => x)
  simp only [Bool.false_eq_true, if_false]
  refine wpC_bind (wpC_pure (wpC_any (wpAny_bind (wpAny_holding (Calls.spliced_nil (wpAny_pure ?_))))))
  exact h₁
theorem wpC_evalArgs_plain {f : Value} {x : Sem Value} {rest : List (Bool × Sem Value)} {Q : Args → Shared → Prop}
    (h : wpC M A (spliced ((false, x) :: rest)) (fun vs s' => Q ⟨vs, []⟩ s') E s) : wpC M A (evalArgs f true ((false, x) :: rest) []) Q E s := by
  unfold evalArgs
  show wpC M A (spliced ((false, x) :: rest) >>= _) Q E s
  refine wpC_bind (wpC_mono h (fun vs s' h' => ?_) fun _ _ x => x)
  refine wpC_holding ?_
  exact wpC_bind (wpC_pure (wpC_bind (wpC_pure (wpC_pure h'))))
theorem wpC_tryStmt_except {body orelse : Sem Flow} {h₀ : ExceptHandler} {hs : List ExceptHandler} {Q : Flow → Shared → Prop}
    (h : wpC M A body (fun f s₁ => match f with | .next => wpC M A orelse Q E s₁ | f => Q f s₁)
      (fun e s₁ => wpAny M A (noteFrame e env) (fun _ s₂ => wpAny M A (setFlight e none) (fun _ s₃ => wpAny M A (handleBy e env (h₀ :: hs)) Q E s₃) E s₂) E s₁) s) :
    wpC M A (tryStmt false body (h₀ :: hs) orelse [] env) Q E s := by
  unfold tryStmt
  simp only [List.isEmpty_nil, if_true, List.isEmpty_cons, Bool.false_and, Bool.false_eq_true, if_false]
  refine wpC_bind (wpC_attempt (wpC_mono h (fun f s₁ h₁ => ?_) fun e s₁ h₁ => ?_))
  · cases f <;> first | exact h₁ | exact wpC_pure h₁
  · exact wpC_any (wpAny_bind (wpAny_mono h₁ (fun _ _ h₂ => wpAny_bind h₂) fun _ _ x => x))
theorem wpC_Try_except {body orelse : List Stmt} {h₀ : ExceptHandler} {hs : List ExceptHandler} {pos : Pos} {Q : Flow → Shared → Prop}
    (h : wpC M A (execs body env) (fun f s₁ => match f with | .next => wpC M A (execs orelse env) Q E s₁ | f => Q f s₁)
      (fun e s₁ => wpAny M A (noteFrame e env) (fun _ s₂ => wpAny M A (setFlight e none) (fun _ s₃ => wpAny M A (handleBy e env (h₀ :: hs)) Q E s₃) E s₂) E s₁) s) :
    wpC M A (exec (.Try body (h₀ :: hs) orelse [] pos) env) Q E s := by
  rw [arm_exec_Try]
  exact wpC_then (wpAny_standAt (wpC_tryStmt_except h))
theorem wpC_Return_some {e : Expr} {pos : Pos} {Q : Flow → Shared → Prop} (h : wpC M A (eval e env) (fun v => Q (.ret v)) E s) : wpC M A (exec (.Return (some e) pos) env) Q E s := by
  rw [exec_Return_some]
  exact wpC_then (wpAny_standAt (wpC_bind (wpC_mono h (fun v s₁ h₁ => wpC_pure h₁) fun _ _ x => x)))
theorem wpC_Call {func : Expr} {args : List Expr} {kws : List Keyword} {pos : Pos} {Q : Value → Shared → Prop} (h : wpAny M A (eval func env) (fun f s₁ => wpC M A (callWith pos f [] (backTo pos (starEach args env)) (backToKw pos (keywordEach kws env))) Q E s₁) E s)
    (he : eval (.Call func args kws pos) env = (do callWith pos (← eval func env) [] (backTo pos (starEach args env)) (backToKw pos (keywordEach kws env)))) : wpC M A (eval (.Call func args kws pos) env) Q E s := by
  rw [he]
  exact wpC_then h
theorem wpC_Call_Name {x : Str} {p pos : Pos} {args : List Expr} {kws : List Keyword} {Q : Value → Shared → Prop} (h : wpAny M A (eval (.Name x p) env) (fun f s₁ => wpC M A (callWith pos f [] (backTo pos (starEach args env)) (backToKw pos (keywordEach kws env))) Q E s₁) E s) :
    wpC M A (eval (.Call (.Name x p) args kws pos) env) Q E s := wpC_then h
theorem wpC_Call_Sub {o i : Expr} {p pos : Pos} {args : List Expr} {kws : List Keyword} {Q : Value → Shared → Prop} (h : wpAny M A (eval (.Subscript o i p) env) (fun f s₁ => wpC M A (callWith pos f [] (backTo pos (starEach args env)) (backToKw pos (keywordEach kws env))) Q E s₁) E s) :
    wpC M A (eval (.Call (.Subscript o i p) args kws pos) env) Q E s := wpC_then h
theorem wpC_Call_type1 {T : String} {pos : Pos} {e : Expr} {Q : Value → Shared → Prop} (h : wpAny M A (eval e env) (fun v s₁ => wpC M A (call (.type T) [v]) Q E s₁) E s)
    (he : starEach [e] env = [(false, eval e env)] := by rfl) : wpC M A (callWith pos (.type T) [] (backTo pos (starEach [e] env)) (backToKw pos (keywordEach [] env))) Q E s := by
  rw [he]
  refine wpC_callWith (P := fun _ => True) rfl (fun _ _ => ⟨.machine, .inr (.inl rfl), .now⟩) ?_
  exact wpC_evalArgs_plain (wpC_spliced1 (wpC_any (wpAny_mono h (fun v s₁ h₁ => ⟨trivial, h₁⟩) fun _ _ x => x)))
theorem wpC_callWith_KW0 {K : Frag} {pos : Pos} {f : Value} {kws : List Keyword} {Q : Value → Shared → Prop} (hk : keepIn K f = true) (hall : (backToKw pos (keywordEach kws env)).all (·.1.isSome) = true)
    (hplain : ((backTo pos (starEach [] env)).any (·.1) || (backToKw pos (keywordEach kws env)).any (·.1.isNone)) = false)
    (h : wpC M A (evalAll ((backToKw pos (keywordEach kws env)).map (·.2))) (fun ks s₂ => K.In s₂.heap ∧ wpC M A (call f [] (((backToKw pos (keywordEach kws env)).filterMap (·.1)).zip ks)) Q E s₂) E s) :
    wpC M A (callWith pos f [] (backTo pos (starEach [] env)) (backToKw pos (keywordEach kws env))) Q E s :=
  wpC_callWith (first := []) hplain (keeps_K hk) (wpC_evalArgs_kw_nil hall h)
theorem wpC_methodCall {o : Expr} {name : Str} {apos pos : Pos} {args : List Expr} {kws : List Keyword} {pl : Sem Bool} {Q : Value → Shared → Prop}
    (h : wpAny M A (eval o env) (fun ov s₁ => wpAny M A (getMethod ov name pl) (fun fx s₂ => wpC M A (callWith pos fx.1 fx.2 (backTo pos (starEach args env)) (backToKw pos (keywordEach kws env))) Q E s₂) E s₁) E s)
    (he : eval (.Call (.Attribute o name apos) args kws pos) env = (do
      let ov ← eval o env
      standAt apos.atName
      let (f, first) ← holding [ov] (getMethod ov name pl)
      callWith pos f first (backTo pos (starEach args env)) (backToKw pos (keywordEach kws env)))) :
    wpC M A (eval (.Call (.Attribute o name apos) args kws pos) env) Q E s := by
  rw [he]
  refine wpC_then (wpAny_mono h (fun ov s₁ h₁ => wpC_then (wpAny_standAt (wpC_then (wpAny_holding (wpAny_mono h₁ (fun fx s₂ h₂ => ?_) fun _ _ x => x))))) fun _ _ x => x)
  exact h₂
end
section
variable {prog : Program} {w : World} {A : Around} {E : Value → Shared → Prop} {s : Shared} {env : Env}
theorem wpC_Expr {e : Expr} {pos : Pos} {Q : Flow → Shared → Prop} (h : wpC (model prog w) A (eval e env) (fun _ => Q .next) E s)
    (hi : interactive env = false) (hs : swapsWith e none pos.line env = pure false) : wpC (model prog w) A (exec (.Expr e pos) env) Q E s := by
  rw [exec_Expr env e pos hi hs]
  exact wpC_then (wpAny_standAt (wpC_bind (wpC_mono h (fun v s' h' => wpC_any (wpAny_dropValue h')) fun _ _ x => x)))
theorem codeC_block {stmts : List Stmt} {R : Result → Shared → Prop}
    (h : wpC (model prog w) A (execs stmts env) (fun f s' => R (.ok f) s') (notedBy (model prog w) A env fun e s' => R (.error e) s') s) : codeC (model prog w) A (.block stmts env) R s := by
  refine codeC_of_tree ?_
  show wpC _ _ (do return Fin.done (← (execs stmts env).onRaise (fun x => do noteFrame x env; theTreesLotGoes x))) _ _ s
  refine wpC_bind (wpC_onRaise (wpC_mono h (fun f s' h' => wpC_pure h') fun _ _ hx => wpC_any (wpAny_bind (wpAny_mono hx (fun _ _ e => wpAny_theTreesLotGoes e) fun _ _ e => e))))
/-- a turn of a for loop, over contexts that bear the caller -/
theorem codeC_forTurn {R : Result → Shared → Prop} {target : Expr} {it : Value} {body : List Stmt}
    (h : wpAny (model prog w) A (pyNext it) (fun r s₁ => match r with
      | none => R (.ok .next) s₁
      | some v => wpAny (model prog w) A (assign target env v) (fun _ s₂ => wpC (model prog w) A (execs body env) (fun f s₃ => match f with
          | .next | .cont => codeC (model prog w) A (.forLoop target it body [] env) R s₃
          | .brk => R (.ok .next) s₃
          | .ret v => R (.ok (.ret v)) s₃) (notedBy (model prog w) A env fun e s' => R (.error e) s') s₂) (notedBy (model prog w) A env fun e s' => R (.error e) s') s₁) (notedBy (model prog w) A env fun e s' => R (.error e) s') s)
    (ht : ∀ v, letOwnedTupleGo target it v = pure () := by intro _; rfl) : codeC (model prog w) A (.forLoop target it body [] env) R s := by
  refine codeC_of_tree ?_
  show wpC _ A ((forTurn target it body [] env).onRaise (fun x => do noteFrame x env; theTreesLotGoes x)) _ _ s
  have noted : ∀ {m : Sem Fin} {Q : Fin → Shared → Prop} {s : Shared}, wpC (model prog w) A m Q (notedBy (model prog w) A env fun e s' => R (.error e) s') s → wpC (model prog w) A (m.onRaise fun x => do noteFrame x env; theTreesLotGoes x) Q (fun e s' => R (.error e) s') s :=
    fun h => wpC_onRaise (wpC_mono h (fun _ _ q => q) fun _ _ hx => wpC_any (wpAny_bind (wpAny_mono hx (fun _ _ e => wpAny_theTreesLotGoes e) fun _ _ e => e)))
  refine noted ?_
  simp only [forTurn]
  refine wpC_then (wpAny_standAt (wpC_then (wpAny_onRaise (wpAny_mono h (fun r s₁ h₁ => ?_) fun _ _ h' => wpAny_standAt h'))))
  cases r with
  | none => exact wpC_pure ⟨rfl, codeC_block (wpC_execs_nil h₁)⟩
  | some v =>
    refine wpC_then (wpAny_of_eq (ht v) ?_)
    refine wpC_then (wpAny_mono h₁ (fun _ s₂ h₂ => wpC_bind (wpC_mono h₂ (fun f s₃ h₃ => ?_) fun _ _ h' => h')) fun _ _ h' => h')
    cases f with
    | next => exact wpC_pure ⟨rfl, h₃⟩
    | cont => exact wpC_pure ⟨rfl, h₃⟩
    | brk => exact wpC_pure h₃
    | ret v => exact wpC_pure h₃
theorem wpC_For {target iter : Expr} {body orelse : List Stmt} {pos : Pos} {Q : Flow → Shared → Prop}
    (h : wpAny (model prog w) A (eval iter env) (fun x s₁ => wpAny (model prog w) A (pyIter x) (fun it s₂ =>
      codeC (model prog w) A (.forLoop target it body orelse env) (fun r s' => match r with | .ok f => Q f s' | .error e => cameBackBy (model prog w) A env E e s') s₂) E s₁) E s)
    (hs : ∀ x, foldedSetIterable iter env x = pure x) : wpC (model prog w) A (exec (.For target iter body orelse pos) env) Q E s := by
  rw [exec_For]
  exact wpC_then (wpAny_standAt (wpC_then (wpAny_mono h (fun x s₁ h₁ => wpC_then (wpAny_of_eq (hs x) (wpC_then (wpAny_standAt (wpC_then (wpAny_holding
    (wpAny_mono h₁ (fun it s₂ h₂ => wpC_runOwn h₂) fun _ _ h' => h'))))))) fun _ _ h' => h')))
end
end Mine
end
section
open PySem PySem.W PyProof.Rows
namespace Mine
local macro_rules | `(tactic| walk_at "RESTART") => `(tactic| skip)
theorem restart_Time0 {M : Model} {A : Around} {E : Value → Shared → Prop} {s : Shared} {Q : Value → Shared → Prop} (h : Q .none s) : wpAny M A (pure Value.none) Q E s := by
  w_top off
  first
    | (walk1; fail "on")
    | exact wpAny_pure h
end Mine
end
section
open PySem PySem.W PySem.Calls PyProof.Rows PySem.Spec
set_option maxRecDepth 100000
namespace Mine
section
variable {prog : Program} {w : World} {h : Heap}
set_option maxHeartbeats 400000
theorem tm_by (X : (hd.heap_39 w.params).In h) : Looks (model prog w) h (Bind.madeBy (.ref 162)) none := Looks.of_peek X (by rfl)
theorem tm_call (X : (hd.heap_39 w.params).In h) : Looks (model prog w) h (specialOf (.ref 162) "__call__") (some (.builtin "type.__call__")) := Looks.of_peek X (by rfl)
theorem tm_best : Builtin.Slots.bestBase [.type "tuple"] = pure (.type "tuple") := by first | rfl | kernel_rfl
theorem tm_mro (X : (hd.heap_39 w.params).In h) : Looks (model prog w) h (mroOf (.ref 162)) [.ref 162, .type "tuple", .type "object"] := Looks.of_peek X (by rfl)
theorem tm_cls (X : (hd.heap_39 w.params).In h) : Looks (model prog w) h (do return (← classData 162).bases) [.type "tuple"] := Looks.of_peek X (by rfl)
theorem tm_typ (X : (hd.heap_39 w.params).In h) : Looks (model prog w) h (isInstance (.ref 162) (.type "type")) true := Looks.of_peek X (by rfl)
theorem tm_isT (X : (hd.heap_39 w.params).In h) : Looks (model prog w) h (isType (.ref 162)) true := Looks.of_peek X (by rfl)
theorem tm_sub (X : (hd.heap_39 w.params).In h) : Looks (model prog w) h (isSubtype (.ref 162) (.type "tuple")) true := Looks.of_peek X (by rfl)
theorem tm_self (X : (hd.heap_39 w.params).In h) : Looks (model prog w) h (isSubtype (.ref 162) (.ref 162)) true := Looks.of_peek X (by rfl)
theorem tm_init (X : (hd.heap_39 w.params).In h) : Looks (model prog w) h (typeLookup (.ref 162) "__init__") (some (.builtin "object.__init__")) := Looks.of_peek X (by rfl)
theorem tm_top (X : (hd.heap_39 w.params).In h) : Looks (model prog w) h (isSubtype (.ref 162) (.type "object")) true := Looks.of_peek X (by rfl)
theorem tm_get (X : (hd.heap_39 w.params).In h) : h.get? 162 = some ⟨.type "type", none, .cls { name := Str.ofString "Time", bases := [.type "tuple"], mro := [.ref 162, .type "tuple", .type "object"], ns := 161, qualname := Str.ofString "Time", hasDict := false },
    #[some (.ref 89), none, some (.str (Str.ofString "Time") 434), some (.str (Str.ofString "Time") 442), some .none, some (.bool false)]⟩ := X 162 _ (by rfl)
theorem tm_base (X : (hd.heap_39 w.params).In h) : Looks (model prog w) h (Bind.staticBase (.ref 162)) (.type "tuple") := by
  intro A Q E s k q
  unfold Bind.staticBase
  refine wpAny_bind ((tm_mro X) A _ E s k ?_)
  rw [List.forIn_cons]
  refine wpAny_bind (wpAny_bind (wpAny_bind ((tm_by X) A _ E s k ?_)))
  simp only [Option.isSome_none, Bool.false_eq_true, if_false]
  have hc : Looks (model prog w) h (classData 162) { name := Str.ofString "Time", bases := [.type "tuple"], mro := [.ref 162, .type "tuple", .type "object"], ns := 161, qualname := Str.ofString "Time", hasDict := false } := Looks.of_peek X (by rfl)
  refine wpAny_bind (hc A _ E s k ?_)
  dsimp only
  rw [tm_best]
  refine wpAny_bind (wpAny_pure (wpAny_pure ?_))
  dsimp only
  rw [List.forIn_cons]
  have hm : Bind.madeBy (.type "tuple") = pure (some "tuple.__new__") := F.called_tuple.made
  refine wpAny_bind (wpAny_bind ?_)
  rw [hm]
  refine wpAny_bind (wpAny_pure ?_)
  exact wpAny_pure (wpAny_pure (wpAny_pure (wpAny_pure q)))
theorem tm_here (X : (hd.heap_39 w.params).In h) : Looks (model prog w) h (Bind.madeHere "tuple.__new__" (.ref 162)) () := by
  have hm : Bind.madeBy (.type "tuple") = pure (some "tuple.__new__") := F.called_tuple.made
  intro A Q E s k q
  unfold Bind.madeHere
  refine wpAny_bind ((tm_base X) A _ E s k ?_)
  rw [hm]
  refine wpAny_bind (wpAny_pure ?_)
  simp only [Option.map_some, bne_self_eq_false, Bool.false_eq_true, if_false]
  exact wpAny_pure q
theorem tm_check (X : (hd.heap_39 w.params).In h) (v : Value) : Looks (model prog w) h (checkBuiltinCall "tuple.__new__" ⟨[.ref 162, v], []⟩) () := by
  have hm : Bind.madeBy (.type "tuple") = pure (some "tuple.__new__") := F.called_tuple.made
  have k1 : builtinKind "tuple.__new__" = some .builtinFn := by decide +kernel
  have k2 : splitId "tuple.__new__" = some ("tuple", "__new__") := by decide +kernel
  intro A Q E s k q
  unfold checkBuiltinCall
  simp only [k1, k2]
  rw [if_pos (by decide)]
  refine wpAny_bind ((tm_isT X) A _ E s k ?_)
  simp only [Bool.not_true, Bool.false_eq_true, if_false]
  refine wpAny_bind ((tm_sub X) A _ E s k ?_)
  simp only [Bool.not_true, Bool.false_eq_true, if_false]
  refine wpAny_bind ((tm_base X) A _ E s k ?_)
  rw [hm]
  refine wpAny_bind (wpAny_pure ?_)
  dsimp only
  simp only [bne_self_eq_false, Bool.false_eq_true, if_false]
  exact wpAny_of_eq (a := ()) (by first | rfl | kernel_rfl) q
section
variable {A : Around} {E : Value → Shared → Prop} {g : Array GenState} {d : Drawn} {tk : Nat} {os : OsState} {T : Addr} {xs : Array Value} {n : Nat}
abbrev timeObj (D : Addr) (xs : Array Value) : Obj := { cls := .ref 162, dict := some D, data := .seq xs }
theorem tm_run {Q : Fin → Shared → Prop} (X : (hd.heap_39 w.params).In h) (hT : h.get? T = some { cls := .type "tuple", data := .seq xs n }) (hz : xs.size ≤ 100)
    (hq : ∀ h' D, h.StaysIn h' → h'.get? D = some emptyDict → h'.get? (D + 1) = some (timeObj D xs) → h.get? D = none → h.get? (D + 1) = none → Q (.done (.ret (.ref (D + 1)))) ⟨h', g, d, tk, os⟩) : wpAny (model prog w) A (Builtin.«tuple.__new__» ⟨[.ref 162, .ref T], []⟩) Q E ⟨h, g, d, tk, os⟩ := by
  unfold Builtin.«tuple.__new__»
  refine wpAny_bind ((tm_isT X).at ?_)
  simp only [Bool.not_true, Bool.false_eq_true, if_false]
  refine wpAny_bind ((tm_sub X).at ?_)
  simp only [Bool.not_true, Bool.false_eq_true, if_false]
  refine wpAny_bind ((tm_here X).at ?_)
  refine wpAny_bind ((tm_init X).at ?_)
  simp only [beq_self_eq_true, if_true]
  refine wpAny_bind (wpAny_of_eq (a := ()) rfl ?_)
  refine wpAny_bind (wpAny_of_eq (a := ()) rfl ?_)
  rw [if_neg (by decide)]
  refine wpAny_bind (wpAny_collect_seq T (.inr rfl) hT rfl rfl (fun h₁ k₁ => ?_) (by rw [sizeLine_eq]; omega))
  refine wpAny_bind (wpAny_pure ?_)
  dsimp only
  refine wpAny_bind (wpAny_alloc ?_)
  unfold newObj newObjAsIs
  have hsz : ¬ (xs.toList.toArray.size > sizeLine) := by rw [sizeLine_eq]; simp; omega
  have X₁ := X.keeps (h' := (h₁.push emptyDict).push (timeObj h₁.objs.size xs)) fun b o e => Heap.get?_push_of_some _ (Heap.get?_push_of_some _ (k₁ b o e))
  have hdel : Looks (model prog w) ((h₁.push emptyDict).push (timeObj h₁.objs.size xs)) (classHasDel 162) false := Looks.of_peek X₁ (by rfl)
  show wpAny _ _ ((if xs.toList.toArray.size > sizeLine then _ else _) >>= _) _ _ _
  rw [if_neg hsz]
  refine wpAny_bind ?_
  first
    | refine wpAny_bind (wpAny_alloc ?_)
    | refine wpAny_bind (wpAny_pure (wpAny_bind (wpAny_alloc ?_)))
  have e1 : (xs.toList.toArray) = xs := by simp
  rw [e1]
  refine wpAny_bind (hdel.at ?_)
  simp only [Bool.false_eq_true, if_false]
  refine wpAny_pure (wpAny_pure ?_)
  show Q (.done (.ret (.ref (h₁.push emptyDict).objs.size))) _
  rw [Heap.size_push]
  have nn : ∀ b, h₁.objs.size ≤ b → h.get? b = none := fun b hb => by
    cases q : h.get? b with
    | none => rfl
    | some o => exact absurd (Heap.lt_size (k₁ _ _ q)) (Nat.not_lt.mpr hb)
  refine hq _ _ (fun b o e => Heap.get?_push_of_some _ (Heap.get?_push_of_some _ (k₁ b o e))) ?_ ?_ (nn _ (Nat.le_refl _)) (nn _ (Nat.le_succ _))
  · exact Heap.get?_push_of_some _ (Heap.get?_push_size _ rfl)
  · have := Heap.get?_push_size (h₁.push emptyDict) (o := timeObj h₁.objs.size xs) rfl
    rwa [Heap.size_push] at this
end
end
end Mine
end
section
open PySem PySem.W PyProof.Rows
namespace Mine
local macro_rules | `(tactic| walk_at "RESTART") => `(tactic| skip)
theorem restart_Time1 {M : Model} {A : Around} {E : Value → Shared → Prop} {s : Shared} {Q : Value → Shared → Prop} (h : Q .none s) : wpAny M A (pure Value.none) Q E s := by
  w_top off
  first
    | (walk1; fail "on")
    | exact wpAny_pure h
end Mine
end
section
open PySem PySem.W PySem.Calls PyProof.Rows PySem.Spec
set_option maxRecDepth 100000
namespace Mine
theorem tm_plain : plainId "tuple.__new__" = true := by decide +kernel
theorem tm_meth : typeOf (.type "tuple") = pure (.type "type") := by first | rfl | kernel_rfl
local macro_rules | `(tactic| walk_at "getMethod type:tuple") => `(tactic| (k_here; refine' method_type ?F ?X tm_meth (by decide +kernel) ?e ?h ?_; (case F => k_asm); (case X => k_asm); (case e => k_dflt k_is); (case h => k_handed)))
abbrev kwTime (vh vm vs vu : Value) : List (Str × Value) := [(Str.ofString "hour", vh), (Str.ofString "minute", vm), (Str.ofString "second", vs), (Str.ofString "microsecond", vu)]
def CtrN (w : World) (vh vm vs vu : Value) (Post : List (Addr × Obj) → Value → Prop) : Prop :=
  ∀ (mean : ExcName → Option Value) (mg mb : Str → Option Value) (dp un : Nat) (gd : Option (List Code)) (cn : Str) (cs : Scope) (a : Addr) (ccd : Value) (cl : List (Str × Addr)) (outer : List Env) (A₀ : Around) (base h₀ : Heap) (L : Addr) (m : Str → Option Value) (s : Shared) (Q E : Value → Shared → Prop),
    Below A₀ base outer h₀ → (hd.heap_39 w.params).In base → Top hd.view_39 (looseW hd.view_39 [Str.ofString "_tuplegetter", Str.ofString "Time", Str.ofString "NMEASentence", Str.ofString "BWC"]) mean mg mb base → Fr h₀ L s.heap m → cs.kind = .function → dp + 3 < recursionLimit → un + 10 * 3 < cLine → 
    (∀ v h' tk' new, s.heap.StaysIn h' → News s.heap L h' new → Post new v → Q v { s with heap := h', toks := tk' }) →
    wpAny (model PySem.Challenge.rw_ez0286_01.row.prog w) (ktrTop dp un gd cn cs L a ccd cl outer) (call (.ref 106) [.ref 162] (kwTime vh vm vs vu)) Q E s
set_option maxHeartbeats 1000000 in
theorem new_ok (w : World) (vh vm vs vu : Value) : CtrN w vh vm vs vu (fun new v => ∃ X D, new = [(X, timeObj D #[vh, vm, vs, vu]), (D, emptyDict)] ∧ v = .ref X) := by
  unfold CtrN
  k_fill
  intro mean mg mb dp un gd cn cs a ccd cl outer A₀ base h₀ L m s Q E B X T F hk hd hu hret
  refine wpAny_call ?_
  refine' enter ?k1 ?k2 ?k3 ?k4 ?kA ?kF ?kK ?k6 ?k7 ?k8 ?k9 ?kB ?_ ?c2 ?c3 ?c4 ?c5
  case kA => exact rfl
  case kF => exact rfl
  case kK => assumption
  case k1 => k_asm
  case k2 => k_asm
  case k3 => k_asm
  case k4 => k_asm
  case k6 => k_is
  case k7 => k_is
  case k8 => ktr_room
  case k9 => exact BindsTo.of_eq rfl
  case kB => exact locs rfl
  case c2 => exact rfl
  case c3 => exact rfl
  case c4 => exact rfl
  case c5 => decide
  intro L' h₁ hL F' N' B' X' T'
  dsimp only
  k_steps
  rename Fr _ _ _ _ => F9
  rename News _ _ _ _ => N9
  have X9 := X'.keeps F9.keep
  have e9 := (N9 _ (List.mem_cons_self ..)).1
  refine wpAny_call (codeAny_call_builtin tm_plain PySem.F.entry_tuple_new ((tm_check X9 _).at ?_))
  refine tm_run X9 e9 (show 4 ≤ 100 by decide) (fun h' D k' e1 e2 n1 n2 => ?_)
  have st : s.heap.StaysIn h' := fun b o e => k' b o (F9.keep b o e)
  have up : ∀ b, _ → s.heap.get? b = none := fun b (hb : Heap.get? _ b = none) => by
    cases q : s.heap.get? b with
    | none => rfl
    | some o => have := F9.keep b o q; rw [hb] at this; cases this
  obtain ⟨oL, es, ep, hL, hLr⟩ := F.ns
  refine hret _ _ _ [(D + 1, timeObj D #[vh, vm, vs, vu]), (D, emptyDict)] st (fun p hp => ?_) ⟨_, _, rfl, rfl⟩
  simp only [List.mem_cons, List.not_mem_nil, or_false] at hp
  rcases hp with rfl | rfl
  · exact ⟨e2, fun q => (by have := up _ n2; rw [show D + 1 = L from q, hL] at this; cases this), up _ n2⟩
  · exact ⟨e1, fun q => (by have := up _ n1; rw [show D = L from q, hL] at this; cases this), up _ n1⟩
theorem tm_tinst {prog : Program} {w : World} {h : Heap} (X : (hd.heap_39 w.params).In h) {x D : Addr} {xs : Array Value} (hx : h.get? x = some (timeObj D xs)) : Looks (model prog w) h (isInstance (.ref x) (.ref 162)) true := by
  unfold isInstance
  exact ((Looks.ld hx).andThen .now).andThen (tm_self X)
theorem tm_oiargs (a : Value) (kw : List (Str × Value)) : argsOk "object.__init__" ⟨[a], kw⟩ := by unfold argsOk; kernel_rfl
def CtrT (w : World) (vh vm vs vu : Value) (Post : List (Addr × Obj) → Value → Prop) : Prop :=
  ∀ (mean : ExcName → Option Value) (mg mb : Str → Option Value) (dp un : Nat) (gd : Option (List Code)) (cn : Str) (cs : Scope) (a : Addr) (ccd : Value) (cl : List (Str × Addr)) (outer : List Env) (A₀ : Around) (base h₀ : Heap) (L : Addr) (m : Str → Option Value) (s : Shared) (Q E : Value → Shared → Prop),
    Below A₀ base outer h₀ → (hd.heap_39 w.params).In base → Top hd.view_39 (looseW hd.view_39 [Str.ofString "_tuplegetter", Str.ofString "Time", Str.ofString "NMEASentence", Str.ofString "BWC"]) mean mg mb base → Fr h₀ L s.heap m → cs.kind = .function → dp + 5 < recursionLimit → un + 10 * 5 < cLine → 
    (∀ v h' tk' new, s.heap.StaysIn h' → News s.heap L h' new → Post new v → Q v { s with heap := h', toks := tk' }) →
    wpAny (model PySem.Challenge.rw_ez0286_01.row.prog w) (ktrTop dp un gd cn cs L a ccd cl outer) (call (.ref 162) [] (kwTime vh vm vs vu)) Q E s
set_option maxHeartbeats 1000000 in
theorem time_ok (w : World) (vh vm vs vu : Value) : CtrT w vh vm vs vu (fun new v => ∃ X D, new = [(X, timeObj D #[vh, vm, vs, vu]), (D, emptyDict)] ∧ v = .ref X) := by
  unfold CtrT
  intro mean mg mb dp un gd cn cs a ccd cl outer A₀ base h₀ L m s Q E B X T F hk hd hu hret
  have X₀ : (Mine.hd.heap_39 w.params).In h₀ := X.keeps B.stays
  have X₁ : (Mine.hd.heap_39 w.params).In s.heap := X₀.keeps F.keep
  refine wpAny_call (codeAny_of_tree ?_)
  show wpAny _ _ (callAny (.ref 162) _) _ _ _
  refine nd_load (tm_get X₁) ?_
  show wpAny _ _ (callAny.viaDunder (.ref 162) _) _ _ _
  unfold callAny.viaDunder
  refine wpAny_bind ((tm_call X₁).here ?_)
  dsimp only
  rw [tc_bind]
  refine wpAny_bind (wpAny_pure (wpAny_bind (wpAny_pure ?_)))
  refine wpAny_pure (a := Fin.again (.call (.builtin "type.__call__") ⟨.ref 162 :: [], kwTime vh vm vs vu⟩)) (And.intro rfl ?_)
  refine codeAny_call_builtin_at (Code.quiet_builtin _ (by decide +kernel)) entry_typeCall (@check_slot (model PySem.Challenge.rw_ez0286_01.row.prog w) _ _ _ "type.__call__" "type" "__call__" (.ref 162) [] (kwTime vh vm vs vu) _ tc_kind tc_split (tm_typ X₁) (tc_args (.ref 162) [] (kwTime vh vm vs vu)) ?_)
  unfold Builtin.«type.__call__»
  dsimp only
  rw [if_neg (by decide)]
  refine wpAny_bind ((tm_mro X₁).here ?_)
  simp only [List.isEmpty_cons, Bool.false_eq_true, if_false]
  refine wpAny_bind ((tm_by X₁).here ?_)
  dsimp only
  refine wpAny_bind (cls_sm (K := Mine.hd.heap_39 w.params) (C := 162) (mc := .type "type") (p := 163) (f := .ref 106) (rest := []) F X₀ (by k_is) (by k_is) (by k_is) (by k_is) rfl ?_)
  refine wpAny_bind (wpAny_holding ?_)
  refine (new_ok w vh vm vs vu) mean mg mb _ _ gd cn cs a ccd cl outer A₀ base h₀ L m _ _ _ B X T F hk ?_ ?_ fun v h' tk' new st N' po => ?_
  · show dp + 1 + 3 < recursionLimit
    omega
  · show un + 1 + 10 * 3 < cLine
    omega
  obtain ⟨x, D, rfl, rfl⟩ := po
  have X₂ := X₁.keeps st
  have hx := (N' _ (List.mem_cons_self ..)).1
  have ty : Looks (model PySem.Challenge.rw_ez0286_01.row.prog w) h' (typeOf (.ref x)) (.ref 162) := (Looks.ld hx).andThen .now
  refine wpAny_bind ((tm_tinst X₂ hx).here ?_)
  simp only [Bool.not_true, Bool.false_eq_true, if_false]
  refine wpAny_bind (wpAny_holding ?_)
  unfold callSpecial? specialOf
  refine wpAny_bind (wpAny_bind (ty.here ((tm_init X₂).here ?_)))
  dsimp only
  rw [oi_bind]
  refine wpAny_holding (wpAny_bind (wpAny_pure ?_))
  dsimp only
  refine wpAny_bind (wpAny_call ?_)
  have tt : Looks (model PySem.Challenge.rw_ez0286_01.row.prog w) h' (isInstance (.ref x) (.type "object")) true := ty.andThen (tm_top X₂)
  refine codeAny_call_builtin oi_plain entry_oi (@check_slot (model PySem.Challenge.rw_ez0286_01.row.prog w) _ _ _ "object.__init__" "object" "__init__" (.ref x) [] (kwTime vh vm vs vu) _ oi_kind oi_split tt (tm_oiargs (.ref x) (kwTime vh vm vs vu)) ?_)
  unfold Builtin.«object.__init__»
  dsimp only [List.nil_append, List.cons_append]
  rw [if_pos (by rfl)]
  refine wpAny_bind (ty.here ?_)
  refine wpAny_bind ((tm_init X₂).here ?_)
  refine wpAny_bind ((tm_by X₂).here ?_)
  simp only [bne_self_eq_false, Bool.false_eq_true, if_false, Bool.false_or]
  rw [if_neg (by decide)]
  refine wpAny_pure ?_
  dsimp only
  refine wpAny_pure ?_
  dsimp only
  rw [if_neg (by decide)]
  refine wpAny_pure ?_
  dsimp only
  exact hret _ _ _ _ st N' ⟨x, D, rfl, rfl⟩
end Mine
end
section
open PySem PySem.W PyProof.Rows
namespace Mine
local macro_rules | `(tactic| walk_at "RESTART") => `(tactic| skip)
theorem restart_Get1 {M : Model} {A : Around} {E : Value → Shared → Prop} {s : Shared} {Q : Value → Shared → Prop} (h : Q .none s) : wpAny M A (pure Value.none) Q E s := by
  w_top off
  first
    | (walk1; fail "on")
    | exact wpAny_pure h
end Mine
end
section
open PySem PySem.W PySem.Calls PyProof.Rows PySem.Spec
set_option maxRecDepth 100000
namespace Mine
theorem gm_meth : typeOf (.type "tuple") = pure (.type "type") := by first | rfl | kernel_rfl
local macro_rules | `(tactic| walk_at "getMethod type:tuple") => `(tactic| (k_here; refine' method_type ?F ?X gm_meth (by decide +kernel) ?e ?h ?_; (case F => k_asm); (case X => k_asm); (case e => k_dflt k_is); (case h => k_handed)))
theorem isf_inst {h h' : Heap} {L : Addr} {m : Str → Option Value} {x D : Addr} {xs : Array Value} (F : Fr h L h' m) (hp : h.get? x = some (timeObj D xs) ∧ h.get? D = some emptyDict) : InstAt h' x (timeObj D xs) 162 (some emptyDict) :=
  ⟨F.keep _ _ hp.1, rfl, rfl, F.keep _ _ hp.2⟩
section
variable {prog : Program} {w : World} {A : Around} {E : Value → Shared → Prop} {s : Shared} {Q : Value → Shared → Prop}
theorem isf_nest {w' : World} {h : Heap} (X : (hd.heap_39 w.params).In h) : Looks (model prog w') h (Builtin.«issubclass.nested» ⟨[.ref 162, .type "tuple", rawInt 0], []⟩) (Fin.done (.ret (.bool true))) := Looks.of_peek X (by rfl)
theorem isf_sub (X : (hd.heap_39 w.params).In s.heap) (h : Q (.bool true) s) : wpAny (model prog w) A (call (.builtin "issubclass") [.ref 162, .type "tuple"]) Q E s := by
  have g : Meets (Builtin.«issubclass» ⟨[.ref 162, .type "tuple"], []⟩) (fun _ R s => (hd.heap_39 w.params).In s.heap ∧ R (.ok (.ret (.bool true))) s) :=
    fun prog w' _ R s ⟨X, h⟩ => issubclass_outer ((isf_nest X).here h)
  exact call_issubclass g ⟨X, h⟩
theorem tg_at (l D : Addr) (items : Array Value) (i : Int) (u : Tok) (k : Nat) (y : Value) (hlo : -2 ^ 63 ≤ i) (hhi : i < 2 ^ 63) (hk : seqIndex? i items.size = some k) (hy : items[k]? = some y) :
    Meets (Builtin.«tuple.__getitem__» ⟨[.ref l, .int i u], []⟩) (fun _ R s => s.heap.get? l = some (timeObj D items) ∧ R (.ok (.ret y)) s) :=
  .of_wp fun prog w A R s h => by
    obtain ⟨hp, g, d, tk, os⟩ := s; obtain ⟨hl, h⟩ := h
    have f1 := AutoSeq1.idx_int
    have hf : ¬ (decide (i < -2 ^ 63) || decide (i ≥ 2 ^ 63)) = true := by simp; omega
    wp_walk using AutoSeq1.wpAny_loadPart' hl
    simp only [hk, hy, Option.bind_some]
    refine wpAny_ite_false (by simp; omega) ?_
    wp_walk
    exact ⟨_, rfl, h⟩
theorem tg_plain : plainId "tuple.__getitem__" = true := by decide +kernel
theorem tg_kind : builtinKind "tuple.__getitem__" = some .slot := by decide +kernel
theorem tg_split : splitId "tuple.__getitem__" = some ("tuple", "__getitem__") := by decide +kernel
theorem tg_call {x D : Addr} {xs : Array Value} {i : Int} {u : Tok} {k : Nat} {y : Value} (X : (hd.heap_39 w.params).In s.heap) (hx : s.heap.get? x = some (timeObj D xs)) (hlo : -2 ^ 63 ≤ i) (hhi : i < 2 ^ 63) (hk : seqIndex? i xs.size = some k) (hy : xs[k]? = some y) (h : Q y s) :
    wpAny (model prog w) A (call (.builtin "tuple.__getitem__") [.ref x, .int i u]) Q E s := by
  have tt : Looks (model prog w) s.heap (isInstance (.ref x) (.type "tuple")) true := ((Looks.ld hx).andThen .now).andThen (tm_sub X)
  refine wpAny_call (codeAny_call_builtin tg_plain PySem.F.entry_tuple_getitem (@check_slot (model prog w) _ _ _ "tuple.__getitem__" "tuple" "__getitem__" (.ref x) [.int i u] [] _ tg_kind tg_split tt (PySem.F.args_tuple_getitem_2 (.ref x) (.int i u)) ?_))
  exact tg_at x D xs i u k y hlo hhi hk hy prog w _ (wants Q E) s ⟨hx, h⟩
end
local macro_rules | `(tactic| walk_at "call type:type") => `(tactic| (k_here; (with_reducible show wpAny _ _ (call (Value.type "type") [Value.ref _]) _ _ _); (with_reducible rename Fr _ _ _ _ => F9); k_dflt (refine kto_own (isf_inst F9 (by assumption)) ?_)))
local macro_rules | `(tactic| walk_at "call builtin:issubclass") => `(tactic| (k_here; (with_reducible show wpAny _ _ (call (Value.builtin "issubclass") [Value.ref 162, Value.type "tuple"]) _ _ _); (with_reducible rename Fr _ _ _ _ => F9); (with_reducible rename Frag.In _ _ => X9); k_dflt (refine isf_sub (X9.keeps F9.keep) ?_)))
set_option maxHeartbeats 1000000 in
theorem get_148 (w : World) (x D : Addr) (xs : Array Value) (vh : Value) (h0 : xs[0]? = some vh) (hi : seqIndex? 0 xs.size = some 0) : Ctr w 3 67 [.ref 148, .ref x, .ref 162] (fun h => h.get? x = some (timeObj D xs) ∧ h.get? D = some emptyDict) (fun new v => new = [] ∧ v = vh) := by
  unfold Ctr
  k_fill
  intro mean mg mb dp un gd cn cs a ccd cl outer A₀ base h₀ L m s Q E B X T F hk hd hu hp hret
  have XS := (X.keeps B.stays).keeps F.keep
  refine wpAny_call ?_
  refine' enter ?k1 ?k2 ?k3 ?k4 ?kA ?kF ?kK ?k6 ?k7 ?k8 ?k9 ?kB ?_ ?c2 ?c3 ?c4 ?c5
  case kA => exact rfl
  case kF => exact rfl
  case kK => assumption
  case k1 => k_asm
  case k2 => k_asm
  case k3 => k_asm
  case k4 => k_asm
  case k6 => k_is
  case k7 => k_is
  case k8 => ktr_room
  case k9 => exact binds_K (by k_in) rfl (by k_is) rfl rfl rfl
  case kB => exact locs rfl
  case c2 => exact rfl
  case c3 => exact rfl
  case c4 => exact rfl
  case c5 => decide
  intro L' h₁ hL F' N' B' X' T'
  dsimp only
  k_steps
  rename Fr _ _ _ _ => F9
  rename Frag.In _ _ => X9
  refine tg_call (k := 0) (X9.keeps F9.keep) (F9.keep _ _ hp.1) (by decide) (by decide) hi h0 ?_
  exact hret _ _ _ [] (F9.keep) News.nil ⟨rfl, rfl⟩
set_option maxHeartbeats 1000000 in
theorem get_151 (w : World) (x D : Addr) (xs : Array Value) (vh : Value) (h0 : xs[1]? = some vh) (hi : seqIndex? 1 xs.size = some 1) : Ctr w 3 67 [.ref 151, .ref x, .ref 162] (fun h => h.get? x = some (timeObj D xs) ∧ h.get? D = some emptyDict) (fun new v => new = [] ∧ v = vh) := by
  unfold Ctr
  k_fill
  intro mean mg mb dp un gd cn cs a ccd cl outer A₀ base h₀ L m s Q E B X T F hk hd hu hp hret
  have XS := (X.keeps B.stays).keeps F.keep
  refine wpAny_call ?_
  refine' enter ?k1 ?k2 ?k3 ?k4 ?kA ?kF ?kK ?k6 ?k7 ?k8 ?k9 ?kB ?_ ?c2 ?c3 ?c4 ?c5
  case kA => exact rfl
  case kF => exact rfl
  case kK => assumption
  case k1 => k_asm
  case k2 => k_asm
  case k3 => k_asm
  case k4 => k_asm
  case k6 => k_is
  case k7 => k_is
  case k8 => ktr_room
  case k9 => exact binds_K (by k_in) rfl (by k_is) rfl rfl rfl
  case kB => exact locs rfl
  case c2 => exact rfl
  case c3 => exact rfl
  case c4 => exact rfl
  case c5 => decide
  intro L' h₁ hL F' N' B' X' T'
  dsimp only
  k_steps
  rename Fr _ _ _ _ => F9
  rename Frag.In _ _ => X9
  refine tg_call (k := 1) (X9.keeps F9.keep) (F9.keep _ _ hp.1) (by decide) (by decide) hi h0 ?_
  exact hret _ _ _ [] (F9.keep) News.nil ⟨rfl, rfl⟩
set_option maxHeartbeats 1000000 in
theorem get_154 (w : World) (x D : Addr) (xs : Array Value) (vh : Value) (h0 : xs[2]? = some vh) (hi : seqIndex? 2 xs.size = some 2) : Ctr w 3 67 [.ref 154, .ref x, .ref 162] (fun h => h.get? x = some (timeObj D xs) ∧ h.get? D = some emptyDict) (fun new v => new = [] ∧ v = vh) := by
  unfold Ctr
  k_fill
  intro mean mg mb dp un gd cn cs a ccd cl outer A₀ base h₀ L m s Q E B X T F hk hd hu hp hret
  have XS := (X.keeps B.stays).keeps F.keep
  refine wpAny_call ?_
  refine' enter ?k1 ?k2 ?k3 ?k4 ?kA ?kF ?kK ?k6 ?k7 ?k8 ?k9 ?kB ?_ ?c2 ?c3 ?c4 ?c5
  case kA => exact rfl
  case kF => exact rfl
  case kK => assumption
  case k1 => k_asm
  case k2 => k_asm
  case k3 => k_asm
  case k4 => k_asm
  case k6 => k_is
  case k7 => k_is
  case k8 => ktr_room
  case k9 => exact binds_K (by k_in) rfl (by k_is) rfl rfl rfl
  case kB => exact locs rfl
  case c2 => exact rfl
  case c3 => exact rfl
  case c4 => exact rfl
  case c5 => decide
  intro L' h₁ hL F' N' B' X' T'
  dsimp only
  k_steps
  rename Fr _ _ _ _ => F9
  rename Frag.In _ _ => X9
  refine tg_call (k := 2) (X9.keeps F9.keep) (F9.keep _ _ hp.1) (by decide) (by decide) hi h0 ?_
  exact hret _ _ _ [] (F9.keep) News.nil ⟨rfl, rfl⟩
set_option maxHeartbeats 1000000 in
theorem get_157 (w : World) (x D : Addr) (xs : Array Value) (vh : Value) (h0 : xs[3]? = some vh) (hi : seqIndex? 3 xs.size = some 3) : Ctr w 3 67 [.ref 157, .ref x, .ref 162] (fun h => h.get? x = some (timeObj D xs) ∧ h.get? D = some emptyDict) (fun new v => new = [] ∧ v = vh) := by
  unfold Ctr
  k_fill
  intro mean mg mb dp un gd cn cs a ccd cl outer A₀ base h₀ L m s Q E B X T F hk hd hu hp hret
  have XS := (X.keeps B.stays).keeps F.keep
  refine wpAny_call ?_
  refine' enter ?k1 ?k2 ?k3 ?k4 ?kA ?kF ?kK ?k6 ?k7 ?k8 ?k9 ?kB ?_ ?c2 ?c3 ?c4 ?c5
  case kA => exact rfl
  case kF => exact rfl
  case kK => assumption
  case k1 => k_asm
  case k2 => k_asm
  case k3 => k_asm
  case k4 => k_asm
  case k6 => k_is
  case k7 => k_is
  case k8 => ktr_room
  case k9 => exact binds_K (by k_in) rfl (by k_is) rfl rfl rfl
  case kB => exact locs rfl
  case c2 => exact rfl
  case c3 => exact rfl
  case c4 => exact rfl
  case c5 => decide
  intro L' h₁ hL F' N' B' X' T'
  dsimp only
  k_steps
  rename Fr _ _ _ _ => F9
  rename Frag.In _ _ => X9
  refine tg_call (k := 3) (X9.keeps F9.keep) (F9.keep _ _ hp.1) (by decide) (by decide) hi h0 ?_
  exact hret _ _ _ [] (F9.keep) News.nil ⟨rfl, rfl⟩
theorem get_h (w : World) (x D : Addr) (vh vm vs vu : Value) : Ctr w 3 67 [.ref 148, .ref x, .ref 162] (fun h => h.get? x = some (timeObj D #[vh, vm, vs, vu]) ∧ h.get? D = some emptyDict) (fun new v => new = [] ∧ v = vh) := get_148 w x D #[vh, vm, vs, vu] vh rfl rfl
theorem get_m (w : World) (x D : Addr) (vh vm vs vu : Value) : Ctr w 3 67 [.ref 151, .ref x, .ref 162] (fun h => h.get? x = some (timeObj D #[vh, vm, vs, vu]) ∧ h.get? D = some emptyDict) (fun new v => new = [] ∧ v = vm) := get_151 w x D #[vh, vm, vs, vu] vm rfl rfl
theorem get_s (w : World) (x D : Addr) (vh vm vs vu : Value) : Ctr w 3 67 [.ref 154, .ref x, .ref 162] (fun h => h.get? x = some (timeObj D #[vh, vm, vs, vu]) ∧ h.get? D = some emptyDict) (fun new v => new = [] ∧ v = vs) := get_154 w x D #[vh, vm, vs, vu] vs rfl rfl
theorem get_u (w : World) (x D : Addr) (vh vm vs vu : Value) : Ctr w 3 67 [.ref 157, .ref x, .ref 162] (fun h => h.get? x = some (timeObj D #[vh, vm, vs, vu]) ∧ h.get? D = some emptyDict) (fun new v => new = [] ∧ v = vu) := get_157 w x D #[vh, vm, vs, vu] vu rfl rfl
theorem frStay {h₀ h h' : Heap} {L : Addr} {m : Str → Option Value} (F : Fr h₀ L h m) (st : h.StaysIn h') : Fr h₀ L h' m := by
  obtain ⟨oL, es, ep, hL, hLr⟩ := F.ns
  exact ⟨⟨oL, es, ep, st _ _ hL, hLr⟩, fun b o e => st b o (F.keep b o e), F.above⟩
theorem newsStay {h₀ h h' : Heap} {L : Addr} {news : List (Addr × Obj)} (N : News h₀ L h news) (st : h.StaysIn h') : News h₀ L h' news := fun p hp => ⟨st _ _ (N p hp).1, (N p hp).2⟩
theorem newsUp {h₀ h h' : Heap} {L : Addr} {m : Str → Option Value} {new : List (Addr × Obj)} (F : Fr h₀ L h m) (N : News h L h' new) : News h₀ L h' new := fun p hp => ⟨(N p hp).1, (N p hp).2.1, by
  cases q : h₀.get? p.1 with
  | none => rfl
  | some o => have := F.keep _ _ q; rw [(N p hp).2.2] at this; cases this⟩
theorem tga_slot : Slot "tuple" "__getattribute__" "tuple.__getattribute__" :=
  .of (owner := "tuple") (n := "__getattribute__") (by rw [typeLookup_type, builtinLookup_eq_fast]; kernel_rfl) (by decide +kernel) (by decide +kernel) (by decide +kernel)
    (by first | exact .inl (by decide +kernel) | exact .inr (by decide +kernel)) (by rw [isSubtype_type]; kernel_rfl)
theorem tga_entry : entryFor table "tuple.__getattribute__" = some Builtin.«object.__getattribute__» :=
  entryFor_alias (id' := "object.__getattribute__") (by rw [fastTable_eq_tree]; kernel_rfl) (by first | rfl | decide +kernel) (by decide +kernel) (by rw [fastTable_eq_tree]; kernel_rfl)
theorem tga_args (a b : Value) : argsOk "tuple.__getattribute__" ⟨[a, b], []⟩ := by unfold argsOk; kernel_rfl
section
variable {prog : Program} {w : World} {A : Around} {E : Value → Shared → Prop} {s : Shared} {Q : Value → Shared → Prop} {K : Frag} {x C : Addr} {ox : Obj} {od : Option Obj} {name : Str} {expr : Bool} {g a : Value}
theorem get_bindT (X : K.In s.heap) (I : InstAt s.heap x ox C od) (hga : findIn K (.ref C) "__getattribute__" = some (some (.builtin "tuple.__getattribute__"))) (hk : findIn K (.ref C) "__getattr__" = some none) (hi : subIn K (.ref C) (.type "tuple") = some true)
    (hf : findObj K C od name = some (.bind g a))
    (h : wpAny (model prog w) A.in1 (call g [a, .ref x, .ref C]) (fun v s' => wpAny (model prog w) A (handedOut v) Q E s') (fun _ _ => False) { s with toks := s.toks + 1 }) :
    wpAny (model prog w) A (getAttr (.ref x) name expr) Q E s := by
  have ht : Looks (model prog w) s.heap (typeOf (.ref x)) (.ref C) := I.type
  have hb : Looks (model prog w) s.heap (hookBefore (.ref C)) none := looks_hook X hk
  refine wpAny_bind (wpAny_mkText (wpAny_holding (wpAny_bind (ht _ _ _ _ (fun _ _ e => e) (wpAny_bind (looks_findIn X hga _ _ _ _ (fun _ _ e => e) ?_))))))
  dsimp only
  rw [show (onTheHeap (.ref C) && Value.builtin "tuple.__getattribute__" == Value.builtin "object.__getattribute__") = false from by rw [show (Value.builtin "tuple.__getattribute__" == Value.builtin "object.__getattribute__") = false from by decide +kernel, Bool.and_false], if_neg (by decide)]
  refine wpAny_bind (hb _ _ _ _ (fun _ _ e => e) (wpAny_bind (wpAny_attempt (wpAny_holding ?_))))
  unfold callGetattribute
  rw [show (expr && onTheHeap (Value.builtin "tuple.__getattribute__")) = false from Bool.and_false _, if_neg (by decide)]
  unfold boundAndCalled
  rw [tga_slot.bind]
  refine wpAny_bind (wpAny_pure ?_)
  show wpAny _ _ (call (.builtin "tuple.__getattribute__") [.ref x, .str name s.toks]) _ _ _
  refine wpAny_call ?_
  refine codeAny_call_builtin tga_slot.plain tga_entry ?_
  refine @check_slot (model prog w) _ _ { s with toks := s.toks + 1 } "tuple.__getattribute__" "tuple" "__getattribute__" (.ref x) [.str name s.toks] [] _ (by decide +kernel) (by decide +kernel) (ht.andThen (looks_subIn X hi)) (tga_args (.ref x) (.str name s.toks)) ?_
  unfold Builtin.«object.__getattribute__»
  refine wpAny_bind (wpAny_of_eq (a := (.ref x, [.str name s.toks])) rfl ?_)
  dsimp only
  refine wpAny_bind (wpAny_of_eq (a := name) rfl ?_)
  refine wpAny_bind (ht _ _ _ _ (fun _ _ e => e) ?_)
  have L1 := looks_find (M := model prog w) X I hf
  refine wpAny_bind (L1 _ _ _ _ (fun _ _ e => e) ?_)
  dsimp only
  unfold Builtin.ObjectAttr.bindTo
  dsimp only
  exact wpAny_bind (wpAny_holding (wpAny_mono h (fun v s' z => wpAny_pure z) fun _ _ z => z.elim))
end
theorem tm_subT (w : World) : subIn (hd.heap_39 w.params) (.ref 162) (.type "tuple") = some true := by rfl
theorem time_get {w : World} {x D a : Addr} {xs : Array Value} {vh : Value} {nm : Str} {expr : Bool} (G : Ctr w 3 67 [.ref a, .ref x, .ref 162] (fun h => h.get? x = some (timeObj D xs) ∧ h.get? D = some emptyDict) (fun new v => new = [] ∧ v = vh))
    (hv : handedIn vh = true) (hb : findObj (hd.heap_39 w.params) 162 (some emptyDict) nm = some (.bind (.ref 67) (.ref a)))
    (k1 : findIn (hd.heap_39 w.params) (.ref 162) "__getattribute__" = some (some (.builtin "tuple.__getattribute__"))) (k2 : findIn (hd.heap_39 w.params) (.ref 162) "__getattr__" = some none)
    {mean : ExcName → Option Value} {mg mb : Str → Option Value} {dp un : Nat} {gd : Option (List Code)} {cn : Str} {cs : Scope} {ad : Addr} {ccd : Value} {cl : List (Str × Addr)} {outer : List Env} {A₀ : Around} {base h₀ : Heap} {L : Addr} {m : Str → Option Value} {s : Shared} {Q E : Value → Shared → Prop}
    (B : Below A₀ base outer h₀) (X : (hd.heap_39 w.params).In base) (T : Top hd.view_39 (looseW hd.view_39 [Str.ofString "_tuplegetter", Str.ofString "Time", Str.ofString "NMEASentence", Str.ofString "BWC"]) mean mg mb base)
    (F : Fr h₀ L s.heap m) (hk : cs.kind = .function) (hd' : dp + 3 < recursionLimit) (hu : un + 10 * 4 < cLine) (hp : s.heap.get? x = some (timeObj D xs) ∧ s.heap.get? D = some emptyDict)
    (h : ∀ h' tk', s.heap.StaysIn h' → Q vh { s with heap := h', toks := tk' }) :
    wpAny (model PySem.Challenge.rw_ez0286_01.row.prog w) (ktrTop dp un gd cn cs L ad ccd cl outer) (getAttr (.ref x) nm expr) Q E s := by
  have XS := (X.keeps B.stays).keeps F.keep
  refine get_bindT XS ⟨hp.1, rfl, rfl, hp.2⟩ k1 k2 (tm_subT w) hb ?_
  refine G mean mg mb _ _ gd cn cs ad ccd cl outer A₀ base h₀ L m _ _ _ B X T F hk ?_ ?_ hp fun v h' tk' new st N' po => ?_
  · exact hd'
  · show un + 1 + 10 * 3 < cLine
    omega
  · obtain ⟨rfl, rfl⟩ := po
    rw [handedOut_of hv]
    exact wpAny_pure (h h' tk' st)
theorem tm_gga (w : World) : findIn (hd.heap_39 w.params) (.ref 162) "__getattribute__" = some (some (.builtin "tuple.__getattribute__")) := by rfl
theorem tm_gg (w : World) : findIn (hd.heap_39 w.params) (.ref 162) "__getattr__" = some none := by rfl
theorem tm_h (w : World) : findObj (hd.heap_39 w.params) 162 (some emptyDict) "hour" = some (.bind (.ref 67) (.ref 148)) := by rfl
theorem tm_m (w : World) : findObj (hd.heap_39 w.params) 162 (some emptyDict) "minute" = some (.bind (.ref 67) (.ref 151)) := by rfl
theorem tm_s (w : World) : findObj (hd.heap_39 w.params) 162 (some emptyDict) "second" = some (.bind (.ref 67) (.ref 154)) := by rfl
theorem tm_u (w : World) : findObj (hd.heap_39 w.params) 162 (some emptyDict) "microsecond" = some (.bind (.ref 67) (.ref 157)) := by rfl
theorem time_getN {w : World} {x D a : Addr} {xs : Array Value} {vh : Value} {nm : Str} {expr : Bool} (G : Ctr w 3 67 [.ref a, .ref x, .ref 162] (fun h => h.get? x = some (timeObj D xs) ∧ h.get? D = some emptyDict) (fun new v => new = [] ∧ v = vh))
    (hb : findObj (hd.heap_39 w.params) 162 (some emptyDict) nm = some (.bind (.ref 67) (.ref a))) (hv : handedIn vh = true)
    {mean : ExcName → Option Value} {mg mb : Str → Option Value} {dp un : Nat} {gd : Option (List Code)} {cn : Str} {cs : Scope} {ad : Addr} {ccd : Value} {cl : List (Str × Addr)} {outer : List Env} {A₀ : Around} {base h₀ : Heap} {L : Addr} {m : Str → Option Value} {s : Shared} {Q E : Value → Shared → Prop} {news : List (Addr × Obj)}
    (B : Below A₀ base outer h₀) (X : (hd.heap_39 w.params).In base) (T : Top hd.view_39 (looseW hd.view_39 [Str.ofString "_tuplegetter", Str.ofString "Time", Str.ofString "NMEASentence", Str.ofString "BWC"]) mean mg mb base)
    (F : Fr h₀ L s.heap m) (N : News h₀ L s.heap news) (hx : (x, timeObj D xs) ∈ news) (hD : (D, emptyDict) ∈ news) (hk : cs.kind = .function) (hd' : dp + 3 < recursionLimit) (hu : un + 10 * 4 < cLine)
    (h : ∀ h' tk', Fr h₀ L h' m → News h₀ L h' news → Q vh { s with heap := h', toks := tk' }) :
    wpAny (model PySem.Challenge.rw_ez0286_01.row.prog w) (ktrTop dp un gd cn cs L ad ccd cl outer) (getAttr (.ref x) nm expr) Q E s :=
  time_get G hv hb (tm_gga w) (tm_gg w) B X T F hk hd' hu ⟨(N _ hx).1, (N _ hD).1⟩ fun h' tk' st => h h' tk' (frStay F st) (newsStay N st)
end Mine
end
section
open PySem PySem.W PyProof.Rows
namespace Mine
local macro_rules | `(tactic| walk_at "RESTART") => `(tactic| skip)
theorem restart_InRange {M : Model} {A : Around} {E : Value → Shared → Prop} {s : Shared} {Q : Value → Shared → Prop} (h : Q .none s) : wpAny M A (pure Value.none) Q E s := by
  w_top off
  first
    | (walk1; fail "on")
    | exact wpAny_pure h
end Mine
end
section
open PySem PySem.W PySem.Calls PyProof.Rows PySem.Spec PySem.Builtin.Range
set_option maxRecDepth 100000
namespace Mine
section
variable {prog : Program} {w : World} {A : Around} {E : Value → Shared → Prop} {s : Shared} {Q : Value → Shared → Prop}
theorem place_iff {b i : Int} : (rangePlace? 0 b 1 i).isSome = decide (0 ≤ i ∧ i < b) := by
  unfold rangePlace?
  by_cases h : 0 ≤ i ∧ i < b
  · simp [h]
  · rw [decide_eq_false h]
    have : (decide (0 ≤ i) && decide (i < b)) = false := by
      by_cases h1 : 0 ≤ i <;> simp [h1]
      omega
    simp [this]
theorem notIn_range {r : Addr} {b i : Int} {t u v ti : Tok} (hr : IsRange s.heap r 0 b 1 t u v) (h : Q (.bool (!decide (0 ≤ i ∧ i < b))) s) : wpAny (model prog w) A (compareOp .NotIn (.int i ti) (.ref r)) Q E s := by
  have hT : s.TypeIs (.ref r) "range" := ⟨_, hr, rfl⟩
  show wpAny _ _ (do return .bool (!(← contains (.ref r) (.int i ti)))) Q E s
  refine wpAny_bind (wpAny_contains_slot hT F.slot_range_contains ?_)
  refine wpAny_call_entry F.slot_range_contains hT F.entry_range_contains ?_ (F.args_range_contains_2 _ _)
  unfold Builtin.«range.__contains__»
  refine wpAny_bind (wpAny_of_eq (a := (.ref r, [.int i ti])) rfl ?_)
  dsimp only [rangeExactInt?]
  refine wpAny_bind (wpAny_rule (wpAny_bind ?_))
  unfold rangeFields
  refine wpAny_bind (wpAny_field hr rfl (x := .int 0 t) rfl (wpAny_bind (wpAny_pure ?_)))
  refine wpAny_bind (wpAny_field hr rfl (x := .int b u) rfl (wpAny_bind (wpAny_pure ?_)))
  refine wpAny_bind (wpAny_field hr rfl (x := .int 1 v) rfl (wpAny_bind (wpAny_pure ?_)))
  refine wpAny_pure ?_
  dsimp only
  rw [place_iff]
  exact wpAny_pure ⟨_, rfl, wpAny_pure (wpAny_pure h)⟩
end
end Mine
end
section
open PySem PySem.W PyProof.Rows
namespace Mine
local macro_rules | `(tactic| walk_at "RESTART") => `(tactic| skip)
theorem restart_Stamp {M : Model} {A : Around} {E : Value → Shared → Prop} {s : Shared} {Q : Value → Shared → Prop} (h : Q .none s) : wpAny M A (pure Value.none) Q E s := by
  w_top off
  first
    | (walk1; fail "on")
    | exact wpAny_pure h
end Mine
end
section
open PySem PySem.W PySem.Calls PyProof.Rows PySem.Spec
set_option maxRecDepth 100000
namespace Mine
/-- all characters are characters of a text -/
def Cps (x : Str) : Prop := ∀ c ∈ x.cps.toList, c < 16 ^ 8
theorem cps_slice {x : Str} (h : Cps x) (l u : Option Int) : Cps (Txt.slice x l u) := by
  unfold Txt.slice
  split
  · exact h
  · intro c hc
    simp only [List.toList_toArray, List.mem_filterMap] at hc
    obtain ⟨i, _, hi⟩ := hc
    obtain ⟨hi', rfl⟩ := Array.getElem?_eq_some_iff.mp hi
    exact h _ (by simp)
theorem cps_append {x y : Str} (hx : Cps x) (hy : Cps y) : Cps (x ++ y) := by
  intro c hc
  have : (x ++ y).cps.toList = x.cps.toList ++ y.cps.toList := by
    show (x.cps ++ y.cps).toList = _
    simp
  rw [this] at hc
  rcases List.mem_append.mp hc with h | h
  · exact hx c h
  · exact hy c h
def CutPost (s : Shared) (g : Heap) (L : Addr) (m : Str → Option Value) (news : List (Addr × Obj)) (P : Value → Prop) (v : Value) (s₁ : Shared) : Prop :=
  ∃ hh tk, s₁ = { s with heap := hh, toks := tk } ∧ Fr g L hh m ∧ News g L hh news ∧ P v
theorem wpC_cut {M : Model} {A : Around} {E : Value → Shared → Prop} {s : Shared} {g h : Heap} {L : Addr} {m : Str → Option Value} {news : List (Addr × Obj)} {t : Sem Value} {Q : Value → Shared → Prop} (P : Value → Prop) (_ : Fr g L h m) (_ : News g L h news)
    (h₁ : wpC M A t (CutPost s g L m news P) E s)
    (k : ∀ v hh tk, Fr g L hh m → News g L hh news → P v → Q v { s with heap := hh, toks := tk }) : wpC M A t Q E s := by
  refine wpC_mono h₁ (fun v s₁ h => ?_) fun _ _ x => x
  obtain ⟨hh, tk, rfl, F, N, p⟩ := h
  exact k v hh tk F N p
def CutPostB (s : Shared) (g : Heap) (L : Addr) (m : Str → Option Value) (news : List (Addr × Obj)) (P : Bool → Prop) (v : Bool) (s₁ : Shared) : Prop :=
  ∃ hh tk, s₁ = { s with heap := hh, toks := tk } ∧ Fr g L hh m ∧ News g L hh news ∧ P v
theorem wpA_cutB {M : Model} {A : Around} {E : Value → Shared → Prop} {s : Shared} {g h : Heap} {L : Addr} {m : Str → Option Value} {news : List (Addr × Obj)} {t : Sem Bool} {Q : Bool → Shared → Prop} (P : Bool → Prop) (_ : Fr g L h m) (_ : News g L h news)
    (h₁ : wpAny M A t (CutPostB s g L m news P) E s)
    (k : ∀ v hh tk, Fr g L hh m → News g L hh news → P v → Q v { s with heap := hh, toks := tk }) : wpAny M A t Q E s := by
  refine wpAny_mono h₁ (fun v s₁ h => ?_) fun _ _ x => x
  obtain ⟨hh, tk, rfl, F, N, p⟩ := h
  exact k v hh tk F N p
def msText (x : Str) : Str := Txt.slice (Txt.slice (Txt.slice x (some 6) none) (some 1) none ++ Str.ofString "000000") none (some 6)
def msOf (x : Str) : Option Int := if (Txt.slice x (some 6) none).length = 0 then some 0 else PySem.intText? (msText x)
def stampBad (x : Str) (h m s : Int) : Bool :=
  (decide ((Txt.slice x (some 6) none).length ≠ 0) && !(Txt.item (Txt.slice x (some 6) none) 0 == Str.ofString "." && Txt.isdigit (Txt.slice (Txt.slice x (some 6) none) (some 1) none))) ||
  !decide (0 ≤ h ∧ h < 24) || !decide (0 ≤ m ∧ m < 60) || !decide (0 ≤ s ∧ s < 60)
def stamp (x : Str) : Option (Int × Int × Int × Int) :=
  match msOf x with
  | none => none
  | some ms => match PySem.intText? (Txt.slice x (some 0) (some 2)) with
    | none => none
    | some h => match PySem.intText? (Txt.slice x (some 2) (some 4)) with
      | none => none
      | some m => match PySem.intText? (Txt.slice x (some 4) (some 6)) with
        | none => none
        | some s => if stampBad x h m s = true then none else some (h, m, s, ms)
def StampPost (x : Str) (new : List (Addr × Obj)) (v : Value) : Prop :=
  ∃ X D h m s u th tm ts tu, stamp x = some (h, m, s, u) ∧ new = [(X, timeObj D #[.int h th, .int m tm, .int s ts, .int u tu]), (D, emptyDict)] ∧ v = .ref X
theorem newsAt {h₀ h h' : Heap} {L L' : Addr} {m : Str → Option Value} {new : List (Addr × Obj)} (F : Fr h₀ L h m) (N : News h L' h' new) : News h L h' new := by
  intro p hp
  refine ⟨(N p hp).1, fun e => ?_, (N p hp).2.2⟩
  obtain ⟨oL, _, _, hL, _⟩ := F.ns
  have := (N p hp).2.2
  rw [e, hL] at this
  cases this
theorem raisedN_of {base G : Heap} {l : List Env} {e t : Addr} {cls : Value} {vs : List Value} {news : List (Addr × Obj)} {h : Heap} (R : RaisedS base G l e cls t vs news h) : RaisedSN base G l e cls [] h := by
  obtain ⟨⟨B, hB, hBG, _, hfl, _⟩, _⟩ := R
  exact ⟨B, _, hB, hBG, fun q hq => (by cases hq), hfl⟩
/-- a contract with two ways, over contexts that bear the caller: it gives back, or raises a ValueError -/
def CtrC (w : World) (k : Nat) (f : Addr) (vs : List Value) (Pre : Heap → Prop) (Post : List (Addr × Obj) → Value → Prop) (No : Prop) : Prop :=
  ∀ (mean : ExcName → Option Value) (mg mb : Str → Option Value) (dp un : Nat) (gd : Option (List Code)) (cn : Str) (cs : Scope) (a : Addr) (ccd : Value) (outer : List Env) (A₀ : Around) (base h₀ : Heap) (L : Addr) (m : Str → Option Value) (s : Shared) (Q E : Value → Shared → Prop),
    Below A₀ base outer h₀ → (hd.heap_39 w.params).In base → Top hd.view_39 (looseW hd.view_39 [Str.ofString "_tuplegetter", Str.ofString "Time", Str.ofString "NMEASentence", Str.ofString "BWC"]) mean mg mb base → Fr h₀ L s.heap m → cs.kind = .function → dp + k < recursionLimit → un + 10 * k < cLine → Pre s.heap →
    (∀ v h' tk' new, s.heap.StaysIn h' → News s.heap L h' new → Post new v → Q v { s with heap := h', toks := tk' }) →
    (∀ e h' tk', RaisedSN base s.heap (envOf cn cs L a ccd :: outer) e (.type "ValueError") [] h' → s.heap.UpToSlots h' → No → E (.ref e) { s with heap := h', toks := tk' }) →
    wpC (model PySem.Challenge.rw_ez0286_01.row.prog w) (ktrTop dp un gd cn cs L a ccd [] outer) (call (.ref f) vs) Q E s
local macro_rules | `(tactic| walk_at "subscriptTail") => `(tactic| (k_here; (with_reducible show wpAny _ _ (subscriptTail _ (Expr.Slice none (some _) none _) (Value.str _ _) (Value.ref _)) _ _ _); (with_reducible rename Fr _ _ _ _ => F9); (with_reducible rename News _ _ _ _ => N9); k_dflt (refine' slice_strN_ns_len (hsz := ?hsz) (s := ⟨_, _, _, _, _⟩) F9 N9 ?_; (case hsz => (rw [sizeLine_eq]; omega))); intro h9 t9 k9 F9 N9 hl9; (try k_sweep)))
local macro_rules | `(tactic| walk_at "subscriptTail") => `(tactic| (k_here; (with_reducible show wpAny _ _ (subscriptTail _ (Expr.Slice (some _) none none _) (Value.str _ _) (Value.ref _)) _ _ _); (with_reducible rename Fr _ _ _ _ => F9); (with_reducible rename News _ _ _ _ => N9); k_dflt (refine' slice_strN_sn_len (hsz := ?hsz) (s := ⟨_, _, _, _, _⟩) F9 N9 ?_; (case hsz => (rw [sizeLine_eq]; omega))); intro h9 t9 k9 F9 N9 hl9; (try k_sweep)))
local macro_rules | `(tactic| walk_at "subscriptTail") => `(tactic| (k_here; (with_reducible show wpAny _ _ (subscriptTail _ (Expr.Slice (some _) (some _) none _) (Value.str _ _) (Value.ref _)) _ _ _); (with_reducible rename Fr _ _ _ _ => F9); (with_reducible rename News _ _ _ _ => N9); k_dflt (refine' slice_strN_ss_len (hsz := ?hsz) (s := ⟨_, _, _, _, _⟩) F9 N9 ?_; (case hsz => (rw [sizeLine_eq]; omega))); intro h9 t9 k9 F9 N9 hl9; (try k_sweep)))
local macro_rules | `(tactic| walk_at "getAttr ref") => `(tactic| (k_here; (with_reducible show wpAny _ _ (getAttr (Value.ref _) (Str.ofString "hour") _) _ _ _); (with_reducible rename Fr _ _ _ _ => F9); (with_reducible rename News _ _ _ _ => N9); k_dflt (refine' time_getN (get_h _ _ _ _ _ _ _) (tm_h _) ?g3 (by assumption) (by assumption) (by assumption) F9 N9 ?g4 ?g5 ?hk ?hd ?hu ?_; (case g4 => exact List.mem_cons_self ..); (case g5 => exact List.mem_cons_of_mem _ (List.mem_cons_self ..)); (case g3 => exact rfl); (case hk => exact rfl); (case hd => ktr_room); (case hu => ktr_units); k_whole); intro h9 tk9 F9 N9; (try k_sweep)))
local macro_rules | `(tactic| walk_at "getAttr ref") => `(tactic| (k_here; (with_reducible show wpAny _ _ (getAttr (Value.ref _) (Str.ofString "minute") _) _ _ _); (with_reducible rename Fr _ _ _ _ => F9); (with_reducible rename News _ _ _ _ => N9); k_dflt (refine' time_getN (get_m _ _ _ _ _ _ _) (tm_m _) ?g3 (by assumption) (by assumption) (by assumption) F9 N9 ?g4 ?g5 ?hk ?hd ?hu ?_; (case g4 => exact List.mem_cons_self ..); (case g5 => exact List.mem_cons_of_mem _ (List.mem_cons_self ..)); (case g3 => exact rfl); (case hk => exact rfl); (case hd => ktr_room); (case hu => ktr_units); k_whole); intro h9 tk9 F9 N9; (try k_sweep)))
local macro_rules | `(tactic| walk_at "getAttr ref") => `(tactic| (k_here; (with_reducible show wpAny _ _ (getAttr (Value.ref _) (Str.ofString "second") _) _ _ _); (with_reducible rename Fr _ _ _ _ => F9); (with_reducible rename News _ _ _ _ => N9); k_dflt (refine' time_getN (get_s _ _ _ _ _ _ _) (tm_s _) ?g3 (by assumption) (by assumption) (by assumption) F9 N9 ?g4 ?g5 ?hk ?hd ?hu ?_; (case g4 => exact List.mem_cons_self ..); (case g5 => exact List.mem_cons_of_mem _ (List.mem_cons_self ..)); (case g3 => exact rfl); (case hk => exact rfl); (case hd => ktr_room); (case hu => ktr_units); k_whole); intro h9 tk9 F9 N9; (try k_sweep)))
local macro_rules | `(tactic| walk_at "getAttr ref") => `(tactic| (k_here; (with_reducible show wpAny _ _ (getAttr (Value.ref _) (Str.ofString "microsecond") _) _ _ _); (with_reducible rename Fr _ _ _ _ => F9); (with_reducible rename News _ _ _ _ => N9); k_dflt (refine' time_getN (get_u _ _ _ _ _ _ _) (tm_u _) ?g3 (by assumption) (by assumption) (by assumption) F9 N9 ?g4 ?g5 ?hk ?hd ?hu ?_; (case g4 => exact List.mem_cons_self ..); (case g5 => exact List.mem_cons_of_mem _ (List.mem_cons_self ..)); (case g3 => exact rfl); (case hk => exact rfl); (case hd => ktr_room); (case hu => ktr_units); k_whole); intro h9 tk9 F9 N9; (try k_sweep)))
local macro_rules | `(tactic| walk_at "compareOp NotIn int ref") => `(tactic| (k_here; k_dflt (refine notIn_range (by assumption) ?_)))
local macro_rules | `(tactic| walk_at "C int") => `(tactic| (refine wpC_Call_Name ?_; k_steps; (try dsimp only); refine wpC_Call_type1 ?_; k_steps; (try dsimp only)))
set_option maxHeartbeats 1000000 in
theorem stamp_ok (w : World) (x : Str) (t : Tok) (hx : x.length ≤ 40) (hc : Cps x) :
    CtrC w 8 172 [.str x t] (fun _ => True) (StampPost x) (stamp x = none) := by
  unfold CtrC
  k_fill
  intro mean mg mb dp un gd cn cs a ccd outer A₀ base h₀ L m s Q E B X T F hk hd hu _ hret herr
  refine wpC_call ?_
  refine' enterC ?k1 ?k2 ?k3 ?k4 ?kA ?kF ?kK ?k6 ?k7 ?k8 ?k9 ?kB ?_ ?c2 ?c3 ?c4 ?c5
  case kA => exact rfl
  case kF => exact rfl
  case kK => assumption
  case k1 => k_asm
  case k2 => k_asm
  case k3 => k_asm
  case k4 => k_asm
  case k6 => k_is
  case k7 => k_is
  case k8 => ktr_room
  case k9 => exact BindsTo.of_eq rfl
  case kB => exact locs rfl
  case c2 => exact rfl
  case c3 => exact rfl
  case c4 => exact rfl
  case c5 => decide
  intro L' h₁ hL F' N' B' X' T'
  have h6 : (Str.ofString "000000").length = 6 := by decide
  have c6 : Cps (Str.ofString "000000") := by unfold Cps; decide
  dsimp only
  refine wpC_execs_cons (wpC_any ?_)
  k_steps
  dsimp only
  refine wpC_execs_cons (wpC_any ?_)
  k_steps
  dsimp only
  refine wpC_execs_cons ?_
  refine wpC_Assign_Name ?_
  refine wpC_cut (fun v => ∃ n tk, v = .int n tk ∧ msOf x = some n) (by assumption) (by assumption) ?_ ?_
  · refine wpC_boolOr ?_
    refine wpC_boolAnd ?_
    refine wpC_any ?_
    k_steps
    · refine wpC_boolOne ?_
      walk_at "C int"
      rename Fr _ _ _ _ => F9
      rename News _ _ _ _ => N9
      refine wpC_int_both rfl (by omega) (cps_slice (cps_append (cps_slice (cps_slice hc _ _) _ _) c6) _ _) ?_ ?_
      · intro hI h' tk e hx
        exact leave_newS B' hx F9 N9 (fun h'' R _ U => herr _ _ _ R U (by unfold stamp msOf; rw [if_neg (by omega), show PySem.intText? (msText x) = none from hI])) rfl
      · intro n hI
        have hms : msOf x = some n := by unfold msOf; rw [if_neg (by omega)]; exact hI
        k_steps
        · exact ⟨_, _, rfl, F9, N9, _, _, rfl, hms⟩
        · refine wpC_boolOne (wpC_any ?_)
          k_steps
          have hms : msOf x = some 0 := by rw [hms]; exact congrArg some (by assumption)
          exact ⟨_, _, rfl, F9, N9, _, _, rfl, hms⟩
    · exfalso; omega
    · rename Fr _ _ _ _ => F9
      rename News _ _ _ _ => N9
      have hms : msOf x = some 0 := by unfold msOf; rw [if_pos (by omega)]
      refine wpC_boolOne (wpC_any ?_)
      k_steps
      exact ⟨_, _, rfl, F9, N9, _, _, rfl, hms⟩
  · rintro v hh tk F₃ N₃ ⟨n, tn, rfl, hms⟩
    dsimp only
    k_steps
    dsimp only
    refine wpC_execs_cons ?_
    refine wpC_Assign_Name ?_
    refine wpC_Call_Name ?_
    k_steps
    dsimp only
    refine' wpC_callWith_KW0 (K := (Mine.hd.heap_39 w.params)) ?kk ?ka ?kp ?_
    case kk => k_is
    case ka => exact rfl
    case kp => exact rfl
    refine wpC_kwAll_cons ?_
    walk_at "C int"
    rename Fr _ _ _ _ => F9
    rename News _ _ _ _ => N9
    refine wpC_int_both rfl (by omega) (cps_slice hc _ _) (fun hI h' tk e hx => leave_newS B' hx F9 N9 (fun h'' R _ U => herr _ _ _ R U (by unfold stamp; rw [hms, hI])) rfl) (fun hh hI0 => ?_)
    dsimp only
    refine wpC_kwAll_cons ?_
    walk_at "C int"
    rename Fr _ _ _ _ => F9
    rename News _ _ _ _ => N9
    refine wpC_int_both rfl (by omega) (cps_slice hc _ _) (fun hI h' tk e hx => leave_newS B' hx F9 N9 (fun h'' R _ U => herr _ _ _ R U (by unfold stamp; rw [hms, hI0, hI])) rfl) (fun mm hI1 => ?_)
    dsimp only
    refine wpC_kwAll_cons ?_
    walk_at "C int"
    rename Fr _ _ _ _ => F9
    rename News _ _ _ _ => N9
    refine wpC_int_both rfl (by omega) (cps_slice hc _ _) (fun hI h' tk e hx => leave_newS B' hx F9 N9 (fun h'' R _ U => herr _ _ _ R U (by unfold stamp; rw [hms, hI0, hI1, hI])) rfl) (fun ss hI2 => ?_)
    dsimp only
    refine wpC_kwAll_cons (wpC_any ?_)
    k_steps
    refine wpC_kwAll_nil ⟨X'.keeps F9.keep, wpC_any ?_⟩
    refine (time_ok w (.int hh _) (.int mm _) (.int ss _) (.int n _)) mean mg mb _ _ gd _ _ _ _ [] (envOf cn cs L a ccd :: outer) _ base s.heap L' _ _ _ _ B' X T F9 rfl (by show dp + 1 + 5 < _; omega) (by show un + _ + 10 * 5 < _; omega) fun v h' tk' new st N' po => ?_
    obtain ⟨x', D, rfl, rfl⟩ := po
    have F10 := frStay F9 st
    have N10 := newsUp F9 N'
    clear F9 N9
    k_steps
    dsimp only
    refine wpC_execs_cons (wpC_If ?_)
    clear N' st
    refine wpA_cutB (fun b => b = stampBad x hh mm ss) (by assumption) (by assumption) ?_ ?_
    · k_steps
      all_goals (refine ⟨_, _, rfl, by assumption, by assumption, ?_⟩; unfold stampBad; simp [*])
      all_goals first | omega | (intro hz; omega)
    · intro b h2 tk2 F11 N11 hb
      cases b
      · dsimp only
        rw [if_neg Bool.false_ne_true]
        refine wpC_any ?_
        k_steps
        dsimp only
        refine wpC_any ?_
        k_steps
        dsimp only
        refine hret _ _ _ _ F11.keep (newsAt F N11) ⟨_, _, _, _, _, _, _, _, _, _, ?_, rfl, rfl⟩
        unfold stamp
        rw [hms, hI0, hI1, hI2]
        dsimp only
        rw [← hb, if_neg Bool.false_ne_true]
      · dsimp only
        rw [if_pos rfl]
        refine wpC_any ?_
        have kd : KtsDicts [] s.heap := ktsDicts_nil
        k_steps
        rename RaisedS _ _ _ _ _ _ _ _ _ => R9
        refine herr _ _ _ (raisedN_of R9) (by assumption) ?_
        unfold stamp
        rw [hms, hI0, hI1, hI2]
        dsimp only
        rw [← hb, if_pos rfl]
end Mine
end
section
open PySem PySem.W PyProof.Rows
namespace Mine
local macro_rules | `(tactic| walk_at "RESTART") => `(tactic| skip)
theorem restart_Plain {M : Model} {A : Around} {E : Value → Shared → Prop} {s : Shared} {Q : Value → Shared → Prop} (h : Q .none s) : wpAny M A (pure Value.none) Q E s := by
  w_top off
  first
    | (walk1; fail "on")
    | exact wpAny_pure h
end Mine
end
section
open PySem PySem.W PySem.Calls PyProof.Rows PySem.Spec
set_option maxRecDepth 100000
namespace Mine
/-- all stands but the slots of the object at L -/
def ButL (L : Addr) (h h' : Heap) : Prop := (∀ b o, h.get? b = some o → b ≠ L → h'.get? b = some o) ∧ ∀ o, h.get? L = some o → ∃ sl, h'.get? L = some { o with slots := sl }
theorem ButL.of_stays {L : Addr} {h h' : Heap} (st : h.StaysIn h') : ButL L h h' := ⟨fun b o e _ => st b o e, fun o e => ⟨o.slots, st _ _ e⟩⟩
theorem ButL.trans {L : Addr} {h h₁ h₂ : Heap} (x : ButL L h h₁) (y : ButL L h₁ h₂) : ButL L h h₂ := ⟨fun b o e n => y.1 b o (x.1 b o e n) n, fun o e => by
  obtain ⟨s1, e1⟩ := x.2 o e
  obtain ⟨s2, e2⟩ := y.2 _ e1
  exact ⟨s2, e2⟩⟩
theorem frBut {h₀ h h' : Heap} {L : Addr} {m : Str → Option Value} (F : Fr h₀ L h m) (st : ButL L h h') : Fr h₀ L h' m := by
  obtain ⟨oL, es, ep, hL, hLd, hLk, hLf⟩ := F.ns
  obtain ⟨sl, e⟩ := st.2 _ hL
  refine ⟨⟨_, es, ep, e, hLd, hLk, hLf⟩, fun b o q => st.1 b o (F.keep b o q) fun e => ?_, F.above⟩
  rw [e, kts_self F] at q
  cases q
theorem newsBut {h₀ h h' : Heap} {L : Addr} {news : List (Addr × Obj)} (N : News h₀ L h news) (st : ButL L h h') : News h₀ L h' news := fun p hp => ⟨st.1 _ _ (N p hp).1 (N p hp).2.1, (N p hp).2⟩
theorem butTurn {L L' : Addr} {g g' h' : Heap} {m : Str → Option Value} {env : Env} (hf : env.frame = some L) (T : KtsTurn ([env].filterMap (·.frame)) g g') (F : Fr g' L' h' m) : ButL L g h' := by
  have e1 : [env].filterMap (·.frame) = [L] := by simp [hf]
  rw [e1] at T
  exact ⟨fun b o e n => F.keep _ _ (T.other b o e (by simpa using n)), fun o e => by
    obtain ⟨sl, q⟩ := T.frame L o e (by simp)
    exact ⟨sl, F.keep _ _ q⟩⟩
theorem newsTurn {h₀ g g' h' : Heap} {L L' : Addr} {m : Str → Option Value} {fs : List Addr} {new : List (Addr × Obj)} (F : Fr h₀ L g m) (T : KtsTurn fs g g') (N : News g' L' h' new) : News g L h' new := by
  intro p hp
  have n : g.get? p.1 = none := by
    cases q : g.get? p.1 with
    | none => rfl
    | some o =>
      obtain ⟨sl, e⟩ := T.up q
      rw [(N p hp).2.2] at e
      cases e
  refine ⟨(N p hp).1, fun e => ?_, n⟩
  obtain ⟨oL, _, _, hL, _⟩ := F.ns
  rw [e, hL] at n
  cases n
theorem ktsOne {h₀ h : Heap} {L : Addr} {m : Str → Option Value} {env : Env} (hf : env.frame = some L) (F : Fr h₀ L h m) : KtsDicts ([env].filterMap (·.frame)) h := by
  obtain ⟨oL, es, ep, hL, hLd, _⟩ := F.ns
  have e1 : [env].filterMap (·.frame) = [L] := by simp [hf]
  rw [e1]
  intro b hb
  have : b = L := by simpa using hb
  subst this
  exact ⟨oL, es, ep, hL, hLd⟩
/-- a contract over contexts that bear the caller, called from the outermost frame -/
def CtrL (w : World) (k : Nat) (f : Addr) (vs : List Value) (Pre : Heap → Prop) (Post : List (Addr × Obj) → Value → Prop) : Prop :=
  ∀ (mean : ExcName → Option Value) (mg mb : Str → Option Value) (dp un : Nat) (gd : Option (List Code)) (cn : Str) (cs : Scope) (a : Addr) (ccd : Value) (A₀ : Around) (base h₀ : Heap) (L : Addr) (m : Str → Option Value) (s : Shared) (Q E : Value → Shared → Prop),
    Below A₀ base [] h₀ → (hd.heap_39 w.params).In base → Top hd.view_39 (looseW hd.view_39 [Str.ofString "_tuplegetter", Str.ofString "Time", Str.ofString "NMEASentence", Str.ofString "BWC"]) mean mg mb base → Fr h₀ L s.heap m → cs.kind = .function → dp + k < recursionLimit → un + 10 * k < cLine → Pre s.heap →
    (∀ v h' tk' new, ButL L s.heap h' → News s.heap L h' new → Post new v → Q v { s with heap := h', toks := tk' }) →
    wpC (model PySem.Challenge.rw_ez0286_01.row.prog w) (ktrTop dp un gd cn cs L a ccd [] []) (call (.ref f) vs) Q E s
def plainDat (x : Str) : Dat := match stamp x with
  | none => .none
  | some (h, m, s, u) => .list [.int h, .int m, .int s, .int u]
theorem wpC_callWith_K1 {M : Model} {A : Around} {E : Value → Shared → Prop} {s : Shared} {env : Env} {K : Frag} {pos : Pos} {f : Value} {e : Expr} {Q : Value → Shared → Prop} (hk : keepIn K f = true)
    (h : wpAny M A (eval e env) (fun v s₁ => K.In s₁.heap ∧ wpC M A (call f [v]) Q E s₁) E s)
    (he : starEach [e] env = [(false, eval e env)] := by rfl) : wpC M A (callWith pos f [] (backTo pos (starEach [e] env)) (backToKw pos (keywordEach [] env))) Q E s := by
  rw [he]
  refine wpC_callWith (first := []) rfl (keeps_K hk) ?_
  exact wpC_evalArgs_plain (wpC_spliced1 (wpC_any h))
local macro_rules | `(tactic| walk_at "getAttr ref") => `(tactic| (k_here; (with_reducible show wpAny _ _ (getAttr (Value.ref _) (Str.ofString "hour") _) _ _ _); (with_reducible rename Fr _ _ _ _ => F9); (with_reducible rename News _ _ _ _ => N9); k_dflt (refine' time_getN (get_h _ _ _ _ _ _ _) (tm_h _) ?g3 (by assumption) (by assumption) (by assumption) F9 N9 ?g4 ?g5 ?hk ?hd ?hu ?_; (case g4 => exact List.mem_cons_self ..); (case g5 => exact List.mem_cons_of_mem _ (List.mem_cons_self ..)); (case g3 => exact rfl); (case hk => exact rfl); (case hd => ktr_room); (case hu => ktr_units); k_whole); intro h9 tk9 F9 N9; (try k_sweep)))
local macro_rules | `(tactic| walk_at "getAttr ref") => `(tactic| (k_here; (with_reducible show wpAny _ _ (getAttr (Value.ref _) (Str.ofString "minute") _) _ _ _); (with_reducible rename Fr _ _ _ _ => F9); (with_reducible rename News _ _ _ _ => N9); k_dflt (refine' time_getN (get_m _ _ _ _ _ _ _) (tm_m _) ?g3 (by assumption) (by assumption) (by assumption) F9 N9 ?g4 ?g5 ?hk ?hd ?hu ?_; (case g4 => exact List.mem_cons_self ..); (case g5 => exact List.mem_cons_of_mem _ (List.mem_cons_self ..)); (case g3 => exact rfl); (case hk => exact rfl); (case hd => ktr_room); (case hu => ktr_units); k_whole); intro h9 tk9 F9 N9; (try k_sweep)))
local macro_rules | `(tactic| walk_at "getAttr ref") => `(tactic| (k_here; (with_reducible show wpAny _ _ (getAttr (Value.ref _) (Str.ofString "second") _) _ _ _); (with_reducible rename Fr _ _ _ _ => F9); (with_reducible rename News _ _ _ _ => N9); k_dflt (refine' time_getN (get_s _ _ _ _ _ _ _) (tm_s _) ?g3 (by assumption) (by assumption) (by assumption) F9 N9 ?g4 ?g5 ?hk ?hd ?hu ?_; (case g4 => exact List.mem_cons_self ..); (case g5 => exact List.mem_cons_of_mem _ (List.mem_cons_self ..)); (case g3 => exact rfl); (case hk => exact rfl); (case hd => ktr_room); (case hu => ktr_units); k_whole); intro h9 tk9 F9 N9; (try k_sweep)))
local macro_rules | `(tactic| walk_at "getAttr ref") => `(tactic| (k_here; (with_reducible show wpAny _ _ (getAttr (Value.ref _) (Str.ofString "microsecond") _) _ _ _); (with_reducible rename Fr _ _ _ _ => F9); (with_reducible rename News _ _ _ _ => N9); k_dflt (refine' time_getN (get_u _ _ _ _ _ _ _) (tm_u _) ?g3 (by assumption) (by assumption) (by assumption) F9 N9 ?g4 ?g5 ?hk ?hd ?hu ?_; (case g4 => exact List.mem_cons_self ..); (case g5 => exact List.mem_cons_of_mem _ (List.mem_cons_self ..)); (case g3 => exact rfl); (case hk => exact rfl); (case hd => ktr_room); (case hu => ktr_units); k_whole); intro h9 tk9 F9 N9; (try k_sweep)))
set_option maxHeartbeats 1000000 in
theorem plain_ok (w : World) (x : Str) (t : Tok) (hx : x.length ≤ 40) (hc : Cps x) :
    CtrL w 20 419 [.str x t] (fun _ => True) (fun new v => DatIn new v (plainDat x)) := by
  unfold CtrL
  k_fill
  intro mean mg mb dp un gd cn cs a ccd A₀ base h₀ L m s Q E B X T F hk hd hu _ hret
  refine wpC_call ?_
  refine' enterC ?k1 ?k2 ?k3 ?k4 ?kA ?kF ?kK ?k6 ?k7 ?k8 ?k9 ?kB ?_ ?c2 ?c3 ?c4 ?c5
  case kA => exact rfl
  case kF => exact rfl
  case kK => assumption
  case k1 => k_asm
  case k2 => k_asm
  case k3 => k_asm
  case k4 => k_asm
  case k6 => k_is
  case k7 => k_is
  case k8 => ktr_room
  case k9 => exact BindsTo.of_eq rfl
  case kB => exact locs rfl
  case c2 => exact rfl
  case c3 => exact rfl
  case c4 => exact rfl
  case c5 => decide
  intro L' h₁ hL F' N' B' X' T'
  dsimp only
  refine wpC_execs_cons (wpC_Try_except ?_)
  refine wpC_execs_cons ?_
  refine wpC_Assign_Name ?_
  refine wpC_Call_Name ?_
  k_steps
  refine' wpC_callWith_K1 (K := (Mine.hd.heap_39 w.params)) ?kk ?_
  case kk => k_is
  k_steps
  refine (stamp_ok w x t hx hc) mean mg mb _ _ gd _ _ _ _ [envOf cn cs L a ccd] _ base s.heap L' _ _ _ _ B' X T F' rfl (by show dp + 1 + 8 < _; omega) (by show un + _ + 10 * 8 < _; omega) trivial ?_ ?_
  · intro v h' tk' new st Nn po
    obtain ⟨x', D, hh, mm, ss, uu, th, tm, ts, tu, hst, rfl, rfl⟩ := po
    have F9 := frStay F' st
    have N9 := newsUp F' Nn
    clear F' N'
    k_steps
    dsimp only
    refine wpC_execs_nil ?_
    dsimp only
    refine wpC_any ?_
    k_steps
    dsimp only
    refine wpC_any ?_
    k_steps
    dsimp only
    rename Fr _ _ _ _ => F9
    rename News _ _ _ _ => N9
    refine hret _ _ _ _ (ButL.of_stays F9.keep) (newsAt F N9) ?_
    unfold plainDat
    rw [hst]
    exact DatIn.list (.head _) (.cons (.int _ _) (.cons (.int _ _) (.cons (.int _ _) (.cons (.int _ _) .nil))))
  · intro e h' tk' R U hst
    have kd := ktsOne (env := envOf cn cs L a ccd) rfl F
    k_steps
    dsimp only
    rename Fr _ _ _ _ => F9
    rename News _ _ _ _ => N9
    rename KtsTurn _ _ _ => T9
    refine hret _ _ _ [] (butTurn rfl T9 F9) (newsTurn F T9 N9) ?_
    unfold plainDat
    rw [hst]
    exact DatIn.none
end Mine
end
section
open PySem PySem.W PyProof.Rows
namespace Mine
local macro_rules | `(tactic| walk_at "RESTART") => `(tactic| skip)
theorem restart_EnumTup {M : Model} {A : Around} {E : Value → Shared → Prop} {s : Shared} {Q : Value → Shared → Prop} (h : Q .none s) : wpAny M A (pure Value.none) Q E s := by
  w_top off
  first
    | (walk1; fail "on")
    | exact wpAny_pure h
end Mine
end
section
open PySem PySem.W PySem.Calls PyProof.Rows PySem.Spec
open AutoSeq1 (wpAny_loadPart')
set_option maxRecDepth 100000
namespace Mine
abbrev enumObj (it : Addr) : Obj := { cls := .type "enumerate", data := .fields #[.none, .bool false, .ref it, rawInt 0, .none, .none] }
abbrev titObj (l : Addr) : Obj := { cls := .type "tuple_iterator", data := .fields #[.ref l, .int 0 0] }
theorem en_new (l : Addr) (items : Array Value) (n : Nat) :
    Meets (Builtin.«enumerate.__new__» ⟨[.type "enumerate", .ref l], []⟩) (fun _ R s => s.heap.get? l = some { cls := .type "tuple", dict := none, data := .seq items n, slots := #[] } ∧
      R (.ok (.ret (.ref (s.heap.push (titObj l)).objs.size))) { s with heap := (s.heap.push (titObj l)).push (enumObj s.heap.objs.size) }) :=
  .of_wp fun prog w A R s h => by
    obtain ⟨hp, g, d, tk, os⟩ := s; obtain ⟨hl, h⟩ := h
    have hsub := sub_enumerate
    have hL : Heap.IsTuple (Shared.heap ⟨hp, g, d, tk, os⟩) l items := ⟨_, hl, rfl, n, rfl⟩
    wp_walk using wpAny_loadPart' hl
    refine wpAny_stack_any fun st => wpAny_pure ?_
    split
    · rename_i c _ _ _ _ _
      cases (c == Value.type "enumerate")
      · wp_walk using wpAny_loadPart' hl, wpAny_pyIter_tuple hL
        exact ⟨_, rfl, h⟩
      · wp_walk using wpAny_loadPart' hl, wpAny_pyIter_tuple hL
        exact ⟨_, rfl, h⟩
    · wp_walk using wpAny_loadPart' hl, wpAny_pyIter_tuple hL
      exact ⟨_, rfl, h⟩
section
variable {prog : Program} {w : World} {A : Around} {E : Value → Shared → Prop} {s : Shared}
theorem en_call {l : Addr} {items : Array Value} {n : Nat} {Q : Value → Shared → Prop} (hl : s.heap.get? l = some { cls := .type "tuple", dict := none, data := .seq items n, slots := #[] })
    (h : ∀ h', IsEnum h' (s.heap.objs.size + 1) s.heap.objs.size 0 .none → h'.IsTupleIter s.heap.objs.size l 0 → h'.objs.size = s.heap.objs.size + 2 → s.heap.StaysIn h' → Q (.ref (s.heap.objs.size + 1)) { s with heap := h' }) :
    wpAny (model prog w) A (call (.type "enumerate") [.ref l]) Q E s := by
  refine callType_new PySem.F.called_enumerate (by decide) (PySem.F.typeCall_enumerate_1 _) (PySem.F.newCall_enumerate_1 _) (fun obj => PySem.F.args_object_init_2 obj _) PySem.F.entry_enumerate_new (en_new l items n) ⟨hl, ?_⟩
  have hz : (s.heap.push (titObj l)).objs.size = s.heap.objs.size + 1 := Heap.size_push ..
  show _ ∧ _
  rw [hz]
  have he : IsEnum ((s.heap.push (titObj l)).push (enumObj s.heap.objs.size)) (s.heap.objs.size + 1) s.heap.objs.size 0 .none := by
    have := Heap.get?_push_size (s.heap.push (titObj l)) (o := enumObj s.heap.objs.size) rfl
    rw [hz] at this; exact this
  exact ⟨⟨_, he, rfl⟩, h _ he ⟨_, Heap.get?_push_of_some _ (Heap.get?_push_size _ rfl), rfl, rfl⟩ (by rw [Heap.size_push, hz]) fun b o x => Heap.get?_push_of_some _ (Heap.get?_push_of_some _ x)⟩
theorem tn_item {it t : Addr} {i : Nat} {items} {x : Value} {Q : Value → Shared → Prop} (hit : s.heap.IsTupleIter it t i) (ht : s.heap.IsTuple t items) (hx : items[i]? = some x)
    (hQ : ∀ h', h'.IsTupleIter it t (i + 1) → Heap.SameBut it s.heap h' → Q x { s with heap := h' }) : wpAny (model prog w) A (Builtin.SmallTypes.nextOf (.ref it)) Q E s := by
  obtain ⟨o, ho, hc, hd⟩ := id hit
  obtain ⟨ol, hol, _, nl, hdl⟩ := ht
  unfold Builtin.SmallTypes.nextOf
  refine wpAny_bind (wpAny_callSpecial?_slot (name := Str.ofString "__next__") hit.typeIs PySem.F.slot_tuple_iterator_next
    (wpAny_call_entry PySem.F.slot_tuple_iterator_next hit.typeIs PySem.F.entry_tuple_iterator_next ?_ (PySem.F.args_tuple_iterator_next_1 _)))
  show wpAny _ _ (field (.ref it) 0 >>= _) _ _ s
  refine wpAny_bind (wpAny_field ho hd (x := .ref t) rfl ?_)
  show wpAny _ _ (if (Value.ref t == Value.none) = true then _ else _) _ _ s
  rw [if_neg (show ¬ ((Value.ref t == Value.none) = true) from Bool.false_ne_true)]
  show wpAny _ _ (field (.ref it) 1 >>= _) _ _ s
  refine wpAny_bind (wpAny_field ho hd (x := .int i 0) rfl ?_)
  show wpAny _ _ (seqItems? (.ref t) >>= _) _ _ s
  refine wpAny_bind (wpAny_seqItems hol hdl ?_)
  simp only [Int.toNat_natCast, hx]
  refine wpAny_bind (wpAny_setField ho hd (by simp) (wpAny_pure ⟨x, rfl, wpAny_pure (hQ _ ?_ (Heap.SameBut.update ..))⟩))
  exact ⟨_, Heap.get?_update_self _ ho (Obj.isFreed_of_fields (Obj.data_mapFields hd _)), (Obj.cls_mapFields ..).trans hc, by
    rw [Obj.data_mapFields hd]; simp [rawInt]⟩
theorem tn_end {it t : Addr} {i : Nat} {items} {Q : Value → Shared → Prop} (hh : A.handled = none) (hit : s.heap.IsTupleIter it t i) (ht : s.heap.IsTuple t items) (hx : items[i]? = none)
    (hE : ∀ h' e, Heap.ExtBut it s.heap h' → (∃ o, h'.get? e = some o ∧ o.cls = .type "StopIteration") → E (.ref e) { s with heap := h' }) : wpAny (model prog w) A (Builtin.SmallTypes.nextOf (.ref it)) Q E s := by
  obtain ⟨o, ho, hc, hd⟩ := id hit
  obtain ⟨ol, hol, _, nl, hdl⟩ := ht
  unfold Builtin.SmallTypes.nextOf
  refine wpAny_bind (wpAny_callSpecial?_slot (name := Str.ofString "__next__") hit.typeIs PySem.F.slot_tuple_iterator_next
    (wpAny_call_entry PySem.F.slot_tuple_iterator_next hit.typeIs PySem.F.entry_tuple_iterator_next ?_ (PySem.F.args_tuple_iterator_next_1 _)))
  show wpAny _ _ (field (.ref it) 0 >>= _) _ _ s
  refine wpAny_bind (wpAny_field ho hd (x := .ref t) rfl ?_)
  show wpAny _ _ (if (Value.ref t == Value.none) = true then _ else _) _ _ s
  rw [if_neg (show ¬ ((Value.ref t == Value.none) = true) from Bool.false_ne_true)]
  show wpAny _ _ (field (.ref it) 1 >>= _) _ _ s
  refine wpAny_bind (wpAny_field ho hd (x := .int i 0) rfl ?_)
  show wpAny _ _ (seqItems? (.ref t) >>= _) _ _ s
  refine wpAny_bind (wpAny_seqItems hol hdl ?_)
  simp only [Int.toNat_natCast, hx]
  refine wpAny_bind (wpAny_rule (wpAny_bind (wpAny_setField ho hd (by simp) ?_)))
  show wpAny _ _ (newExc (.type "StopIteration") [] >>= _) _ _ _
  refine wpAny_bind ?_
  simp only [newExc, newTuple]
  refine wpAny_bind (wpAny_newObj_type ?_ (by size_fits))
  refine wpAny_bind (m := firstArgMember _ _) (wpAny_of_eq (a := Value.none) (by first | rfl | (simp only [firstArgMember]; rfl)) ?_)
  refine wpAny_newObj_type ?_ (by size_fits)
  simp only [raiseNew]
  refine wpAny_bind (wpAny_handled ?_)
  first | rw [show A.in1.handled = none from hh] | rw [hh]
  refine wpAny_bind (wpAny_pure (wpAny_throw ?_))
  exact hE _ _ (((Heap.SameBut.update ..).extBut.push _).push _) ⟨_, Heap.get?_push_size _ rfl, rfl⟩
end
theorem drawsTup {prog : Program} {w : World} {A : Around} (hh : A.handled = none) (it l : Addr) (hne : l ≠ it) (items : Array Value) :
    Draws prog w A it [it, l] items.size (fun i v => items[i]? = some v) (fun i h => h.IsTupleIter it l i ∧ h.IsTuple l items) where
  live := fun _ _ st => let ⟨o, ho, _⟩ := st.1; ⟨o, ho⟩
  frame := fun _ _ _ st hk => ⟨let ⟨o, ho, r⟩ := st.1; ⟨o, hk it (by simp) o ho, r⟩, let ⟨o, ho, r⟩ := st.2; ⟨o, hk l (by simp) o ho, r⟩⟩
  item := fun i s Q E hi st hQ => by
    refine tn_item st.1 st.2 (x := items[i]) (by simp [hi]) fun h' hit' hs' => ?_
    exact hQ _ h' s.toks (by simp [hi]) ⟨hit', st.2.extBut hs'.extBut hne⟩ hs'
  done := fun s Q E st hE => tn_end hh st.1 st.2 (by simp) hE
end Mine
end
section
open PySem PySem.W PyProof.Rows
namespace Mine
local macro_rules | `(tactic| walk_at "RESTART") => `(tactic| skip)
theorem restart_DComp {M : Model} {A : Around} {E : Value → Shared → Prop} {s : Shared} {Q : Value → Shared → Prop} (h : Q .none s) : wpAny M A (pure Value.none) Q E s := by
  w_top off
  first
    | (walk1; fail "on")
    | exact wpAny_pure h
end Mine
end
section
open PySem PySem.W PySem.Calls PyProof.Rows PySem.Spec
set_option maxRecDepth 100000
namespace Mine
theorem valueAt_stored {K : Type} [DecidableEq K] (kvs : List (K × Value)) (k x : K) (v : Value) : valueAt (stored kvs k v) x = if x = k then some v else valueAt kvs x := by
  unfold stored
  split
  · rename_i h
    induction kvs with
    | nil => simp at h
    | cons p r ih =>
      by_cases hp : p.1 = k
      · by_cases hx : x = k
        · subst hx; subst hp
          simp [valueAt]
        · have hn : ¬ k = x := fun e => hx e.symm
          have hpx : ¬ p.1 = x := fun e => hx (e.symm.trans hp)
          rw [if_neg hx]
          by_cases hr : r.any (fun kv => kv.1 = k) = true
          · have := ih hr
            rw [if_neg hx] at this
            simp only [valueAt, List.map_cons, hp, if_true] at this ⊢
            rw [List.find?_cons_of_neg (by simpa using hn), List.find?_cons_of_neg (by simpa using hpx)]
            exact this
          · have hm : r.map (fun kv => if kv.1 = k then (kv.1, v) else kv) = r := by
              refine (List.map_congr_left (fun y hy => ?_)).trans (List.map_id r)
              have : ¬ y.1 = k := fun e => hr (List.any_eq_true.mpr ⟨y, hy, by simpa using e⟩)
              simp [this]
            simp only [valueAt, List.map_cons, hp, if_true, hm]
            rw [List.find?_cons_of_neg (by simpa using hn), List.find?_cons_of_neg (by simpa using hpx)]
      · have hr : r.any (fun kv => kv.1 = k) = true := by
          rw [List.any_cons] at h
          simpa [hp] using h
        have := ih hr
        simp only [valueAt, List.map_cons, hp, if_false] at this ⊢
        by_cases hx : p.1 = x
        · have : ¬ x = k := fun e => hp (hx.trans e)
          simp [hx, this]
        · rw [List.find?_cons_of_neg (by simpa using hx), List.find?_cons_of_neg (by simpa using hx)]
          exact this
  · rename_i h
    simp only [valueAt, List.find?_append]
    by_cases hx : x = k
    · subst hx
      have : kvs.find? (fun kv => decide (kv.1 = x)) = none := by
        rw [List.find?_eq_none]
        intro y hy he
        exact h (List.any_eq_true.mpr ⟨y, hy, he⟩)
      simp [this]
    · have hn : ¬ k = x := fun e => hx e.symm
      rw [if_neg hx]
      have : [(k, v)].find? (fun kv => decide (kv.1 = x)) = none := by simp [hn]
      rw [this]
      simp
section
variable {prog : Program} {w : World} {A : Around} {E : Value → Shared → Prop} {R : Result → Shared → Prop} {s : Shared}
def DInv (w : World) (prog : Program) (s : Shared) (e it l C D : Addr) (items : Array Value) (n0 : Str) (k : Nat) (s' : Shared) : Prop :=
  ∃ h' tk m' kvs i old, s' = { s with heap := h', toks := tk } ∧ IsEnum h' e it ((i : Nat) : Int) old ∧ h'.IsTupleIter it l i ∧ h'.IsTuple l items ∧ h'.Ns C m' ∧ h'.DictOf (strKind prog w) D kvs ∧ kvs.length ≤ i ∧
    (0 < i → ∃ t, valueAt kvs n0 = some (.int 0 t)) ∧ i ≤ items.size ∧ k = items.size + 1 - i ∧ ∀ b o, b ≠ C → b ≠ D → b ≠ e → b ≠ it → s.heap.get? b = some o → h'.get? b = some o
theorem dcompLoop {kx iter : Expr} {xk xf : Str} {pk pf pv pt pos : Pos} {x1} {scope : Scope} {e it l C D : Addr} {items : Array Value} {cenv : Env} {m : Str → Option Value} {nm : Nat → Str}
    (hh : A.handled = none) (hC : cenv.locals = C) (hfn : cenv.scope.kind = .function) (hxk : cenv.kindOf xk = some .local) (hxf : cenv.kindOf xf = some .local) (hne : xk ≠ xf) (hdb : (xk == ("__debug__" : Str)) = false)
    (hp : (cenv.scope.kind == .class || (cenv.scope.kind == .module && cenv.locals != cenv.globals)) = false) (hsz : items.size ≤ 1000)
    (d1 : e ≠ it) (d2 : l ≠ e) (d3 : l ≠ it) (d4 : C ≠ e) (d5 : C ≠ it) (d6 : C ≠ l) (d7 : C ≠ D) (d8 : D ≠ e) (d9 : D ≠ it) (d10 : D ≠ l)
    (he : IsEnum s.heap e it 0 .none) (hit : s.heap.IsTupleIter it l 0) (hl : s.heap.IsTuple l items) (hn : s.heap.Ns C m) (hD : s.heap.DictOf (strKind prog w) D [])
    (hnm : ∀ j, 0 < j → j < items.size → nm j ≠ nm 0)
    (hkey : ∀ i x s₂ m₂ E', items[i]? = some x → s₂.heap.Ns C m₂ → m₂ xf = some x → (∀ b o, b ≠ C → b ≠ D → b ≠ e → b ≠ it → s.heap.get? b = some o → s₂.heap.get? b = some o) →
      wpAny (model prog w) A (eval kx cenv) (fun key s₃ => (∃ tk, key = .str (nm i) tk) ∧ Keeps s₂ s₃) E' s₂)
    (hR : ∀ h' tk m' kvs, h'.Ns C m' → h'.DictOf (strKind prog w) D kvs → (0 < items.size → ∃ t, valueAt kvs (nm 0) = some (.int 0 t)) → (∀ b o, b ≠ C → b ≠ D → b ≠ e → b ≠ it → s.heap.get? b = some o → h'.get? b = some o) → R (.ok .next) { s with heap := h', toks := tk }) :
    codeAny (model prog w) A (.compLoop (.DictComp kx (.Name xk pv) [⟨.Tuple [.Name xk pk, .Name xf pf] x1 pt, iter, [], 0⟩] scope pos) 0 (.ref e) (.ref D) cenv) R s := by
  refine codeAny_loop rfl (DInv w prog s e it l C D items (nm 0)) (fun n s' hI => ?_) (items.size + 1)
    ⟨s.heap, s.toks, m, [], 0, .none, rfl, he, hit, hl, hn, hD, Nat.le_refl _, fun h => absurd h (Nat.lt_irrefl _), Nat.zero_le _, rfl, fun _ _ _ _ _ _ x => x⟩
  obtain ⟨H, tk, m', kvs, i, old, rfl, he', hit', hl', hn', hD', hlen, hfst, hi, rfl, hk⟩ := hI
  show wpAny _ A ((compTurn (.DictComp kx (.Name xk pv) [⟨.Tuple [.Name xk pk, .Name xf pf] x1 pt, iter, [], 0⟩] scope pos) 0 (.ref e) (.ref D) cenv).onRaise (fun x => do noteFrame x cenv; theTreesLotGoes x)) _ _ _
  refine wpAny_noted ?_
  rw [compTurn_dict]
  refine wpAny_bind (wpAny_standAt (wpAny_bind ?_))
  by_cases hlt : i < items.size
  · have Dr : Draws prog w A.in1 it [it, l] items.size (fun i v => items[i]? = some v) (fun i h => h.IsTupleIter it l i ∧ h.IsTuple l items) := drawsTup (A := A.in1) hh it l d3 items
    have heH : e < H.objs.size := Heap.lt_size he'
    have hCH : C < H.objs.size := hn'.lt
    have hitH : it < H.objs.size := by obtain ⟨o, ho, _⟩ := hit'; exact Heap.lt_size ho
    have hlH : l < H.objs.size := by obtain ⟨o, ho, _⟩ := hl'; exact Heap.lt_size ho
    have hDH : D < H.objs.size := by obtain ⟨o, es, ep, ho, _⟩ := hD'; exact Heap.lt_size ho
    refine wpAny_pyNext_enum_itemD Dr he' ⟨hit', hl'⟩ hlt d1 (by simp [d1, d2.symm]) fun x h₁ tk₁ hx heo st₁ hT₁ hz₁ hk₁ => ?_
    dsimp only
    refine wpAny_bind (wpAny_letOwnedTupleGo_enum heo fun h₂ he₂ hs₂ => ?_)
    replace hs₂ : Heap.SameBut e h₁ h₂ := hs₂
    have ht₂ : h₂.IsTuple H.objs.size #[.int i tk₁, x] := ⟨_, (hs₂.2 _ (Nat.ne_of_gt heH)).trans hT₁, rfl, _, rfl⟩
    have hz₂ : h₂.objs.size = H.objs.size + 1 := hs₂.1.trans hz₁
    refine wpAny_bind (wpAny_assign_Tuple hh ht₂ rfl rfl fun h₃ hx₃ => ?_)
    replace hx₃ : Heap.ExtBut h₂.objs.size h₂ h₃ := hx₃
    have up₃ : ∀ b o, b < H.objs.size → b ≠ e → b ≠ it → H.get? b = some o → h₃.get? b = some o := fun b o hb n1 n2 q =>
      hx₃ b o (by rw [hz₂]; exact Nat.ne_of_lt (Nat.lt_succ_of_lt hb)) ((hs₂.2 b n1).trans (hk₁ b o n1 n2 q))
    have at₃ : ∀ b o, b < H.objs.size → b ≠ e → h₁.get? b = some o → h₃.get? b = some o := fun b o hb n1 q => hx₃ b o (by rw [hz₂]; exact Nat.ne_of_lt (Nat.lt_succ_of_lt hb)) ((hs₂.2 b n1).trans q)
    have he₃ : IsEnum h₃ e it ((i : Int) + 1) x := hx₃ _ _ (by rw [hz₂]; exact Nat.ne_of_lt (Nat.lt_succ_of_lt heH)) he₂
    have hn₃ : h₃.Ns C m' := hn'.at' fun o q => up₃ C o hCH d4 d5 q
    subst hC
    show wpAny _ A (do holding [x] (assign (.Name xk pk) cenv (.int i tk₁)); do holding [] (assign (.Name xf pf) cenv x); pure ()) _ _ _
    refine wpAny_bind (wpAny_holding (wpAny_assign_Name (wpAny_storeName_local hxk hn₃ (fun h₄ hn₄ hs₄ => ?_) hp)))
    replace hs₄ : Heap.SameBut cenv.locals h₃ h₄ := hs₄
    refine wpAny_bind (wpAny_holding (wpAny_assign_Name (wpAny_storeName_local hxf hn₄ (fun h₅ hn₅ hs₅ => wpAny_pure ?_) hp)))
    replace hs₅ : Heap.SameBut cenv.locals h₄ h₅ := hs₅
    have up₅ : ∀ b o, b ≠ cenv.locals → h₃.get? b = some o → h₅.get? b = some o := fun b o n q => (hs₅.2 b n).trans ((hs₄.2 b n).trans q)
    simp only [List.forIn_nil]
    refine wpAny_bind (wpAny_pure ?_)
    simp only [if_true]
    have hkx := hkey i x { s with heap := h₅, toks := tk₁ + 1 + 1 + 1 } _ (notedBy (model prog w) A cenv fun e s' => R (.error e) s') hx hn₅ (by simp) (fun b o n1 n2 n3 n4 q => by
      have q' := hk b o n1 n2 n3 n4 q
      exact up₅ b o n1 (up₃ b o (Heap.lt_size q') n3 n4 q'))
    refine wpAny_bind (wpAny_bind (wpAny_mono hkx (fun key s₆ h₆ => ?_) fun _ _ z => z))
    obtain ⟨⟨tkk, rfl⟩, h₆, tk₆, rfl, hk₆⟩ := h₆
    have hn₆ := hn₅.keeps hk₆
    refine wpAny_bind (wpAny_holding (wpAny_Name (wpAny_loadName_local hfn hxk hn₆ (v := .int i tk₁) (by simp [hne]) ?_) hdb))
    refine wpAny_bind (wpAny_standAt (wpAny_holding ?_))
    have hD₆ : h₆.DictOf (strKind prog w) D kvs := hD'.at fun o q => hk₆ _ _ (up₅ D o d7.symm (up₃ D o hDH d8 d9 q))
    refine wpAny_dictSet_pairs (hsz := by rw [sizeLine_eq]; omega) (strKind_is prog w _ _) hD₆ fun h₇ hD₇ hs₇ => wpAny_pure ?_
    refine ⟨rfl, _, ?_, h₇, _, _, _, i + 1, x, rfl, ?_, ?_, ?_, hn₆.sameBut hs₇ d7, hD₇, ?_, fun _ => ?_, hlt, rfl, fun b o n1 n2 n3 n4 q => ?_⟩
    · omega
    · exact (hs₇.2 e d8.symm).trans (hk₆ _ _ (up₅ e _ d4.symm he₃))
    · obtain ⟨o, ho, r⟩ := st₁.1
      exact ⟨o, (hs₇.2 it d9.symm).trans (hk₆ _ _ (up₅ it _ d5.symm (at₃ it o hitH d1.symm ho))), r⟩
    · obtain ⟨o, ho, r⟩ := st₁.2
      exact ⟨o, (hs₇.2 l d10.symm).trans (hk₆ _ _ (up₅ l _ d6.symm (at₃ l o hlH d2 ho))), r⟩
    · exact Nat.le_trans (stored_length_le ..) (Nat.succ_le_succ hlen)
    · rw [valueAt_stored]
      by_cases h0 : i = 0
      · subst h0
        rw [if_pos rfl]
        exact ⟨tk₁, rfl⟩
      · rw [if_neg (fun q => hnm i (Nat.pos_of_ne_zero h0) hlt q.symm)]
        exact hfst (Nat.pos_of_ne_zero h0)
    · have q' := hk b o n1 n2 n3 n4 q
      exact (hs₇.2 b n2).trans (hk₆ _ _ (up₅ b o n1 (up₃ b o (Heap.lt_size q') n3 n4 q')))
  · have hin : i = items.size := by omega
    subst hin
    have Dr : Draws prog w A.in1 it [it, l] items.size (fun i v => items[i]? = some v) (fun i h => h.IsTupleIter it l i ∧ h.IsTuple l items) := drawsTup (A := A.in1) hh it l d3 items
    refine wpAny_pyNext_enum_endD Dr he' ⟨hit', hl'⟩ fun h₁ hx₁ => ?_
    refine wpAny_pure ?_
    exact hR h₁ _ m' kvs (hn'.extBut hx₁ d5) (hD'.extBut hx₁ d9) hfst fun b o n1 n2 n3 n4 q => hx₁ b o n4 (hk b o n1 n2 n3 n4 q)
end
end Mine
namespace Mine
section
variable {prog : Program} {w : World} {A : Around} {E : Value → Shared → Prop} {s : Shared} {env : Env}
theorem dcompEval {kx iter : Expr} {xk xf : Str} {pk pf pv pt pos : Pos} {x1} {scope : Scope} {cl : List (Str × Addr)} {nm : Nat → Str} {Q : Value → Shared → Prop}
    (hh : A.handled = none) (hclos : closureFor scope env = pure cl) (hcell : ∀ y ∈ scope.names, y.2 ≠ .cell) (hkind : scope.kind = .function)
    (hnames : ∀ y ∈ scope.names, y.2 = .local → scope.names.lookup y.1 = some .local) (hxk : scope.names.lookup xk = some .local) (hxf : scope.names.lookup xf = some .local) (hne : xk ≠ xf) (hdb : (xk == ("__debug__" : Str)) = false)
    (h : wpAny (model prog w) A (eval iter env) (fun xv s₁ => ∃ e it l items, xv = .ref e ∧ IsEnum s₁.heap e it 0 .none ∧ s₁.heap.IsTupleIter it l 0 ∧ s₁.heap.IsTuple l items ∧ items.size ≤ 1000 ∧ 0 < items.size ∧ e ≠ it ∧ l ≠ e ∧ l ≠ it ∧
      (∀ j, 0 < j → j < items.size → nm j ≠ nm 0) ∧
      (∀ C i x s₂ m₂ E', items[i]? = some x → s₂.heap.Ns C m₂ → m₂ xf = some x → (∀ b o, b ≠ e → b ≠ it → s₁.heap.get? b = some o → s₂.heap.get? b = some o) →
        wpAny (model prog w) A (eval kx (compEnvC scope cl C env)) (fun key s₃ => (∃ tk, key = .str (nm i) tk) ∧ Keeps s₂ s₃) E' s₂) ∧
      (∀ D h' tk kvs t, s₁.heap.get? D = none → h'.DictOf (strKind prog w) D kvs → valueAt kvs (nm 0) = some (.int 0 t) → (∀ b o, b ≠ e → b ≠ it → s₁.heap.get? b = some o → h'.get? b = some o) → Q (.ref D) { s₁ with heap := h', toks := tk })) E s)
    (hs : ∀ x, foldedSetIterable iter env x = pure x := by intro _; rfl) :
    wpAny (model prog w) A (eval (.DictComp kx (.Name xk pv) [⟨.Tuple [.Name xk pk, .Name xf pf] x1 pt, iter, [], 0⟩] scope pos) env) Q E s := by
  rw [arm_eval_DictComp]
  refine wpAny_comprehension_free (use := none) rfl hs hclos hkind hnames (wpAny_mono h (fun xv s₂ h₁ => ?_) fun _ _ e => e)
  obtain ⟨e, it, l, items, rfl, he, hit, hl, hsz, hpos, d1, d2, d3, hnm, hkey, hQ⟩ := h₁
  refine wpAny_pyIter_enum he ?_
  refine wpAny_newObj_type (wpAny_newFunctionEnv hcell (by intro y hy; simp at hy) (fun h₁ hns₁ hsb₁ => ?_) hkind)
  dsimp only at hns₁ hsb₁ ⊢
  have hnew : (s₂.heap.push { cls := .type "dict", dict := none, data := .dict #[] }).DictOf (strKind prog w) s₂.heap.objs.size [] := Heap.DictOf.new s₂.heap
  generalize hH2 : s₂.heap.push { cls := .type "dict", dict := none, data := .dict #[] } = H2 at hns₁ hsb₁ hnew ⊢
  have hC : H2.objs.size = s₂.heap.objs.size + 1 := by rw [← hH2, Heap.size_push]
  have hDC : s₂.heap.objs.size ≠ H2.objs.size := by rw [hC]; exact Nat.ne_of_lt (Nat.lt_succ_self _)
  have below : ∀ b, b < s₂.heap.objs.size → b ≠ H2.objs.size ∧ b ≠ s₂.heap.objs.size := fun b hb => ⟨by rw [hC]; exact Nat.ne_of_lt (Nat.lt_succ_of_lt hb), Nat.ne_of_lt hb⟩
  have old : ∀ b o, s₂.heap.get? b = some o → h₁.get? b = some o := fun b o q => hsb₁.extBut b o (below b (Heap.lt_size q)).1 (Heap.get?_push_of_some _ (hH2 ▸ Heap.get?_push_of_some _ q))
  have hacc : h₁.DictOf (strKind prog w) s₂.heap.objs.size [] := hnew.at fun o q => hsb₁.extBut _ _ hDC (Heap.get?_push_of_some _ q)
  have heS : e < s₂.heap.objs.size := Heap.lt_size he
  have hiS : it < s₂.heap.objs.size := by obtain ⟨o, ho, _⟩ := hit; exact Heap.lt_size ho
  have hlS : l < s₂.heap.objs.size := by obtain ⟨o, ho, _⟩ := hl; exact Heap.lt_size ho
  have he₁ : IsEnum h₁ e it 0 .none := old _ _ he
  have hit₁ : h₁.IsTupleIter it l 0 := let ⟨o, ho, r⟩ := hit; ⟨o, old _ _ ho, r⟩
  have hl₁ : h₁.IsTuple l items := let ⟨o, ho, r⟩ := hl; ⟨o, old _ _ ho, r⟩
  have fresh : ∀ a, s₂.heap.objs.size ≤ a → s₂.heap.get? a = none := fun a ha => by
    cases q : s₂.heap.get? a with
    | none => rfl
    | some o' => exact absurd (Heap.lt_size q) (Nat.not_lt.mpr ha)
  have loop : ∀ s₃ : Shared, s₃ = { s₂ with heap := h₁, toks := s₂.toks + ([] : List (Str × Value)).length } →
      codeAny (model prog w) A (.compLoop (.DictComp kx (.Name xk pv) [⟨.Tuple [.Name xk pk, .Name xf pf] x1 pt, iter, [], 0⟩] scope pos) 0 (.ref e) (.ref s₂.heap.objs.size) (compEnvC scope cl H2.objs.size env))
        (compPost (model prog w) A E none Q (.ref s₂.heap.objs.size) H2.objs.size) s₃ := by
    rintro s₃ rfl
    refine dcompLoop (nm := nm) (cenv := compEnvC scope cl H2.objs.size env) hh rfl (by simp [compEnvC, relabel, hkind]) (lookup_relabel_local hxk) (lookup_relabel_local hxf) hne hdb (by simp [compEnvC, relabel, hkind]) hsz
      d1 d2 d3 (below e heS).1.symm (below it hiS).1.symm (below l hlS).1.symm hDC.symm (below e heS).2.symm (below it hiS).2.symm (below l hlS).2.symm he₁ hit₁ hl₁ hns₁ hacc hnm
      (fun i x s₃ m₃ E' hx hn hm hk => hkey _ i x s₃ m₃ E' hx hn hm fun b o n1 n2 q => hk b o (below b (Heap.lt_size q)).1 (below b (Heap.lt_size q)).2 n1 n2 (old b o q)) fun h' tk m' kvs hn hD hv hk => ?_
    obtain ⟨t, hv⟩ := hv hpos
    refine ⟨m', hn, fun h'' hs'' => ?_⟩
    have hCn := fresh H2.objs.size (by rw [hC]; exact Nat.le_succ _)
    exact hQ _ h'' tk kvs t (fresh _ (Nat.le_refl _)) (hD.extBut hs''.extBut hDC) hv fun b o n1 n2 q => hs''.extBut b o (by rintro rfl; rw [hCn] at q; cases q)
      (hk b o (below b (Heap.lt_size q)).1 (below b (Heap.lt_size q)).2 n1 n2 (old b o q))
  exact codeAny_compStart_dict (loop _ rfl) (wpAny_pyIter_enum he₁ (loop _ rfl))
end
end Mine
end
section
open PySem PySem.W PyProof.Rows
namespace Mine
local macro_rules | `(tactic| walk_at "RESTART") => `(tactic| skip)
theorem restart_Field {M : Model} {A : Around} {E : Value → Shared → Prop} {s : Shared} {Q : Value → Shared → Prop} (h : Q .none s) : wpAny M A (pure Value.none) Q E s := by
  w_top off
  first
    | (walk1; fail "on")
    | exact wpAny_pure h
end Mine
end
section
open PySem PySem.W PySem.Calls PyProof.Rows PySem.Spec
set_option maxRecDepth 100000
namespace Mine
def fieldNames : List Str := ["timestamp", "lat_next", "lat_next_direction", "lon_next", "lon_next_direction", "true_track", "true_track_sym", "mag_track", "mag_sym", "range_next", "range_unit", "waypoint_name"].map Str.ofString
def fieldName (i : Nat) : Str := fieldNames.getD i Str.empty
def fieldRefs : Array Value := #[.ref 381, .ref 382, .ref 383, .ref 384, .ref 385, .ref 386, .ref 387, .ref 388, .ref 389, .ref 390, .ref 391, .ref 392]
theorem fieldName_ne : ∀ j, 0 < j → j < fieldRefs.size → fieldName j ≠ fieldName 0 := by
  intro j h0 h1
  have h2 : j < 12 := h1
  revert h0
  revert j
  decide
theorem field_at {w : World} {h : Heap} (X : (hd.heap_39 w.params).In h) {i : Nat} {x : Value} (hx : fieldRefs[i]? = some x) : ∃ a its tk, x = .ref a ∧ IsTup h a its ∧ its[1]? = some (.str (fieldName i) tk) ∧ seqIndex? 1 its.size = some 1 := by
  have hi : i < 12 := by
    have := (Array.getElem?_eq_some_iff.mp hx).1
    exact this
  match i, hi with
  | 0, _ => cases hx; exact ⟨381, _, _, rfl, ⟨_, X 381 _ rfl, rfl, _, rfl⟩, rfl, rfl⟩
  | 1, _ => cases hx; exact ⟨382, _, _, rfl, ⟨_, X 382 _ rfl, rfl, _, rfl⟩, rfl, rfl⟩
  | 2, _ => cases hx; exact ⟨383, _, _, rfl, ⟨_, X 383 _ rfl, rfl, _, rfl⟩, rfl, rfl⟩
  | 3, _ => cases hx; exact ⟨384, _, _, rfl, ⟨_, X 384 _ rfl, rfl, _, rfl⟩, rfl, rfl⟩
  | 4, _ => cases hx; exact ⟨385, _, _, rfl, ⟨_, X 385 _ rfl, rfl, _, rfl⟩, rfl, rfl⟩
  | 5, _ => cases hx; exact ⟨386, _, _, rfl, ⟨_, X 386 _ rfl, rfl, _, rfl⟩, rfl, rfl⟩
  | 6, _ => cases hx; exact ⟨387, _, _, rfl, ⟨_, X 387 _ rfl, rfl, _, rfl⟩, rfl, rfl⟩
  | 7, _ => cases hx; exact ⟨388, _, _, rfl, ⟨_, X 388 _ rfl, rfl, _, rfl⟩, rfl, rfl⟩
  | 8, _ => cases hx; exact ⟨389, _, _, rfl, ⟨_, X 389 _ rfl, rfl, _, rfl⟩, rfl, rfl⟩
  | 9, _ => cases hx; exact ⟨390, _, _, rfl, ⟨_, X 390 _ rfl, rfl, _, rfl⟩, rfl, rfl⟩
  | 10, _ => cases hx; exact ⟨391, _, _, rfl, ⟨_, X 391 _ rfl, rfl, _, rfl⟩, rfl, rfl⟩
  | 11, _ => cases hx; exact ⟨392, _, _, rfl, ⟨_, X 392 _ rfl, rfl, _, rfl⟩, rfl, rfl⟩
section
variable {prog : Program} {w w' : World} {A : Around} {s : Shared} {env : Env}
theorem field_key {xf : Str} {pf pc pos : Pos} {kd} {scope : Scope} {cl : List (Str × Addr)} {C : Addr} {i : Nat} {x : Value} {m₂ : Str → Option Value} {E' : Value → Shared → Prop} (X : (hd.heap_39 w'.params).In s.heap) (hx : fieldRefs[i]? = some x) (hn : s.heap.Ns C m₂) (hm : m₂ xf = some x)
    (hk : (compEnvC scope cl C env).scope.kind = .function) (hl : (compEnvC scope cl C env).kindOf xf = some .local) (hd : (xf == ("__debug__" : Str)) = false) :
    wpAny (model prog w) A (eval (.Subscript (.Name xf pf) (.Constant (.int 1) kd pc) pos) (compEnvC scope cl C env)) (fun key s₃ => (∃ tk, key = .str (fieldName i) tk) ∧ Keeps s s₃) E' s := by
  obtain ⟨a, its, tk, rfl, ht, h1, h2⟩ := field_at X hx
  refine Subscript_ (ldVarK hn hm ?_ hk hl hd)
  refine wpAny_Constant_int ?_
  exact item_tuple ht (by decide) (by decide) h2 h1 ⟨⟨tk, rfl⟩, s.heap, s.toks + 1, rfl, fun _ _ z => z⟩
end
end Mine
end
section
open PySem PySem.W PyProof.Rows
namespace Mine
local macro_rules | `(tactic| walk_at "RESTART") => `(tactic| skip)
theorem restart_Hook {M : Model} {A : Around} {E : Value → Shared → Prop} {s : Shared} {Q : Value → Shared → Prop} (h : Q .none s) : wpAny M A (pure Value.none) Q E s := by
  w_top off
  first
    | (walk1; fail "on")
    | exact wpAny_pure h
end Mine
end
section
open PySem PySem.W PySem.Calls PyProof.Rows PySem.Spec
set_option maxRecDepth 100000
namespace Mine
def HookPre (x dx dl : Addr) (od : Obj) (items : Array Value) (c : Nat) (h : Heap) : Prop := h.get? x = some (instObj 396 dx) ∧ h.get? dx = some od ∧ h.get? dl = some (listOf items c)
/-- a contract over contexts that bear the caller; the frames' slots may turn -/
def CtrH (w : World) (k : Nat) (f : Addr) (vs : List Value) (Pre : Heap → Prop) (Post : List (Addr × Obj) → Value → Prop) : Prop :=
  ∀ (mean : ExcName → Option Value) (mg mb : Str → Option Value) (dp un : Nat) (gd : Option (List Code)) (cn : Str) (cs : Scope) (a : Addr) (ccd : Value) (outer : List Env) (A₀ : Around) (base h₀ : Heap) (L : Addr) (m : Str → Option Value) (s : Shared) (Q E : Value → Shared → Prop),
    Below A₀ base outer h₀ → (hd.heap_39 w.params).In base → Top hd.view_39 (looseW hd.view_39 [Str.ofString "_tuplegetter", Str.ofString "Time", Str.ofString "NMEASentence", Str.ofString "BWC"]) mean mg mb base → Fr h₀ L s.heap m → cs.kind = .function → KtsDicts (outer.filterMap (·.frame)) h₀ → dp + k < recursionLimit → un + 10 * k < cLine → Pre s.heap →
    (∀ v g' h' tk' new, KtsTurn ((envOf cn cs L a ccd :: outer).filterMap (·.frame)) s.heap g' → g'.StaysIn h' → News g' L h' new → Post new v → Q v { s with heap := h', toks := tk' }) →
    wpC (model PySem.Challenge.rw_ez0286_01.row.prog w) (ktrTop dp un gd cn cs L a ccd [] outer) (call (.ref f) vs) Q E s
theorem ktsMore {h₀ h : Heap} {L a : Addr} {m : Str → Option Value} {name : Str} {scope : Scope} {cd : Value} {outer : List Env} (F : Fr h₀ L h m) (D : KtsDicts (outer.filterMap (·.frame)) h₀) : KtsDicts ((envOf name scope L a cd :: outer).filterMap (·.frame)) h := by
  intro b hb
  rcases kts_mem hb with rfl | z
  · obtain ⟨oL, es, ep, hL, hLd, _⟩ := F.ns
    exact ⟨oL, es, ep, hL, hLd⟩
  · obtain ⟨o, es, n, ho, hd⟩ := D b z
    exact ⟨o, es, n, F.keep _ _ ho, hd⟩
def HookPost (y : Str) (new : List (Addr × Obj)) (v : Value) : Prop :=
  (y = Str.ofString "" ∧ v = .none) ∨ (y ≠ Str.ofString "" ∧ StampPost y new v) ∨ (y ≠ Str.ofString "" ∧ stamp y = none ∧ ∃ t, v = .str y t)
theorem hk_inst {h h' : Heap} {L : Addr} {m : Str → Option Value} {x dx dl : Addr} {od : Obj} {items : Array Value} {c : Nat} (F : Fr h L h' m) (p : HookPre x dx dl od items c h) : InstAt h' x (instObj 396 dx) 396 (some od) := ⟨F.keep _ _ p.1, rfl, rfl, F.keep _ _ p.2.1⟩
local macro_rules | `(tactic| walk_at "call type:type") => `(tactic| (k_here; (with_reducible show wpAny _ _ (call (Value.type "type") [Value.ref _]) _ _ _); (with_reducible rename Fr _ _ _ _ => F9); k_dflt (refine kto_own (hk_inst F9 (by assumption)) ?_)))
theorem hk_data {w : World} {prog : Program} {A : Around} {E : Value → Shared → Prop} {s : Shared} {Q : Value → Shared → Prop} {g : Heap} {L : Addr} {m : Str → Option Value} {x dx dl : Addr} {od : Obj} {items : Array Value} {c : Nat} {expr : Bool}
    (X : (hd.heap_39 w.params).In g) (F : Fr g L s.heap m) (p : HookPre x dx dl od items c g) (hl : lookIn "data" od = some (some (.ref dl))) (h : Q (.ref dl) { s with toks := s.toks + 1 }) :
    wpAny (model prog w) A (getAttr (.ref x) (Str.ofString "data") expr) Q E s :=
  get_value (K := hd.heap_39 w.params) (X.keeps F.keep) (hk_inst F p) (by rfl) (findObj_own (attr := none) (by rfl) (by rfl) (by rfl) hl) rfl h
local macro_rules | `(tactic| walk_at "getAttr ref") => `(tactic| (k_here; (with_reducible show wpAny _ _ (getAttr (Value.ref _) (Str.ofString "data") _) _ _ _); (with_reducible rename Fr _ _ _ _ => F9); k_dflt (refine hk_data (by assumption) F9 (by assumption) (by assumption) ?_)))
theorem hk_list {g h : Heap} {L : Addr} {m : Str → Option Value} {x dx dl : Addr} {od : Obj} {items : Array Value} {c : Nat} (F : Fr g L h m) (p : HookPre x dx dl od items c g) : h.IsList dl items := ⟨_, F.keep _ _ p.2.2, rfl, c, rfl⟩
local macro_rules | `(tactic| walk_at "call builtin:len") => `(tactic| (k_here; (with_reducible show wpAny _ _ (call (Value.builtin "len") [Value.ref _]) _ _ _); (with_reducible rename HookPre _ _ _ _ _ _ _ => P9); (with_reducible rename Fr _ _ _ _ => F9); k_dflt (refine' len_list (hk_list F9 P9) ?hz ?_; (case hz => omega))))
local macro_rules | `(tactic| walk_at "subscriptTail") => `(tactic| (k_here; (with_reducible show wpAny _ _ (subscriptTail (Expr.Attribute _ _ _) _ (Value.ref _) (Value.int 0 _)) _ _ _); (with_reducible rename HookPre _ _ _ _ _ _ _ => P9); (with_reducible rename Fr _ _ _ _ => F9); k_dflt (refine' tail_any (Heap.IsList.typeIs (hk_list F9 P9)) slot_list_getitem.lookup (wpAny_getItem_list (hk_list F9 P9) ?k1 ?k2 ?k3 ?_) ?k4; (case k1 => decide); (case k2 => decide); (case k3 => assumption); (case k4 => with_unfolding_all rfl))))
set_option maxHeartbeats 1000000 in
theorem hook_ok (w : World) (x dx dl : Addr) (od : Obj) (items : Array Value) (c : Nat) (y : Str) (ty t : Tok) (hy : y.length ≤ 40) (hc : Cps y) (h0 : items[0]? = some (.str y ty)) (hl : lookIn "data" od = some (some (.ref dl))) (hzz : items.size ≤ 1000) :
    CtrH w 20 259 [.ref x, .str (Str.ofString "timestamp") t] (HookPre x dx dl od items c) (HookPost y) := by
  unfold CtrH
  k_fill
  intro mean mg mb dp un gd cn cs a ccd outer A₀ base h₀ L m s Q E B X T F hk KD hd hu pre hret
  refine wpC_call ?_
  refine' enterC ?k1 ?k2 ?k3 ?k4 ?kA ?kF ?kK ?k6 ?k7 ?k8 ?k9 ?kB ?_ ?c2 ?c3 ?c4 ?c5
  case kA => exact rfl
  case kF => exact rfl
  case kK => assumption
  case k1 => k_asm
  case k2 => k_asm
  case k3 => k_asm
  case k4 => k_asm
  case k6 => k_is
  case k7 => k_is
  case k8 => ktr_room
  case k9 => exact BindsTo.of_eq rfl
  case kB => exact locs rfl
  case c2 => exact rfl
  case c3 => exact rfl
  case c4 => exact rfl
  case c5 => decide
  intro L' h₁ hL F' N' B' X' T'
  dsimp only
  refine wpC_execs_cons (wpC_any ?_)
  k_steps
  dsimp only
  refine wpC_execs_cons (wpC_any ?_)
  k_steps
  refine dcompEval (nm := fieldName) rfl rfl (by decide) rfl (by decide) rfl rfl (by decide) (by decide) ?_
  k_steps
  rename Fr _ _ _ _ => F9
  rename News _ _ _ _ => N9
  have X9 := X'.keeps F9.keep
  have e393 := X9 393 _ rfl
  refine en_call (items := fieldRefs) e393 fun hE he hit hz st => ?_
  dsimp only at he hit hz st ⊢
  refine ⟨_, _, 393, fieldRefs, rfl, he, hit, ⟨_, st _ _ e393, rfl, _, rfl⟩, by decide, by decide, Nat.succ_ne_self _, Nat.ne_of_lt (Nat.lt_succ_of_lt (Heap.lt_size e393)), Nat.ne_of_lt (Heap.lt_size e393), fieldName_ne, ?_, ?_⟩
  · intro C i x' s₂ m₂ E' hx hn hm hk'
    exact field_key (w' := w) (X9.keeps fun b o q => hk' b o (Nat.ne_of_lt (Nat.lt_succ_of_lt (Heap.lt_size q))) (Nat.ne_of_lt (Heap.lt_size q)) (st b o q)) hx hn hm rfl rfl (by decide)
  intro D h2 tk2 kvs tv nD hD hv hk'
  have st2 : Heap.StaysIn _ h2 := fun b o q => hk' b o (Nat.ne_of_lt (Nat.lt_succ_of_lt (Heap.lt_size q))) (Nat.ne_of_lt (Heap.lt_size q)) (st b o q)
  have F10 := frStay F9 st2
  have N10 := newsStay N9 st2
  clear F9 N9 st st2 he hit hz
  walk1
  walk1
  have hT : Shared.TypeIs _ (.ref D) "dict" := Heap.DictOf.typeIs (s := ⟨h2, s.gens, s.drawn, tk2, s.os⟩) hD
  refine subscriptTail_builtin hT slot_dict_getitem.lookup (wpAny_getItem_of (k := fieldName 0) (strKind_is _ _ _ _) hD.mapOf hv ?_)
  clear hT hD hv hk' nD e393
  k_steps
  dsimp only
  refine wpC_execs_cons (wpC_any ?_)
  k_steps
  dsimp only
  refine wpC_execs_cons (wpC_any ?_)
  have hpos : 0 < items.size := (Array.getElem?_eq_some_iff.mp h0).1
  k_steps
  dsimp only
  refine wpC_execs_cons (wpC_If ?_)
  k_steps
  dsimp only
  refine wpC_execs_cons (wpC_any ?_)
  k_steps
  · dsimp only
    rename Fr _ _ _ _ => F9
    rename (_ == _) = true => hb
    exact hret _ s.heap _ _ [] KtsTurn.refl F9.keep News.nil (.inl ⟨eq_of_beq hb, rfl⟩)
  · dsimp only
    refine wpC_execs_cons (wpC_Try_except ?_)
    refine wpC_execs_cons (wpC_Return_some (wpC_Call_Sub ?_))
    k_steps
    dsimp only
    refine' wpC_callWith_K1 (K := (Mine.hd.heap_39 w.params)) ?kk ?_
    case kk => k_is
    k_steps
    rename Fr _ _ _ _ => F9
    rename News _ _ _ _ => N9
    rename (_ == _) = false => hb
    have hb' : y ≠ Str.ofString "" := fun q => by rw [q] at hb; cases hb
    refine (stamp_ok w y _ hy hc) mean mg mb _ _ gd _ _ _ _ (envOf cn cs L a ccd :: outer) _ base s.heap L' _ _ _ _ B' X T F9 rfl (by show dp + 1 + 8 < _; omega) (by show un + _ + 10 * 8 < _; omega) trivial ?_ ?_
    · intro v h' tk' new st Nn po
      exact hret v s.heap h' tk' new KtsTurn.refl (frStay F9 st).keep (newsAt F (newsUp F9 Nn)) (.inr (.inl ⟨hb', po⟩))
    · intro e h' tk' R U hst
      have kd := ktsMore (name := cn) (scope := cs) (a := a) (cd := ccd) F KD
      k_steps
      dsimp only
      rename KtsTurn _ _ _ => T9
      rename Fr _ _ _ _ => F11
      exact hret _ _ _ _ [] T9 F11.keep News.nil (.inr (.inr ⟨hb', hst, _, rfl⟩))
end Mine
end
section
open PySem PySem.W PyProof.Rows
namespace Mine
local macro_rules | `(tactic| walk_at "RESTART") => `(tactic| skip)
theorem restart_Hook2 {M : Model} {A : Around} {E : Value → Shared → Prop} {s : Shared} {Q : Value → Shared → Prop} (h : Q .none s) : wpAny M A (pure Value.none) Q E s := by
  w_top off
  first
    | (walk1; fail "on")
    | exact wpAny_pure h
end Mine
end
section
open PySem PySem.W PySem.Calls PyProof.Rows PySem.Spec PySem.Builtin PySem.Builtin.ObjectAttr
set_option maxRecDepth 100000
namespace Mine
theorem findObj_missing {K : Frag} {C : Addr} {od : Obj} {name : Str} (hh : hasDictIn K C = true) (ha : findIn K (.ref C) name = some none) (hc : copiedNames.contains name = false) (hl : lookIn name od = some none) :
    findObj K C (some od) name = some .missing := by
  obtain ⟨cd, hc', hd⟩ := any_some hh
  unfold findObj
  have ho : W.ownOf cd (some od) name = some none := by unfold W.ownOf; rw [if_pos hd]; exact hl
  rw [hc', Option.bind_some, ha, Option.bind_some]
  simp only [Option.bind_some, ho, hc, Bool.false_and, Bool.false_eq_true, if_false]
section
variable {prog : Program} {w : World} {A : Around} {E : Value → Shared → Prop} {s : Shared} {Q : Value → Shared → Prop} {K : Frag} {x C f : Addr} {ox : Obj} {od : Option Obj} {name : Str} {expr : Bool}
theorem get_hookC (X : K.In s.heap) (I : InstAt s.heap x ox C od) (hga : findIn K (.ref C) "__getattribute__" = some (some (.builtin "object.__getattribute__"))) (hf : findObj K C od name = some .missing)
    (hk : findIn K (.ref C) "__getattr__" = some (some (.ref f))) (hfn : typeIn K (.ref f) = some (.type "function"))
    (h : wpC (model prog w) A.in1 (call (.ref f) [.ref x, .str name s.toks]) (fun v s' => wpAny (model prog w) A (handedOut v) Q E s') (fun _ _ => False) { s with toks := s.toks + 1 }) :
    wpC (model prog w) A (getAttr (.ref x) name expr) Q E s := by
  have L0 : Looks (model prog w) s.heap (typeOf (.ref x)) (.ref C) := I.type
  have L1 := looks_findIn (M := model prog w) X hga
  have L2 := looks_find (M := model prog w) X I hf
  have L3 := looks_findIn (M := model prog w) X hk
  have L4 := bind_fn (M := model prog w) X (.ref x) hfn
  unfold getAttr getAttrBy
  refine wpC_then (wpAny_mkText (wpC_holding (wpC_then (L0 _ _ _ _ (fun _ _ e => e) (wpC_then (L1 _ _ _ _ (fun _ _ e => e) ?_))))))
  show wpC _ _ (getAttrEveryday _ _ _) _ _ _
  unfold getAttrEveryday
  refine wpC_bind (wpC_onRaise (wpC_runValue (codeC_builtin F.plainObj_entry_getattr_hooked ?_)))
  refine wpC_mono (Q := fun fin s' => match fin with | .done (.ret v) => wpAny (model prog w) A (handedOut v) Q E s' | _ => False) (E := fun _ _ => False) ?_ (fun fin s' z => ?_) (fun _ _ z => z.elim)
  · unfold Builtin.«proto.getattr_hooked»
    refine wpC_then (wpAny_of_eq (a := name) rfl ?_)
    refine wpC_then (L0 _ _ _ _ (fun _ _ e => e) ?_)
    refine wpC_then (L2 _ _ _ _ (fun _ _ e => e) ?_)
    dsimp only
    refine wpC_then (L3 _ _ _ _ (fun _ _ e => e) ?_)
    unfold missingOrHook byHook
    dsimp only
    refine wpC_then (L4 _ _ _ _ (fun _ _ e => e) ?_)
    dsimp only
    refine wpC_bind (wpC_mono h (fun v s' z => ?_) fun _ _ z => z)
    exact wpC_any (wpAny_bind (wpAny_rule (wpAny_pure z)))
  · rcases fin with (_ | _ | _ | _) | _ <;> first | exact wpC_any z | exact z.elim
end
theorem hk_f1 (w : World) : findIn (hd.heap_39 w.params) (.ref 396) "__getattribute__" = some (some (.builtin "object.__getattribute__")) := by rfl
theorem hk_f2 (w : World) : findIn (hd.heap_39 w.params) (.ref 396) "__getattr__" = some (some (.ref 259)) := by rfl
theorem hk_f3 (w : World) : findIn (hd.heap_39 w.params) (.ref 396) "timestamp" = some none := by rfl
theorem hk_f4 (w : World) : hasDictIn (hd.heap_39 w.params) 396 = true := by rfl
theorem hk_f5 (w : World) : typeIn (hd.heap_39 w.params) (.ref 259) = some (.type "function") := by rfl
theorem stamp_get (w : World) {x dx dl : Addr} {od : Obj} {items : Array Value} {c : Nat} {y : Str} {ty : Tok} {expr : Bool} (hy : y.length ≤ 40) (hc : Cps y) (h0 : items[0]? = some (.str y ty)) (hl : lookIn "data" od = some (some (.ref dl))) (hm : lookIn "timestamp" od = some none) (hzz : items.size ≤ 1000)
    {mean : ExcName → Option Value} {mg mb : Str → Option Value} {dp un : Nat} {gd : Option (List Code)} {cn : Str} {cs : Scope} {a : Addr} {ccd : Value} {outer : List Env} {A₀ : Around} {base h₀ : Heap} {L : Addr} {m : Str → Option Value} {s : Shared} {Q E : Value → Shared → Prop}
    (B : Below A₀ base outer h₀) (X : (hd.heap_39 w.params).In base) (T : Top hd.view_39 (looseW hd.view_39 [Str.ofString "_tuplegetter", Str.ofString "Time", Str.ofString "NMEASentence", Str.ofString "BWC"]) mean mg mb base) (F : Fr h₀ L s.heap m) (hk : cs.kind = .function)
    (D : KtsDicts (outer.filterMap (·.frame)) h₀) (hd' : dp + 20 < recursionLimit) (hu : un + 10 * 21 < cLine) (pre : HookPre x dx dl od items c s.heap)
    (hret : ∀ v g' h' tk' new, KtsTurn ((envOf cn cs L a ccd :: outer).filterMap (·.frame)) s.heap g' → g'.StaysIn h' → News g' L h' new → HookPost y new v → Q v { s with heap := h', toks := tk' }) :
    wpC (model PySem.Challenge.rw_ez0286_01.row.prog w) (ktrTop dp un gd cn cs L a ccd [] outer) (getAttr (.ref x) (Str.ofString "timestamp") expr) Q E s := by
  have XS := (X.keeps B.stays).keeps F.keep
  refine get_hookC XS ⟨pre.1, rfl, rfl, pre.2.1⟩ (hk_f1 w) (findObj_missing (hk_f4 w) (hk_f3 w) (by decide) hm) (hk_f2 w) (hk_f5 w) ?_
  refine (hook_ok w x dx dl od items c y ty s.toks hy hc h0 hl hzz) mean mg mb _ _ gd cn cs a ccd outer A₀ base h₀ L m _ _ _ B X T F hk D hd' (by show un + 1 + 10 * 20 < cLine; omega) pre fun v g' h' tk' new T' st N' po => ?_
  have hv : handedIn v = true := by
    rcases po with ⟨_, rfl⟩ | ⟨_, _, _, _, _, _, _, _, _, _, _, _, _, rfl⟩ | ⟨_, _, _, rfl⟩ <;> rfl
  rw [handedOut_of hv]
  exact wpAny_pure (hret v g' h' tk' new T' st N' po)
end Mine
end
section
open PySem PySem.W PyProof.Rows
namespace Mine
local macro_rules | `(tactic| walk_at "RESTART") => `(tactic| skip)
theorem restart_PText {M : Model} {A : Around} {E : Value → Shared → Prop} {s : Shared} {Q : Value → Shared → Prop} (h : Q .none s) : wpAny M A (pure Value.none) Q E s := by
  w_top off
  first
    | (walk1; fail "on")
    | exact wpAny_pure h
end Mine
end
section
open PySem PySem.W PySem.Calls PyProof.Rows PySem.Spec PySem.Builtin.Str
set_option maxRecDepth 100000
namespace Mine
abbrev S (l : List Nat) : Str := ⟨l.toArray⟩
theorem S_list (x : Str) : S x.cps.toList = x := by cases x; simp [S]
theorem S_append (a b : List Nat) : S a ++ S b = S (a ++ b) := by
  show (⟨a.toArray ++ b.toArray⟩ : Str) = _
  simp
theorem S_len (l : List Nat) : (S l).length = l.length := by simp [Str.length]
theorem S_slice (l : List Nat) (i j : Nat) (h1 : i ≤ j) (h2 : j ≤ l.length) : Txt.slice (S l) (some (i : Int)) (some (j : Int)) = S ((l.drop i).take (j - i)) := by
  have h := slice_closes (x := S l) (i := (i : Int)) (j := (j : Int)) ⟨by omega, by omega, by simpa using h2⟩
  have h := eq_of_beq h
  rw [h]
  have e : ((j : Int) - (i : Int)).toNat = j - i := by omega
  simp [S, e]
theorem S_to (l : List Nat) (j : Nat) (h2 : j ≤ l.length) : Txt.slice (S l) none (some (j : Int)) = S (l.take j) := by
  have h := slice_closes_to (x := S l) (j := (j : Int)) ⟨by omega, by simpa using h2⟩
  have h := eq_of_beq h
  rw [h]
  simp [S]
theorem S_from (l : List Nat) (i : Nat) (h1 : i ≤ l.length) : Txt.slice (S l) (some (i : Int)) none = S (l.drop i) := by
  have h := slice_closes_from (x := S l) (i := (i : Int)) ⟨by omega, by simpa using h1⟩
  have h := eq_of_beq h
  rw [h]
  have e : (((S l).cps.toList.length : Int) - (i : Int)).toNat = l.length - i := by simp [S]
  rw [e]
  simp only [S, Int.toNat_natCast]
  rw [List.take_of_length_le (by simp)]
theorem S_lstrip (c : Nat) (l : List Nat) (hc : Unicode.isSpace c = false) : Txt.lstrip (S (c :: l)) = S (c :: l) := by
  unfold Txt.lstrip
  rw [PyProof.Rows.stripBy_eq]
  have h0 : stripLo Unicode.isSpace true (S (c :: l)) = 0 := by simp [stripLo, hc]
  rw [h0]
  show strSub (S (c :: l)) 0 (stripHi Unicode.isSpace false (S (c :: l)) 0) = _
  have h1 : stripHi Unicode.isSpace false (S (c :: l)) 0 = (S (c :: l)).length := by simp [stripHi]
  rw [h1]
  simp [strSub, Str.length]
theorem cut_unique {c : Nat} {a b a' b' : List Nat} (h : a ++ c :: b = a' ++ c :: b') (ha : c ∉ a) (ha' : c ∉ a') : a = a' ∧ b = b' := by
  induction a generalizing a' with
  | nil => cases a' with
    | nil => exact ⟨rfl, by simpa using h⟩
    | cons x r => simp at h; exact absurd h.1 (fun e => ha' (by simp [e]))
  | cons x r ih => cases a' with
    | nil => simp at h; exact absurd h.1.symm (fun e => ha (by simp [e]))
    | cons x' r' =>
      simp at h
      obtain ⟨rfl, h⟩ := h
      obtain ⟨e1, e2⟩ := ih h (fun q => ha (List.mem_cons_of_mem _ q)) (fun q => ha' (List.mem_cons_of_mem _ q))
      exact ⟨by rw [e1], e2⟩
theorem S_partition (a b : List Nat) (c : Nat) (ha : c ∉ a) : Txt.partition (S (a ++ c :: b)) (S [c]) = (S a, S [c], S b) := by
  have hs := StrLaws.partition_sum (S (a ++ c :: b)) (S [c])
  rcases partition_head (S (a ++ c :: b)) (S [c]) with ⟨_, h⟩ | ⟨i, h1, h2, h3⟩
  · refine absurd ?_ (h a.length)
    refine ⟨by simp [Str.length], ?_⟩
    simp [subAt, Str.length]
  · have hmid : (Txt.partition (S (a ++ c :: b)) (S [c])).2.1 = S [c] := by
      unfold Txt.partition
      cases q : occurrences (S (a ++ c :: b)) (S [c]) 0 (S (a ++ c :: b)).length 1 with
      | nil =>
        have := (StrLaws.found_one (S (a ++ c :: b)) c)
        simp only [S] at this q
        rw [show (⟨#[c]⟩ : Str) = ⟨[c].toArray⟩ from rfl, q] at this
        simp at this
      | cons i r => rfl
    generalize hP : Txt.partition (S (a ++ c :: b)) (S [c]) = P at hs h1 hmid
    obtain ⟨p, q, r⟩ := P
    dsimp only at hs h1 hmid
    subst hmid h1
    have hfree : c ∉ (strSub (S (a ++ c :: b)) 0 i).cps.toList := by
      intro hc
      obtain ⟨k, hk, he⟩ := List.getElem_of_mem hc
      have hk2 : k < i ∧ k < (a ++ c :: b).length := by
        simp [strSub, List.length_append] at hk
        rw [List.length_append, List.length_cons]
        omega
      refine h3 k hk2.1 ⟨by simp [Str.length] at hk2 ⊢; omega, ?_⟩
      simp [strSub] at he
      simp only [subAt, Str.length]
      have : (a ++ c :: b)[k]? = some c := by rw [List.getElem?_eq_getElem hk2.2]; exact congrArg some he
      simp
      rw [List.drop_eq_getElem_cons (by simpa using hk2.2)]
      simp [he]
    have hl : (strSub (S (a ++ c :: b)) 0 i).cps.toList ++ c :: r.cps.toList = a ++ c :: b := by
      have := congrArg (fun x : Str => x.cps.toList) hs
      simp only [S] at this
      have e : ∀ u v : Str, (u ++ v).cps.toList = u.cps.toList ++ v.cps.toList := fun u v => by show (u.cps ++ v.cps).toList = _; simp
      rw [e, e] at this
      simpa using this
    obtain ⟨e1, e2⟩ := cut_unique hl hfree ha
    rw [← S_list (strSub (S (a ++ c :: b)) 0 i), ← S_list r, e1, e2]
theorem S_split3 (a b d : List Nat) (c : Nat) (ha : c ∉ a) (hb : c ∉ b) (hd : c ∉ d) : Txt.split (S (a ++ c :: (b ++ c :: d))) (S [c]) = [S a, S b, S d] := by
  have hfree := StrLaws.split_free (S (a ++ c :: (b ++ c :: d))) c
  have hjoin := StrLaws.join_split (S (a ++ c :: (b ++ c :: d))) (S [c])
  have hlen := split_len (S (a ++ c :: (b ++ c :: d))) c
  have cz : ∀ l : List Nat, c ∉ l → cnt c l = 0 := by
    intro l
    induction l with
    | nil => intro _; rfl
    | cons x r ih =>
      intro h
      rw [cnt_cons, ih (fun q => h (List.mem_cons_of_mem _ q)), if_neg (fun e => h (by simp [e]))]
      rfl
  have ca : ∀ l r : List Nat, cnt c (l ++ r) = cnt c l + cnt c r := by
    intro l r
    induction l with
    | nil => simp [cnt_nil]
    | cons x l ih => rw [List.cons_append, cnt_cons, cnt_cons, ih]; omega
  have hc : cnt c (S (a ++ c :: (b ++ c :: d))).cps.toList = 2 := by
    simp only [S]
    rw [ca, cnt_cons, ca, cnt_cons, cz a ha, cz b hb, cz d hd]
    simp
  rw [hc] at hlen
  change ∀ p ∈ Txt.split (S (a ++ c :: (b ++ c :: d))) (S [c]), c ∉ p.cps.toList at hfree
  change ((Txt.split (S (a ++ c :: (b ++ c :: d))) (S [c])).length : Int) = 1 + 2 at hlen
  generalize Txt.split (S (a ++ c :: (b ++ c :: d))) (S [c]) = ps at hfree hjoin hlen
  match ps, hlen with
  | [p, q, r], _ =>
    have hl : p.cps.toList ++ c :: (q.cps.toList ++ c :: r.cps.toList) = a ++ c :: (b ++ c :: d) := by
      have := congrArg (fun x : Str => x.cps.toList) hjoin
      have e : ∀ u v : Str, (u ++ v).cps.toList = u.cps.toList ++ v.cps.toList := fun u v => by show (u.cps ++ v.cps).toList = _; simp
      simp only [Str.join, e, S] at this
      simpa using this
    obtain ⟨e1, e2⟩ := cut_unique hl (hfree p (by simp)) ha
    obtain ⟨e3, e4⟩ := cut_unique e2 (hfree q (by simp)) hb
    rw [← S_list p, ← S_list q, ← S_list r, e1, e3, e4]
  | [], h => simp at h
  | [_], h => simp at h
  | [_, _], h => simp at h
  | _ :: _ :: _ :: _ :: _, h => simp at h; omega
end Mine
end
section
open PySem PySem.W PyProof.Rows
namespace Mine
local macro_rules | `(tactic| walk_at "RESTART") => `(tactic| skip)
theorem restart_PText2 {M : Model} {A : Around} {E : Value → Shared → Prop} {s : Shared} {Q : Value → Shared → Prop} (h : Q .none s) : wpAny M A (pure Value.none) Q E s := by
  w_top off
  first
    | (walk1; fail "on")
    | exact wpAny_pure h
end Mine
end
section
open PySem PySem.W PySem.Calls PyProof.Rows PySem.Spec PySem.Builtin.Str
set_option maxRecDepth 100000
namespace Mine
def restL (y : List Nat) : List Nat := y ++ 44 :: ([52, 50, 51, 55, 46, 49, 52] ++ 44 :: [78])
def bodyL (y : List Nat) : List Nat := 71 :: 80 :: 66 :: 87 :: 67 :: 44 :: restL y
def chk (l : List Nat) : Nat := l.foldl (fun v c => v ^^^ c) 0
def hexd (d : Nat) : Nat := if d < 10 then 48 + d else 55 + d
def tailL (k : Nat) : List Nat := [hexd (k / 16), hexd (k % 16)]
def lineL (y : List Nat) : List Nat := (36 :: bodyL y) ++ 42 :: tailL (chk (bodyL y))
theorem restL_len (y : List Nat) : (restL y).length = y.length + 10 := by simp [restL]
theorem bodyL_len (y : List Nat) : (bodyL y).length = y.length + 16 := by simp [bodyL, restL_len]
theorem lineL_len (y : List Nat) : (lineL y).length = y.length + 20 := by simp [lineL, bodyL_len, tailL]
section
variable {y : List Nat}
theorem pt_lstrip : Txt.lstrip (S (lineL y)) = S (lineL y) := S_lstrip 36 _ (by decide +kernel)
theorem pt_part (h : 42 ∉ y) : Txt.partition (S (lineL y)) (Str.ofString "*") = (S (36 :: bodyL y), Str.ofString "*", S (tailL (chk (bodyL y)))) := by
  have e : Str.ofString "*" = S [42] := by decide
  rw [e]
  exact S_partition _ _ _ (by simp [bodyL, restL, h])
theorem pt_a1 : Txt.slice (S (36 :: bodyL y)) none (some 1) = Str.ofString "$" := (S_to (36 :: bodyL y) 1 (by simp)).trans (by show S [36] = _; decide)
theorem pt_a2 : Txt.slice (S (36 :: bodyL y)) (some 1) none = S (bodyL y) := S_from (36 :: bodyL y) 1 (by simp)
theorem pt_b1 : Txt.slice (S (bodyL y)) none (some 1) = Str.ofString "G" := (S_to (bodyL y) 1 (by rw [bodyL_len]; omega)).trans (by show S [71] = _; decide)
theorem pt_b4 : Txt.slice (S (bodyL y)) none (some 4) = Str.ofString "GPBW" := (S_to (bodyL y) 4 (by rw [bodyL_len]; omega)).trans (by show S [71, 80, 66, 87] = _; decide)
theorem pt_b5 : Txt.slice (S (bodyL y)) none (some 5) = Str.ofString "GPBWC" := (S_to (bodyL y) 5 (by rw [bodyL_len]; omega)).trans (by show S [71, 80, 66, 87, 67] = _; decide)
theorem pt_b6 : Txt.slice (S (bodyL y)) none (some 6) = Str.ofString "GPBWC," := (S_to (bodyL y) 6 (by rw [bodyL_len]; omega)).trans (by show S [71, 80, 66, 87, 67, 44] = _; decide)
theorem pt_b46 : Txt.slice (S (bodyL y)) (some 4) (some 6) = Str.ofString "C," := (S_slice (bodyL y) 4 6 (by omega) (by rw [bodyL_len]; omega)).trans (by show S [67, 44] = _; decide)
theorem pt_b56 : Txt.slice (S (bodyL y)) (some 5) (some 6) = Str.ofString "," := (S_slice (bodyL y) 5 6 (by omega) (by rw [bodyL_len]; omega)).trans (by show S [44] = _; decide)
theorem pt_b6n : Txt.slice (S (bodyL y)) (some 6) none = S (restL y) := S_from (bodyL y) 6 (by rw [bodyL_len]; omega)
theorem pt_t2 (k : Nat) : Txt.slice (S (tailL k)) none (some 2) = S (tailL k) := S_to (tailL k) 2 (by simp [tailL])
theorem pt_t2n (k : Nat) : Txt.slice (S (tailL k)) (some 2) none = Str.ofString "" := (S_from (tailL k) 2 (by simp [tailL])).trans (by show S [] = _; decide)
theorem pt_tlen (k : Nat) : (S (tailL k)).length = 2 := by rw [S_len]; rfl
theorem pt_strip : ∀ k : Nat, k < 128 → Txt.stripChars (S (tailL k)) (Str.ofString "0123456789ABCDEFabcdef") = Str.ofString "" := by decide +kernel
theorem pt_split (h : 44 ∉ y) : Txt.split (S (restL y)) (Str.ofString ",") = [S y, Str.ofString "4237.14", Str.ofString "N"] := by
  have e : Str.ofString "," = S [44] := by decide
  have e2 : Str.ofString "4237.14" = S [52, 50, 51, 55, 46, 49, 52] := by decide
  have e3 : Str.ofString "N" = S [78] := by decide
  rw [e, e2, e3]
  exact S_split3 y _ _ 44 h (by decide) (by decide)
theorem xor_lt : ∀ a b : Nat, a < 128 → b < 128 → a ^^^ b < 128 := fun a b ha hb => Nat.xor_lt_two_pow (n := 7) ha hb
theorem chk_lt : ∀ (l : List Nat) (v : Nat), v < 128 → (∀ c ∈ l, c < 128) → l.foldl (fun v c => v ^^^ c) v < 128
  | [], _, h, _ => h
  | c :: r, v, h, hl => chk_lt r _ (xor_lt v c h (hl c (by simp))) fun d hd => hl d (by simp [hd])
theorem chk_body (h : ∀ c ∈ y, c < 128) : chk (bodyL y) < 128 := chk_lt _ 0 (by decide) (by
  intro c hc
  simp only [bodyL, restL, List.mem_cons, List.mem_append, List.not_mem_nil, or_false] at hc
  rcases hc with rfl | rfl | rfl | rfl | rfl | rfl | hc | rfl | hc | rfl | rfl <;> first | omega | exact h _ hc)
theorem xor_sum : ∀ n v c : Nat, v < 2 ^ n → c < 2 ^ n → v + c = (v ^^^ c) + 2 * (v &&& c) := by
  intro n
  induction n with
  | zero =>
    intro v c hv hc
    have e1 : v = 0 := by omega
    have e2 : c = 0 := by omega
    subst e1
    subst e2
    rfl
  | succ n ih =>
    intro v c hv hc
    have hp : 2 ^ (n + 1) = 2 * 2 ^ n := by rw [Nat.pow_succ]; omega
    have h := ih (v / 2) (c / 2) (by omega) (by omega)
    have d1 : (v ^^^ c) / 2 = v / 2 ^^^ c / 2 := Nat.xor_div_two
    have d2 : (v &&& c) / 2 = v / 2 &&& c / 2 := Nat.and_div_two
    rw [← d1, ← d2] at h
    have m1 : (v ^^^ c) % 2 = (v % 2) ^^^ (c % 2) := Nat.xor_mod_two_pow (n := 1)
    have m2 : (v &&& c) % 2 = (v % 2) &&& (c % 2) := Nat.and_mod_two_pow (n := 1)
    rcases Nat.mod_two_eq_zero_or_one v with ev | ev <;> rcases Nat.mod_two_eq_zero_or_one c with ec | ec <;> rw [ev, ec] at m1 m2
    · have b1 : (0 : Nat) ^^^ 0 = 0 := rfl
      have b2 : (0 : Nat) &&& 0 = 0 := rfl
      omega
    · have b1 : (0 : Nat) ^^^ 1 = 1 := rfl
      have b2 : (0 : Nat) &&& 1 = 0 := rfl
      omega
    · have b1 : (1 : Nat) ^^^ 0 = 1 := rfl
      have b2 : (1 : Nat) &&& 0 = 0 := rfl
      omega
    · have b1 : (1 : Nat) ^^^ 1 = 0 := rfl
      have b2 : (1 : Nat) &&& 1 = 1 := rfl
      omega
theorem xor_plus (v c : Nat) (hv : v < 128) (hc : c < 128) : (v : Int) + c - 2 * ((v &&& c : Nat) : Int) = ((v ^^^ c : Nat) : Int) := by
  have h := xor_sum 7 v c hv hc
  omega
end
end Mine
end
section
open PySem PySem.W PyProof.Rows
namespace Mine
local macro_rules | `(tactic| walk_at "RESTART") => `(tactic| skip)
theorem restart_PText3 {M : Model} {A : Around} {E : Value → Shared → Prop} {s : Shared} {Q : Value → Shared → Prop} (h : Q .none s) : wpAny M A (pure Value.none) Q E s := by
  w_top off
  first
    | (walk1; fail "on")
    | exact wpAny_pure h
end Mine
end
section
open PySem PySem.W PySem.Calls PyProof.Rows PySem.Spec PySem.Builtin.Str
set_option maxRecDepth 100000
namespace Mine
def lineS (y : List Nat) : Str := S (lineL y)
def dollS (y : List Nat) : Str := S (36 :: bodyL y)
def bodyS (y : List Nat) : Str := S (bodyL y)
def restS (y : List Nat) : Str := S (restL y)
def tailS (k : Nat) : Str := S (tailL k)
def textS (y : List Nat) : Str := S y
section
variable {y : List Nat}
theorem pu_lineLen : (lineS y).length = y.length + 20 := (S_len _).trans (lineL_len y)
theorem pu_dollLen : (dollS y).length = y.length + 17 := (S_len _).trans (by rw [List.length_cons, bodyL_len])
theorem pu_bodyLen : (bodyS y).length = y.length + 16 := (S_len _).trans (bodyL_len y)
theorem pu_restLen : (restS y).length = y.length + 10 := (S_len _).trans (restL_len y)
theorem pu_tailLen (k : Nat) : (tailS k).length = 2 := pt_tlen k
theorem pu_lstrip : Txt.lstrip (lineS y) = lineS y := pt_lstrip
theorem pu_part (h : 42 ∉ y) : Txt.partition (lineS y) (Str.ofString "*") = (dollS y, Str.ofString "*", tailS (chk (bodyL y))) := pt_part h
theorem pu_a1 : Txt.slice (dollS y) none (some 1) = Str.ofString "$" := pt_a1
theorem pu_a2 : Txt.slice (dollS y) (some 1) none = bodyS y := pt_a2
theorem pu_b1 : Txt.slice (bodyS y) none (some 1) = Str.ofString "G" := pt_b1
theorem pu_b4 : Txt.slice (bodyS y) none (some 4) = Str.ofString "GPBW" := pt_b4
theorem pu_b5 : Txt.slice (bodyS y) none (some 5) = Str.ofString "GPBWC" := pt_b5
theorem pu_b6 : Txt.slice (bodyS y) none (some 6) = Str.ofString "GPBWC," := pt_b6
theorem pu_b46 : Txt.slice (bodyS y) (some 4) (some 6) = Str.ofString "C," := pt_b46
theorem pu_b56 : Txt.slice (bodyS y) (some 5) (some 6) = Str.ofString "," := pt_b56
theorem pu_b6n : Txt.slice (bodyS y) (some 6) none = restS y := pt_b6n
theorem pu_t2 (k : Nat) : Txt.slice (tailS k) none (some 2) = tailS k := pt_t2 k
theorem pu_t2n (k : Nat) : Txt.slice (tailS k) (some 2) none = Str.ofString "" := pt_t2n k
theorem pu_strip (k : Nat) (h : k < 128) : Txt.stripChars (tailS k) (Str.ofString "0123456789ABCDEFabcdef") = Str.ofString "" := pt_strip k h
theorem pu_split (h : 44 ∉ y) : Txt.split (restS y) (Str.ofString ",") = [textS y, Str.ofString "4237.14", Str.ofString "N"] := pt_split h
end
end Mine
end
section
open PySem PySem.W PyProof.Rows
namespace Mine
local macro_rules | `(tactic| walk_at "RESTART") => `(tactic| skip)
theorem restart_Word {M : Model} {A : Around} {E : Value → Shared → Prop} {s : Shared} {Q : Value → Shared → Prop} (h : Q .none s) : wpAny M A (pure Value.none) Q E s := by
  w_top off
  first
    | (walk1; fail "on")
    | exact wpAny_pure h
end Mine
end
section
open PySem PySem.W PySem.Calls PyProof.Rows PySem.Spec
set_option maxRecDepth 100000
namespace Mine
local macro_rules | `(tactic| walk_at "call builtin:str.replace") => `(tactic| (k_here; k_dflt (refine' SC.replaceW ?a ?b ?c ?d ?e ?f ?_; (case a => exact Nat.succ_ne_zero _); (case b => exact Nat.succ_ne_zero _); (case c => exact Nat.ne_of_lt (Nat.lt_succ_self _)); (case d => decide); (case e => decide); (case f => decide)); intro t9 k9))
set_option maxHeartbeats 400000 in
theorem word4_ok (w : World) (t u : Tok) : Ctr w 3 225 [.str (Str.ofString "GPBW") t, .int 4 u] (fun _ => True) (fun new v => new = [] ∧ v = .bool true) := by
  unfold Ctr
  k_fill
  intro mean mg mb dp un gd cn cs a ccd cl outer A₀ base h₀ L m s Q E B X T F hk hd hu hp hret
  refine wpAny_call ?_
  refine' enter ?k1 ?k2 ?k3 ?k4 ?kA ?kF ?kK ?k6 ?k7 ?k8 ?k9 ?kB ?_ ?c2 ?c3 ?c4 ?c5
  case kA => exact rfl
  case kF => exact rfl
  case kK => assumption
  case k1 => k_asm
  case k2 => k_asm
  case k3 => k_asm
  case k4 => k_asm
  case k6 => k_is
  case k7 => k_is
  case k8 => ktr_room
  case k9 => exact BindsTo.of_eq rfl
  case kB => exact locs rfl
  case c2 => exact rfl
  case c3 => exact rfl
  case c4 => exact rfl
  case c5 => decide
  intro L' h₁ hL F' N' B' X' T'
  dsimp only
  k_steps
  exact hret _ _ _ [] (Fr.keep (by assumption)) News.nil ⟨rfl, rfl⟩
set_option maxHeartbeats 400000 in
theorem word5_ok (w : World) (t u : Tok) : Ctr w 3 225 [.str (Str.ofString "GPBWC") t, .int 5 u] (fun _ => True) (fun new v => new = [] ∧ v = .bool true) := by
  unfold Ctr
  k_fill
  intro mean mg mb dp un gd cn cs a ccd cl outer A₀ base h₀ L m s Q E B X T F hk hd hu hp hret
  refine wpAny_call ?_
  refine' enter ?k1 ?k2 ?k3 ?k4 ?kA ?kF ?kK ?k6 ?k7 ?k8 ?k9 ?kB ?_ ?c2 ?c3 ?c4 ?c5
  case kA => exact rfl
  case kF => exact rfl
  case kK => assumption
  case k1 => k_asm
  case k2 => k_asm
  case k3 => k_asm
  case k4 => k_asm
  case k6 => k_is
  case k7 => k_is
  case k8 => ktr_room
  case k9 => exact BindsTo.of_eq rfl
  case kB => exact locs rfl
  case c2 => exact rfl
  case c3 => exact rfl
  case c4 => exact rfl
  case c5 => decide
  intro L' h₁ hL F' N' B' X' T'
  dsimp only
  k_steps
  exact hret _ _ _ [] (Fr.keep (by assumption)) News.nil ⟨rfl, rfl⟩
end Mine
end
section
open PySem PySem.W PyProof.Rows
namespace Mine
local macro_rules | `(tactic| walk_at "RESTART") => `(tactic| skip)
theorem restart_Hex {M : Model} {A : Around} {E : Value → Shared → Prop} {s : Shared} {Q : Value → Shared → Prop} (h : Q .none s) : wpAny M A (pure Value.none) Q E s := by
  w_top off
  first
    | (walk1; fail "on")
    | exact wpAny_pure h
end Mine
end
section
open PySem PySem.W PySem.Calls PyProof.Rows PySem.Spec PySem.NumText
set_option maxRecDepth 100000
namespace Mine
theorem hex_wp {M : Model} {A : Around} {E : Value → Shared → Prop} {s : Shared} {Q : Value → Shared → Prop} {v : Value} {text : List Nat} {n : Int}
    (hs : (text.takeWhile (· != 0)).length ≤ 640) (hr : (int_private% "readNumeral") 0 16 (text.takeWhile (· != 0)) = (int_private% "Numeral.value") n)
    (ha : ((text.takeWhile (· != 0)).length == text.length) = true) (h : Q (.int n s.toks) { s with toks := s.toks + 1 }) :
    wpAny M A ((int_private% "intFromText") v text 16) Q E s := by
  k_delta "intFromText"
  simp only [if_pos hs, pure_bind, hr, ha, if_true]
  exact wpAny_mkInt h
theorem hex_reads : ∀ k : Nat, k < 128 → ((numSeenOf (S (tailL k))).length ≤ 640 ∧ ((numSeenOf (S (tailL k))).length == (numTextOf (S (tailL k))).length) = true) := by decide +kernel
theorem hex_read (k : Nat) (hk : k < 128) : (int_private% "readNumeral") 0 16 (numSeenOf (S (tailL k))) = (int_private% "Numeral.value") (k : Int) := by
  match k, hk with
  | 0, _ => kernel_rfl
  | 1, _ => kernel_rfl
  | 2, _ => kernel_rfl
  | 3, _ => kernel_rfl
  | 4, _ => kernel_rfl
  | 5, _ => kernel_rfl
  | 6, _ => kernel_rfl
  | 7, _ => kernel_rfl
  | 8, _ => kernel_rfl
  | 9, _ => kernel_rfl
  | 10, _ => kernel_rfl
  | 11, _ => kernel_rfl
  | 12, _ => kernel_rfl
  | 13, _ => kernel_rfl
  | 14, _ => kernel_rfl
  | 15, _ => kernel_rfl
  | 16, _ => kernel_rfl
  | 17, _ => kernel_rfl
  | 18, _ => kernel_rfl
  | 19, _ => kernel_rfl
  | 20, _ => kernel_rfl
  | 21, _ => kernel_rfl
  | 22, _ => kernel_rfl
  | 23, _ => kernel_rfl
  | 24, _ => kernel_rfl
  | 25, _ => kernel_rfl
  | 26, _ => kernel_rfl
  | 27, _ => kernel_rfl
  | 28, _ => kernel_rfl
  | 29, _ => kernel_rfl
  | 30, _ => kernel_rfl
  | 31, _ => kernel_rfl
  | 32, _ => kernel_rfl
  | 33, _ => kernel_rfl
  | 34, _ => kernel_rfl
  | 35, _ => kernel_rfl
  | 36, _ => kernel_rfl
  | 37, _ => kernel_rfl
  | 38, _ => kernel_rfl
  | 39, _ => kernel_rfl
  | 40, _ => kernel_rfl
  | 41, _ => kernel_rfl
  | 42, _ => kernel_rfl
  | 43, _ => kernel_rfl
  | 44, _ => kernel_rfl
  | 45, _ => kernel_rfl
  | 46, _ => kernel_rfl
  | 47, _ => kernel_rfl
  | 48, _ => kernel_rfl
  | 49, _ => kernel_rfl
  | 50, _ => kernel_rfl
  | 51, _ => kernel_rfl
  | 52, _ => kernel_rfl
  | 53, _ => kernel_rfl
  | 54, _ => kernel_rfl
  | 55, _ => kernel_rfl
  | 56, _ => kernel_rfl
  | 57, _ => kernel_rfl
  | 58, _ => kernel_rfl
  | 59, _ => kernel_rfl
  | 60, _ => kernel_rfl
  | 61, _ => kernel_rfl
  | 62, _ => kernel_rfl
  | 63, _ => kernel_rfl
  | 64, _ => kernel_rfl
  | 65, _ => kernel_rfl
  | 66, _ => kernel_rfl
  | 67, _ => kernel_rfl
  | 68, _ => kernel_rfl
  | 69, _ => kernel_rfl
  | 70, _ => kernel_rfl
  | 71, _ => kernel_rfl
  | 72, _ => kernel_rfl
  | 73, _ => kernel_rfl
  | 74, _ => kernel_rfl
  | 75, _ => kernel_rfl
  | 76, _ => kernel_rfl
  | 77, _ => kernel_rfl
  | 78, _ => kernel_rfl
  | 79, _ => kernel_rfl
  | 80, _ => kernel_rfl
  | 81, _ => kernel_rfl
  | 82, _ => kernel_rfl
  | 83, _ => kernel_rfl
  | 84, _ => kernel_rfl
  | 85, _ => kernel_rfl
  | 86, _ => kernel_rfl
  | 87, _ => kernel_rfl
  | 88, _ => kernel_rfl
  | 89, _ => kernel_rfl
  | 90, _ => kernel_rfl
  | 91, _ => kernel_rfl
  | 92, _ => kernel_rfl
  | 93, _ => kernel_rfl
  | 94, _ => kernel_rfl
  | 95, _ => kernel_rfl
  | 96, _ => kernel_rfl
  | 97, _ => kernel_rfl
  | 98, _ => kernel_rfl
  | 99, _ => kernel_rfl
  | 100, _ => kernel_rfl
  | 101, _ => kernel_rfl
  | 102, _ => kernel_rfl
  | 103, _ => kernel_rfl
  | 104, _ => kernel_rfl
  | 105, _ => kernel_rfl
  | 106, _ => kernel_rfl
  | 107, _ => kernel_rfl
  | 108, _ => kernel_rfl
  | 109, _ => kernel_rfl
  | 110, _ => kernel_rfl
  | 111, _ => kernel_rfl
  | 112, _ => kernel_rfl
  | 113, _ => kernel_rfl
  | 114, _ => kernel_rfl
  | 115, _ => kernel_rfl
  | 116, _ => kernel_rfl
  | 117, _ => kernel_rfl
  | 118, _ => kernel_rfl
  | 119, _ => kernel_rfl
  | 120, _ => kernel_rfl
  | 121, _ => kernel_rfl
  | 122, _ => kernel_rfl
  | 123, _ => kernel_rfl
  | 124, _ => kernel_rfl
  | 125, _ => kernel_rfl
  | 126, _ => kernel_rfl
  | 127, _ => kernel_rfl
  | n + 128, h => omega
theorem hex_new (k : Nat) (hk : k < 128) (u v : Tok) : Gives (Builtin.«int.__new__» ⟨[.type "int", .str (S (tailL k)) u, .int 16 v], []⟩) (.int k) :=
  .of_wp fun M A E s Q h => by
    obtain ⟨hp, g, d, tk, os⟩ := s
    have f1 := F.conv_sub_int
    have f2 := F.madeHere_int
    have f0 : isType (.type "int") = pure true := by first | rfl | (rw [isType_type]; kernel_rfl)
    have hb := hex_reads k hk
    have hr := hex_read k hk
    unfold Builtin.«int.__new__»
    have e1 : (int_private% "numeralText?") (.str (S (tailL k)) u) = pure (some (numTextOf (S (tailL k)))) := by
      k_delta "numeralText?"
      have f7 : asStr? (.str (S (tailL k)) u) = pure (some (S (tailL k))) := rfl
      simp only [f7, pure_bind]
    have e2 : Builtin.Int.intIndex "int.__new__" (.int 16 v) = pure 16 := by first | rfl | kernel_rfl
    simp [f0, f1, f2, e1, e2]
    refine wpAny_bind (hex_wp hb.1 hr hb.2 ?_)
    exact wpAny_pure ⟨_, rfl, h⟩
theorem hex_call {prog : Program} {w : World} {A : Around} {E : Value → Shared → Prop} {s : Shared} {Q : Value → Shared → Prop} {k : Nat} (hk : k < 128) {u v : Tok} (h : Q (.int k s.toks) { s with toks := s.toks + 1 }) :
    wpAny (model prog w) A (call (.type "int") [.str (tailS k) u, .int 16 v]) Q E s :=
  callType_new F.called_int F.newNe_int (by kernel_rfl) (by kernel_rfl) (fun obj => by unfold argsOk; kernel_rfl) F.entry_int_new (hex_new k hk u v).meets (show (Made.int k).post _ s from ⟨rfl, h⟩)
end Mine
end
section
open PySem PySem.W PyProof.Rows
namespace Mine
local macro_rules | `(tactic| walk_at "RESTART") => `(tactic| skip)
theorem restart_RMap {M : Model} {A : Around} {E : Value → Shared → Prop} {s : Shared} {Q : Value → Shared → Prop} (h : Q .none s) : wpAny M A (pure Value.none) Q E s := by
  w_top off
  first
    | (walk1; fail "on")
    | exact wpAny_pure h
end Mine
end
section
open PySem PySem.W PySem.Calls PyProof.Rows PySem.Spec
open AutoSeq1 (wpAny_loadPart')
set_option maxRecDepth 100000
namespace Mine
theorem mp_mro : mroOf (.type "map") = pure [.type "map", .type "object"] := by rw [mroOf_type]; kernel_rfl
theorem mp_lookup : typeLookup (.type "map") "__new__" = pure (some (.builtin "map.__new__")) := by rw [typeLookup_type, builtinLookup_eq_fast]; kernel_rfl
theorem mp_init : Slot "map" "__init__" "object.__init__" :=
  .of (owner := "object") (n := "__init__") (by rw [typeLookup_type, builtinLookup_eq_fast]; kernel_rfl) (by decide +kernel) (by decide +kernel) (by decide +kernel)
    (by first | exact .inl (by decide +kernel) | exact .inr (by decide +kernel)) (by rw [isSubtype_type]; kernel_rfl)
theorem mp_called : TypeCalled "map" "map.__new__" "object.__init__" :=
  ⟨by decide +kernel, by decide +kernel, ⟨_, _, mp_mro⟩, madeBy_type mp_mro mp_lookup (by decide +kernel), by decide +kernel, by rw [isSubtype_type]; kernel_rfl, mp_init⟩
theorem mp_typeCall (a b : Value) : checkTypeCall "map" ⟨[a, b], []⟩ = pure () := by kernel_rfl
theorem mp_newCall (a b : Value) : checkBuiltinCall "map.__new__" ⟨[.type "map", a, b], []⟩ = pure () := by kernel_rfl
theorem mp_entry : entryFor table "map.__new__" = some Builtin.«map.__new__» := entryFor_of_tree (by kernel_rfl)
theorem mp_ok (o a b : Value) : argsOk "object.__init__" ⟨[o, a, b], []⟩ := by unfold argsOk; kernel_rfl
theorem mp_next : Slot "map" "__next__" "map.__next__" :=
  .of (owner := "map") (n := "__next__") (by rw [typeLookup_type, builtinLookup_eq_fast]; kernel_rfl) (by decide +kernel) (by decide +kernel) (by decide +kernel)
    (by first | exact .inl (by decide +kernel) | exact .inr (by decide +kernel)) (by rw [isSubtype_type]; kernel_rfl)
theorem mp_nextEntry : entryFor table "map.__next__" = some Builtin.«map.__next__» := entryFor_of_tree (by kernel_rfl)
theorem mp_nextArgs (a : Value) : argsOk "map.__next__" ⟨[a], []⟩ := by unfold argsOk; kernel_rfl
theorem mp_iter : Slot "map" "__iter__" "map.__iter__" :=
  .of (owner := "map") (n := "__iter__") (by rw [typeLookup_type, builtinLookup_eq_fast]; kernel_rfl) (by decide +kernel) (by decide +kernel) (by decide +kernel)
    (by first | exact .inl (by decide +kernel) | exact .inr (by decide +kernel)) (by rw [isSubtype_type]; kernel_rfl)
theorem mp_iterArgs (a : Value) : argsOk "map.__iter__" ⟨[a], []⟩ := by unfold argsOk; kernel_rfl
theorem mp_sub : isSubtype (.type "map") (.type "map") = pure true := by rw [isSubtype_type]; kernel_rfl
abbrev sitObj (x : Str) (t : Tok) (i : Int) : Obj := { cls := .type "str_ascii_iterator", data := .fields #[.str x t, .int i 0] }
abbrev mapObj (T : Addr) : Obj := { cls := .type "map", data := .fields #[.ref T, .builtin "ord"] }
theorem mp_new (x : Str) (t : Tok) (hx : x.cps.all (· < 128) = true) :
    Meets (Builtin.«map.__new__» ⟨[.type "map", .builtin "ord", .str x t], []⟩) (fun _ R s =>
      (∀ h' I T M, s.heap.StaysIn h' → h'.get? I = some (sitObj x t 0) → h'.get? T = some { cls := .type "tuple", data := .seq #[.ref I] } → h'.get? M = some (mapObj T) → s.heap.get? I = none → s.heap.get? T = none → s.heap.get? M = none → I ≠ T → I ≠ M → T ≠ M →
        R (.ok (.ret (.ref M))) { s with heap := h' })) :=
  .of_wp fun prog w A R s h => by
    obtain ⟨hp, g, d, tk, os⟩ := s
    have hsub := mp_sub
    have f0 : isType (.type "map") = pure true := by first | rfl | (rw [isType_type]; kernel_rfl)
    unfold Builtin.«map.__new__»
    refine wpAny_bind (wpAny_of_eq (a := (.type "map", [.builtin "ord", .str x t])) ?_ ?_)
    · unfold Builtin.SmallTypes.newClass
      simp [f0, hsub]
    dsimp only
    refine wpAny_bind (wpAny_of_eq (a := ()) rfl ?_)
    rw [if_neg (show ¬ ([Value.builtin "ord", Value.str x t].length < 2) from Nat.lt_irrefl 2)]
    refine wpAny_bind ?_
    unfold Builtin.SmallTypes.iterAll
    simp only [List.drop_succ_cons, List.drop_zero, List.forIn_cons, List.forIn_nil]
    refine wpAny_bind (wpAny_bind (wpAny_bind (wpAny_holding ?_)))
    refine wpAny_pyIter_ascii hx ?_
    refine wpAny_pure (wpAny_pure (wpAny_pure ?_))
    unfold newTuple
    refine wpAny_bind (wpAny_newObj_type ?_ (by show (1 : Nat) ≤ sizeLine; rw [sizeLine_eq]; decide))
    unfold Builtin.SmallTypes.newRecord
    refine wpAny_bind (wpAny_newObj_type ?_ (by size_fits))
    refine wpAny_pure ⟨_, rfl, ?_⟩
    dsimp only at h ⊢
    have z1 : (hp.push (sitObj x t 0)).objs.size = hp.objs.size + 1 := Heap.size_push ..
    have nn : ∀ b, hp.objs.size ≤ b → hp.get? b = none := fun b hb => Heap.get?_none_of_le hb
    rw [Heap.size_push, z1]
    refine h _ hp.objs.size (hp.objs.size + 1) (hp.objs.size + 1 + 1) (fun b o e => Heap.get?_push_of_some _ (Heap.get?_push_of_some _ (Heap.get?_push_of_some _ e))) ?_ ?_ ?_ (nn _ (Nat.le_refl _)) (nn _ (Nat.le_succ _)) (nn _ (Nat.le_succ_of_le (Nat.le_succ _))) (Nat.ne_of_lt (Nat.lt_succ_self _)) (Nat.ne_of_lt (Nat.lt_succ_of_lt (Nat.lt_succ_self _))) (Nat.ne_of_lt (Nat.lt_succ_self _))
    · exact Heap.get?_push_of_some _ (Heap.get?_push_of_some _ (Heap.get?_push_size _ rfl))
    · refine Heap.get?_push_of_some _ ?_
      have := Heap.get?_push_size (hp.push (sitObj x t 0)) (o := { cls := .type "tuple", data := .seq #[.ref hp.objs.size] }) rfl
      rwa [z1] at this
    · have := Heap.get?_push_size ((hp.push (sitObj x t 0)).push { cls := .type "tuple", data := .seq #[.ref hp.objs.size] }) (o := mapObj (hp.objs.size + 1)) rfl
      rwa [Heap.size_push, z1] at this
end Mine
end
section
open PySem PySem.W PyProof.Rows
namespace Mine
local macro_rules | `(tactic| walk_at "RESTART") => `(tactic| skip)
theorem restart_RMap2 {M : Model} {A : Around} {E : Value → Shared → Prop} {s : Shared} {Q : Value → Shared → Prop} (h : Q .none s) : wpAny M A (pure Value.none) Q E s := by
  w_top off
  first
    | (walk1; fail "on")
    | exact wpAny_pure h
end Mine
end
section
open PySem PySem.W PySem.Calls PyProof.Rows PySem.Spec
open AutoSeq1 (wpAny_loadPart')
set_option maxRecDepth 100000
namespace Mine
section
variable {prog : Program} {w : World} {A : Around} {E : Value → Shared → Prop} {s : Shared}
theorem mp_call {x : Str} {t : Tok} {Q : Value → Shared → Prop} (hx : x.cps.all (· < 128) = true)
    (h : ∀ h' I T M, s.heap.StaysIn h' → h'.get? I = some (sitObj x t 0) → h'.get? T = some { cls := .type "tuple", data := .seq #[.ref I] } → h'.get? M = some (mapObj T) → s.heap.get? I = none → s.heap.get? T = none → s.heap.get? M = none → I ≠ T → I ≠ M → T ≠ M → Q (.ref M) { s with heap := h' }) :
    wpAny (model prog w) A (call (.type "map") [.builtin "ord", .str x t]) Q E s :=
  callType_new mp_called (by decide) (mp_typeCall _ _) (mp_newCall _ _) (fun obj => mp_ok obj _ _) mp_entry (mp_new x t hx) fun h' I T M st e1 e2 e3 n1 n2 n3 d1 d2 d3 => ⟨⟨_, e3, rfl⟩, h h' I T M st e1 e2 e3 n1 n2 n3 d1 d2 d3⟩
theorem mp_item {I T M : Addr} {x : Str} {t : Tok} {i c : Nat} {Q : Option Value → Shared → Prop} (hM : s.heap.get? M = some (mapObj T)) (hT : s.heap.get? T = some { cls := .type "tuple", data := .seq #[.ref I] })
    (hit : s.heap.IsStrIter I "str_ascii_iterator" x t i) (hx : x.cps[i]? = some c) (hIM : I ≠ M)
    (hQ : ∀ h' tk u, h'.IsStrIter I "str_ascii_iterator" x t (i + 1) → Heap.SameBut I s.heap h' → Q (some (.int c u)) { s with heap := h', toks := tk }) :
    wpAny (model prog w) A (pyNext (.ref M)) Q E s := by
  have tM : s.TypeIs (.ref M) "map" := ⟨_, hM, rfl⟩
  unfold pyNext
  refine wpAny_bind (wpAny_attempt (wpAny_callSpecial?_slot (name := Str.ofString "__next__") tM mp_next
    (wpAny_call_entry mp_next tM mp_nextEntry ?_ (mp_nextArgs _))))
  unfold Builtin.«map.__next__»
  refine wpAny_bind (wpAny_of_eq (a := (.ref M, [])) rfl ?_)
  refine wpAny_bind (wpAny_field hM rfl (x := .ref T) rfl ?_)
  refine wpAny_bind (wpAny_seqItems hT rfl ?_)
  dsimp only
  simp only [← Array.forIn_toList, List.forIn_cons, List.forIn_nil]
  refine wpAny_bind (wpAny_bind (wpAny_bind (wpAny_holding (wpAny_nextOf_ascii_item hit hx fun h' hit' sb => ?_))))
  have hM' : h'.get? M = some (mapObj T) := (sb.2 _ (Ne.symm hIM)).trans hM
  refine wpAny_pure (wpAny_pure ?_)
  refine wpAny_bind (wpAny_field hM' rfl (x := .builtin "ord") rfl ?_)
  refine wpAny_bind (wpAny_holding (P.ord_of_char ?_))
  refine wpAny_bind (wpAny_letGo ?_)
  exact wpAny_pure ⟨_, rfl, wpAny_pure (hQ _ _ _ hit' sb)⟩
theorem mp_end {I T M : Addr} {x : Str} {t : Tok} {i : Nat} {Q : Option Value → Shared → Prop} (hh : A.handled = none) (hM : s.heap.get? M = some (mapObj T)) (hT : s.heap.get? T = some { cls := .type "tuple", data := .seq #[.ref I] })
    (hit : s.heap.IsStrIter I "str_ascii_iterator" x t i) (hx : x.cps[i]? = none)
    (hQ : ∀ h', Heap.ExtBut I s.heap h' → Q none { s with heap := h' }) :
    wpAny (model prog w) A (pyNext (.ref M)) Q E s := by
  have tM : s.TypeIs (.ref M) "map" := ⟨_, hM, rfl⟩
  unfold pyNext
  refine wpAny_bind (wpAny_attempt (wpAny_callSpecial?_slot (name := Str.ofString "__next__") tM mp_next
    (wpAny_call_entry mp_next tM mp_nextEntry ?_ (mp_nextArgs _))))
  unfold Builtin.«map.__next__»
  refine wpAny_bind (wpAny_of_eq (a := (.ref M, [])) rfl ?_)
  refine wpAny_bind (wpAny_field hM rfl (x := .ref T) rfl ?_)
  refine wpAny_bind (wpAny_seqItems hT rfl ?_)
  dsimp only
  simp only [← Array.forIn_toList, List.forIn_cons, List.forIn_nil]
  refine wpAny_bind (wpAny_bind (wpAny_bind (wpAny_holding (wpAny_nextOf_ascii_end (by show A.handled = none; exact hh) hit hx fun h' e eb he => ?_))))
  refine wpAny_bind (wpAny_isInstance (T := "StopIteration") (b := true) he isSubtype_stop ?_)
  exact wpAny_pure (hQ _ eb)
theorem xr_entry : entryFor table "_operator.xor" = some Builtin.«_operator.xor» := entryFor_of_tree (by kernel_rfl)
theorem xr_args (a b : Value) : argsOk "_operator.xor" ⟨[a, b], []⟩ := by unfold argsOk; kernel_rfl
theorem xr_call {a b : Int} {t u : Tok} {Q : Value → Shared → Prop} (h : ∀ k v, Q (.int (Builtin.bitXor a b) v) { s with toks := k }) :
    wpAny (model prog w) A (call (.builtin "_operator.xor") [.int a t, .int b u]) Q E s := by
  refine call_function_tree (by decide +kernel) (by decide +kernel) xr_entry (xr_args _ _) ?_
  unfold Builtin.«_operator.xor»
  refine wpAny_bind (wpAny_of_eq (a := (.int a t, .int b u)) rfl ?_)
  refine wpAny_bind (xor_int ?_)
  exact wpAny_pure (h _ _)
theorem rd_loopEntry : entryFor table "_functools.reduce.loop" = some Builtin.«_functools.reduce.loop» := entryFor_of_tree (by kernel_rfl)
theorem rd_loopPlain : plainId "_functools.reduce.loop" = true := by decide +kernel
abbrev tup (xs : Array Value) : Obj := { cls := .type "tuple", data := .seq xs }
theorem rd_loop {x : Str} {t : Tok} {I T M P O : Addr} {p : Tok} {R : Result → Shared → Prop} (hIM : I ≠ M) (hIT : I ≠ T) (hIP : I ≠ P) (hIO : I ≠ O) (hPM : P ≠ M) (hPT : P ≠ T) (hPO : P ≠ O) (hh : A.handled = none) (acc : Nat → Nat) (hacc : ∀ (i c : Nat), x.cps[i]? = some c → Builtin.bitXor (acc i : Int) (c : Int) = (acc (i + 1) : Int)) :
    ∀ (k i : Nat) (s : Shared) (r : Tok) (a b : Value), x.cps.size - i = k → i ≤ x.cps.size → s.heap.get? M = some (mapObj T) → s.heap.get? T = some (tup #[.ref I]) → s.heap.IsStrIter I "str_ascii_iterator" x t i →
      IsPair s.heap P a b → s.heap.get? O = some (tup #[.builtin "_operator.xor", .ref M, .int 0 p]) →
      (∀ h' tk t', (∀ b o, b ≠ I → b ≠ P → s.heap.get? b = some o → h'.get? b = some o) → R (.ok (.ret (.int (acc x.cps.size) t'))) { s with heap := h', toks := tk }) →
      codeAny (model prog w) A (.builtin "_functools.reduce.loop" ⟨[.ref P, .ref M, .ref O, .int (acc i) r], []⟩) R s := by
  intro k
  induction k with
  | zero =>
    intro i s r a b hk hi hM hT hit hP hO hR
    have hin : i = x.cps.size := by omega
    subst hin
    refine codeAny_builtin rd_loopEntry ?_
    rw [Around.under_plainId rd_loopPlain _]
    unfold Builtin.«_functools.reduce.loop»
    dsimp only
    refine wpAny_bind (wpAny_seqItems hO rfl ?_)
    refine wpAny_bind (mp_end (by show A.handled = none; exact hh) hM hT hit (by simp) fun h' eb => ?_)
    dsimp only
    exact wpAny_pure (hR _ _ _ fun b o hb _ e => eb b o hb e)
  | succ k ih =>
    intro i s r a b hk hi hM hT hit hP hO hR
    have hlt : i < x.cps.size := by omega
    have hc : x.cps[i]? = some x.cps[i] := Array.getElem?_eq_getElem hlt
    refine codeAny_builtin rd_loopEntry ?_
    rw [Around.under_plainId rd_loopPlain _]
    unfold Builtin.«_functools.reduce.loop»
    dsimp only
    refine wpAny_bind (wpAny_seqItems hO rfl ?_)
    refine wpAny_bind (mp_item hM hT hit hc hIM fun h1 tk1 u hit1 sb1 => ?_)
    dsimp only
    have hP1 : IsPair h1 P a b := (sb1.2 _ (Ne.symm hIP)).trans hP
    refine wpAny_bind (wpAny_seqItems hP1 rfl ?_)
    refine wpAny_bind (wpAny_updateSeq_pair hP1 fun h2 hP2 sb2 => ?_)
    refine wpAny_bind (wpAny_letGo ?_)
    refine wpAny_bind (wpAny_updateSeq_pair hP2 fun h3 hP3 sb3 => ?_)
    refine wpAny_bind (wpAny_letGo ?_)
    refine wpAny_bind (xr_call fun k4 v4 => ?_)
    rw [hacc i _ hc]
    have keep : ∀ b o, b ≠ I → b ≠ P → s.heap.get? b = some o → h3.get? b = some o := fun b o n1 n2 e =>
      (sb3.2 _ n2).trans ((sb2.2 _ n2).trans ((sb1.2 _ n1).trans e))
    have hit3 : h3.IsStrIter I "str_ascii_iterator" x t (i + 1) := by
      obtain ⟨o, e, q⟩ := hit1
      exact ⟨o, (sb3.2 _ hIP).trans ((sb2.2 _ hIP).trans e), q⟩
    refine wpAny_pure ⟨plainId_quiet rd_loopPlain _, ih (i + 1) _ v4 _ _ (by omega) (by omega) (keep _ _ (Ne.symm hIM) (Ne.symm hPM) hM) (keep _ _ (Ne.symm hIT) (Ne.symm hPT) hT) hit3 hP3 (keep _ _ (Ne.symm hIO) (Ne.symm hPO) hO) fun h' tk t' kp => ?_⟩
    exact hR h' tk t' fun b o n1 n2 e => kp b o n1 n2 (keep b o n1 n2 e)
end
end Mine
end
section
open PySem PySem.W PyProof.Rows
namespace Mine
local macro_rules | `(tactic| walk_at "RESTART") => `(tactic| skip)
theorem restart_Red {M : Model} {A : Around} {E : Value → Shared → Prop} {s : Shared} {Q : Value → Shared → Prop} (h : Q .none s) : wpAny M A (pure Value.none) Q E s := by
  w_top off
  first
    | (walk1; fail "on")
    | exact wpAny_pure h
end Mine
end
section
open PySem PySem.W PySem.Calls PyProof.Rows PySem.Spec
set_option maxRecDepth 100000
namespace Mine
section
variable {prog : Program} {w : World} {A : Around} {E : Value → Shared → Prop} {s : Shared}
theorem mp_iterEntry : entryFor table "map.__iter__" = some Builtin.«dict_keyiterator.__iter__» :=
  entryFor_alias (id' := "dict_keyiterator.__iter__") (by kernel_rfl) rfl (by decide +kernel) (by kernel_rfl)
theorem mp_pyIter {M T : Addr} {Q : Value → Shared → Prop} (hM : s.heap.get? M = some (mapObj T)) (h : Q (.ref M) s) :
    wpAny (model prog w) A (pyIter (.ref M)) Q E s := by
  have tM : s.TypeIs (.ref M) "map" := ⟨_, hM, rfl⟩
  refine wpAny_pyIter_slot tM mp_iter (wpAny_call_entry mp_iter tM mp_iterEntry ?_ (mp_iterArgs _))
  show wpAny _ _ (ret (.ref M)) _ _ s
  exact wpAny_pure ⟨_, rfl, "map", _, tM, mp_next.lookup, h⟩
theorem rd_entry : entryFor table "_functools.reduce" = some Builtin.«_functools.reduce» := entryFor_of_tree (by kernel_rfl)
theorem rd_args (a b c : Value) : argsOk "_functools.reduce" ⟨[a, b, c], []⟩ := by unfold argsOk; kernel_rfl
theorem rd_call {x : Str} {t : Tok} {I T M : Addr} {v : Tok} {Q : Value → Shared → Prop} (hIM : I ≠ M) (hIT : I ≠ T) (hh : A.handled = none) (acc : Nat → Nat) (h0 : acc 0 = 0) (hacc : ∀ (i c : Nat), x.cps[i]? = some c → Builtin.bitXor (acc i : Int) (c : Int) = (acc (i + 1) : Int))
    (hM : s.heap.get? M = some (mapObj T)) (hT : s.heap.get? T = some (tup #[.ref I])) (hI : s.heap.get? I = some (sitObj x t 0))
    (hQ : ∀ h' tk t', (∀ b o, b ≠ I → s.heap.get? b = some o → h'.get? b = some o) → Q (.int (acc x.cps.size) t') { s with heap := h', toks := tk }) :
    wpAny (model prog w) A (call (.builtin "_functools.reduce") [.builtin "_operator.xor", .ref M, .int 0 v]) Q E s := by
  obtain ⟨hp, g, d, tk, os⟩ := s
  refine call_function_tree (by decide +kernel) (by decide +kernel) rd_entry (rd_args _ _ _) ?_
  unfold Builtin.«_functools.reduce»
  refine wpAny_bind (wpAny_of_eq (a := [.builtin "_operator.xor", .ref M, .int 0 v]) rfl ?_)
  refine wpAny_bind (wpAny_tryCatch (mp_pyIter hM ?_))
  refine wpAny_bind (wpAny_holding (wpAny_newTuple ?_ (by size_fits)))
  refine wpAny_bind (wpAny_holding (wpAny_newTuple ?_ (by size_fits)))
  dsimp only at hM hT hI ⊢
  have z1 : (hp.push (tup #[rawInt 0, rawInt 0])).objs.size = hp.objs.size + 1 := Heap.size_push ..
  have lM := Heap.lt_size hM
  have lT := Heap.lt_size hT
  have lI := Heap.lt_size hI
  refine wpAny_pure ⟨plainId_quiet rd_loopPlain _, ?_⟩
  have e0 : (Value.int 0 v) = .int (acc 0 : Nat) v := by rw [h0]; rfl
  simp only [List.drop_succ_cons, List.drop_zero, e0, List.cons_append, List.nil_append]
  have k1 : I ≠ hp.objs.size := Nat.ne_of_lt lI
  have k2 : I ≠ (hp.push (tup #[rawInt 0, rawInt 0])).objs.size := by rw [z1]; exact Nat.ne_of_lt (Nat.lt_succ_of_lt lI)
  have k3 : hp.objs.size ≠ M := Nat.ne_of_gt lM
  have k4 : hp.objs.size ≠ T := Nat.ne_of_gt lT
  have k5 : hp.objs.size ≠ (hp.push (tup #[rawInt 0, rawInt 0])).objs.size := by rw [z1]; exact Nat.ne_of_lt (Nat.lt_succ_self _)
  refine rd_loop (t := t) (P := hp.objs.size) (O := (hp.push (tup #[rawInt 0, rawInt 0])).objs.size) (p := v) hIM hIT k1 k2 k3 k4 k5 (by show A.handled = none; exact hh) acc hacc _ 0 _ v (rawInt 0) (rawInt 0) rfl (Nat.zero_le _) ?_ ?_ ?_ ?_ ?_ ?_
  · exact Heap.get?_push_of_some _ (Heap.get?_push_of_some _ hM)
  · exact Heap.get?_push_of_some _ (Heap.get?_push_of_some _ hT)
  · exact ⟨_, Heap.get?_push_of_some _ (Heap.get?_push_of_some _ hI), rfl, rfl⟩
  · exact Heap.get?_push_of_some _ (Heap.get?_push_size hp rfl)
  · have := Heap.get?_push_size (hp.push (tup #[rawInt 0, rawInt 0])) (o := tup #[.builtin "_operator.xor", .ref M, .int 0 v]) rfl
    rw [h0]
    exact this
  · intro h' tk' t' kp
    exact hQ h' tk' t' fun b o n e => kp b o n (Nat.ne_of_lt (Heap.lt_size e)) (Heap.get?_push_of_some _ (Heap.get?_push_of_some _ e))
end
end Mine
end
section
open PySem PySem.W PyProof.Rows
namespace Mine
local macro_rules | `(tactic| walk_at "RESTART") => `(tactic| skip)
theorem restart_Check {M : Model} {A : Around} {E : Value → Shared → Prop} {s : Shared} {Q : Value → Shared → Prop} (h : Q .none s) : wpAny M A (pure Value.none) Q E s := by
  w_top off
  first
    | (walk1; fail "on")
    | exact wpAny_pure h
end Mine
end
section
open PySem PySem.W PySem.Calls PyProof.Rows PySem.Spec
set_option maxRecDepth 100000
namespace Mine
def accOf (l : List Nat) (i : Nat) : Nat := (l.take i).foldl (fun v c => v ^^^ c) 0
theorem accOf_zero (l : List Nat) : accOf l 0 = 0 := rfl
theorem accOf_all (l : List Nat) : accOf l l.length = chk l := by unfold accOf chk; rw [List.take_length]
theorem bitXor_nat (a b : Nat) (ha : a < 128) (hb : b < 128) : Builtin.bitXor (a : Int) (b : Int) = ((a ^^^ b : Nat) : Int) := by
  rw [bitXor_and, ← xor_plus a b ha hb, bitAnd_pp (Int.natCast_nonneg a) (Int.natCast_nonneg b), Int.toNat_natCast, Int.toNat_natCast]
theorem accOf_succ (l : List Nat) (hl : ∀ c ∈ l, c < 128) (i c : Nat) (h : l[i]? = some c) : Builtin.bitXor (accOf l i : Int) (c : Int) = (accOf l (i + 1) : Int) := by
  rw [bitXor_nat (accOf l i) c (chk_lt (l.take i) 0 (by decide) fun d hd => hl d (List.mem_of_mem_take hd)) (hl c (List.mem_of_getElem? h))]
  unfold accOf
  rw [List.take_add_one, h]
  simp [List.foldl_append]
theorem body_ascii {y : List Nat} (hl : ∀ c ∈ bodyL y, c < 128) : (bodyS y).cps.all (· < 128) = true := by
  unfold bodyS S
  simpa using hl
theorem map_at {prog : Program} {w : World} {A : Around} {E : Value → Shared → Prop} {s : Shared} {x : Str} {t : Tok} {Q : Value → Shared → Prop} {h₀ : Heap} {L : Addr} {m : Str → Option Value} {news : List (Addr × Obj)}
    (F : Fr h₀ L s.heap m) (N : News h₀ L s.heap news) (hx : x.cps.all (· < 128) = true)
    (h : ∀ h' I T M, Fr h₀ L h' m → News h₀ L h' news → h'.get? I = some (sitObj x t 0) → h'.get? T = some (tup #[.ref I]) → h'.get? M = some (mapObj T) → h₀.get? I = none → I ≠ L → I ≠ T → I ≠ M → Q (.ref M) { s with heap := h' }) :
    wpAny (model prog w) A (call (.type "map") [.builtin "ord", .str x t]) Q E s :=
  mp_call hx fun h' I T M st e1 e2 e3 n1 n2 n3 d1 d2 d3 => h h' I T M (by
    obtain ⟨oL, es, ep, hL, hLr⟩ := F.ns
    exact ⟨⟨oL, es, ep, st _ _ hL, hLr⟩, fun b o e => st b o (F.keep b o e), F.above⟩) (fun p hp => ⟨st _ _ (N p hp).1, (N p hp).2⟩) e1 e2 e3 (by
      cases q : h₀.get? I with
      | none => rfl
      | some o => rw [F.keep _ _ q] at n1; cases n1) (fun e => by
        obtain ⟨oL, _, _, hL, _⟩ := F.ns
        rw [e, hL] at n1; cases n1) d1 d2
theorem red_at {prog : Program} {w : World} {A : Around} {E : Value → Shared → Prop} {s : Shared} {y : List Nat} {t v : Tok} {I T M : Addr} {Q : Value → Shared → Prop} {h₀ : Heap} {L : Addr} {m : Str → Option Value}
    (hl : ∀ c ∈ bodyL y, c < 128) (hh : A.handled = none) (F : Fr h₀ L s.heap m) (hI : s.heap.get? I = some (sitObj (bodyS y) t 0)) (hT : s.heap.get? T = some (tup #[.ref I])) (hM : s.heap.get? M = some (mapObj T)) (hz : h₀.get? I = none) (hIL : I ≠ L) (hIT : I ≠ T) (hIM : I ≠ M)
    (h : ∀ h' tk t', Fr h₀ L h' m → Q (.int (chk (bodyL y)) t') { s with heap := h', toks := tk }) :
    wpAny (model prog w) A (call (.builtin "_functools.reduce") [.builtin "_operator.xor", .ref M, .int 0 v]) Q E s := by
  have hsz : (bodyS y).cps.size = (bodyL y).length := by unfold bodyS; exact S_len _
  refine rd_call hIM hIT hh (accOf (bodyL y)) (accOf_zero _) (fun i c hc => accOf_succ _ hl i c (by
    unfold bodyS S at hc
    simpa using hc)) hM hT hI fun h' tk t' kp => ?_
  rw [hsz, accOf_all]
  refine h h' tk t' ?_
  obtain ⟨oL, es, ep, hL, hLr⟩ := F.ns
  exact ⟨⟨oL, es, ep, kp _ _ (Ne.symm hIL) hL, hLr⟩, fun b o e => kp b o (fun q => by rw [q, hz] at e; cases e) (F.keep b o e), F.above⟩
local macro_rules | `(tactic| walk_at "call type:map") => `(tactic| (k_here; (with_reducible show wpAny _ _ (call (Value.type "map") [Value.builtin "ord", Value.str (bodyS _) _]) _ _ _); (with_reducible rename Fr _ _ _ _ => F9); (with_reducible rename News _ _ _ _ => N9); k_dflt (refine' map_at F9 N9 (by assumption) ?_); intro h9 I9 T9 M9 F9 N9 mpI9 mpT9 mpM9 mpz9 mpL9 mpd9 mpe9; (try k_sweep)))
local macro_rules | `(tactic| walk_at "call builtin:_functools.reduce") => `(tactic| (k_here; (with_reducible show wpAny _ _ (call (Value.builtin "_functools.reduce") [Value.builtin "_operator.xor", Value.ref _, Value.int 0 _]) _ _ _); (with_reducible rename Fr _ _ _ _ => F9); k_dflt (refine' red_at (y := _) (by assumption) ?hh F9 (by assumption) (by assumption) (by assumption) (by assumption) (by assumption) (by assumption) (by assumption) ?_; (case hh => exact rfl)); intro h9 k9 t9 F9))
set_option maxHeartbeats 400000 in
theorem checksum_ok (w : World) (y : List Nat) (t : Tok) (hl : ∀ c ∈ bodyL y, c < 128) : Ctr w 3 240 [.str (bodyS y) t] (fun _ => True) (fun new v => new = [] ∧ ∃ u, v = .int (chk (bodyL y)) u) := by
  unfold Ctr
  have hy := body_ascii hl
  k_fill
  intro mean mg mb dp un gd cn cs a ccd cl outer A₀ base h₀ L m s Q E B X T F hk hd hu hp hret
  refine wpAny_call ?_
  refine' enter ?k1 ?k2 ?k3 ?k4 ?kA ?kF ?kK ?k6 ?k7 ?k8 ?k9 ?kB ?_ ?c2 ?c3 ?c4 ?c5
  case kA => exact rfl
  case kF => exact rfl
  case kK => assumption
  case k1 => k_asm
  case k2 => k_asm
  case k3 => k_asm
  case k4 => k_asm
  case k6 => k_is
  case k7 => k_is
  case k8 => ktr_room
  case k9 => exact BindsTo.of_eq rfl
  case kB => exact locs rfl
  case c2 => exact rfl
  case c3 => exact rfl
  case c4 => exact rfl
  case c5 => decide
  intro L' h₁ hL F' N' B' X' T'
  dsimp only
  k_steps
  exact hret _ _ _ [] (Fr.keep (by assumption)) News.nil ⟨rfl, _, rfl⟩
end Mine
end
section
open PySem PySem.W PyProof.Rows
namespace Mine
local macro_rules | `(tactic| walk_at "RESTART") => `(tactic| skip)
theorem restart_Bwc {M : Model} {A : Around} {E : Value → Shared → Prop} {s : Shared} {Q : Value → Shared → Prop} (h : Q .none s) : wpAny M A (pure Value.none) Q E s := by
  w_top off
  first
    | (walk1; fail "on")
    | exact wpAny_pure h
end Mine
end
section
open PySem PySem.W PySem.Calls PyProof.Rows PySem.Spec
set_option maxRecDepth 100000
namespace Mine
theorem mem_re {α : Type} {a b c d p : α} (h : p ∈ [a, b, c]) : p ∈ [c, a, b, d] := by
  simp only [List.mem_cons, List.not_mem_nil, or_false] at h ⊢
  rcases h with h | h | h <;> simp [h]
set_option maxHeartbeats 1000000 in
theorem bwc_new {w : World} {mean : ExcName → Option Value} {mg mb : Str → Option Value} {dp un : Nat} {gd : Option (List Code)} {cn : Str} {cs : Scope} {a : Addr} {ccd : Value} {cl : List (Str × Addr)} {outer : List Env} {A₀ : Around} {base h₀ : Heap} {L : Addr} {m : Str → Option Value} {s : Shared} {Q E : Value → Shared → Prop} {dl : Addr} {x y z g b : Str} {t1 t2 t3 t4 t5 : Tok}
    : ∀ (B : Below A₀ base outer h₀) (X : (hd.heap_39 w.params).In h₀) (T : Top hd.view_39 (looseW hd.view_39 [Str.ofString "_tuplegetter", Str.ofString "Time", Str.ofString "NMEASentence", Str.ofString "BWC"]) mean mg mb h₀) (F : Fr h₀ L s.heap m) (N : News h₀ L s.heap [(dl, listOf #[.str x t1, .str y t2, .str z t3] 0)])
    (hk : cs.kind = .function) (hd' : dp + 8 < recursionLimit) (hu : un + 10 * 8 < cLine)
    (hret : ∀ X DX DL h' tk es n c, Fr h₀ L h' m → News h₀ L h' [(X, instObj 396 DX), (DX, dictOf es n), (DL, listOf #[.str x t1, .str y t2, .str z t3] c)] → getL "data" es = some (some (.ref DL)) → getL "timestamp" es = some none → Q (.ref X) { s with heap := h', toks := tk }),
    wpAny (model PySem.Challenge.rw_ez0286_01.row.prog w) (ktrTop dp un gd cn cs L a ccd cl outer) (call (.ref 396) [.str g t4, .str b t5, .ref dl]) Q E s := by
  k_fill
  intro B X T F N hk hd' hu hret
  refine' call_cls (K := hd.heap_39 w.params) ?k1 ?k2 ?k3 ?k4 ?k5 ?k6 ?_
  case k1 => k_asm
  case k2 => k_asm
  case k3 => k_asm
  case k4 => k_is
  case k5 => k_is
  case k6 => k_is
  intro x' d' h' F' N' l1 l2; (try k_lt l1); (try k_lt2 l2); (try k_sweep)
  refine' code_def ?k1 ?k2 ?k3 ?k4 ?k5 ?kA ?kF ?kK ?k6 ?k7 ?k8 ?k9 ?kB ?_ ?c2 ?c3 ?c4 ?c5
  case kA => exact rfl
  case kF => exact rfl
  case kK => assumption
  case k1 => exact B
  case k2 => exact F'
  case k3 => exact X
  case k4 => exact N'
  case k5 => exact T
  case k6 => k_is
  case k7 => k_is
  case k8 => ktr_room
  case k9 => exact BindsTo.of_eq rfl
  case kB => exact locs rfl
  case c2 => exact rfl
  case c3 => exact rfl
  case c4 => exact rfl
  case c5 => decide
  intro g9 L9 h9 FG9 F9 N9 B9 X9 T9
  dsimp only
  k_steps
  with_reducible rename News h₀ L _ _ => N5
  with_reducible rename Fr h₀ L _ _ => F5
  exact hret _ _ _ _ _ _ _ _ F5 (fun p hp => N5 p (mem_re hp)) rfl rfl
end Mine
end
section
open PySem PySem.W PyProof.Rows
namespace Mine
local macro_rules | `(tactic| walk_at "RESTART") => `(tactic| skip)
theorem restart_Parse {M : Model} {A : Around} {E : Value → Shared → Prop} {s : Shared} {Q : Value → Shared → Prop} (h : Q .none s) : wpAny M A (pure Value.none) Q E s := by
  w_top off
  first
    | (walk1; fail "on")
    | exact wpAny_pure h
end Mine
end
section
open PySem PySem.W PySem.Calls PyProof.Rows PySem.Spec
set_option maxRecDepth 100000
namespace Mine
theorem bodyL_lt {y : List Nat} (h : ∀ c ∈ y, c < 128) : ∀ c ∈ bodyL y, c < 128 := by
  intro c hc
  simp only [bodyL, restL, List.mem_cons, List.mem_append, List.not_mem_nil, or_false] at hc
  rcases hc with rfl | rfl | rfl | rfl | rfl | rfl | hc | rfl | hc | rfl | rfl <;> first | omega | exact h _ hc
def KindsPre (w : World) (kd : Addr) (h : Heap) : Prop := (kd == sysModules) = false ∧ ∃ o kvs, h.get? kd = some o ∧ o.IsDictOf (PySem.strKind PySem.Challenge.rw_ez0286_01.row.prog w) kvs ∧ valueAt kvs (Str.ofString "BWC") = some (.ref 396)
theorem kinds_method {w : World} {A : Around} {E : Value → Shared → Prop} {s : Shared} {h₀ : Heap} {L kd : Addr} {m : Str → Option Value} {pl : Sem Bool} {Q : Value × List Value → Shared → Prop} (F : Fr h₀ L s.heap m) (P : KindsPre w kd h₀) (h : Q (.builtin "dict.get", [.ref kd]) s) : wpAny (model PySem.Challenge.rw_ez0286_01.row.prog w) A (getMethod (.ref kd) "get" pl) Q E s := by
  obtain ⟨_, o, kvs, e, hd, _⟩ := P
  have hD : s.heap.DictOf (PySem.strKind PySem.Challenge.rw_ez0286_01.row.prog w) kd kvs := Heap.dictOf_iff.mpr ⟨o, F.keep _ _ e, hd⟩
  exact getMethod_builtin hD.typeIs PySem.F.plainAttrs_dict PySem.F.slot_dict_get PySem.F.type_dict_get hD.mapOf.noDict h
theorem kinds_get {w : World} {A : Around} {E : Value → Shared → Prop} {s : Shared} {h₀ : Heap} {L kd : Addr} {m : Str → Option Value} {t : Tok} {Q : Value → Shared → Prop} (F : Fr h₀ L s.heap m) (P : KindsPre w kd h₀) (h : Q (.ref 396) { s with toks := s.toks + 1 }) : wpAny (model PySem.Challenge.rw_ez0286_01.row.prog w) A (call (.builtin "dict.get") [.ref kd, .str (Str.ofString "BWC") t]) Q E s := by
  obtain ⟨lo, o, kvs, e, hd, hv⟩ := P
  have hD : s.heap.DictOf (PySem.strKind PySem.Challenge.rw_ez0286_01.row.prog w) kd kvs := Heap.dictOf_iff.mpr ⟨o, F.keep _ _ e, hd⟩
  exact call_meetsIn PySem.F.slot_dict_get hD.typeIs PySem.F.entry_dict_get (PySem.F.args_dict_get_2 _ _) (meets_dict_get (PySem.strKind _ _) kd (strKind_is _ _ _ _) lo) ⟨_, hD.mapOf, by rw [hv]; exact h⟩
theorem ne_same {prog : Program} {w : World} {A : Around} {E : Value → Shared → Prop} {s : Shared} {a : Int} {t u : Tok} {Q : Value → Shared → Prop} (h : Q (.bool false) s) : wpAny (model prog w) A (compareOp .NotEq (.int a t) (.int a u)) Q E s :=
  P.ne_int (by rw [bne_self_eq_false]; exact h)
theorem truthy_cls {prog : Program} {w : World} {A : Around} {E : Value → Shared → Prop} {s : Shared} {a : Addr} {o : Obj} {Q : Bool → Shared → Prop} (ho : s.heap.get? a = some o) (hc : o.cls = .type "type") (h : Q true s) : wpAny (model prog w) A (truthy (.ref a)) Q E s := by
  have tM : s.TypeIs (.ref a) "type" := ⟨o, ho, hc⟩
  unfold truthy
  refine wpAny_bind (m := callSpecial? (.ref a) (Str.ofString "__bool__")) (wpAny_callSpecial?_none tM (by rw [typeLookup_type, builtinLookup_eq_fast]; kernel_rfl) ?_)
  exact wpAny_bind (wpAny_specialOf tM (r := none) (by rw [typeLookup_type, builtinLookup_eq_fast]; kernel_rfl) (wpAny_pure h))
theorem truthy_tail {prog : Program} {w : World} {A : Around} {E : Value → Shared → Prop} {s : Shared} {k : Nat} {t : Tok} {Q : Bool → Shared → Prop} (h : Q true { s with toks := s.toks + 1 + 1 }) : wpAny (model prog w) A (truthy (.str (tailS k) t)) Q E s :=
  PySem.P.truthy_str (by rw [pu_tailLen]; decide) (by rw [pu_tailLen]; exact h)
def BwcPost (y : List Nat) (new : List (Addr × Obj)) (v : Value) : Prop :=
  ∃ X DX DL es n c t1 t2 t3, v = .ref X ∧ new = [(X, instObj 396 DX), (DX, dictOf es n), (DL, listOf #[.str (textS y) t1, .str (Str.ofString "4237.14") t2, .str (Str.ofString "N") t3] c)] ∧ getL "data" es = some (some (.ref DL)) ∧ getL "timestamp" es = some none
theorem mem_two {α : Type} {a b p : α} {r : List α} (h : p ∈ [b]) : p ∈ a :: b :: r := by
  rw [List.mem_singleton] at h
  subst h
  exact List.mem_cons_of_mem _ (List.mem_cons_self ..)
theorem splitS {prog : Program} {w : World} {A : Around} {E : Value → Shared → Prop} {s : Shared} {h₀ : Heap} {L : Addr} {m : Str → Option Value} {news : List (Addr × Obj)} {Q : Value → Shared → Prop} {y : List Nat} {t u : Tok}
    (hF : Fr h₀ L s.heap m) (hN : News h₀ L s.heap news) (hy : 44 ∉ y) (hl : y.length ≤ 40)
    (h : ∀ t1 t2 t3 h' k, Fr h₀ L h' m → News h₀ L h' ((s.heap.objs.size, listOf #[.str (textS y) t1, .str (Str.ofString "4237.14") t2, .str (Str.ofString "N") t3] 0) :: news) → Q (.ref s.heap.objs.size) { s with heap := h', toks := k }) :
    wpAny (model prog w) A (call (.builtin "str.split") [.str (restS y) t, .str (Str.ofString ",") u]) Q E s := by
  refine splitN1 hF hN (by rfl) (fun l h' k e F N => ?_) (by rw [pu_restLen, sizeLine_eq]; omega)
  rw [pu_split hy] at e
  match l, e with
  | [(a, t1), (b, t2), (c, t3)], e =>
    simp only [List.map_cons, List.map_nil, List.cons.injEq, and_true] at e
    obtain ⟨rfl, rfl, rfl⟩ := e
    exact h t1 t2 t3 h' k F N
theorem sliceIs_ns {prog : Program} {w : World} {A : Around} {E : Value → Shared → Prop} {s : Shared} {value slice : Expr} {x z : Str} {t : Tok} {h₀ : Heap} {L : Addr} {m : Str → Option Value} {news : List (Addr × Obj)} {Q : Value → Shared → Prop} {j : Int} {uj : Tok} (hF : Fr h₀ L s.heap m) (hN : News h₀ L s.heap news) (e : Txt.slice x none (some j) = z)
    (h : ∀ h' t' k, Fr h₀ L h' m → News h₀ L h' news → Q (.str z t') { s with heap := h', toks := k }) (hs : ∀ (x : Str) (t : Tok) (o : Addr), subscripted slice false (.str x t) (.ref o) = operate [.ref o, .str x t] (getItem (.str x t) (.ref o)))
    (ht : ∀ (x : Str) (t : Tok) r, letTemporaryGo value (.str x t) r = pure ()) (hsz : x.length ≤ sizeLine) :
    wpAny (model prog w) A (subscriptTail value slice (.str x t) (.ref s.heap.objs.size)) Q E { s with heap := s.heap.push { cls := .type "slice", data := .fields #[.none, .int j uj, .none] } } := by
  subst e
  exact slice_strN_ns hF hN h (hs _ _ _) (ht _ _) hsz
theorem sliceIs_sn {prog : Program} {w : World} {A : Around} {E : Value → Shared → Prop} {s : Shared} {value slice : Expr} {x z : Str} {t : Tok} {h₀ : Heap} {L : Addr} {m : Str → Option Value} {news : List (Addr × Obj)} {Q : Value → Shared → Prop} {i : Int} {ui : Tok} (hF : Fr h₀ L s.heap m) (hN : News h₀ L s.heap news) (e : Txt.slice x (some i) none = z)
    (h : ∀ h' t' k, Fr h₀ L h' m → News h₀ L h' news → Q (.str z t') { s with heap := h', toks := k }) (hs : ∀ (x : Str) (t : Tok) (o : Addr), subscripted slice false (.str x t) (.ref o) = operate [.ref o, .str x t] (getItem (.str x t) (.ref o)))
    (ht : ∀ (x : Str) (t : Tok) r, letTemporaryGo value (.str x t) r = pure ()) (hsz : x.length ≤ sizeLine) :
    wpAny (model prog w) A (subscriptTail value slice (.str x t) (.ref s.heap.objs.size)) Q E { s with heap := s.heap.push { cls := .type "slice", data := .fields #[.int i ui, .none, .none] } } := by
  subst e
  exact slice_strN_sn hF hN h (hs _ _ _) (ht _ _) hsz
theorem sliceIs_ss {prog : Program} {w : World} {A : Around} {E : Value → Shared → Prop} {s : Shared} {value slice : Expr} {x z : Str} {t : Tok} {h₀ : Heap} {L : Addr} {m : Str → Option Value} {news : List (Addr × Obj)} {Q : Value → Shared → Prop} {i j : Int} {ui uj : Tok} (hF : Fr h₀ L s.heap m) (hN : News h₀ L s.heap news) (e : Txt.slice x (some i) (some j) = z)
    (h : ∀ h' t' k, Fr h₀ L h' m → News h₀ L h' news → Q (.str z t') { s with heap := h', toks := k }) (hs : ∀ (x : Str) (t : Tok) (o : Addr), subscripted slice false (.str x t) (.ref o) = operate [.ref o, .str x t] (getItem (.str x t) (.ref o)))
    (ht : ∀ (x : Str) (t : Tok) r, letTemporaryGo value (.str x t) r = pure ()) (hsz : x.length ≤ sizeLine) :
    wpAny (model prog w) A (subscriptTail value slice (.str x t) (.ref s.heap.objs.size)) Q E { s with heap := s.heap.push { cls := .type "slice", data := .fields #[.int i ui, .int j uj, .none] } } := by
  subst e
  exact slice_strN_ss hF hN h (hs _ _ _) (ht _ _) hsz
local macro_rules | `(tactic| walk_at "subscriptTail Name Slice str ref") => `(tactic| (k_here; (with_reducible show wpAny _ _ (subscriptTail _ (Expr.Slice none (some _) none _) (Value.str _ _) (Value.ref _)) _ _ _); (with_reducible rename Fr _ _ _ _ => F9); (with_reducible rename News _ _ _ _ => N9); k_dflt (refine' sliceIs_ns (s := ⟨_, _, _, _, _⟩) F9 N9 ?e9 ?_ ?s9 ?t9 ?hsz; (case s9 => (intro _ _ _; with_unfolding_all rfl)); (case t9 => (intro _ _ _; with_unfolding_all rfl)); (case e9 => with_reducible first | exact pu_a1 | exact pu_b1 | exact pu_b4 | exact pu_b5 | exact pu_b6 | exact pu_t2 _); (case hsz => (simp only [pu_dollLen, pu_bodyLen, pu_tailLen]; rw [sizeLine_eq]; omega))); intro h9 t9 k9 F9 N9; (try k_sweep)))
local macro_rules | `(tactic| walk_at "subscriptTail Name Slice str ref") => `(tactic| (k_here; (with_reducible show wpAny _ _ (subscriptTail _ (Expr.Slice (some _) none none _) (Value.str _ _) (Value.ref _)) _ _ _); (with_reducible rename Fr _ _ _ _ => F9); (with_reducible rename News _ _ _ _ => N9); k_dflt (refine' sliceIs_sn (s := ⟨_, _, _, _, _⟩) F9 N9 ?e9 ?_ ?s9 ?t9 ?hsz; (case s9 => (intro _ _ _; with_unfolding_all rfl)); (case t9 => (intro _ _ _; with_unfolding_all rfl)); (case e9 => with_reducible first | exact pu_a2 | exact pu_b6n | exact pu_t2n _); (case hsz => (simp only [pu_dollLen, pu_bodyLen, pu_tailLen]; rw [sizeLine_eq]; omega))); intro h9 t9 k9 F9 N9; (try k_sweep)))
local macro_rules | `(tactic| walk_at "subscriptTail Name Slice str ref") => `(tactic| (k_here; (with_reducible show wpAny _ _ (subscriptTail _ (Expr.Slice (some _) (some _) none _) (Value.str _ _) (Value.ref _)) _ _ _); (with_reducible rename Fr _ _ _ _ => F9); (with_reducible rename News _ _ _ _ => N9); k_dflt (refine' sliceIs_ss (s := ⟨_, _, _, _, _⟩) F9 N9 ?e9 ?_ ?s9 ?t9 ?hsz; (case s9 => (intro _ _ _; with_unfolding_all rfl)); (case t9 => (intro _ _ _; with_unfolding_all rfl)); (case e9 => with_reducible first | exact pu_b46 | exact pu_b56); (case hsz => (simp only [pu_dollLen, pu_bodyLen, pu_tailLen]; rw [sizeLine_eq]; omega))); intro h9 t9 k9 F9 N9; (try k_sweep)))
local macro_rules | `(tactic| walk_at "call builtin:str.lstrip") => `(tactic| (k_here; (with_reducible show wpAny _ _ (call (Value.builtin "str.lstrip") [Value.str _ _]) _ _ _); (refine' SCL.lstrip (hsz := ?hsz) ?_; (case hsz => (rw [pu_lineLen, sizeLine_eq]; omega))); intro t9 k9 hl9; clear hl9; (simp only [pu_lstrip])))
local macro_rules | `(tactic| walk_at "call builtin:str.partition") => `(tactic| (k_here; (with_reducible show wpAny _ _ (call (Value.builtin "str.partition") [Value.str _ _, _]) _ _ _); (with_reducible rename Fr _ _ _ _ => F9); (with_reducible rename News _ _ _ _ => N9); (refine' partitionN (hsz := ?hsz) F9 N9 (by rfl) ?_; (case hsz => (rw [pu_lineLen, sizeLine_eq]; omega))); intro ta9 tb9 tc9 h9 k9 F9 N9; (rw [pu_part (by assumption)] at N9); (dsimp only at N9)))
local macro_rules | `(tactic| walk_at "call builtin:str.strip") => `(tactic| (k_here; (with_reducible show wpAny _ _ (call (Value.builtin "str.strip") [Value.str _ _, _]) _ _ _); (refine' SCL.stripChars (hsz := ?hsz) ?_; (case hsz => (rw [pu_tailLen, sizeLine_eq]; omega))); intro t9 k9 hl9; clear hl9; (rw [pu_strip _ (by assumption)])))
local macro_rules | `(tactic| walk_at "call ref") => `(tactic| (k_here; (with_reducible show wpAny _ _ (call (Value.ref 225) [Value.str _ _, Value.int 4 _]) _ _ _); k_dflt (refine' (word4_ok _ _ _).use (by assumption) (by assumption) (by assumption) (by assumption) (by assumption) ?hk ?hd ?hu trivial ?_; (case hk => exact rfl); (case hd => ktr_room); (case hu => ktr_units); k_whole); intro v9 h9 tk9 new9 F9 N9 _ _ hp9; obtain ⟨e9, f9⟩ := hp9; subst e9; subst f9; simp only [List.nil_append] at N9; (try k_sweep)))
local macro_rules | `(tactic| walk_at "call ref") => `(tactic| (k_here; (with_reducible show wpAny _ _ (call (Value.ref 225) [Value.str _ _, Value.int 5 _]) _ _ _); k_dflt (refine' (word5_ok _ _ _).use (by assumption) (by assumption) (by assumption) (by assumption) (by assumption) ?hk ?hd ?hu trivial ?_; (case hk => exact rfl); (case hd => ktr_room); (case hu => ktr_units); k_whole); intro v9 h9 tk9 new9 F9 N9 _ _ hp9; obtain ⟨e9, f9⟩ := hp9; subst e9; subst f9; simp only [List.nil_append] at N9; (try k_sweep)))
local macro_rules | `(tactic| walk_at "call builtin:str.split") => `(tactic| (k_here; (with_reducible show wpAny _ _ (call (Value.builtin "str.split") [Value.str (restS _) _, _]) _ _ _); (with_reducible rename Fr _ _ _ _ => F9); (with_reducible rename News _ _ _ _ => N9); k_dflt (refine' splitS F9 N9 (by assumption) (by assumption) ?_); intro t1 t2 t3 h9 k9 F9 N9; (try k_sweep)))
local macro_rules | `(tactic| walk_at "call type:int") => `(tactic| (k_here; (with_reducible show wpAny _ _ (call (Value.type "int") [Value.str (tailS _) _, Value.int 16 _]) _ _ _); (refine' hex_call (by assumption) ?_)))
local macro_rules | `(tactic| walk_at "call ref") => `(tactic| (k_here; (with_reducible show wpAny _ _ (call (Value.ref 240) [Value.str (bodyS _) _]) _ _ _); k_dflt (refine' (checksum_ok _ _ _ (by assumption)).use (by assumption) (by assumption) (by assumption) (by assumption) (by assumption) ?hk ?hd ?hu trivial ?_; (case hk => exact rfl); (case hd => ktr_room); (case hu => ktr_units); k_whole); intro v9 h9 tk9 new9 F9 N9 _ _ hp9; obtain ⟨e9, u9, f9⟩ := hp9; subst e9; subst f9; simp only [List.nil_append] at N9; (try k_sweep)))
local macro_rules | `(tactic| walk_at "compareOp NotEq int int") => `(tactic| (k_here; (with_reducible refine ne_same ?_)))
local macro_rules | `(tactic| walk_at "getMethod ref") => `(tactic| (k_here; (with_reducible show wpAny _ _ (getMethod (Value.ref _) (Str.ofString "get") _) _ _ _); (with_reducible rename KindsPre _ _ _ => P9); (with_reducible rename Fr _ _ _ _ => F9); (refine kinds_method F9 P9 ?_)))
local macro_rules | `(tactic| walk_at "call builtin:dict.get") => `(tactic| (k_here; (with_reducible show wpAny _ _ (call (Value.builtin "dict.get") [Value.ref _, Value.str _ _]) _ _ _); (with_reducible rename KindsPre _ _ _ => P9); (with_reducible rename Fr _ _ _ _ => F9); (refine kinds_get F9 P9 ?_)))
local macro_rules | `(tactic| walk_at "truthy str") => `(tactic| (k_here; (with_reducible refine truthy_tail ?_)))
local macro_rules | `(tactic| walk_at "truthy ref") => `(tactic| (k_here; (with_reducible show wpAny _ _ (truthy (Value.ref 396)) _ _ _); (with_reducible rename Frag.In _ _ => X9); (with_reducible rename Fr _ _ _ _ => F9); (refine truthy_cls (F9.keep _ _ (X9 396 _ rfl)) rfl ?_)))
local macro_rules | `(tactic| walk_at "call ref") => `(tactic| (k_here; (with_reducible show wpAny _ _ (call (Value.ref 396) [Value.str _ _, Value.str _ _, Value.ref _]) _ _ _); (with_reducible rename Fr _ _ _ _ => F9); (with_reducible rename News _ _ _ _ => N9); k_dflt (refine' bwc_new (by assumption) (by assumption) (by assumption) F9 (fun p hp => N9 p (mem_two hp)) ?hk ?hd ?hu ?_; (case hk => exact rfl); (case hd => ktr_room); (case hu => ktr_units); k_whole); intro x9 dx9 dl9 h9 k9 es9 n9 c9 F9 N9 bd9 bt9))
set_option maxHeartbeats 2000000 in
theorem parse_ok (w : World) (y : List Nat) (t : Tok) (kd : Addr) (hy1 : 42 ∉ y) (hy2 : 44 ∉ y) (hy3 : ∀ c ∈ y, c < 128) (hy4 : y.length ≤ 40) : Ctr w 30 251 [.str (lineS y) t, .ref kd] (KindsPre w kd) (BwcPost y) := by
  unfold Ctr
  k_fill
  intro mean mg mb dp un gd cn cs a ccd cl outer A₀ base h₀ L m s Q E B X T F hk hd hu hp hret
  have XS := (X.keeps B.stays).keeps F.keep
  refine wpAny_call ?_
  refine' enter ?k1 ?k2 ?k3 ?k4 ?kA ?kF ?kK ?k6 ?k7 ?k8 ?k9 ?kB ?_ ?c2 ?c3 ?c4 ?c5
  case kA => exact rfl
  case kF => exact rfl
  case kK => assumption
  case k1 => k_asm
  case k2 => k_asm
  case k3 => k_asm
  case k4 => k_asm
  case k6 => k_is
  case k7 => k_is
  case k8 => ktr_room
  case k9 => exact binds_K (by k_in) rfl (by k_is) rfl rfl rfl
  case kB => exact locs rfl
  case c2 => exact rfl
  case c3 => exact rfl
  case c4 => exact rfl
  case c5 => decide
  intro L' h₁ hL F' N' B' X' T'
  dsimp only
  have hk : chk (bodyL y) < 128 := chk_body hy3
  have hbl := bodyL_lt hy3
  have htl := pu_tailLen (chk (bodyL y))
  k_steps
  with_reducible rename Fr _ _ _ _ => F5
  with_reducible rename News _ _ _ _ => N5
  exact hret _ _ _ _ F5.keep (newsAt F N5) ⟨_, _, _, _, _, _, _, _, _, rfl, rfl, by assumption, by assumption⟩
end Mine
end
section
open PySem PySem.W PyProof.Rows
namespace Mine
local macro_rules | `(tactic| walk_at "RESTART") => `(tactic| skip)
theorem restart_ForS {M : Model} {A : Around} {E : Value → Shared → Prop} {s : Shared} {Q : Value → Shared → Prop} (h : Q .none s) : wpAny M A (pure Value.none) Q E s := by
  w_top off
  first
    | (walk1; fail "on")
    | exact wpAny_pure h
end Mine
end
section
open PySem PySem.W PySem.Calls PyProof.Rows PySem.Spec
set_option maxRecDepth 100000
namespace Mine
def StrTurn (h₀ : Heap) (L I : Addr) (o : Obj) (J : Nat → (Str → Option Value) → Prop) (i : Nat) (s₁ : Shared) (f : Flow) (s₂ : Shared) : Prop :=
  f = .next ∧ ∃ h' tk' m₂, s₂ = { s₁ with heap := h', toks := tk' } ∧ Fr h₀ L h' m₂ ∧ News h₀ L h' [(I, o)] ∧ J (i + 1) m₂
section
variable {prog : Program} {w : World} {A : Around} {E : Value → Shared → Prop} {s : Shared} {name : Str} {scope : Scope} {L a : Addr} {cd : Value} {h₀ : Heap} {m : Str → Option Value} {R : Result → Shared → Prop}
theorem forStr_loop {v : Str} {px : Pos} {body : List Stmt} {x : Str} {t : Tok} (hh : A.handled = none) (hk : scope.kind = .function) (hv : (envOf name scope L a cd).kindOf v = some .local)
    (J : Nat → (Str → Option Value) → Prop)
    (step : ∀ I o i c tk m₁ s₁ E', x.cps[i]? = some c → J i m₁ → Fr h₀ L s₁.heap (fun y => if y = v then some (.str ⟨#[c]⟩ tk) else m₁ y) → News h₀ L s₁.heap [(I, o)] →
      wpAny (model prog w) A (execs body (envOf name scope L a cd)) (StrTurn h₀ L I o J i s₁) E' s₁) :
    ∀ (k i : Nat) (s : Shared) (I : Addr) (o : Obj) (m : Str → Option Value), x.cps.size - i = k → i ≤ x.cps.size → Fr h₀ L s.heap m → News h₀ L s.heap [(I, o)] → o.cls = .type "str_ascii_iterator" → o.data = .fields #[.str x t, .int i 0] → J i m →
      (∀ h' tk' m', Fr h₀ L h' m' → J x.cps.size m' → R (.ok .next) { s with heap := h', toks := tk' }) →
      codeC (model prog w) A (.forLoop (.Name v px) (.ref I) body [] (envOf name scope L a cd)) R s := by
  intro k
  induction k with
  | zero =>
    intro i s I o m hki hi F N hc hd hJ hR
    have hin : i = x.cps.size := by omega
    subst hin
    refine codeC_forTurn ?_ (fun _ => rfl)
    have n1 := N _ (List.mem_cons_self ..)
    refine wpAny_pyNext_ascii_end hh ⟨o, n1.1, hc, hd⟩ (by simp) fun h' eb => ?_
    refine hR h' s.toks m ?_ hJ
    obtain ⟨oL, es, ep, hL, hr⟩ := F.ns
    exact ⟨⟨oL, es, ep, eb _ _ (Ne.symm n1.2.1) hL, hr⟩, fun b o' e => eb b o' (fun q => by rw [q, n1.2.2] at e; cases e) (F.keep b o' e), F.above⟩
  | succ k ih =>
    intro i s I o m hki hi F N hc hd hJ hR
    have hlt : i < x.cps.size := by omega
    refine codeC_forTurn ?_ (fun _ => rfl)
    have n1 := N _ (List.mem_cons_self ..)
    refine wpAny_pyNext_ascii_item ⟨o, n1.1, hc, hd⟩ (Array.getElem?_eq_getElem hlt) fun h₁ hit₁ hs₁ => ?_
    obtain ⟨o₁, e₁, c₁, d₁⟩ := hit₁
    have F₁ : Fr h₀ L h₁ m := by
      obtain ⟨oL, es, ep, hL, hr⟩ := F.ns
      exact ⟨⟨oL, es, ep, (hs₁.2 _ (Ne.symm n1.2.1)).trans hL, hr⟩, fun b o' e => (hs₁.2 b (fun q => by rw [q, n1.2.2] at e; cases e)).trans (F.keep b o' e), F.above⟩
    have N₁ : News h₀ L h₁ [(I, o₁)] := fun p hp => by
      rw [List.mem_singleton] at hp
      subst hp
      exact ⟨e₁, n1.2⟩
    dsimp only
    refine wpAny_assign_Name (wpAny_storeName_local hv F₁.ns (fun h₂ hn₂ hs₂ => ?_) (by show (scope.kind == .class || (scope.kind == .module && L != mainGlobals)) = false; rw [hk]; rfl))
    have F₂ := F₁.set hn₂ hs₂
    have N₂ := N₁.set hs₂
    refine wpC_any (wpAny_mono (step I o₁ i _ _ m _ _ (Array.getElem?_eq_getElem hlt) hJ F₂ N₂) (fun f s₃ h₃ => ?_) fun _ _ e => e)
    obtain ⟨rfl, h₃', tk₃, m₂, rfl, F₃, N₃, hJ₃⟩ := h₃
    exact ih (i + 1) _ I o₁ m₂ (by omega) hlt F₃ N₃ c₁ d₁ hJ₃ fun h' tk' m' F' J' => hR h' tk' m' F' J'
theorem forStr {v : Str} {px : Pos} {body : List Stmt} {x : Str} {t : Tok} (hh : A.handled = none) (hk : scope.kind = .function) (hv : (envOf name scope L a cd).kindOf v = some .local) (hx : x.cps.all (· < 128) = true)
    (J : Nat → (Str → Option Value) → Prop) (F : Fr h₀ L s.heap m) (h0 : J 0 m)
    (step : ∀ I o i c tk m₁ s₁ E', x.cps[i]? = some c → J i m₁ → Fr h₀ L s₁.heap (fun y => if y = v then some (.str ⟨#[c]⟩ tk) else m₁ y) → News h₀ L s₁.heap [(I, o)] →
      wpAny (model prog w) A (execs body (envOf name scope L a cd)) (StrTurn h₀ L I o J i s₁) E' s₁)
    (hR : ∀ h' tk' m', Fr h₀ L h' m' → J x.cps.size m' → R (.ok .next) { s with heap := h', toks := tk' }) :
    wpAny (model prog w) A (pyIter (.str x t)) (fun it s₂ => codeC (model prog w) A (.forLoop (.Name v px) it body [] (envOf name scope L a cd)) R s₂) E s := by
  refine wpAny_pyIter_ascii hx ?_
  have N : News h₀ L (s.heap.push { cls := .type "str_ascii_iterator", data := .fields #[.str x t, .int 0 0] }) [(s.heap.objs.size, { cls := .type "str_ascii_iterator", data := .fields #[.str x t, .int 0 0] })] := News.push F News.nil _ rfl
  exact forStr_loop hh hk hv J step _ 0 _ _ _ m rfl (Nat.zero_le _) (F.push _) N rfl rfl h0 fun h' tk' m' F' J' => hR h' tk' m' F' J'
end
end Mine
end
section
open PySem PySem.W PyProof.Rows
namespace Mine
local macro_rules | `(tactic| walk_at "RESTART") => `(tactic| skip)
theorem restart_PText4 {M : Model} {A : Around} {E : Value → Shared → Prop} {s : Shared} {Q : Value → Shared → Prop} (h : Q .none s) : wpAny M A (pure Value.none) Q E s := by
  w_top off
  first
    | (walk1; fail "on")
    | exact wpAny_pure h
end Mine
end
section
open PySem PySem.W PySem.Calls PyProof.Rows PySem.Spec
set_option maxRecDepth 100000
namespace Mine
def preS (y : List Nat) : Str := S (71 :: 80 :: 66 :: 87 :: 67 :: 44 :: y)
def dstS (y : List Nat) : Str := S ((36 :: bodyL y) ++ [42])
def digS (k : Nat) : Str := S [hexd k]
def oneS (y : List Nat) : Str := S ((36 :: bodyL y) ++ [42, hexd (chk (bodyL y) / 16)])
section
variable {y : List Nat}
theorem pc_1 : Str.ofString "GPBWC," ++ textS y = preS y := (S_append [71, 80, 66, 87, 67, 44] y)
theorem pc_2 : preS y ++ Str.ofString ",4237.14,N" = bodyS y := (S_append _ [44, 52, 50, 51, 55, 46, 49, 52, 44, 78])
theorem pc_3 : Str.ofString "$" ++ bodyS y = dollS y := (S_append [36] _)
theorem pc_4 : dollS y ++ Str.ofString "*" = dstS y := (S_append _ [42])
theorem pc_5 : dstS y ++ digS (chk (bodyL y) / 16) = oneS y := by
  unfold dstS digS oneS
  rw [S_append, List.append_assoc]
  rfl
theorem pc_6 : oneS y ++ digS (chk (bodyL y) % 16) = lineS y := by
  unfold oneS digS lineS lineL tailL
  rw [S_append, List.append_assoc]
  rfl
theorem pc_textLen : (textS y).length = y.length := S_len _
theorem pc_preLen : (preS y).length = y.length + 6 := (S_len _).trans (by simp)
theorem pc_dstLen : (dstS y).length = y.length + 18 := (S_len _).trans (by simp [bodyL_len])
theorem pc_oneLen : (oneS y).length = y.length + 19 := (S_len _).trans (by simp [bodyL_len])
theorem pc_digLen (k : Nat) : (digS k).length = 1 := S_len _
end
theorem dig_item : ∀ k : Nat, k < 16 → Txt.item (Str.ofString "0123456789ABCDEF") (k : Int) = digS k := by decide +kernel
theorem fdiv16 (n : Nat) : (n : Int).fdiv 16 = ((n / 16 : Nat) : Int) := by
  rw [Int.fdiv_eq_ediv_of_nonneg _ (by decide)]
  omega
theorem fmod16 (n : Nat) : (n : Int).fmod 16 = ((n % 16 : Nat) : Int) := by
  rw [Int.fmod_eq_emod_of_nonneg _ (by decide)]
  omega
theorem digAt {prog : Program} {w : World} {A : Around} {E : Value → Shared → Prop} {s : Shared} {value slice : Expr} {t u : Tok} {d : Int} {k : Nat} {Q : Value → Shared → Prop} (hd : d = (k : Int)) (hk : k < 16)
    (h : ∀ u' tk, Q (.str (digS k) u') { s with toks := tk })
    (hs : subscripted slice false (.str (Str.ofString "0123456789ABCDEF") t) (.int (k : Int) u) = operate [.str (Str.ofString "0123456789ABCDEF") t, .int (k : Int) u] (getItem (.str (Str.ofString "0123456789ABCDEF") t) (.int (k : Int) u)))
    (ht : ∀ r, letTemporaryGo value (.str (Str.ofString "0123456789ABCDEF") t) r = pure ()) :
    wpAny (model prog w) A (subscriptTail value slice (.str (Str.ofString "0123456789ABCDEF") t) (.int d u)) Q E s := by
  subst hd
  have hl : (Str.ofString "0123456789ABCDEF").length = 16 := rfl
  refine item_str (fitsSsize_of (N := 9223372036854775808) (by omega) (by omega) (Int.le_refl _)) (by rw [hl]; omega) (by rw [hl]; omega) (fun _ => ?_) hs ht
  rw [dig_item k hk]
  exact h _ _
def AddIs (x y z : Str) : Prop := x ++ y = z ∧ x.length + y.length ≤ sizeLine
section
variable {y : List Nat} (h : y.length ≤ 40)
include h
theorem pd_1 : AddIs (Str.ofString "GPBWC,") (textS y) (preS y) := ⟨pc_1, by rw [pc_textLen, sizeLine_eq, show (Str.ofString "GPBWC,").length = 6 from rfl]; omega⟩
theorem pd_2 : AddIs (preS y) (Str.ofString ",4237.14,N") (bodyS y) := ⟨pc_2, by rw [pc_preLen, sizeLine_eq, show (Str.ofString ",4237.14,N").length = 10 from rfl]; omega⟩
theorem pd_3 : AddIs (Str.ofString "$") (bodyS y) (dollS y) := ⟨pc_3, by rw [pu_bodyLen, sizeLine_eq, show (Str.ofString "$").length = 1 from rfl]; omega⟩
theorem pd_4 : AddIs (dollS y) (Str.ofString "*") (dstS y) := ⟨pc_4, by rw [pu_dollLen, sizeLine_eq, show (Str.ofString "*").length = 1 from rfl]; omega⟩
theorem pd_5 : AddIs (dstS y) (digS (chk (bodyL y) / 16)) (oneS y) := ⟨pc_5, by rw [pc_dstLen, pc_digLen, sizeLine_eq]; omega⟩
theorem pd_6 : AddIs (oneS y) (digS (chk (bodyL y) % 16)) (lineS y) := ⟨pc_6, by rw [pc_oneLen, pc_digLen, sizeLine_eq]; omega⟩
end
theorem addIs {prog : Program} {w : World} {A : Around} {E : Value → Shared → Prop} {s : Shared} {x y z : Str} {t u : Tok} {Q : Value → Shared → Prop} (e : AddIs x y z) (h : ∀ t' tk, Q (.str z t') { s with toks := tk }) :
    wpAny (model prog w) A (binaryOp .Add (.str x t) (.str y u)) Q E s := by
  obtain ⟨e, hsz⟩ := e
  subst e
  exact PyProof.Rows.add_str h hsz
end Mine
end
section
open PySem PySem.W PyProof.Rows
namespace Mine
local macro_rules | `(tactic| walk_at "RESTART") => `(tactic| skip)
theorem restart_Reg {M : Model} {A : Around} {E : Value → Shared → Prop} {s : Shared} {Q : Value → Shared → Prop} (h : Q .none s) : wpAny M A (pure Value.none) Q E s := by
  w_top off
  first
    | (walk1; fail "on")
    | exact wpAny_pure h
end Mine
end
section
open PySem PySem.W PySem.Calls PyProof.Rows PySem.Spec
set_option maxRecDepth 100000
namespace Mine
section
variable {A₀ : Around} {base g₀ hc g' h' : Heap} {outer : List Env} {L a : Addr} {m : Str → Option Value} {name : Str} {scope : Scope} {cd : Value} {news new : List (Addr × Obj)}
theorem reground (B : Below A₀ base outer g₀) (F : Fr g₀ L hc m) (N : News g₀ L hc news) (T : KtsTurn ((envOf name scope L a cd :: outer).filterMap (·.frame)) hc g') (st : g'.StaysIn h') (N' : News g' L h' new) :
    ∃ g₁, KtsTurn (outer.filterMap (·.frame)) g₀ g₁ ∧ Fr g₁ L h' m ∧ Below A₀ base outer g₁ ∧ News g₁ L h' (new ++ news) := by
  obtain ⟨g₁, T₁, F₁, B₁⟩ := kts_ground (B := g') (h₅ := h') (name := name) (scope := scope) (a := a) (cd := cd) B F (fun b o e nm => T.other b o e nm) st (fun b o e _ => by
    obtain ⟨sl, q⟩ := T.up e
    exact ⟨sl, st _ _ q⟩)
  refine ⟨g₁, T₁, F₁, B₁, fun p hp => ?_⟩
  rcases List.mem_append.mp hp with hp | hp
  · refine ⟨(N' p hp).1, (N' p hp).2.1, T₁.none_ _ ?_⟩
    cases q : g₀.get? p.1 with
    | none => rfl
    | some o =>
      obtain ⟨sl, z⟩ := T.up (F.keep _ _ q)
      rw [(N' p hp).2.2] at z
      cases z
  · refine ⟨st _ _ (T.other _ _ (N p hp).1 fun hm => ?_), (N p hp).2.1, T₁.none_ _ (N p hp).2.2⟩
    rcases kts_mem hm with z | z
    · exact (N p hp).2.1 z
    · obtain ⟨_, o, ho, _⟩ := B.frames.mem z
      rw [(N p hp).2.2] at ho
      cases ho
end
theorem wpC_Attribute_name {M : Model} {A : Around} {E : Value → Shared → Prop} {s : Shared} {env : Env} {n attr : Str} {np pos : Pos} {Q : Value → Shared → Prop} (h : wpAny M A (eval (.Name n np) env) (fun o s₁ => wpC M A (getAttr o attr true) Q E s₁) E s) :
    wpC M A (eval (.Attribute (.Name n np) attr pos) env) Q E s := by
  rw [arm_eval_Attribute]
  have e1 : attributeBase (.Name n np) attr env (eval (.Name n np) env) = eval (.Name n np) env := rfl
  rw [e1]
  refine wpC_then (wpAny_mono h (fun o s₁ h₁ => wpC_then (wpAny_standAt (wpC_bind (wpC_holding (wpC_mono h₁ (fun r s₂ h₂ => ?_) fun _ _ y => y))))) fun _ _ y => y)
  have e2 : letTemporaryGo (.Name n np) o r = pure () := rfl
  rw [e2]
  exact wpC_any (wpAny_bind (wpAny_pure (wpAny_pure h₂)))
end Mine
end
section
open PySem PySem.W PyProof.Rows
namespace Mine
local macro_rules | `(tactic| walk_at "RESTART") => `(tactic| skip)
theorem restart_IsT {M : Model} {A : Around} {E : Value → Shared → Prop} {s : Shared} {Q : Value → Shared → Prop} (h : Q .none s) : wpAny M A (pure Value.none) Q E s := by
  w_top off
  first
    | (walk1; fail "on")
    | exact wpAny_pure h
end Mine
end
section
open PySem PySem.W PySem.Calls PyProof.Rows PySem.Spec PySem.Builtin PySem.Builtin.ObjectAttr
set_option maxRecDepth 100000
namespace Mine
section
variable {prog : Program} {w : World} {A : Around} {E : Value → Shared → Prop} {s : Shared} {K : Frag} {x C : Addr} {ox : Obj} {od : Option Obj} {name : Str} {g a : Value}
theorem get_bindQ {Q : Option Value → Shared → Prop} (X : K.In s.heap) (I : InstAt s.heap x ox C od) (hga : findIn K (.ref C) "__getattribute__" = some (some (.builtin "tuple.__getattribute__"))) (hk : findIn K (.ref C) "__getattr__" = some none) (hi : subIn K (.ref C) (.type "tuple") = some true)
    (hf : findObj K C od name = some (.bind g a))
    (h : wpAny (model prog w) A.in1 (call g [a, .ref x, .ref C]) (fun v s' => wpAny (model prog w) A (handedOut v) (fun v s'' => Q (some v) s'') (fun _ _ => False) s') (fun _ _ => False) { s with toks := s.toks + 1 }) :
    wpAny (model prog w) A (getAttr? (.ref x) name) Q E s := by
  have ht : Looks (model prog w) s.heap (typeOf (.ref x)) (.ref C) := I.type
  have hb : Looks (model prog w) s.heap (hookBefore (.ref C)) none := looks_hook X hk
  unfold getAttr? getAttrBy? getAttrBy
  refine wpAny_bind (wpAny_mkText (wpAny_bind (wpAny_attempt (wpAny_holding (wpAny_bind (ht _ _ _ _ (fun _ _ e => e) (wpAny_bind (looks_findIn X hga _ _ _ _ (fun _ _ e => e) ?_))))))))
  dsimp only
  rw [show (onTheHeap (.ref C) && Value.builtin "tuple.__getattribute__" == Value.builtin "object.__getattribute__") = false from by rw [show (Value.builtin "tuple.__getattribute__" == Value.builtin "object.__getattribute__") = false from by decide +kernel, Bool.and_false], if_neg (by decide)]
  refine wpAny_bind (hb _ _ _ _ (fun _ _ e => e) (wpAny_bind (wpAny_attempt (wpAny_holding ?_))))
  unfold callGetattribute
  rw [show (false && onTheHeap (Value.builtin "tuple.__getattribute__")) = false from rfl, if_neg (by decide)]
  unfold boundAndCalled
  rw [tga_slot.bind]
  refine wpAny_bind (wpAny_pure ?_)
  show wpAny _ _ (call (.builtin "tuple.__getattribute__") [.ref x, .str name s.toks]) _ _ _
  refine wpAny_call ?_
  refine codeAny_call_builtin tga_slot.plain tga_entry ?_
  refine @check_slot (model prog w) _ _ { s with toks := s.toks + 1 } "tuple.__getattribute__" "tuple" "__getattribute__" (.ref x) [.str name s.toks] [] _ (by decide +kernel) (by decide +kernel) (ht.andThen (looks_subIn X hi)) (tga_args (.ref x) (.str name s.toks)) ?_
  unfold Builtin.«object.__getattribute__»
  refine wpAny_bind (wpAny_of_eq (a := (.ref x, [.str name s.toks])) rfl ?_)
  dsimp only
  refine wpAny_bind (wpAny_of_eq (a := name) rfl ?_)
  refine wpAny_bind (ht _ _ _ _ (fun _ _ e => e) ?_)
  have L1 := looks_find (M := model prog w) X I hf
  refine wpAny_bind (L1 _ _ _ _ (fun _ _ e => e) ?_)
  dsimp only
  unfold Builtin.ObjectAttr.bindTo
  dsimp only
  refine wpAny_bind (wpAny_holding (wpAny_mono h (fun v s' z => ?_) fun _ _ z => z.elim))
  exact wpAny_pure (wpAny_mono z (fun v s'' hv => wpAny_pure hv) fun _ _ z => z.elim)
end
theorem tm_class (w : World) : findObj (hd.heap_39 w.params) 162 (some emptyDict) "__class__" = some (.bind (.builtin "getset_descriptor.__get__") (.builtin "object.__class__")) := by rfl
theorem tm_mroO (w : World) : mroIn (hd.heap_39 w.params) 162 (.type "object") = some true := by rfl
theorem tm_notStr (w : World) : subIn (hd.heap_39 w.params) (.ref 162) (.type "str") = some false := by rfl
section
variable {w w' : World} {A : Around} {E : Value → Shared → Prop} {s : Shared} {x D : Addr} {xs : Array Value} {prog : Program}
theorem tms_class {Q : Option Value → Shared → Prop} (X : (hd.heap_39 w.params).In s.heap) (hx : s.heap.get? x = some (timeObj D xs)) (hD : s.heap.get? D = some emptyDict) (h : Q (some (.ref 162)) { s with toks := s.toks + 1 }) :
    wpAny (model prog w') A (getAttr? (.ref x) "__class__") Q E s := by
  have I : InstAt s.heap x (timeObj D xs) 162 (some emptyDict) := ⟨hx, rfl, rfl, hD⟩
  exact get_bindQ X I (tm_gga w) (tm_gg w) (tm_subT w) (tm_class w) (wpAny_call (class_get (s := { s with toks := s.toks + 1 }) X I (tm_mroO w) (handed_on rfl h)))
theorem tms_nested {dep : Int} {tk : Tok} {Q : Fin → Shared → Prop} (X : (hd.heap_39 w.params).In s.heap) (hx : s.heap.get? x = some (timeObj D xs)) (hD : s.heap.get? D = some emptyDict) (h : Q (.done (.ret (.bool false))) { s with toks := s.toks + 1 }) :
    wpAny (model prog w') A (Builtin.«isinstance.nested» ⟨[.ref x, .type "str", .int dep tk], []⟩) Q E s := by
  have I : InstAt s.heap x (timeObj D xs) 162 (some emptyDict) := ⟨hx, rfl, rfl, hD⟩
  have hisD : Looks (model prog w') s.heap (isType (.ref 162)) true := Looks.of_peek X (by rfl)
  have hsub : Looks (model prog w') s.heap (isSubtype (.ref 162) (.type "str")) false := looks_subIn X (tm_notStr w)
  obtain ⟨h0, g, d, tt, os⟩ := s
  have L0 := I.type (M := model prog w')
  have LI : Looks (model prog w') h0 (isInstance (.ref x) (.type "str")) false := L0.andThen hsub
  unfold Builtin.«isinstance.nested»
  refine wpAny_bind (L0.at ?_)
  rw [if_neg (by decide)]
  refine wpAny_bind (wpAny_of_eq (a := .type "type") (by kernel_rfl) ?_)
  rw [if_pos (by decide)]
  k_delta "plainIsInstance"
  refine wpAny_bind (wpAny_bind (wpAny_of_eq (a := true) (by first | rfl | (rw [isType_type]; kernel_rfl)) ?_))
  simp only [Bool.not_true, Bool.false_eq_true, if_false]
  refine wpAny_bind (LI.at ?_)
  simp only [Bool.false_eq_true, if_false]
  refine wpAny_bind (tms_class X hx hD ?_)
  refine wpAny_bind (hisD.at ?_)
  simp only [Bool.not_true, Bool.false_eq_true, if_false]
  refine wpAny_bind (wpAny_rule ?_)
  refine hsub.at ?_
  first
    | exact wpAny_pure h
    | exact wpAny_pure (wpAny_pure h)
    | exact wpAny_bind (wpAny_pure (wpAny_pure h))
theorem tms_isStr {Q : Value → Shared → Prop} (X : (hd.heap_39 w.params).In s.heap) (hx : s.heap.get? x = some (timeObj D xs)) (hD : s.heap.get? D = some emptyDict) (h : Q (.bool false) { s with toks := s.toks + 1 }) :
    wpAny (model prog w') A (call (.builtin "isinstance") [.ref x, .type "str"]) Q E s :=
  call_isinstance (S := fun _ R s => ((hd.heap_39 w.params).In s.heap ∧ s.heap.get? x = some (timeObj D xs) ∧ s.heap.get? D = some emptyDict) ∧ R (.ok (.ret (.bool false))) { s with toks := s.toks + 1 })
    (fun _ _ _ _ _ hs => isinstance_outer (tms_nested hs.1.1 hs.1.2.1 hs.1.2.2 hs.2) (by intro q; cases q)) ⟨⟨X, hx, hD⟩, h⟩
end
end Mine
end
section
open PySem PySem.W PyProof.Rows
namespace Mine
local macro_rules | `(tactic| walk_at "RESTART") => `(tactic| skip)
theorem restart_Read {M : Model} {A : Around} {E : Value → Shared → Prop} {s : Shared} {Q : Value → Shared → Prop} (h : Q .none s) : wpAny M A (pure Value.none) Q E s := by
  w_top off
  first
    | (walk1; fail "on")
    | exact wpAny_pure h
end Mine
end
section
open PySem PySem.W PySem.Calls PyProof.Rows PySem.Spec
set_option maxRecDepth 100000
namespace Mine
theorem frAlso {h₀ h : Heap} {L : Addr} {m : Str → Option Value} {x : Str} {v : Value} (F : Fr h₀ L h m) (e : m x = some v) : Fr h₀ L h (fun z => if z = x then some v else m z) := by
  have q : (fun z => if z = x then some v else m z) = m := by
    funext z
    by_cases hz : z = x
    · rw [if_pos hz, hz, e]
    · rw [if_neg hz]
  rw [q]
  exact F
local macro_rules | `(tactic| walk_at "binaryOp Add str str") => `(tactic| (k_here; (with_reducible show wpAny _ _ (binaryOp Operator.Add (Value.str _ _) (Value.str _ _)) _ _ _); (refine' addIs ?e9 ?_; (case e9 => with_reducible first | exact pd_1 (by assumption) | exact pd_2 (by assumption) | exact pd_3 (by assumption) | exact pd_4 (by assumption) | exact pd_5 (by assumption) | exact pd_6 (by assumption)); intro t9 k9)))
local macro_rules | `(tactic| walk_at "subscriptTail Name BinOp str int") => `(tactic| (k_here; (with_reducible show wpAny _ _ (subscriptTail _ _ (Value.str (Str.ofString "0123456789ABCDEF") _) (Value.int (Int.fdiv (Nat.cast (chk _)) 16) _)) _ _ _); (refine' digAt (fdiv16 _) ?hk9 ?_ ?hs9 ?ht9; (case hk9 => omega); (case hs9 => with_unfolding_all rfl); (case ht9 => (intro _; with_unfolding_all rfl))); intro t9 k9))
local macro_rules | `(tactic| walk_at "subscriptTail Name BinOp str int") => `(tactic| (k_here; (with_reducible show wpAny _ _ (subscriptTail _ _ (Value.str (Str.ofString "0123456789ABCDEF") _) (Value.int (Int.fmod (Nat.cast (chk _)) 16) _)) _ _ _); (refine' digAt (fmod16 _) ?hk9 ?_ ?hs9 ?ht9; (case hk9 => omega); (case hs9 => with_unfolding_all rfl); (case ht9 => (intro _; with_unfolding_all rfl))); intro t9 k9))
local macro_rules | `(tactic| walk_at "call ref") => `(tactic| (k_here; (with_reducible show wpAny _ _ (call (Value.ref 251) [Value.str (lineS _) _, Value.ref _]) _ _ _); (with_reducible rename News _ _ _ _ => N9); k_dflt (refine' (parse_ok _ _ _ _ (by assumption) (by assumption) (by assumption) (by assumption)).use (by assumption) (by assumption) (by assumption) (by assumption) (by assumption) ?hk ?hd ?hu ?hp ?_; (case hk => exact rfl); (case hd => ktr_room); (case hp => exact ⟨by assumption, _, _, (N9 _ (List.mem_cons_self ..)).1, by assumption, rfl⟩); (case hu => ktr_units); k_whole); intro v9 h9 tk9 new9 F9 N9 _ _ hp9))
theorem rd_turn {l : List Nat} (hl : ∀ c ∈ l, c < 128) {i c : Nat} (hc : (S l).cps[i]? = some c) : (accOf l i : Int) + (c : Int) - 2 * Builtin.bitAnd (accOf l i : Int) (c : Int) = (accOf l (i + 1) : Int) := by
  rw [← bitXor_and]
  exact accOf_succ l hl i c (by unfold S at hc; simpa using hc)
theorem acc_done (y : List Nat) : accOf (bodyL y) (bodyS y).cps.size = chk (bodyL y) := by
  have e : (bodyS y).cps.size = (bodyL y).length := S_len _
  rw [e, accOf_all]
local macro_rules | `(tactic| walk_at "getAttr ref") => `(tactic| (k_here; (with_reducible show wpAny _ _ (getAttr (Value.ref _) (Str.ofString "hour") _) _ _ _); (with_reducible rename Fr _ _ _ _ => F9); (with_reducible rename News _ _ _ _ => N9); k_dflt (refine' time_getN (get_h _ _ _ _ _ _ _) (tm_h _) ?g3 (by assumption) (by assumption) (by assumption) F9 N9 ?g4 ?g5 ?hk ?hd ?hu ?_; (case g4 => exact List.mem_cons_self ..); (case g5 => exact List.mem_cons_of_mem _ (List.mem_cons_self ..)); (case g3 => exact rfl); (case hk => exact rfl); (case hd => ktr_room); (case hu => ktr_units); k_whole); intro h9 tk9 F9 N9; (try k_sweep)))
local macro_rules | `(tactic| walk_at "getAttr ref") => `(tactic| (k_here; (with_reducible show wpAny _ _ (getAttr (Value.ref _) (Str.ofString "minute") _) _ _ _); (with_reducible rename Fr _ _ _ _ => F9); (with_reducible rename News _ _ _ _ => N9); k_dflt (refine' time_getN (get_m _ _ _ _ _ _ _) (tm_m _) ?g3 (by assumption) (by assumption) (by assumption) F9 N9 ?g4 ?g5 ?hk ?hd ?hu ?_; (case g4 => exact List.mem_cons_self ..); (case g5 => exact List.mem_cons_of_mem _ (List.mem_cons_self ..)); (case g3 => exact rfl); (case hk => exact rfl); (case hd => ktr_room); (case hu => ktr_units); k_whole); intro h9 tk9 F9 N9; (try k_sweep)))
local macro_rules | `(tactic| walk_at "getAttr ref") => `(tactic| (k_here; (with_reducible show wpAny _ _ (getAttr (Value.ref _) (Str.ofString "second") _) _ _ _); (with_reducible rename Fr _ _ _ _ => F9); (with_reducible rename News _ _ _ _ => N9); k_dflt (refine' time_getN (get_s _ _ _ _ _ _ _) (tm_s _) ?g3 (by assumption) (by assumption) (by assumption) F9 N9 ?g4 ?g5 ?hk ?hd ?hu ?_; (case g4 => exact List.mem_cons_self ..); (case g5 => exact List.mem_cons_of_mem _ (List.mem_cons_self ..)); (case g3 => exact rfl); (case hk => exact rfl); (case hd => ktr_room); (case hu => ktr_units); k_whole); intro h9 tk9 F9 N9; (try k_sweep)))
local macro_rules | `(tactic| walk_at "getAttr ref") => `(tactic| (k_here; (with_reducible show wpAny _ _ (getAttr (Value.ref _) (Str.ofString "microsecond") _) _ _ _); (with_reducible rename Fr _ _ _ _ => F9); (with_reducible rename News _ _ _ _ => N9); k_dflt (refine' time_getN (get_u _ _ _ _ _ _ _) (tm_u _) ?g3 (by assumption) (by assumption) (by assumption) F9 N9 ?g4 ?g5 ?hk ?hd ?hu ?_; (case g4 => exact List.mem_cons_self ..); (case g5 => exact List.mem_cons_of_mem _ (List.mem_cons_self ..)); (case g3 => exact rfl); (case hk => exact rfl); (case hd => ktr_room); (case hu => ktr_units); k_whole); intro h9 tk9 F9 N9; (try k_sweep)))
theorem data_of_news {prog : Program} {w : World} {A : Around} {E : Value → Shared → Prop} {s : Shared} {Q : Value → Shared → Prop} {g : Heap} {L : Addr} {m : Str → Option Value} {news : List (Addr × Obj)} {x dx dl : Addr} {es : List DictEntry} {n : Nat} {expr : Bool}
    (X : (hd.heap_39 w.params).In g) (F : Fr g L s.heap m) (N : News g L s.heap news) (hl : getL (Str.ofString "data") es = some (some (.ref dl))) (h1 : (x, instObj 396 dx) ∈ news) (h2 : (dx, dictOf es n) ∈ news) (h : Q (.ref dl) { s with toks := s.toks + 1 }) :
    wpAny (model prog w) A (getAttr (.ref x) (Str.ofString "data") expr) Q E s :=
  get_value (K := hd.heap_39 w.params) (X.keeps F.keep) (InstAt.of_news N h1 h2) (by rfl) (findObj_own (attr := none) (by rfl) (by rfl) (by rfl) ((lookIn_dict _ _ _).trans hl)) rfl h
local macro_rules | `(tactic| walk_at "getAttr ref") => `(tactic| (k_here; (with_reducible show wpAny _ _ (getAttr (Value.ref _) (Str.ofString "data") _) _ _ _); (with_reducible rename Fr _ _ _ _ => F9); (with_reducible rename News _ _ _ _ => N9); k_dflt (refine' data_of_news (by assumption) F9 N9 (by assumption) ?h1 ?h2 ?_; (case h1 => k_mem); (case h2 => k_mem))))
local macro_rules | `(tactic| walk_at "call builtin:isinstance") => `(tactic| (k_here; (with_reducible show wpAny _ _ (call _ [Value.ref _, Value.type "str"]) _ _ _); (with_reducible rename Fr _ _ _ _ => F9); (with_reducible rename News _ _ _ _ => N9); (with_reducible rename Frag.In _ _ => X9); k_dflt (refine tms_isStr (X9.keeps F9.keep) (N9 _ (List.mem_cons_self ..)).1 (N9 _ (List.mem_cons_of_mem _ (List.mem_cons_self ..))).1 ?_)))
def readDat (y : List Nat) : Dat := if textS y = Str.ofString "" then .none else match stamp (textS y) with
  | none => .str (textS y)
  | some (h, m, s, u) => .list [.int h, .int m, .int s, .int u]
theorem textS_cps {y : List Nat} (h : ∀ c ∈ y, c < 128) : Cps (textS y) := by
  intro c hc
  have : c < 128 := h c (by unfold textS S at hc; simpa using hc)
  exact Nat.lt_trans this (by decide)
def RdJ (y : List Nat) (tb : Tok) (i : Nat) (m : Str → Option Value) : Prop := (∃ u, m (Str.ofString "value") = some (.int (accOf (bodyL y) i : Nat) u)) ∧ m (Str.ofString "body") = some (.str (bodyS y) tb)
set_option maxHeartbeats 1000000 in
theorem read_ok (w : World) (y : List Nat) (t : Tok) (hy1 : 42 ∉ y) (hy2 : 44 ∉ y) (hy3 : ∀ c ∈ y, c < 128) (hy4 : y.length ≤ 40) :
    CtrL w 60 426 [.str (textS y) t] (fun _ => True) (fun new v => DatIn new v (.list [readDat y, .str (textS y)])) := by
  unfold CtrL
  k_fill
  intro mean mg mb dp un gd cn cs a ccd A₀ base h₀ L m s Q E B X T F hk hd hu _ hret
  refine wpC_call ?_
  refine' enterC ?k1 ?k2 ?k3 ?k4 ?kA ?kF ?kK ?k6 ?k7 ?k8 ?k9 ?kB ?_ ?c2 ?c3 ?c4 ?c5
  case kA => exact rfl
  case kF => exact rfl
  case kK => assumption
  case k1 => k_asm
  case k2 => k_asm
  case k3 => k_asm
  case k4 => k_asm
  case k6 => k_is
  case k7 => k_is
  case k8 => ktr_room
  case k9 => exact BindsTo.of_eq rfl
  case kB => exact locs rfl
  case c2 => exact rfl
  case c3 => exact rfl
  case c4 => exact rfl
  case c5 => decide
  intro L' h₁ hL F' N' B' X' T'
  dsimp only
  have hbl := bodyL_lt hy3
  refine wpC_execs_cons (wpC_any ?_)
  k_steps
  dsimp only
  refine wpC_execs_cons (wpC_any ?_)
  k_steps
  dsimp only
  with_reducible rename Fr _ _ _ _ => F1
  (try clear F' N')
  with_reducible rename News _ _ _ _ => N1
  refine wpC_execs_cons (wpC_For ?_ (fun x => rfl))
  refine ld F1 rfl ?_
  refine forStr rfl rfl rfl (body_ascii hbl) (RdJ y _) F1 ⟨⟨_, rfl⟩, rfl⟩ ?_ ?_
  · intro I o i c tk m₁ s₁ E' hc hJ F2 N2
    obtain ⟨⟨u, hu'⟩, hb⟩ := hJ
    have F3 := frAlso F2 (x := Str.ofString "value") (v := .int (accOf (bodyL y) i : Nat) u) hu'
    clear F1 F2 N1
    k_steps
    with_reducible rename Fr _ _ _ _ => F9
    with_reducible rename News _ _ _ _ => N9
    exact ⟨rfl, _, _, _, rfl, F9, N9, ⟨_, (congrArg (fun q => some (Value.int q _)) (rd_turn hbl hc) : some (Value.int _ _) = some (Value.int _ _))⟩, hb⟩
  · intro h' tk' m' F2 J2
    obtain ⟨⟨u, hu'⟩, hb⟩ := J2
    rw [acc_done] at hu'
    have F3 := frAlso (frAlso F2 hb) (x := Str.ofString "value") (v := .int (chk (bodyL y) : Nat) u) hu'
    have N3 : News s.heap L' h' [] := News.nil
    clear F1 F2 N1
    have hk : chk (bodyL y) < 128 := chk_body hy3
    dsimp only
    refine wpC_execs_cons (wpC_any ?_)
    k_steps
    dsimp only
    with_reducible rename BwcPost _ _ _ => bp
    obtain ⟨XX, DX, DL, es, n, c, t1, t2, t3, ev, en, gdat, gstamp⟩ := bp
    subst ev
    subst en
    with_reducible rename Fr _ _ _ _ => F9
    with_reducible rename News _ _ _ _ => N9
    refine wpC_execs_cons (wpC_Assign_Name (wpC_Attribute_name (ld F9 rfl ?_)))
    have n1 := (N9 (XX, instObj 396 DX) (by simp)).1
    have n2 := (N9 (DX, dictOf es n) (by simp)).1
    have n3 := (N9 (DL, listOf #[.str (textS y) t1, .str (Str.ofString "4237.14") t2, .str (Str.ofString "N") t3] c) (by simp)).1
    refine stamp_get w (outer := [envOf cn cs L a ccd]) (by rw [pc_textLen]; exact hy4) (textS_cps hy3) rfl ((lookIn_dict _ _ _).trans gdat) ((lookIn_dict _ _ _).trans gstamp) (by show 3 ≤ 1000; decide) B' X T F9 rfl (ktsOne rfl F) (by show dp + 1 + 20 < _; omega) (by show un + _ + 10 * 21 < _; omega) ⟨n1, n2, n3⟩ ?_
    intro v g' h5 tk5 new KT st5 N5 po
    obtain ⟨g1, KT1, F6, B6, N6⟩ := reground (name := _) (scope := _) (a := _) (cd := _) B' F9 N9 KT st5 N5
    have X6 := X.keeps B6.stays
    have T6 := T.keeps B6.stays
    have N7 : News g1 L' h5 (new ++ [(XX, instObj 396 DX), (DX, dictOf es n), (DL, listOf #[.str (textS y) t1, .str (Str.ofString "4237.14") t2, .str (Str.ofString "N") t3] c)]) := fun p hp => N6 p (by
      rcases List.mem_append.mp hp with h | h
      · exact List.mem_append_left _ h
      · exact List.mem_append_right _ (List.mem_append_left _ h))
    clear F9 N9 N6 B' n1 n2 n3 KT st5 N5
    rcases po with ⟨hz, rfl⟩ | ⟨hz, XT, D, hh, mm, ss, uu, th, tm, ts, tu, hst, rfl, rfl⟩ | ⟨hz, hst, t4, rfl⟩
    · have N8 : News g1 L' h5 [(XX, instObj 396 DX), (DX, dictOf es n), (DL, listOf #[.str (textS y) t1, .str (Str.ofString "4237.14") t2, .str (Str.ofString "N") t3] c)] := fun p hp => N7 p (List.mem_append_right _ hp)
      clear N7
      k_steps
      dsimp only
      refine wpC_any ?_
      k_steps
      with_reducible rename Fr _ _ _ _ => F9
      with_reducible rename News _ _ _ _ => N9
      refine hret _ _ _ _ (butTurn rfl KT1 F9) (newsTurn F KT1 N9) ?_
      unfold readDat
      rw [if_pos hz]
      exact DatIn.list (.head _) (.cons .none (.cons (.str _ _) .nil))
    · simp only [List.cons_append, List.nil_append] at N7
      k_steps
      dsimp only
      refine wpC_any ?_
      k_steps
      with_reducible rename Fr _ _ _ _ => F9
      with_reducible rename News _ _ _ _ => N9
      refine hret _ _ _ _ (butTurn rfl KT1 F9) (newsTurn F KT1 N9) ?_
      unfold readDat
      rw [if_neg hz, hst]
      exact DatIn.list (.head _) (.cons (.list (.tail _ (.head _)) (.cons (.int _ _) (.cons (.int _ _) (.cons (.int _ _) (.cons (.int _ _) .nil))))) (.cons (.str _ _) .nil))
    · have N8 : News g1 L' h5 [(XX, instObj 396 DX), (DX, dictOf es n), (DL, listOf #[.str (textS y) t1, .str (Str.ofString "4237.14") t2, .str (Str.ofString "N") t3] c)] := fun p hp => N7 p (List.mem_append_right _ hp)
      clear N7
      k_steps
      dsimp only
      refine wpC_any ?_
      k_steps
      with_reducible rename Fr _ _ _ _ => F9
      with_reducible rename News _ _ _ _ => N9
      refine hret _ _ _ _ (butTurn rfl KT1 F9) (newsTurn F KT1 N9) ?_
      unfold readDat
      rw [if_neg hz, hst]
      exact DatIn.list (.head _) (.cons (.str _ _) (.cons (.str _ _) .nil))
end Mine
end
section
open PySem PySem.W PyProof.Rows
namespace Mine
local macro_rules | `(tactic| walk_at "RESTART") => `(tactic| skip)
theorem restart_ForT {M : Model} {A : Around} {E : Value → Shared → Prop} {s : Shared} {Q : Value → Shared → Prop} (h : Q .none s) : wpAny M A (pure Value.none) Q E s := by
  w_top off
  first
    | (walk1; fail "on")
    | exact wpAny_pure h
end Mine
end
section
open PySem PySem.W PySem.Calls PyProof.Rows PySem.Spec
set_option maxRecDepth 100000
namespace Mine
def TupTurn (h₀ : Heap) (L I : Addr) (o : Obj) (D : Addr) (to : Obj) (J : Nat → (Str → Option Value) → List (Addr × Obj) → Prop) (i : Nat) (s₁ : Shared) (f : Flow) (s₂ : Shared) : Prop :=
  f = .next ∧ ∃ h' tk' m₂ news', s₂ = { s₁ with heap := h', toks := tk' } ∧ Fr h₀ L h' m₂ ∧ News h₀ L h' ((I, o) :: (D, to) :: news') ∧ (∀ p ∈ news', p.1 ≠ I) ∧ (∀ p ∈ news', p.1 ≠ D) ∧ J (i + 1) m₂ news'
section
variable {prog : Program} {w : World} {A : Around} {E : Value → Shared → Prop} {s : Shared} {name : Str} {scope : Scope} {L a : Addr} {cd : Value} {h₀ : Heap} {m : Str → Option Value} {R : Result → Shared → Prop}
theorem forTup_loop {v : Str} {px : Pos} {body : List Stmt} {D : Addr} {to : Obj} {items : Array Value} {nt : Nat} (hh : A.handled = none) (hk : scope.kind = .function) (hv : (envOf name scope L a cd).kindOf v = some .local) (hto : to.cls = .type "tuple") (htd : to.data = .seq items nt)
    (J : Nat → (Str → Option Value) → List (Addr × Obj) → Prop)
    (step : ∀ I o i val m₁ news s₁ E', items[i]? = some val → J i m₁ news → Fr h₀ L s₁.heap (fun y => if y = v then some val else m₁ y) → News h₀ L s₁.heap ((I, o) :: (D, to) :: news) → (∀ p ∈ news, p.1 ≠ I) → (∀ p ∈ news, p.1 ≠ D) → I ≠ D →
      wpC (model prog w) A (execs body (envOf name scope L a cd)) (TupTurn h₀ L I o D to J i s₁) E' s₁) :
    ∀ (k i : Nat) (s : Shared) (I : Addr) (o : Obj) (m : Str → Option Value) (news : List (Addr × Obj)), items.size - i = k → i ≤ items.size → Fr h₀ L s.heap m → News h₀ L s.heap ((I, o) :: (D, to) :: news) → (∀ p ∈ news, p.1 ≠ I) → (∀ p ∈ news, p.1 ≠ D) → I ≠ D → o.cls = .type "tuple_iterator" → o.data = .fields #[.ref D, .int i 0] → J i m news →
      (∀ h' tk' m' news', Fr h₀ L h' m' → News h₀ L h' news' → J items.size m' news' → R (.ok .next) { s with heap := h', toks := tk' }) →
      codeC (model prog w) A (.forLoop (.Name v px) (.ref I) body [] (envOf name scope L a cd)) R s := by
  intro k
  induction k with
  | zero =>
    intro i s I o m news hki hi F N hI hD hID hc hd hJ hR
    have hin : i = items.size := by omega
    subst hin
    refine codeC_forTurn ?_ (fun _ => rfl)
    have n1 := N _ (List.mem_cons_self ..)
    have n2 := N _ (List.mem_cons_of_mem _ (List.mem_cons_self ..))
    refine wpAny_pyNext_tuple_end hh ⟨o, n1.1, hc, hd⟩ ⟨to, n2.1, hto, nt, htd⟩ (by simp) fun h' eb => ?_
    refine hR h' s.toks m news ?_ ?_ hJ
    · obtain ⟨oL, es, ep, hL, hr⟩ := F.ns
      exact ⟨⟨oL, es, ep, eb _ _ (Ne.symm n1.2.1) hL, hr⟩, fun b o' e => eb b o' (fun q => by rw [q, n1.2.2] at e; cases e) (F.keep b o' e), F.above⟩
    · intro p hp
      have z := N p (List.mem_cons_of_mem _ (List.mem_cons_of_mem _ hp))
      exact ⟨eb _ _ (hI p hp) z.1, z.2⟩
  | succ k ih =>
    intro i s I o m news hki hi F N hI hD hID hc hd hJ hR
    have hlt : i < items.size := by omega
    refine codeC_forTurn ?_ (fun _ => rfl)
    have n1 := N _ (List.mem_cons_self ..)
    have n2 := N _ (List.mem_cons_of_mem _ (List.mem_cons_self ..))
    refine wpAny_pyNext_tuple_item ⟨o, n1.1, hc, hd⟩ ⟨to, n2.1, hto, nt, htd⟩ (Array.getElem?_eq_getElem hlt) fun h₁ hit₁ hs₁ => ?_
    obtain ⟨o₁, e₁, c₁, d₁⟩ := hit₁
    have F₁ : Fr h₀ L h₁ m := by
      obtain ⟨oL, es, ep, hL, hr⟩ := F.ns
      exact ⟨⟨oL, es, ep, (hs₁.2 _ (Ne.symm n1.2.1)).trans hL, hr⟩, fun b o' e => (hs₁.2 b (fun q => by rw [q, n1.2.2] at e; cases e)).trans (F.keep b o' e), F.above⟩
    have N₁ : News h₀ L h₁ ((I, o₁) :: (D, to) :: news) := fun p hp => by
      rcases List.mem_cons.mp hp with rfl | hp
      · exact ⟨e₁, n1.2⟩
      · rcases List.mem_cons.mp hp with rfl | hp
        · exact ⟨(hs₁.2 _ (Ne.symm hID)).trans n2.1, n2.2⟩
        · have z := N p (List.mem_cons_of_mem _ (List.mem_cons_of_mem _ hp))
          exact ⟨(hs₁.2 _ (hI p hp)).trans z.1, z.2⟩
    dsimp only
    refine wpAny_assign_Name (wpAny_storeName_local hv F₁.ns (fun h₂ hn₂ hs₂ => ?_) (by show (scope.kind == .class || (scope.kind == .module && L != mainGlobals)) = false; rw [hk]; rfl))
    have F₂ := F₁.set hn₂ hs₂
    have N₂ := N₁.set hs₂
    refine wpC_mono (step I o₁ i _ m news _ _ (Array.getElem?_eq_getElem hlt) hJ F₂ N₂ hI hD hID) (fun f s₃ h₃ => ?_) fun _ _ e => e
    obtain ⟨rfl, h₃', tk₃, m₂, news', rfl, F₃, N₃, hI₃, hD₃, hJ₃⟩ := h₃
    exact ih (i + 1) _ I o₁ m₂ news' (by omega) hlt F₃ N₃ hI₃ hD₃ hID c₁ d₁ hJ₃ fun h' tk' m' news'' F' N' J' => hR h' tk' m' news'' F' N' J'
theorem forTup {v : Str} {px : Pos} {body : List Stmt} {D : Addr} {to : Obj} {items : Array Value} {nt : Nat} {news : List (Addr × Obj)} (hh : A.handled = none) (hk : scope.kind = .function) (hv : (envOf name scope L a cd).kindOf v = some .local) (hto : to.cls = .type "tuple") (htd : to.data = .seq items nt)
    (J : Nat → (Str → Option Value) → List (Addr × Obj) → Prop) (F : Fr h₀ L s.heap m) (N : News h₀ L s.heap ((D, to) :: news)) (hD : ∀ p ∈ news, p.1 ≠ D) (h0 : J 0 m news)
    (step : ∀ I o i val m₁ news s₁ E', items[i]? = some val → J i m₁ news → Fr h₀ L s₁.heap (fun y => if y = v then some val else m₁ y) → News h₀ L s₁.heap ((I, o) :: (D, to) :: news) → (∀ p ∈ news, p.1 ≠ I) → (∀ p ∈ news, p.1 ≠ D) → I ≠ D →
      wpC (model prog w) A (execs body (envOf name scope L a cd)) (TupTurn h₀ L I o D to J i s₁) E' s₁)
    (hR : ∀ h' tk' m' news', Fr h₀ L h' m' → News h₀ L h' news' → J items.size m' news' → R (.ok .next) { s with heap := h', toks := tk' }) :
    wpAny (model prog w) A (pyIter (.ref D)) (fun it s₂ => codeC (model prog w) A (.forLoop (.Name v px) it body [] (envOf name scope L a cd)) R s₂) E s := by
  have n2 := N _ (List.mem_cons_self ..)
  refine wpAny_pyIter_tuple ⟨to, n2.1, hto, nt, htd⟩ ?_
  have N' := News.push F N { cls := .type "tuple_iterator", data := .fields #[.ref D, .int 0 0] } rfl
  have lt : ∀ p ∈ (D, to) :: news, p.1 ≠ s.heap.objs.size := fun p hp => Nat.ne_of_lt (Heap.lt_size (N p hp).1)
  exact forTup_loop hh hk hv hto htd J step _ 0 _ _ _ m news rfl (Nat.zero_le _) (F.push _) N' (fun p hp => lt p (List.mem_cons_of_mem _ hp)) hD (Ne.symm (lt _ (List.mem_cons_self ..))) rfl rfl h0 fun h' tk' m' news' F' N'' J' => hR h' tk' m' news' F' N'' J'
end
end Mine
end
section
open PySem PySem.W PyProof.Rows
namespace Mine
local macro_rules | `(tactic| walk_at "RESTART") => `(tactic| skip)
theorem restart_Led {M : Model} {A : Around} {E : Value → Shared → Prop} {s : Shared} {Q : Value → Shared → Prop} (h : Q .none s) : wpAny M A (pure Value.none) Q E s := by
  w_top off
  first
    | (walk1; fail "on")
    | exact wpAny_pure h
end Mine
end
section
open PySem PySem.W PySem.Calls PyProof.Rows PySem.Spec
set_option maxRecDepth 100000
namespace Mine
/-- the ledger of the law's loop: the iterator, its tuple, the two lists, and what the lists hold -/
structure Led (h₀ : Heap) (L I : Addr) (o : Obj) (Dt : Addr) (to : Obj) (TA DU : Addr) (ts ds : List Value) (rest : List (Addr × Obj)) (h : Heap) : Prop where
  news : ∃ c1 c2, News h₀ L h ((I, o) :: (Dt, to) :: (TA, listOf ts.toArray c1) :: (DU, listOf ds.toArray c2) :: rest)
  n1 : I ≠ Dt
  n2 : TA ≠ DU
  n3 : TA ≠ I
  n4 : DU ≠ I
  n5 : TA ≠ Dt
  n6 : DU ≠ Dt
  apart : ∀ p ∈ rest, p.1 ≠ I ∧ p.1 ≠ Dt ∧ p.1 ≠ TA ∧ p.1 ≠ DU
section
variable {h₀ h h' : Heap} {L I : Addr} {o : Obj} {Dt : Addr} {to : Obj} {TA DU : Addr} {ts ds : List Value} {rest : List (Addr × Obj)} {m : Str → Option Value}
theorem Led.grow {new : List (Addr × Obj)} (F : Fr h₀ L h m) (l : Led h₀ L I o Dt to TA DU ts ds rest h) (st : ButL L h h') (N : News h L h' new) : Led h₀ L I o Dt to TA DU ts ds (new ++ rest) h' := by
  obtain ⟨c1, c2, N0⟩ := l.news
  have N1 := newsBut N0 st
  have N2 := newsUp F N
  have ne : ∀ p ∈ new, ∀ q ∈ ((I, o) :: (Dt, to) :: (TA, listOf ts.toArray c1) :: (DU, listOf ds.toArray c2) :: rest), p.1 ≠ q.1 := fun p hp q hq e => by
    have := (N p hp).2.2
    rw [e, (N0 q hq).1] at this
    cases this
  refine ⟨⟨c1, c2, fun p hp => ?_⟩, l.n1, l.n2, l.n3, l.n4, l.n5, l.n6, fun p hp => ?_⟩
  · simp only [List.mem_cons, List.mem_append] at hp
    rcases hp with h | h | h | h | h | h
    · exact N1 p (by simp [h])
    · exact N1 p (by simp [h])
    · exact N1 p (by simp [h])
    · exact N1 p (by simp [h])
    · exact N2 p h
    · exact N1 p (by simp [h])
  · rcases List.mem_append.mp hp with hp | hp
    · exact ⟨ne p hp _ (.head _), ne p hp _ (.tail _ (.head _)), ne p hp _ (.tail _ (.tail _ (.head _))), ne p hp _ (.tail _ (.tail _ (.tail _ (.head _))))⟩
    · exact l.apart p hp
theorem Led.set (l : Led h₀ L I o Dt to TA DU ts ds rest h) (hs : Heap.SameBut L h h') : Led h₀ L I o Dt to TA DU ts ds rest h' := by
  obtain ⟨c1, c2, N0⟩ := l.news
  exact ⟨⟨c1, c2, N0.set hs⟩, l.n1, l.n2, l.n3, l.n4, l.n5, l.n6, l.apart⟩
theorem Led.of_sub {all new : List (Addr × Obj)} {c1 c2 : Nat} (l : Led h₀ L I o Dt to TA DU ts ds rest h) (N : News h₀ L h' all) (h1 : ∀ p ∈ ((I, o) :: (Dt, to) :: (TA, listOf ts.toArray c1) :: (DU, listOf ds.toArray c2) :: rest), p ∈ all)
    (hn : ∀ p ∈ new, p ∈ all) (ha : ∀ p ∈ new, ∀ q ∈ ((I, o) :: (Dt, to) :: (TA, listOf ts.toArray c1) :: (DU, listOf ds.toArray c2) :: rest), q.1 ≠ p.1) : Led h₀ L I o Dt to TA DU ts ds (new ++ rest) h' := by
  refine ⟨⟨c1, c2, fun p hp => N p ?_⟩, l.n1, l.n2, l.n3, l.n4, l.n5, l.n6, fun p hp => ?_⟩
  · simp only [List.mem_cons, List.mem_append] at hp
    rcases hp with h | h | h | h | h | h
    · exact h1 p (by simp [h])
    · exact h1 p (by simp [h])
    · exact h1 p (by simp [h])
    · exact h1 p (by simp [h])
    · exact hn p h
    · exact h1 p (by simp [h])
  · rcases List.mem_append.mp hp with hp | hp
    · exact ⟨Ne.symm (ha p hp _ (.head _)), Ne.symm (ha p hp _ (.tail _ (.head _))), Ne.symm (ha p hp _ (.tail _ (.tail _ (.head _)))), Ne.symm (ha p hp _ (.tail _ (.tail _ (.tail _ (.head _)))))⟩
    · exact l.apart p hp
theorem Led.of_all {own : List (Addr × Obj)} {c1 c2 : Nat} (l : Led h₀ L I o Dt to TA DU ts ds rest h) (N : News h₀ L h' (own ++ ((I, o) :: (Dt, to) :: (TA, listOf ts.toArray c1) :: (DU, listOf ds.toArray c2) :: rest)))
    {new : List (Addr × Obj)} (hn : ∀ p ∈ new, p ∈ own) (ha : ∀ p ∈ new, ∀ q ∈ ((I, o) :: (Dt, to) :: (TA, listOf ts.toArray c1) :: (DU, listOf ds.toArray c2) :: rest), q.1 ≠ p.1) : Led h₀ L I o Dt to TA DU ts ds (new ++ rest) h' := by
  refine ⟨⟨c1, c2, fun p hp => N p ?_⟩, l.n1, l.n2, l.n3, l.n4, l.n5, l.n6, fun p hp => ?_⟩
  · simp only [List.mem_cons, List.mem_append] at hp ⊢
    rcases hp with h | h | h | h | h | h
    · simp [h]
    · simp [h]
    · simp [h]
    · simp [h]
    · exact .inl (hn p h)
    · simp [h]
  · rcases List.mem_append.mp hp with hp | hp
    · exact ⟨Ne.symm (ha p hp _ (.head _)), Ne.symm (ha p hp _ (.tail _ (.head _))), Ne.symm (ha p hp _ (.tail _ (.tail _ (.head _)))), Ne.symm (ha p hp _ (.tail _ (.tail _ (.tail _ (.head _)))))⟩
    · exact l.apart p hp
end
section
variable {prog : Program} {w : World} {A : Around} {E : Value → Shared → Prop} {s : Shared} {Q : Value → Shared → Prop}
variable {h₀ : Heap} {L I : Addr} {o : Obj} {Dt : Addr} {to : Obj} {TA DU : Addr} {ts ds : List Value} {rest : List (Addr × Obj)} {m : Str → Option Value}
theorem Led.appT {v : Value} (F : Fr h₀ L s.heap m) (l : Led h₀ L I o Dt to TA DU ts ds rest s.heap) (hz : ts.length ≤ 100)
    (h : ∀ h', Fr h₀ L h' m → Led h₀ L I o Dt to TA DU (ts ++ [v]) ds rest h' → Q .none { s with heap := h' }) : wpAny (model prog w) A (call (.builtin "list.append") [.ref TA, v]) Q E s := by
  obtain ⟨c1, c2, N0⟩ := l.news
  refine append_K F N0 (.tail (Ne.symm l.n3) (.tail (Ne.symm l.n5) (.head (fun p hp => ?_)))) (fun h' F' N' => h h' F' ⟨⟨_, _, by rw [List.push_toArray] at N'; exact N'⟩, l.n1, l.n2, l.n3, l.n4, l.n5, l.n6, l.apart⟩) ?_
  · rcases List.mem_cons.mp hp with rfl | hp
    · exact Ne.symm l.n2
    · exact (l.apart p hp).2.2.1
  · rw [List.size_toArray, sizeLine_eq]
    omega
theorem Led.appD {v : Value} (F : Fr h₀ L s.heap m) (l : Led h₀ L I o Dt to TA DU ts ds rest s.heap) (hz : ds.length ≤ 100)
    (h : ∀ h', Fr h₀ L h' m → Led h₀ L I o Dt to TA DU ts (ds ++ [v]) rest h' → Q .none { s with heap := h' }) : wpAny (model prog w) A (call (.builtin "list.append") [.ref DU, v]) Q E s := by
  obtain ⟨c1, c2, N0⟩ := l.news
  refine append_K F N0 (.tail (Ne.symm l.n4) (.tail (Ne.symm l.n6) (.tail l.n2 (.head (fun p hp => ?_))))) (fun h' F' N' => h h' F' ⟨⟨_, _, by rw [List.push_toArray] at N'; exact N'⟩, l.n1, l.n2, l.n3, l.n4, l.n5, l.n6, l.apart⟩) ?_
  · exact (l.apart p hp).2.2.2
  · rw [List.size_toArray, sizeLine_eq]
    omega
theorem Led.methT {pl : Sem Bool} {Q : Value × List Value → Shared → Prop} (l : Led h₀ L I o Dt to TA DU ts ds rest s.heap) (h : Q (.builtin "list.append", [.ref TA]) s) : wpAny (model prog w) A (getMethod (.ref TA) "append" pl) Q E s := by
  obtain ⟨c1, c2, N0⟩ := l.news
  exact listMethod_K N0 (.tail _ (.tail _ (.head _))) PySem.F.slot_list_append PySem.F.type_list_append h
theorem Led.methD {pl : Sem Bool} {Q : Value × List Value → Shared → Prop} (l : Led h₀ L I o Dt to TA DU ts ds rest s.heap) (h : Q (.builtin "list.append", [.ref DU]) s) : wpAny (model prog w) A (getMethod (.ref DU) "append" pl) Q E s := by
  obtain ⟨c1, c2, N0⟩ := l.news
  exact listMethod_K N0 (.tail _ (.tail _ (.tail _ (.head _)))) PySem.F.slot_list_append PySem.F.type_list_append h
end
end Mine
end
section
open PySem PySem.W PyProof.Rows
namespace Mine
local macro_rules | `(tactic| walk_at "RESTART") => `(tactic| skip)
theorem restart_PLaw {M : Model} {A : Around} {E : Value → Shared → Prop} {s : Shared} {Q : Value → Shared → Prop} (h : Q .none s) : wpAny M A (pure Value.none) Q E s := by
  w_top off
  first
    | (walk1; fail "on")
    | exact wpAny_pure h
end Mine
end
section
open PySem PySem.W PySem.Calls PyProof.Rows PySem.Spec PySem.Builtin.Str
set_option maxRecDepth 100000
namespace Mine
theorem slice_clip (x : Str) (i j : Nat) : Txt.slice x (some (i : Int)) (some (j : Int)) = Txt.slice x (some ((min i x.length : Nat) : Int)) (some ((min j x.length : Nat) : Int)) := by
  have e : strSliceIndices (some (i : Int)) (some (j : Int)) 1 x.length = strSliceIndices (some ((min i x.length : Nat) : Int)) (some ((min j x.length : Nat) : Int)) 1 x.length := by
    unfold strSliceIndices
    simp only [show (1 : Int) > 0 by decide, if_true]
    congr 1 <;> (rw [if_neg (by omega), if_neg (by omega)]; omega)
  unfold Txt.slice
  rw [e]
theorem slice_clip_to (x : Str) (j : Nat) : Txt.slice x none (some (j : Int)) = Txt.slice x none (some ((min j x.length : Nat) : Int)) := by
  have e : strSliceIndices none (some (j : Int)) 1 x.length = strSliceIndices none (some ((min j x.length : Nat) : Int)) 1 x.length := by
    unfold strSliceIndices
    simp only [show (1 : Int) > 0 by decide, if_true]
    congr 1
    rw [if_neg (by omega), if_neg (by omega)]
    omega
  unfold Txt.slice
  rw [e]
theorem slice_clip_from (x : Str) (i : Nat) : Txt.slice x (some (i : Int)) none = Txt.slice x (some ((min i x.length : Nat) : Int)) none := by
  have e : strSliceIndices (some (i : Int)) none 1 x.length = strSliceIndices (some ((min i x.length : Nat) : Int)) none 1 x.length := by
    unfold strSliceIndices
    simp only [show (1 : Int) > 0 by decide, if_true]
    congr 1
    rw [if_neg (by omega), if_neg (by omega)]
    omega
  unfold Txt.slice
  rw [e]
theorem Z_slice (l : List Nat) (i j : Nat) (h : i ≤ j) : Txt.slice (S l) (some (i : Int)) (some (j : Int)) = S ((l.drop i).take (j - i)) := by
  rw [slice_clip, S_len, S_slice l (min i l.length) (min j l.length) (by omega) (by omega)]
  refine congrArg S ?_
  by_cases hi : i ≤ l.length
  · rw [Nat.min_eq_left hi]
    by_cases hj : j ≤ l.length
    · rw [Nat.min_eq_left hj]
    · rw [Nat.min_eq_right (by omega), List.take_of_length_le (by rw [List.length_drop]; omega), List.take_of_length_le (by rw [List.length_drop]; omega)]
  · rw [Nat.min_eq_right (by omega), Nat.min_eq_right (by omega), List.drop_of_length_le (Nat.le_refl _), List.drop_of_length_le (by omega)]
    simp
theorem Z_to (l : List Nat) (j : Nat) : Txt.slice (S l) none (some (j : Int)) = S (l.take j) := by
  rw [slice_clip_to, S_len, S_to l (min j l.length) (by omega)]
  refine congrArg S ?_
  by_cases hj : j ≤ l.length
  · rw [Nat.min_eq_left hj]
  · rw [Nat.min_eq_right (by omega), List.take_of_length_le (Nat.le_refl _), List.take_of_length_le (by omega)]
theorem Z_from (l : List Nat) (i : Nat) : Txt.slice (S l) (some (i : Int)) none = S (l.drop i) := by
  rw [slice_clip_from, S_len, S_from l (min i l.length) (by omega)]
  refine congrArg S ?_
  by_cases hi : i ≤ l.length
  · rw [Nat.min_eq_left hi]
  · rw [Nat.min_eq_right (by omega), List.drop_of_length_le (Nat.le_refl _), List.drop_of_length_le (by omega)]
def hd6 (H M C : Nat) : List Nat := [48 + H / 10, 48 + H % 10, 48 + M / 10, 48 + M % 10, 48 + C / 10, 48 + C % 10]
theorem two_read (n : Nat) (h : n < 100) : PySem.intText? (S [48 + n / 10, 48 + n % 10]) = some (n : Int) := by
  rw [intText_digits (x := S [48 + n / 10, 48 + n % 10]) (by
    intro c hc
    simp only [List.mem_cons, List.not_mem_nil, or_false] at hc
    rcases hc with rfl | rfl <;> omega) (by simp) (by rw [S_len]; show 2 ≤ 4300; decide)]
  congr 1
  show (((0 * 10 + (48 + n / 10 - 48)) * 10 + (48 + n % 10 - 48) : Nat) : Int) = n
  omega
def tailBad (tl : List Nat) : Bool := decide ((S tl).length ≠ 0) && !(Txt.item (S tl) 0 == Str.ofString "." && Txt.isdigit (S (tl.drop 1)))
def tailMs (tl : List Nat) : Option Int := if (S tl).length = 0 then some 0 else PySem.intText? (S ((tl.drop 1 ++ [48, 48, 48, 48, 48, 48]).take 6))
theorem stamp_of (H M C : Nat) (h1 : H < 100) (h2 : M < 100) (h3 : C < 100) (tl : List Nat) :
    stamp (S (hd6 H M C ++ tl)) = match tailMs tl with | none => none | some u => if (tailBad tl || !decide (H < 24) || !decide (M < 60) || !decide (C < 60)) = true then none else some ((H : Int), (M : Int), (C : Int), u) := by
  have e0 : Txt.slice (S (hd6 H M C ++ tl)) (some 0) (some 2) = S [48 + H / 10, 48 + H % 10] := Z_slice _ 0 2 (by decide)
  have e1 : Txt.slice (S (hd6 H M C ++ tl)) (some 2) (some 4) = S [48 + M / 10, 48 + M % 10] := Z_slice _ 2 4 (by decide)
  have e2 : Txt.slice (S (hd6 H M C ++ tl)) (some 4) (some 6) = S [48 + C / 10, 48 + C % 10] := Z_slice _ 4 6 (by decide)
  have e3 : Txt.slice (S (hd6 H M C ++ tl)) (some 6) none = S tl := Z_from _ 6
  have e4 : Txt.slice (S tl) (some 1) none = S (tl.drop 1) := Z_from _ 1
  have e5 : msText (S (hd6 H M C ++ tl)) = S ((tl.drop 1 ++ [48, 48, 48, 48, 48, 48]).take 6) := by
    unfold msText
    rw [e3, e4, show Str.ofString "000000" = S [48, 48, 48, 48, 48, 48] by decide, S_append]
    exact Z_to _ 6
  have e6 : msOf (S (hd6 H M C ++ tl)) = tailMs tl := by
    unfold msOf tailMs
    rw [e3, e5]
  unfold stamp
  rw [e6, e0, e1, e2, two_read H h1, two_read M h2, two_read C h3]
  have e7 : stampBad (S (hd6 H M C ++ tl)) H M C = (tailBad tl || !decide (H < 24) || !decide (M < 60) || !decide (C < 60)) := by
    unfold stampBad tailBad
    rw [e3, e4]
    have a1 : decide (0 ≤ (H : Int) ∧ (H : Int) < 24) = decide (H < 24) := by rw [Bool.eq_iff_iff, decide_eq_true_eq, decide_eq_true_eq]; omega
    have a2 : decide (0 ≤ (M : Int) ∧ (M : Int) < 60) = decide (M < 60) := by rw [Bool.eq_iff_iff, decide_eq_true_eq, decide_eq_true_eq]; omega
    have a3 : decide (0 ≤ (C : Int) ∧ (C : Int) < 60) = decide (C < 60) := by rw [Bool.eq_iff_iff, decide_eq_true_eq, decide_eq_true_eq]; omega
    rw [a1, a2, a3]
  cases tailMs tl with
  | none => rfl
  | some u =>
    dsimp only
    rw [e7]
theorem stamp_bad (H M C : Nat) (h1 : H < 100) (h2 : M < 100) (h3 : C < 100) (tl : List Nat) (hb : tailBad tl = true) : stamp (S (hd6 H M C ++ tl)) = none := by
  rw [stamp_of H M C h1 h2 h3 tl, hb]
  cases tailMs tl <;> rfl
theorem stamp_fail {x : Str} (h : PySem.intText? (Txt.slice x (some 0) (some 2)) = none ∨ PySem.intText? (Txt.slice x (some 2) (some 4)) = none ∨ PySem.intText? (Txt.slice x (some 4) (some 6)) = none) : stamp x = none := by
  unfold stamp
  cases msOf x with
  | none => rfl
  | some u =>
    dsimp only
    cases ha : PySem.intText? (Txt.slice x (some 0) (some 2)) with
    | none => rfl
    | some a =>
      dsimp only
      cases hb : PySem.intText? (Txt.slice x (some 2) (some 4)) with
      | none => rfl
      | some b =>
        dsimp only
        cases hc : PySem.intText? (Txt.slice x (some 4) (some 6)) with
        | none => rfl
        | some c =>
          rw [ha, hb, hc] at h
          rcases h with h | h | h <;> cases h
theorem read_empty : PySem.intText? (S []) = none := by decide +kernel
theorem read_o1 : ∀ k : Nat, k < 10 → PySem.intText? (S [111, 48 + k]) = none := by decide +kernel
theorem read_o2 : ∀ k : Nat, k < 10 → PySem.intText? (S [48 + k, 111]) = none := by decide +kernel
theorem stamp_short (l : List Nat) (h : l.length ≤ 4) : stamp (S l) = none := by
  refine stamp_fail (.inr (.inr ?_))
  have e : Txt.slice (S l) (some 4) (some 6) = S ((l.drop 4).take 2) := Z_slice _ 4 6 (by decide)
  rw [e, List.drop_of_length_le h]
  exact read_empty
theorem stamp_o (H M C : Nat) (h1 : H < 100) (h2 : M < 100) (h3 : C < 100) (tl : List Nat) (p : Nat) (hp : p < 6) : stamp (S ((hd6 H M C ++ tl).take p ++ [111] ++ (hd6 H M C ++ tl).drop (p + 1))) = none := by
  match p, hp with
  | 0, _ =>
    refine stamp_fail (.inl ?_)
    rw [show Txt.slice (S ((hd6 H M C ++ tl).take 0 ++ [111] ++ (hd6 H M C ++ tl).drop (0 + 1))) (some 0) (some 2) = S [111, 48 + H % 10] from Z_slice _ 0 2 (by decide)]
    exact read_o1 _ (by omega)
  | 1, _ =>
    refine stamp_fail (.inl ?_)
    rw [show Txt.slice (S ((hd6 H M C ++ tl).take 1 ++ [111] ++ (hd6 H M C ++ tl).drop (1 + 1))) (some 0) (some 2) = S [48 + H / 10, 111] from Z_slice _ 0 2 (by decide)]
    exact read_o2 _ (by omega)
  | 2, _ =>
    refine stamp_fail (.inr (.inl ?_))
    rw [show Txt.slice (S ((hd6 H M C ++ tl).take 2 ++ [111] ++ (hd6 H M C ++ tl).drop (2 + 1))) (some 2) (some 4) = S [111, 48 + M % 10] from Z_slice _ 2 4 (by decide)]
    exact read_o1 _ (by omega)
  | 3, _ =>
    refine stamp_fail (.inr (.inl ?_))
    rw [show Txt.slice (S ((hd6 H M C ++ tl).take 3 ++ [111] ++ (hd6 H M C ++ tl).drop (3 + 1))) (some 2) (some 4) = S [48 + M / 10, 111] from Z_slice _ 2 4 (by decide)]
    exact read_o2 _ (by omega)
  | 4, _ =>
    refine stamp_fail (.inr (.inr ?_))
    rw [show Txt.slice (S ((hd6 H M C ++ tl).take 4 ++ [111] ++ (hd6 H M C ++ tl).drop (4 + 1))) (some 4) (some 6) = S [111, 48 + C % 10] from Z_slice _ 4 6 (by decide)]
    exact read_o1 _ (by omega)
  | 5, _ =>
    refine stamp_fail (.inr (.inr ?_))
    rw [show Txt.slice (S ((hd6 H M C ++ tl).take 5 ++ [111] ++ (hd6 H M C ++ tl).drop (5 + 1))) (some 4) (some 6) = S [48 + C / 10, 111] from Z_slice _ 4 6 (by decide)]
    exact read_o2 _ (by omega)
end Mine
end
section
open PySem PySem.W PyProof.Rows
namespace Mine
local macro_rules | `(tactic| walk_at "RESTART") => `(tactic| skip)
theorem restart_PLaw2 {M : Model} {A : Around} {E : Value → Shared → Prop} {s : Shared} {Q : Value → Shared → Prop} (h : Q .none s) : wpAny M A (pure Value.none) Q E s := by
  w_top off
  first
    | (walk1; fail "on")
    | exact wpAny_pure h
end Mine
end
section
open PySem PySem.W PySem.Calls PyProof.Rows PySem.Spec PySem.Builtin.Str PySem.NumText
set_option maxRecDepth 100000
namespace Mine
theorem fig_S : ∀ k : Nat, k < 10 → Str.ofString (toString (k : Int)) = S [48 + k] := by decide
theorem dv_snoc (cs : List Nat) (c : Nat) : digitsVal (cs ++ [c]) = digitsVal cs * 10 + (c - 48) := by
  unfold digitsVal
  rw [List.foldl_append]
  rfl
abbrev zeros6 : List Nat := [48, 48, 48, 48, 48, 48]
theorem zeros_at (i : Nat) (h : i < 6) : zeros6[i]? = some 48 := by
  match i, h with
  | 0, _ => rfl
  | 1, _ => rfl
  | 2, _ => rfl
  | 3, _ => rfl
  | 4, _ => rfl
  | 5, _ => rfl
theorem take_snoc (l : List Nat) (n c : Nat) (h : l[n]? = some c) : l.take (n + 1) = l.take n ++ [c] := by
  rw [List.take_add_one, h]
  rfl
theorem frac_inv (d : Nat) (l : List Nat) (r : Int) : ∀ n : Nat, n ≤ 8 → ∃ figs v r', fracN (d : Int) n (S l, 0, r) = (S (l ++ figs), v, r') ∧ AllDigits figs ∧ figs.length = min n (d + 1) ∧ v = ((digitsVal ((figs ++ zeros6).take (min n 6)) : Nat) : Int) := by
  intro n
  induction n with
  | zero => exact fun _ => ⟨[], 0, r, by rw [List.append_nil]; rfl, (fun _ h => nomatch h), (by simp), rfl⟩
  | succ n ih =>
    intro hn
    obtain ⟨figs, v, r', e, ha, hl, hv⟩ := ih (by omega)
    have e' : fracN (d : Int) (n + 1) (S l, 0, r) = fracStep (d : Int) (S (l ++ figs), v, r') (n : Int) := by
      show fracStep (d : Int) (fracN (d : Int) n (S l, 0, r)) (n : Int) = _
      rw [e]
    rw [e']
    unfold fracStep
    dsimp only
    have h0 : 0 ≤ r'.fmod 10 := Int.fmod_nonneg_of_pos _ (by decide)
    have h9 : r'.fmod 10 < 10 := Int.fmod_lt_of_pos _ (by decide)
    obtain ⟨k, hk⟩ := Int.eq_ofNat_of_zero_le h0
    by_cases hd : n ≤ d
    · rw [if_pos (by omega), hk, fig_S k (by omega), S_append, List.append_assoc]
      have hln : figs.length = n := by omega
      refine ⟨figs ++ [48 + k], _, _, rfl, ?_, ?_, ?_⟩
      · intro c hc
        rcases List.mem_append.mp hc with hc | hc
        · exact ha c hc
        · rw [List.mem_singleton] at hc
          omega
      · rw [List.length_append, hln, List.length_singleton]
        omega
      · by_cases h6 : n < 6
        · rw [if_pos (by omega), hv, show min (n + 1) 6 = n + 1 by omega, show min n 6 = n by omega]
          have t1 : (figs ++ zeros6).take n = figs := List.take_left' hln
          have t2 : ((figs ++ [48 + k]) ++ zeros6).take (n + 1) = figs ++ [48 + k] := List.take_left' (by rw [List.length_append, hln]; rfl)
          rw [t1, t2, dv_snoc]
          omega
        · rw [if_neg (by omega), hv, show min (n + 1) 6 = 6 by omega, show min n 6 = 6 by omega]
          rw [List.take_append_of_le_length (by omega), List.append_assoc, List.take_append_of_le_length (by omega)]
    · rw [if_neg (by omega)]
      refine ⟨figs, _, _, rfl, ha, by omega, ?_⟩
      by_cases h6 : n < 6
      · rw [if_pos (by omega), hv, show min (n + 1) 6 = n + 1 by omega, show min n 6 = n by omega]
        have t : (figs ++ zeros6)[n]? = some 48 := by
          rw [List.getElem?_append_right (by omega)]
          exact zeros_at _ (by omega)
        rw [take_snoc _ _ _ t, dv_snoc]
        omega
      · rw [if_neg (by omega), hv, show min (n + 1) 6 = 6 by omega, show min n 6 = 6 by omega]
theorem digit_is {figs : List Nat} (h : AllDigits figs) (h1 : figs ≠ []) : Txt.isdigit (S figs) = true := by
  have hp : 0 < figs.length := List.length_pos_iff.mpr h1
  show ((S figs).length > 0 && (S figs).cps.all Unicode.isDigit) = true
  rw [S_len]
  simp only [Bool.and_eq_true, decide_eq_true_eq]
  refine ⟨hp, ?_⟩
  rw [List.all_toArray, List.all_eq_true]
  intro c hc
  have hr := h c hc
  rw [cls_isdigit c (by omega)]
  have : ∀ c : Nat, c < 128 → 48 ≤ c → c ≤ 57 → inR 48 57 ⟨#[c]⟩ = true := by decide +kernel
  exact this c (by omega) hr.1 hr.2
theorem dot_item (r : List Nat) : Txt.item (S (46 :: r)) 0 = Str.ofString "." := by
  have e : Str.ofString "." = S [46] := by decide
  have e2 : seqIndex? 0 (S (46 :: r)).length = some 0 := by
    rw [S_len]
    simp [seqIndex?]
  unfold Txt.item Txt.charAt
  rw [e, e2]
  simp [S]
theorem frac_bad {figs : List Nat} (h : AllDigits figs) (h1 : figs ≠ []) : tailBad (46 :: figs) = false := by
  unfold tailBad
  rw [dot_item, show (46 :: figs).drop 1 = figs from rfl, digit_is h h1]
  simp
theorem frac_ms {figs : List Nat} (h : AllDigits figs) : tailMs (46 :: figs) = some ((digitsVal ((figs ++ zeros6).take 6) : Nat) : Int) := by
  have hl : ((figs ++ zeros6).take 6).length = 6 := by simp
  unfold tailMs
  rw [if_neg (by rw [S_len]; simp), show (46 :: figs).drop 1 = figs from rfl]
  refine intText_digits (x := S ((figs ++ zeros6).take 6)) ?_ ?_ ?_
  · intro c hc
    have hc' : c ∈ (figs ++ zeros6).take 6 := by simpa using hc
    rcases List.mem_append.mp (List.mem_of_mem_take hc') with hm | hm
    · exact h c hm
    · simp only [List.mem_cons, List.not_mem_nil, or_false] at hm
      omega
  · intro e
    have : (figs ++ zeros6).take 6 = [] := by simpa using e
    rw [this] at hl
    cases hl
  · rw [S_len, hl]
    decide
theorem bad_dot : tailBad [46] = true := by decide +kernel
theorem bad_colon : tailBad [58, 53] = true := by decide +kernel
theorem bad_x : tailBad [46, 53, 120] = true := by decide +kernel
theorem bad_nil : tailBad [] = false := by decide +kernel
theorem ms_nil : tailMs [] = some 0 := by decide +kernel
end Mine
end
section
open PySem PySem.W PyProof.Rows
namespace Mine
local macro_rules | `(tactic| walk_at "RESTART") => `(tactic| skip)
theorem restart_PLaw3 {M : Model} {A : Around} {E : Value → Shared → Prop} {s : Shared} {Q : Value → Shared → Prop} (h : Q .none s) : wpAny M A (pure Value.none) Q E s := by
  w_top off
  first
    | (walk1; fail "on")
    | exact wpAny_pure h
end Mine
end
section
open PySem PySem.W PySem.Calls PyProof.Rows PySem.Spec PySem.Builtin.Str PySem.NumText
set_option maxRecDepth 100000
namespace Mine
/-- the signs that a row's text is made of -/
def SignOk (c : Nat) : Prop := (48 ≤ c ∧ c ≤ 58) ∨ c = 46 ∨ c = 120 ∨ c = 111
theorem hd6_ok (H M C : Nat) (h1 : H < 100) (h2 : M < 100) (h3 : C < 100) : ∀ c ∈ hd6 H M C, SignOk c := by
  intro c hc
  unfold hd6 at hc
  unfold SignOk
  simp only [List.mem_cons, List.not_mem_nil, or_false] at hc
  rcases hc with rfl | rfl | rfl | rfl | rfl | rfl <;> omega
theorem two_S (n : Nat) : two (n : Int) = S [48 + n / 10, 48 + n % 10] := rfl
/-- the text of a row and its reading, ahead of the spoiling -/
structure PickForm (H M C : Nat) (r : Str × Int × Bool) (tl : List Nat) : Prop where
  text : r.1 = S (hd6 H M C ++ tl)
  signs : ∀ c ∈ tl, SignOk c
  size : tl.length ≤ 9
  reads : stamp (S (hd6 H M C ++ tl)) = if r.2.2 = true then some ((H : Int), (M : Int), (C : Int), r.2.1) else none
theorem good_if {H M C : Nat} {u : Int} {bad : Bool} (hb : bad = false) :
    (if (bad || !decide (H < 24) || !decide (M < 60) || !decide (C < 60)) = true then (none : Option (Int × Int × Int × Int)) else some ((H : Int), (M : Int), (C : Int), u)) =
      if (decide (H < 24 ∧ M < 60 ∧ C < 60)) = true then some ((H : Int), (M : Int), (C : Int), u) else none := by
  subst hb
  by_cases g : H < 24 ∧ M < 60 ∧ C < 60
  · rw [if_neg (by simp [g.1, g.2.1, g.2.2]), if_pos (decide_eq_true g)]
  · have hn : ¬ (decide (H < 24 ∧ M < 60 ∧ C < 60) = true) := by rw [decide_eq_true_eq]; exact g
    rw [if_neg hn, if_pos]
    rw [Bool.or_eq_true, Bool.or_eq_true, Bool.or_eq_true]
    simp only [Bool.not_eq_true', decide_eq_false_iff_not]
    omega
theorem pick_form (p d r : Int) (H M C : Nat) (h1 : H < 100) (h2 : M < 100) (h3 : C < 100) (hp0 : 0 ≤ p) (hp8 : p < 8) (hd0 : 0 ≤ d) (hd8 : d < 8) :
    ∃ tl, PickForm H M C (pickOf p d r (S (hd6 H M C)) (decide (H < 24 ∧ M < 60 ∧ C < 60))) tl := by
  unfold pickOf
  have ed : Str.ofString "." = S [46] := by decide
  have ec : Str.ofString ":5" = S [58, 53] := by decide
  have ex : Str.ofString ".5x" = S [46, 53, 120] := by decide
  by_cases q1 : 1 ≤ p ∧ p ≤ 4
  · rw [if_pos q1]
    obtain ⟨dn, rfl⟩ := Int.eq_ofNat_of_zero_le hd0
    obtain ⟨figs, v, r', e, ha, hl, hv⟩ := frac_inv dn (hd6 H M C ++ [46]) r 8 (Nat.le_refl _)
    have hne : figs ≠ [] := fun q => by rw [q] at hl; simp at hl; omega
    have et : fracEnd (dn : Int) r (S (hd6 H M C) ++ Str.ofString ".") = (S (hd6 H M C ++ [46] ++ figs), v, r') := by
      rw [ed, S_append]
      exact e
    rw [et]
    refine ⟨46 :: figs, ?_, ?_, ?_, ?_⟩
    · show S (hd6 H M C ++ [46] ++ figs) = _
      rw [List.append_assoc]
      rfl
    · intro c hc
      rcases List.mem_cons.mp hc with rfl | hc
      · exact .inr (.inl rfl)
      · have := ha c hc
        exact .inl (by omega)
    · rw [List.length_cons, hl]
      omega
    · rw [stamp_of H M C h1 h2 h3, frac_ms ha, hv]
      exact good_if (frac_bad ha hne)
  rw [if_neg q1]
  by_cases q5 : p = 5
  · rw [if_pos q5, ed, S_append]
    refine ⟨[46], rfl, ?_, by decide, ?_⟩
    · intro c hc
      rw [List.mem_singleton] at hc
      exact .inr (.inl hc)
    · rw [stamp_bad H M C h1 h2 h3 _ bad_dot]
      rfl
  rw [if_neg q5]
  by_cases q6 : p = 6
  · rw [if_pos q6, ec, S_append]
    refine ⟨[58, 53], rfl, ?_, by decide, ?_⟩
    · intro c hc
      simp only [List.mem_cons, List.not_mem_nil, or_false] at hc
      exact .inl (by omega)
    · rw [stamp_bad H M C h1 h2 h3 _ bad_colon]
      rfl
  rw [if_neg q6]
  by_cases q7 : p = 7
  · rw [if_pos q7, ex, S_append]
    refine ⟨[46, 53, 120], rfl, ?_, by decide, ?_⟩
    · intro c hc
      simp only [List.mem_cons, List.not_mem_nil, or_false] at hc
      unfold SignOk
      omega
    · rw [stamp_bad H M C h1 h2 h3 _ bad_x]
      rfl
  rw [if_neg q7]
  refine ⟨[], ?_, (fun _ h => nomatch h), by decide, ?_⟩
  · rw [List.append_nil]
  · rw [stamp_of H M C h1 h2 h3, ms_nil]
    exact good_if bad_nil
theorem stamp_empty : stamp (S []) = none := stamp_short [] (by decide)
/-- the text of a row and its reading -/
structure SpoilForm (H M C : Nat) (u : Int) (r : Str × Bool) (y : List Nat) : Prop where
  text : r.1 = S y
  signs : ∀ c ∈ y, SignOk c
  size : y.length ≤ 16
  reads : stamp (S y) = if r.2 = true then some ((H : Int), (M : Int), (C : Int), u) else none
theorem spoil_form (q c u : Int) (b : Bool) (H M C : Nat) (h1 : H < 100) (h2 : M < 100) (h3 : C < 100) (tl : List Nat) (ht : ∀ c ∈ tl, SignOk c) (hz : tl.length ≤ 9)
    (hr : stamp (S (hd6 H M C ++ tl)) = if b = true then some ((H : Int), (M : Int), (C : Int), u) else none) : ∃ y, SpoilForm H M C u (spoilOf q c (S (hd6 H M C ++ tl)) b) y := by
  have hall : ∀ c ∈ hd6 H M C ++ tl, SignOk c := fun c hc => (List.mem_append.mp hc).elim (hd6_ok H M C h1 h2 h3 c) (ht c)
  have hlen : (hd6 H M C ++ tl).length ≤ 15 := by
    rw [List.length_append]
    show 6 + tl.length ≤ 15
    omega
  unfold spoilOf
  by_cases q5 : q = 5
  · rw [if_pos q5]
    have c0 : 0 ≤ c.fmod 5 := Int.fmod_nonneg_of_pos _ (by decide)
    have c5 : c.fmod 5 < 5 := Int.fmod_lt_of_pos _ (by decide)
    obtain ⟨j, hj⟩ := Int.eq_ofNat_of_zero_le c0
    rw [hj, Z_to]
    refine ⟨(hd6 H M C ++ tl).take j, rfl, fun c hc => hall c (List.mem_of_mem_take hc), ?_, ?_⟩
    · rw [List.length_take]
      omega
    · rw [stamp_short _ (by rw [List.length_take]; omega)]
      rfl
  rw [if_neg q5]
  by_cases q6 : q = 6
  · rw [if_pos q6]
    have c0 : 0 ≤ c.fmod 6 := Int.fmod_nonneg_of_pos _ (by decide)
    have c6 : c.fmod 6 < 6 := Int.fmod_lt_of_pos _ (by decide)
    obtain ⟨j, hj⟩ := Int.eq_ofNat_of_zero_le c0
    have eo : Str.ofString "o" = S [111] := by decide
    have ej : (j : Int) + 1 = ((j + 1 : Nat) : Int) := by omega
    rw [hj, ej, Z_to, Z_from, eo, S_append, S_append]
    refine ⟨(hd6 H M C ++ tl).take j ++ [111] ++ (hd6 H M C ++ tl).drop (j + 1), rfl, fun c hc => ?_, ?_, ?_⟩
    · rcases List.mem_append.mp hc with hc | hc
      · rcases List.mem_append.mp hc with hc | hc
        · exact hall c (List.mem_of_mem_take hc)
        · rw [List.mem_singleton] at hc
          exact .inr (.inr (.inr hc))
      · exact hall c (List.mem_of_mem_drop hc)
    · rw [List.length_append, List.length_append, List.length_take, List.length_drop, List.length_singleton]
      omega
    · rw [stamp_o H M C h1 h2 h3 tl j (by omega)]
      rfl
  rw [if_neg q6]
  by_cases q7 : q = 7
  · rw [if_pos q7]
    refine ⟨[], by decide, (fun _ h => nomatch h), by decide, ?_⟩
    rw [stamp_empty]
    rfl
  rw [if_neg q7]
  exact ⟨hd6 H M C ++ tl, rfl, hall, by omega, hr⟩
theorem row_form (ns : List Int) : ∃ (H M C : Nat) (y : List Nat), (ns.getD (Int.toNat 0) 0).fmod 30 = (H : Int) ∧ (ns.getD (Int.toNat 1) 0).fmod 70 = (M : Int) ∧ (ns.getD (Int.toNat 2) 0).fmod 70 = (C : Int) ∧ SpoilForm H M C (rowPick ns).2.1 (rowSpoil ns) y := by
  have a0 : 0 ≤ (ns.getD (Int.toNat 0) 0).fmod 30 := Int.fmod_nonneg_of_pos _ (by decide)
  have a1 : (ns.getD (Int.toNat 0) 0).fmod 30 < 30 := Int.fmod_lt_of_pos _ (by decide)
  have b0 : 0 ≤ (ns.getD (Int.toNat 1) 0).fmod 70 := Int.fmod_nonneg_of_pos _ (by decide)
  have b1 : (ns.getD (Int.toNat 1) 0).fmod 70 < 70 := Int.fmod_lt_of_pos _ (by decide)
  have c0 : 0 ≤ (ns.getD (Int.toNat 2) 0).fmod 70 := Int.fmod_nonneg_of_pos _ (by decide)
  have c1 : (ns.getD (Int.toNat 2) 0).fmod 70 < 70 := Int.fmod_lt_of_pos _ (by decide)
  obtain ⟨H, hH⟩ := Int.eq_ofNat_of_zero_le a0
  obtain ⟨M, hM⟩ := Int.eq_ofNat_of_zero_le b0
  obtain ⟨C, hC⟩ := Int.eq_ofNat_of_zero_le c0
  have eh : rowHead ns = S (hd6 H M C) := by
    unfold rowHead
    rw [hH, hM, hC, two_S, two_S, two_S, S_append, S_append]
    rfl
  have eg : rowGood ns = decide (H < 24 ∧ M < 60 ∧ C < 60) := by
    unfold rowGood
    rw [hH, hM, hC, Bool.eq_iff_iff, decide_eq_true_eq, decide_eq_true_eq]
    omega
  have ep : rowPick ns = pickOf ((ns.getD (Int.toNat 3) 0).fmod 8) (((ns.getD (Int.toNat 3) 0).fdiv 8).fmod 8) (ns.getD (Int.toNat 4) 0) (S (hd6 H M C)) (decide (H < 24 ∧ M < 60 ∧ C < 60)) := by
    unfold rowPick
    rw [eh, eg]
  obtain ⟨tl, pf⟩ := pick_form ((ns.getD (Int.toNat 3) 0).fmod 8) (((ns.getD (Int.toNat 3) 0).fdiv 8).fmod 8) (ns.getD (Int.toNat 4) 0) H M C (by omega) (by omega) (by omega) (Int.fmod_nonneg_of_pos _ (by decide)) (Int.fmod_lt_of_pos _ (by decide)) (Int.fmod_nonneg_of_pos _ (by decide)) (Int.fmod_lt_of_pos _ (by decide))
  rw [← ep] at pf
  obtain ⟨y, sf⟩ := spoil_form ((ns.getD (Int.toNat 5) 0).fmod 8) (ns.getD (Int.toNat 6) 0) (rowPick ns).2.1 (rowPick ns).2.2 H M C (by omega) (by omega) (by omega) tl pf.signs pf.size pf.reads
  rw [← pf.text] at sf
  exact ⟨H, M, C, y, hH, hM, hC, sf⟩
/-- what the plain law says of a row's text -/
def RowFacts (ns : List Int) : Prop := ∃ (y : List Nat) (FR : Dat), (rowSpoil ns).1 = textS y ∧ 42 ∉ y ∧ 44 ∉ y ∧ (∀ c ∈ y, c < 128) ∧ y.length ≤ 40 ∧ rowFour ns = FR ∧ plainDat (textS y) = FR ∧ (FR = .none ∨ ∃ ds, FR = .list ds ∧ textS y ≠ Str.ofString "")
theorem row_facts (ns : List Int) : RowFacts ns := by
  obtain ⟨H, M, C, y, hH, hM, hC, sf⟩ := row_form ns
  have e : plainDat (textS y) = rowFour ns := by
    unfold plainDat textS rowFour
    rw [sf.reads, hH, hM, hC]
    cases (rowSpoil ns).2 <;> rfl
  refine ⟨y, rowFour ns, sf.text, fun h => ?_, fun h => ?_, fun c h => ?_, Nat.le_trans sf.size (by decide), rfl, e, ?_⟩
  · have := sf.signs _ h
    unfold SignOk at this
    omega
  · have := sf.signs _ h
    unfold SignOk at this
    omega
  · have := sf.signs _ h
    unfold SignOk at this
    omega
  · by_cases hg : (rowSpoil ns).2 = true
    · refine .inr ⟨_, by unfold rowFour; rw [if_pos hg], fun q => ?_⟩
      have r := sf.reads
      rw [if_pos hg] at r
      have q' : S y = S [] := q.trans (by decide)
      rw [q', stamp_empty] at r
      cases r
    · exact .inl (by unfold rowFour; rw [if_neg hg])
end Mine
end
section
open PySem PySem.W PyProof.Rows
namespace Mine
local macro_rules | `(tactic| walk_at "RESTART") => `(tactic| skip)
theorem restart_Law {M : Model} {A : Around} {E : Value → Shared → Prop} {s : Shared} {Q : Value → Shared → Prop} (h : Q .none s) : wpAny M A (pure Value.none) Q E s := by
  w_top off
  first
    | (walk1; fail "on")
    | exact wpAny_pure h
end Mine
end
section
open PySem PySem.W PySem.Calls PyProof.Rows PySem.Spec
set_option maxRecDepth 100000
namespace Mine
def TestPost (s₁ : Shared) (P : Prop) (b : Bool) (s₂ : Shared) : Prop := (b = true ↔ P) ∧ ∃ tk', s₂ = { s₁ with toks := tk' }
/-- what the law's loop keeps: the two lists, equal as data -/
def LawJ (S TA DU : Addr) (i : Nat) (m : Str → Option Value) (news : List (Addr × Obj)) : Prop :=
  ∃ ts ds c1 c2 rest Dl, news = (TA, listOf ts.toArray c1) :: (DU, listOf ds.toArray c2) :: rest ∧ TA ≠ DU ∧ (∀ p ∈ rest, p.1 ≠ TA) ∧ (∀ p ∈ rest, p.1 ≠ DU) ∧ DatAll rest ts Dl ∧ DatAll rest ds Dl ∧ (∀ d ∈ Dl, kqdOk 8 d = true) ∧ ts.length ≤ 2 * i ∧ ds.length ≤ 2 * i ∧
    m (Str.ofString "script") = some (.ref S) ∧ m (Str.ofString "told") = some (.ref TA) ∧ m (Str.ofString "due") = some (.ref DU)
theorem swap23 {h₀ h : Heap} {L : Addr} {x y z : Addr × Obj} (N : News h₀ L h [x, y, z]) : News h₀ L h [x, z, y] := fun p hp => N p (by
  simp only [List.mem_cons, List.not_mem_nil, or_false] at hp ⊢
  rcases hp with h | h | h <;> simp [h])
theorem allLt_mem {d : Addr} {l : List (Addr × Obj)} (h : AllLt d l) : ∀ p ∈ l, p.1 < d := by
  induction l with
  | nil => exact fun _ hp => nomatch hp
  | cons q r ih =>
    intro p hp
    rcases List.mem_cons.mp hp with e | hp
    · rw [e]; exact h.1
    · exact ih h.2 p hp
theorem base_ne {d a b c e : Addr} {o1 o2 o3 o4 : Obj} {rest : List (Addr × Obj)} (h : a < d ∧ b < d ∧ c < d ∧ e < d ∧ AllLt d rest) : ∀ q ∈ ((a, o1) :: (b, o2) :: (c, o3) :: (e, o4) :: rest), q.1 ≠ d := fun q hq =>
  Nat.ne_of_lt (allLt_mem (l := (a, o1) :: (b, o2) :: (c, o3) :: (e, o4) :: rest) ⟨h.1, h.2.1, h.2.2.1, h.2.2.2.1, h.2.2.2.2⟩ q hq)
theorem turn_fin {h₀ h' : Heap} {L I : Addr} {o : Obj} {Dt : Addr} {to : Obj} {S TA DU : Addr} {ts ds : List Value} {rest : List (Addr × Obj)} {m : Str → Option Value} {Dl : List Dat} {i : Nat} {s₁ : Shared} {tk' : Nat}
    (l : Led h₀ L I o Dt to TA DU ts ds rest h') (F : Fr h₀ L h' m) (dt : DatAll rest ts Dl) (dd : DatAll rest ds Dl) (ok : ∀ d ∈ Dl, kqdOk 8 d = true) (lt : ts.length ≤ 2 * (i + 1)) (ld : ds.length ≤ 2 * (i + 1))
    (ms : m (Str.ofString "script") = some (.ref S)) (mt : m (Str.ofString "told") = some (.ref TA)) (md : m (Str.ofString "due") = some (.ref DU)) : TupTurn h₀ L I o Dt to (LawJ S TA DU) i s₁ .next { s₁ with heap := h', toks := tk' } := by
  obtain ⟨c1, c2, N⟩ := l.news
  refine ⟨rfl, h', tk', m, _, rfl, F, N, fun p hp => ?_, fun p hp => ?_, ts, ds, c1, c2, rest, Dl, rfl, l.n2, fun p hp => (l.apart p hp).2.2.1, fun p hp => (l.apart p hp).2.2.2, dt, dd, ok, lt, ld, ms, mt, md⟩
  · rcases List.mem_cons.mp hp with rfl | hp
    · exact l.n3
    · rcases List.mem_cons.mp hp with rfl | hp
      · exact l.n4
      · exact (l.apart p hp).1
  · rcases List.mem_cons.mp hp with rfl | hp
    · exact l.n5
    · rcases List.mem_cons.mp hp with rfl | hp
      · exact l.n6
      · exact (l.apart p hp).2.1
theorem plain_ok8 (x : Str) : kqdOk 8 (plainDat x) = true := by
  unfold plainDat
  split <;> rfl
theorem text_strOk {y : List Nat} (h : ∀ c ∈ y, c < 128) : PyData.strOk (textS y) = true := by
  unfold PyData.strOk textS S
  simp only [List.all_toArray, List.all_eq_true, decide_eq_true_eq]
  exact fun c hc => Nat.lt_trans (h c hc) (by decide)
theorem read_ok8 {y : List Nat} (h : ∀ c ∈ y, c < 128) : kqdOk 8 (.list [readDat y, .str (textS y)]) = true := by
  have e := text_strOk h
  have r : kqdOk 7 (readDat y) = true := by
    unfold readDat
    split
    · rfl
    · split
      · exact e
      · rfl
  have e' : kqdOk 7 (.str (textS y)) = true := e
  show ([readDat y, .str (textS y)] : List Dat).all (kqdOk 7) = true
  simp only [List.all_cons, List.all_nil, r, e', Bool.and_self]
theorem ok_two {l : List Dat} {a b : Dat} (h : ∀ d ∈ l, kqdOk 8 d = true) (ha : kqdOk 8 a = true) (hb : kqdOk 8 b = true) : ∀ d ∈ l ++ [a] ++ [b], kqdOk 8 d = true := by
  intro d hd
  simp only [List.mem_append, List.mem_cons, List.not_mem_nil, or_false] at hd
  rcases hd with (hd | rfl) | rfl
  · exact h d hd
  · exact ha
  · exact hb
def EqReady (h₀ : Heap) (L TA DU : Addr) (h : Heap) : Prop :=
  ∃ ts ds c1 c2 rest Dl, News h₀ L h ((TA, listOf ts.toArray c1) :: (DU, listOf ds.toArray c2) :: rest) ∧ DatAll rest ts Dl ∧ DatAll rest ds Dl ∧ (∀ d ∈ Dl, kqdOk 8 d = true)
open Classical in
theorem law_eq {prog : Program} {w : World} {A : Around} {E : Value → Shared → Prop} {s : Shared} {h₀ : Heap} {L TA DU : Addr} {Q : Value → Shared → Prop} (r : EqReady h₀ L TA DU s.heap) (hu : A.units + 64 < cLine) (h : Q (.bool true) s) : wpAny (model prog w) A (compareOp .Eq (.ref TA) (.ref DU)) Q E s := by
  obtain ⟨ts, ds, c1, c2, rest, Dl, N, dt, dd, ok⟩ := r
  refine kqd_eq N (.head _) rfl rfl dt (fun p hp => .tail _ (.tail _ hp)) (.tail _ (.head _)) rfl rfl dd (fun p hp => .tail _ (.tail _ hp)) ok ok hu ?_
  rw [decide_eq_true rfl]
  exact h
theorem plain_none {x : Str} (h : plainDat x = .none) : stamp x = none := by
  unfold plainDat at h
  cases e : stamp x with
  | none => rfl
  | some q =>
    obtain ⟨a, b, c, d⟩ := q
    rw [e] at h
    cases h
theorem read_none {y : List Nat} (h : textS y = Str.ofString "") : readDat y = .none := by
  unfold readDat
  rw [if_pos h]
theorem read_str {y : List Nat} (h : textS y ≠ Str.ofString "") (p : plainDat (textS y) = .none) : readDat y = .str (textS y) := by
  unfold readDat
  rw [if_neg h, plain_none p]
theorem read_list {y : List Nat} {fl : List Dat} (h : textS y ≠ Str.ofString "") (p : plainDat (textS y) = .list fl) : readDat y = .list fl := by
  unfold readDat
  rw [if_neg h]
  unfold plainDat at p
  cases e : stamp (textS y) with
  | none =>
    rw [e] at p
    cases p
  | some q =>
    obtain ⟨a, b, c, d⟩ := q
    rw [e] at p
    exact p
theorem dues_end {rest : List (Addr × Obj)} {ds : List Value} {Dl : List Dat} {la : Addr} {v : Value} {t : Tok} {x : Str} {d : Dat} {n : Nat} (dd : DatAll rest ds Dl) (dv : DatIn rest v d) : DatAll ([(la, listOf #[v, .str x t] n)] ++ rest) (ds ++ [.ref la]) (Dl ++ [.list [d, .str x]]) :=
  DatAll.append (DatAll.mono (fun p hp => List.mem_append_right _ hp) dd) (.cons (DatIn.list (vs := [v, .str x t]) (List.mem_append_left _ (.head _)) (.cons (DatIn.mono (fun p hp => List.mem_append_right _ hp) dv) (.cons (.str _ _) .nil))) .nil)
theorem row_len (ts : List Int) (h : ts.length ≤ 10) : (ts ++ (List.replicate (10 - (ts.length : Int)).toNat [(0 : Int)]).flatten).length = 10 := by
  simp
  omega
def HoldHere (P : Prop) : Prop := P
theorem hold_off {P : Prop} (h : HoldHere P) : P := h
theorem hold_on {P : Prop} (h : P) : HoldHere P := h
local macro_rules | `(tactic| walk_at "call ref") => `(tactic| (k_here; (with_reducible show wpAny _ _ (call (Value.ref 412) [Value.ref _]) _ _ _); (refine hold_off ?_)))
theorem rowSlice {prog : Program} {w : World} {A : Around} {E : Value → Shared → Prop} {s : Shared} {h₀ : Heap} {L l : Addr} {m : Str → Option Value} {news : List (Addr × Obj)} {vs : List Value} {xs : List Int} {kk : Nat} {t1 t2 : Tok} {value slice : Expr} {Q : Value → Shared → Prop}
    (F : Fr h₀ L s.heap m) (N : News h₀ L s.heap news) (hl : s.heap.IsList l vs.toArray) (hi : IntsAre vs xs) (hz : xs.length ≤ 63)
    (h : ∀ D ws h', Fr h₀ L h' m → News h₀ L h' ((D, listOf ws.toArray 0) :: news) → (∀ p ∈ news, p.1 < D) → IntsAre ws ((xs.drop kk).take 10) → ((xs.drop kk).take 10).length = min 10 (xs.length - kk) → ((xs.drop kk).take 10).length ≤ xs.length → Q (.ref D) { s with heap := h' })
    (hs : subscripted slice false (.ref l) (.ref s.heap.objs.size) = operate [.ref s.heap.objs.size, .ref l] (getItem (.ref l) (.ref s.heap.objs.size))) (ht : ∀ r, letTemporaryGo value (.ref l) r = pure ()) :
    wpAny (model prog w) A (subscriptTail value slice (.ref l) (.ref s.heap.objs.size)) Q E { s with heap := s.heap.push { cls := .type "slice", data := .fields #[.int (kk : Int) t1, .int ((kk : Int) + 10) t2, .none] } } := by
  have hm := kmk_run (x := (kk : Int)) (y := (kk : Int) + 10) hi (by omega) (by omega)
  have e : (xs.drop (kk : Int).toNat).take (min ((kk : Int) + 10).toNat xs.length - (kk : Int).toNat) = (xs.drop kk).take 10 := by
    rw [show ((kk : Int)).toNat = kk by omega, show ((kk : Int) + 10).toNat = kk + 10 by omega]
    by_cases hk : kk + 10 ≤ xs.length
    · rw [Nat.min_eq_left hk, show kk + 10 - kk = 10 by omega]
    · rw [Nat.min_eq_right (by omega), List.take_of_length_le (by rw [List.length_drop]; omega), List.take_of_length_le (by rw [List.length_drop]; omega)]
  rw [e] at hm
  refine kmk_slice_ints F N hl (.int _ _) (.int _ _) hi hm ((List.length_take ..).trans (congrArg _ (List.length_drop ..))) (fun D ws h' F' N' l1 hI hC hL => h D ws h' F' N' l1 hI hC hL) hs ht ?_
  rw [List.size_toArray, hi.length, sizeLine_eq]
  omega
local macro_rules | `(tactic| walk_at "subscriptTail Name Slice ref ref") => `(tactic| (k_here; (with_reducible show wpAny _ _ (subscriptTail _ (PySem.Expr.Slice (some _) (some _) none _) (Value.ref _) (Value.ref _)) _ _ _); k_dflt (refine' rowSlice ?F ?N ?l ?i (by assumption) ?_ ?s ?t; (case F => k_asm); (case N => k_asm); (case l => kmk_list); (case i => l_ints); (case s => with_unfolding_all rfl); (case t => kmk_pure)); intro D' ws' h' F' N' l1 hI' hC' hL'; (try k_lt l1); (try k_sweep)))
theorem six {t0 t1 t2 t3 t4 t5 : Tok} {i : Nat} {val : Value} (h : (#[.int 0 t0, .int 10 t1, .int 20 t2, .int 30 t3, .int 40 t4, .int 50 t5] : Array Value)[i]? = some val) : i < 6 ∧ ∃ (k : Nat) (t : Tok), val = .int (k : Int) t ∧ k ≤ 50 := by
  match i, h with
  | 0, h => cases h; exact ⟨by decide, 0, _, rfl, by decide⟩
  | 1, h => cases h; exact ⟨by decide, 10, _, rfl, by decide⟩
  | 2, h => cases h; exact ⟨by decide, 20, _, rfl, by decide⟩
  | 3, h => cases h; exact ⟨by decide, 30, _, rfl, by decide⟩
  | 4, h => cases h; exact ⟨by decide, 40, _, rfl, by decide⟩
  | 5, h => cases h; exact ⟨by decide, 50, _, rfl, by decide⟩
  | n + 6, h => cases h
theorem call_fullWC {prog : Program} {w : World} {A : Around} {R : Result → Shared → Prop} {s : Shared} {name : Str} {params : Arguments} {body : List Stmt} {scope : Scope}
    {dV kV pm cd doc : Value} {a : Addr} {o : Obj} {args : Args} {binds : List (Str × Value)}
    (hroom : A.depth < recursionLimit) (ho : s.heap.get? a = some o) (hdata : o.data = .func { docDef name params body scope pm cd doc with defaults := dV, kwdefaults := kV }) (hlim : s.heap.NoLimit) (hcd : s.heap.CodeRec cd name)
    (hbind : BindsTo s { docDef name params body scope pm cd doc with defaults := dV, kwdefaults := kV } args binds)
    (hloc : ∀ x ∈ binds, scope.names.lookup x.1 = some .local)
    (h : ∀ h₁, Fr s.heap s.heap.objs.size h₁ (fun x => binds.reverse.lookup x) →
      wpC (model prog w) (A.deeper (envOf name scope s.heap.objs.size a cd)) (execs body (envOf name scope s.heap.objs.size a cd))
        (fun f s' => R (.ok (.ret (match f with | .ret v => v | _ => .none))) s')
        (fun e s' => wpAny (model prog w) (A.deeper (envOf name scope s.heap.objs.size a cd)) (leaving (envOf name scope s.heap.objs.size a cd) e)
          (fun _ s'' => R (.error e) s'') (fun e' s'' => R (.error e') s'') s')
        { s with heap := h₁, toks := s.toks + binds.length })
    (hco : scope.isCoroutine = false := by rfl) (hgen : scope.isGenerator = false := by rfl) (hk : scope.kind = .function := by rfl)
    (hcell : ∀ x ∈ scope.names, x.2 ≠ .cell := by decide) :
    codeC (model prog w) A (.call (.ref a) args) R s :=
  codeC_call_def hroom ho hdata hlim hcd rfl hbind hcell hloc (fun h₁ hns hkeep => h h₁ ⟨hns, hkeep, Nat.le_refl _⟩) hco hgen hk
local macro_rules | `(tactic| walk_at "compareOp Eq ref ref") => `(tactic| (k_here; (refine law_eq (by assumption) ?hu ?_); (case hu => ke_room)))
set_option maxHeartbeats 4000000 in
theorem law_ok : PySem.Challenge.rw_ez0286_01.Holds := by
  refine hd ?_
  k_fill
  intro w s₀ s₁ mg mb G Y fa o pm cd doc dV kV ho hdt hcd hD hmg hg args vals as hpre hlay hrd hwl hlo
  have KX := kIn_of Y
  have X := (Ground.X G).1
  have V := (Ground.X G).2
  refine Ground.open G ?_
  intro T B D TE TW
  wrow_args hpre hlay hrd hwl hlo
  rename List Int => xs
  rename List Value => vs
  rename Addr => S
  have hz63 : xs.length ≤ 63 := by omega
  refine wpC_call ?_
  have he := Dflts.none hD rfl
  subst he
  have K0 := below_caller s₁.heap
  refine call_fullWC (by decide) ho hdt (Top.nolimit T) hcd (BindsTo.of_eq rfl) (locs rfl) fun h₁ F => ?_
  clear hdt hcd hD hmg
  have N : News s₁.heap s₁.heap.objs.size h₁ [] := News.nil
  dsimp only
  have hcode : KX = KX := rfl
  rename Heap.IsList _ _ _ => hS
  rename IntsAre _ _ => hxs
  refine wpC_execs_cons (wpC_any ?_)
  k_steps
  dsimp only
  refine wpC_execs_cons (wpC_any ?_)
  k_steps
  dsimp only
  refine wpC_execs_cons (wpC_For ?_ (fun x => rfl))
  k_steps
  with_reducible rename Fr _ _ _ _ => F5
  with_reducible rename News _ _ _ _ => N5
  replace N5 := swap23 N5
  (try clear N)
  (try clear F)
  have X5 := KX
  refine forTup rfl rfl rfl rfl rfl (LawJ _ _ _) F5 N5 ?hD ⟨[], [], 0, 0, [], [], rfl, ?ne, ?p1, ?p2, .nil, .nil, (fun _ h => nomatch h), Nat.zero_le _, Nat.zero_le _, rfl, rfl, rfl⟩ ?step ?fin
  case hD => intro p hp; simp only [List.mem_cons, List.not_mem_nil, or_false] at hp; rcases hp with rfl | rfl <;> exact Nat.ne_of_lt (by omega)
  case ne => exact Nat.ne_of_lt (by omega)
  case p1 => exact fun _ h => nomatch h
  case p2 => exact fun _ h => nomatch h
  case step =>
    clear F5 N5
    intro I o i val m₁ news s₂ E' hval hJ F6 N6 hI hD6 hID
    obtain ⟨hi6, kk, tk, rfl, hk50⟩ := six hval
    obtain ⟨ts, ds, c1, c2, rest, Dl, rfl, hne, hr1, hr2, dts, dds, hok, ltsz, ldsz, ms, mt, md⟩ := hJ
    have F7 := frAlso (frAlso (frAlso F6 (x := Str.ofString "script") ms) (x := Str.ofString "told") mt) (x := Str.ofString "due") md
    clear F6
    clear Y V D TE TW
    refine wpC_execs_cons (wpC_If (wpAny_mono (Q := TestPost s₂ (kk = 0 ∨ kk < xs.length)) ?test ?rest fun _ _ e => e))
    case test =>
      k_steps
      all_goals (refine ⟨?_, _, rfl⟩)
      all_goals (constructor <;> intro _ <;> first | rfl | omega | (exfalso; omega) | contradiction)
    intro b s₃ hb
    obtain ⟨hbt, tk3, rfl⟩ := hb
    cases b with
    | false =>
      rw [if_neg (by decide)]
      refine wpC_execs_nil ?_
      refine wpC_execs_nil ?_
      exact ⟨rfl, _, _, _, _, rfl, F7, N6, hI, hD6, ts, ds, c1, c2, rest, Dl, rfl, hne, hr1, hr2, dts, dds, hok, by omega, by omega, rfl, rfl, rfl⟩
    | true =>
      rw [if_pos rfl]
      refine wpC_execs_cons (wpC_any ?_)
      have led : Led s₁.heap s₁.heap.objs.size I o _ _ _ _ ts ds rest s₂.heap := ⟨⟨c1, c2, N6⟩, hID, hne, hI _ (.head _), hI _ (.tail _ (.head _)), hD6 _ (.head _), hD6 _ (.tail _ (.head _)), fun p hp => ⟨hI p (.tail _ (.tail _ hp)), hD6 p (.tail _ (.tail _ hp)), hr1 p hp, hr2 p hp⟩⟩
      clear hI hD6 hr1 hr2 hne hID
      k_steps
      refine hold_on ?_
      (with_reducible show wpAny _ _ (call (Value.ref 412) [Value.ref _]) _ _ _)
      (with_reducible rename Fr _ _ _ _ => F9); (with_reducible rename News _ _ _ _ => N9)
      (refine' (text_ok _ _ _ _ ?hn).use (by assumption) (by assumption) (by assumption) F9 N9 ?hk ?hd ?hu ?hp ?_)
      case hp => exact ⟨⟨_, (N9 _ (List.mem_cons_self ..)).1, rfl, _, rfl⟩, by assumption⟩
      case hk => exact rfl
      case hd => ktr_room
      case hu => ktr_units
      case hn => exact row_len _ (List.length_take_le ..)
      intro v9 h9 tk9 new9 F10 N10 ap9 st9 hp9
      clear st9
      obtain ⟨D9, tx9, fv9, rest9, c9, rfl, rfl, dt9⟩ := hp9
      obtain ⟨y, FR, hy, hy1, hy2, hy3, hy4, hFR, pl, hcase⟩ := row_facts ((xs.drop kk).take 10 ++ (List.replicate (10 - (((xs.drop kk).take 10).length : Int)).toNat [(0 : Int)]).flatten)
      rw [hy] at N10
      rw [hFR] at dt9
      clear hFR hy
      clear F9 N9
      (try clear F7)
      (try clear N6)
      simp only [List.cons_append] at N10
      k_steps
      dsimp only
      (with_reducible rename Fr _ _ _ _ => F11); (with_reducible rename News _ _ _ _ => N11)
      have l1 := led.of_sub (new := rest9) N11 (fun p hp => List.mem_cons_of_mem _ (List.mem_append_right _ (.tail _ (.tail _ (.tail _ (.tail _ (.tail _ hp))))))) (fun p hp => List.mem_cons_of_mem _ (List.mem_append_left _ hp)) (fun p hp q hq => ap9 p (.tail _ hp) q (.tail _ (.tail _ (.tail _ (.tail _ (.tail _ hq))))))
      clear ap9 led
      have dts1 : DatAll (rest9 ++ rest) ts Dl := DatAll.mono (fun p hp => List.mem_append_right _ hp) dts
      have dds1 : DatAll (rest9 ++ rest) ds Dl := DatAll.mono (fun p hp => List.mem_append_right _ hp) dds
      have df1 : DatIn (rest9 ++ rest) fv9 FR := DatIn.mono (fun p hp => List.mem_append_left _ hp) dt9
      clear dts dds dt9
      generalize rest9 ++ rest = rest1 at l1 dts1 dds1 df1
      have N12 : News s₁.heap s₁.heap.objs.size _ [] := (News.nil : News s₁.heap s₁.heap.objs.size _ []).at F11
      clear N11
      -- told.append(_law_plain(text))
      refine wpC_execs_cons (wpC_Expr (wpC_methodCall ?_ rfl) rfl rfl)
      refine ld F11 rfl (l1.methT ?_)
      dsimp only
      refine wpC_callWith (P := fun _ => True) rfl (fun _ _ => ⟨.machine, .inr (.inl rfl), .now⟩) ?_
      refine wpC_evalArgs_plain (wpC_spliced1 (wpC_Call_Name ?_))
      k_steps
      refine' wpC_callWith_K1 (K := (hd.heap_39 w.params)) ?kk ?_
      case kk => k_is
      refine ld F11 rfl ⟨KX.keeps F11.keep, ?_⟩
      refine (plain_ok w (textS y) _ (by rw [pc_textLen]; exact hy4) (textS_cps hy3)) _ mg mb _ _ _ _ _ _ _ _ s₁.heap s₁.heap _ _ _ _ _ K0 KX T F11 rfl ?hd1 ?hu1 trivial ?_
      case hd1 => decide
      case hu1 => decide
      intro v1 h1 tk1 new1 st1 Nn1 dn1
      have F12 := frBut F11 st1
      have l2 := l1.grow F11 st1 Nn1
      have dts2 : DatAll (new1 ++ rest1) (ts ++ [v1]) (Dl ++ [FR]) := DatAll.append (DatAll.mono (fun p hp => List.mem_append_right _ hp) dts1) (.cons (by rw [← pl]; exact DatIn.mono (fun p hp => List.mem_append_left _ hp) dn1) .nil)
      have dds2 : DatAll (new1 ++ rest1) ds Dl := DatAll.mono (fun p hp => List.mem_append_right _ hp) dds1
      have df2 : DatIn (new1 ++ rest1) fv9 FR := DatIn.mono (fun p hp => List.mem_append_right _ hp) df1
      clear dts1 dds1 df1 l1 F11 st1 Nn1 dn1
      generalize new1 ++ rest1 = rest2 at l2 dts2 dds2 df2
      refine ⟨trivial, wpC_any (l2.appT F12 (by omega) fun h2 F13 l3 => ?_)⟩
      clear l2 F12
      dsimp only
      -- due.append(four)
      refine wpC_execs_cons (wpC_Expr (wpC_methodCall ?_ rfl) rfl rfl)
      refine ld F13 rfl (l3.methD ?_)
      dsimp only
      refine wpC_callWith (P := fun _ => True) rfl (fun _ _ => ⟨.machine, .inr (.inl rfl), .now⟩) ?_
      refine wpC_evalArgs_plain (wpC_spliced1 (wpC_any (ld F13 rfl ⟨trivial, wpC_any (l3.appD F13 (by omega) fun h3 F14 l4 => ?_)⟩)))
      have dds3 : DatAll rest2 (ds ++ [fv9]) (Dl ++ [FR]) := DatAll.append dds2 (.cons df2 .nil)
      clear l3 F13 dds2
      dsimp only
      -- told.append(_law_read(text))
      refine wpC_execs_cons (wpC_Expr (wpC_methodCall ?_ rfl) rfl rfl)
      refine ld F14 rfl (l4.methT ?_)
      dsimp only
      refine wpC_callWith (P := fun _ => True) rfl (fun _ _ => ⟨.machine, .inr (.inl rfl), .now⟩) ?_
      refine wpC_evalArgs_plain (wpC_spliced1 (wpC_Call_Name ?_))
      have N14 : News s₁.heap s₁.heap.objs.size h3 [] := News.nil
      (try clear N12)
      k_steps
      refine' wpC_callWith_K1 (K := (hd.heap_39 w.params)) ?kk ?_
      case kk => k_is
      refine ld F14 rfl ⟨KX.keeps F14.keep, ?_⟩
      refine (read_ok w y _ hy1 hy2 hy3 hy4) _ mg mb _ _ _ _ _ _ _ _ s₁.heap s₁.heap _ _ _ _ _ K0 KX T F14 rfl ?hd1 ?hu1 trivial ?_
      case hd1 => decide
      case hu1 => decide
      intro v3 h4 tk4 new3 st3 Nn3 dn3
      have F15 := frBut F14 st3
      have l5 := l4.grow F14 st3 Nn3
      have dts4 : DatAll (new3 ++ rest2) ((ts ++ [v1]) ++ [v3]) ((Dl ++ [FR]) ++ [.list [readDat y, .str (textS y)]]) := DatAll.append (DatAll.mono (fun p hp => List.mem_append_right _ hp) dts2) (.cons (DatIn.mono (fun p hp => List.mem_append_left _ hp) dn3) .nil)
      have dds4 : DatAll (new3 ++ rest2) (ds ++ [fv9]) (Dl ++ [FR]) := DatAll.mono (fun p hp => List.mem_append_right _ hp) dds3
      have df4 : DatIn (new3 ++ rest2) fv9 FR := DatIn.mono (fun p hp => List.mem_append_right _ hp) df2
      clear dts2 dds3 df2 l4 F14 st3 Nn3 dn3 N14
      generalize new3 ++ rest2 = rest4 at l5 dts4 dds4 df4
      refine ⟨trivial, wpC_any (l5.appT F15 (by simp only [List.length_append, List.length_cons, List.length_nil]; omega) fun h5 F16 l6 => ?_)⟩
      clear l5 F15
      dsimp only
      -- due.append([four or what stands for it, text])
      refine wpC_execs_cons (wpC_Expr (wpC_methodCall ?_ rfl) rfl rfl)
      refine ld F16 rfl (l6.methD ?_)
      dsimp only
      refine wpC_callWith (P := fun _ => True) rfl (fun _ _ => ⟨.machine, .inr (.inl rfl), .now⟩) ?_
      refine wpC_evalArgs_plain (wpC_spliced1 (wpC_any ?_))
      rw [if_neg (by decide)]
      obtain ⟨c3, c4, N16⟩ := l6.news
      rcases hcase with rfl | ⟨fl, rfl, hnz⟩
      · have dv0 := df4
        cases df4
        k_steps
        · trivial
        · have hz : textS y = Str.ofString "" := by simpa using ‹(textS y == Str.ofString "") = true›
          with_reducible rename Fr _ _ _ _ => F18
          with_reducible rename News _ _ _ _ => N18
          with_reducible rename _ ∧ _ ∧ _ ∧ _ ∧ AllLt _ _ => lt18
          refine wpC_any ((l6.of_sub (new := [_]) N18 (fun p hp => .tail _ hp) (fun p hp => by rw [List.mem_singleton] at hp; rw [hp]; exact .head _) (fun p hp q hq => by rw [List.mem_singleton] at hp; rw [hp]; exact base_ne lt18 q hq)).appD F18 (by simp only [List.length_append, List.length_cons, List.length_nil]; omega) fun h6 F19 l8 => ?_)
          dsimp only
          refine wpC_execs_nil ?_
          dsimp only
          refine wpC_execs_nil ?_
          exact turn_fin l8 F19 (DatAll.mono (fun p hp => List.mem_append_right _ hp) dts4) (by rw [read_none hz]; exact dues_end dds4 .none) (ok_two hok (by rw [← pl]; exact plain_ok8 _) (read_ok8 hy3)) (by simp only [List.length_append, List.length_cons, List.length_nil]; omega) (by simp only [List.length_append, List.length_cons, List.length_nil]; omega) rfl rfl rfl
        · trivial
        · have hz : textS y ≠ Str.ofString "" := by simpa using ‹(textS y == Str.ofString "") = false›
          with_reducible rename Fr _ _ _ _ => F18
          with_reducible rename News _ _ _ _ => N18
          with_reducible rename _ ∧ _ ∧ _ ∧ _ ∧ AllLt _ _ => lt18
          refine wpC_any ((l6.of_sub (new := [_]) N18 (fun p hp => .tail _ hp) (fun p hp => by rw [List.mem_singleton] at hp; rw [hp]; exact .head _) (fun p hp q hq => by rw [List.mem_singleton] at hp; rw [hp]; exact base_ne lt18 q hq)).appD F18 (by simp only [List.length_append, List.length_cons, List.length_nil]; omega) fun h6 F19 l8 => ?_)
          dsimp only
          refine wpC_execs_nil ?_
          dsimp only
          refine wpC_execs_nil ?_
          exact turn_fin l8 F19 (DatAll.mono (fun p hp => List.mem_append_right _ hp) dts4) (by rw [read_str hz pl]; exact dues_end dds4 (.str _ _)) (ok_two hok (by rw [← pl]; exact plain_ok8 _) (read_ok8 hy3)) (by simp only [List.length_append, List.length_cons, List.length_nil]; omega) (by simp only [List.length_append, List.length_cons, List.length_nil]; omega) rfl rfl rfl
      · have dv0 := df4
        cases df4
        k_steps
        · trivial
        · skip
          with_reducible rename Fr _ _ _ _ => F18
          with_reducible rename News _ _ _ _ => N18
          with_reducible rename _ ∧ _ ∧ _ ∧ _ ∧ AllLt _ _ => lt18
          refine wpC_any ((l6.of_sub (new := [_]) N18 (fun p hp => .tail _ hp) (fun p hp => by rw [List.mem_singleton] at hp; rw [hp]; exact .head _) (fun p hp q hq => by rw [List.mem_singleton] at hp; rw [hp]; exact base_ne lt18 q hq)).appD F18 (by simp only [List.length_append, List.length_cons, List.length_nil]; omega) fun h6 F19 l8 => ?_)
          dsimp only
          refine wpC_execs_nil ?_
          dsimp only
          refine wpC_execs_nil ?_
          exact turn_fin l8 F19 (DatAll.mono (fun p hp => List.mem_append_right _ hp) dts4) (by rw [read_list hnz pl]; exact dues_end dds4 dv0) (ok_two hok (by rw [← pl]; exact plain_ok8 _) (read_ok8 hy3)) (by simp only [List.length_append, List.length_cons, List.length_nil]; omega) (by simp only [List.length_append, List.length_cons, List.length_nil]; omega) rfl rfl rfl
  case fin =>
    intro h' tk' m' news' F6 N6 hJ
    obtain ⟨ts, ds, c1, c2, rest, Dl, rfl, hne, hr1, hr2, dts, dds, hok, ltsz, ldsz, ms, mt, md⟩ := hJ
    have F7 := frAlso (frAlso F6 (x := Str.ofString "told") mt) (x := Str.ofString "due") md
    have er : EqReady s₁.heap s₁.heap.objs.size _ _ h' := ⟨ts, ds, c1, c2, rest, Dl, N6, dts, dds, hok⟩
    clear F5 F6 N6
    clear Y V D TE TW
    have N6 : News s₁.heap s₁.heap.objs.size h' [] := News.nil
    dsimp only
    refine wpC_execs_cons (wpC_any ?_)
    k_steps
    dsimp only
    refine GoodW.toG ?_
    k_steps
end Mine
end
theorem PySem.Challenge.cw_ez0286_01_holds : PySem.Challenge.rw_ez0286_01.Holds := by
  exact Mine.law_ok
