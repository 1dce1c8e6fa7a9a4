import PyProof.Rows.All
import Wide.All
import OpenK.AllK
import Wide.FinOn
import PySem.Challenge.RW_zn0010_01
set_option Elab.async false
set_option compiler.extract_closed false
section
open PySem PySem.W PyProof.Rows PySem.Calls PySem.Spec PySem.Flt
set_option Elab.async false
namespace Mine
/-- the count of tokens forgets what it was made of -/
theorem tok_gen {α : Type} {M : Model} {A : Around} {t : Sem α} {Q : α → Shared → Prop} {E : Value → Shared → Prop} {h g d k o} (H : ∀ tk, wpAny M A t Q E ⟨h, g, d, tk, o⟩) : wpAny M A t Q E ⟨h, g, d, k + 1, o⟩ := H _
/-- a goal under a name: what is taken apart while it stands so costs no copy of it -/
theorem hide {P : Prop} (h : ∀ CC : Prop, (P → CC) → CC) : P := h P id
theorem and3 {a b c C : Prop} (h : a ∧ b ∧ c) (f : a → b → c → C) : C := f h.1 h.2.1 h.2.2
theorem and4 {a b c d C : Prop} (h : a ∧ b ∧ c ∧ d) (f : a → b → c → d → C) : C := f h.1 h.2.1 h.2.2.1 h.2.2.2
theorem and5 {a b c d e C : Prop} (h : a ∧ b ∧ c ∧ d ∧ e) (f : a → b → c → d → e → C) : C := f h.1 h.2.1 h.2.2.1 h.2.2.2.1 h.2.2.2.2
theorem and9 {a b c d e f g i j C : Prop} (h : a ∧ b ∧ c ∧ d ∧ e ∧ f ∧ g ∧ i ∧ j) (k : a → b → c → d → e → f → g → i → j → C) : C :=
  k h.1 h.2.1 h.2.2.1 h.2.2.2.1 h.2.2.2.2.1 h.2.2.2.2.2.1 h.2.2.2.2.2.2.1 h.2.2.2.2.2.2.2.1 h.2.2.2.2.2.2.2.2
theorem and11 {a b c d e f g i j k l C : Prop} (h : a ∧ b ∧ c ∧ d ∧ e ∧ f ∧ g ∧ i ∧ j ∧ k ∧ l) (z : a → b → c → d → e → f → g → i → j → k → l → C) : C :=
  and9 h.2.2 (z h.1 h.2.1)
section
variable {h₀ h : Heap} {L : Addr} {a b c d : Addr × Obj} {X : List (Addr × Obj)} {P : Addr × Obj → Prop}
theorem app0 (N : News h₀ L h ([] ++ X)) : News h₀ L h X := N
theorem app1 (N : News h₀ L h ([a] ++ X)) : News h₀ L h (a :: X) := N
theorem app2 (N : News h₀ L h ([a, b] ++ X)) : News h₀ L h (a :: b :: X) := N
theorem app3 (N : News h₀ L h ([a, b, c] ++ X)) : News h₀ L h (a :: b :: c :: X) := N
theorem app4 (N : News h₀ L h ([a, b, c, d] ++ X)) : News h₀ L h (a :: b :: c :: d :: X) := N
theorem capp0 (N : News h₀ L h (a :: ([] ++ X))) : News h₀ L h (a :: X) := N
theorem capp1 (N : News h₀ L h (a :: ([b] ++ X))) : News h₀ L h (a :: b :: X) := N
theorem capp2 (N : News h₀ L h (a :: ([b, c] ++ X))) : News h₀ L h (a :: b :: c :: X) := N
theorem app2q (N : ∀ q ∈ [a, b] ++ X, P q) : ∀ q ∈ a :: b :: X, P q := N
end
theorem len3 {l : List Value} (h : l.length = 3) : ∃ a b c, l = [a, b, c] := match l, h with
  | [a, b, c], _ => ⟨a, b, c, rfl⟩
theorem mem_mid {α : Type} {q : α} {L M Y : List α} (K : List α) (h : q ∈ L ++ (M ++ Y)) : q ∈ M ++ (K ++ (L ++ Y)) := by
  rcases List.mem_append.mp h with h | h
  · exact List.mem_append_right _ (List.mem_append_right _ (List.mem_append_left _ h))
  · rcases List.mem_append.mp h with h | h
    · exact List.mem_append_left _ h
    · exact List.mem_append_right _ (List.mem_append_right _ (List.mem_append_right _ h))
end Mine
end
section
open PySem PySem.W PyProof.Rows PySem.Calls PySem.Spec PySem.Flt
set_option Elab.async false
set_option maxRecDepth 100000
set_option maxHeartbeats 8000000
namespace Mine
open Sem (wp)
/-- a decoder's code: the model's bytearray asks whether one of them holds it -/
def dec : Code → Bool
  | .builtin id _ => Builtin.Bytes.decodersThatHold.contains id || ["bytearray.__contains__", "bytearray.__mod__", "bytearray.__rmod__", "_struct.pack_into.held", "bytearray.find.held"].contains id
  | _ => false
def Clean (Γ : PySem.Ctx) : Prop := dec Γ.code = false ∧ ∀ x ∈ Γ.below, dec x.1 = false
def wpC {α : Type} (M : Model) (A : Around) (t : Sem α) (Q : α → Shared → Prop) (E : Value → Shared → Prop) (s : Shared) : Prop :=
  ∀ Γ p, Γ.In A → Clean Γ → wp M Γ t (fun a _ s' => Q a s') (fun e _ s' => E e s') p s
def codeC (M : Model) (A : Around) (c : Code) (R : Result → Shared → Prop) (s : Shared) : Prop :=
  ∀ Γ p, Γ.code = c → Γ.Below A → Clean Γ → wpCode M Γ R p s
section
variable {α β : Type} {M : Model} {A : Around} {E : Value → Shared → Prop} {s : Shared} {R : Result → Shared → Prop} {env : Env}
theorem wpC.of {t : Sem α} {Q : α → Shared → Prop} (h : wpAny M A t Q E s) : wpC M A t Q E s := fun Γ p hΓ _ => h Γ p hΓ
theorem wpC.pure {a : α} {Q : α → Shared → Prop} (h : Q a s) : wpC M A (pure a) Q E s := .of (wpAny_pure h)
theorem wpC.mono {t : Sem α} {Q Q' : α → Shared → Prop} {E' : Value → Shared → Prop} (h : wpC M A t Q E s) (hQ : ∀ a s, Q a s → Q' a s) (hE : ∀ e s, E e s → E' e s) : wpC M A t Q' E' s :=
  fun Γ p hΓ hc => Sem.wp_mono M Γ t (fun a _ s => hQ a s) (fun e _ s => hE e s) p s (h Γ p hΓ hc)
theorem wpC.bind {m : Sem α} {f : α → Sem β} {Q : β → Shared → Prop} (h : wpC M A m (fun a s' => wpC M A (f a) Q E s') E s) : wpC M A (m >>= f) Q E s := fun Γ p hΓ hc => by
  rw [Sem.wp_bind']
  exact Sem.wp_mono M Γ m (fun a p' s' h' => h' Γ p' hΓ hc) (fun _ _ _ h' => h') p s (h Γ p hΓ hc)
/-- what has no eye for the stack first, then the rest -/
theorem wpC.seq {m : Sem α} {f : α → Sem β} {Q : β → Shared → Prop} (h : wpAny M A m (fun a s' => wpC M A (f a) Q E s') E s) : wpC M A (m >>= f) Q E s := .bind (.of h)
theorem wpC.onRaise {m : Sem α} {k : Value → Sem Unit} {Q : α → Shared → Prop} (h : wpC M A m Q (fun e s' => wpAny M A (k e) (fun _ s'' => E e s'') E s') s) : wpC M A (m.onRaise k) Q E s := fun Γ p hΓ hc => by
  rw [Sem.wp_onRaise]
  exact Sem.wp_mono M Γ m (fun _ _ _ h' => h') (fun e p' s' h' => h' Γ p' hΓ) p s (h Γ p hΓ hc)
theorem wpC.holding {vs : List Value} {m : Sem α} {Q : α → Shared → Prop} (h : wpC M A m Q E s) : wpC M A (holding vs m) Q E s := fun Γ p hΓ hc => by rw [Sem.wp_holding]; exact h Γ p hΓ hc
theorem wpC.keep {vs : List Value} {m : Sem α} {Q : α → Shared → Prop} (h : wpC M A m Q E s) : wpC M A (m.keep vs) Q E s := fun Γ p hΓ hc => by rw [Sem.wp_keep]; exact h Γ p hΓ hc
theorem Clean.enter {Γ : PySem.Ctx} (h : Clean Γ) {c : Code} (hc : dec c = false) (hd : Option Value) (p : Pos) : Clean (Γ.enter c hd p) :=
  ⟨hc, fun x hx => (List.mem_cons.mp hx).elim (fun e => e ▸ h.1) (h.2 x)⟩
theorem wpC.runValue {c : Code} {Q : Value → Shared → Prop} (hc : codeC M A c (fun r s' => match r with | .ok (.ret v) => Q v s' | .ok _ => False | .error e => E e s') s) (hd : dec c = false) :
    wpC M A (runValue c) Q E s := fun Γ p hΓ cl => by rw [Sem.wp_runValue]; exact hc _ p rfl (hΓ.enter c none p (by intro x; cases x)) (cl.enter hd none p)
theorem wpC.call {f : Value} {pos : List Value} {kw : List (Str × Value)} {Q : Value → Shared → Prop} (hc : codeC M A (.call f ⟨pos, kw⟩) (fun r s' => match r with | .ok (.ret v) => Q v s' | .ok _ => False | .error e => E e s') s) :
    wpC M A (PySem.call f pos kw) Q E s := .runValue hc rfl
theorem codeC.of {c : Code} (h : codeAny M A c R s) : codeC M A c R s := fun Γ p hc hΓ _ => h Γ p hc hΓ
theorem codeC.mono {c : Code} {R' : Result → Shared → Prop} (h : codeC M A c R s) (hR : ∀ r s, R r s → R' r s) : codeC M A c R' s := fun Γ p hc hΓ cl => wpCode_mono hR (h Γ p hc hΓ cl)
theorem codeC.tree {c : Code} (h : wpC M (A.under c) (M.den c) (fun fin s' => match fin with | .done f => R (.ok f) s' | .again c' => c'.quiet = true ∧ dec c' = false ∧ codeC M A c' R s') (fun e s' => R (.error e) s') s) :
    codeC M A c R s := fun Γ p hc hΓ cl => by
  rw [wpCode_iff_wp, hc]
  refine Sem.wp_mono M Γ _ (fun fin p' s' h' => ?_) (fun _ _ _ h' => h') p s (h Γ p (hc ▸ hΓ.in) cl)
  cases fin with
  | done f => exact h'
  | again c' => exact ⟨h'.1, h'.2.2 (Γ.goto c') p' rfl (hΓ.goto c') ⟨h'.2.1, cl.2⟩⟩
theorem wpC.execs {st : Stmt} {rest : List Stmt} {Q : Flow → Shared → Prop} (h : wpC M A (exec st env) (fun f s' => match f with | .next => wpC M A (execs rest env) Q E s' | f => Q f s') E s) :
    wpC M A (execs (st :: rest) env) Q E s := fun Γ p hΓ cl => by
  rw [execs_cons, Sem.wp_bind']
  refine Sem.wp_mono M Γ _ (fun f p' s' h' => ?_) (fun _ _ _ h' => h') _ _ (h Γ p hΓ cl)
  cases f <;> first | exact h' Γ p' hΓ cl | exact h'
theorem wpC.assign {x : Str} {px pos : Pos} {value : PySem.Expr} {Q : Flow → Shared → Prop} (h : wpC M A (eval value env) (fun v s₁ => wpAny M A (storeName env x v) (fun _ => Q .next) E s₁) E s)
    (hs : swapsWith value (some (.Name x px)) pos.line env = Pure.pure false) : wpC M A (exec (.Assign [.Name x px] value pos) env) Q E s := fun Γ p hΓ cl => by
  simp only [exec_Assign_Name env x px value pos hs, Sem.wp_bind', Sem.wp_cmd_standAt, Sem.wp_bindName, Sem.wp_pure']
  exact Sem.wp_mono M Γ _ (fun v _ s₁ h₁ => h₁ Γ _ hΓ) (fun _ _ _ h' => h') _ _ (h Γ _ hΓ cl)
theorem wpC.callExpr {func : PySem.Expr} {args : List PySem.Expr} {pos : Pos} {Q : Value → Shared → Prop} (h : wpAny M A (eval func env) (fun f s₁ => wpC M A (callWith pos f [] (backTo pos (starEach args env)) []) Q E s₁) E s)
    (he : eval (.Call func args [] pos) env = (do callWith pos (← eval func env) [] (backTo pos (starEach args env)) (backToKw pos (keywordEach [] env)))) :
    wpC M A (eval (.Call func args [] pos) env) Q E s := by
  rw [he]
  exact .seq h
theorem wpC.spliced {x : Sem Value} {rest : List (Bool × Sem Value)} {Q : List Value → Shared → Prop} (h : wpC M A x (fun v s₁ => wpC M A (PySem.spliced rest) (fun vs s₂ => Q (v :: vs) s₂) E s₁) E s) :
    wpC M A (PySem.spliced ((false, x) :: rest)) Q E s := by
  rw [PySem.spliced]
  refine .bind (.mono h (fun v s₁ h₁ => ?_) fun _ _ x => x)
  exact .seq (wpAny_pure (.bind (.holding (.mono h₁ (fun vs s₂ h₂ => .pure h₂) fun _ _ x => x))))
theorem wpC.evalArgs {f : Value} {x : Sem Value} {rest : List (Bool × Sem Value)} {Q : Args → Shared → Prop} (h : wpC M A (PySem.spliced ((false, x) :: rest)) (fun vs s' => Q ⟨vs, []⟩ s') E s) :
    wpC M A (PySem.evalArgs f true ((false, x) :: rest) []) Q E s := by
  unfold PySem.evalArgs
  show wpC M A (PySem.spliced ((false, x) :: rest) >>= _) Q E s
  refine .bind (.mono h (fun vs s' h' => .holding (.of ?_)) fun _ _ x => x)
  exact wpAny_bind (wpAny_pure (wpAny_bind (wpAny_pure (wpAny_pure h'))))
theorem wpC.callType {pos : Pos} {T : String} {args : List (Bool × Sem Value)} {Q : Value → Shared → Prop} (hplain : args.any (·.1) = false)
    (h : wpC M A (PySem.evalArgs (.type T) true args []) (fun a s₁ => wpC M A (PySem.call (.type T) a.pos a.kw) Q E s₁) E s) : wpC M A (callWith pos (.type T) [] args []) Q E s := by
  unfold callWith
  refine .bind (.holding (.mono h (fun a s₁ h₁ => .seq (wpAny_standAt ?_)) fun _ _ x => x))
  simp only [hplain, List.any_nil, Bool.or_false]
  refine .seq (wpAny_pure ?_)
  exact .bind (.mono h₁ (fun r s₂ hr => .of (wpAny_bind (wpAny_holding (wpAny_point (wpAny_pure hr))))) fun _ _ x => x)
theorem wpC.callRef {K : Frag} {f : Value} {pos : Pos} {args : List (Bool × Sem Value)} {Q : Value → Shared → Prop} (hplain : args.any (·.1) = false) (hk : keepIn K f = true)
    (h : wpC M A (PySem.evalArgs f true args []) (fun a s₁ => K.In s₁.heap ∧ wpC M A (PySem.call f a.pos a.kw) Q E s₁) E s) : wpC M A (callWith pos f [] args []) Q E s := by
  unfold callWith
  refine .bind (.holding (.mono h (fun a s₁ h₁ => .seq (wpAny_standAt ?_)) fun _ _ x => x))
  obtain ⟨k, hk', L⟩ := keeps_K (M := M) hk _ h₁.1
  simp only [hplain, List.any_nil, Bool.or_false]
  refine .seq (L.here ?_)
  have tail : ∀ {t : Sem Value}, wpC M A t Q E s₁ → wpC M A (t >>= fun r => PySem.holding [r] point >>= fun _ => Pure.pure r) Q E s₁ :=
    fun ht => .bind (.mono ht (fun r s₂ hr => .of (wpAny_bind (wpAny_holding (wpAny_point (wpAny_pure hr))))) fun _ _ x => x)
  have marked (mk : Value) : wpC M A (callMarked mk f a.pos a.kw) Q E s₁ := by unfold callMarked; exact .keep h₁.2
  rcases hk' with rfl | rfl | rfl <;> dsimp only <;> first | exact tail h₁.2 | (split <;> first | exact tail h₁.2 | exact tail (marked _))
theorem wpC.argsCons {e : PySem.Expr} {rest : List PySem.Expr} {pos : Pos} {Q : List Value → Shared → Prop}
    (h : wpC M A (eval e env) (fun v s₁ => wpC M A (PySem.spliced (backTo pos (starEach rest env))) (fun vs s₂ => Q (v :: vs) s₂) E s₁) E s)
    (he : starEach (e :: rest) env = (false, eval e env) :: starEach rest env) : wpC M A (PySem.spliced (backTo pos (starEach (e :: rest) env))) Q E s := by
  rw [he]; exact .spliced h
theorem wpC.callTypeE {e : PySem.Expr} {rest : List PySem.Expr} {pos : Pos} {T : String} {Q : Value → Shared → Prop}
    (h : wpC M A (PySem.spliced (backTo pos (starEach (e :: rest) env))) (fun vs s₁ => wpC M A (PySem.call (.type T) vs) Q E s₁) E s)
    (he : starEach (e :: rest) env = (false, eval e env) :: starEach rest env) (hplain : (backTo pos (starEach rest env)).any (·.1) = false) :
    wpC M A (callWith pos (.type T) [] (backTo pos (starEach (e :: rest) env)) []) Q E s := by
  rw [he] at h ⊢
  exact .callType (by show (false || (backTo pos (starEach rest env)).any (·.1)) = false; rw [hplain]; rfl) (.evalArgs h)
theorem wpC.callRefE {K : Frag} {e : PySem.Expr} {rest : List PySem.Expr} {pos : Pos} {f : Value} {Q : Value → Shared → Prop} (hk : keepIn K f = true)
    (h : wpC M A (PySem.spliced (backTo pos (starEach (e :: rest) env))) (fun vs s₁ => K.In s₁.heap ∧ wpC M A (PySem.call f vs) Q E s₁) E s)
    (he : starEach (e :: rest) env = (false, eval e env) :: starEach rest env) (hplain : (backTo pos (starEach rest env)).any (·.1) = false) :
    wpC M A (callWith pos f [] (backTo pos (starEach (e :: rest) env)) []) Q E s := by
  rw [he] at h ⊢
  exact .callRef (by show (false || (backTo pos (starEach rest env)).any (·.1)) = false; rw [hplain]; rfl) hk (.evalArgs h)
end
section
variable {prog : Program} {w : World} {A : Around} {s : Shared} {R : Result → Shared → Prop}
theorem codeC.func {body : List Stmt} {env : Env} (h : wpC (model prog w) (A.deeper env) (execs body env) (fun f s' => R (.ok (.ret (match f with | .ret v => v | _ => .none))) s')
      (fun e s' => wpAny (model prog w) (A.deeper env) (leaving env e) (fun _ s'' => R (.error e) s'') (fun e' s'' => R (.error e') s'') s') s) : codeC (model prog w) A (.func body env) R s := by
  refine .tree ?_
  show wpC _ (A.deeper env) (do point; match ← (execs body env).onRaise (leaving env) with | .ret v => ret v | _ => ret .none) _ _ s
  refine .seq (wpAny_point (.bind (.onRaise (.mono h (fun f s' h' => ?_) fun _ _ h' => h'))))
  cases f <;> exact .pure h'
theorem codeC.callFn {a : Addr} {args : Args} {o : Obj} {fd : FuncData} {body : List Stmt} (hroom : A.depth < recursionLimit) (ho : s.heap.get? a = some o)
    (hd' : o.data = .func fd) (hco : fd.scope.isCoroutine = false) (hgen : fd.scope.isGenerator = false) (hbody : fd.body = .stmts body) (hcd : s.heap.CodeRec fd.code fd.qualname)
    (h : wpAny (model prog w) A.in1 (bindArgs fd args) (fun binds s₁ =>
      wpAny (model prog w) A.in1 (newFunctionEnv fd.scope fd.globals fd.closure binds (fd.qualname ++ ".<locals>.") (some a) fd.code none fd.builtins)
        (fun env s₂ => s₂.heap.NoLimit ∧ codeC (model prog w) A (.func body env) R s₂) (fun e s' => R (.error e) s') s₁) (fun e s' => R (.error e) s') s) :
    codeC (model prog w) A (.call (.ref a) args) R s := by
  refine .tree (.of ?_)
  show wpAny _ A.in1 (callAny (.ref a) args) _ _ s
  simp only [callAny]
  refine wpAny_bind (wpAny_load ho ?_)
  obtain ⟨c, oc, vs, tq, hc, hoc, hdc, hq⟩ := hcd
  simp only [hd', callFunction, hco, hgen, hbody, hc]
  rw [hc] at h
  refine wpAny_bind (m := field (.ref c) 1) (wpAny_field hoc hdc hq (wpAny_bind (wpAny_pure ?_)))
  exact wpAny_bind (wpAny_mono h (fun binds s₁ h₁ => wpAny_bind (wpAny_mono h₁ (fun env s₂ h₂ => wpAny_bind (wpAny_enterFrame h₂.1 hroom
    (wpAny_pure ⟨rfl, rfl, h₂.2⟩))) fun _ _ h' => h')) fun _ _ h' => h')
end
section
variable {prog : Program} {w : World} {A A₀ : Around} {s : Shared} {K : Frag} {L : Addr} {h₀ base : Heap} {m mg mb : Str → Option Value} {news : List (Addr × Obj)} {p : Program} {loose : List Str} {mean : ExcName → Option Value} {R : Result → Shared → Prop}
theorem codeC.defG {env : Env} {outer : List Env} {name qual : Str} {params : Arguments} {body : List Stmt} {scope : Scope} {dV kV doc pm cdv ct oc : Value} {an od : Option Addr} {osl : Array (Option Value)} {f : Addr} {args : Args} {binds : List (Str × Value)}
    (B : Below A₀ base outer h₀) (F : Fr h₀ L s.heap m) (X₀ : K.In h₀) (N : News h₀ L s.heap news) (T : Top p loose mean mg mb h₀) (hA : A.frames = some (env :: outer)) (hf : env.frame = some L) (hke : env.scope.kind = .function)
    (ho : K.lookup f = some ⟨oc, od, .func (fnOf name qual params body scope dV kV doc pm an cdv ct), osl⟩) (hcd : codeIn K cdv qual = true) (hroom : A.depth < recursionLimit)
    (hbind : BindsTo s (fnOf name qual params body scope dV kV doc pm an cdv ct) args binds) (hloc : ∀ y ∈ binds, scope.names.lookup y.1 = some .local)
    (h : ∀ g L' h₁, Fr h₀ L g m → Fr g L' h₁ (fun y => binds.reverse.lookup y) → News g L' h₁ news → Below A base (env :: outer) g → K.In g → Top p loose mean mg mb g → GSub s.heap g (news.map (·.1)) →
      wpC (model prog w) (A.deeper (envOf qual scope L' f cdv)) (execs body (envOf qual scope L' f cdv))
        (fun fl s' => LeaveK h₀ L m g R (match fl with | .ret v => v | _ => .none) s')
        (fun e s' => wpAny (model prog w) (A.deeper (envOf qual scope L' f cdv)) (leaving (envOf qual scope L' f cdv) e) (fun _ s'' => R (.error e) s'') (fun e' s'' => R (.error e') s'') s')
        { s with heap := h₁, toks := s.toks + binds.length })
    (hco : scope.isCoroutine = false) (hgen : scope.isGenerator = false) (hk : scope.kind = .function)
    (hcell : ∀ x ∈ scope.names, x.2 ≠ .cell) : codeC (model prog w) A (.call (.ref f) args) R s := by
  obtain ⟨FG, BG, st, lv⟩ := groundX (R := R) B F N hA hf hke
  refine .callFn (fd := fnX name qual params body scope [] dV kV doc pm an cdv ct) (body := body) hroom ((X₀.keeps F.keep) _ _ ho) rfl hco hgen rfl (codeRec_of (X₀.keeps F.keep) hcd) (hbind _ _ _ _ ?_)
  refine wpAny_newFunctionEnv hcell hloc (fun h₁ hns₁ hsb₁ => ⟨((T.nolimit).keeps F.keep).fresh _ hsb₁, .func ?_⟩) hk
  have hk₁ : ∀ b o, s.heap.get? b = some o → h₁.get? b = some o := fun b o e => hsb₁.extBut b o (Nat.ne_of_lt (Heap.lt_size e)) (Heap.get?_push_of_some _ e)
  exact .mono (h _ s.heap.objs.size h₁ FG ⟨hns₁, fun b o e => hk₁ b o (of_hideAll _ e), Nat.le_of_eq (hideAll_size _ _)⟩
    (fun p hp => ⟨hk₁ _ _ (N p hp).1, Nat.ne_of_lt (Heap.lt_size (N p hp).1), hideAll_none _ (List.mem_map_of_mem hp)⟩) BG (X₀.keeps st) (T.keeps st) (fun b o e n => hideAll_get _ e n)) (fun fl s' hl => lv _ _ hl) fun _ _ y => y
end
end Mine
end
section
open PySem PySem.W PyProof.Rows PySem.Calls PySem.Spec PySem.Flt
set_option Elab.async false
set_option maxRecDepth 100000
set_option maxHeartbeats 8000000
namespace Mine
abbrev callerCtx : PySem.Ctx := ⟨.builtin "claim.caller" {}, none, none, [], none⟩
theorem caller_clean : Clean callerCtx := ⟨by decide +kernel, fun _ h => nomatch h⟩
theorem endsC {prog : Program} {w : World} {t : Sem PySem.Fin} {s : Shared} {R : Result → Shared → Prop} (hreg : s.asleep)
    (h : wpC (model prog w) callerA t (fun fin s' => ∃ f, fin = .done f ∧ (R (.ok f) s' ∧ AllBare s'.gens)) (fun e s' => R (.error e) s' ∧ AllBare s'.gens) s) :
    ∃ n r s' s'', runN (denote table) prog w n s ⟨t, .builtin "claim.caller" {}, default, []⟩ = .halted (outcomeOf r) s' ∧
      schedN (denote table) prog w n (.single s ⟨t, .builtin "claim.caller" {}, default, []⟩) = .halted (outcomeOf r) s' ∧ s'.forget = s''.forget ∧ R r s'' := by
  have g := h callerCtx default caller_in caller_clean
  obtain ⟨n, r, s₁, s₂, hs, hn, hfo, hR⟩ := wp_halts_full (M := model prog w) (c := .builtin "claim.caller" {}) (R := R) (p := default) hreg
    (Sem.wp_mono _ _ _ (fun fin p' s' => by
      rintro ⟨f, rfl, hf, hb⟩
      exact ⟨hf, leftWithCleanup_false_of_bare hb⟩) (fun e p' s' ⟨he, hb⟩ => ⟨he, leftWithCleanup_false_of_bare hb⟩) _ _ g)
  exact ⟨n, r, s₂, s₁, hn, hs, hfo, hR⟩
theorem callFromC {c : ClaimW} {tree : List Value → Sem PySem.Fin} {w : World} {s : Shared} {free : Addr → Prop} {gens : Prop} {kept : Heap → Prop} (hz : s.asleep) (hgens : s.gens = #[])
    (hspec : ∀ args, c.pre args = true → WData.layableAll args = true → ∀ ord : List DictEntry → List DictEntry, (∀ l, (ord l).Perm l) →
      ∃ vs s₁, layAllW c.records (classAt s.heap) w.params ord args s = some (vs, s₁) ∧
        wpC (model c.prog w) callerA (tree vs) (fun fin s' => ∃ f, fin = .done f ∧ (c.Ends s args vs s₁ (.ok f) s' ∧ s'.os = s.os ∧ AllBare s'.gens ∧ kept s'.heap))
          (fun e s' => c.Ends s args vs s₁ (.error e) s' ∧ s'.os = s.os ∧ AllBare s'.gens ∧ kept s'.heap) s₁) :
    c.CallFrom (fun vs => ⟨tree vs, .builtin "claim.caller" {}, default, []⟩) w free gens kept s := by
  intro args hpre hlay ord hord
  refine hide fun CC hCC => ?_
  obtain ⟨vs, s₁, hlaid, hcode⟩ := hspec args hpre hlay ord hord
  have hal := layAllW_rest _ _ _ hlaid
  obtain ⟨k, r, s', s'', hrun, hsched, hfo, hcase, hos, hkp⟩ := endsC (R := fun r s' => c.Ends s args vs s₁ r s' ∧ s'.os = s.os ∧ kept s'.heap)
    (Shared.asleep_of_life hal.2.2.2 hz)
    (hcode.mono (fun fin s' ⟨f, e, h1, h2, h3, h4⟩ => ⟨f, e, ⟨h1, h2, h4⟩, h3⟩) fun e s' ⟨h1, h2, h3, h4⟩ => ⟨⟨h1, h2, h4⟩, h3⟩)
  obtain ⟨eh, _, _, eo, _⟩ := Shared.forget_eq hfo
  have hc := hcase.congr eh
  rw [← eh] at hkp
  rw [← eo] at hos
  refine hCC ⟨vs, s₁, hlaid, k, _, s', hsched, ?_, fun _ i x hx => by rw [hgens] at hx; simp at hx, hkp, by rw [(runN_life _ _ _ hrun).trans hal.2.2.2], Shared.rest_eq hos⟩
  refine hc.imp (Exists.imp fun v d => ?_) (Exists.imp fun e => Exists.imp fun ob => Exists.imp fun cls d => ?_)
  · exact ⟨by rw [d.1]; rfl, d.2.1, d.2.2.1, d.2.2.2.1, fun b o y _ => d.2.2.2.2.1 b o y, d.2.2.2.2.2⟩
  · exact ⟨by rw [d.1]; rfl, d.2.1, d.2.2.1, d.2.2.2.1, d.2.2.2.2.1, fun b o y _ => d.2.2.2.2.2 b o y⟩
theorem openC {r : RowW} {tree : List Value → Sem PySem.Fin} {q : Program} {loose defs kps : List Str} {writes : Bool} {Xt : Shared → Bool} {XP : (Str → Option Value) → Heap → Prop} {α : Type} {Yf : Shared → α} {Ya : World → α} {YP : World → Heap → Prop} {N : Nat}
    (left : LeftO r.prog q loose Xt Yf Ya N) (hY : ∀ w s, Yf s = Ya w → YP w s.heap) (hYk : ∀ w h h', YP w h → (∀ b o, h.get? b = some o → h'.get? b = some o) → YP w h') (hX : ∀ s, Xt s = true → XP (s.heap.nsMap mainGlobals) s.heap) (hXk : ∀ mg h h', XP mg h → (∀ b o, h.get? b = some o → h'.get? b = some o) → XP mg h')
    (hRf : ∀ s, Xt s = true → RecFacts r.records s.heap) (hwr : (!writes || r.records.isEmpty) = true) (ok : (chainsOk q && opensWell r.prog && (frees r && r.within.isEmpty)) = true) (hb : r.prog.bare) (hw : r.promised)
    (pin : ∀ w s, s.heap.isNs mainGlobals = true → Ground q loose [] XP w s (s.heap.nsMap mainGlobals) (s.heap.nsMap builtinsNs) s.heap → ∀ n ∈ defs, isTheDefsW r.prog s.heap n)
    (call : ∀ (w : World) (s₀ s₁ : Shared) (mg mb : Str → Option Value), Ground q loose r.records XP w s₀ mg mb s₁.heap → YP w s₁.heap → ∀ (args : List WData) (vs : List Value) (as : List Addr),
      r.claim.pre args = true → WData.layableAll args = true → Laid r.records w s₀ s₁ args vs as → sysModules < s₀.heap.objs.size →
        wpC (model r.prog w) callerA (tree vs) (fun fin s' => ∃ v, fin = .done (.ret v) ∧ GoodWG r.claim (classAt s₀.heap) (ExcName.means s₀.heap) args s₁ (.ok (.ret v)) s')
          (fun e s' => GoodWG r.claim (classAt s₀.heap) (ExcName.means s₀.heap) args s₁ (.error e) s') s₁) : r.claim.HoldsOpenBy (fun vs => ⟨tree vs, .builtin "claim.caller" {}, default, []⟩) defs kps writes := by
  have k0 := Bool.and_eq_true_iff.mp ok
  have k1 := Bool.and_eq_true_iff.mp k0.1
  have k2 := Bool.and_eq_true_iff.mp k0.2
  obtain ⟨hsame, hu, ha, hap, hm⟩ := frees_parts k2.1
  have hi := ident_freeW hu ha hap
  have hwi : r.claim.within = [] := List.isEmpty_iff.mp k2.2
  refine ⟨⟨hb, k1.2, by show r.makers.map _ = []; rw [hm]; rfl⟩, hw.witness, fun w => ?_⟩
  have lb := left.behind (XP := fun mg h => XP mg h ∧ RecFacts r.records h) (fun s hs => ⟨hX s hs, hRf s hs⟩) k1.1 w
  refine ⟨lb.1, fun s' hs' => hide fun CC hCC => ?_⟩
  obtain ⟨s₀, hf, hg0, s, hT, hz, hgens, hg, G00, y⟩ := lb.2 s' hs'
  have G0 : Ground q loose [] XP w s (s.heap.nsMap mainGlobals) (s.heap.nsMap builtinsNs) s.heap := ⟨G00.T, G00.B, G00.D, G00.TE, G00.TD, G00.W, G00.X.1, G00.cls, G00.has, G00.apart, G00.once, G00.K⟩
  have G := G00.X.2.ground G0
  have hT' := hT
  refine hCC ⟨s₀, hf, hg0, s, hT, pin w s hg G0, G00.X.2.1, G00.X.2.2.1, callFromC (c := r.claim) hz (Array.eq_empty_of_size_eq_zero (beq_iff_eq.mp hgens)) fun args hpre hlay ord hord => hide fun CC hCC => ?_⟩
  obtain ⟨⟨vs, s₁⟩, hlaid⟩ := Option.isSome_iff_exists.mp (layAllW_isSome (P := w.params) (ord := ord) G.has args r.args s (pre_splitW hpre).1)
  have keeps := layAllW_keeps _ _ _ hlaid
  have hal := layAllW_rest _ _ _ hlaid
  obtain ⟨as, hrd, hin, hold⟩ := reads_layAllW hord _ _ _ hlaid hlay s₁.heap (fun _ _ e => e)
  have L : Laid r.records w s s₁ args vs as := ⟨⟨ord, hord, hlaid⟩, hrd, hin, hold, keeps, hal.1.trans (Array.eq_empty_of_size_eq_zero (beq_iff_eq.mp hgens)), hal.2.2.1⟩
  have h := call w s s₁ _ _ (G.keeps hXk keeps) (hYk _ _ _ (hY w s y) keeps) args vs as hpre hlay L G.low
  refine hCC ⟨vs, s₁, hlaid, h.mono (fun fin s' => ?_) fun e s' g => ?_⟩
  · rintro ⟨v, rfl, g⟩
    have z := g.laid (c := r.claim) hsame hwi hi L
    exact ⟨_, rfl, z.1, z.2.1, z.2.2, fun q => ⟨namesKept_of hT' hg kps keeps g.2.1.old, noTable hwr q⟩⟩
  · have z := g.laid (c := r.claim) hsame hwi hi L
    exact ⟨z.1, z.2.1, z.2.2, fun q => ⟨namesKept_of hT' hg kps keeps g.2.1.old, noTable hwr q⟩⟩
/-- the walk that a law's head asks for, over clean contexts -/
abbrev WalkC (q : Program) (loose : List Str) (XP : (Str → Option Value) → Heap → Prop) (YP : World → Heap → Prop) (r : RowW) (d : DefRec) (kwd : List (Str × PySem.Expr)) : Prop :=
  ∀ (w : World) (s₀ s₁ : Shared) (mg mb : Str → Option Value), Ground q loose r.records XP w s₀ mg mb s₁.heap → YP w s₁.heap → ∀ (a : Addr) (o : Obj) (pm cd doc dV kV : Value), s₁.heap.get? a = some o →
    o.data = .func { docDef d.name d.params d.body d.scope pm cd doc with defaults := dV, kwdefaults := kV } → s₁.heap.CodeRec cd d.name → Dflts mg s₁.heap d.params kwd dV kV → mg d.name = some (.ref a) → s₁.gens = #[] →
    ∀ (args : List WData) (vals : List Value) (as : List Addr), r.claim.pre args = true → WData.layableAll args = true → ReadsAllW r.records (classAt s₀.heap) s₁.heap vals args as → WellAll w.params s₁.heap vals args → (∀ a ∈ as, (a == sysModules) = false) →
      wpC (model r.prog w) callerA (PySem.call (.ref a) vals) (fun v s' => GoodWG r.claim (classAt s₀.heap) (ExcName.means s₀.heap) args s₁ (.ok (.ret v)) s')
        (fun e s' => GoodWG r.claim (classAt s₀.heap) (ExcName.means s₀.heap) args s₁ (.error e) s') s₁
theorem holds_openC {r : OpenRow} {q : Program} {loose : List Str} {Xt : Shared → Bool} {XP : (Str → Option Value) → Heap → Prop} {α : Type} {Yf : Shared → α} {Ya : World → α} {YP : World → Heap → Prop} {d : DefRec} {kwd : List (Str × PySem.Expr)} {N : Nat}
    (left : LeftO r.prog q loose Xt Yf Ya N) (hY : ∀ w s, Yf s = Ya w → YP w s.heap) (hYk : ∀ w h h', YP w h → (∀ b o, h.get? b = some o → h'.get? b = some o) → YP w h')
    (hX : ∀ s, Xt s = true → XP (s.heap.nsMap mainGlobals) s.heap) (hXk : ∀ mg h h', XP mg h → (∀ b o, h.get? b = some o → h'.get? b = some o) → XP mg h')
    (hdef : defOf q r.name = some (d, kwd)) (hp : r.prog.theDef r.name = some (d.params, d.body, d.scope)) (hk : kwWritten? d.params.kwonlyargs d.params.kw_defaults = some kwd) (hRf : ∀ s, Xt s = true → RecFacts r.records s.heap) (hwr : (!r.writes || r.records.isEmpty) = true)
    (k1 : r.wellSaid = true) (ok : (chainsOk q && opensWell r.prog && (frees r.toRowW && r.within.isEmpty)) = true) (hb : r.prog.bare) (hw : r.toRowW.promised)
    (walk : WalkC q loose XP YP r.toRowW d kwd) : r.Holds := by
  refine ⟨k1, hw, openC (r := r.toRowW) (tree := fun vs => do match ← nsGet mainNs r.name with
      | some f => do ret (← PySem.call f vs)
      | none => unsupported "claim.caller:no-such-global") left hY hYk hX hXk hRf hwr ok hb hw (fun w s hg G n hn => ?_) fun w s₀ s₁ mg mb G Y args vs as hpre hlay L low => ?_⟩
  · obtain rfl : n = r.name := by split at hn <;> simp_all
    exact pinned_of_view hg G hdef hp hk
  · obtain ⟨a, o, pm, cd, doc, dV, kV, h1, h2, h3, h4, h5⟩ := G.fn hdef
    have hh := walk w s₀ s₁ mg mb G Y a o pm cd doc dV kV h2 h3 h4 h5 (defOf_name hdef ▸ h1) L.gens args vs as hpre hlay L.reads L.well (L.low low)
    refine .seq (wpAny_nsGet G.T.g ?_)
    rw [show mg r.name = some (.ref a) from h1]
    exact .bind (hh.mono (fun v s' g => .pure ⟨v, rfl, g⟩) fun _ _ x => x)
end Mine
end
section
open PySem PySem.W PyProof.Rows PySem.Calls PySem.Spec
set_option Elab.async false
set_option maxRecDepth 100000
set_option maxHeartbeats 8000000
namespace Mine
set_option pp.deepTerms false
theorem said : PySem.Challenge.rw_zn0010_01.wellSaid = true := by decide +kernel
abbrev bodyQ : List Stmt := [1, 2, 3, 4, 5, 6, 8, 9, 10, 11, 12, 13, 15, 17, 19, 20, 21, 22, 23, 24].filterMap (PySem.Challenge.pw_zn0010_01.main.body[·]?)
def viewQ : Program := { PySem.Challenge.pw_zn0010_01 with main := { PySem.Challenge.pw_zn0010_01.main with body := bodyQ } }
abbrev looseQ : List Str := [Str.ofString "ONE_THIRD", Str.ofString "ONE_SIXTH", Str.ofString "TWO_THIRD"]
abbrev lvQ : List (Str × WData) := [(Str.ofString "ONE_THIRD", .float 4599676419421066581), (Str.ofString "ONE_SIXTH", .float 4595172819793696085), (Str.ofString "TWO_THIRD", .float 4604180019048437077)]
local macro_rules | `(tactic| o_law) => `(tactic| (refine ⟨said, ?_⟩))
local macro_rules | `(tactic| o_head $H) => `(tactic| (refine Mine.holds_openC (q := viewQ) (loose := looseQ) (Xt := fun s => xlAt viewQ lvQ s && recOk (RowW.records (OpenRow.toRowW (OpenLaw.row PySem.Challenge.rw_zn0010_01))) s) (XP := XL viewQ lvQ) (Yf := Hook.obs $H) (Ya := Hook.val $H) (YP := Hook.says $H) (N := 1366) ?hl (Hook.of $H) (Hook.keeps $H) (fun s e => xl_of s (Bool.and_eq_true_iff.mp e).1) XL.keeps (by rfl) (by rfl) (by rfl) (fun s e => recFacts_of (Bool.and_eq_true_iff.mp e).2) (by rfl) (row_said said) (by decide +kernel) ⟨rfl, rfl, rfl, rfl, rfl, by decide +kernel⟩ ?hw ?hc; (case hl => (intro w; kernel_rfl))))
open_top hd for PySem.Challenge.rw_zn0010_01
end Mine
end
section
set_option Elab.async false
set_option maxRecDepth 100000
namespace Mine
open PySem PySem.Float64

def fT (n : Nat) : Nat := if n = 0 then 0 else (n.log2 + 1014) * 2 ^ 52 + n * 2 ^ (52 - n.log2)
def fl (n : Nat) : UInt64 := pack false (fT n)

theorem log2_lt {n k : Nat} (h : n < 2 ^ (k + 1)) (h0 : n ≠ 0) : n.log2 ≤ k := by
  have := (Nat.log2_lt h0).mpr h
  (first | lia | omega)
theorem V_fT {n : Nat} (h : n < 2 ^ 20) : V (fT n) = n * 2 ^ 1066 := by
  by_cases h0 : n = 0
  · subst h0; simp [fT, V_zero]
  · have hl : n.log2 ≤ 19 := log2_lt h h0
    have h1 : 2 ^ n.log2 ≤ n := Nat.log2_self_le h0
    have h2 : n < 2 ^ (n.log2 + 1) := Nat.lt_log2_self
    unfold fT
    rw [if_neg h0, V_at]
    · rw [Nat.mul_assoc, ← Nat.pow_add]
      congr 2
      (first | lia | omega)
    · have : n * 2 ^ (52 - n.log2) ≤ 2 ^ (n.log2 + 1) * 2 ^ (52 - n.log2) := Nat.mul_le_mul_right _ (Nat.le_of_lt h2)
      rw [← Nat.pow_add] at this
      have e : n.log2 + 1 + (52 - n.log2) = 53 := by (first | lia | omega)
      rwa [e] at this
    · left
      have : 2 ^ n.log2 * 2 ^ (52 - n.log2) ≤ n * 2 ^ (52 - n.log2) := Nat.mul_le_mul_right _ h1
      rw [← Nat.pow_add] at this
      have e : n.log2 + (52 - n.log2) = 52 := by (first | lia | omega)
      rwa [e] at this
theorem fT_lt {n : Nat} (h : n < 2 ^ 20) : fT n < infMag := by
  by_cases h0 : n = 0
  · subst h0; decide
  · have hl : n.log2 ≤ 19 := log2_lt h h0
    have h2 : n < 2 ^ (n.log2 + 1) := Nat.lt_log2_self
    have : n * 2 ^ (52 - n.log2) ≤ 2 ^ 53 := by
      have : n * 2 ^ (52 - n.log2) ≤ 2 ^ (n.log2 + 1) * 2 ^ (52 - n.log2) := Nat.mul_le_mul_right _ (Nat.le_of_lt h2)
      rw [← Nat.pow_add] at this
      have e : n.log2 + 1 + (52 - n.log2) = 53 := by (first | lia | omega)
      rwa [e] at this
    unfold fT infMag
    rw [if_neg h0]
    (first | lia | omega)
theorem V_inj {t t' : Nat} (h : V t = V t') : t = t' := by
  rcases Nat.lt_trichotomy t t' with h1 | h1 | h1
  · exact absurd h (Nat.ne_of_lt (V_lt h1))
  · exact h1
  · exact absurd h.symm (Nat.ne_of_lt (V_lt h1))
theorem dist_self (a : Nat) : dist a a = 0 := by unfold dist; (first | lia | omega)
theorem eq_of_dist {a b : Nat} (h : dist a b = 0) : a = b := by unfold dist at h; (first | lia | omega)
theorem right_exact {r : UInt64} {neg : Bool} {W t : Nat} (h : Right r neg W 1) (hV : V t = W) (_ht : t < infMag) (hW : W < 2 ^ 2000) : r = pack neg t := by
  obtain ⟨u, hr, hu, hinf, hnear⟩ := h
  have hne : u ≠ infMag := fun e => by
    have := hinf.mp e
    have k : (2 ^ 54 - 1) * 2 ^ 2045 > 2 * 2 ^ 2000 := by decide +kernel
    generalize (2 ^ 54 - 1) * 2 ^ 2045 = A at *
    generalize (2 : Nat) ^ 2000 = B at *
    (first | lia | omega)
  have := (hnear (by (first | lia | omega)) t).1
  rw [Nat.one_mul, Nat.one_mul, hV, dist_self] at this
  have e := eq_of_dist (Nat.le_zero.mp this)
  rw [hr, V_inj (hV.trans e)]
theorem fl_dec (n : Nat) (h : n < 2 ^ 20) : ∃ m e, decode (fl n) = .fin false m e ∧ m * 2 ^ (e + 1074).toNat = n * 2 ^ 1066 := by
  obtain ⟨m, e, hd, hv⟩ := decode_pack false (fT_lt h)
  exact ⟨m, e, hd, by rw [hv, V_fT h]⟩
theorem fl_val (n : Nat) (h : n < 2 ^ 20) : val (fl n) = (n : Int) * 2 ^ 1066 := by
  unfold fl
  rw [val_pack false (fT_lt h), V_fT h]
  simp [sgn]
theorem big : ∀ n : Nat, n < 2 ^ 20 → n * 2 ^ 1066 < 2 ^ 2000 := by
  intro n h
  have k : 2 ^ 20 * 2 ^ 1066 < 2 ^ 2000 := by decide +kernel
  exact Nat.lt_of_le_of_lt (Nat.mul_le_mul_right _ (Nat.le_of_lt h)) k
theorem pos1066 : (0 : Int) < 2 ^ 1066 := by decide +kernel
theorem natpow : ((2 ^ 1066 : Nat) : Int) = (2 : Int) ^ 1066 := by decide +kernel
theorem fl_add {a b : Nat} (h : a + b < 2 ^ 20) : add (fl a) (fl b) = fl (a + b) := by
  obtain ⟨m, e, hx, hm⟩ := fl_dec a (by (first | lia | omega))
  obtain ⟨k, f, hy, hk⟩ := fl_dec b (by (first | lia | omega))
  have hr := add_right hx hy
  have hs : val (fl a) + val (fl b) = ((a + b : Nat) : Int) * 2 ^ 1066 := by
    rw [fl_val a (by (first | lia | omega)), fl_val b (by (first | lia | omega)), Int.natCast_add, Int.add_mul]
  rw [hs] at hr
  by_cases h0 : a + b = 0
  · rw [h0] at hr ⊢
    rw [hr.1 (by simp)]
    rfl
  · have hp : (0 : Int) < ((a + b : Nat) : Int) * 2 ^ 1066 := Int.mul_pos (by (first | lia | omega)) pos1066
    have h2 := hr.2 (by (first | lia | omega))
    have hn : (((a + b : Nat) : Int) * 2 ^ 1066).natAbs = (a + b) * 2 ^ 1066 := by
      rw [Int.natAbs_mul, Int.natAbs_natCast, ← natpow, Int.natAbs_natCast]
    rw [hn, decide_eq_false (by (first | lia | omega))] at h2
    exact right_exact h2 (V_fT h) (fT_lt h) (big _ h)
theorem fl_sub {a b : Nat} (h : a < 2 ^ 20) (hb : b ≤ a) : sub (fl a) (fl b) = fl (a - b) := by
  obtain ⟨m, e, hx, hm⟩ := fl_dec a (by (first | lia | omega))
  obtain ⟨k, f, hy, hk⟩ := fl_dec b (by (first | lia | omega))
  have hr := sub_right hx hy
  have hs : val (fl a) - val (fl b) = ((a - b : Nat) : Int) * 2 ^ 1066 := by
    rw [fl_val a (by (first | lia | omega)), fl_val b (by (first | lia | omega)), Int.natCast_sub hb, Int.sub_mul]
  rw [hs] at hr
  by_cases h0 : a - b = 0
  · rw [h0] at hr ⊢
    rw [hr.1 (by simp)]
    rfl
  · have hp : (0 : Int) < ((a - b : Nat) : Int) * 2 ^ 1066 := Int.mul_pos (by (first | lia | omega)) pos1066
    have h2 := hr.2 (by (first | lia | omega))
    have hn : (((a - b : Nat) : Int) * 2 ^ 1066).natAbs = (a - b) * 2 ^ 1066 := by
      rw [Int.natAbs_mul, Int.natAbs_natCast, ← natpow, Int.natAbs_natCast]
    rw [hn, decide_eq_false (by (first | lia | omega))] at h2
    exact right_exact h2 (V_fT (by (first | lia | omega))) (fT_lt (by (first | lia | omega))) (big _ (by (first | lia | omega)))
theorem fl_cmp {a b : Nat} (ha : a < 2 ^ 20) (hb : b < 2 ^ 20) : cmp (fl a) (fl b) = some (compare (a : Int) (b : Int)) := by
  obtain ⟨m, e, hx, hm⟩ := fl_dec a ha
  obtain ⟨k, f, hy, hk⟩ := fl_dec b hb
  rw [cmp_right hx hy, fl_val a ha, fl_val b hb]
  congr 1
  rcases Int.lt_trichotomy (a : Int) b with h | h | h
  · rw [Int.compare_eq_lt.mpr h, Int.compare_eq_lt.mpr (Int.mul_lt_mul_of_pos_right h pos1066)]
  · rw [h]; simp
  · rw [Int.compare_eq_gt.mpr h, Int.compare_eq_gt.mpr (Int.mul_lt_mul_of_pos_right h pos1066)]
theorem fl_lt {a b : Nat} (ha : a < b) (hb : b < 2 ^ 20) : cmp (fl a) (fl b) = some .lt := by
  rw [fl_cmp (by (first | lia | omega)) hb, Int.compare_eq_lt.mpr (by (first | lia | omega))]
theorem fl_gt {a b : Nat} (ha : a < b) (hb : b < 2 ^ 20) : cmp (fl b) (fl a) = some .gt := by
  rw [fl_cmp hb (by (first | lia | omega)), Int.compare_eq_gt.mpr (by (first | lia | omega))]
theorem fl_eq {a : Nat} (ha : a < 2 ^ 20) : cmp (fl a) (fl a) = some .eq := by
  rw [fl_cmp ha ha]; simp
theorem fl_nz {a : Nat} (ha : a < 2 ^ 20) (h0 : a ≠ 0) : isZero (fl a) = false := by
  obtain ⟨m, e, hx, hm⟩ := fl_dec a ha
  have : m ≠ 0 := fun h => by
    rw [h, Nat.zero_mul] at hm
    have : 0 < a * 2 ^ 1066 := Nat.mul_pos (by (first | lia | omega)) (Nat.two_pow_pos _)
    (first | lia | omega)
  unfold isZero
  rw [hx]
  cases m
  · exact absurd rfl this
  · rfl
theorem roundMag_self {m : Nat} (hm : m ≠ 0) : roundMag m m = 1023 * 2 ^ 52 := by
  have e0 : (if (m == 0) = true then (0 : Nat) else 1) = 1 := by simp [hm]
  unfold roundMag
  rw [if_neg (by simpa using hm)]
  simp only [Int.sub_self]
  have s0 : shift m m (-0) = (m, m) := by simp [shift]
  rw [s0]
  simp only [ge_iff_le, Nat.le_refl, if_true]
  have e1 : max ((0 : Int) - 52) (-1074) = -52 := by decide
  rw [e1]
  have s1 : shift m m (- -52) = (m * 2 ^ 52, m) := by simp [shift]
  rw [s1]
  simp only
  have hh : halfEven (m * 2 ^ 52) m = 2 ^ 52 := by
    unfold halfEven
    have q : m * 2 ^ 52 / m = 2 ^ 52 := Nat.mul_div_cancel_left _ (Nat.pos_of_ne_zero hm)
    have r : m * 2 ^ 52 % m = 0 := Nat.mul_mod_right _ _
    simp only [q, r]
    rw [if_neg]
    simp
  rw [hh]
  decide
theorem fl_div_self {a : Nat} (ha : a < 2 ^ 20) (h0 : a ≠ 0) : div (fl a) (fl a) = one := by
  obtain ⟨m, e, hx, hm⟩ := fl_dec a ha
  have hm0 : m ≠ 0 := fun h => by
    rw [h, Nat.zero_mul] at hm
    have : 0 < a * 2 ^ 1066 := Nat.mul_pos (by (first | lia | omega)) (Nat.two_pow_pos _)
    (first | lia | omega)
  unfold div
  rw [hx]
  simp only
  rw [if_neg (by simpa using hm0)]
  have s0 : shift m m (e - e) = (m, m) := by rw [Int.sub_self]; simp [shift]
  rw [s0]
  simp only [ofFrac, roundMag_self hm0]
  rfl
theorem fl_zero_div {a : Nat} (ha : a < 2 ^ 20) (h0 : a ≠ 0) : div (fl 0) (fl a) = 0 := by
  obtain ⟨m, e, hx, hm⟩ := fl_dec a ha
  have hm0 : m ≠ 0 := fun h => by
    rw [h, Nat.zero_mul] at hm
    have : 0 < a * 2 ^ 1066 := Nat.mul_pos (by (first | lia | omega)) (Nat.two_pow_pos _)
    (first | lia | omega)
  have hz : decode (fl 0) = .fin false 0 (-1074) := by rw [show fl 0 = 0 from by decide +kernel]; exact PySem.Flt.decode_zero
  unfold div
  rw [hx, hz]
  simp only
  rw [if_neg (by simpa using hm0)]
  unfold shift
  split <;> simp [ofFrac, roundMag] <;> rfl
theorem fl_of_frac {n : Nat} (h : n < 2 ^ 20) : ofFrac false n 256 = fl n := by
  have hr : Right (ofFrac false n 256) false (n * 2 ^ 1066) 1 := ofFrac_right (by decide) (by
    rw [Nat.mul_one, Nat.mul_assoc]
    congr 1) (by decide)
  exact right_exact hr (V_fT h) (fT_lt h) (big _ h)
theorem fl_two : fl 512 = 0x4000000000000000 := by decide +kernel
theorem fl_0 : fl 0 = 0 := by decide +kernel
theorem one_is : one = 0x3ff0000000000000 := by decide +kernel
end Mine
end
section
open PySem PySem.W PyProof.Rows PySem.Calls PySem.Spec PySem.Flt
set_option Elab.async false
set_option maxRecDepth 100000
set_option maxHeartbeats 8000000
namespace Mine
section
variable {prog : Program} {w : World} {A : Around} {E : Value → Shared → Prop} {s : Shared} {Q : Value → Shared → Prop} {a b c r : Value} {h₀ : Heap} {L : Addr} {m : Str → Option Value} {news : List (Addr × Obj)}
theorem max3 (hh : A.handled = none) (ha : NumV a) (hb : NumV b) (hc : NumV c)
    (hr : (#[a, b, c] : Array Value)[argBest (fun i j => ltV ((#[a, b, c] : Array Value).getD j .none) ((#[a, b, c] : Array Value).getD i .none)) 2]? = some r)
    (F : Fr h₀ L s.heap m) (N : News h₀ L s.heap news)
    (h : ∀ h' tk, Fr h₀ L h' m → News h₀ L h' news → Q r { s with heap := h', toks := tk }) :
    wpAny (model prog w) A (call (.builtin "max") [a, b, c]) Q E s := by
  have hT : (s.heap.push { cls := .type "tuple", data := .seq #[a, b, c] }).IsTuple s.heap.objs.size #[a, b, c] := ⟨_, Heap.get?_push_size _ rfl, rfl, 0, rfl⟩
  refine call_max_three (wpAny_pyIter_tuple hT ?_)
  have hsz : (s.heap.push { cls := .type "tuple", data := .seq #[a, b, c] }).objs.size = s.heap.objs.size + 1 := Heap.size_push ..
  refine ⟨_, [_, s.heap.objs.size], [_], _, _, _, _, rfl, Walks.tuple (A := A.in1) hh _ s.heap.objs.size (by rw [hsz]; exact Nat.ne_of_lt (Nat.lt_succ_self _)) #[a, b, c],
    ⟨⟨_, Heap.get?_push_size _ rfl, rfl, rfl⟩, hT.push _⟩, fun d hd => ?_, by simp, cmpOf_gt #[a, b, c] (by simp [ha, hb, hc]), fun v h' tk hP hk => ?_⟩
  · show d < ((s.heap.push _).push _).objs.size
    rw [Heap.size_push, hsz]
    rcases List.mem_cons.mp hd with rfl | hd
    · rw [hsz]; exact Nat.lt_succ_self _
    · rcases List.mem_cons.mp hd with rfl | hd
      · exact Nat.lt_succ_of_lt (Nat.lt_succ_self _)
      · cases hd
  · have hold : ∀ d o, s.heap.get? d = some o → h'.get? d = some o := fun d o e => by
      refine hk d o (fun hm => ?_) (Heap.get?_push_of_some _ (Heap.get?_push_of_some _ e))
      rcases List.mem_cons.mp hm with e1 | hm
      · have := Heap.lt_size e; rw [e1, hsz] at this; exact Nat.lt_irrefl _ (Nat.lt_of_succ_lt this)
      · cases hm
    have hv : v = r := Option.some.inj (Eq.trans (Eq.symm hP) hr)
    rw [hv]; exact h h' tk (F.grownK hold) (N.grown hold)
theorem min3 (hh : A.handled = none) (ha : NumV a) (hb : NumV b) (hc : NumV c)
    (hr : (#[a, b, c] : Array Value)[argBest (fun i j => ltV ((#[a, b, c] : Array Value).getD i .none) ((#[a, b, c] : Array Value).getD j .none)) 2]? = some r)
    (F : Fr h₀ L s.heap m) (N : News h₀ L s.heap news)
    (h : ∀ h' tk, Fr h₀ L h' m → News h₀ L h' news → Q r { s with heap := h', toks := tk }) :
    wpAny (model prog w) A (call (.builtin "min") [a, b, c]) Q E s := by
  have hT : (s.heap.push { cls := .type "tuple", data := .seq #[a, b, c] }).IsTuple s.heap.objs.size #[a, b, c] := ⟨_, Heap.get?_push_size _ rfl, rfl, 0, rfl⟩
  refine call_min_three (wpAny_pyIter_tuple hT ?_)
  have hsz : (s.heap.push { cls := .type "tuple", data := .seq #[a, b, c] }).objs.size = s.heap.objs.size + 1 := Heap.size_push ..
  refine ⟨_, [_, s.heap.objs.size], [_], _, _, _, _, rfl, Walks.tuple (A := A.in1) hh _ s.heap.objs.size (by rw [hsz]; exact Nat.ne_of_lt (Nat.lt_succ_self _)) #[a, b, c],
    ⟨⟨_, Heap.get?_push_size _ rfl, rfl, rfl⟩, hT.push _⟩, fun d hd => ?_, by simp, cmpOf_lt #[a, b, c] (by simp [ha, hb, hc]), fun v h' tk hP hk => ?_⟩
  · show d < ((s.heap.push _).push _).objs.size
    rw [Heap.size_push, hsz]
    rcases List.mem_cons.mp hd with rfl | hd
    · rw [hsz]; exact Nat.lt_succ_self _
    · rcases List.mem_cons.mp hd with rfl | hd
      · exact Nat.lt_succ_of_lt (Nat.lt_succ_self _)
      · cases hd
  · have hold : ∀ d o, s.heap.get? d = some o → h'.get? d = some o := fun d o e => by
      refine hk d o (fun hm => ?_) (Heap.get?_push_of_some _ (Heap.get?_push_of_some _ e))
      rcases List.mem_cons.mp hm with e1 | hm
      · have := Heap.lt_size e; rw [e1, hsz] at this; exact Nat.lt_irrefl _ (Nat.lt_of_succ_lt this)
      · cases hm
    have hv : v = r := Option.some.inj (Eq.trans (Eq.symm hP) hr)
    rw [hv]; exact h h' tk (F.grownK hold) (N.grown hold)
end

def scal (P : Value → Prop) (v : Value) (tl : List (Addr × Obj)) : Prop := tl = [] ∧ P v
def Con (w : World) (p : Program) (loose : List Str) (mean : ExcName → Option Value) (mg mb : Str → Option Value) (f : Addr) (k : Nat) (vs : List Value) (pre : Heap → Prop) (R : Value → List (Addr × Obj) → Prop) : Prop :=
  ∀ (dp un : Nat) (gd : Option (List Code)) (cn : Str) (cs : Scope) (a : Addr) (ccd : Value) (cl : List (Str × Addr)) (outer : List Env) (A₀ : Around) (base h₀ : Heap) (L : Addr) (m : Str → Option Value) (s : Shared) (Q E : Value → Shared → Prop),
    Below A₀ base outer h₀ → Fr h₀ L s.heap m → (hd.heap_1 w.params).In h₀ → Top p loose mean mg mb h₀ → pre s.heap → cs.kind = .function →
    dp + k < recursionLimit → un + 8 * k < cLine →
    (∀ (v : Value) (h' : Heap) (tk' : Nat) (tl : List (Addr × Obj)), R v tl → Fr h₀ L h' m → News h₀ L h' tl → (∀ b o, s.heap.get? b = some o → h'.get? b = some o) → (∀ p ∈ tl, s.heap.get? p.1 = none) → Q v { s with heap := h', toks := tk' }) →
    wpAny (model PySem.Challenge.rw_zn0010_01.row.prog w) (ktrTop dp un gd cn cs L a ccd cl outer) (call (.ref f) vs) Q E s

theorem Con.use {w : World} {p : Program} {loose : List Str} {mean : ExcName → Option Value} {mg mb : Str → Option Value} {f : Addr} {k : Nat} {vs : List Value} {news : List (Addr × Obj)} {pre : Heap → Prop} {R : Value → List (Addr × Obj) → Prop}
    {dp un : Nat} {gd : Option (List Code)} {cn : Str} {cs : Scope} {a : Addr} {ccd : Value} {cl : List (Str × Addr)} {outer : List Env} {A₀ : Around} {base h₀ : Heap} {L : Addr} {m : Str → Option Value} {s : Shared} {Q E : Value → Shared → Prop}
    (C : Con w p loose mean mg mb f k vs pre R) (B : Below A₀ base outer h₀) (F : Fr h₀ L s.heap m) (X : (hd.heap_1 w.params).In h₀) (N : News h₀ L s.heap news) (T : Top p loose mean mg mb h₀) (hk : cs.kind = .function)
    (hd : dp + k < recursionLimit) (hu : un + 8 * k < cLine) (hp : pre s.heap)
    (ret : ∀ (v : Value) (h' : Heap) (tk' : Nat) (tl : List (Addr × Obj)), R v tl → Fr h₀ L h' m → News h₀ L h' (tl ++ news) → (∀ p ∈ tl, ∀ q ∈ news, q.1 ≠ p.1) → Q v { s with heap := h', toks := tk' }) :
    wpAny (model PySem.Challenge.rw_zn0010_01.row.prog w) (ktrTop dp un gd cn cs L a ccd cl outer) (call (.ref f) vs) Q E s :=
  C _ _ _ _ _ _ _ _ _ _ _ _ _ _ _ _ _ B F X T hp hk hd hu fun v h' tk' tl hr F' N' kp fr => ret v h' tk' tl hr F'
    (fun q hq => (List.mem_append.mp hq).elim (N' q) fun hq => ⟨kp _ _ (N q hq).1, (N q hq).2⟩)
    (fun p hp q hq e => by have := fr p hp; rw [← e, (N q hq).1] at this; cases this)
/-- a call that gives back one scalar -/
theorem Con.useS {w : World} {p : Program} {loose : List Str} {mean : ExcName → Option Value} {mg mb : Str → Option Value} {f : Addr} {k : Nat} {vs : List Value} {news : List (Addr × Obj)} {pre : Heap → Prop} {P : Tok → Value}
    {dp un : Nat} {gd : Option (List Code)} {cn : Str} {cs : Scope} {a : Addr} {ccd : Value} {cl : List (Str × Addr)} {outer : List Env} {A₀ : Around} {base h₀ : Heap} {L : Addr} {m : Str → Option Value} {s : Shared} {Q E : Value → Shared → Prop}
    (C : Con w p loose mean mg mb f k vs pre (scal fun v => ∃ t, v = P t)) (B : Below A₀ base outer h₀) (F : Fr h₀ L s.heap m) (X : (hd.heap_1 w.params).In h₀) (N : News h₀ L s.heap news) (T : Top p loose mean mg mb h₀) (hk : cs.kind = .function)
    (hd : dp + k < recursionLimit) (hu : un + 8 * k < cLine) (hp : pre s.heap)
    (ret : ∀ (h' : Heap) (tk' : Nat) (t : Tok), Fr h₀ L h' m → News h₀ L h' news → (∀ b o, s.heap.get? b = some o → h'.get? b = some o) → Q (P t) { s with heap := h', toks := tk' }) :
    wpAny (model PySem.Challenge.rw_zn0010_01.row.prog w) (ktrTop dp un gd cn cs L a ccd cl outer) (call (.ref f) vs) Q E s :=
  C _ _ _ _ _ _ _ _ _ _ _ _ _ _ _ _ _ B F X T hp hk hd hu fun v h' tk' tl hr F' _ kp _ => by
    obtain ⟨_, t, rfl⟩ := hr
    exact ret h' tk' t F' (fun q hq => ⟨kp _ _ (N q hq).1, (N q hq).2⟩) kp
theorem con_end {h g h' : Heap} {L' : Addr} {m' : Str → Option Value} {tl : List (Addr × Obj)} (G : GSub h g []) (F' : Fr g L' h' m') (N' : News g L' h' tl) :
    (∀ b o, h.get? b = some o → h'.get? b = some o) ∧ (∀ p ∈ tl, h.get? p.1 = none) :=
  ⟨fun b o e => F'.keep b o (G b o e (fun hm => nomatch hm)), fun p hp => by
    cases e : h.get? p.1 with
    | none => rfl
    | some o => have := G _ _ e (fun hm => nomatch hm); rw [(N' p hp).2.2] at this; cases this⟩
def ConL (w : World) (p : Program) (loose : List Str) (mean : ExcName → Option Value) (mg mb : Str → Option Value) (f : Addr) (k : Nat) (vs : List Value) (led : List (Addr × Obj)) (R : Value → List (Addr × Obj) → Prop) : Prop :=
  ∀ (dp un : Nat) (gd : Option (List Code)) (cn : Str) (cs : Scope) (a : Addr) (ccd : Value) (cl : List (Str × Addr)) (outer : List Env) (A₀ : Around) (base h₀ : Heap) (L : Addr) (m : Str → Option Value) (s : Shared) (Q E : Value → Shared → Prop),
    Below A₀ base outer h₀ → Fr h₀ L s.heap m → (hd.heap_1 w.params).In h₀ → News h₀ L s.heap led → Top p loose mean mg mb h₀ → cs.kind = .function →
    dp + k < recursionLimit → un + 8 * k < cLine →
    (∀ (v : Value) (h' : Heap) (tk' : Nat) (tl : List (Addr × Obj)), R v tl → Fr h₀ L h' m → News h₀ L h' tl → (∀ b o, s.heap.get? b = some o → h'.get? b = some o) → (∀ p ∈ tl, s.heap.get? p.1 = none) → Q v { s with heap := h', toks := tk' }) →
    wpAny (model PySem.Challenge.rw_zn0010_01.row.prog w) (ktrTop dp un gd cn cs L a ccd cl outer) (call (.ref f) vs) Q E s
theorem ConL.use {w : World} {p : Program} {loose : List Str} {mean : ExcName → Option Value} {mg mb : Str → Option Value} {f : Addr} {k : Nat} {vs : List Value} {news led : List (Addr × Obj)} {R : Value → List (Addr × Obj) → Prop}
    {dp un : Nat} {gd : Option (List Code)} {cn : Str} {cs : Scope} {a : Addr} {ccd : Value} {cl : List (Str × Addr)} {outer : List Env} {A₀ : Around} {base h₀ : Heap} {L : Addr} {m : Str → Option Value} {s : Shared} {Q E : Value → Shared → Prop}
    (C : ConL w p loose mean mg mb f k vs led R) (B : Below A₀ base outer h₀) (F : Fr h₀ L s.heap m) (X : (hd.heap_1 w.params).In h₀) (N : News h₀ L s.heap news) (T : Top p loose mean mg mb h₀) (hk : cs.kind = .function)
    (hd : dp + k < recursionLimit) (hu : un + 8 * k < cLine) (hl : ∀ q ∈ led, q ∈ news)
    (ret : ∀ (v : Value) (h' : Heap) (tk' : Nat) (tl : List (Addr × Obj)), R v tl → Fr h₀ L h' m → News h₀ L h' (tl ++ news) → (∀ p ∈ tl, ∀ q ∈ news, q.1 ≠ p.1) → Q v { s with heap := h', toks := tk' }) :
    wpAny (model PySem.Challenge.rw_zn0010_01.row.prog w) (ktrTop dp un gd cn cs L a ccd cl outer) (call (.ref f) vs) Q E s :=
  C _ _ _ _ _ _ _ _ _ _ _ _ _ _ _ _ _ B F X (fun q hq => N q (hl q hq)) T hk hd hu fun v h' tk' tl hr F' N' kp fr => ret v h' tk' tl hr F'
    (fun q hq => (List.mem_append.mp hq).elim (N' q) fun hq => ⟨kp _ _ (N q hq).1, (N q hq).2⟩)
    (fun p hp q hq e => by have := fr p hp; rw [← e, (N q hq).1] at this; cases this)
theorem con_endL {h g h' h₀ : Heap} {L L' : Addr} {m' : Str → Option Value} {tl led led' all : List (Addr × Obj)} (G : GSub h g (led.map (·.1))) (N0 : News h₀ L h led) (F' : Fr g L' h' m') (N' : News g L' h' all) (hl : ∀ p ∈ led, p ∈ all) (ht : ∀ p ∈ tl, p ∈ all) (hne : ∀ p ∈ tl, ∀ q ∈ led, q.1 ≠ p.1) :
    (∀ b o, h.get? b = some o → h'.get? b = some o) ∧ (∀ p ∈ tl, h.get? p.1 = none) := by
  refine ⟨fun b o e => ?_, fun p hp => ?_⟩
  · by_cases hb : b ∈ led.map (·.1)
    · obtain ⟨q, hq, rfl⟩ := List.mem_map.mp hb
      have := (N0 q hq).1
      rw [e] at this
      rw [Option.some.inj this]
      exact (N' q (hl q hq)).1
    · exact F'.keep b o (G b o e hb)
  · cases e : h.get? p.1 with
    | none => rfl
    | some o =>
      by_cases hb : p.1 ∈ led.map (·.1)
      · obtain ⟨q, hq, he⟩ := List.mem_map.mp hb
        exact absurd he (hne p hp q hq)
      · have := G _ _ e hb
        rw [(N' p (ht p hp)).2.2] at this; cases this
theorem news_one {h₀ h : Heap} {L a : Addr} {o : Obj} {r : List (Addr × Obj)} (N : News h₀ L h ((a, o) :: r)) : News h₀ L h [(a, o)] := fun p hp => N p (by rw [List.mem_singleton.mp hp]; exact List.mem_cons_self ..)
abbrev tup (vs : List Value) (c : Nat := 0) : Obj := { cls := .type "tuple", data := .seq vs.toArray c }
def any (_ : Heap) : Prop := True
end Mine
end
section
open PySem PySem.W PyProof.Rows PySem.Calls PySem.Spec PySem.Flt
set_option Elab.async false
set_option maxRecDepth 100000
set_option maxHeartbeats 8000000
namespace Mine
section
variable {prog : Program} {w : World} {A : Around} {E : Value → Shared → Prop} {s : Shared} {h₀ : Heap} {L : Addr} {m : Str → Option Value} {env : Env}
/-- what a source must give: an iterator that walks, and the turns from there -/
inductive GIt (prog : Program) (w : World) (A : Around) (h₀ : Heap) (L : Addr) (m : Str → Option Value) (env : Env) (elt : Expr) (x : Str) (scope : Scope) (cl : List (Str × Addr)) (Fin : Shared → List Value → List (Addr × Obj) → Prop) : Value → Shared → Prop
  | mk : ∀ {s₂ : Shared}, ∀ (I : Addr) (fp : List Addr) (n : Nat) (P : Nat → Value → Prop) (St : Nat → Heap → Prop) (S : List (Addr × Obj) → Prop) (news : List (Addr × Obj)), (Walks prog w A I fp [I] n P St) → (n ≤ sizeLine) → (∀ i h, St i h → ∃ o, h.get? I = some o) → (∀ i h h' o nw, St i h → h.get? I = some o → h'.get? I = some o → (∀ b o, h₀.get? b = some o → h'.get? b = some o) → News h₀ L h' nw → S nw → St i h') → (St 0 s₂.heap) → (∀ b ∈ fp, b < s₂.heap.objs.size) → (Fr h₀ L s₂.heap m) → (News h₀ L s₂.heap news) → (L ≠ I) → (h₀.get? I = none) → (∀ p ∈ news, p.1 ≠ I) → (S news) → (LCg.CompRest prog w A h₀ L m env elt x scope cl s₂ S P (Fin s₂) n 0 [] news) → GIt prog w A h₀ L m env elt x scope cl Fin (.ref I) s₂
theorem ListComp_G {elt iter : Expr} {x : Str} {px : Pos} {scope : Scope} {cl : List (Str × Addr)} {pos : Pos} {Q : Value → Shared → Prop} (_F₀ : Fr h₀ L s.heap m)
    (hclos : closureFor scope env = pure cl) (hcell : ∀ y ∈ scope.names, y.2 ≠ .cell) (hkind : scope.kind = .function)
    (hnames : ∀ y ∈ scope.names, y.2 = .local → scope.names.lookup y.1 = some .local) (hx : scope.names.lookup x = some .local)
    (h : wpAny (model prog w) A (eval iter env) (fun xv s₁ => wpAny (model prog w) A (pyIter xv) (GIt prog w A h₀ L m env elt x scope cl (fun s₂ => LCg.FinE h₀ L m s₂ Q)) E s₁) E s)
    (hs : ∀ x, foldedSetIterable iter env x = pure x := by intro _; rfl) :
    wpAny (model prog w) A (eval (.ListComp elt [⟨.Name x px, iter, [], 0⟩] scope pos) env) Q E s := by
  rw [eval_ListComp]
  refine wpAny_comprehension_free (use := none) rfl hs hclos hkind hnames (wpAny_mono h (fun xv s₁ h₁ => wpAny_mono h₁ (fun it s₂ h₂ => ?_) fun _ _ e => e) fun _ _ e => e)
  obtain ⟨I, fp, n, P, St, S, news, W, hsz, hIo, hSt, st0, hfp, F, N, hLI, hI0, off, hS, R⟩ := h₂
  refine LCg.block_U W hsz hIo hSt hcell hkind hx st0 hfp F N hLI hI0 off hS R ?_
  intro D C h tk m' ys news' F' N' o1 hn hC₀ hD₀ hCL hDL hCD offC fin
  refine ⟨m', hn, fun h'' hs'' => fin D h'' tk (F'.change hs'' hCL hC₀) (fun p hp => ?_) o1⟩
  refine ⟨hs''.extBut _ _ ?_ (N' p hp).1, (N' p hp).2⟩
  rcases List.mem_cons.mp hp with rfl | hp
  · exact Ne.symm hCD
  · exact offC p hp
open LCg in
/-- one turn over values told but for their tokens; one over written items -/
theorem succT {elt : Expr} {x : Str} {scope : Scope} {cl : List (Str × Addr)} {S : List (Addr × Obj) → Prop} {V : Nat → Tok → Value} {Fin : List Value → List (Addr × Obj) → Prop} {k i : Nat} {ys : List Value} {news : List (Addr × Obj)}
    (h : ∀ t I oI C oC D m₂ h tk (E' : Value → Shared → Prop), NsObj oC m₂ → m₂ x = some (V i t) → Fr h₀ L h m → News h₀ L h ((I, oI) :: (C, oC) :: (D, lst ys) :: news) → Off3 I C D news → ((@Ne Nat I C) ∧ (@Ne Nat I D) ∧ (@Ne Nat C D)) →
      wpAny (model prog w) A (eval elt (compEnvC scope cl C env)) (CompEnd h₀ L m { s with heap := h, toks := tk } I oI C oC D (lst ys) S (fun y news' => CompRest prog w A h₀ L m env elt x scope cl s S (fun i v => ∃ u, v = V i u) Fin k (i + 1) (ys ++ [y]) news')) E' { s with heap := h, toks := tk }) :
    CompRest prog w A h₀ L m env elt x scope cl s S (fun i v => ∃ u, v = V i u) Fin (k + 1) i ys news := fun v I oI C oC D m₂ h' tk E' ⟨t, e⟩ hC hx F N o n => h t I oI C oC D m₂ h' tk E' hC (e ▸ hx) F N o n
open LCg in
theorem succI {elt : Expr} {x : Str} {scope : Scope} {cl : List (Str × Addr)} {S : List (Addr × Obj) → Prop} {its : Array Value} {v₀ : Value} {Fin : List Value → List (Addr × Obj) → Prop} {k i : Nat} {ys : List Value} {news : List (Addr × Obj)} (e : its[i]? = some v₀)
    (h : ∀ I oI C oC D m₂ h tk (E' : Value → Shared → Prop), NsObj oC m₂ → m₂ x = some (v₀) → Fr h₀ L h m → News h₀ L h ((I, oI) :: (C, oC) :: (D, lst ys) :: news) → Off3 I C D news → ((@Ne Nat I C) ∧ (@Ne Nat I D) ∧ (@Ne Nat C D)) →
      wpAny (model prog w) A (eval elt (compEnvC scope cl C env)) (CompEnd h₀ L m { s with heap := h, toks := tk } I oI C oC D (lst ys) S (fun y news' => CompRest prog w A h₀ L m env elt x scope cl s S (fun i v => its[i]? = some v) Fin k (i + 1) (ys ++ [y]) news')) E' { s with heap := h, toks := tk }) :
    CompRest prog w A h₀ L m env elt x scope cl s S (fun i v => its[i]? = some v) Fin (k + 1) i ys news := fun v I oI C oC D m₂ h' tk E' e' hC hx F N o n => h I oI C oC D m₂ h' tk E' hC (Option.some.inj (e'.symm.trans e) ▸ hx) F N o n
/-- bytes -/
theorem bytes_walks (hh : A.handled = none) (I : Addr) (b : Array UInt8) (t : Tok) :
    Walks prog w A I [I] [I] b.size (fun i v => ∃ u, v = .int ((b.getD i 0).toNat : Int) u) (fun i h => KBw.IsBytesIter h I b t i) :=
  let W := KBw.walks (prog := prog) (w := w) hh I b t
  { sub := W.sub, frame := W.frame, done := W.done, self := W.self,
    item := fun i s Q E hi st hQ => W.item i s Q E hi st fun v h' tk hP => hQ v h' tk (by
      obtain ⟨c, u, hc, rfl⟩ := hP
      exact ⟨u, by simp [Array.getD_eq_getD_getElem?, hc]⟩) }
theorem src_bytes {elt : Expr} {x : Str} {scope : Scope} {cl : List (Str × Addr)} {Fin : Shared → List Value → List (Addr × Obj) → Prop} {b : Array UInt8} {t : Tok} {n : Nat} {news : List (Addr × Obj)}
    (hh : A.handled = none) (F : Fr h₀ L s.heap m) (N : News h₀ L s.heap news) (hn : b.size = n) (hsz : n ≤ sizeLine)
    (R : ∀ g, LCg.CompRest prog w A h₀ L m env elt x scope cl { s with heap := g } (fun _ => True) (fun i v => ∃ u, v = .int ((b.getD i 0).toNat : Int) u) (Fin { s with heap := g }) n 0 [] news) :
    wpAny (model prog w) A (pyIter (.bytes b t)) (GIt prog w A h₀ L m env elt x scope cl Fin) E s := by
  subst hn
  refine KBw.pyIter_bytes ?_
  refine ⟨s.heap.objs.size, _, b.size, _, _, (fun _ => True), news, bytes_walks hh s.heap.objs.size b t, hsz, (fun i h st => let ⟨o, e, _⟩ := st; ⟨o, e⟩), (fun i h h' o nw st e e' _ _ _ => let ⟨o', q, r⟩ := st; ⟨o, e', by rw [e] at q; cases q; exact r⟩),
    ⟨_, Heap.get?_push_size _ rfl, rfl, rfl⟩, (fun b hb => ?_), (F.keeps fun _ _ e => Heap.get?_push_of_some _ e), (N.grown fun _ _ e => Heap.get?_push_of_some _ e), (Nat.ne_of_lt F.ns.lt), (next_is_new F),
    (fun p hp => Nat.ne_of_lt (Heap.lt_size (N p hp).1)), trivial, (R _)⟩
  rw [List.mem_singleton.mp hb]
  show s.heap.objs.size < (s.heap.push _).objs.size
  rw [Heap.size_push]; exact Nat.lt_succ_self _
/-- the signs of a text -/
theorem str_walks {T : String} (hh : A.handled = none) (I : Addr) (x : Str) (t : Tok) (W : Walks prog w A I [I] [I] x.cps.size (SignAt x) (fun i h => h.IsStrIter I T x t i)) :
    Walks prog w A I [I] [I] x.cps.size (fun i v => ∃ u, v = .str ⟨#[x.cps.getD i 0]⟩ u) (fun i h => h.IsStrIter I T x t i) :=
  { sub := W.sub, frame := W.frame, done := W.done, self := W.self,
    item := fun i s Q E hi st hQ => W.item i s Q E hi st fun v h' tk hP => hQ v h' tk (by
      obtain ⟨c, u, hc, rfl⟩ := hP
      exact ⟨u, by simp [Array.getD_eq_getD_getElem?, hc]⟩) }
theorem src_str {elt : Expr} {x : Str} {scope : Scope} {cl : List (Str × Addr)} {Fin : Shared → List Value → List (Addr × Obj) → Prop} {b : Str} {t : Tok} {n : Nat} {news : List (Addr × Obj)}
    (hh : A.handled = none) (F : Fr h₀ L s.heap m) (N : News h₀ L s.heap news) (hn : b.cps.size = n) (hsz : n ≤ sizeLine)
    (R : ∀ g, LCg.CompRest prog w A h₀ L m env elt x scope cl { s with heap := g } (fun _ => True) (fun i v => ∃ u, v = .str ⟨#[b.cps.getD i 0]⟩ u) (Fin { s with heap := g }) n 0 [] news) :
    wpAny (model prog w) A (pyIter (.str b t)) (GIt prog w A h₀ L m env elt x scope cl Fin) E s := by
  subst hn
  have go : ∀ (T : String) (o : Obj), Walks prog w A s.heap.objs.size [s.heap.objs.size] [s.heap.objs.size] b.cps.size (SignAt b) (fun i h => h.IsStrIter s.heap.objs.size T b t i) →
      (s.heap.push o).IsStrIter s.heap.objs.size T b t 0 → GIt prog w A h₀ L m env elt x scope cl Fin (.ref s.heap.objs.size) { s with heap := s.heap.push o } := by
    intro T o W st0
    refine ⟨s.heap.objs.size, _, b.cps.size, _, _, (fun _ => True), news, str_walks hh s.heap.objs.size b t W, hsz, (fun i h st => let ⟨o, e, _⟩ := st; ⟨o, e⟩), (fun i h h' o nw st e e' _ _ _ => let ⟨o', q, r⟩ := st; ⟨o, e', by rw [e] at q; cases q; exact r⟩),
      st0, (fun b hb => ?_), (F.keeps fun _ _ e => Heap.get?_push_of_some _ e), (N.grown fun _ _ e => Heap.get?_push_of_some _ e), (Nat.ne_of_lt F.ns.lt), (next_is_new F),
      (fun p hp => Nat.ne_of_lt (Heap.lt_size (N p hp).1)), trivial, (R _)⟩
    rw [List.mem_singleton.mp hb]
    show s.heap.objs.size < (s.heap.push _).objs.size
    rw [Heap.size_push]; exact Nat.lt_succ_self _
  cases ha : b.cps.all (· < 128)
  · exact wpAny_pyIter_wide ha (go "str_iterator" _ (Walks.strWide hh _ b t) ⟨_, Heap.get?_push_size _ rfl, rfl, rfl⟩)
  · exact wpAny_pyIter_ascii ha (go "str_ascii_iterator" _ (Walks.strAscii hh _ b t) ⟨_, Heap.get?_push_size _ rfl, rfl, rfl⟩)
/-- a tuple of the ledger -/
def TupSrc (t : Addr) (its : Array Value) (news : List (Addr × Obj)) : Prop := ∃ o, (t, o) ∈ news ∧ o.cls = .type "tuple" ∧ ∃ n, o.data = .seq its n
theorem TupSrc.at {t : Addr} {its : Array Value} {news : List (Addr × Obj)} {h : Heap} (x : TupSrc t its news) (N : News h₀ L h news) : h.IsTuple t its :=
  let ⟨o, hm, r⟩ := x; ⟨o, (N _ hm).1, r⟩
theorem src_tup {elt : Expr} {x : Str} {scope : Scope} {cl : List (Str × Addr)} {Fin : Shared → List Value → List (Addr × Obj) → Prop} {t : Addr} {its : Array Value} {n : Nat} {news : List (Addr × Obj)}
    (hh : A.handled = none) (F : Fr h₀ L s.heap m) (N : News h₀ L s.heap news) (hT : TupSrc t its news) (hn : its.size = n) (hsz : n ≤ sizeLine)
    (R : ∀ g, LCg.CompRest prog w A h₀ L m env elt x scope cl { s with heap := g } (TupSrc t its) (fun i v => its[i]? = some v) (Fin { s with heap := g }) n 0 [] news) :
    wpAny (model prog w) A (pyIter (.ref t)) (GIt prog w A h₀ L m env elt x scope cl Fin) E s := by
  subst hn
  have hl := hT.at N
  have hlt : t < s.heap.objs.size := by obtain ⟨_, e, _⟩ := hl; exact Heap.lt_size e
  refine wpAny_pyIter_tuple hl ?_
  refine ⟨s.heap.objs.size, _, its.size, _, _, TupSrc t its, news, Walks.tuple hh s.heap.objs.size t (Nat.ne_of_lt hlt) its, hsz, (fun i h st => by obtain ⟨o, e, _⟩ := st.1; exact ⟨o, e⟩),
    (fun i h h' o nw st e e' _ N' S' => ⟨by obtain ⟨o', q, r⟩ := st.1; rw [e] at q; cases q; exact ⟨o, e', r⟩, S'.at N'⟩),
    ⟨⟨_, Heap.get?_push_size _ rfl, rfl, rfl⟩, hl.push _⟩, (fun b hb => ?_), (F.keeps fun _ _ e => Heap.get?_push_of_some _ e), (N.grown fun _ _ e => Heap.get?_push_of_some _ e), (Nat.ne_of_lt F.ns.lt), (next_is_new F),
    (fun p hp => Nat.ne_of_lt (Heap.lt_size (N p hp).1)), hT, (R _)⟩
  show b < (s.heap.push _).objs.size
  rw [Heap.size_push]
  rcases List.mem_cons.mp hb with rfl | hb
  · exact Nat.lt_succ_self _
  · rw [List.mem_singleton.mp hb]; exact Nat.lt_succ_of_lt hlt
end
end Mine
end
section
open PySem PySem.W PyProof.Rows PySem.Calls PySem.Spec PySem.Flt
namespace Mine
set_option maxRecDepth 100000
set_option maxHeartbeats 8000000
set_option hygiene false in
local macro_rules | `(tactic| walk_at "con_args") => `(tactic| ((case k1 => first | k_asm | fail "con: below"); (case k2 => first | k_asm | fail "con: frame"); (case k3 => first | k_asm | fail "con: heap"); (case k4 => first | k_asm | fail "con: ledger"); (case k5 => first | k_asm | fail "con: top"); (case k6 => first | exact rfl | assumption | fail "con: kind"); (case k7 => first | ktr_room | fail "con: room"); (case k8 => first | ktr_units | fail "con: units")))
section

set_option Elab.async false
set_option maxRecDepth 100000
set_option maxHeartbeats 8000000
local macro_rules | `(tactic| walk_at "execs cons") => `(tactic| ((try dsimp only); k_dflt (refine tok_gen (fun _ => ?_)); walk1))
local macro_rules | `(tactic| walk_at "nz") => `(tactic| first | decide | assumption | exact Bool.eq_false_iff.mp (by assumption))
local macro_rules | `(tactic| walk_at "binaryOp Div float float") => `(tactic| (refine truediv_float_or rfl (fun hz _ _ _ _ => absurd hz (by walk_at "nz")) (fun _ => ?_); (try dsimp only)))
local macro_rules | `(tactic| walk_at "ite") => `(tactic| first | rw [if_pos (by assumption)] | rw [if_neg (by assumption)])
def hueOf (p : Nat) : UInt64 := match p with | 0 => 0 | 1 => 0x3fd5555555555555 | _ => 0x3fe5555555555555
inductive HlsOut (p : Nat) : Value → List (Addr × Obj) → Prop
  | mk : ∀ D l s t1 t2 t3, HlsOut p (.ref D) [(D, tup [.float (hueOf p) t1, .float l t2, .float s t3])]
theorem HlsOut.of {p : Nat} {D : Addr} {x l s : UInt64} {t1 t2 t3 : Tok} (e : x = hueOf p) : HlsOut p (.ref D) [(D, tup [.float x t1, .float l t2, .float s t3])] := e ▸ .mk ..
def lightAt (p : Nat) (lo hi : α) (i : Nat) : α := if i = p then hi else lo
theorem rgb_con {w p loose mean mg mb} {hi lo c : Nat} (hc : c < 3) (hl : lo < hi) (hh : hi < 256) {t u v} :
    Con w p loose mean mg mb 21 1 [.float (fl (lightAt c lo hi 0)) t, .float (fl (lightAt c lo hi 1)) u, .float (fl (lightAt c lo hi 2)) v] any (HlsOut c) := by
  have c1 := fl_lt hl (by omega)
  have c2 := fl_gt hl (by omega)
  have c3 := fl_eq (a := hi) (by omega)
  have c4 := fl_eq (a := lo) (by omega)
  have z1 := fl_nz (a := hi + lo) (by omega) (by omega)
  have z2 := fl_nz (a := hi - lo) (by omega) (by omega)
  have z3 := fl_nz (a := 512 - hi - lo) (by omega) (by omega)
  rw [← fl_add (by omega)] at z1
  rw [← fl_sub (by omega) (by omega)] at z2
  rw [← fl_sub (by omega) (by omega), ← fl_sub (by omega) (by omega), fl_two] at z3
  have d1 : Float64.div (Float64.sub (fl hi) (fl lo)) (Float64.sub (fl hi) (fl lo)) = 0x3ff0000000000000 := by
    rw [fl_sub (by omega) (by omega), fl_div_self (by omega) (by omega)]; rfl
  have d0 : Float64.div (Float64.sub (fl hi) (fl hi)) (Float64.sub (fl hi) (fl lo)) = 0 := by
    rw [fl_sub (by omega) (by omega), fl_sub (by omega) (by omega), Nat.sub_self, fl_zero_div (by omega) (by omega)]
  have e1 : ¬ (Float64.cmp (fl lo) (fl hi) == some Ordering.eq) = true := by rw [c1]; decide
  have e2 : (Float64.cmp (fl hi) (fl hi) == some Ordering.eq) = true := by rw [c3]; rfl
  rcases (show c = 0 ∨ c = 1 ∨ c = 2 by omega) with rfl | rfl | rfl
  · rw [show lightAt 0 lo hi 0 = hi from rfl, show lightAt 0 lo hi 1 = lo from rfl, show lightAt 0 lo hi 2 = lo from rfl]
    (unfold Con; k_fill; intro dp un gd cn cs a ccd cl outer A₀ base h₀ L m s Q E B F X T hp hk hd hu hret; refine wpAny_call ?_; (refine' code_defG ?k1 ?k2 ?k3 (News.nil) ?k5 ?kA ?kF ?kK ?k6 ?k7 ?k8 ?k9 ?kB ?_ ?c2 ?c3 ?c4 ?c5; (case kA => exact rfl); (case kF => exact rfl); (case kK => assumption); (case k1 => k_asm); (case k2 => k_asm); (case k3 => k_asm); (case k5 => k_asm); (case k6 => k_is); (case k7 => k_is); (case k8 => ktr_room); (case k9 => exact BindsTo.of_eq rfl); (case c5 => decide); (case kB => exact locs rfl); (case c2 => exact rfl); (case c3 => exact rfl); (case c4 => exact rfl); k_whole; intro g L' h' FG' F' N' B' X' T' GS; (try dsimp only); (try k_fold)))
    k_steps
    refine max3 (r := .float (fl hi) t) rfl (.float _ _) (.float _ _) (.float _ _) (by simp [argBest, ltV, c1, c2, c3, c4]) (by k_asm) (by k_asm) (fun h' tk' F' N' => ?_)
    k_steps
    refine min3 (r := .float (fl lo) u) rfl (.float _ _) (.float _ _) (.float _ _) (by simp [argBest, ltV, c1, c2, c3, c4]) (by k_asm) (by k_asm) (fun h' tk' F' N' => ?_)
    k_steps
    all_goals (refine' hret _ _ _ _ (.of ?_) ?kF ?kN ?kG ?kH; rotate_left; ((case kF => k_asm); (case kN => k_asm); (case kG => exact (con_end GS (by assumption) (by assumption)).1); (case kH => exact (con_end GS (by assumption) (by assumption)).2)); (try rw [d1]); (try rw [d0]); decide +kernel)
  · rw [show lightAt 1 lo hi 0 = lo from rfl, show lightAt 1 lo hi 1 = hi from rfl, show lightAt 1 lo hi 2 = lo from rfl]
    (unfold Con; k_fill; intro dp un gd cn cs a ccd cl outer A₀ base h₀ L m s Q E B F X T hp hk hd hu hret; refine wpAny_call ?_; (refine' code_defG ?k1 ?k2 ?k3 (News.nil) ?k5 ?kA ?kF ?kK ?k6 ?k7 ?k8 ?k9 ?kB ?_ ?c2 ?c3 ?c4 ?c5; (case kA => exact rfl); (case kF => exact rfl); (case kK => assumption); (case k1 => k_asm); (case k2 => k_asm); (case k3 => k_asm); (case k5 => k_asm); (case k6 => k_is); (case k7 => k_is); (case k8 => ktr_room); (case k9 => exact BindsTo.of_eq rfl); (case c5 => decide); (case kB => exact locs rfl); (case c2 => exact rfl); (case c3 => exact rfl); (case c4 => exact rfl); k_whole; intro g L' h' FG' F' N' B' X' T' GS; (try dsimp only); (try k_fold)))
    k_steps
    refine max3 (r := .float (fl hi) u) rfl (.float _ _) (.float _ _) (.float _ _) (by simp [argBest, ltV, c1, c2, c3, c4]) (by k_asm) (by k_asm) (fun h' tk' F' N' => ?_)
    k_steps
    refine min3 (r := .float (fl lo) t) rfl (.float _ _) (.float _ _) (.float _ _) (by simp [argBest, ltV, c1, c2, c3, c4]) (by k_asm) (by k_asm) (fun h' tk' F' N' => ?_)
    k_steps
    all_goals (refine' hret _ _ _ _ (.of ?_) ?kF ?kN ?kG ?kH; rotate_left; ((case kF => k_asm); (case kN => k_asm); (case kG => exact (con_end GS (by assumption) (by assumption)).1); (case kH => exact (con_end GS (by assumption) (by assumption)).2)); (try rw [d1]); (try rw [d0]); decide +kernel)
  · rw [show lightAt 2 lo hi 0 = lo from rfl, show lightAt 2 lo hi 1 = lo from rfl, show lightAt 2 lo hi 2 = hi from rfl]
    (unfold Con; k_fill; intro dp un gd cn cs a ccd cl outer A₀ base h₀ L m s Q E B F X T hp hk hd hu hret; refine wpAny_call ?_; (refine' code_defG ?k1 ?k2 ?k3 (News.nil) ?k5 ?kA ?kF ?kK ?k6 ?k7 ?k8 ?k9 ?kB ?_ ?c2 ?c3 ?c4 ?c5; (case kA => exact rfl); (case kF => exact rfl); (case kK => assumption); (case k1 => k_asm); (case k2 => k_asm); (case k3 => k_asm); (case k5 => k_asm); (case k6 => k_is); (case k7 => k_is); (case k8 => ktr_room); (case k9 => exact BindsTo.of_eq rfl); (case c5 => decide); (case kB => exact locs rfl); (case c2 => exact rfl); (case c3 => exact rfl); (case c4 => exact rfl); k_whole; intro g L' h' FG' F' N' B' X' T' GS; (try dsimp only); (try k_fold)))
    k_steps
    refine max3 (r := .float (fl hi) v) rfl (.float _ _) (.float _ _) (.float _ _) (by simp [argBest, ltV, c1, c2, c3, c4]) (by k_asm) (by k_asm) (fun h' tk' F' N' => ?_)
    k_steps
    refine min3 (r := .float (fl lo) t) rfl (.float _ _) (.float _ _) (.float _ _) (by simp [argBest, ltV, c1, c2, c3, c4]) (by k_asm) (by k_asm) (fun h' tk' F' N' => ?_)
    k_steps
    all_goals (refine' hret _ _ _ _ (.of ?_) ?kF ?kN ?kG ?kH; rotate_left; ((case kF => k_asm); (case kN => k_asm); (case kG => exact (con_end GS (by assumption) (by assumption)).1); (case kH => exact (con_end GS (by assumption) (by assumption)).2)); (try rw [d1]); (try rw [d0]); decide +kernel)
end
section

set_option Elab.async false
set_option maxRecDepth 100000
set_option maxHeartbeats 8000000
def vF (m1 m2 hue : UInt64) : UInt64 :=
  let x := (Float64.divmod hue 0x3ff0000000000000).2
  if (Float64.cmp x 0x3fc5555555555555 == some .lt) = true then Float64.add m1 (Float64.mul (Float64.mul (Float64.sub m2 m1) x) 0x4018000000000000)
  else if (Float64.cmp x 0x3fe0000000000000 == some .lt) = true then m2
  else if (Float64.cmp x 0x3fe5555555555555 == some .lt) = true then Float64.add m1 (Float64.mul (Float64.mul (Float64.sub m2 m1) (Float64.sub 0x3fe5555555555555 x)) 0x4018000000000000)
  else m1
theorem v_con {w p loose mean mg mb} {m1 m2 x : UInt64} {t u v} :
    Con w p loose mean mg mb 35 1 [.float m1 t, .float m2 u, .float x v] any (scal fun r => ∃ t', r = .float (vF m1 m2 x) t') := by
  (unfold Con; k_fill; intro dp un gd cn cs a ccd cl outer A₀ base h₀ L m s Q E B F X T hp hk hd hu hret; refine wpAny_call ?_; (refine' code_defG ?k1 ?k2 ?k3 (News.nil) ?k5 ?kA ?kF ?kK ?k6 ?k7 ?k8 ?k9 ?kB ?_ ?c2 ?c3 ?c4 ?c5; (case kA => exact rfl); (case kF => exact rfl); (case kK => assumption); (case k1 => k_asm); (case k2 => k_asm); (case k3 => k_asm); (case k5 => k_asm); (case k6 => k_is); (case k7 => k_is); (case k8 => ktr_room); (case k9 => exact BindsTo.of_eq rfl); (case c5 => decide); (case kB => exact locs rfl); (case c2 => exact rfl); (case c3 => exact rfl); (case c4 => exact rfl); k_whole; intro g L' h' FG' F' N' B' X' T' GS; (try dsimp only); (try k_fold)))
  k_steps
  all_goals (refine' hret _ _ _ _ ⟨rfl, _, congrArg (Value.float · _) ?_⟩ ?kF ?kN ?kG ?kH; rotate_left; ((case kF => k_asm); (case kN => k_asm); (case kG => exact (con_end GS (by assumption) (by assumption)).1); (case kH => exact (con_end GS (by assumption) (by assumption)).2)); unfold vF; dsimp only; repeat (first | rw [if_pos (by assumption)] | rw [if_neg (Bool.eq_false_iff.mp (by assumption))]))
abbrev M1 : UInt64 := 0x3fc8000000000000
abbrev M2 : UInt64 := 0x3fd4000000000000
inductive RgbOut (h : UInt64) : Value → List (Addr × Obj) → Prop
  | mk : ∀ D x y z t1 t2 t3, (x = vF M1 M2 (Float64.add h 0x3fd5555555555555)) → (y = vF M1 M2 h) → (z = vF M1 M2 (Float64.sub h 0x3fd5555555555555)) → RgbOut h (.ref D) ([(D, tup [.float x t1, .float y t2, .float z t3])])
set_option hygiene false in
local macro_rules | `(tactic| walk_at "call ref") => `(tactic| (refine' Con.useS v_con ?k1 ?k2 ?k3 ?k4 ?k5 ?k6 ?k7 ?k8 trivial ?_; walk_at "con_args"; (intro h9 tk9 t9 F9 N9 _); (try dsimp only)))
local macro_rules | `(tactic| walk_at "ite") => `(tactic| first | rw [if_pos (by assumption)] | rw [if_neg (by assumption)])
theorem hls_con {w p loose mean mg mb} {h : UInt64} {t u v} :
    Con w p loose mean mg mb 28 2 [.float h t, .float 0x3fd0000000000000 u, .float 0x3fd0000000000000 v] any (RgbOut h) := by
  have e1 : ¬ (Float64.cmp 0x3fd0000000000000 0 == some Ordering.eq) = true := by decide +kernel
  have e2 : (Float64.cmp 0x3fd0000000000000 0x3fe0000000000000 == some Ordering.lt || Float64.cmp 0x3fd0000000000000 0x3fe0000000000000 == some Ordering.eq) = true := by decide +kernel
  have e3 : Float64.mul 0x3fd0000000000000 (Float64.add 0x3ff0000000000000 0x3fd0000000000000) = M2 := by decide +kernel
  have e4 : Float64.sub (Float64.mul 0x4000000000000000 0x3fd0000000000000) M2 = M1 := by decide +kernel
  (unfold Con; k_fill; intro dp un gd cn cs a ccd cl outer A₀ base h₀ L m s Q E B F X T hp hk hd hu hret; refine wpAny_call ?_; (refine' code_defG ?k1 ?k2 ?k3 (News.nil) ?k5 ?kA ?kF ?kK ?k6 ?k7 ?k8 ?k9 ?kB ?_ ?c2 ?c3 ?c4 ?c5; (case kA => exact rfl); (case kF => exact rfl); (case kK => assumption); (case k1 => k_asm); (case k2 => k_asm); (case k3 => k_asm); (case k5 => k_asm); (case k6 => k_is); (case k7 => k_is); (case k8 => ktr_room); (case k9 => exact BindsTo.of_eq rfl); (case c5 => decide); (case kB => exact locs rfl); (case c2 => exact rfl); (case c3 => exact rfl); (case c4 => exact rfl); k_whole; intro g L' h' FG' F' N' B' X' T' GS; (try dsimp only); (try k_fold)))
  k_steps
  refine' hret _ _ _ _ ⟨_, _, _, _, _, _, _, ?_, ?_, ?_⟩ ?kF ?kN ?kG ?kH
  rotate_left 3
  ((case kF => k_asm); (case kN => k_asm); (case kG => exact (con_end GS (by assumption) (by assumption)).1); (case kH => exact (con_end GS (by assumption) (by assumption)).2))
  all_goals rw [e3, e4]
end
section

set_option Elab.async false
set_option maxRecDepth 100000
set_option maxHeartbeats 8000000
theorem neg_con {w p loose mean mg mb x t} : Con w p loose mean mg mb 49 1 [.float x t] any (scal fun v => ∃ t', v = .float (Float64.neg x) t') := by
  (unfold Con; k_fill; intro dp un gd cn cs a ccd cl outer A₀ base h₀ L m s Q E B F X T hp hk hd hu hret; refine wpAny_call ?_; (refine' code_defG ?k1 ?k2 ?k3 (News.nil) ?k5 ?kA ?kF ?kK ?k6 ?k7 ?k8 ?k9 ?kB ?_ ?c2 ?c3 ?c4 ?c5; (case kA => exact rfl); (case kF => exact rfl); (case kK => assumption); (case k1 => k_asm); (case k2 => k_asm); (case k3 => k_asm); (case k5 => k_asm); (case k6 => k_is); (case k7 => k_is); (case k8 => ktr_room); (case k9 => exact BindsTo.of_eq rfl); (case c5 => decide); (case kB => exact locs rfl); (case c2 => exact rfl); (case c3 => exact rfl); (case c4 => exact rfl); k_whole; intro g L' h' FG' F' N' B' X' T' GS; (try dsimp only); (try k_fold)))
  k_steps
  refine' hret _ _ _ _ ⟨rfl, _, rfl⟩ ?kF ?kN ?kG ?kH
  ((case kF => k_asm); (case kN => k_asm); (case kG => exact (con_end GS (by assumption) (by assumption)).1); (case kH => exact (con_end GS (by assumption) (by assumption)).2))
theorem iadd_con {w p loose mean mg mb x y t u} : Con w p loose mean mg mb 56 1 [.float x t, .float y u] any (scal fun v => ∃ t', v = .float (Float64.add x y) t') := by
  (unfold Con; k_fill; intro dp un gd cn cs a ccd cl outer A₀ base h₀ L m s Q E B F X T hp hk hd hu hret; refine wpAny_call ?_; (refine' code_defG ?k1 ?k2 ?k3 (News.nil) ?k5 ?kA ?kF ?kK ?k6 ?k7 ?k8 ?k9 ?kB ?_ ?c2 ?c3 ?c4 ?c5; (case kA => exact rfl); (case kF => exact rfl); (case kK => assumption); (case k1 => k_asm); (case k2 => k_asm); (case k3 => k_asm); (case k5 => k_asm); (case k6 => k_is); (case k7 => k_is); (case k8 => ktr_room); (case k9 => exact BindsTo.of_eq rfl); (case c5 => decide); (case kB => exact locs rfl); (case c2 => exact rfl); (case c3 => exact rfl); (case c4 => exact rfl); k_whole; intro g L' h' FG' F' N' B' X' T' GS; (try dsimp only); (try k_fold)))
  k_steps
  refine' hret _ _ _ _ ⟨rfl, _, rfl⟩ ?kF ?kN ?kG ?kH
  ((case kF => k_asm); (case kN => k_asm); (case kG => exact (con_end GS (by assumption) (by assumption)).1); (case kH => exact (con_end GS (by assumption) (by assumption)).2))
theorem isub_con {w p loose mean mg mb x y t u} : Con w p loose mean mg mb 77 1 [.float x t, .float y u] any (scal fun v => ∃ t', v = .float (Float64.sub x y) t') := by
  (unfold Con; k_fill; intro dp un gd cn cs a ccd cl outer A₀ base h₀ L m s Q E B F X T hp hk hd hu hret; refine wpAny_call ?_; (refine' code_defG ?k1 ?k2 ?k3 (News.nil) ?k5 ?kA ?kF ?kK ?k6 ?k7 ?k8 ?k9 ?kB ?_ ?c2 ?c3 ?c4 ?c5; (case kA => exact rfl); (case kF => exact rfl); (case kK => assumption); (case k1 => k_asm); (case k2 => k_asm); (case k3 => k_asm); (case k5 => k_asm); (case k6 => k_is); (case k7 => k_is); (case k8 => ktr_room); (case k9 => exact BindsTo.of_eq rfl); (case c5 => decide); (case kB => exact locs rfl); (case c2 => exact rfl); (case c3 => exact rfl); (case c4 => exact rfl); k_whole; intro g L' h' FG' F' N' B' X' T' GS; (try dsimp only); (try k_fold)))
  k_steps
  refine' hret _ _ _ _ ⟨rfl, _, rfl⟩ ?kF ?kN ?kG ?kH
  ((case kF => k_asm); (case kN => k_asm); (case kG => exact (con_end GS (by assumption) (by assumption)).1); (case kH => exact (con_end GS (by assumption) (by assumption)).2))
theorem imul_fi_con {w p loose mean mg mb x y t u} (hy : (y : Int).natAbs ≤ 256) : Con w p loose mean mg mb 70 1 [.float x t, .int y u] any (scal fun v => ∃ t', v = .float (Float64.mul x (Float64.ofInt y)) t') := by
  (unfold Con; k_fill; intro dp un gd cn cs a ccd cl outer A₀ base h₀ L m s Q E B F X T hp hk hd hu hret; refine wpAny_call ?_; (refine' code_defG ?k1 ?k2 ?k3 (News.nil) ?k5 ?kA ?kF ?kK ?k6 ?k7 ?k8 ?k9 ?kB ?_ ?c2 ?c3 ?c4 ?c5; (case kA => exact rfl); (case kF => exact rfl); (case kK => assumption); (case k1 => k_asm); (case k2 => k_asm); (case k3 => k_asm); (case k5 => k_asm); (case k6 => k_is); (case k7 => k_is); (case k8 => ktr_room); (case k9 => exact BindsTo.of_eq rfl); (case c5 => decide); (case kB => exact locs rfl); (case c2 => exact rfl); (case c3 => exact rfl); (case c4 => exact rfl); k_whole; intro g L' h' FG' F' N' B' X' T' GS; (try dsimp only); (try k_fold)))
  k_steps
  refine' hret _ _ _ _ ⟨rfl, _, rfl⟩ ?kF ?kN ?kG ?kH
  ((case kF => k_asm); (case kN => k_asm); (case kG => exact (con_end GS (by assumption) (by assumption)).1); (case kH => exact (con_end GS (by assumption) (by assumption)).2))
theorem imul_con {w p loose mean mg mb x y t u} (hm : IntMulOk x y) : Con w p loose mean mg mb 70 1 [.int x t, .int y u] any (scal fun v => ∃ t', v = .int (x * y) t') := by
  (unfold Con; k_fill; intro dp un gd cn cs a ccd cl outer A₀ base h₀ L m s Q E B F X T hp hk hd hu hret; refine wpAny_call ?_; (refine' code_defG ?k1 ?k2 ?k3 (News.nil) ?k5 ?kA ?kF ?kK ?k6 ?k7 ?k8 ?k9 ?kB ?_ ?c2 ?c3 ?c4 ?c5; (case kA => exact rfl); (case kF => exact rfl); (case kK => assumption); (case k1 => k_asm); (case k2 => k_asm); (case k3 => k_asm); (case k5 => k_asm); (case k6 => k_is); (case k7 => k_is); (case k8 => ktr_room); (case k9 => exact BindsTo.of_eq rfl); (case c5 => decide); (case kB => exact locs rfl); (case c2 => exact rfl); (case c3 => exact rfl); (case c4 => exact rfl); k_whole; intro g L' h' FG' F' N' B' X' T' GS; (try dsimp only); (try k_fold)))
  k_steps
  refine' hret _ _ _ _ ⟨rfl, _, rfl⟩ ?kF ?kN ?kG ?kH
  ((case kF => k_asm); (case kN => k_asm); (case kG => exact (con_end GS (by assumption) (by assumption)).1); (case kH => exact (con_end GS (by assumption) (by assumption)).2))
theorem imod_con {w p loose mean mg mb x t u} : Con w p loose mean mg mb 63 1 [.int x t, .int 3 u] any (scal fun v => ∃ t', v = .int (x % 3) t') := by
  (unfold Con; k_fill; intro dp un gd cn cs a ccd cl outer A₀ base h₀ L m s Q E B F X T hp hk hd hu hret; refine wpAny_call ?_; (refine' code_defG ?k1 ?k2 ?k3 (News.nil) ?k5 ?kA ?kF ?kK ?k6 ?k7 ?k8 ?k9 ?kB ?_ ?c2 ?c3 ?c4 ?c5; (case kA => exact rfl); (case kF => exact rfl); (case kK => assumption); (case k1 => k_asm); (case k2 => k_asm); (case k3 => k_asm); (case k5 => k_asm); (case k6 => k_is); (case k7 => k_is); (case k8 => ktr_room); (case k9 => exact BindsTo.of_eq rfl); (case c5 => decide); (case kB => exact locs rfl); (case c2 => exact rfl); (case c3 => exact rfl); (case c4 => exact rfl); k_whole; intro g L' h' FG' F' N' B' X' T' GS; (try dsimp only); (try k_fold)))
  k_steps
  refine' hret _ _ _ _ ⟨rfl, _, by rw [Int.fmod_eq_emod_of_nonneg _ (by decide)]⟩ ?kF ?kN ?kG ?kH
  ((case kF => k_asm); (case kN => k_asm); (case kG => exact (con_end GS (by assumption) (by assumption)).1); (case kH => exact (con_end GS (by assumption) (by assumption)).2))
theorem truth_con {w p loose mean mg mb x t} : Con w p loose mean mg mb 42 1 [.int x t] any (scal fun v => ∃ _ : Tok, v = .bool (decide (x ≠ 0))) := by
  (unfold Con; k_fill; intro dp un gd cn cs a ccd cl outer A₀ base h₀ L m s Q E B F X T hp hk hd hu hret; refine wpAny_call ?_; (refine' code_defG ?k1 ?k2 ?k3 (News.nil) ?k5 ?kA ?kF ?kK ?k6 ?k7 ?k8 ?k9 ?kB ?_ ?c2 ?c3 ?c4 ?c5; (case kA => exact rfl); (case kF => exact rfl); (case kK => assumption); (case k1 => k_asm); (case k2 => k_asm); (case k3 => k_asm); (case k5 => k_asm); (case k6 => k_is); (case k7 => k_is); (case k8 => ktr_room); (case k9 => exact BindsTo.of_eq rfl); (case c5 => decide); (case kB => exact locs rfl); (case c2 => exact rfl); (case c3 => exact rfl); (case c4 => exact rfl); k_whole; intro g L' h' FG' F' N' B' X' T' GS; (try dsimp only); (try k_fold)))
  k_steps
  · refine' hret _ _ _ _ ⟨rfl, t, by rw [decide_eq_true (show x ≠ 0 by assumption)]⟩ ?kF ?kN ?kG ?kH
    ((case kF => k_asm); (case kN => k_asm); (case kG => exact (con_end GS (by assumption) (by assumption)).1); (case kH => exact (con_end GS (by assumption) (by assumption)).2))
  · refine' hret _ _ _ _ ⟨rfl, t, by rw [decide_eq_false (fun h => h (show x = 0 by assumption))]⟩ ?kF ?kN ?kG ?kH
    ((case kF => k_asm); (case kN => k_asm); (case kG => exact (con_end GS (by assumption) (by assumption)).1); (case kH => exact (con_end GS (by assumption) (by assumption)).2))
end
section

set_option Elab.async false
set_option maxRecDepth 100000
set_option maxHeartbeats 8000000
theorem pre_list {h g : Heap} {l : Addr} {its : Array Value} (G : GSub h g []) (hl : h.IsList l its) : g.IsList l its := hl.at fun _ e => G _ _ e (fun hm => nomatch hm)
local macro_rules | `(tactic| lcg_off) => `(tactic| assumption)
local macro_rules | `(tactic| walk_at "CompRest") => `(tactic| first | refine LCg.CompRest.zero ?_ | ((with_unfolding_all first | refine succT fun _ => ?_ | refine succI (by rfl) ?_); intro _ _ _ _ _ _ _ _ _ _ _ _ _ _ _))
theorem text_con {w p loose mean mg mb} {l : Addr} {a b c : Int} {ta tb tc} (ha : 0 ≤ a ∧ a < 256) (hb : 0 ≤ b ∧ b < 256) (hc : 0 ≤ c ∧ c < 256) : Con w p loose mean mg mb 103 1 [.ref l] (fun h => h.IsList l #[.int a ta, .int b tb, .int c tc]) (scal fun v => ∃ t', v = .str ⟨#[a.toNat, b.toNat, c.toNat]⟩ t') := by
  obtain ⟨ha0, ha1⟩ := ha
  obtain ⟨hb0, hb1⟩ := hb
  obtain ⟨hc0, hc1⟩ := hc
  (unfold Con; k_fill; intro dp un gd cn cs a ccd cl outer A₀ base h₀ L m s Q E B F X T hp hk hd hu hret; refine wpAny_call ?_; (refine' code_defG ?k1 ?k2 ?k3 (News.nil) ?k5 ?kA ?kF ?kK ?k6 ?k7 ?k8 ?k9 ?kB ?_ ?c2 ?c3 ?c4 ?c5; (case kA => exact rfl); (case kF => exact rfl); (case kK => assumption); (case k1 => k_asm); (case k2 => k_asm); (case k3 => k_asm); (case k5 => k_asm); (case k6 => k_is); (case k7 => k_is); (case k8 => ktr_room); (case k9 => exact BindsTo.of_eq rfl); (case c5 => decide); (case kB => exact locs rfl); (case c2 => exact rfl); (case c3 => exact rfl); (case c4 => exact rfl); k_whole; intro g L' h' FG' F' N' B' X' T' GS; (try dsimp only); (try k_fold)))
  have hl := pre_list GS hp
  k_steps
  refine join_listW (by is_list) (by kct_strs) (by decide +kernel) (by show (1 + (1 + (1 + 0))) + 3 ≤ 1048576; decide) (fun t9 k9 => ?_)
  k_steps
  refine' hret _ _ _ _ ⟨rfl, _, rfl⟩ ?kF ?kN ?kG ?kH
  ((case kF => k_asm); (case kN => first | k_asm | exact News.nil); (case kG => exact (con_end GS (by assumption) (by assumption)).1); (case kH => first | exact (con_end GS (by assumption) (by assumption)).2 | exact (con_end GS (by assumption) News.nil).2))

theorem textb_con {w p loose mean mg mb} {x : Array UInt8} {t} (ha : x.size = 3) : Con w p loose mean mg mb 103 1 [.bytes x t] any (scal fun v => ∃ t', v = .str ⟨#[(x.getD 0 0).toNat, (x.getD 1 0).toNat, (x.getD 2 0).toNat]⟩ t') := by
  have h0 : ((x.getD 0 0).toNat : Int) < 256 := by have := (x.getD 0 0).toNat_lt; omega
  have h1 : ((x.getD (0 + 1) 0).toNat : Int) < 256 := by have := (x.getD (0 + 1) 0).toNat_lt; omega
  have h2 : ((x.getD (0 + 1 + 1) 0).toNat : Int) < 256 := by have := (x.getD (0 + 1 + 1) 0).toNat_lt; omega
  (unfold Con; k_fill; intro dp un gd cn cs a ccd cl outer A₀ base h₀ L m s Q E B F X T hp hk hd hu hret; refine wpAny_call ?_; (refine' code_defG ?k1 ?k2 ?k3 (News.nil) ?k5 ?kA ?kF ?kK ?k6 ?k7 ?k8 ?k9 ?kB ?_ ?c2 ?c3 ?c4 ?c5; (case kA => exact rfl); (case kF => exact rfl); (case kK => assumption); (case k1 => k_asm); (case k2 => k_asm); (case k3 => k_asm); (case k5 => k_asm); (case k6 => k_is); (case k7 => k_is); (case k8 => ktr_room); (case k9 => exact BindsTo.of_eq rfl); (case c5 => decide); (case kB => exact locs rfl); (case c2 => exact rfl); (case c3 => exact rfl); (case c4 => exact rfl); k_whole; intro g L' h' FG' F' N' B' X' T' GS; (try dsimp only); (try k_fold)))
  iterate 8 walk1
  refine ListComp_G (by k_asm) (by rfl) (by decide) (by rfl) (by decide) (by rfl) ?_
  walk1
  refine src_bytes rfl (by k_asm) (by k_asm) ha (by decide) (fun g9 => ?_)
  k_steps
  refine join_listW (by is_list) (by kct_strs) (by decide +kernel) (by show (1 + (1 + (1 + 0))) + 3 ≤ 1048576; decide) (fun t9 k9 => ?_)
  k_steps
  refine' hret _ _ _ _ ⟨rfl, _, rfl⟩ ?kF ?kN ?kG ?kH
  ((case kF => k_asm); (case kN => first | k_asm | exact News.nil); (case kG => exact (con_end GS (by assumption) (by assumption)).1); (case kH => first | exact (con_end GS (by assumption) (by assumption)).2 | exact (con_end GS (by assumption) News.nil).2))
end
set_option hygiene false in
local macro_rules | `(tactic| walk_at "scal_back") => `(tactic| (walk_at "con_args"; (intro h9 tk9 t9 F9 N9 _); (try dsimp only)))
section

set_option Elab.async false
set_option maxRecDepth 100000
set_option maxHeartbeats 8000000
local macro_rules | `(tactic| lcg_off) => `(tactic| assumption)
local macro_rules | `(tactic| lcg_src) => `(tactic| exact ⟨_, by k_mem, rfl, _, rfl⟩)
local macro_rules | `(tactic| walk_at "eval ListComp") => `(tactic| (k_dflt (refine ListComp_G (by k_asm) (by rfl) (by decide) (by rfl) (by decide) (by rfl) ?_)))
local macro_rules | `(tactic| walk_at "pyIter str") => `(tactic| (k_dflt (refine src_str (n := 3) rfl (by k_asm) (by k_asm) (by rfl) (by decide) (fun g9 => ?_))))
theorem div256 {prog : Program} {w : World} {A : Around} {E : Value → Shared → Prop} {s : Shared} {Q : Value → Shared → Prop} {n : Nat} {t u : Tok} (hA : A.handled = none) (hn : n < 2 ^ 20) (h : Q (.float (fl n) s.toks) { s with toks := s.toks + 1 }) :
    wpAny (model prog w) A (binaryOp .Div (.int (n : Int) t) (.int 256 u)) Q E s := by
  have hb : ((n : Int)).natAbs < 2 ^ 1023 := by
    have k : 2 ^ 20 < 2 ^ 1023 := by decide +kernel
    rw [Int.natAbs_natCast]
    exact Nat.lt_trans hn k
  refine PySem.Flt.div_ii_fits hA hb (fun e => absurd e (by decide)) (fun _ => ?_)
  have e : Float64.ofFrac (decide ((n : Int) < 0) != decide ((256 : Int) < 0)) (n : Int).natAbs (256 : Int).natAbs = fl n := by
    rw [decide_eq_false (by omega), decide_eq_false (by omega), Int.natAbs_natCast]
    exact fl_of_frac hn
  rw [e]
  exact fun _ => h
theorem lightAt_80 (c i : Nat) : ((lightAt c 48 80 i : Nat) : Int) < 256 := by
  unfold lightAt
  split <;> omega
theorem lightAt_lt {c lo hi : Nat} (hl : lo < hi) (hh : hi < 256) (i : Nat) : lightAt c lo hi i < 2 ^ 20 := by
  unfold lightAt
  split <;> omega
def ltext (c lo hi : Nat) : Str := ⟨#[lightAt c lo hi 0, lightAt c lo hi 1, lightAt c lo hi 2]⟩
def stepOf (a b : Nat) : Int := ((b : Int) - a) % 3
def metHue (a b : Nat) : Nat := ((-((a : Int) + b)) % 3).toNat
inductive MetOut (a b : Nat) : Value → List (Addr × Obj) → Prop
  | mk : ∀ D t1 t2, MetOut a b (.ref D) ([(D, tup [.int (stepOf a b) t1, .str (ltext (metHue a b) 48 80) t2])])
set_option hygiene false in
local macro_rules | `(tactic| walk_at "binaryOp Div int int") => `(tactic| (k_dflt (refine div256 rfl (by first | exact lightAt_lt hl1 hh1 _ | exact lightAt_lt hl2 hh2 _) ?_)))
set_option hygiene false in
local macro_rules | `(tactic| walk_at "call ref") => `(tactic| k_dflt (first
  | (refine' Con.use (rgb_con (c := ca) (lo := l1) (hi := h1) ha hl1 hh1) ?k1 ?k2 ?k3 ?k4 ?k5 ?k6 ?k7 ?k8 trivial ?_; walk_at "con_args"; (intro v9 h9 tk9 n9 o9; refine HlsOut.casesOn o9 ?_; clear o9 n9 v9; intro D9 y9 z9 t91 t92 t93 F9 N9 ne9); (replace N9 := app1 N9); (try dsimp only))
  | (refine' Con.use (rgb_con (c := cb) (lo := l2) (hi := h2) hb hl2 hh2) ?k1 ?k2 ?k3 ?k4 ?k5 ?k6 ?k7 ?k8 trivial ?_; walk_at "con_args"; (intro v9 h9 tk9 n9 o9; refine HlsOut.casesOn o9 ?_; clear o9 n9 v9; intro D9 y9 z9 t91 t92 t93 F9 N9 ne9); (replace N9 := app1 N9); (try dsimp only))
  | ((first | refine' Con.useS isub_con ?k1 ?k2 ?k3 ?k4 ?k5 ?k6 ?k7 ?k8 trivial ?_ | refine' Con.useS iadd_con ?k1 ?k2 ?k3 ?k4 ?k5 ?k6 ?k7 ?k8 trivial ?_ | refine' Con.useS neg_con ?k1 ?k2 ?k3 ?k4 ?k5 ?k6 ?k7 ?k8 trivial ?_ | refine' Con.useS imod_con ?k1 ?k2 ?k3 ?k4 ?k5 ?k6 ?k7 ?k8 trivial ?_ | refine' Con.useS (imul_fi_con (by decide)) ?k1 ?k2 ?k3 ?k4 ?k5 ?k6 ?k7 ?k8 trivial ?_); walk_at "scal_back")
  | (refine' Con.useS (text_con ⟨Int.natCast_nonneg _, lightAt_80 _ _⟩ ⟨Int.natCast_nonneg _, lightAt_80 _ _⟩ ⟨Int.natCast_nonneg _, lightAt_80 _ _⟩) ?k1 ?k2 ?k3 ?k4 ?k5 ?k6 ?k7 ?k8 (by is_list) ?_; walk_at "scal_back")
  | (refine' Con.use hls_con ?k1 ?k2 ?k3 ?k4 ?k5 ?k6 ?k7 ?k8 trivial ?_; walk_at "con_args"; (intro v9 h9 tk9 n9 o9; refine RgbOut.casesOn o9 ?_; clear o9 n9 v9; intro D9 x9 y9 z9 t91 t92 t93 hx9 hy9 hz9 F9 N9 ne9); rw [← hx9] at p1 p2 pp; rw [← hy9] at q1 q2 qq; rw [← hz9] at s1 s2 ss; clear hx9 hy9 hz9; (replace N9 := app1 N9); (try dsimp only))))
theorem round_known {prog : Program} {w : World} {A : Around} {E : Value → Shared → Prop} {s : Shared} {Q : Value → Shared → Prop} {x : UInt64} {r : Int} {t : Tok} (hA : A.handled = none) (h0 : ¬ Float64.isNaN x = true) (h1 : ¬ Float64.isInf x = true) (hr : toInt Float64.nearestOf x = r)
    (h : Q (.int r s.toks) { s with toks := s.toks + 1 }) : wpAny (model prog w) A (call (.builtin "round") [.float x t]) Q E s :=
  call_round_float hA (fun hz => absurd hz h0) (fun hz => absurd hz h1) (fun _ => by rw [hr]; exact h)
set_option hygiene false in
local macro_rules | `(tactic| walk_at "call builtin:round") => `(tactic| (k_dflt (refine round_known rfl (by with_reducible assumption) (by with_reducible assumption) (by with_reducible assumption) ?_)))
local macro_rules | `(tactic| walk_at "pyIter ref") => `(tactic| (k_dflt (refine src_tup (n := 3) rfl (by k_asm) (by k_asm) ⟨_, by k_mem, rfl, _, rfl⟩ (by rfl) (by decide) (fun g9 => ?_))))
theorem met_fin (P : Nat → Nat → Prop) [∀ a b, Decidable (P a b)] (h : ∀ a < 3, ∀ b < 3, P a b) {ca cb : Nat} (ha : ca < 3) (hb : cb < 3) : P ca cb := h ca ha cb hb
def metH (ca cb : Nat) : UInt64 := Float64.neg (Float64.add (hueOf ca) (hueOf cb))
def metR (ca cb : Nat) : UInt64 := Float64.mul (Float64.sub (hueOf cb) (hueOf ca)) (Float64.ofInt 3)
def part0 (ca cb : Nat) : UInt64 := Float64.mul (vF M1 M2 (Float64.add (metH ca cb) 0x3fd5555555555555)) (Float64.ofInt 256)
def part1 (ca cb : Nat) : UInt64 := Float64.mul (vF M1 M2 (metH ca cb)) (Float64.ofInt 256)
def part2 (ca cb : Nat) : UInt64 := Float64.mul (vF M1 M2 (Float64.sub (metH ca cb) 0x3fd5555555555555)) (Float64.ofInt 256)
def okF (x : UInt64) : Bool := !Float64.isNaN x && !Float64.isInf x
theorem met_facts : ∀ a < 3, ∀ b < 3, (okF (metR a b) && okF (part0 a b) && okF (part1 a b) && okF (part2 a b) && toInt Float64.nearestOf (metR a b) % 3 == stepOf a b
    && toInt Float64.nearestOf (part0 a b) == (lightAt (metHue a b) 48 80 0 : Nat) && toInt Float64.nearestOf (part1 a b) == (lightAt (metHue a b) 48 80 1 : Nat) && toInt Float64.nearestOf (part2 a b) == (lightAt (metHue a b) 48 80 2 : Nat)) = true := by decide +kernel
theorem news_none {h₀ h : Heap} {L : Addr} {news : List (Addr × Obj)} (_ : News h₀ L h news) : News h₀ L h [] := News.nil
local macro_rules | `(tactic| walk_at "execs cons") => `(tactic| ((with_reducible first | show wpAny _ _ (execs (PySem.Stmt.Assign [PySem.Expr.Name (PySem.Str.ofString "second") _] _ _ :: _) _) _ _ _ | show wpAny _ _ (execs (PySem.Stmt.Assign [PySem.Expr.Name (PySem.Str.ofString "step") _] _ _ :: _) _) _ _ _ | show wpAny _ _ (execs (PySem.Stmt.Assign [PySem.Expr.Name (PySem.Str.ofString "painted") _] _ _ :: _) _) _ _ _); (with_reducible rename News _ _ _ (_ :: _) => nvX); (have nvY := news_none nvX); (clear nvX); walk1))
local macro_rules | `(tactic| walk_at "CompRest") => `(tactic| first | refine LCg.CompRest.zero ?_ | ((with_unfolding_all first | refine succT fun _ => ?_ | refine succI (by rfl) ?_); intro _ _ _ _ _ _ _ _ _ _ _ _ _ _ _))
theorem met_con {w p loose mean mg mb} {ca cb l1 h1 l2 h2 : Nat} {t u} (ha : ca < 3) (hb : cb < 3) (hl1 : l1 < h1) (hh1 : h1 < 256) (hl2 : l2 < h2) (hh2 : h2 < 256) :
    Con w p loose mean mg mb 108 3 [.str (ltext ca l1 h1) t, .str (ltext cb l2 h2) u] any (MetOut ca cb) := by
  have hf := met_facts ca ha cb hb
  simp only [okF, Bool.and_eq_true, Bool.not_eq_true', beq_iff_eq] at hf
  obtain ⟨⟨⟨⟨⟨⟨⟨⟨r1, r2⟩, ⟨p1, p2⟩⟩, ⟨q1, q2⟩⟩, ⟨s1, s2⟩⟩, rr⟩, pp⟩, qq⟩, ss⟩ := hf
  simp only [metR, part0, part1, part2, metH] at r1 r2 p1 p2 q1 q2 s1 s2 rr pp qq ss
  generalize hr0 : toInt Float64.nearestOf (Float64.mul (Float64.sub (hueOf cb) (hueOf ca)) (Float64.ofInt 3)) = r0 at rr
  replace r1 := Bool.eq_false_iff.mp r1
  replace r2 := Bool.eq_false_iff.mp r2
  replace p1 := Bool.eq_false_iff.mp p1
  replace p2 := Bool.eq_false_iff.mp p2
  replace q1 := Bool.eq_false_iff.mp q1
  replace q2 := Bool.eq_false_iff.mp q2
  replace s1 := Bool.eq_false_iff.mp s1
  replace s2 := Bool.eq_false_iff.mp s2
  (unfold Con; k_fill; intro dp un gd cn cs a ccd cl outer A₀ base h₀ L m s Q E B F X T hp hk hd hu hret; refine wpAny_call ?_; (refine' code_defG ?k1 ?k2 ?k3 (News.nil) ?k5 ?kA ?kF ?kK ?k6 ?k7 ?k8 ?k9 ?kB ?_ ?c2 ?c3 ?c4 ?c5; (case kA => exact rfl); (case kF => exact rfl); (case kK => assumption); (case k1 => k_asm); (case k2 => k_asm); (case k3 => k_asm); (case k5 => k_asm); (case k6 => k_is); (case k7 => k_is); (case k8 => ktr_room); (case k9 => exact BindsTo.of_eq rfl); (case c5 => decide); (case kB => exact locs rfl); (case c2 => exact rfl); (case c3 => exact rfl); (case c4 => exact rfl); k_whole; intro g L' h' FG' F' N' B' X' T' GS; (try dsimp only); (try k_fold)))
  k_steps
  refine' hret _ _ _ [(_, tup [.int (r0 % 3) _, .str (ltext (metHue ca cb) 48 80) _])] ?kO ?kF ?kN ?kG ?kH
  rotate_left
  ((case kF => k_asm); (case kN => first | k_asm | exact News.nil | exact news_one (by assumption)); (case kG => exact (con_end GS (by assumption) (by assumption)).1); (case kH => first | exact (con_end GS (by assumption) (by assumption)).2 | exact (con_end GS (by assumption) News.nil).2 | exact (con_end GS (by assumption) (news_one (by assumption))).2))
  rw [rr]
  exact .mk _ _ _
end
section

set_option Elab.async false
set_option maxRecDepth 100000
set_option maxHeartbeats 8000000
section
variable {prog : Program} {w : World} {A : Around} {E : Value → Shared → Prop} {s : Shared}
/-- the next item of a tuple's iterator, as zip asks for it -/
theorem tit_item {it t : Addr} {i : Nat} {items : Array Value} {x : Value} {Q : Value → Shared → Prop} (hit : s.heap.IsTupleIter it t i) (ht : s.heap.IsTuple t items) (hx : items[i]? = some x)
    (hQ : ∀ h', h'.IsTupleIter it t (i + 1) → Heap.SameBut it s.heap h' → Q x { s with heap := h' }) :
    wpAny (model prog w) A (Builtin.SmallTypes.nextOf (.ref it)) Q E s := by
  obtain ⟨o, ho, hc, hd⟩ := id hit
  obtain ⟨ol, hol, _, nl, hdl⟩ := ht
  unfold Builtin.SmallTypes.nextOf
  refine wpAny_bind (wpAny_callSpecial?_slot (name := Str.ofString "__next__") hit.typeIs F.slot_tuple_iterator_next
    (wpAny_call_entry F.slot_tuple_iterator_next hit.typeIs F.entry_tuple_iterator_next ?_ (F.args_tuple_iterator_next_1 _)))
  show wpAny _ _ (field (.ref it) 0 >>= _) _ _ s
  refine wpAny_bind (wpAny_field ho hd (x := .ref t) rfl ?_)
  show wpAny _ _ (if (Value.ref t == Value.none) = true then _ else _) _ _ s
  rw [if_neg (show ¬ ((Value.ref t == Value.none) = true) from Bool.false_ne_true)]
  show wpAny _ _ (field (.ref it) 1 >>= _) _ _ s
  refine wpAny_bind (wpAny_field ho hd (x := .int i 0) rfl ?_)
  show wpAny _ _ (seqItems? (.ref t) >>= _) _ _ s
  refine wpAny_bind (wpAny_seqItems hol hdl ?_)
  simp only [Int.toNat_natCast, hx]
  refine wpAny_bind (wpAny_setField ho hd (by simp) (wpAny_pure ⟨x, rfl, wpAny_pure (hQ _ ?_ (Heap.SameBut.update ..))⟩))
  exact ⟨_, Heap.get?_update_self _ ho (Obj.isFreed_of_fields (Obj.data_mapFields hd _)), (Obj.cls_mapFields ..).trans hc, by
    rw [Obj.data_mapFields hd]; simp [rawInt]⟩
theorem tit_end {it t : Addr} {i : Nat} {items : Array Value} {Q : Value → Shared → Prop} (hh : A.handled = none)
    (hit : s.heap.IsTupleIter it t i) (ht : s.heap.IsTuple t items) (hx : items[i]? = none)
    (hE : ∀ h' e, Heap.ExtBut it s.heap h' → (∃ o, h'.get? e = some o ∧ o.cls = .type "StopIteration") → E (.ref e) { s with heap := h' }) :
    wpAny (model prog w) A (Builtin.SmallTypes.nextOf (.ref it)) Q E s := by
  obtain ⟨o, ho, hc, hd⟩ := id hit
  obtain ⟨ol, hol, _, nl, hdl⟩ := ht
  unfold Builtin.SmallTypes.nextOf
  refine wpAny_bind (wpAny_callSpecial?_slot (name := Str.ofString "__next__") hit.typeIs F.slot_tuple_iterator_next
    (wpAny_call_entry F.slot_tuple_iterator_next hit.typeIs F.entry_tuple_iterator_next ?_ (F.args_tuple_iterator_next_1 _)))
  show wpAny _ _ (field (.ref it) 0 >>= _) _ _ s
  refine wpAny_bind (wpAny_field ho hd (x := .ref t) rfl ?_)
  show wpAny _ _ (if (Value.ref t == Value.none) = true then _ else _) _ _ s
  rw [if_neg (show ¬ ((Value.ref t == Value.none) = true) from Bool.false_ne_true)]
  show wpAny _ _ (field (.ref it) 1 >>= _) _ _ s
  refine wpAny_bind (wpAny_field ho hd (x := .int i 0) rfl ?_)
  show wpAny _ _ (seqItems? (.ref t) >>= _) _ _ s
  refine wpAny_bind (wpAny_seqItems hol hdl ?_)
  simp only [Int.toNat_natCast, hx]
  refine wpAny_bind (wpAny_rule (wpAny_bind (wpAny_setField ho hd (by simp) ?_)))
  show wpAny _ _ (newExc (.type "StopIteration") [] >>= _) _ _ _
  refine wpAny_bind ?_
  simp only [newExc, newTuple]
  refine wpAny_bind (wpAny_newObj_type ?_ (by size_fits))
  refine wpAny_bind (m := firstArgMember _ _) (wpAny_of_eq (a := Value.none) (by first | rfl | (simp only [firstArgMember]; rfl)) ?_)
  refine wpAny_newObj_type ?_ (by size_fits)
  simp only [raiseNew]
  refine wpAny_bind (wpAny_handled ?_)
  first | rw [show A.in1.handled = none from hh] | rw [hh]
  refine wpAny_bind (wpAny_pure (wpAny_throw ?_))
  exact hE _ _ (((Heap.SameBut.update ..).extBut.push _).push _) ⟨_, Heap.get?_push_size _ rfl, rfl⟩

/-- the state of a zip over two tuples -/
structure ZipSt (h : Heap) (z TI TO i1 i2 t1 t2 : Addr) (xs ys : Array Value) (f0 : Value) (k1 k2 : Nat) : Prop where
  z : IsZip h z TI TO f0
  ti : IsPair h TI (.ref i1) (.ref i2)
  to : ∃ a b, IsPair h TO a b
  i1 : h.IsTupleIter i1 t1 k1
  i2 : h.IsTupleIter i2 t2 k2
  t1 : h.IsTuple t1 xs
  t2 : h.IsTuple t2 ys
theorem ZipSt.keep {h h' : Heap} {z TI TO i1 i2 t1 t2 : Addr} {xs ys : Array Value} {f0 : Value} {k1 k2 : Nat} (x : ZipSt h z TI TO i1 i2 t1 t2 xs ys f0 k1 k2) (hk : ∀ b o, b ∈ [z, TI, TO, i1, i2, t1, t2] → h.get? b = some o → h'.get? b = some o) :
    ZipSt h' z TI TO i1 i2 t1 t2 xs ys f0 k1 k2 where
  z := hk _ _ (by simp) x.z
  ti := hk _ _ (by simp) x.ti
  to := let ⟨a, b, e⟩ := x.to; ⟨a, b, hk _ _ (by simp) e⟩
  i1 := let ⟨o, e, r⟩ := x.i1; ⟨o, hk _ _ (by simp) e, r⟩
  i2 := let ⟨o, e, r⟩ := x.i2; ⟨o, hk _ _ (by simp) e, r⟩
  t1 := let ⟨o, e, r⟩ := x.t1; ⟨o, hk _ _ (by simp) e, r⟩
  t2 := let ⟨o, e, r⟩ := x.t2; ⟨o, hk _ _ (by simp) e, r⟩

theorem zipt_next_item {z TI TO i1 i2 t1 t2 : Addr} {k : Nat} {xs ys : Array Value} {x y : Value} {Q : Value → Shared → Prop} (D : ZipApart z TI TO i1 i2 t1 t2)
    (Z : ZipSt s.heap z TI TO i1 i2 t1 t2 xs ys .none k k) (hx : xs[k]? = some x) (hy : ys[k]? = some y)
    (hQ : ∀ h', ZipSt h' z TI TO i1 i2 t1 t2 xs ys (rawInt s.heap.objs.size) (k + 1) (k + 1) → IsPair h' s.heap.objs.size x y →
      (∀ c o, c ≠ z → c ≠ TO → c ≠ i1 → c ≠ i2 → s.heap.get? c = some o → h'.get? c = some o) → Q (.ref s.heap.objs.size) { s with heap := h' }) :
    wpAny (model prog w) A (Builtin.«zip.__next__» ⟨[.ref z], []⟩) (fun fin s' => ∃ v, fin = .done (.ret v) ∧ Q v s') E s := by
  obtain ⟨hz, hTI, ⟨a, b, hTO⟩, h1, h2, hl1, hl2⟩ := Z
  show wpAny _ _ (field (.ref z) 2 >>= _) _ _ _
  refine wpAny_bind (wpAny_field hz rfl (x := .bool false) rfl ?_)
  show wpAny _ _ (field (.ref z) 3 >>= _) _ _ _
  refine wpAny_bind (wpAny_field hz rfl (x := .ref TI) rfl ?_)
  refine wpAny_bind (wpAny_seqItems hTI rfl ?_)
  show wpAny _ _ (Builtin.SmallTypes.ownedTupleIsFree (.ref z) >>= _) _ _ _
  refine wpAny_bind ?_
  unfold Builtin.SmallTypes.ownedTupleIsFree
  refine wpAny_bind (wpAny_field hz rfl (x := .none) rfl (wpAny_pure ?_))
  simp only [if_true]
  refine wpAny_bind (wpAny_rule ?_)
  refine wpAny_bind (wpAny_field hz rfl (x := .ref TO) rfl ?_)
  refine wpAny_bind (wpAny_setField_rec hz (by simp) fun h₁ hz₁ hs₁ => ?_)
  replace hz₁ : IsZip h₁ z TI TO .ellipsis := hz₁
  refine wpAny_bind ?_
  simp only [List.zipIdx_cons, List.zipIdx_nil, List.forIn_cons, List.forIn_nil]
  refine wpAny_bind (wpAny_bind (wpAny_onRaise ?_))
  show wpAny _ _ (Builtin.SmallTypes.nextOf (.ref i1) >>= _) _ _ _
  refine wpAny_bind (tit_item (h1.extBut hs₁.extBut D.i1z) (hl1.extBut hs₁.extBut D.l1z) hx fun h₂ h1₂ hs₂ => wpAny_pure ?_)
  have hTO₂ : IsPair h₂ TO a b := hs₂.extBut _ _ D.TOi1 (hs₁.extBut _ _ D.TOz hTO)
  refine wpAny_bind (wpAny_seqItems hTO₂ rfl ?_)
  refine wpAny_bind (wpAny_updateSeq_pair hTO₂ fun h₃ hTO₃ hs₃ => ?_)
  replace hTO₃ : IsPair h₃ TO x b := hTO₃
  refine wpAny_bind (wpAny_letGo (wpAny_pure ?_))
  refine wpAny_bind (wpAny_bind (wpAny_onRaise ?_))
  show wpAny _ _ (Builtin.SmallTypes.nextOf (.ref i2) >>= _) _ _ _
  refine wpAny_bind (tit_item (((h2.extBut hs₁.extBut D.i2z).extBut hs₂.extBut D.i12.symm).extBut hs₃.extBut D.TOi2.symm)
    (((hl2.extBut hs₁.extBut D.l2z).extBut hs₂.extBut D.l2i1).extBut hs₃.extBut D.l2TO) hy fun h₄ h2₄ hs₄ => wpAny_pure ?_)
  have hTO₄ : IsPair h₄ TO x b := hs₄.extBut _ _ D.TOi2 hTO₃
  refine wpAny_bind (wpAny_seqItems hTO₄ rfl ?_)
  refine wpAny_bind (wpAny_updateSeq_pair hTO₄ fun h₅ hTO₅ hs₅ => ?_)
  replace hTO₅ : IsPair h₅ TO x y := hTO₅
  refine wpAny_bind (wpAny_letGo (wpAny_pure (wpAny_pure ?_)))
  refine wpAny_bind (wpAny_seqItems hTO₅ rfl ?_)
  refine wpAny_bind (wpAny_newTuple ?_)
  have hsz : h₅.objs.size = s.heap.objs.size := by rw [hs₅.1, hs₄.1, hs₃.1, hs₂.1, hs₁.1]
  have hz₅ : IsZip h₅ z TI TO .ellipsis := hs₅.extBut _ _ D.TOz.symm (hs₄.extBut _ _ D.i2z.symm (hs₃.extBut _ _ D.TOz.symm (hs₂.extBut _ _ D.i1z.symm hz₁)))
  have hk₅ : ∀ c o, c ≠ z → c ≠ TO → c ≠ i1 → c ≠ i2 → s.heap.get? c = some o → h₅.get? c = some o := fun c o c1 c2 c3 c4 e =>
    hs₅.extBut _ _ c2 (hs₄.extBut _ _ c4 (hs₃.extBut _ _ c2 (hs₂.extBut _ _ c3 (hs₁.extBut _ _ c1 e))))
  have h1₅ : h₅.IsTupleIter i1 t1 (k + 1) := ((h1₂.extBut hs₃.extBut D.TOi1.symm).extBut hs₄.extBut D.i12).extBut hs₅.extBut D.TOi1.symm
  have h2₅ : h₅.IsTupleIter i2 t2 (k + 1) := h2₄.extBut hs₅.extBut D.TOi2.symm
  have hzlt : z < h₅.objs.size := Heap.lt_size hz₅
  show wpAny _ _ (Builtin.SmallTypes.ownedTupleHandOut (.ref z) (.ref h₅.objs.size) >>= _) _ _ _
  refine wpAny_bind ?_
  unfold Builtin.SmallTypes.ownedTupleHandOut
  have hz₆ : IsZip (h₅.push { cls := .type "tuple", data := .seq #[x, y] }) z TI TO .ellipsis := Heap.get?_push_of_some _ hz₅
  refine wpAny_bind (wpAny_setField_rec hz₆ (by simp) fun h₇ hz₇ hs₇ => ?_)
  replace hz₇ : IsZip h₇ z TI TO (rawInt h₅.objs.size) := hz₇
  refine wpAny_setField_rec hz₇ (by simp) fun h₈ hz₈ hs₈ => ?_
  replace hz₈ : IsZip h₈ z TI TO (rawInt h₅.objs.size) := hz₈
  have up : ∀ c o, c ≠ z → h₅.get? c = some o → h₈.get? c = some o := fun c o c1 e => hs₈.extBut _ _ c1 (hs₇.extBut _ _ c1 (Heap.get?_push_of_some _ e))
  have hT₈ : IsPair h₈ h₅.objs.size x y := hs₈.extBut _ _ (Nat.ne_of_gt hzlt) (hs₇.extBut _ _ (Nat.ne_of_gt hzlt) (Heap.get?_push_size _ rfl))
  rw [hsz] at hz₈ hT₈
  refine wpAny_pure ⟨_, rfl, ?_⟩
  show Q (.ref h₅.objs.size) _
  rw [hsz]
  refine hQ h₈ ⟨hz₈, up _ _ D.TIz (hk₅ _ _ D.TIz D.TITO D.TIi1 D.TIi2 hTI), ⟨_, _, up _ _ D.TOz hTO₅⟩, ?_, ?_, ?_, ?_⟩ hT₈ fun c o c1 c2 c3 c4 e => up c o c1 (hk₅ c o c1 c2 c3 c4 e)
  · obtain ⟨o, e, r⟩ := h1₅; exact ⟨o, up _ o D.i1z e, r⟩
  · obtain ⟨o, e, r⟩ := h2₅; exact ⟨o, up _ o D.i2z e, r⟩
  · obtain ⟨o, e, r⟩ := hl1; exact ⟨o, up _ o D.l1z (hk₅ _ _ D.l1z D.l1TO D.l1i1 D.l1i2 e), r⟩
  · obtain ⟨o, e, r⟩ := hl2; exact ⟨o, up _ o D.l2z (hk₅ _ _ D.l2z D.l2TO D.l2i1 D.l2i2 e), r⟩

theorem zipt_next_end {z TI TO i1 i2 t1 t2 : Addr} {k : Nat} {xs ys : Array Value} {Q : Fin → Shared → Prop} (hh : A.handled = none) (D : ZipApart z TI TO i1 i2 t1 t2)
    (Z : ZipSt s.heap z TI TO i1 i2 t1 t2 xs ys .none k k) (hx : xs[k]? = none)
    (hE : ∀ h' e, (∀ c o, c ≠ z → c ≠ TO → c ≠ i1 → c ≠ i2 → s.heap.get? c = some o → h'.get? c = some o) → (∃ o, h'.get? e = some o ∧ o.cls = .type "StopIteration") → E (.ref e) { s with heap := h' }) :
    wpAny (model prog w) A (Builtin.«zip.__next__» ⟨[.ref z], []⟩) Q E s := by
  obtain ⟨hz, hTI, ⟨a, b, hTO⟩, h1, h2, hl1, hl2⟩ := Z
  show wpAny _ _ (field (.ref z) 2 >>= _) _ _ _
  refine wpAny_bind (wpAny_field hz rfl (x := .bool false) rfl ?_)
  show wpAny _ _ (field (.ref z) 3 >>= _) _ _ _
  refine wpAny_bind (wpAny_field hz rfl (x := .ref TI) rfl ?_)
  refine wpAny_bind (wpAny_seqItems hTI rfl ?_)
  show wpAny _ _ (Builtin.SmallTypes.ownedTupleIsFree (.ref z) >>= _) _ _ _
  refine wpAny_bind ?_
  unfold Builtin.SmallTypes.ownedTupleIsFree
  refine wpAny_bind (wpAny_field hz rfl (x := .none) rfl (wpAny_pure ?_))
  simp only [if_true]
  refine wpAny_bind (wpAny_rule ?_)
  refine wpAny_bind (wpAny_field hz rfl (x := .ref TO) rfl ?_)
  refine wpAny_bind (wpAny_setField_rec hz (by simp) fun h₁ hz₁ hs₁ => ?_)
  replace hz₁ : IsZip h₁ z TI TO .ellipsis := hz₁
  refine wpAny_bind ?_
  simp only [List.zipIdx_cons, List.zipIdx_nil, List.forIn_cons, List.forIn_nil]
  refine wpAny_bind (wpAny_bind (wpAny_onRaise ?_))
  show wpAny _ _ (Builtin.SmallTypes.nextOf (.ref i1) >>= _) _ _ _
  refine wpAny_bind (tit_end hh (h1.extBut hs₁.extBut D.i1z) (hl1.extBut hs₁.extBut D.l1z) hx fun h₂ e hs₂ he => ?_)
  obtain ⟨oe, hoe, hce⟩ := he
  have hz₂ : IsZip h₂ z TI TO .ellipsis := hs₂ _ _ D.i1z.symm hz₁
  have hez : e ≠ z := fun x => by subst x; rw [hz₂] at hoe; cases hoe; simp at hce
  refine wpAny_setField_rec hz₂ (by simp) fun h₃ _ hs₃ => hE h₃ e (fun c o c1 _ c3 _ x => hs₃.extBut _ _ c1 (hs₂ _ _ c3 (hs₁.extBut _ _ c1 x))) ⟨oe, hs₃.extBut _ _ hez hoe, hce⟩

theorem zipt_walks (hh : A.handled = none) (z TI TO i1 i2 t1 t2 : Addr) (D : ZipApart z TI TO i1 i2 t1 t2) (xs ys : Array Value) (hsz : xs.size = ys.size) :
    WalksU prog w A z [z, TI, TO, i1, i2, t1, t2] [z, TO, i1, i2] xs.size
      (fun i vals => ∃ x y, xs[i]? = some x ∧ ys[i]? = some y ∧ vals = #[x, y])
      (fun i h => ZipSt h z TI TO i1 i2 t1 t2 xs ys .none i i)
      (fun i T h => ZipSt h z TI TO i1 i2 t1 t2 xs ys (rawInt T) (i + 1) (i + 1) ∧ T ≠ z ∧ T ≠ TO ∧ T ≠ i1 ∧ T ≠ i2) where
  sub := fun c hc => by simp at hc ⊢; rcases hc with rfl | rfl | rfl | rfl <;> simp
  frame := fun i h h' hst hk => hst.keep fun b o hb e => hk b hb o e
  item := fun i s Q E hi hst hQ => by
    have hT : s.TypeIs (.ref z) "zip" := ⟨_, hst.z, rfl⟩
    have hiy : i < ys.size := hsz ▸ hi
    have lt : ∀ {c o}, s.heap.get? c = some o → s.heap.objs.size ≠ c := fun e => Nat.ne_of_gt (Heap.lt_size e)
    obtain ⟨a, b, hTO⟩ := hst.to
    unfold pyNext
    refine wpAny_bind (wpAny_attempt (wpAny_callSpecial?_slot (name := Str.ofString "__next__") hT F.slot_zip_next
      (wpAny_call_entry F.slot_zip_next hT F.entry_zip_next
        (zipt_next_item D hst (Array.getElem?_eq_getElem hi) (Array.getElem?_eq_getElem hiy) fun h' Z' hp hk => wpAny_pure ?_) (F.args_zip_next_1 _))))
    refine hQ s.heap.objs.size #[xs[i], ys[i]] h' s.toks ⟨_, _, Array.getElem?_eq_getElem hi, Array.getElem?_eq_getElem hiy, rfl⟩ ⟨_, hp, rfl, _, rfl⟩ ⟨Z', lt hst.z, lt hTO, ?_, ?_⟩
      fun c o hc e => hk c o (fun x => hc (by simp [x])) (fun x => hc (by simp [x])) (fun x => hc (by simp [x])) (fun x => hc (by simp [x])) e
    · obtain ⟨_, e, _⟩ := hst.i1; exact lt e
    · obtain ⟨_, e, _⟩ := hst.i2; exact lt e
  go := fun elts k pos i T s Q E hm hQ => by
    obtain ⟨Z, _⟩ := hm
    refine wpAny_letOwnedTupleGo_zip Z.z fun h' hz' hs' => hQ h' ⟨hz', hs'.extBut _ _ D.TIz Z.ti, (let ⟨a, b, e⟩ := Z.to; ⟨a, b, hs'.extBut _ _ D.TOz e⟩), Z.i1.extBut hs'.extBut D.i1z, Z.i2.extBut hs'.extBut D.i2z,
      Z.t1.extBut hs'.extBut D.l1z, Z.t2.extBut hs'.extBut D.l2z⟩ fun c o hc e => hs'.extBut _ _ (fun x => hc (by simp [x])) e
  apart := fun i T h hm hT => by
    obtain ⟨_, a1, a2, a3, a4⟩ := hm
    simp at hT
    rcases hT with rfl | rfl | rfl | rfl
    · exact a1 rfl
    · exact a2 rfl
    · exact a3 rfl
    · exact a4 rfl
  done := fun s Q E hst hQ => by
    have hT : s.TypeIs (.ref z) "zip" := ⟨_, hst.z, rfl⟩
    unfold pyNext
    refine wpAny_bind (wpAny_attempt (wpAny_callSpecial?_slot (name := Str.ofString "__next__") hT F.slot_zip_next
      (wpAny_call_entry F.slot_zip_next hT F.entry_zip_next (zipt_next_end hh D hst (Array.getElem?_eq_none (Nat.le_refl _)) fun h' e hk he => ?_) (F.args_zip_next_1 _))))
    obtain ⟨o, ho, hc⟩ := he
    refine wpAny_bind (wpAny_isInstance (T := "StopIteration") (b := true) ⟨o, ho, hc⟩ isSubtype_stop ?_)
    exact wpAny_pure (hQ h' s.toks fun c o hc e => hk c o (fun x => hc (by simp [x])) (fun x => hc (by simp [x])) (fun x => hc (by simp [x])) (fun x => hc (by simp [x])) e)
  self := fun i s Q E hst hQ => wpAny_pyIter_zip hst.z hQ
end
abbrev ztH1 (h : Heap) (l1 : Addr) : Heap := h.push { cls := .type "tuple_iterator", data := .fields #[.ref l1, .int 0 0] }
abbrev ztH2 (h : Heap) (l1 l2 : Addr) : Heap := (ztH1 h l1).push { cls := .type "tuple_iterator", data := .fields #[.ref l2, .int 0 0] }
abbrev ztH3 (h : Heap) (l1 l2 : Addr) : Heap := (ztH2 h l1 l2).push { cls := .type "tuple", data := .seq #[.ref h.objs.size, .ref (ztH1 h l1).objs.size] }
abbrev ztH4 (h : Heap) (l1 l2 : Addr) : Heap := (ztH3 h l1 l2).push { cls := .type "tuple", data := .seq #[.none, .none] }
abbrev ztH5 (h : Heap) (l1 l2 : Addr) : Heap := (ztH4 h l1 l2).push { cls := .type "zip", data := .fields #[.none, .bool false, .bool false, .ref (ztH2 h l1 l2).objs.size, .ref (ztH3 h l1 l2).objs.size] }
theorem zipt_new (l1 l2 : Addr) (xs ys : Array Value) :
    Meets (Builtin.«zip.__new__» ⟨[.type "zip", .ref l1, .ref l2], []⟩) (fun _ R s => s.heap.IsTuple l1 xs ∧ s.heap.IsTuple l2 ys ∧
      R (.ok (.ret (.ref (ztH4 s.heap l1 l2).objs.size))) { s with heap := ztH5 s.heap l1 l2 }) :=
  .of_wp fun prog w A R s h => by
    obtain ⟨hp, g, d, tk, os⟩ := s; obtain ⟨hl1, hl2, h⟩ := h
    have hsub := sub_zip
    have hL1 : Heap.IsTuple (Shared.heap ⟨hp, g, d, tk, os⟩) l1 xs := hl1
    have hL2 : Heap.IsTuple (Shared.heap ⟨hp.push { cls := .type "tuple_iterator", data := .fields #[.ref l1, .int 0 0] }, g, d, tk, os⟩) l2 ys := Heap.IsTuple.push hl2 _
    wp_walk using wpAny_pyIter_tuple hL1, wpAny_pyIter_tuple hL2
    exact ⟨_, rfl, h⟩
section
variable {prog : Program} {w : World} {A : Around} {E : Value → Shared → Prop} {s : Shared}
theorem call_zipt {l1 l2 : Addr} {xs ys : Array Value} {Q : Value → Shared → Prop} (hl1 : s.heap.IsTuple l1 xs) (hl2 : s.heap.IsTuple l2 ys)
    (h : ∀ h' z TI TO i1 i2, ZipSt h' z TI TO i1 i2 l1 l2 xs ys .none 0 0 → ZipApart z TI TO i1 i2 l1 l2 → (∀ a ∈ [z, TI, TO, i1, i2], s.heap.objs.size ≤ a ∧ a < h'.objs.size) →
      (∀ c o, s.heap.get? c = some o → h'.get? c = some o) → Q (.ref z) { s with heap := h' }) :
    wpAny (model prog w) A (call (.type "zip") [.ref l1, .ref l2]) Q E s := by
  refine callType_new F.called_zip (by decide) (F.typeCall_zip_2 _ _) (F.newCall_zip_2 _ _) (fun obj => F.args_object_init_3 obj _ _) F.entry_zip_new
    (zipt_new l1 l2 xs ys) ⟨hl1, hl2, ?_⟩
  have z1 : (ztH1 s.heap l1).objs.size = s.heap.objs.size + 1 := Heap.size_push ..
  have z2 : (ztH2 s.heap l1 l2).objs.size = s.heap.objs.size + 2 := by rw [Heap.size_push, z1]
  have z3 : (ztH3 s.heap l1 l2).objs.size = s.heap.objs.size + 3 := by rw [Heap.size_push, z2]
  have z4 : (ztH4 s.heap l1 l2).objs.size = s.heap.objs.size + 4 := by rw [Heap.size_push, z3]
  have z5 : (ztH5 s.heap l1 l2).objs.size = s.heap.objs.size + 5 := by rw [Heap.size_push, z4]
  have g5 : (ztH5 s.heap l1 l2).get? (ztH4 s.heap l1 l2).objs.size = some _ := Heap.get?_push_size _ rfl
  have g4 : (ztH5 s.heap l1 l2).get? (ztH3 s.heap l1 l2).objs.size = some _ := Heap.get?_push_of_some _ (Heap.get?_push_size _ rfl)
  have g3 : (ztH5 s.heap l1 l2).get? (ztH2 s.heap l1 l2).objs.size = some _ := Heap.get?_push_of_some _ (Heap.get?_push_of_some _ (Heap.get?_push_size _ rfl))
  have g2 : (ztH5 s.heap l1 l2).get? (ztH1 s.heap l1).objs.size = some _ := Heap.get?_push_of_some _ (Heap.get?_push_of_some _ (Heap.get?_push_of_some _ (Heap.get?_push_size _ rfl)))
  have g1 : (ztH5 s.heap l1 l2).get? s.heap.objs.size = some _ := Heap.get?_push_of_some _ (Heap.get?_push_of_some _ (Heap.get?_push_of_some _ (Heap.get?_push_of_some _ (Heap.get?_push_size _ rfl))))
  have up : ∀ c o, s.heap.get? c = some o → (ztH5 s.heap l1 l2).get? c = some o := fun c o x =>
    Heap.get?_push_of_some _ (Heap.get?_push_of_some _ (Heap.get?_push_of_some _ (Heap.get?_push_of_some _ (Heap.get?_push_of_some _ x))))
  show _ ∧ _
  rw [z2, z3, z4] at g5
  rw [z1, z2] at g3
  rw [z3] at g4
  rw [z1] at g2
  rw [z4]
  have hlt1 : l1 < s.heap.objs.size := by obtain ⟨_, e, _⟩ := hl1; exact Heap.lt_size e
  have hlt2 : l2 < s.heap.objs.size := by obtain ⟨_, e, _⟩ := hl2; exact Heap.lt_size e
  refine ⟨⟨_, g5, rfl⟩, h _ (s.heap.objs.size + 4) (s.heap.objs.size + 2) (s.heap.objs.size + 3) s.heap.objs.size (s.heap.objs.size + 1) ⟨g5, g3, ⟨_, _, g4⟩, ⟨_, g1, rfl, rfl⟩, ⟨_, g2, rfl, rfl⟩, ?_, ?_⟩ ?_ ?_ up⟩
  · obtain ⟨o, e, r⟩ := hl1; exact ⟨o, up _ _ e, r⟩
  · obtain ⟨o, e, r⟩ := hl2; exact ⟨o, up _ _ e, r⟩
  · exact zipApart_new hlt1 hlt2
  · rw [z5]
    intro a ha
    simp only [List.mem_cons, List.not_mem_nil, or_false] at ha
    rcases ha with rfl | rfl | rfl | rfl | rfl
    · exact ⟨Nat.le_add_right _ _, Nat.add_lt_add_left (by decide) _⟩
    · exact ⟨Nat.le_add_right _ _, Nat.add_lt_add_left (by decide) _⟩
    · exact ⟨Nat.le_add_right _ _, Nat.add_lt_add_left (by decide) _⟩
    · exact ⟨Nat.le_refl _, Nat.lt_add_of_pos_right (by decide)⟩
    · exact ⟨Nat.le_add_right _ _, Nat.add_lt_add_left (by decide) _⟩
end
end
section

set_option Elab.async false
set_option maxRecDepth 100000
set_option maxHeartbeats 8000000
section
variable {prog : Program} {w : World} {A : Around} {E : Value → Shared → Prop} {s : Shared} {h₀ : Heap} {L a c P : Addr} {m mg mb : Str → Option Value} {p : Program} {loose : List Str} {mean : ExcName → Option Value}
inductive GenN (prog : Program) (w : World) (A : Around) (L : Addr) (news : List (Addr × Obj)) (a : Addr) (n : Nat) (Fv : Nat → Value → Prop) (s : Shared) : Prop
  | mk : ∀ fp wr g St, (WalksS prog w A.in4 a fp wr (GenOnlyQ g) n Fv St) → (St 0 s) → (∀ i s', St i s' → s'.TypeIs (.ref a) "generator") → (a ∈ fp) → (∀ b ∈ fp, b < s.heap.objs.size) → (∀ b ∈ wr, L < b ∧ ∀ q ∈ news, q.1 ≠ b) → GenN prog w A L news a n Fv s
def IntsA (xs : Array Value) (az : Nat → Int) : Prop := ∀ i v, xs[i]? = some v → ∃ t, v = Value.int (az i) t
inductive ZipGot (prog : Program) (w : World) (A : Around) (h₀ : Heap) (L : Addr) (m : Str → Option Value) (P : Addr) (pos : Pos) (Q : Value → Shared → Prop) : Value → Shared → Prop
  | mk : ∀ {s₁ : Shared}, ∀ z TI TO i1 i2 t1 t2 xs ys A1 B1 ps news g, (ZipSt s₁.heap z TI TO i1 i2 t1 t2 xs ys .none 0 0) → (ZipApart z TI TO i1 i2 t1 t2) → (xs.size = ys.size) → (IntsA xs A1) → (IntsA ys B1) → (Fr h₀ L s₁.heap m) → (News h₀ L s₁.heap news) → (UpdF P (tabObj ps) news g) → (TriplesOk ps.toList) → (AllBare s₁.gens) → (∀ b ∈ [z, TI, TO, i1, i2], L < b ∧ ∀ q ∈ news, q.1 ≠ b) → (t1 ≠ P) → (t2 ≠ P) → (∀ a h' tk gn ps', (ps' = ps ∧ codeAmong pos ps.toList ≠ none ∨ codeAmong pos ps.toList = none ∧ ∃ c', ps' = ps ++ #[rawInt pos.line, rawInt pos.col, .ref c']) → Fr h₀ L h' m → News h₀ L h' (g (tabObj ps')) → AllBare gn →
       GenN prog w A L (g (tabObj ps')) a xs.size (fun j v => ∃ t, v = .int (A1 j + B1 j) t) { s₁ with heap := h', toks := tk, gens := gn } → Q (.ref a) { s₁ with heap := h', toks := tk, gens := gn }) → ZipGot prog w A h₀ L m P pos Q (.ref z) s₁
theorem walksS_mono0 {I : Addr} {fp wr : List Addr} {G : Array GenState → Array GenState → Prop} {n : Nat} {Pv Pv' : Nat → Value → Prop} {St : Nat → Shared → Prop}
    (W : WalksS prog w A I fp wr G n Pv St) (h : ∀ i v, Pv i v → Pv' i v) : WalksS prog w A I fp wr G n Pv' St where
  sub := W.sub
  grefl := W.grefl
  gtrans := W.gtrans
  frame := W.frame
  item := fun i s Q E hi st hQ => W.item i s Q E hi st fun v s' hp => hQ v s' (h i v hp)
  done := W.done
  self := W.self
theorem passing_all (n : Nat) : passing (fun _ => true) n 0 = List.range n := by
  unfold passing; rw [List.drop_zero]; exact List.filter_eq_self.mpr fun _ _ => rfl
theorem updF_mem {P : Addr} {o : Obj} {news : List (Addr × Obj)} {g : Obj → List (Addr × Obj)} (U : UpdF P o news g) : (P, o) ∈ news := by
  obtain ⟨own, rest, rfl, _, _, _⟩ := U.split; exact List.mem_append_right _ (.head _)
theorem updF_addr {P : Addr} {o o' : Obj} {news : List (Addr × Obj)} {g : Obj → List (Addr × Obj)} (U : UpdF P o news g) {q : Addr × Obj} (hq : q ∈ g o') : ∃ q' ∈ news, q'.1 = q.1 := by
  obtain ⟨own, rest, rfl, hg, _, _⟩ := U.split
  rw [hg] at hq
  rcases List.mem_append.mp hq with h | h
  · exact ⟨q, List.mem_append_left _ h, rfl⟩
  · rcases List.mem_cons.mp h with rfl | h
    · exact ⟨(P, o), List.mem_append_right _ (.head _), rfl⟩
    · exact ⟨q, List.mem_append_right _ (.tail _ h), rfl⟩
theorem updF_news {h h' : Heap} {o' : Obj} {o : Obj} {news : List (Addr × Obj)} {g : Obj → List (Addr × Obj)} (N : News h₀ L h news) (U : UpdF P o news g) (hx : Heap.ExtBut P h h') (hP : h'.get? P = some o') : News h₀ L h' (g o') := fun q hq => by
  have hm := N _ (updF_mem U)
  obtain ⟨own, rest, rfl, hgr, h1, h2⟩ := U.split
  rw [hgr] at hq
  rcases List.mem_append.mp hq with hq | hq
  · have n := N q (List.mem_append_left _ hq)
    exact ⟨hx _ _ (h1 q hq) n.1, n.2⟩
  · rcases List.mem_cons.mp hq with rfl | hq
    · exact ⟨hP, hm.2⟩
    · have n := N q (List.mem_append_right _ (.tail _ hq))
      exact ⟨hx _ _ (h2 q hq) n.1, n.2⟩
theorem gexpZ {iter : Expr} {xa xb : Str} {pa pb pt p1 p2 p3 : Pos} {kt : Nat} {scope : Scope} {cl' : List (Str × Addr)} {pos : Pos} {cn : Str} {cs : Scope} {cl : List (Str × Addr)} {Q : Value → Shared → Prop} (_F : Fr h₀ L s.heap m) (T : Top p loose mean mg mb h₀) (C : CodeHd h₀ c P)
    (hh : A.handled = none) (hco : scope.isCoroutine = false) (hclos : closureFor scope (envX cn cs L a (.ref c) cl) = pure cl') (hcell : ∀ y ∈ scope.names, y.2 ≠ .cell) (h0 : scope.names.lookup (".0" : Str) = some NameKind.local)
    (hxa : scope.names.lookup xa = some .local) (hxb : scope.names.lookup xb = some .local) (hab : xa ≠ xb) (hkind : scope.kind = .function) (hroom : A.depth < recursionLimit)
    (hda : (xa == ("__debug__" : Str)) = false) (hdb : (xb == ("__debug__" : Str)) = false)
    (h : wpAny (model prog w) A (eval iter (envX cn cs L a (.ref c) cl)) (ZipGot prog w A h₀ L m P pos Q) E s)
    (hs : ∀ x, genFold iter (envX cn cs L a (.ref c) cl) x = pure x) :
    wpAny (model prog w) A (eval (.GeneratorExp (.BinOp (.Name xa p1) .Add (.Name xb p2) p3) [⟨.Tuple [.Name xa pa, .Name xb pb] kt pt, iter, [], 0⟩] scope pos) (envX cn cs L a (.ref c) cl)) Q E s := by
  refine wpAny_GeneratorExp_walksQT hh hco hclos hcell h0 hxa hxb hab hkind hroom (wpAny_mono h (fun xv s₁ h₁ => ?_) fun _ _ e => e) hs
  refine ZipGot.casesOn h₁ ?_
  clear h₁ s₁ xv
  intro s₁ z TI TO i1 i2 t1 t2 xs ys A1 B1 ps news g Z D hsz hA1 hB1 F N U htr hG hap ht1 ht2 hQ
  refine hide fun CC hCC => ?_
  have hm := N _ (updF_mem U)
  have hlim : s₁.heap.NoLimit := T.nolimit.keeps F.keep
  have hgs := T.g.keeps F.keep
  obtain ⟨bm, ob, b1, b2, b3, b4, b5, b6⟩ := T.bmain
  have hgP : mainGlobals ≠ P := fun q => by
    obtain ⟨o, es, ep, e, hd, _⟩ := hgs
    rw [q, hm.1] at e; cases e; cases hd
  have hbP : bm ≠ P := fun q => by
    have e := F.keep _ _ b3
    rw [q, hm.1] at e; cases e; cases b4
  have hcP : cStatics ≠ P := fun e => by
    obtain ⟨_, hns, _⟩ := hlim
    obtain ⟨o, es, ep, ho, hd, _⟩ := hns
    rw [e, hm.1] at ho; cases ho; cases hd
  have hcw : ∀ b ∈ [z, TI, TO, i1, i2], cStatics ≠ b := fun b hb e => by
    obtain ⟨_, hns, _⟩ := T.nolimit
    have h1 : cStatics < h₀.objs.size := hns.lt
    have h2 := (hap b hb).1
    rw [← e] at h2
    exact Nat.lt_irrefl _ (Nat.lt_of_lt_of_le (Nat.lt_trans h2 h1) F.above)
  have hPn : ∀ b ∈ [z, TI, TO, i1, i2], b ≠ P := fun b hb e => (hap b hb).2 _ (updF_mem U) e.symm
  have key : ∀ (code : Value) (h₃ : Heap) (tk₃ : Nat) (ps' : Array Value), (ps' = ps ∧ codeAmong pos ps.toList ≠ none ∨ codeAmong pos ps.toList = none ∧ ∃ c', ps' = ps ++ #[rawInt pos.line, rawInt pos.col, .ref c']) →
      Heap.ExtBut P s₁.heap h₃ → s₁.heap.objs.size ≤ h₃.objs.size → h₃.get? P = some (tabObj ps') → wpAny (model prog w) A (builtinsFor mainGlobals builtinsNs) (fun bi s₄ => ∃ I fp wr n₀ Pt St₀ Mid pz F, Value.ref z = .ref I ∧ (∀ A' : Around, A'.handled = none → WalksU prog w A' I fp wr n₀ Pt St₀ Mid) ∧ (∀ i vals, Pt i vals → ∃ va vb, vals = #[va, vb]) ∧ St₀ 0 s₄.heap ∧ (∀ b ∈ fp, b < s₄.heap.objs.size) ∧ s₄.heap.NoLimit ∧ cStatics ∉ wr ∧
          (∀ href : Heap, (∀ b o, s₄.heap.get? b = some o → href.get? b = some o) →
            QuietGenT prog w (genEnv scope cl' s₄.heap.objs.size code bi (envX cn cs L a (.ref c) cl)) xa xb [] (.BinOp (.Name xa p1) .Add (.Name xb p2) p3) (List.range s₄.heap.objs.size) wr Pt pz F href) ∧
          (∀ a h₅ tk gs, gs.bare = true → s₄.heap.objs.size < a → h₅.objs.size = a + 1 → (∀ b o, s₄.heap.get? b = some o → h₅.get? b = some o) →
            WalksS prog w A.in4 a (a :: s₄.heap.objs.size :: List.range s₄.heap.objs.size) (s₄.heap.objs.size :: wr) (GenOnlyQ s₄.gens.size) (passing pz n₀ 0).length
              (fun j y => ∃ i, (passing pz n₀ 0)[j]? = some i ∧ F i y) (GenAt prog w A.in4 a s₄.gens.size s₄.heap.objs.size (List.range s₄.heap.objs.size) wr pz n₀ F) →
            GenAt prog w A.in4 a s₄.gens.size s₄.heap.objs.size (List.range s₄.heap.objs.size) wr pz n₀ F 0 { s₄ with gens := s₄.gens.push gs, toks := tk, heap := h₅ } →
            Q (.ref a) { s₄ with gens := s₄.gens.push gs, toks := tk, heap := h₅ })) E { s₁ with heap := h₃, toks := tk₃ } := by
    intro code h₃ tk₃ ps' hps hx hge hP3
    have hl₃ : h₃.NoLimit := hlim.extBut hx hcP
    refine wpAny_builtinsFor (hgs.extBut hx hgP) b1 b2 (hx _ _ hbP (F.keep _ _ b3)) b4 b5 b6 ?_
    have inb : ∀ {b o}, s₁.heap.get? b = some o → b < h₃.objs.size := fun e => Nat.lt_of_lt_of_le (Heap.lt_size e) hge
    refine ⟨z, [z, TI, TO, i1, i2, t1, t2], [z, TO, i1, i2], xs.size, _, _, _, fun _ => true, fun j v => ∃ t, v = .int (A1 j + B1 j) t, rfl, fun A' hA' => zipt_walks hA' z TI TO i1 i2 t1 t2 D xs ys hsz, ?_, ?_, ?_, hl₃, ?_, ?_, ?_⟩
    · rintro i vals ⟨x, y, _, _, rfl⟩; exact ⟨x, y, rfl⟩
    · refine Z.keep fun b o hb e => hx b o ?_ e
      simp only [List.mem_cons, List.not_mem_nil, or_false] at hb
      rcases hb with q | q | q | q | q | q | q
      · rw [q]; exact hPn _ (by simp)
      · rw [q]; exact hPn _ (by simp)
      · rw [q]; exact hPn _ (by simp)
      · rw [q]; exact hPn _ (by simp)
      · rw [q]; exact hPn _ (by simp)
      · rw [q]; exact ht1
      · rw [q]; exact ht2
    · intro b hb
      simp only [List.mem_cons, List.not_mem_nil, or_false] at hb
      obtain ⟨hz, hTI, ⟨_, _, hTO⟩, ⟨_, h1, _⟩, ⟨_, h2, _⟩, ⟨_, h3, _⟩, ⟨_, h4, _⟩⟩ := Z
      rcases hb with q | q | q | q | q | q | q
      · rw [q]; exact inb hz
      · rw [q]; exact inb hTI
      · rw [q]; exact inb hTO
      · rw [q]; exact inb h1
      · rw [q]; exact inb h2
      · rw [q]; exact inb h3
      · rw [q]; exact inb h4
    · intro hb
      simp only [List.mem_cons, List.not_mem_nil, or_false] at hb
      rcases hb with e | e | e | e
      · exact hcw z (by simp) e
      · exact hcw TO (by simp) e
      · exact hcw i1 (by simp) e
      · exact hcw i2 (by simp) e
    · intro href _
      refine ⟨fun A' E' i va vb s₂ m₂ hA' _ _ _ _ _ => wpAny_pure ⟨rfl, s₂.heap, s₂.toks, rfl, fun _ _ e => e⟩, ?_⟩
      rintro A' E' i va vb s₂ m₂ hA' ⟨x, y, hx1, hy1, he⟩ _ hn ha hb _
      cases he
      obtain ⟨ta, rfl⟩ := hA1 i _ hx1
      obtain ⟨tb, rfl⟩ := hB1 i _ hy1
      refine wpAny_BinOp (wpAny_Name (wpAny_loadName_local hkind hxa hn ha ?_) hda)
      refine wpAny_Name (wpAny_loadName_local hkind hxb hn hb ?_) hdb
      exact wpAny_add_int ⟨⟨_, rfl⟩, _, _, rfl, fun _ _ e => e⟩
    · intro a' h₅ tk gs hgb hag hsz₅ hk₅ W hat
      have hx5 : Heap.ExtBut P s₁.heap h₅ := fun b o hb e => hk₅ _ _ (hx b o hb e)
      have hLs : L < s₁.heap.objs.size := F.ns.lt
      refine hQ a' h₅ tk _ ps' hps ⟨F.ns.extBut hx5 hm.2.1.symm, fun b o e => hx5 b o (fun q => by rw [q, hm.2.2] at e; cases e) (F.keep b o e), F.above⟩ (updF_news N U hx5 (hk₅ _ _ hP3)) (hG.push hgb) ?_
      have W' := W.imp (P' := fun j v => ∃ t, v = Value.int (A1 j + B1 j) t) (by
        rintro j v ⟨i, hi, hv⟩
        rw [passing_all] at hi
        have hj : j < (List.range xs.size).length := (List.getElem?_eq_some_iff.mp hi).1
        rw [List.getElem?_eq_getElem hj, List.getElem_range] at hi
        cases hi
        exact hv)
      rw [passing_all, List.length_range] at W'
      refine ⟨_, _, _, _, W', hat, fun i s' st => st.1.typeIs, List.mem_cons_self, ?_, ?_⟩
      · intro b hb
        show b < h₅.objs.size
        rw [hsz₅]
        rcases List.mem_cons.mp hb with hb | hb
        · rw [hb]; exact Nat.lt_succ_self _
        · rcases List.mem_cons.mp hb with hb | hb
          · rw [hb]; exact Nat.lt_succ_of_lt hag
          · exact Nat.lt_succ_of_lt (Nat.lt_trans (List.mem_range.mp hb) hag)
      · intro b hb
        rcases List.mem_cons.mp hb with hb | hb
        · rw [hb]
          refine ⟨Nat.lt_of_lt_of_le hLs hge, fun q hq e => ?_⟩
          obtain ⟨q', hq', e'⟩ := updF_addr U hq
          have := Heap.lt_size (N q' hq').1
          rw [e', e] at this
          exact Nat.lt_irrefl _ (Nat.lt_of_lt_of_le this hge)
        · have hb' : b ∈ [z, TI, TO, i1, i2] := by
            simp only [List.mem_cons, List.not_mem_nil, or_false] at hb ⊢
            rcases hb with q | q | q | q <;> simp [q]
          refine ⟨(hap b hb').1, fun q hq e => ?_⟩
          obtain ⟨q', hq', e'⟩ := updF_addr U hq
          exact (hap b hb').2 q' hq' (e'.trans e)
  refine hCC (wpAny_pyIter_zip Z.z ⟨hlim, ?_⟩)
  clear hCC
  cases hc : codeAmong pos ps.toList with
  | none => exact wpAny_genexprCodeX rfl (C.keeps F.keep |>.code hm.1 htr) (C.keeps F.keep |>.tab hm.1) hc fun c' h₃ tk₃ hx hge hlt _ _ htb _ => key _ h₃ tk₃ _ (.inr ⟨hc, _, rfl⟩) hx (Nat.le_trans hge (Nat.le_of_lt hlt)) htb.2
  | some v => exact wpAny_genexprCode_hit rfl (C.keeps F.keep |>.code hm.1 htr) hc (key v s₁.heap s₁.toks ps (.inl ⟨rfl, by rw [hc]; nofun⟩) (fun b o _ e => e) (Nat.le_refl _) hm.1)

theorem tupGen {n : Nat} {Fv : Nat → Value → Prop} {news : List (Addr × Obj)} {Q : Value → Shared → Prop} (G : GenN prog w A L news a n Fv s) (F : Fr h₀ L s.heap m) (N : News h₀ L s.heap news) (hb : AllBare s.gens)
    (hQ : ∀ T acc h' tk gn, ItemsOf Fv acc n → AllBare gn → Fr h₀ L h' m → News h₀ L h' ((T, { cls := .type "tuple", data := .seq acc }) :: news) → (∀ q ∈ news, q.1 < T) → L < T → Q (.ref T) { s with heap := h', toks := tk, gens := gn })
    (hn : n ≤ sizeLine := by size_fits) :
    wpAny (model prog w) A (call (.type "tuple") [.ref a]) Q E s := by
  obtain ⟨fp, wr, g, St, W, st, hT, ha, hfp, hwr⟩ := G
  refine call_tuple_gen (hsz := hn) W.in4_3 hT st hfp ha fun s' acc hm hacc => ?_
  have hLw : L ∉ wr := fun h => Nat.lt_irrefl _ (hwr L h).1
  have F' : Fr h₀ L s'.heap m := ⟨F.ns.at' fun o e => hm.heap _ o hLw e, fun b o e => hm.heap b o (fun h => Nat.lt_irrefl _ (Nat.lt_trans (Nat.lt_of_lt_of_le (Heap.lt_size e) F.above) (hwr b h).1)) (F.keep b o e), F.above⟩
  have N' : News h₀ L s'.heap news := fun q hq => ⟨hm.heap _ _ (fun h => (hwr _ h).2 q hq rfl) (N q hq).1, (N q hq).2⟩
  have hLT : L < s'.heap.objs.size := F'.ns.lt
  have := hQ s'.heap.objs.size acc (s'.heap.push { cls := .type "tuple", data := .seq acc }) s'.toks s'.gens hacc (hb.movedS hm) (F'.push _) ?_ (fun q hq => Heap.lt_size (N' q hq).1) hLT
  · obtain ⟨hp, gn, dr, tk, os⟩ := s'
    have e1 : dr = s.drawn := hm.drawn
    have e2 : os = s.os := hm.os
    subst e1 e2
    exact this
  · intro q hq
    rcases List.mem_cons.mp hq with rfl | hq
    · exact ⟨Heap.get?_push_size _ rfl, Nat.ne_of_gt hLT, Heap.get?_none_of_le (Nat.le_trans F'.above (Nat.le_of_lt hLT))⟩
    · exact ⟨Heap.get?_push_of_some _ (N' q hq).1, (N' q hq).2⟩
end
end
section

set_option Elab.async false
set_option maxRecDepth 100000
set_option maxHeartbeats 8000000
inductive StepG (h₀ : Heap) (L I : Addr) (o : Obj) (ro : List (Addr × Obj)) (J : (Str → Option Value) → List (Addr × Obj) → Prop) (s₁ : Shared) (f : Flow) : Shared → Prop
  | mk : ∀ h' tk gn m' news', (f = .next ∨ f = .cont) → Fr h₀ L h' m' → News h₀ L h' ((I, o) :: news') → (∀ q ∈ ro, q ∈ news') → (∀ q ∈ news', q.1 ≠ I) → AllBare gn → J m' news' → StepG h₀ L I o ro J s₁ f { s₁ with heap := h', toks := tk, gens := gn }
theorem StepG.imp {h₀ : Heap} {L I : Addr} {o : Obj} {ro : List (Addr × Obj)} {J J' : (Str → Option Value) → List (Addr × Obj) → Prop} {s₁ : Shared} {f : Flow} {s' : Shared} (h : StepG h₀ L I o ro J s₁ f s') (k : ∀ m n, J m n → J' m n) : StepG h₀ L I o ro J' s₁ f s' := by
  obtain ⟨h', tk, gn, m', news', hf, F, N, r1, r2, r3, hJ⟩ := h
  exact .mk h' tk gn m' news' hf F N r1 r2 r3 (k _ _ hJ)
section
variable {prog : Program} {w : World} {A : Around} {E : Value → Shared → Prop} {s : Shared} {env : Env} {h₀ : Heap} {target : Expr} {body : List Stmt} {Q : Flow → Shared → Prop}
inductive ForAt (h₀ : Heap) (L I : Addr) (ro : List (Addr × Obj)) (n : Nat) (St : Nat → Heap → Prop) (J : Nat → (Str → Option Value) → List (Addr × Obj) → Prop) (s : Shared) : Nat → Shared → Prop
  | mk : ∀ h' tk gn m' news' i, St i h' → Fr h₀ L h' m' → News h₀ L h' news' → (∀ q ∈ ro, q ∈ news') → (∀ q ∈ news', q.1 ≠ I) → AllBare gn → J i m' news' → i ≤ n → ForAt h₀ L I ro n St J s (n + 1 - i) { s with heap := h', toks := tk, gens := gn }
theorem forG_loop {R : Result → Shared → Prop} {I : Addr} {ro : List (Addr × Obj)} {n : Nat} {P Md : Nat → Value → Heap → Prop} {St : Nat → Heap → Prop} {m : Str → Option Value} {news : List (Addr × Obj)} (W : KTurns prog w A target I (I :: ro.map (·.1)) [I] n P Md St)
    (hIL : env.locals ≠ I) (hI0 : h₀.get? I = none) (hst : St 0 s.heap) (F : Fr h₀ env.locals s.heap m) (N : News h₀ env.locals s.heap news) (hro : ∀ q ∈ ro, q ∈ news) (hni : ∀ q ∈ news, q.1 ≠ I) (hG : AllBare s.gens)
    (hex : ∀ i h, St i h → ∃ o, h.get? I = some o)
    (J : Nat → (Str → Option Value) → List (Addr × Obj) → Prop) (h0 : J 0 m news)
    (step : ∀ i v m₁ news₁ h₁ tk₁ gn₁ o, i < n → P i v h₁ → J i m₁ news₁ → (∀ q ∈ ro, q ∈ news₁) → (∀ q ∈ news₁, q.1 ≠ I) → AllBare gn₁ → Fr h₀ env.locals h₁ m₁ → News h₀ env.locals h₁ ((I, o) :: news₁) →
      wpAny (model prog w) A (assign target env v) (fun _ s₂ => wpAny (model prog w) A (execs body env)
        (StepG h₀ env.locals I o ro (J (i + 1)) { s with heap := h₁, toks := tk₁, gens := gn₁ }) (notedBy (model prog w) A env fun e s' => R (.error e) s') s₂) (notedBy (model prog w) A env fun e s' => R (.error e) s') { s with heap := h₁, toks := tk₁, gens := gn₁ })
    (hR : ∀ h' tk gn m' news', Fr h₀ env.locals h' m' → News h₀ env.locals h' news' → (∀ q ∈ ro, q ∈ news') → AllBare gn → J n m' news' → R (.ok .next) { s with heap := h', toks := tk, gens := gn }) :
    codeAny (model prog w) A (.forLoop target (.ref I) body [] env) R s := by
  have hnw : ∀ {b}, b ≠ I → b ∉ [I] := fun h hm => h (List.mem_singleton.mp hm)
  have old : ∀ b o, h₀.get? b = some o → b ≠ I := fun b o e hb => by rw [hb, hI0] at e; cases e
  refine codeAny_forLoop_any
    (ForAt h₀ env.locals I ro n St J s) ?_ (n + 1)
    (.mk s.heap s.toks s.gens m news 0 hst F N hro hni hG h0 (Nat.zero_le _))
  intro k s' hJ0
  refine ForAt.casesOn hJ0 ?_
  clear hJ0 s' k
  intro h' tk gn m' news' i hst' F' N' hro' hni' hG' hJ hi
  have next : ∀ h₁ : Heap, (∀ b o, b ∉ [I] → h'.get? b = some o → h₁.get? b = some o) → Fr h₀ env.locals h₁ m' ∧ News h₀ env.locals h₁ news' := fun h₁ hk₁ =>
    ⟨⟨F'.ns.at' fun o e => hk₁ _ o (hnw hIL) e, fun b o e => hk₁ b o (hnw (old b o e)) (F'.keep b o e), F'.above⟩, fun p hp => ⟨hk₁ _ _ (hnw (hni' p hp)) (N' p hp).1, (N' p hp).2⟩⟩
  by_cases hlt : i < n
  · refine W.item i _ _ _ hlt hst' fun v h₁ tk₁ hMd hk₁ => ?_
    refine W.go i v _ _ _ hMd fun h₂ hP hst₂ hk₂ => ?_
    obtain ⟨F₂, N₂⟩ := next h₂ fun b o hb x => hk₂ b o hb (hk₁ b o hb x)
    obtain ⟨o, ho⟩ := hex _ _ hst₂
    have N₃ : News h₀ env.locals h₂ ((I, o) :: news') := fun p hp => by
      rcases List.mem_cons.mp hp with rfl | hp
      · exact ⟨ho, hIL.symm, hI0⟩
      · exact N₂ p hp
    refine wpAny_mono (step i v m' news' h₂ tk₁ gn o hlt hP hJ hro' hni' hG' F₂ N₃) (fun _ s₂ h₂' => wpAny_mono h₂' (fun f s₃ h₃ => ?_) fun _ _ e => e) fun _ _ e => e
    refine StepG.casesOn h₃ ?_
    clear h₃ s₃
    intro h₃' tk₃ gn₃ m₂ news₂ hf F₃ N₄ hro₃ hni₃ hG₃ hJ₃
    have fin : ∃ mm, mm < n + 1 - i ∧ ForAt h₀ env.locals I ro n St J s mm { heap := h₃', gens := gn₃, drawn := s.drawn, toks := tk₃, os := s.os } := by
      refine ⟨n + 1 - (i + 1), by omega, .mk h₃' tk₃ gn₃ m₂ news₂ (i + 1) ?_ F₃ (fun p hp => N₄ p (.tail _ hp)) hro₃ hni₃ hG₃ hJ₃ hlt⟩
      refine W.frame _ _ _ hst₂ fun b hb x e => ?_
      rcases List.mem_cons.mp hb with hb | hb
      · rw [hb, ho] at e; cases e; rw [hb]; exact (N₄ _ (.head _)).1
      · obtain ⟨q, hq, rfl⟩ := List.mem_map.mp hb
        have e1 := (N₂ q (hro' q hq)).1
        rw [e] at e1; cases e1
        exact (N₄ _ (.tail _ (hro₃ q hq))).1
    rcases hf with rfl | rfl
    · exact fin
    · exact fin
  · have hin : i = n := by omega
    rw [hin] at hJ hst'
    refine W.done _ _ _ hst' fun h₁ tk₁ hk₁ => wpAny_execs_nil ?_
    obtain ⟨F₁, N₁⟩ := next h₁ hk₁
    exact hR h₁ tk₁ gn m' news' F₁ N₁ hro' hG' hJ

inductive TurnsG (prog : Program) (w : World) (A : Around) (h₀ : Heap) (env : Env) (target : Expr) (body : List Stmt) (Q : Flow → Shared → Prop) (E : Value → Shared → Prop) : Value → Shared → Prop
  | mk : ∀ {s₂ : Shared}, ∀ (I : Addr) (ro : List (Addr × Obj)) (n : Nat) (P Md : Nat → Value → Heap → Prop) (St : Nat → Heap → Prop) (m : Str → Option Value) (news : List (Addr × Obj)) (J : Nat → (Str → Option Value) → List (Addr × Obj) → Prop), (KTurns prog w A target I (I :: ro.map (·.1)) [I] n P Md St) → (env.locals ≠ I) → (h₀.get? I = none) → (St 0 s₂.heap) → (Fr h₀ env.locals s₂.heap m) → (News h₀ env.locals s₂.heap news) → (∀ q ∈ ro, q ∈ news) → (∀ q ∈ news, q.1 ≠ I) → (AllBare s₂.gens) → (∀ i h, St i h → ∃ o, h.get? I = some o) → (J 0 m news) → (∀ i v m₁ news₁ h₁ tk₁ gn₁ o, i < n → P i v h₁ → J i m₁ news₁ → (∀ q ∈ ro, q ∈ news₁) → (∀ q ∈ news₁, q.1 ≠ I) → AllBare gn₁ → Fr h₀ env.locals h₁ m₁ → News h₀ env.locals h₁ ((I, o) :: news₁) →
      wpAny (model prog w) A (assign target env v) (fun _ s₃ => wpAny (model prog w) A (execs body env)
        (StepG h₀ env.locals I o ro (J (i + 1)) { s₂ with heap := h₁, toks := tk₁, gens := gn₁ }) E s₃) E { s₂ with heap := h₁, toks := tk₁, gens := gn₁ }) → (∀ h' tk gn m' news', Fr h₀ env.locals h' m' → News h₀ env.locals h' news' → (∀ q ∈ ro, q ∈ news') → AllBare gn → J n m' news' → Q .next { s₂ with heap := h', toks := tk, gens := gn }) → TurnsG prog w A h₀ env target body Q E (.ref I) s₂

theorem For_G {iter : Expr} {pos : Pos} {m : Str → Option Value} (_F : Fr h₀ env.locals s.heap m)
    (h : wpAny (model prog w) A (eval iter env) (fun xv s₁ => wpAny (model prog w) A (pyIter xv) (fun it s₂ => TurnsG prog w A h₀ env target body Q E it s₂) E s₁) E s)
    (hs : ∀ x, foldedSetIterable iter env x = pure x := by intro _; rfl)
    (hE : PassesOwn (model prog w) A env E := by passes_own) :
    wpAny (model prog w) A (exec (.For target iter body [] pos) env) Q E s := by
  refine wpAny_For (wpAny_mono h (fun xv s₁ h₁ => wpAny_mono h₁ (fun it s₂ h₂ => ?_) fun _ _ e => e) fun _ _ e => e) hs
  obtain ⟨I, ro, n, P, Md, St, m, news, J, W, hIL, hI0, hst, F, N, hro, hni, hG, hex, h0, step, hQ⟩ := h₂
  exact forG_loop (R := fun r s' => match r with | .ok f => Q f s' | .error e => cameBackBy (model prog w) A env E e s') W hIL hI0 hst F N hro hni hG hex J h0
    (fun i v m₁ news₁ h₁ tk₁ gn₁ o a b c d e f F₁ N₁ => wpAny_mono (step i v m₁ news₁ h₁ tk₁ gn₁ o a b c d e f F₁ N₁) (fun _ _ x => wpAny_passesOwn hE x) hE) hQ

theorem letGo_range {I : Addr} {x left st : Int} {v : Value} {Q' : Unit → Shared → Prop} {s' : Shared} (hit : IsRangeIter s'.heap I x left st) (h : Q' () s') :
    wpAny (model prog w) A (letOwnedTupleGo target (.ref I) v) Q' E s' := by
  have ho : s'.heap.get? I = some _ := hit
  unfold letOwnedTupleGo
  cases target <;> first
    | exact wpAny_pure h
    | (cases v <;> first
        | exact wpAny_pure h
        | (refine wpAny_bind (wpAny_load ho ?_)
           exact wpAny_pure h))

theorem range_G {r : Addr} {a b : Int} {t u v : Tok} {n : Nat} {news : List (Addr × Obj)} {m : Str → Option Value} (J : Nat → (Str → Option Value) → List (Addr × Obj) → Prop)
    (hh : A.handled = none) (F : Fr h₀ env.locals s.heap m) (N : News h₀ env.locals s.heap news) (hG : AllBare s.gens) (hr : IsRange s.heap r a b 1 t u v) (hsm : Builtin.Range.small a b 1 = true) (hn : Builtin.Range.rangeSize a b 1 = ((n : Nat) : Int))
    (h0 : J 0 m news)
    (step : ∀ I : Addr, (∀ q ∈ news, q.1 < I) → ∀ i t m₁ news₁ h₁ tk₁ gn₁ o, i < n → J i m₁ news₁ → (∀ q ∈ news₁, q.1 ≠ I) → AllBare gn₁ → Fr h₀ env.locals h₁ m₁ → News h₀ env.locals h₁ ((I, o) :: news₁) →
      wpAny (model prog w) A (assign target env (.int (a + (i : Int)) t)) (fun _ s₃ => wpAny (model prog w) A (execs body env)
        (StepG h₀ env.locals I o [] (J (i + 1)) { s with heap := h₁, toks := tk₁, gens := gn₁ }) E s₃) E { s with heap := h₁, toks := tk₁, gens := gn₁ })
    (fin : ∀ h' tk gn m' news', Fr h₀ env.locals h' m' → News h₀ env.locals h' news' → AllBare gn → J n m' news' → Q .next { s with heap := h', toks := tk, gens := gn }) :
    wpAny (model prog w) A (pyIter (.ref r)) (fun it s₂ => TurnsG prog w A h₀ env target body Q E it s₂) E s := by
  refine wpAny_pyIter_range hr hsm ?_
  refine ⟨s.heap.objs.size, [], n, _, _, _, m, news, J, KTurns.ofWalks (LCg.range_walks hh a n) (fun i v s Q E st q => letGo_range st q), Nat.ne_of_lt F.ns.lt, next_is_new F, ?_, F.keeps fun _ _ e => Heap.get?_push_of_some _ e, N.grown fun _ _ e => Heap.get?_push_of_some _ e, (fun _ h => nomatch h), (fun p hp => Nat.ne_of_lt (Heap.lt_size (N p hp).1)), hG, (fun i h st => ⟨_, st⟩), h0, ?_, fun h' tk gn m' news' F' N' _ hG' hJ => fin h' tk gn m' news' F' N' hG' hJ⟩
  · show IsRangeIter _ _ _ _ _; rw [hn]; simpa using Heap.get?_push_size _ rfl
  · rintro i v m₁ news₁ h₁ tk₁ gn₁ o hi ⟨t', rfl⟩ hJ _ hni hG' F₁ N₁
    exact step _ (fun p hp => Heap.lt_size (N p hp).1) i t' m₁ news₁ h₁ tk₁ gn₁ o hi hJ hni hG' F₁ N₁

variable {K : Type} [DecidableEq K] {knd : KeyKind prog w K}
theorem keys_G {d : Addr} {od : Obj} {kvs : List (K × Value)} {news : List (Addr × Obj)} {m : Str → Option Value} (J : Nat → (Str → Option Value) → List (Addr × Obj) → Prop)
    (hh : A.handled = none) (F : Fr h₀ env.locals s.heap m) (N : News h₀ env.locals s.heap news) (hG : AllBare s.gens) (hm : (d, od) ∈ news) (hd : od.IsDictOf knd kvs) (lo : (d == sysModules) = false)
    (h0 : J 0 m news)
    (step : ∀ I : Addr, (∀ q ∈ news, q.1 < I) → ∀ i k x key m₁ news₁ h₁ tk₁ gn₁ o, kvs[i]? = some (k, x) → knd.is k key = true → J i m₁ news₁ → (d, od) ∈ news₁ → (∀ q ∈ news₁, q.1 ≠ I) → AllBare gn₁ → Fr h₀ env.locals h₁ m₁ → News h₀ env.locals h₁ ((I, o) :: news₁) →
      wpAny (model prog w) A (assign target env key) (fun _ s₃ => wpAny (model prog w) A (execs body env)
        (StepG h₀ env.locals I o [(d, od)] (J (i + 1)) { s with heap := h₁, toks := tk₁, gens := gn₁ }) E s₃) E { s with heap := h₁, toks := tk₁, gens := gn₁ })
    (fin : ∀ h' tk gn m' news', Fr h₀ env.locals h' m' → News h₀ env.locals h' news' → (d, od) ∈ news' → AllBare gn → J kvs.length m' news' → Q .next { s with heap := h', toks := tk, gens := gn }) :
    wpAny (model prog w) A (pyIter (.ref d)) (fun it s₂ => TurnsG prog w A h₀ env target body Q E it s₂) E s := by
  have hax := N _ hm
  obtain ⟨ep, hat⟩ := (Heap.dictOf_iff.mpr ⟨od, hax.1, hd⟩ : s.heap.DictOf knd d kvs).dictAt
  have hne : d ≠ s.heap.objs.size := Nat.ne_of_lt hat.lt_size
  refine wpAny_pyIter_dict lo hat ?_
  refine ⟨s.heap.objs.size, [(d, od)], kvs.length, _, _, _, m, news, J, KTurns.ofWalks (Walks.dictKeys (knd := knd) hh s.heap.objs.size d hne kvs ep) (fun i v s Q E st q => letGo_keyiter st.1 q), Nat.ne_of_lt F.ns.lt, next_is_new F, ?_, F.push _, N.grown fun _ _ e => Heap.get?_push_of_some _ e, (fun q hq => by rw [List.mem_singleton.mp hq]; exact hm), (fun p hp => Nat.ne_of_lt (Heap.lt_size (N p hp).1)), hG, (fun i h st => let ⟨⟨o, e, _⟩, _⟩ := st; ⟨o, e⟩), h0, ?_, fun h' tk gn m' news' F' N' hr hG' hJ => fin h' tk gn m' news' F' N' (hr _ (.head _)) hG' hJ⟩
  · exact ⟨⟨_, Heap.get?_push_size _ rfl, rfl, rfl⟩, hat.push _⟩
  · rintro i v m₁ news₁ h₁ tk₁ gn₁ o hi ⟨k, x, hx, hk⟩ hJ hro hni hG' F₁ N₁
    exact step _ (fun p hp => Heap.lt_size (N p hp).1) i k x v m₁ news₁ h₁ tk₁ gn₁ o hx hk hJ (hro _ (.head _)) hni hG' F₁ N₁

theorem items_G {d vw : Addr} {od : Obj} {elts : List Expr} {kk : Nat} {pos : Pos} {kvs : List (K × Value)} {news : List (Addr × Obj)} {m : Str → Option Value} (J : Nat → (Str → Option Value) → List (Addr × Obj) → Prop)
    (hh : A.handled = none) (F : Fr h₀ env.locals s.heap m) (N : News h₀ env.locals s.heap news) (hG : AllBare s.gens) (hvw : s.heap.IsItemsView vw d) (hm : (d, od) ∈ news) (hd : od.IsDictOf knd kvs)
    (h0 : J 0 m news)
    (step : ∀ I : Addr, (∀ q ∈ news, q.1 < I) → ∀ i k x key T m₁ news₁ h₁ tk₁ gn₁ o, kvs[i]? = some (k, x) → knd.is k key = true → h₁.IsTuple T #[key, x] → J i m₁ news₁ → (d, od) ∈ news₁ → (∀ q ∈ news₁, q.1 ≠ I) → AllBare gn₁ → Fr h₀ env.locals h₁ m₁ → News h₀ env.locals h₁ ((I, o) :: news₁) →
      wpAny (model prog w) A (assign (.Tuple elts kk pos) env (.ref T)) (fun _ s₃ => wpAny (model prog w) A (execs body env)
        (StepG h₀ env.locals I o [(d, od)] (J (i + 1)) { s with heap := h₁, toks := tk₁, gens := gn₁ }) E s₃) E { s with heap := h₁, toks := tk₁, gens := gn₁ })
    (fin : ∀ h' tk gn m' news', Fr h₀ env.locals h' m' → News h₀ env.locals h' news' → (d, od) ∈ news' → AllBare gn → J kvs.length m' news' → Q .next { s with heap := h', toks := tk, gens := gn }) :
    wpAny (model prog w) A (pyIter (.ref vw)) (fun it s₂ => TurnsG prog w A h₀ env (.Tuple elts kk pos) body Q E it s₂) E s := by
  have hax := N _ hm
  obtain ⟨ep, hat⟩ := (Heap.dictOf_iff.mpr ⟨od, hax.1, hd⟩ : s.heap.DictOf knd d kvs).dictAt
  have hne : d ≠ s.heap.objs.size := Nat.ne_of_lt hat.lt_size
  refine wpAny_pyIter_items hvw hat ?_
  refine ⟨s.heap.objs.size, [(d, od)], kvs.length, _, _, _, m, news, J, kti_itemsTurns (knd := knd) hh s.heap.objs.size d hne kvs ep, Nat.ne_of_lt F.ns.lt, next_is_new F, ?_, F.push _, N.grown fun _ _ e => Heap.get?_push_of_some _ e, (fun q hq => by rw [List.mem_singleton.mp hq]; exact hm), (fun p hp => Nat.ne_of_lt (Heap.lt_size (N p hp).1)), hG, (fun i h st => let ⟨⟨_, _, e⟩, _⟩ := st; ⟨_, e⟩), h0, ?_, fun h' tk gn m' news' F' N' hr hG' hJ => fin h' tk gn m' news' F' N' (hr _ (.head _)) hG' hJ⟩
  · exact ⟨⟨.none, .none, Heap.get?_push_size _ rfl⟩, hat.push _⟩
  · rintro i v m₁ news₁ h₁ tk₁ gn₁ o hi ⟨T, key, k, x, rfl, hx, hk, hT⟩ hJ hro hni hG' F₁ N₁
    exact step _ (fun p hp => Heap.lt_size (N p hp).1) i k x key T m₁ news₁ h₁ tk₁ gn₁ o hx hk hT hJ (hro _ (.head _)) hni hG' F₁ N₁
theorem items1_G {d vw : Addr} {od : Obj} {elts : List Expr} {kk : Nat} {pos : Pos} {k : K} {x : Value} {news : List (Addr × Obj)} {m : Str → Option Value} (Done : (Str → Option Value) → List (Addr × Obj) → Prop)
    (hh : A.handled = none) (F : Fr h₀ env.locals s.heap m) (N : News h₀ env.locals s.heap news) (hG : AllBare s.gens) (hvw : s.heap.IsItemsView vw d) (hm : (d, od) ∈ news) (hd : od.IsDictOf knd [(k, x)])
    (step : ∀ I : Addr, (∀ q ∈ news, q.1 < I) → ∀ key T h₁ tk₁ gn₁ o, knd.is k key = true → h₁.IsTuple T #[key, x] → AllBare gn₁ → Fr h₀ env.locals h₁ m → News h₀ env.locals h₁ ((I, o) :: news) →
      wpAny (model prog w) A (assign (.Tuple elts kk pos) env (.ref T)) (fun _ s₃ => wpAny (model prog w) A (execs body env)
        (StepG h₀ env.locals I o [(d, od)] Done { s with heap := h₁, toks := tk₁, gens := gn₁ }) E s₃) E { s with heap := h₁, toks := tk₁, gens := gn₁ })
    (fin : ∀ h' tk gn m' news', Fr h₀ env.locals h' m' → News h₀ env.locals h' news' → AllBare gn → Done m' news' → Q .next { s with heap := h', toks := tk, gens := gn }) :
    wpAny (model prog w) A (pyIter (.ref vw)) (fun it s₂ => TurnsG prog w A h₀ env (.Tuple elts kk pos) body Q E it s₂) E s := by
  refine items_G (fun i m₁ news₁ => (i = 0 ∧ m₁ = m ∧ news₁ = news) ∨ (i = 1 ∧ Done m₁ news₁)) hh F N hG hvw hm hd (.inl ⟨rfl, rfl, rfl⟩) ?_ ?_
  · intro I hI i k' x' key T m₁ news₁ h₁ tk₁ gn₁ o hx hk hT hJ _ _ hG' F₁ N₁
    have hi : i = 0 := by
      have : i < [(k, x)].length := (List.getElem?_eq_some_iff.mp hx).1
      simpa using this
    subst hi
    cases hx
    rcases hJ with ⟨_, rfl, rfl⟩ | ⟨h, _⟩
    · refine wpAny_mono (step I hI key T h₁ tk₁ gn₁ o hk hT hG' F₁ N₁) (fun _ _ x => wpAny_mono x (fun f s' x => x.imp fun _ _ hD => .inr ⟨rfl, hD⟩) fun _ _ x => x) fun _ _ x => x
    · cases h
  · rintro h' tk gn m' news' F' N' _ hG' (⟨h, _⟩ | ⟨_, hD⟩)
    · cases h
    · exact fin h' tk gn m' news' F' N' hG' hD
theorem keys1_G {d : Addr} {od : Obj} {k : K} {x : Value} {news : List (Addr × Obj)} {m : Str → Option Value} (Done : (Str → Option Value) → List (Addr × Obj) → Prop)
    (hh : A.handled = none) (F : Fr h₀ env.locals s.heap m) (N : News h₀ env.locals s.heap news) (hG : AllBare s.gens) (hm : (d, od) ∈ news) (hd : od.IsDictOf knd [(k, x)]) (lo : (d == sysModules) = false)
    (step : ∀ I : Addr, (∀ q ∈ news, q.1 < I) → ∀ key h₁ tk₁ gn₁ o, knd.is k key = true → AllBare gn₁ → Fr h₀ env.locals h₁ m → News h₀ env.locals h₁ ((I, o) :: news) →
      wpAny (model prog w) A (assign target env key) (fun _ s₃ => wpAny (model prog w) A (execs body env)
        (StepG h₀ env.locals I o [(d, od)] Done { s with heap := h₁, toks := tk₁, gens := gn₁ }) E s₃) E { s with heap := h₁, toks := tk₁, gens := gn₁ })
    (fin : ∀ h' tk gn m' news', Fr h₀ env.locals h' m' → News h₀ env.locals h' news' → AllBare gn → Done m' news' → Q .next { s with heap := h', toks := tk, gens := gn }) :
    wpAny (model prog w) A (pyIter (.ref d)) (fun it s₂ => TurnsG prog w A h₀ env target body Q E it s₂) E s := by
  refine keys_G (fun i m₁ news₁ => (i = 0 ∧ m₁ = m ∧ news₁ = news) ∨ (i = 1 ∧ Done m₁ news₁)) hh F N hG hm hd lo (.inl ⟨rfl, rfl, rfl⟩) ?_ ?_
  · intro I hI i k' x' key m₁ news₁ h₁ tk₁ gn₁ o hx hk hJ _ _ hG' F₁ N₁
    have hi : i = 0 := by
      have : i < [(k, x)].length := (List.getElem?_eq_some_iff.mp hx).1
      simpa using this
    subst hi
    cases hx
    rcases hJ with ⟨_, rfl, rfl⟩ | ⟨h, _⟩
    · refine wpAny_mono (step I hI key h₁ tk₁ gn₁ o hk hG' F₁ N₁) (fun _ _ x => wpAny_mono x (fun f s' x => x.imp fun _ _ hD => .inr ⟨rfl, hD⟩) fun _ _ x => x) fun _ _ x => x
    · cases h
  · rintro h' tk gn m' news' F' N' _ hG' (⟨h, _⟩ | ⟨_, hD⟩)
    · cases h
    · exact fin h' tk gn m' news' F' N' hG' hD
theorem keys0_G {d : Addr} {od : Obj} {news : List (Addr × Obj)} {m : Str → Option Value}
    (hh : A.handled = none) (F : Fr h₀ env.locals s.heap m) (N : News h₀ env.locals s.heap news) (hG : AllBare s.gens) (hm : (d, od) ∈ news) (hd : od.IsDictOf knd []) (lo : (d == sysModules) = false)
    (fin : ∀ h' tk gn, Fr h₀ env.locals h' m → News h₀ env.locals h' news → AllBare gn → Q .next { s with heap := h', toks := tk, gens := gn }) :
    wpAny (model prog w) A (pyIter (.ref d)) (fun it s₂ => TurnsG prog w A h₀ env target body Q E it s₂) E s := by
  refine keys_G (fun i m₁ news₁ => m₁ = m ∧ news₁ = news) hh F N hG hm hd lo ⟨rfl, rfl⟩ ?_ ?_
  · intro I hI i k' x' key m₁ news₁ h₁ tk₁ gn₁ o hx
    cases hx
  · rintro h' tk gn m' news' F' N' _ hG' ⟨rfl, rfl⟩
    exact fin h' tk gn F' N' hG'
end
theorem news_sub {h₀ h : Heap} {L : Addr} {l l' : List (Addr × Obj)} (N : News h₀ L h l) (hs : SubL l' l) : News h₀ L h l' := fun q hq => N q (hs.mem q hq)
theorem stepG_next {h₀ : Heap} {L I : Addr} {o : Obj} {ro : List (Addr × Obj)} {J : (Str → Option Value) → List (Addr × Obj) → Prop} {s₁ : Shared} {h' : Heap} {tk : Nat} {gn : Array GenState} {m' : Str → Option Value} {news' : List (Addr × Obj)}
    (F : Fr h₀ L h' m') (N : News h₀ L h' ((I, o) :: news')) (hr : ∀ q ∈ ro, q ∈ news') (hi : ∀ q ∈ news', q.1 ≠ I) (hG : AllBare gn) (hJ : J m' news') :
    StepG h₀ L I o ro J s₁ .next { s₁ with heap := h', toks := tk, gens := gn } := .mk h' tk gn m' news' (.inl rfl) F N hr hi hG hJ
end
section

set_option Elab.async false
set_option maxRecDepth 100000
set_option maxHeartbeats 8000000
/-- a turn's start: its end, and what of the state stands still, as names -/
theorem step_hide {prog : Program} {w : World} {A : Around} {t : Sem Unit} {body : List Stmt} {env : Env} {h₀ : Heap} {L I : Addr} {o : Obj} {ro : List (Addr × Obj)} {J : (Str → Option Value) → List (Addr × Obj) → Prop} {E : Value → Shared → Prop} {s : Shared} {h₁ : Heap} {tk₁ : Nat} {gn₁ : Array GenState}
    (H : ∀ (Q' : Flow → Shared → Prop) d os, (∀ {h' tk gn m' news'}, Fr h₀ L h' m' → News h₀ L h' ((I, o) :: news') → (∀ q ∈ ro, q ∈ news') → (∀ q ∈ news', q.1 ≠ I) → AllBare gn → J m' news' → Q' .next ⟨h', gn, d, tk, os⟩) →
      wpAny (model prog w) A t (fun _ s₃ => wpAny (model prog w) A (execs body env) Q' E s₃) E ⟨h₁, gn₁, d, tk₁, os⟩) :
    wpAny (model prog w) A t (fun _ s₃ => wpAny (model prog w) A (execs body env) (StepG h₀ L I o ro J { s with heap := h₁, toks := tk₁, gens := gn₁ }) E s₃) E { s with heap := h₁, toks := tk₁, gens := gn₁ } :=
  H _ s.drawn s.os fun F N hr hi hG hJ => stepG_next F N hr hi hG hJ
end
section

set_option Elab.async false
set_option maxRecDepth 100000
set_option maxHeartbeats 8000000
/-- the table of add_callers' code objects -/
abbrev tabP : Addr := 79
def ConG (w : World) (p : Program) (loose : List Str) (mean : ExcName → Option Value) (mg mb : Str → Option Value) (f : Addr) (k : Nat) (vs : List Value) (led : List (Addr × Obj)) (R : Value → List (Addr × Obj) → Prop) : Prop :=
  ∀ (dp un : Nat) (gd : Option (List Code)) (cn : Str) (cs : Scope) (a : Addr) (ccd : Value) (cl : List (Str × Addr)) (outer : List Env) (A₀ : Around) (base h₀ : Heap) (L : Addr) (m : Str → Option Value) (ps : Array Value) (s : Shared) (Q E : Value → Shared → Prop),
    Below A₀ base outer h₀ → Fr h₀ L s.heap m → (hd.heap_1 w.params).In h₀ → News h₀ L s.heap ((tabP, tabObj ps) :: led) → Top p loose mean mg mb h₀ → cs.kind = .function →
    dp + k < recursionLimit → un + 8 * k < cLine → TriplesOk ps.toList → AllBare s.gens → (∀ q ∈ led, q.1 ≠ tabP) →
    (∀ (v : Value) (h' : Heap) (tk' : Nat) (gn' : Array GenState) (ps' : Array Value) (tl : List (Addr × Obj)), R v tl → Fr h₀ L h' m → News h₀ L h' ((tabP, tabObj ps') :: tl) → (∀ b o, b ≠ tabP → s.heap.get? b = some o → h'.get? b = some o) → (∀ p ∈ tl, s.heap.get? p.1 = none) →
      TriplesOk ps'.toList → AllBare gn' → Q v { s with heap := h', toks := tk', gens := gn' }) →
    wpAny (model PySem.Challenge.rw_zn0010_01.row.prog w) (ktrTop dp un gd cn cs L a ccd cl outer) (call (.ref f) vs) Q E s
theorem ConG.use {w : World} {p : Program} {loose : List Str} {mean : ExcName → Option Value} {mg mb : Str → Option Value} {f : Addr} {k : Nat} {vs : List Value} {news led : List (Addr × Obj)} {R : Value → List (Addr × Obj) → Prop}
    {dp un : Nat} {gd : Option (List Code)} {cn : Str} {cs : Scope} {a : Addr} {ccd : Value} {cl : List (Str × Addr)} {outer : List Env} {A₀ : Around} {base h₀ : Heap} {L : Addr} {m : Str → Option Value} {ps : Array Value} {g : Obj → List (Addr × Obj)} {s : Shared} {Q E : Value → Shared → Prop}
    (C : ConG w p loose mean mg mb f k vs led R) (B : Below A₀ base outer h₀) (F : Fr h₀ L s.heap m) (X : (hd.heap_1 w.params).In h₀) (N : News h₀ L s.heap news) (T : Top p loose mean mg mb h₀) (hk : cs.kind = .function)
    (hd : dp + k < recursionLimit) (hu : un + 8 * k < cLine) (U : UpdF tabP (tabObj ps) news g) (hl : ∀ q ∈ led, q ∈ news) (hne : ∀ q ∈ led, q.1 ≠ tabP) (ht : TriplesOk ps.toList) (hG : AllBare s.gens)
    (ret : ∀ (v : Value) (h' : Heap) (tk' : Nat) (gn' : Array GenState) (ps' : Array Value) (tl : List (Addr × Obj)), R v tl → Fr h₀ L h' m → News h₀ L h' (tl ++ g (tabObj ps')) → (∀ p ∈ tl, ∀ q ∈ g (tabObj ps'), q.1 ≠ p.1) → TriplesOk ps'.toList → AllBare gn' → Q v { s with heap := h', toks := tk', gens := gn' }) :
    wpAny (model PySem.Challenge.rw_zn0010_01.row.prog w) (ktrTop dp un gd cn cs L a ccd cl outer) (call (.ref f) vs) Q E s :=
  C _ _ _ _ _ _ _ _ _ _ _ _ _ _ _ _ _ _ B F X (fun q hq => by
    rcases List.mem_cons.mp hq with rfl | hq
    · exact N _ (updF_mem U)
    · exact N q (hl q hq)) T hk hd hu ht hG hne fun v h' tk' gn' ps' tl hr F' N' kp fr ht' hG' => by
    have N2 : News h₀ L h' (g (tabObj ps')) := updF_news N U (fun b o hb e => kp b o hb e) (N' _ (.head _)).1
    refine ret v h' tk' gn' ps' tl hr F' (fun q hq => (List.mem_append.mp hq).elim (fun h => N' q (.tail _ h)) (N2 q)) (fun p hp q hq e => ?_) ht' hG'
    obtain ⟨q', hq', e'⟩ := updF_addr U hq
    have := fr p hp
    rw [← e, ← e', (N q' hq').1] at this
    cases this
theorem con_endG {h g h' h₀ : Heap} {L L' : Addr} {m' : Str → Option Value} {ps ps' : Array Value} {tl led all : List (Addr × Obj)} (G : GSub h g (((tabP, tabObj ps) :: led).map (·.1))) (N0 : News h₀ L h ((tabP, tabObj ps) :: led)) (F' : Fr g L' h' m') (N' : News g L' h' all)
    (hl : ∀ p ∈ led, p ∈ all) (ht : ∀ p ∈ tl, p ∈ all) (hne : ∀ p ∈ tl, ∀ q ∈ (tabP, tabObj ps) :: led, q.1 ≠ p.1) :
    (∀ b o, b ≠ tabP → h.get? b = some o → h'.get? b = some o) ∧ (∀ p ∈ tl, h.get? p.1 = none) := by
  refine ⟨fun b o hbP e => ?_, fun p hp => ?_⟩
  · by_cases hb : b ∈ ((tabP, tabObj ps) :: led).map (·.1)
    · obtain ⟨q, hq, rfl⟩ := List.mem_map.mp hb
      have h1 := (N0 q hq).1
      rw [e] at h1
      rw [Option.some.inj h1]
      rcases List.mem_cons.mp hq with rfl | hq
      · exact absurd rfl hbP
      · exact (N' q (hl q hq)).1
    · exact F'.keep b o (G b o e hb)
  · cases e : h.get? p.1 with
    | none => rfl
    | some o =>
      by_cases hb : p.1 ∈ ((tabP, tabObj ps) :: led).map (·.1)
      · obtain ⟨q, hq, he⟩ := List.mem_map.mp hb
        exact absurd he (hne p hp q hq)
      · have := G _ _ e hb
        rw [(N' p (ht p hp)).2.2] at this; cases this
end
section

set_option Elab.async false
set_option maxRecDepth 100000
set_option maxHeartbeats 8000000
section
variable {prog : Program} {w : World} {A : Around} {E : Value → Shared → Prop} {s : Shared} {h₀ : Heap} {L a c P : Addr} {m mg mb : Str → Option Value}
def sum3 (x y : List Int) (j : Nat) (v : Value) : Prop := ∃ t, v = .int (x.getD j 0 + y.getD j 0) t
theorem zip_call {A' : Around} {l1 l2 : Addr} {x0 x1 x2 y0 y1 y2 : Int} {u0 u1 u2 v0 v1 v2 : Tok} {c1 c2 : Nat} {news : List (Addr × Obj)} {g : Obj → List (Addr × Obj)} {ps : Array Value} {pos : Pos} {Q : Value → Shared → Prop}
    (F : Fr h₀ L s.heap m) (N : News h₀ L s.heap news) (U : UpdF P (tabObj ps) news g) (ht : TriplesOk ps.toList) (hG : AllBare s.gens)
    (h1 : (l1, tup [.int x0 u0, .int x1 u1, .int x2 u2] c1) ∈ news) (h2 : (l2, tup [.int y0 v0, .int y1 v1, .int y2 v2] c2) ∈ news)
    (h : ∀ a h' tk gn ps', TriplesOk ps'.toList → Fr h₀ L h' m → News h₀ L h' (g (tabObj ps')) → AllBare gn → GenN prog w A' L (g (tabObj ps')) a 3 (sum3 [x0, x1, x2] [y0, y1, y2]) { s with heap := h', toks := tk, gens := gn } →
      Q (.ref a) { s with heap := h', toks := tk, gens := gn }) :
    wpAny (model prog w) A (call (.type "zip") [.ref l1, .ref l2]) (ZipGot prog w A' h₀ L m P pos Q) E s := by
  have i1 : s.heap.IsTuple l1 #[.int x0 u0, .int x1 u1, .int x2 u2] := ⟨_, (N _ h1).1, rfl, _, rfl⟩
  have i2 : s.heap.IsTuple l2 #[.int y0 v0, .int y1 v1, .int y2 v2] := ⟨_, (N _ h2).1, rfl, _, rfl⟩
  have hP := N _ (updF_mem U)
  refine call_zipt i1 i2 fun h' z TI TO j1 j2 Z D hb hk => ?_
  refine ⟨z, TI, TO, j1, j2, l1, l2, _, _, fun j => [x0, x1, x2].getD j 0, fun j => [y0, y1, y2].getD j 0, ps, news, g, Z, D, rfl, ?_, ?_, F.keeps hk, N.grown hk, U, ht, hG, ?_, ?_, ?_, ?_⟩
  · intro i v e
    rcases i with _ | _ | _ | i
    · cases e; exact ⟨_, rfl⟩
    · cases e; exact ⟨_, rfl⟩
    · cases e; exact ⟨_, rfl⟩
    · simp at e
  · intro i v e
    rcases i with _ | _ | _ | i
    · cases e; exact ⟨_, rfl⟩
    · cases e; exact ⟨_, rfl⟩
    · cases e; exact ⟨_, rfl⟩
    · simp at e
  · intro b hb'
    have hl := (hb b hb').1
    exact ⟨Nat.lt_of_lt_of_le F.ns.lt hl, fun q hq e => Nat.lt_irrefl _ (Nat.lt_of_lt_of_le (Heap.lt_size (N q hq).1) (e ▸ hl))⟩
  · intro e
    have := (N _ h1).1
    rw [show (l1, tup [Value.int x0 u0, .int x1 u1, .int x2 u2] c1).1 = P from e, hP.1] at this
    cases this
  · intro e
    have := (N _ h2).1
    rw [show (l2, tup [Value.int y0 v0, .int y1 v1, .int y2 v2] c2).1 = P from e, hP.1] at this
    cases this
  · intro a h'' tk gn ps' hps F' N' hG' hgen
    refine h a h'' tk gn ps' ?_ F' N' hG' hgen
    rcases hps with ⟨rfl, _⟩ | ⟨_, c', rfl⟩
    · exact ht
    · rw [show (ps ++ #[rawInt pos.line, rawInt pos.col, Value.ref c']).toList = ps.toList ++ [rawInt pos.line, rawInt pos.col, .ref c'] by simp]
      exact TriplesOk_snoc _ _ _ _ ht
theorem tupGen3 {x0 x1 x2 y0 y1 y2 : Int} {news : List (Addr × Obj)} {Q : Value → Shared → Prop} (G : GenN prog w A L news a 3 (sum3 [x0, x1, x2] [y0, y1, y2]) s) (F : Fr h₀ L s.heap m) (N : News h₀ L s.heap news) (hb : AllBare s.gens)
    (hQ : ∀ T t0 t1 t2 h' tk gn, AllBare gn → Fr h₀ L h' m → News h₀ L h' ((T, tup [.int (x0 + y0) t0, .int (x1 + y1) t1, .int (x2 + y2) t2]) :: news) → (∀ q ∈ news, q.1 < T) → Q (.ref T) { s with heap := h', toks := tk, gens := gn }) :
    wpAny (model prog w) A (call (.type "tuple") [.ref a]) Q E s := by
  refine tupGen (hn := by size_fits) G F N hb fun T acc h' tk gn hacc hG' F' N' hl _ => ?_
  obtain ⟨hs, hv⟩ := hacc
  obtain ⟨l⟩ := acc
  obtain ⟨p, q, r, rfl⟩ := len3 hs
  obtain ⟨t0, rfl⟩ := hv 0 p rfl
  obtain ⟨t1, rfl⟩ := hv 1 q rfl
  obtain ⟨t2, rfl⟩ := hv 2 r rfl
  exact hQ T t0 t1 t2 h' tk gn hG' F' N' hl
end
end
local macro_rules | `(tactic| k_all) => `(tactic| first | exact List.forall_mem_nil _ | (with_reducible assumption) | (refine' List.forall_mem_cons.mpr ⟨?a, ?b⟩; (case a => k_ne); (case b => k_all)))
section

set_option Elab.async false
set_option maxRecDepth 100000
set_option maxHeartbeats 8000000
theorem code_add {w : World} {h : Heap} (X : (hd.heap_1 w.params).In h) : CodeHd h 83 tabP :=
  ⟨_, _, _, _, _, _, _, _, _, X 83 _ rfl, rfl, rfl, rfl, rfl, rfl, rfl, rfl, rfl, by decide⟩
inductive AddOut1 (w : World) (x : Str) (a0 a1 a2 : Int) : Value → List (Addr × Obj) → Prop
  | mk : ∀ D o t, ∀ t0 t1 t2 c, (o.IsDictOf (strKind PySem.Challenge.rw_zn0010_01.row.prog w) [(x, .ref t)]) → ((D == sysModules) = false) → AddOut1 w x a0 a1 a2 (.ref D) ([(D, o), (t, tup [.int a0 t0, .int a1 t1, .int a2 t2] c)])
inductive AddDone (w : World) (x : Str) (a0 a1 a2 : Int) (led : List (Addr × Obj)) (m : Str → Option Value) : List (Addr × Obj) → Prop
  | mk : ∀ D o t t0 t1 t2 c ps, (m "new_callers" = some (.ref D)) → (o.IsDictOf (strKind PySem.Challenge.rw_zn0010_01.row.prog w) [(x, .ref t)]) → ((D == sysModules) = false) → (TriplesOk ps.toList) → (∀ q ∈ (tabP, tabObj ps) :: led, q.1 ≠ D) → (∀ q ∈ (tabP, tabObj ps) :: led, q.1 ≠ t) → AddDone w x a0 a1 a2 led m ((D, o) :: (t, tup [.int a0 t0, .int a1 t1, .int a2 t2] c) :: (tabP, tabObj ps) :: led)
set_option hygiene false in
local macro_rules | `(tactic| walk_at "exec For Tuple Call cons nil") => `(tactic| (
  with_reducible show wpAny _ _ (exec (Stmt.For _ (Expr.Call (Expr.Attribute (Expr.Name (Str.ofString "source") _) _ _) _ _ _) _ _ _) _) _ _ _
  rename Fr _ _ _ _ => lF'
  rename News _ _ _ _ => lN'
  with_unfolding_all (
    refine' For_G lF' ?_
    k_whole
    refine MethodCall_ ?_
    refine ld lF' (by rfl) ?_
    refine kdl_method (knd := PySem.strKind _ _) PySem.F.slot_dict_items PySem.F.type_dict_items lN' (by k_mem) (by k_asm) ?_
    refine callWith_method0 ?_
    refine kta_callItems (knd := PySem.strKind _ _) lF' lN' (by k_mem) (by k_asm) (by k_asm) ?_
    intro h8 hv8 F8 N8
    clear lF' lN'
    refine items1_G (AddDone w x (b0 + a0) (b1 + a1) (b2 + a2) [(Ta, oT), (Sa, oS), (t0, tup [.int a0 u0, .int a1 u1, .int a2 u2] n0), (t1, tup [.int b0 v0, .int b1 v1, .int b2 v2] n1)]) (by rfl) F8 N8 hG hv8 (by k_mem) hS ?_ ?_
    focus (intro I8 lI8 key8 T8 h88 tk88 gn88 o88 hk88 hT88 hG88 F88 N88; obtain ⟨t88, rfl⟩ := Value.isStrOf_shape hk88; (try k_lt lI8))
    rotate_left
    focus (intro h88 tk88 gn88 m88 news88 F88 N88 hG88 o88; revert N88; refine AddDone.casesOn o88 ?_; clear o88 news88; intro D8 o8 t8 t08 t18 t28 c8 ps8 hm8 hD8 lo8 hps8 hapD8 hapt8 N88)
    rotate_right)))
set_option hygiene false in
local macro_rules | `(tactic| walk_at "eval GeneratorExp") => `(tactic| (k_dflt (
  refine' gexpZ ?F T' C ?hh ?hco ?hcl ?hce ?h0 ?hxa ?hxb ?hab ?hk ?hr ?da ?db ?_ ?hs
  case F => k_asm
  case hh => exact rfl
  case hco => exact rfl
  case hcl => exact rfl
  case hce => decide
  case h0 => exact rfl
  case hxa => exact rfl
  case hxb => exact rfl
  case hab => decide
  case hk => exact rfl
  case hr => first | ktr_room | k_room
  case da => exact rfl
  case db => exact rfl
  case hs => exact fun _ => rfl)))
set_option hygiene false in
local macro_rules | `(tactic| walk_at "call type:zip") => `(tactic| (k_dflt (
  refine' zip_call ?F ?N ?U hps hG88 ?h1 ?h2 ?_
  case F => k_asm
  case N => k_asm
  case U => k_updF
  case h1 => k_mem
  case h2 => k_mem
  intro a9 h9 tk9 gn9 ps9 hps9 F9 N9 hG9 hgen9
  try dsimp only at N9 hgen9)))
set_option hygiene false in
local macro_rules | `(tactic| walk_at "call type:tuple") => `(tactic| (k_dflt (
  refine' tupGen3 hgen9 ?F ?N hG9 ?_
  case F => k_asm
  case N => k_asm
  intro T99 t099 t199 t299 h99 tk99 gn99 hG99 F99 N99 l99
  try k_lt l99)))
theorem ne_two {D t : Addr} {oD ot : Obj} {ps ps' : Array Value} {led : List (Addr × Obj)} (h1 : ∀ q ∈ (tabP, tabObj ps') :: led, q.1 ≠ D) (h2 : ∀ q ∈ (tabP, tabObj ps') :: led, q.1 ≠ t) :
    ∀ p ∈ [(D, oD), (t, ot)], ∀ q ∈ (tabP, tabObj ps) :: led, q.1 ≠ p.1 := by
  have h1' : ∀ q ∈ (tabP, tabObj ps) :: led, q.1 ≠ D := fun q hq => by
    rcases List.mem_cons.mp hq with rfl | hq
    · exact h1 (tabP, tabObj ps') (.head _)
    · exact h1 q (.tail _ hq)
  have h2' : ∀ q ∈ (tabP, tabObj ps) :: led, q.1 ≠ t := fun q hq => by
    rcases List.mem_cons.mp hq with rfl | hq
    · exact h2 (tabP, tabObj ps') (.head _)
    · exact h2 q (.tail _ hq)
  intro p hp
  rcases List.mem_cons.mp hp with rfl | hp
  · exact h1'
  · rw [List.mem_singleton.mp hp]; exact h2'
theorem va1 {K : Type} [DecidableEq K] {k : K} {v : Value} : valueAt [(k, v)] k = some v := by simp [valueAt]
theorem st1 {K : Type} [DecidableEq K] {k : K} {v v' : Value} : stored [(k, v)] k v' = [(k, v')] := by simp [stored]
theorem st0 {K : Type} [DecidableEq K] {k : K} {v' : Value} : stored [] k v' = [(k, v')] := by simp [stored]
local macro_rules | `(tactic| walk_at "compareOp In str ref") => `(tactic| (k_dflt (refine kda_in (knd := PySem.strKind _ _) (by k_asm) (by k_mem) (by k_asm) (by k_asm) (strKind_is _ _ _ _) true (by rw [va1]; rfl) ?_)))
local macro_rules | `(tactic| walk_at "subscriptTail") => `(tactic| (k_dflt (refine kda_item (knd := PySem.strKind _ _) (by k_asm) (by k_mem) (by k_asm) (strKind_is _ _ _ _) va1 ?_)))
local macro_rules | `(tactic| walk_at "eval Name") => `(tactic| (k_dflt (refine ld (by k_asm) (by with_reducible assumption) ?_)))
theorem add1_con {w p loose mean mg mb} {Ta Sa t0 t1 : Addr} {x : Str} {oT oS : Obj} {a0 a1 a2 b0 b1 b2 : Int} {u0 u1 u2 v0 v1 v2 : Tok} {n0 n1 : Nat}
    (hT : oT.IsDictOf (strKind PySem.Challenge.rw_zn0010_01.row.prog w) [(x, .ref t0)]) (hS : oS.IsDictOf (strKind PySem.Challenge.rw_zn0010_01.row.prog w) [(x, .ref t1)])
    (lT : (Ta == sysModules) = false) (lS : (Sa == sysModules) = false) :
    ConG w p loose mean mg mb 84 2 [.ref Ta, .ref Sa] [(Ta, oT), (Sa, oS), (t0, tup [.int a0 u0, .int a1 u1, .int a2 u2] n0), (t1, tup [.int b0 v0, .int b1 v1, .int b2 v2] n1)] (AddOut1 w x (b0 + a0) (b1 + a1) (b2 + a2)) := by
  (unfold ConG; k_fill; intro dp un gd cn cs a ccd cl outer A₀ base h₀ L m ps s Q E B F X N T hk hd hu hps hG hne hret; refine wpAny_call ?_; (refine' code_defG ?k1 ?k2 ?k3 N ?k5 ?kA ?kF ?kK ?k6 ?k7 ?k8 ?k9 ?kB ?_ ?c2 ?c3 ?c4 ?c5; (case kA => exact rfl); (case kF => exact rfl); (case kK => assumption); (case k1 => k_asm); (case k2 => k_asm); (case k3 => k_asm); (case k5 => k_asm); (case k6 => k_is); (case k7 => k_is); (case k8 => ktr_room); (case k9 => exact BindsTo.of_eq rfl); (case c5 => decide); (case kB => exact locs rfl); (case c2 => exact rfl); (case c3 => exact rfl); (case c4 => exact rfl); k_whole; intro g L' h' FG' F' N' B' X' T' GS; (try dsimp only); (try k_fold)))
  have C := code_add X'
  have e1 : @Ne Nat Ta tabP := hne _ (.head _)
  have e2 : @Ne Nat Sa tabP := hne _ (.tail _ (.head _))
  have e3 : @Ne Nat t0 tabP := hne _ (.tail _ (.tail _ (.head _)))
  have e4 : @Ne Nat t1 tabP := hne _ (.tail _ (.tail _ (.tail _ (.head _))))
  k_steps
  · rename News _ _ _ _ => N7
    rename Fr _ _ _ _ => F7
    rename Obj.IsDictOf _ _ _ => hd7
    rw [st1] at hd7
    refine' stepG_next F7 ?n ?r ?i hG99 ⟨_, _, T99, t099, t199, t299, 0, ps9, rfl, hd7, ?lo, hps9, ?ap, ?aq⟩
    case lo => assumption
    case n => exact news_sub N7 (by k_subL)
    case r => intro q hq; rw [List.mem_singleton.mp hq]; k_mem
    case i => k_all
    case ap => k_all
    case aq => k_all
  · have hend := con_endG (tl := [(D8, o8), (t8, _)]) (ps' := ps8) GS N F88 N88 (fun p hp => List.mem_cons_of_mem _ (List.mem_cons_of_mem _ (List.mem_cons_of_mem _ hp))) (SubL.mem (by k_subL)) (ne_two hapD8 hapt8)
    rename Fr h₀ L _ m => kF
    rename News h₀ L _ _ => kN
    exact hret _ _ _ _ ps8 [(D8, o8), (t8, _)] ⟨D8, o8, t8, _, _, _, _, hD8, lo8⟩ kF (news_sub kN (by k_subL)) hend.1 hend.2 hps8 hG88
end
section

set_option Elab.async false
set_option maxRecDepth 100000
set_option maxHeartbeats 8000000
theorem va1' {K : Type} [DecidableEq K] {k : K} : valueAt ([] : List (K × Value)) k = none := by simp [valueAt]
theorem st0' {K : Type} [DecidableEq K] {k : K} {v' : Value} : stored [] k v' = [(k, v')] := by simp [stored]
inductive AddOut0 (w : World) (x : Str) (t : Addr) : Value → List (Addr × Obj) → Prop
  | mk : ∀ D o, (o.IsDictOf (strKind PySem.Challenge.rw_zn0010_01.row.prog w) [(x, .ref t)]) → ((D == sysModules) = false) → AddOut0 w x t (.ref D) ([(D, o)])
local macro_rules | `(tactic| walk_at "compareOp In str ref") => `(tactic| (k_dflt (refine kda_in (knd := PySem.strKind _ _) (by k_asm) (by k_mem) (by k_asm) (by k_asm) (strKind_is _ _ _ _) false (by rfl) ?_)))
local macro_rules | `(tactic| walk_at "setItem ref str") => `(tactic| (k_dflt (refine' kda_set (knd := PySem.strKind _ _) ?F ?N ?U ?d (strKind_is _ _ _ _) ?z ?_; (case F => k_asm); (case N => k_asm); (case U => k_updF); (case d => k_asm); (case z => rw [sizeLine_eq]; exact Nat.le_of_ble_eq_true (by with_unfolding_all rfl))); intro h' o' F' N' hd'; (replace N' : News _ _ _ (_ :: _) := N')))
theorem add0_con {w p loose mean mg mb} {Ta Sa t1 : Addr} {x : Str} {oT oS : Obj} {vs : List Value} {n : Nat} (hT : oT.IsDictOf (strKind PySem.Challenge.rw_zn0010_01.row.prog w) []) (hS : oS.IsDictOf (strKind PySem.Challenge.rw_zn0010_01.row.prog w) [(x, .ref t1)])
    (lT : (Ta == sysModules) = false) (lS : (Sa == sysModules) = false) :
    ConG w p loose mean mg mb 84 2 [.ref Ta, .ref Sa] [(Ta, oT), (Sa, oS), (t1, tup vs n)] (AddOut0 w x t1) := by
  (unfold ConG; k_fill; intro dp un gd cn cs a ccd cl outer A₀ base h₀ L m ps s Q E B F X N T hk hd hu hps hG hne hret; refine wpAny_call ?_; (refine' code_defG ?k1 ?k2 ?k3 N ?k5 ?kA ?kF ?kK ?k6 ?k7 ?k8 ?k9 ?kB ?_ ?c2 ?c3 ?c4 ?c5; (case kA => exact rfl); (case kF => exact rfl); (case kK => assumption); (case k1 => k_asm); (case k2 => k_asm); (case k3 => k_asm); (case k5 => k_asm); (case k6 => k_is); (case k7 => k_is); (case k8 => ktr_room); (case k9 => exact BindsTo.of_eq rfl); (case c5 => decide); (case kB => exact locs rfl); (case c2 => exact rfl); (case c3 => exact rfl); (case c4 => exact rfl); k_whole; intro g L' h' FG' F' N' B' X' T' GS; (try dsimp only); (try k_fold)))
  have e1 : @Ne Nat Ta tabP := hne _ (.head _)
  have e2 : @Ne Nat Sa tabP := hne _ (.tail _ (.head _))
  have e3 : @Ne Nat t1 tabP := hne _ (.tail _ (.tail _ (.head _)))
  k_steps
  rename Obj.IsDictOf _ _ _ => hd7
  rename Fr h₀ L _ m => kF
  rename News h₀ L _ _ => kN
  rename Fr g _ _ _ => F7
  rename News g _ _ _ => N7
  rename LT.lt tabP _ ∧ _ => l7
  rw [st0'] at hd7
  have hend := con_endG (tl := [(_, _)]) (ps' := ps) GS N F7 N7 (fun p hp => List.mem_cons_of_mem _ (List.mem_cons_of_mem _ hp)) (SubL.mem (And.intro (List.Mem.head _) trivial)) (fun p hp => by rw [List.mem_singleton.mp hp]; k_all)
  exact hret _ _ _ _ ps [(_, _)] ⟨_, _, hd7, by assumption⟩ kF (news_sub kN (by k_subL)) hend.1 hend.2 hps hG
end
section

set_option Elab.async false
set_option maxRecDepth 100000
set_option maxHeartbeats 8000000
theorem ba_mro : mroOf (.type "bytearray") = pure [.type "bytearray", .type "object"] := by rw [mroOf_type]; kernel_rfl
theorem ba_lookup_new : typeLookup (.type "bytearray") "__new__" = pure (some (.builtin "bytearray.__new__")) := by rw [typeLookup_type, builtinLookup_eq_fast]; kernel_rfl
theorem ba_init : Slot "bytearray" "__init__" "bytearray.__init__" :=
  .of (owner := "bytearray") (n := "__init__") (by rw [typeLookup_type, builtinLookup_eq_fast]; kernel_rfl) (by decide +kernel) (by decide +kernel) (by decide +kernel)
    (by first | exact .inl (by decide +kernel) | exact .inr (by decide +kernel)) (by rw [isSubtype_type]; kernel_rfl)
theorem ba_set : Slot "bytearray" "__setitem__" "bytearray.__setitem__" :=
  .of (owner := "bytearray") (n := "__setitem__") (by rw [typeLookup_type, builtinLookup_eq_fast]; kernel_rfl) (by decide +kernel) (by decide +kernel) (by decide +kernel)
    (by first | exact .inl (by decide +kernel) | exact .inr (by decide +kernel)) (by rw [isSubtype_type]; kernel_rfl)
theorem ba_sub : isSubtype (.type "bytearray") (.type "bytearray") = pure true := by rw [isSubtype_type]; kernel_rfl
theorem ba_called : TypeCalled "bytearray" "bytearray.__new__" "bytearray.__init__" :=
  ⟨by decide +kernel, by decide +kernel, ⟨_, _, ba_mro⟩, madeBy_type ba_mro ba_lookup_new (by decide +kernel), by decide +kernel, ba_sub, ba_init⟩
theorem ba_typeCall (a : Value) : checkTypeCall "bytearray" ⟨[a], []⟩ = pure () := by kernel_rfl
theorem ba_newCall (a : Value) : checkBuiltinCall "bytearray.__new__" ⟨[.type "bytearray", a], []⟩ = pure () := by kernel_rfl
theorem ba_plain_new : plainId "bytearray.__new__" = true := by decide +kernel
theorem ba_plain_init : plainId "bytearray.__init__" = true := by decide +kernel
theorem ba_entry_new : entryFor table "bytearray.__new__" = some Builtin.«list.__new__» := entryFor_alias (id' := "list.__new__") (by kernel_rfl) (by first | rfl | decide +kernel) (by decide +kernel) (by kernel_rfl)
theorem ba_entry_init : entryFor table "bytearray.__init__" = some Builtin.«bytearray.__init__» := by first | exact entryFor_of_fast (by kernel_rfl) | exact entryFor_of_tree (by kernel_rfl)
theorem ba_entry_set : entryFor table "bytearray.__setitem__" = some Builtin.«bytearray.__setitem__» := by first | exact entryFor_of_fast (by kernel_rfl) | exact entryFor_of_tree (by kernel_rfl)
set_option maxRecDepth 1000000 in
theorem ba_owner : ("bytearray.__new__".splitOn ".__new__").headD "" = "bytearray" := by simp +decide [String.splitOn, String.splitOnAux]
theorem ba_rel : typeLookup (.type "bytearray") "__release_buffer__" = pure (some (.builtin "bytearray.__release_buffer__")) := by rw [typeLookup_type, builtinLookup_eq_fast]; kernel_rfl
theorem ba_buf : typeLookup (.type "bytearray") "__buffer__" = pure (some (.builtin "bytearray.__buffer__")) := by rw [typeLookup_type, builtinLookup_eq_fast]; kernel_rfl
theorem ba_no_bytes : typeLookup (.type "bytearray") "__bytes__" = pure none := by rw [typeLookup_type, builtinLookup_eq_fast]; kernel_rfl
theorem ba_no_index : typeLookup (.type "bytearray") "__index__" = pure none := by rw [typeLookup_type, builtinLookup_eq_fast]; kernel_rfl
theorem ba_bind (v : Value) : Builtin.Bytes.bindOptional "bytearray.__init__" "bytearray" ["source", "encoding", "errors"] [v] [] = pure [some v, none, none] := by kernel_rfl
theorem ba_ends1 : "bytearray.__release_buffer__".endsWith ("." ++ "__release_buffer__") = true := by decide +kernel
theorem ba_drop1 : "bytearray.__release_buffer__".dropRight ("__release_buffer__".length + 1) = "bytearray" := by decide +kernel
theorem ba_ends2 : "bytearray.__buffer__".endsWith ("." ++ "__buffer__") = true := by decide +kernel
theorem ba_drop2 : "bytearray.__buffer__".dropRight ("__buffer__".length + 1) = "bytearray" := by decide +kernel
end
section

set_option Elab.async false
set_option maxRecDepth 100000
set_option maxHeartbeats 8000000
section
variable {prog : Program} {w : World} {A : Around} {E : Value → Shared → Prop} {s : Shared} {M : Model}
theorem ba_new_code (a : Value) {Q₁ : Value → Shared → Prop} (h : Q₁ (.ref s.heap.objs.size) { s with heap := s.heap.push { cls := .type "bytearray", data := .bytearray #[] } }) :
    codeAny (model prog w) A (.call (.builtin "bytearray.__new__") ⟨[.type "bytearray", a], []⟩) (wants Q₁ E) s := by
  refine codeAny_of_tree ?_
  show wpAny _ A.in1 (do checkBuiltinCall "bytearray.__new__" ⟨[.type "bytearray", a], []⟩; again (.builtin "bytearray.__new__" ⟨[.type "bytearray", a], []⟩)) _ _ s
  refine wpAny_bind (wpAny_of_eq (ba_newCall a) (wpAny_pure ⟨plainId_quiet ba_plain_new _, codeAny_builtin_stack ba_entry_new rfl fun p st => ?_⟩))
  rw [Around.under_plainId ba_plain_new _]
  have hsub := ba_sub
  have hown := ba_owner
  obtain ⟨hp, g, d, tk, os⟩ := s
  simp only [hown]
  wp_walk
  exact h
theorem ba_ownRel {v : Value} {Q : Bool → Shared → Prop} (hT : s.TypeIs v "bytearray") (h : Q false s) : wpAny M A (Builtin.Bytes.ownRelease v) Q E s := by
  unfold Builtin.Bytes.ownRelease Builtin.Bytes.slotIsOwn
  refine wpAny_bind (wpAny_bind (wpAny_specialOf hT ba_rel ?_))
  dsimp only
  rw [ba_ends1, ba_drop1]
  refine bm_if_false rfl ?_
  exact wpAny_isInstance hT ba_sub (wpAny_pure h)
theorem exported_C {v : Value} {Q : Bool → Shared → Prop} (h : Q false s) : wpC M A (Builtin.Bytes.exported v) Q E s := fun Γ p hΓ cl => by
  have all : ∀ x ∈ (Γ.code, p) :: Γ.below, dec x.1 = false := fun x hx => (List.mem_cons.mp hx).elim (fun e => e ▸ cl.1) (cl.2 x)
  unfold Builtin.Bytes.exported
  show Q (((Γ.code, p) :: Γ.below).any _) s
  rw [List.any_eq_false.mpr ?_]
  · exact h
  · rintro ⟨c, q⟩ hx
    have hd := all _ hx
    delta PySem.Builtin.Bytes.exported.match_1
    cases c with
    | builtin id args =>
      obtain ⟨pos, kw⟩ := args
      have hd' := Bool.or_eq_false_iff.mp (hd : (_ || _) = false)
      have n (k : String) (hk : ["bytearray.__contains__", "bytearray.__mod__", "bytearray.__rmod__", "_struct.pack_into.held", "bytearray.find.held"].contains k = true) : id ≠ k := fun e => by rw [e, hk] at hd'; exact nomatch hd'.2
      refine Bool.eq_false_iff.mp ((dif_neg (n _ (by decide +kernel))).trans ((dif_neg (n _ (by decide +kernel))).trans ((dif_neg (n _ (by decide +kernel))).trans ((dif_neg (n _ (by decide +kernel))).trans ((dif_neg (n _ (by decide +kernel))).trans (?_))))))
      cases pos with
      | nil => rfl
      | cons x l => exact Bool.and_eq_false_iff.mpr (.inr hd'.1)
    | _ => exact Bool.false_ne_true
theorem ba_write {a : Addr} {b : Array UInt8} {f : Array UInt8 → Array UInt8} {Q : Unit → Shared → Prop} (ho : s.heap.get? a = some { cls := .type "bytearray", data := .bytearray b }) (hz : (f b).size ≤ sizeLine)
    (h : Q () { s with heap := s.heap.update a (Obj.mapBytearray f) }) : wpAny M A (Builtin.Bytes.write (.ref a) f) Q E s := by
  show wpAny _ _ (updateBytearray a f) _ _ _
  unfold updateBytearray
  refine wpAny_bind (wpAny_load ho ?_)
  show wpAny _ _ (update a (Obj.mapBytearray f) >>= fun _ => lookBehind a) _ _ _
  refine wpAny_bind (wpAny_update ho ?_)
  refine wpAny_lookBehind (o := { cls := .type "bytearray", data := .bytearray (f b) }) (Heap.get?_update_self (Obj.mapBytearray f) ho rfl) ?_ h
  show (if (f b).size > sizeLine then some "bytearray:memory" else none) = none
  rw [if_neg (by (first | lia | omega))]
theorem ba_written {h : Heap} {a : Addr} {b : Array UInt8} {f : Array UInt8 → Array UInt8} (ho : h.get? a = some { cls := .type "bytearray", data := .bytearray b }) : (h.update a (Obj.mapBytearray f)).get? a = some { cls := .type "bytearray", data := .bytearray (f b) } :=
  Heap.get?_update_self (Obj.mapBytearray f) ho rfl
theorem wpC.iff {α : Type} {c : Bool} {a b : Sem α} {Q : α → Shared → Prop} (hc : c = false) (h : wpC M A b Q E s) : wpC M A (if c = true then a else b) Q E s := by subst hc; exact h
theorem wpC.ift {α : Type} {c : Bool} {a b : Sem α} {Q : α → Shared → Prop} (hc : c = true) (h : wpC M A a Q E s) : wpC M A (if c = true then a else b) Q E s := by subst hc; exact h
theorem asStr_int (i : Int) (t : Tok) : asStr? (.int i t) = pure none := rfl
theorem asIndex_int (i : Int) (t : Tok) : asIndex (.int i t) = pure i := rfl
theorem ba_init_tree {a : Addr} {n : Nat} {t : Tok} {Q : Fin → Shared → Prop} (ho : s.heap.get? a = some { cls := .type "bytearray", data := .bytearray #[] }) (hn : n ≤ 1000)
    (h : ∀ h', h'.get? a = some { cls := .type "bytearray", data := .bytearray (Array.replicate n 0) } → Heap.SameBut a s.heap h' → Q (.done (.ret .none)) { s with heap := h' }) :
    wpC M A (Builtin.«bytearray.__init__» ⟨[.ref a, .int n t], []⟩) Q E s := by
  have hT : s.TypeIs (.ref a) "bytearray" := ⟨_, ho, rfl⟩
  unfold Builtin.«bytearray.__init__»
  refine .seq (ba_ownRel hT ?_)
  refine .iff rfl ?_
  refine .seq (wpAny_of_eq (ba_bind _) ?_)
  refine .seq (wpAny_of_eq (a := ()) rfl ?_)
  refine .seq (wpAny_of_eq (a := ()) rfl ?_)
  refine .bind (.bind (exported_C ?_))
  refine .seq (m := Builtin.Bytes.exportsOf (.ref a)) (wpAny_bind (wpAny_load ho (wpAny_pure (.pure ?_))))
  refine .iff rfl ?_
  refine .seq (ba_write ho (Nat.zero_le _) ?_)
  have ho₁ := ba_written (f := fun _ => #[]) ho
  refine .of ?_
  refine wpAny_bind (m := asStr? (.int n t)) ?_
  rw [asStr_int]
  refine wpAny_pure ?_
  with_reducible refine bm_if_false (c := (none : Option Str).isSome) rfl ?_
  dsimp (config := { zeta := false }) only
  with_reducible refine wpAny_bind ?_
  with_reducible refine bm_if_false (c := (none : Option Value).isSome) rfl ?_
  dsimp (config := { zeta := false }) only
  with_reducible refine bm_if_false (c := (none : Option Value).isSome) rfl ?_
  refine wpAny_pure ?_
  with_reducible refine wpAny_bind ?_
  with_reducible refine wpAny_specialOf (typeIs_int _ n t) F.slot_int_index.lookup ?_
  with_reducible refine bm_if_true (c := (some _ : Option Value).isSome) rfl ?_
  with_reducible refine wpAny_bind ?_
  with_reducible refine wpAny_attempt ?_
  with_reducible refine wpAny_of_eq (a := (n : Int)) (asIndex_int n t) ?_
  have f1 : (!Builtin.Bytes.fitsIndex (n : Int)) = false := by simp only [Builtin.Bytes.fitsIndex, Bool.not_eq_false', Bool.and_eq_true, decide_eq_true_eq]; (first | lia | omega)
  have f2 : ¬ ((n : Int) < 0) := by (first | lia | omega)
  have f3 : ((n : Int) == 2 ^ 63 - 1) = false := by simp only [beq_eq_false_iff_ne]; (first | lia | omega)
  have f4 : Builtin.Bytes.tooLong (n : Int).toNat = false := by simp only [Builtin.Bytes.tooLong, sizeLine_eq, decide_eq_false_iff_not]; (first | lia | omega)
  dsimp (config := { zeta := false }) only
  with_reducible refine bm_if_false f1 ?_
  dsimp (config := { zeta := false }) only
  rw [if_neg f2]
  dsimp (config := { zeta := false }) only
  with_reducible refine bm_if_false f3 ?_
  dsimp (config := { zeta := false }) only
  with_reducible refine bm_if_false f4 ?_
  dsimp (config := { zeta := false }) only
  with_reducible refine wpAny_bind ?_
  with_reducible refine wpAny_rule ?_
  dsimp only
  split
  · refine wpAny_bind (ba_write ho₁ (by rw [Array.size_replicate, sizeLine_eq]; (first | lia | omega)) ?_)
    have := h _ (by simpa using ba_written (f := fun _ => Array.replicate (n : Int).toNat 0) ho₁) ?_
    · exact wpAny_pure this
    · exact ⟨by rw [Heap.size_after_update, Heap.size_after_update], fun b hb => by rw [Heap.get?_update_other _ _ (Ne.symm hb), Heap.get?_update_other _ _ (Ne.symm hb)]⟩
  · rename_i h0
    have : n = 0 := by (first | lia | omega)
    subst this
    exact wpAny_pure (h _ ho₁ (Heap.SameBut.update ..))
end
end
section

set_option Elab.async false
set_option maxRecDepth 100000
set_option maxHeartbeats 8000000
section
variable {prog : Program} {w : World} {A : Around} {E : Value → Shared → Prop} {s : Shared} {M : Model} {R : Result → Shared → Prop}
theorem codeC.builtin {id : String} {args : Args} {b : Builtin} (hb : entryFor table id = some b)
    (h : wpC (model prog w) (A.under (.builtin id args)) (b args) (fun fin s' => match fin with | .done f => R (.ok f) s' | .again c' => c'.quiet = true ∧ dec c' = false ∧ codeC (model prog w) A c' R s') (fun e s' => R (.error e) s') s) :
    codeC (model prog w) A (.builtin id args) R s := by
  refine .tree ?_
  show wpC _ _ (match entryFor table id with | some b => b args | none => unsupported ((withoutEnding? id "#data").getD id)) _ _ s
  rw [hb]; exact h
theorem codeC.callBuiltin {id : String} {args : Args} {b : Builtin} (hq : plainId id = true) (hd : dec (.builtin id args) = false) (hb : entryFor table id = some b)
    (h : wpAny (model prog w) A.in1 (checkBuiltinCall id args) (fun _ s₁ => wpC (model prog w) A.in1 (b args) (fun fin s' => match fin with | .done f => R (.ok f) s' | .again c' => c'.quiet = true ∧ dec c' = false ∧ codeC (model prog w) A c' R s') (fun e s' => R (.error e) s') s₁) (fun e s' => R (.error e) s') s) :
    codeC (model prog w) A (.call (.builtin id) args) R s := by
  refine .tree ?_
  show wpC _ A.in1 (do checkBuiltinCall id args; again (.builtin id args)) _ _ s
  refine .seq (wpAny_mono h (fun _ s₁ h₁ => .pure ⟨plainId_quiet hq _, hd, .builtin hb ?_⟩) fun _ _ x => x)
  rw [Around.under_plainId hq _]
  exact h₁
theorem wpC.slot {self : Value} {T : String} {name : Str} {id : String} {args : List Value} {Q : Option Value → Shared → Prop} (hT : s.TypeIs self T) (h : Slot T name id)
    (hc : wpC M A (PySem.call (.builtin id) (self :: args) []) (fun v => Q (some v)) E s) : wpC M A (callSpecial? self name args) Q E s := by
  simp only [callSpecial?]
  refine .seq (wpAny_specialOf hT h.lookup ?_)
  simp only [h.bind]
  exact .holding (.seq (wpAny_pure (.bind (.mono hc (fun v s' h' => .pure h') fun _ _ h' => h'))))
theorem dec_tc (args : Args) : dec (.builtin "type.__call__" args) = false := by unfold dec; dsimp only; decide +kernel
theorem dec_bi (args : Args) : dec (.builtin "bytearray.__init__" args) = false := by unfold dec; dsimp only; decide +kernel
theorem ba_call {n : Nat} {t : Tok} {Q : Value → Shared → Prop} (hn : n ≤ 1000)
    (h : ∀ h', h'.get? s.heap.objs.size = some { cls := .type "bytearray", data := .bytearray (Array.replicate n 0) } → (∀ b o, s.heap.get? b = some o → h'.get? b = some o) → Q (.ref s.heap.objs.size) { s with heap := h' }) :
    wpC (model prog w) A (call (.type "bytearray") [.int n t]) Q E s := by
  refine .call (.tree (.of ?_))
  show wpAny _ _ (callAny (.type "bytearray") ⟨[.int n t], []⟩) _ _ _
  refine wpAny_pure ⟨Code.quiet_builtin _ (by decide +kernel), dec_tc _, .builtin F.entry_type_call ?_⟩
  rw [Around.under_plain (weight_type_call_type "bytearray" [.int n t] []) rfl]
  unfold Builtin.«type.__call__»
  have h1 := ba_called.notType
  have h2 := ba_called.canCreate
  try dsimp (config := { zeta := false }) only
  with_reducible refine wpC.iff h1 ?_
  dsimp only
  rw [if_neg (by exact ne_true_of_eq_false h2)]
  with_reducible refine .seq ?_
  refine wpAny_of_eq (ba_typeCall _) ?_
  try dsimp (config := { zeta := false }) only
  with_reducible refine .seq ?_
  refine wpAny_of_eq ba_mro ?_
  try dsimp (config := { zeta := false }) only
  rw [if_neg (by decide)]
  with_reducible refine .seq ?_
  refine wpAny_of_eq ba_called.made ?_
  dsimp only
  with_reducible refine .seq ?_
  with_reducible refine wpAny_pure ?_
  with_reducible refine .seq ?_
  refine wpAny_holding (wpAny_call (ba_new_code _ ?_))
  try dsimp only [wants]
  have ho : (s.heap.push { cls := .type "bytearray", data := .bytearray #[] }).get? s.heap.objs.size = some { cls := .type "bytearray", data := .bytearray #[] } := Heap.get?_push_size _ rfl
  have hT : ({ s with heap := s.heap.push { cls := .type "bytearray", data := .bytearray #[] } } : Shared).TypeIs (.ref s.heap.objs.size) "bytearray" := ⟨_, ho, rfl⟩
  with_reducible refine .seq ?_
  refine wpAny_isInstance hT ba_sub ?_
  with_reducible refine wpC.iff (c := (!true)) rfl ?_
  with_reducible refine .bind ?_
  refine .holding (.slot hT ba_init (.call (.callBuiltin ba_plain_init (dec_bi _) ba_entry_init (ba_init.check _ _ _ _ _ _ _ _ hT rfl (ba_init_tree ho hn fun h' hg hs => ?_)))))
  dsimp only
  with_reducible refine wpC.iff (c := (Value.none != Value.none)) rfl ?_
  refine .pure (h h' hg fun b o e => ?_)
  exact hs.extBut b o (Nat.ne_of_lt (Heap.lt_size e)) (Heap.get?_push_of_some _ e)
end
end
section

set_option Elab.async false
set_option maxRecDepth 100000
set_option maxHeartbeats 8000000
section
variable {prog : Program} {w : World} {A : Around} {E : Value → Shared → Prop} {s : Shared} {M : Model} {R : Result → Shared → Prop}
theorem ba_subscript {k : Int} {t : Tok} {Q : Option Int → Shared → Prop} (h0 : 0 ≤ k) (hk : k < 1000) (h : Q (some k) s) : wpAny M A (Builtin.Bytes.subscript? (.int k t)) Q E s := by
  unfold Builtin.Bytes.subscript?
  refine wpAny_bind (wpAny_specialOf (name := Str.ofString "__index__") (typeIs_int _ _ _) F.slot_int_index.lookup ?_)
  refine bm_if_false rfl ?_
  have f1 : (!Builtin.Bytes.fitsIndex k) = false := by simp only [Builtin.Bytes.fitsIndex, Bool.not_eq_false', Bool.and_eq_true, decide_eq_true_eq]; (first | lia | omega)
  with_reducible refine wpAny_bind ?_
  with_reducible refine wpAny_of_eq (asIndex_int _ _) ?_
  with_reducible refine bm_if_false f1 ?_
  exact wpAny_pure h
theorem ba_payload {a : Addr} {b : Array UInt8} {Q : Array UInt8 → Shared → Prop} (ho : s.heap.get? a = some { cls := .type "bytearray", data := .bytearray b }) (h : Q b s) : wpAny M A (Builtin.Bytes.payload (.ref a)) Q E s := by
  unfold Builtin.Bytes.payload Builtin.Bytes.payload?
  refine wpAny_bind (wpAny_bind (wpAny_load ho ?_))
  exact wpAny_pure (wpAny_pure h)
theorem ba_byteValue {v : Int} {t : Tok} {Q : UInt8 → Shared → Prop} (v0 : 0 ≤ v) (v1 : v < 256) (h : Q v.toNat.toUInt8 s) : wpAny M A (Builtin.Bytes.byteValue (.int v t)) Q E s := by
  unfold Builtin.Bytes.byteValue
  refine wpAny_bind (wpAny_of_eq (asIndex_int _ _) ?_)
  refine bm_if_false (by simp only [Bool.or_eq_false_iff, decide_eq_false_iff_not]; (first | lia | omega)) ?_
  exact wpAny_pure h
theorem ba_setItem {a : Addr} {b : Array UInt8} {k v : Int} {t u : Tok} {Q : Unit → Shared → Prop} (ho : s.heap.get? a = some { cls := .type "bytearray", data := .bytearray b }) (hb : b.size ≤ 1000)
    (h0 : 0 ≤ k) (hk : k < b.size) (v0 : 0 ≤ v) (v1 : v < 256)
    (h : ∀ h', h'.get? a = some { cls := .type "bytearray", data := .bytearray (b.setIfInBounds k.toNat v.toNat.toUInt8) } → Heap.SameBut a s.heap h' → Q () { s with heap := h' }) :
    wpAny (model prog w) A (setItem (.ref a) (.int k t) (.int v u)) Q E s := by
  have hT : s.TypeIs (.ref a) "bytearray" := ⟨_, ho, rfl⟩
  unfold setItem
  refine wpAny_holding ?_
  refine wpAny_bind (wpAny_sequenceKey hT (by decide) ?_)
  refine wpAny_bind (wpAny_callSpecial?_slot (name := Str.ofString "__setitem__") hT ba_set (wpAny_call_entry ba_set hT ba_entry_set ?_))
  unfold Builtin.«bytearray.__setitem__»
  with_reducible refine bm_if_false (c := (!([] : List (Str × Value)).isEmpty)) rfl ?_
  dsimp (config := { zeta := false }) only
  with_reducible refine wpAny_bind ?_
  with_reducible refine ba_subscript h0 (by (first | lia | omega)) ?_
  dsimp (config := { zeta := false }) only
  with_reducible refine wpAny_bind ?_
  with_reducible refine ba_byteValue v0 v1 ?_
  with_reducible refine wpAny_bind ?_
  with_reducible refine ba_payload ho ?_
  have f1 : seqIndex? k b.size = some k.toNat := by
    unfold seqIndex?
    simp only [if_neg (Int.not_lt.mpr h0)]
    rw [if_pos]
    simp only [Bool.and_eq_true, decide_eq_true_eq]; (first | lia | omega)
  rw [f1]
  dsimp (config := { zeta := false }) only
  with_reducible refine wpAny_bind ?_
  refine ba_write ho (by rw [Array.size_setIfInBounds, sizeLine_eq]; (first | lia | omega)) ?_
  exact wpAny_pure ⟨.none, rfl, wpAny_pure (h _ (ba_written ho) (Heap.SameBut.update ..))⟩
theorem ba_buffer {a : Addr} {b : Array UInt8} {Q : Option (Array UInt8) → Shared → Prop} (ho : s.heap.get? a = some { cls := .type "bytearray", data := .bytearray b }) (h : Q (some b) s) :
    wpAny M A (Builtin.Bytes.buffer? "bytes.__new__" (.ref a) true) Q E s := by
  have hT : s.TypeIs (.ref a) "bytearray" := ⟨_, ho, rfl⟩
  unfold Builtin.Bytes.buffer?
  refine wpAny_bind (wpAny_specialOf hT ba_buf ?_)
  dsimp (config := { zeta := false }) only
  with_reducible refine wpAny_bind ?_
  unfold Builtin.Bytes.slotIsOwn
  refine wpAny_bind (wpAny_specialOf hT ba_buf ?_)
  dsimp only
  rw [ba_ends2, ba_drop2]
  refine bm_if_false rfl ?_
  refine wpAny_isInstance hT ba_sub ?_
  with_reducible refine bm_if_false (c := (!true)) rfl ?_
  with_reducible refine wpAny_bind ?_
  refine wpAny_specialOf hT ba_buf ?_
  show wpAny M A (Builtin.Bytes.ownRelease (.ref a) >>= _) Q E s
  with_reducible refine wpAny_bind ?_
  refine ba_ownRel hT ?_
  with_reducible refine bm_if_false (c := false) rfl ?_
  exact wpAny_bind (ba_payload ho (wpAny_pure h))
theorem ba_bytes_new {a : Addr} {b : Array UInt8} {Q : Value → Shared → Prop} (ho : s.heap.get? a = some { cls := .type "bytearray", data := .bytearray b }) (hz : b.size ≤ sizeLine) (h : Q (.bytes b s.toks) { s with toks := s.toks + 1 }) :
    codeAny (model prog w) A (.call (.builtin "bytes.__new__") ⟨[.type "bytes", .ref a], []⟩) (wants Q E) s := by
  refine codeAny_of_tree ?_
  show wpAny _ A.in1 (do checkBuiltinCall "bytes.__new__" ⟨[.type "bytes", .ref a], []⟩; again (.builtin "bytes.__new__" ⟨[.type "bytes", .ref a], []⟩)) _ _ s
  refine wpAny_bind (wpAny_of_eq (F.bm_newCall _) (wpAny_pure ⟨plainId_quiet F.bm_plain _, codeAny_builtin F.bm_entry ?_⟩))
  rw [Around.under_plainId F.bm_plain _]
  have hT : s.TypeIs (.ref a) "bytearray" := ⟨_, ho, rfl⟩
  unfold Builtin.«bytes.__new__»
  refine wpAny_bind (wpAny_of_eq (a := true) rfl ?_)
  refine bm_if_false rfl ?_
  refine wpAny_bind (wpAny_of_eq F.bm_sub ?_)
  refine bm_if_false rfl ?_
  refine wpAny_bind (wpAny_of_eq (F.bm_bind _) ?_)
  refine wpAny_bind (wpAny_of_eq (a := ()) rfl ?_)
  refine wpAny_bind (wpAny_of_eq (a := ()) rfl ?_)
  refine bm_if_false rfl ?_
  refine wpAny_bind (wpAny_specialOf hT ba_no_bytes ?_)
  refine wpAny_bind (wpAny_bind ?_)
  show wpAny _ _ (load a >>= _) _ _ _
  refine wpAny_bind (wpAny_load ho ?_)
  refine wpAny_pure (wpAny_pure ?_)
  refine bm_if_false rfl ?_
  refine wpAny_bind (wpAny_specialOf hT ba_no_index ?_)
  refine bm_if_true rfl ?_
  first
    | show wpAny _ _ (Builtin.Bytes.buffer? "bytes.__new__" (.ref a) true >>= _) _ _ _
    | (refine wpAny_bind ?_; show wpAny _ _ (Builtin.Bytes.buffer? "bytes.__new__" (.ref a) true >>= _) _ _ _)
  refine wpAny_bind (ba_buffer ho ?_)
  refine wpAny_bind (wpAny_rule ?_)
  refine wpAny_bind (wpAny_mkBytes ?_ hz)
  show wpAny _ _ (if (Value.type "bytes" == Value.type "bytes") = true then _ else _) _ _ _
  refine bm_if_true (by decide) ?_
  first
    | exact wpAny_pure h
    | exact wpAny_bind (wpAny_pure (wpAny_pure h))
theorem ba_bytes {a : Addr} {b : Array UInt8} {Q : Value → Shared → Prop} (ho : s.heap.get? a = some { cls := .type "bytearray", data := .bytearray b }) (hz : b.size ≤ sizeLine) (h : Q (.bytes b s.toks) { s with toks := s.toks + 1 }) :
    wpAny (model prog w) A (call (.type "bytes") [.ref a]) Q E s := by
  refine callType_codes (Q₁ := fun obj s₁ => s₁.TypeIs obj "bytes" ∧ Q obj s₁) F.bm_called (F.bm_typeCall _) F.entry_object_init
    (ba_bytes_new ho hz ⟨PySem.W.typeIs_bytes _ _ _, h⟩) fun obj s₁ h₁ => ?_
  exact ⟨h₁.1, F.args_object_init_2 obj _, object_init_meets F.bm_called.init.lookup F.bm_called.made (by decide) prog w A.in1 _ s₁ ⟨h₁.1, rfl, h₁.2⟩⟩
end
end
section

set_option Elab.async false
set_option maxRecDepth 100000
set_option maxHeartbeats 8000000
abbrev baObj (b : Array UInt8) : Obj := { cls := .type "bytearray", data := .bytearray b }
section
variable {prog : Program} {w : World} {A : Around} {E : Value → Shared → Prop} {s : Shared} {h₀ : Heap} {L : Addr} {m : Str → Option Value} {news : List (Addr × Obj)}
theorem ba_callN {n : Nat} {t : Tok} {Q : Value → Shared → Prop} (F : Fr h₀ L s.heap m) (N : News h₀ L s.heap news) (hn : n ≤ 1000)
    (h : ∀ S h', Fr h₀ L h' m → News h₀ L h' ((S, baObj (Array.replicate n 0)) :: news) → (∀ q ∈ news, q.1 < S) → Q (.ref S) { s with heap := h' }) :
    wpC (model prog w) A (call (.type "bytearray") [.int n t]) Q E s := by
  refine ba_call hn fun h' hg hk => h _ h' (F.keeps hk) (fun q hq => ?_) fun q hq => Heap.lt_size (N q hq).1
  rcases List.mem_cons.mp hq with rfl | hq
  · exact ⟨hg, Nat.ne_of_gt F.ns.lt, next_is_new F⟩
  · exact ⟨hk _ _ (N q hq).1, (N q hq).2⟩
theorem ba_setN {S : Addr} {b : Array UInt8} {k v : Int} {t u : Tok} {g : Obj → List (Addr × Obj)} {Q : Unit → Shared → Prop} (F : Fr h₀ L s.heap m) (N : News h₀ L s.heap news) (U : UpdF S (baObj b) news g) (hb : b.size ≤ 1000)
    (h0 : 0 ≤ k) (hk : k < b.size) (v0 : 0 ≤ v) (v1 : v < 256)
    (h : ∀ h', Fr h₀ L h' m → News h₀ L h' (g (baObj (b.setIfInBounds k.toNat v.toNat.toUInt8))) → Q () { s with heap := h' }) : wpAny (model prog w) A (setItem (.ref S) (.int k t) (.int v u)) Q E s := by
  obtain ⟨pre, post, rfl, hg, a, c⟩ := U.split
  have hm := N (S, baObj b) (List.mem_append_right _ (.head _))
  refine ba_setItem hm.1 hb h0 hk v0 v1 fun h' ho hs => h h' (F.change hs hm.2.1 hm.2.2) (hg _ ▸ N.setIn a c hs ho)
theorem ba_bytesN {S : Addr} {b : Array UInt8} {Q : Value → Shared → Prop} (N : News h₀ L s.heap news) (hm : (S, baObj b) ∈ news) (hz : b.size ≤ sizeLine) (h : Q (.bytes b s.toks) { s with toks := s.toks + 1 }) :
    wpAny (model prog w) A (call (.type "bytes") [.ref S]) Q E s := ba_bytes (N _ hm).1 hz h
end
/-- the first j octets of b laid at the end, turned about -/
def rvA (b : Array UInt8) (j : Nat) : Array UInt8 := (Array.range b.size).map fun k => if b.size - j ≤ k then b[b.size - 1 - k]! else 0
theorem rvA_size (b : Array UInt8) (j : Nat) : (rvA b j).size = b.size := by simp [rvA]
theorem rvA_zero (b : Array UInt8) : Array.replicate b.size 0 = rvA b 0 := by
  apply Array.ext
  · simp [rvA_size]
  · intro i h1 h2
    simp only [rvA_size] at h2
    simp only [rvA, Array.getElem_replicate, Array.getElem_map, Array.getElem_range]
    rw [if_neg (by (first | lia | omega))]
theorem rvA_succ (b : Array UInt8) (j : Nat) (hj : j < b.size) : (rvA b j).setIfInBounds (b.size - 1 - j) b[j]! = rvA b (j + 1) := by
  apply Array.ext
  · simp [rvA_size]
  · intro i h1 h2
    have hi : i < b.size := by rw [rvA_size] at h2; exact h2
    rw [Array.getElem_setIfInBounds (by rw [rvA_size]; exact hi)]
    simp only [rvA, Array.getElem_map, Array.getElem_range]
    by_cases e : b.size - 1 - j = i
    · subst e
      rw [if_pos rfl, if_pos (by (first | lia | omega))]
      congr 1; (first | lia | omega)
    · rw [if_neg e]
      by_cases c : b.size - j ≤ i
      · rw [if_pos c, if_pos (by (first | lia | omega))]
      · rw [if_neg c, if_neg (by (first | lia | omega))]
theorem rv_step {b : Array UInt8} {n i : Nat} (hb : b.size = n) (hi : i < n) : (rvA b i).setIfInBounds ((0 : Int) + n - 1 - i).toNat ((b.toList.getD ((0 : Int) + i).toNat 0).toNat : Int).toNat.toUInt8 = rvA b (i + 1) := by
  subst hb
  rw [← rvA_succ b i hi]
  congr 1
  · (first | lia | omega)
  · rw [show ((0 : Int) + i).toNat = i by (first | lia | omega), Int.toNat_natCast, getElem!_pos b i hi, List.getD_eq_getElem?_getD, List.getElem?_eq_getElem (by rw [Array.length_toList]; exact hi)]
    simp
theorem range_smallB {b : Array UInt8} {n : Nat} (hb : b.size = n) (h0 : 0 < n) (hn : n < 1000) : Builtin.Range.small 0 (b.size : Int) (n : Int) = true := by
  unfold Builtin.Range.small
  rw [hb, rangeSize_pos (by (first | lia | omega)) (by (first | lia | omega))]
  have : ((n : Int) + n - 1) = (n - 1) + 1 * n := by (first | lia | omega)
  rw [this, Int.add_mul_ediv_right _ _ (by (first | lia | omega)), Int.ediv_eq_zero_of_lt (by (first | lia | omega)) (by (first | lia | omega))]
  simp only [Builtin.Range.rangeFitsLong, Bool.and_eq_true, Bool.or_eq_true, decide_eq_true_eq, beq_iff_eq]
  rw [if_pos (show (n : Int) > 0 by (first | lia | omega))]
  simp only [Bool.and_eq_true, decide_eq_true_eq]
  (first | lia | omega)
theorem range_once {b : Array UInt8} {n : Nat} (hb : b.size = n) (h0 : 0 < n) : Builtin.Range.rangeSize 0 (b.size : Int) (n : Int) = ((1 : Nat) : Int) := by
  rw [hb, rangeSize_pos (by (first | lia | omega)) (by (first | lia | omega))]
  have : ((n : Int) + n - 1) = (n - 1) + 1 * n := by (first | lia | omega)
  rw [this, Int.add_mul_ediv_right _ _ (by (first | lia | omega)), Int.ediv_eq_zero_of_lt (by (first | lia | omega)) (by (first | lia | omega))]; rfl
theorem rvA_all (b : Array UInt8) : rvA b b.size = b.reverse := by
  apply Array.ext
  · simp [rvA_size]
  · intro i h1 h2
    have hi : i < b.size := by rw [rvA_size] at h1; exact h1
    simp only [rvA, Array.getElem_map, Array.getElem_range, Array.getElem_reverse]
    rw [if_pos (by (first | lia | omega)), getElem!_pos b (b.size - 1 - i) (by (first | lia | omega))]
section
variable {prog : Program} {w : World} {A : Around} {E : Value → Shared → Prop} {s : Shared} {env : Env} {h₀ : Heap} {target : PySem.Expr} {body : List Stmt} {Q : Flow → Shared → Prop}
theorem rangeS_G {r : Addr} {a b st : Int} {t u v : Tok} {n : Nat} {news : List (Addr × Obj)} {m : Str → Option Value} (J : Nat → (Str → Option Value) → List (Addr × Obj) → Prop)
    (hh : A.handled = none) (F : Fr h₀ env.locals s.heap m) (N : News h₀ env.locals s.heap news) (hG : AllBare s.gens) (hr : IsRange s.heap r a b st t u v) (hsm : Builtin.Range.small a b st = true) (hn : Builtin.Range.rangeSize a b st = ((n : Nat) : Int))
    (h0 : J 0 m news)
    (step : ∀ I : Addr, (∀ q ∈ news, q.1 < I) → ∀ i t m₁ news₁ h₁ tk₁ gn₁ o, i < n → J i m₁ news₁ → (∀ q ∈ news₁, q.1 ≠ I) → AllBare gn₁ → Fr h₀ env.locals h₁ m₁ → News h₀ env.locals h₁ ((I, o) :: news₁) →
      wpAny (model prog w) A (assign target env (.int (a + (i : Int) * st) t)) (fun _ s₃ => wpAny (model prog w) A (execs body env)
        (StepG h₀ env.locals I o [] (J (i + 1)) { s with heap := h₁, toks := tk₁, gens := gn₁ }) E s₃) E { s with heap := h₁, toks := tk₁, gens := gn₁ })
    (fin : ∀ h' tk gn m' news', Fr h₀ env.locals h' m' → News h₀ env.locals h' news' → AllBare gn → J n m' news' → Q .next { s with heap := h', toks := tk, gens := gn }) :
    wpAny (model prog w) A (pyIter (.ref r)) (fun it s₂ => TurnsG prog w A h₀ env target body Q E it s₂) E s := by
  refine wpAny_pyIter_range hr hsm ?_
  refine ⟨s.heap.objs.size, [], n, _, _, _, m, news, J, KTurns.ofWalks (Walks.range hh s.heap.objs.size a st n).bound (fun i v s Q E st' q => letGo_range st' q), Nat.ne_of_lt F.ns.lt, next_is_new F, ?_, F.keeps fun _ _ e => Heap.get?_push_of_some _ e, N.grown fun _ _ e => Heap.get?_push_of_some _ e, (fun _ h => nomatch h), (fun p hp => Nat.ne_of_lt (Heap.lt_size (N p hp).1)), hG, (fun i h st' => ⟨_, st'⟩), h0, ?_, fun h' tk gn m' news' F' N' _ hG' hJ => fin h' tk gn m' news' F' N' hG' hJ⟩
  · show IsRangeIter _ _ _ _ _; rw [hn]; simpa using Heap.get?_push_size _ rfl
  · rintro i v m₁ news₁ h₁ tk₁ gn₁ o hi ⟨_, t', rfl⟩ hJ _ hni hG' F₁ N₁
    exact step _ (fun p hp => Heap.lt_size (N p hp).1) i t' m₁ news₁ h₁ tk₁ gn₁ o hi hJ hni hG' F₁ N₁
end
end
section

set_option Elab.async false
set_option maxRecDepth 100000
set_option maxHeartbeats 8000000

def ConC (w : World) (p : Program) (loose : List Str) (mean : ExcName → Option Value) (mg mb : Str → Option Value) (f : Addr) (k : Nat) (vs : List Value) (pre : Heap → Prop) (R : Value → List (Addr × Obj) → Prop) : Prop :=
  ∀ (dp un : Nat) (gd : Option (List Code)) (cn : Str) (cs : Scope) (a : Addr) (ccd : Value) (cl : List (Str × Addr)) (outer : List Env) (A₀ : Around) (base h₀ : Heap) (L : Addr) (m : Str → Option Value) (s : Shared) (Q E : Value → Shared → Prop),
    Below A₀ base outer h₀ → Fr h₀ L s.heap m → (hd.heap_1 w.params).In h₀ → Top p loose mean mg mb h₀ → pre s.heap → cs.kind = .function →
    dp + k < recursionLimit → un + 8 * k < cLine →
    (∀ (v : Value) (h' : Heap) (tk' : Nat) (gn' : Array GenState) (tl : List (Addr × Obj)), R v tl → Fr h₀ L h' m → News h₀ L h' tl → (∀ b o, s.heap.get? b = some o → h'.get? b = some o) → (∀ p ∈ tl, s.heap.get? p.1 = none) → AllBare gn' → Q v { s with heap := h', toks := tk', gens := gn' }) →
    AllBare s.gens →
    wpC (model PySem.Challenge.rw_zn0010_01.row.prog w) (ktrTop dp un gd cn cs L a ccd cl outer) (call (.ref f) vs) Q E s

set_option hygiene false in
local macro_rules | `(tactic| walk_at "exec For Name Call cons nil") => `(tactic| (
  rename Fr _ _ _ _ => lF'
  (with_unfolding_all (refine' For_G lF' ?_))
  k_whole))
local macro_rules | `(tactic| walk_at "eval Name") => `(tactic| (k_dflt (refine' ld ?k1 ?k2 ?_; (case k1 => k_asm); (case k2 => assumption))))
set_option hygiene false in
local macro_rules | `(tactic| walk_at "subscriptTail") => `(tactic| (k_dflt (refine KBy.item_N (x := b.toList) (by rw [Array.length_toList]; omega) (by omega) (by rw [Array.length_toList]; omega) ?_)))
set_option hygiene false in
local macro_rules | `(tactic| walk_at "setItem ref int") => `(tactic| (k_dflt (
  refine' ba_setN ?siF ?siN ?siU ?siz ?sia ?sib ?sic ?sid ?_
  case siF => k_asm
  case siN => k_asm
  case siU => k_updF
  case siz => (rw [rvA_size]; omega)
  case sia => omega
  case sib => (rw [rvA_size]; omega)
  case sic => exact Int.natCast_nonneg _
  case sid => exact Int.ofNat_lt.mpr (UInt8.toNat_lt _)
  intro h6 F6 N6
  try dsimp only at N6)))
local macro_rules | `(tactic| walk_at "call type:bytes") => `(tactic| (k_dflt (refine' ba_bytesN ?N ?hm ?z ?_; (case N => k_asm); (case hm => k_mem); (case z => (rw [Array.size_reverse, sizeLine_eq]; omega)))))
def SwapJ (S : Addr) (b : Array UInt8) (n : Nat) (t u : Tok) (i : Nat) (m : Str → Option Value) (news : List (Addr × Obj)) : Prop :=
  m "swapped_data" = some (.ref S) ∧ m "data" = some (.bytes b t) ∧ m "width" = some (.int n u) ∧ news = [(S, baObj (rvA b (if i = 0 then 0 else n)))]
def SwapK (S I : Addr) (o : Obj) (b : Array UInt8) (n : Nat) (t u v : Tok) (j : Nat) (m : Str → Option Value) (news : List (Addr × Obj)) : Prop :=
  m "swapped_data" = some (.ref S) ∧ m "data" = some (.bytes b t) ∧ m "width" = some (.int n u) ∧ m "i" = some (.int 0 v) ∧ news = [(I, o), (S, baObj (rvA b j))]
theorem swap_con {w p loose mean mg mb} {b : Array UInt8} {n : Nat} {t u : Tok} (hb : b.size = n) (h0 : 0 < n) (hn : n < 1000) :
    ConC w p loose mean mg mb 91 2 [.bytes b t, .int n u] any (scal fun v => ∃ t, v = .bytes b.reverse t) := by
  (unfold ConC; k_fill; intro dp un gd cn cs a ccd cl outer A₀ base h₀ L m s Q E B F X T hp hk hd hu hret hG; refine wpC.call ?_; (refine' codeC.defG ?k1 ?k2 ?k3 (News.nil) ?k5 ?kA ?kF ?kK ?k6 ?k7 ?k8 ?k9 ?kB ?_ ?c2 ?c3 ?c4 ?c5; (case kA => exact rfl); (case kF => exact rfl); (case kK => assumption); (case k1 => k_asm); (case k2 => k_asm); (case k3 => k_asm); (case k5 => k_asm); (case k6 => k_is); (case k7 => k_is); (case k8 => ktr_room); (case k9 => exact BindsTo.of_eq rfl); (case c5 => decide); (case kB => exact locs rfl); (case c2 => exact rfl); (case c3 => exact rfl); (case c4 => exact rfl); k_whole; intro g L' h' FG' F' N' B' X' T' GS; (try dsimp only); (try k_fold)))
  refine wpC.execs (wpC.assign (wpC.callExpr ?_ rfl) rfl)
  k_steps
  refine wpC.callTypeE (.of ?_) rfl rfl
  k_steps
  refine ba_callN (by k_asm) (by k_asm) (by omega) ?_
  intro S9 h9 F9 N9 l9
  k_steps
  refine .of ?_
  k_steps
  rename IsRange _ _ _ _ _ _ _ _ => hr9
  refine' rangeS_G (n := 1) (SwapJ S9 b n t u) rfl ?f ?nn hG hr9 ?sm ?sz ?h0 ?step ?fin
  case f => k_asm
  case nn => k_asm
  case sm => exact range_smallB hb h0 hn
  case sz => exact range_once hb h0
  case h0 => exact ⟨rfl, rfl, rfl, by rw [if_pos rfl, ← rvA_zero, hb]⟩
  case fin =>
    rintro h66 tk66 gn66 m66 news66 F66 N66 hG66 ⟨f1, f2, f3, rfl⟩
    rw [if_neg (by decide), ← hb, rvA_all] at N66
    k_steps
    rename News g _ _ _ => N6
    rename Fr g _ _ _ => F6
    rename Fr h₀ L _ m => kF
    have hend := con_end GS F6 News.nil
    exact hret _ _ _ _ [] ⟨rfl, _, rfl⟩ kF News.nil hend.1 hend.2 hG66
  intro I8 lI8 i8 t8 m8 news8 h8 tk8 gn8 o8 hi8 hJ8 hni8 hG8 F8 N8
  obtain rfl : i8 = 0 := by omega
  obtain ⟨g1, g2, g3, rfl⟩ := hJ8
  rw [if_pos rfl] at N8 hni8
  rw [show (0 : Int) + ((0 : Nat) : Int) * (n : Int) = 0 by simp]
  k_steps
  rename IsRange _ _ _ _ _ _ _ _ => hr7
  refine' rangeS_G (n := n) (SwapK S9 I8 o8 b n t u t8) rfl ?f7 ?nn7 hG8 hr7 ?sm7 ?sz7 ?h07 ?step7 ?fin7
  case f7 => k_asm
  case nn7 => k_asm
  case sm7 => exact small_one (by omega) (by omega) (by omega) (by omega)
  case sz7 => (rw [rangeSize_nat]; omega)
  case h07 => exact ⟨g1, g2, g3, rfl, rfl⟩
  case fin7 =>
    rintro h66 tk66 gn66 m66 news66 F66 N66 hG66 ⟨f1, f2, f3, f4, rfl⟩
    have e8 : @Ne Nat I8 S9 := fun e => hni8 _ (.head _) e.symm
    k_steps
    rename News g _ _ _ => N6
    rename Fr g _ _ _ => F6
    refine' stepG_next F6 ?n8 ?r8 ?i8 hG66 ⟨f1, f2, f3, ?e8⟩
    case n8 => exact N6
    case r8 => exact fun _ h => nomatch h
    case i8 => k_all
    case e8 => rw [if_neg (by decide)]
  intro I7 lI7 i7 t7 m7 news7 h7 tk7 gn7 o7 hi7 hJ7 hni7 hG7 F7 N7
  obtain ⟨f1, f2, f3, f4, rfl⟩ := hJ7
  rw [show (0 : Int) + (i7 : Int) * 1 = i7 by simp]
  have e6 : @Ne Nat I7 I8 := fun e => hni7 _ (.head _) e.symm
  have e7 : @Ne Nat I7 S9 := fun e => hni7 _ (.tail _ (.head _)) e.symm
  have e8 : @Ne Nat I8 S9 := fun e => hni8 _ (.head _) e.symm
  k_steps
  rename News g _ _ _ => N6
  rename Fr g _ _ _ => F6
  refine' stepG_next F6 N6 ?r7 ?i7 hG7 ?J7
  case r7 => exact fun _ h => nomatch h
  case i7 => k_all
  case J7 => exact ⟨f1, f2, f3, f4, by rw [rv_step hb hi7]⟩
end
section

set_option Elab.async false
set_option maxRecDepth 100000
set_option maxHeartbeats 8000000
open PyProof.Rows.LCg
section
variable {prog : Program} {w : World} {A : Around} {E : Value → Shared → Prop} {s : Shared} {h₀ : Heap} {L : Addr} {m : Str → Option Value} {env : Env}
/-- what evaluating a zip of two tuples has to leave for a comprehension with a quiet element -/
inductive ZSrc (prog : Program) (w : World) (A : Around) (h₀ : Heap) (L : Addr) (m : Str → Option Value) (env : Env) (elt : PySem.Expr) (a b : Str) (scope : Scope) (cl : List (Str × Addr)) (Q : Value → Shared → Prop) : Value → Shared → Prop
  | mk : ∀ {s₁ : Shared}, ∀ z TI TO i1 i2 t1 t2 xs ys news, ∀ Y : Nat → Value → Prop, (A.handled = none) → (ZipSt s₁.heap z TI TO i1 i2 t1 t2 xs ys .none 0 0) → (ZipApart z TI TO i1 i2 t1 t2) → (xs.size = ys.size) → (xs.size ≤ sizeLine) → (Fr h₀ L s₁.heap m) → (News h₀ L s₁.heap news) → (∀ c ∈ [z, TI, TO, i1, i2], L < c ∧ ∀ q ∈ news, q.1 ≠ c) → (∀ i va vb C oC m₂ h tk (E' : Value → Shared → Prop), xs[i]? = some va → ys[i]? = some vb → NsObj oC m₂ → m₂ a = some va → m₂ b = some vb → Fr h₀ L h m → News h₀ L h ((C, oC) :: news) → (∀ q ∈ news, q.1 ≠ C) →
      wpAny (model prog w) A (eval elt (compEnvC scope cl C env)) (fun y s' => Y i y ∧ ∃ h' tk', s' = { s₁ with heap := h', toks := tk' } ∧ ∀ c o, h.get? c = some o → h'.get? c = some o) E' { s₁ with heap := h, toks := tk }) → (∀ D ys' h tk, Fr h₀ L h m → News h₀ L h ((D, lst ys') :: news) → (∀ q ∈ news, q.1 < D) → ys'.length = xs.size → (∀ i y, ys'[i]? = some y → Y i y) → Q (.ref D) { s₁ with heap := h, toks := tk }) → ZSrc prog w A h₀ L m env elt a b scope cl Q (.ref z) s₁

inductive ZAt (h₀ : Heap) (L C D : Addr) (m : Str → Option Value) (news : List (Addr × Obj)) (Y : Nat → Value → Prop) (z TI TO i1 i2 t1 t2 : Addr) (xs ys : Array Value) (s₂ : Shared) : Nat → Shared → Prop
  | mk : ∀ h' tk i ys' m', i ≤ xs.size → ys'.length = i → (∀ j y, ys'[j]? = some y → Y j y) → ZipSt h' z TI TO i1 i2 t1 t2 xs ys .none i i → Fr h₀ L h' m → h'.Ns C m' → News h₀ L h' ((D, lst ys') :: news) →
    ZAt h₀ L C D m news Y z TI TO i1 i2 t1 t2 xs ys s₂ (xs.size + 1 - i) { s₂ with heap := h', toks := tk }
theorem block_Z {elt iter : PySem.Expr} {a b : Str} {pa pb tp : Pos} {kk : Nat} {scope : Scope} {cl : List (Str × Addr)} {pos : Pos} {s₂ : Shared} {z TI TO i1 i2 t1 t2 : Addr} {xs ys : Array Value} {news : List (Addr × Obj)} {Y : Nat → Value → Prop} {RR : Value → Addr → Result → Shared → Prop}
    (hcell : ∀ y ∈ scope.names, y.2 ≠ .cell) (hkind : scope.kind = .function) (hxa : scope.names.lookup a = some .local) (hxb : scope.names.lookup b = some .local) (hab : a ≠ b)
    (hh : A.handled = none) (Z : ZipSt s₂.heap z TI TO i1 i2 t1 t2 xs ys .none 0 0) (D : ZipApart z TI TO i1 i2 t1 t2) (hxy : xs.size = ys.size) (hsz : xs.size ≤ sizeLine)
    (F : Fr h₀ L s₂.heap m) (N : News h₀ L s₂.heap news) (hap : ∀ c ∈ [z, TI, TO, i1, i2], L < c ∧ ∀ q ∈ news, q.1 ≠ c)
    (elem : ∀ i va vb C oC m₂ h tk (E' : Value → Shared → Prop), xs[i]? = some va → ys[i]? = some vb → NsObj oC m₂ → m₂ a = some va → m₂ b = some vb → Fr h₀ L h m → News h₀ L h ((C, oC) :: news) → (∀ q ∈ news, q.1 ≠ C) →
      wpAny (model prog w) A (eval elt (compEnvC scope cl C env)) (fun y s' => Y i y ∧ ∃ h' tk', s' = { s₂ with heap := h', toks := tk' } ∧ ∀ c o, h.get? c = some o → h'.get? c = some o) E' { s₂ with heap := h, toks := tk })
    (hRR : ∀ D C h tk m' ys', Fr h₀ L h m → News h₀ L h ((D, lst ys') :: news) → (∀ q ∈ news, q.1 < D) → h.Ns C m' → h₀.get? C = none → h₀.get? D = none → C ≠ L → D ≠ L → C ≠ D → (∀ q ∈ news, q.1 ≠ C) → ys'.length = xs.size → (∀ i y, ys'[i]? = some y → Y i y) →
      RR (.ref D) C (.ok .next) { s₂ with heap := h, toks := tk }) :
    wpAny (model prog w) A (newList []) (fun acc s₃ => wpAny (model prog w) A (newFunctionEnv scope env.globals cl [] env.qual none .none (some env)) (fun cenv s₄ =>
      codeAny (model prog w) A (.compStart (.ListComp elt [⟨.Tuple [.Name a pa, .Name b pb] kk tp, iter, [], 0⟩] scope pos) 0 (.ref z) acc { cenv with scope := relabel scope env }) (RR acc cenv.locals) s₄) E s₃) E s₂ := by
  refine wpAny_newObj_type (wpAny_newFunctionEnv hcell (by intro y hy; simp at hy) (fun h₁ hns₁ hsb₁ => ?_) hkind)
  dsimp only at hns₁ hsb₁ ⊢
  generalize hH2 : s₂.heap.push { cls := .type "list", dict := none, data := .seq ([] : List Value).toArray } = H2 at hns₁ hsb₁ ⊢
  have hC : H2.objs.size = s₂.heap.objs.size + 1 := by rw [← hH2, Heap.size_push]
  have below : ∀ c, c < s₂.heap.objs.size → c ≠ H2.objs.size ∧ c ≠ s₂.heap.objs.size := fun c hc => ⟨by rw [hC]; exact Nat.ne_of_lt (Nat.lt_succ_of_lt hc), Nat.ne_of_lt hc⟩
  have hDC : s₂.heap.objs.size ≠ H2.objs.size := by rw [hC]; exact Nat.ne_of_lt (Nat.lt_succ_self _)
  have old : ∀ c o, s₂.heap.get? c = some o → h₁.get? c = some o := fun c o e => hsb₁.extBut c o (below c (Heap.lt_size e)).1 (Heap.get?_push_of_some _ (hH2 ▸ Heap.get?_push_of_some _ e))
  have hacc : h₁.get? s₂.heap.objs.size = some (lst []) := hsb₁.extBut _ _ hDC (Heap.get?_push_of_some _ (hH2 ▸ Heap.get?_push_size _ rfl))
  have fresh₀ : ∀ c, s₂.heap.objs.size ≤ c → h₀.get? c = none := fun c hc => Heap.get?_none_of_le (Nat.le_trans F.above (Nat.le_trans (Nat.le_of_lt F.ns.lt) hc))
  have hD₀ : h₀.get? s₂.heap.objs.size = none := fresh₀ _ (Nat.le_refl _)
  have hC₀ : h₀.get? H2.objs.size = none := fresh₀ _ (by rw [hC]; exact Nat.le_succ _)
  have hDL : s₂.heap.objs.size ≠ L := Ne.symm (below L F.ns.lt).2
  have hCL : H2.objs.size ≠ L := Ne.symm (below L F.ns.lt).1
  have W := zipt_walks (prog := prog) (w := w) hh z TI TO i1 i2 t1 t2 D xs ys hxy
  have zlt : ∀ c ∈ [z, TI, TO, i1, i2, t1, t2], c < s₂.heap.objs.size := by
    intro c hc
    obtain ⟨q0, q1, ⟨_, _, q2⟩, ⟨_, q3, _⟩, ⟨_, q4, _⟩, ⟨_, q5, _⟩, ⟨_, q6, _⟩⟩ := Z
    simp only [List.mem_cons, List.not_mem_nil, or_false] at hc
    rcases hc with e | e | e | e | e | e | e
    · rw [e]; exact Heap.lt_size q0
    · rw [e]; exact Heap.lt_size q1
    · rw [e]; exact Heap.lt_size q2
    · rw [e]; exact Heap.lt_size q3
    · rw [e]; exact Heap.lt_size q4
    · rw [e]; exact Heap.lt_size q5
    · rw [e]; exact Heap.lt_size q6
  have wrin : ∀ c ∈ [z, TO, i1, i2], c ∈ [z, TI, TO, i1, i2] := by
    intro c hc
    simp only [List.mem_cons, List.not_mem_nil, or_false] at hc ⊢
    rcases hc with e | e | e | e <;> simp [e]
  have Loff : L ∉ [z, TO, i1, i2] := fun hm => Nat.lt_irrefl _ (hap L (wrin L hm)).1
  have h0off : ∀ c o, h₀.get? c = some o → c ∉ [z, TO, i1, i2] := fun c o e hm => Nat.lt_irrefl _ (Nat.lt_trans (Nat.lt_of_lt_of_le (Heap.lt_size e) F.above) (hap c (wrin c hm)).1)
  have noff : ∀ q ∈ news, q.1 ∉ [z, TO, i1, i2] := fun q hq hm => (hap q.1 (wrin _ hm)).2 q hq rfl
  have nlt : ∀ q ∈ news, q.1 < s₂.heap.objs.size := fun q hq => Heap.lt_size (N q hq).1
  have Doff : s₂.heap.objs.size ∉ [z, TO, i1, i2] := fun hm => Nat.lt_irrefl _ (zlt _ (W.sub _ hm))
  have Coff : H2.objs.size ∉ [z, TO, i1, i2] := fun hm => by have := zlt _ (W.sub _ hm); rw [hC] at this; exact Nat.lt_irrefl _ (Nat.lt_of_succ_lt this)
  have loop : ∀ s₃ : Shared, s₃ = { s₂ with heap := h₁, toks := s₂.toks + ([] : List (Str × Value)).length } →
      codeAny (model prog w) A (.compLoop (.ListComp elt [⟨.Tuple [.Name a pa, .Name b pb] kk tp, iter, [], 0⟩] scope pos) 0 (.ref z) (.ref s₂.heap.objs.size) (compEnvC scope cl H2.objs.size env)) (RR (.ref s₂.heap.objs.size) H2.objs.size) s₃ := by
    rintro s₃ rfl
    refine kcp_loop
      (ZAt h₀ L H2.objs.size s₂.heap.objs.size m news Y z TI TO i1 i2 t1 t2 xs ys s₂) ?_ (xs.size + 1)
      (.mk h₁ _ 0 [] _ (Nat.zero_le _) rfl (fun j y e => by simp at e) (Z.keep fun c o _ e => old c o e) (F.keeps old) hns₁ fun p hp => ?_)
    · intro k s' hJ0
      refine ZAt.casesOn hJ0 ?_
      clear hJ0 s' k
      intro h' tk i ys' m' hi hyl hY hst' F' hn' N'
      by_cases hlt : i < xs.size
      · refine W.item i _ _ _ hlt hst' fun T vals h₂ tk₂ hP hT hMd hk₂ => ?_
        refine hide fun CC hCC => ?_
        obtain ⟨va, vb, hxi, hyi, rfl⟩ := hP
        refine hCC ?_
        clear hCC
        refine W.go [.Name a pa, .Name b pb] kk tp i T _ _ _ hMd fun h₃ hst₃ hk₃ => ?_
        have hT₃ : h₃.IsTuple T #[va, vb] := hT.at fun o e => hk₃ T o (W.apart i T _ hMd) e
        have up₃ : ∀ c o, c ∉ [z, TO, i1, i2] → h'.get? c = some o → h₃.get? c = some o := fun c o hc e => hk₃ c o hc (hk₂ c o hc e)
        refine kcp_assign (env := compEnvC scope cl H2.objs.size env) hh hT₃ (lookup_relabel_local hxa) (lookup_relabel_local hxb) (by simp [compEnvC, relabel, hkind]) (hn'.at' fun o e => up₃ _ o Coff e) fun h₄ tk₄ hn₄ hs₄ => ?_
        have up : ∀ c o, c ∉ [z, TO, i1, i2] → c ≠ H2.objs.size → h'.get? c = some o → h₄.get? c = some o := fun c o h1 h2 e => hs₄ c o h2 (up₃ c o h1 e)
        have hst₄ : ZipSt h₄ z TI TO i1 i2 t1 t2 xs ys .none (i + 1) (i + 1) := hst₃.keep fun c o hc e => hs₄ c o (fun q => by have := zlt c hc; rw [show c = H2.objs.size from q, hC] at this; exact Nat.lt_irrefl _ (Nat.lt_of_succ_lt this)) e
        obtain ⟨oC, heC, hoC⟩ := ns_obj hn₄
        have F₄ : Fr h₀ L h₄ m := ⟨F'.ns.at' fun o e => up _ o Loff (Ne.symm hCL) e, fun c o e => up c o (h0off c o e) (fun q => by rw [q, hC₀] at e; cases e) (F'.keep c o e), F'.above⟩
        have N₄ : News h₀ L h₄ ((s₂.heap.objs.size, lst ys') :: news) := fun q hq => by
          have z := N' q hq
          refine ⟨up _ _ ?_ ?_ z.1, z.2⟩
          · rcases List.mem_cons.mp hq with rfl | hq
            · exact Doff
            · exact noff q hq
          · rcases List.mem_cons.mp hq with rfl | hq
            · exact hDC
            · exact (below _ (nlt q hq)).1
        refine wpAny_mono (elem i va vb H2.objs.size oC _ h₄ tk₄ _ hxi hyi hoC (by simp [hab]) (by simp) F₄ (fun q hq => ?_) (fun q hq => (below _ (nlt q hq)).1)) (fun y s₅ h₅ => ?_) fun _ _ e => e
        · rcases List.mem_cons.mp hq with rfl | hq
          · exact ⟨heC, hCL, hC₀⟩
          · exact N₄ q (List.mem_cons_of_mem _ hq)
        · refine hide fun CC hCC => ?_
          obtain ⟨hYy, h₅, tk₅, rfl, hk₅⟩ := h₅
          refine hCC ?_
          clear hCC
          have zD := hk₅ _ _ (N₄ (s₂.heap.objs.size, lst ys') List.mem_cons_self).1
          refine append_at (hsz := by show ys'.toArray.size ≤ sizeLine; rw [List.size_toArray, hyl]; exact Nat.le_trans hi hsz) zD fun h₆ hs₆ hD₆ => ?_
          refine ⟨xs.size + 1 - (i + 1), by (first | lia | omega), .mk h₆ tk₅ (i + 1) (ys' ++ [y]) _ hlt (by rw [List.length_append, List.length_singleton, hyl]) ?_ ?_ ((F₄.keeps hk₅).change hs₆ hDL hD₀) ((hn₄.keeps hk₅).sameBut hs₆ (Ne.symm hDC)) ?_⟩
          · intro j y' e
            by_cases hj : j < ys'.length
            · rw [List.getElem?_append_left hj] at e; exact hY j y' e
            · rw [List.getElem?_append_right (Nat.not_lt.mp hj)] at e
              have hj0 : j - ys'.length = 0 := by
                have := (List.getElem?_eq_some_iff.mp e).1
                simpa using this
              rw [hj0] at e
              cases e
              have : j = i := by (first | lia | omega)
              subst this; exact hYy
          · exact (hst₄.keep fun c o _ e => hk₅ c o e).keep fun c o hc e => hs₆.extBut c o (fun q => Nat.lt_irrefl _ (q ▸ zlt c hc)) e
          · intro q hq
            rcases List.mem_cons.mp hq with rfl | hq
            · exact ⟨hD₆.trans (congrArg some (lst_snoc ys' y)), hDL, hD₀⟩
            · have z := N₄ q (List.mem_cons_of_mem _ hq)
              exact ⟨hs₆.extBut _ _ (below _ (nlt q hq)).2 (hk₅ _ _ z.1), z.2⟩
      · have hin : i = xs.size := Nat.le_antisymm hi (Nat.not_lt.mp hlt)
        subst hin
        refine W.done _ _ _ hst' fun h₂ tk₂ hk₂ => ?_
        refine hRR _ _ h₂ tk₂ m' ys' ⟨F'.ns.at' fun o e => hk₂ _ o Loff e, fun c o e => hk₂ c o (h0off c o e) (F'.keep c o e), F'.above⟩ (fun q hq => ?_) nlt (hn'.at' fun o e => hk₂ _ o Coff e) hC₀ hD₀ hCL hDL (Ne.symm hDC) (fun q hq => (below _ (nlt q hq)).1) hyl hY
        have z := N' q hq
        refine ⟨hk₂ _ _ ?_ z.1, z.2⟩
        rcases List.mem_cons.mp hq with rfl | hq
        · exact Doff
        · exact noff q hq
    · rcases List.mem_cons.mp hp with rfl | hp
      · exact ⟨hacc, hDL, hD₀⟩
      · exact ⟨old _ _ (N p hp).1, (N p hp).2⟩
  exact codeAny_compStart_list (loop _ rfl) (wpAny_pyIter_zip (old _ _ Z.z) (loop _ rfl))
theorem ListComp_Z {elt iter : PySem.Expr} {a b : Str} {pa pb tp : Pos} {kk : Nat} {scope : Scope} {cl : List (Str × Addr)} {pos : Pos} {Q : Value → Shared → Prop} (_F₀ : Fr h₀ L s.heap m)
    (hclos : closureFor scope env = pure cl) (hcell : ∀ y ∈ scope.names, y.2 ≠ .cell) (hkind : scope.kind = .function)
    (hnames : ∀ y ∈ scope.names, y.2 = .local → scope.names.lookup y.1 = some .local) (hxa : scope.names.lookup a = some .local) (hxb : scope.names.lookup b = some .local) (hab : a ≠ b)
    (h : wpAny (model prog w) A (eval iter env) (ZSrc prog w A h₀ L m env elt a b scope cl Q) E s)
    (hs : ∀ x, foldedSetIterable iter env x = pure x := by intro _; rfl) :
    wpAny (model prog w) A (eval (.ListComp elt [⟨.Tuple [.Name a pa, .Name b pb] kk tp, iter, [], 0⟩] scope pos) env) Q E s := by
  rw [eval_ListComp]
  refine wpAny_comprehension_free (use := none) rfl hs hclos hkind hnames (wpAny_mono h (fun xv s₂ h₁ => ?_) fun _ _ e => e)
  obtain ⟨z, TI, TO, i1, i2, t1, t2, xs, ys, news, Y, hh, Z, D, hxy, hsz, F, N, hap, elem, fin⟩ := h₁
  refine wpAny_pyIter_zip Z.z ?_
  refine block_Z hcell hkind hxa hxb hab hh Z D hxy hsz F N hap elem ?_
  intro D C h' tk m' ys' F' N' nlt hn hC₀ hD₀ hCL hDL hCD offC hyl hY
  refine ⟨m', hn, fun h'' hs'' => fin D ys' h'' tk (F'.change hs'' hCL hC₀) (fun q hq => ?_) nlt hyl hY⟩
  refine ⟨hs''.extBut _ _ ?_ (N' q hq).1, (N' q hq).2⟩
  rcases List.mem_cons.mp hq with rfl | hq
  · exact Ne.symm hCD
  · exact offC q hq
end
end
section

set_option Elab.async false
set_option maxRecDepth 100000
set_option maxHeartbeats 8000000
open PyProof.Rows.LCg
section
variable {prog : Program} {w : World} {A : Around} {E : Value → Shared → Prop} {s : Shared} {h₀ : Heap} {L : Addr} {m : Str → Option Value} {env : Env}
def MulEl (prog : Program) (w : World) (A : Around) (h₀ : Heap) (L : Addr) (m : Str → Option Value) (env : Env) (elt : PySem.Expr) (a b : Str) (scope : Scope) (cl : List (Str × Addr)) (news : List (Addr × Obj)) (s : Shared) (x y : Int) : Prop :=
  ∀ tx ty C oC m₂ h tk (E' : Value → Shared → Prop), NsObj oC m₂ → m₂ a = some (.int x tx) → m₂ b = some (.int y ty) → Fr h₀ L h m → News h₀ L h ((C, oC) :: news) → (∀ q ∈ news, q.1 ≠ C) →
    wpAny (model prog w) A (eval elt (compEnvC scope cl C env)) (fun v s' => (∃ t, v = .int (x * y) t) ∧ ∃ h' tk', s' = { s with heap := h', toks := tk' } ∧ ∀ c o, h.get? c = some o → h'.get? c = some o) E' { s with heap := h, toks := tk }
theorem zipC3 {elt : PySem.Expr} {a b : Str} {scope : Scope} {cl : List (Str × Addr)} {Q : Value → Shared → Prop} {l1 l2 : Addr} {x0 x1 x2 y0 y1 y2 : Int} {u0 u1 u2 v0 v1 v2 : Tok} {c1 c2 : Nat} {news : List (Addr × Obj)}
    (hh : A.handled = none) (F : Fr h₀ L s.heap m) (N : News h₀ L s.heap news)
    (h1 : (l1, tup [.int x0 u0, .int x1 u1, .int x2 u2] c1) ∈ news) (h2 : (l2, tup [.int y0 v0, .int y1 v1, .int y2 v2] c2) ∈ news)
    (elem : ∀ x y, (x = x0 ∧ y = y0) ∨ (x = x1 ∧ y = y1) ∨ (x = x2 ∧ y = y2) → MulEl prog w A h₀ L m env elt a b scope cl news s x y)
    (fin : ∀ D t0 t1 t2 h tk, Fr h₀ L h m → News h₀ L h ((D, lst [.int (x0 * y0) t0, .int (x1 * y1) t1, .int (x2 * y2) t2]) :: news) → (∀ q ∈ news, q.1 < D) → Q (.ref D) { s with heap := h, toks := tk }) :
    wpAny (model prog w) A (call (.type "zip") [.ref l1, .ref l2]) (ZSrc prog w A h₀ L m env elt a b scope cl Q) E s := by
  have i1 : s.heap.IsTuple l1 #[.int x0 u0, .int x1 u1, .int x2 u2] := ⟨_, (N _ h1).1, rfl, _, rfl⟩
  have i2 : s.heap.IsTuple l2 #[.int y0 v0, .int y1 v1, .int y2 v2] := ⟨_, (N _ h2).1, rfl, _, rfl⟩
  refine call_zipt i1 i2 fun h' z TI TO j1 j2 Z D hb hk => ?_
  refine ⟨z, TI, TO, j1, j2, l1, l2, _, _, news, fun j v => ∃ t, v = .int ([x0 * y0, x1 * y1, x2 * y2].getD j 0) t, hh, Z, D, rfl, by size_fits, F.keeps hk, N.grown hk, ?_, ?_, ?_⟩
  · intro b hb'
    have hl := (hb b hb').1
    exact ⟨Nat.lt_of_lt_of_le F.ns.lt hl, fun q hq e => Nat.lt_irrefl _ (Nat.lt_of_lt_of_le (Heap.lt_size (N q hq).1) (e ▸ hl))⟩
  · intro i va vb C oC m₂ h tk E' e1 e2 hC ha hb' F' N' off
    rcases i with _ | _ | _ | i
    · cases e1; cases e2; exact elem _ _ (.inl ⟨rfl, rfl⟩) _ _ C oC m₂ h tk E' hC ha hb' F' N' off
    · cases e1; cases e2; exact elem _ _ (.inr (.inl ⟨rfl, rfl⟩)) _ _ C oC m₂ h tk E' hC ha hb' F' N' off
    · cases e1; cases e2; exact elem _ _ (.inr (.inr ⟨rfl, rfl⟩)) _ _ C oC m₂ h tk E' hC ha hb' F' N' off
    · simp at e1
  · intro D' ys' h tk F' N' hl hlen hY
    obtain ⟨q0, q1, q2, rfl⟩ := len3 hlen
    obtain ⟨t0, rfl⟩ := hY 0 _ rfl
    obtain ⟨t1, rfl⟩ := hY 1 _ rfl
    obtain ⟨t2, rfl⟩ := hY 2 _ rfl
    exact fin D' t0 t1 t2 h tk F' N' hl
end
end
section

set_option Elab.async false
set_option maxRecDepth 100000
abbrev T3 := Int × Int × Int
/-- the marks between the lights -/
def mk (c : Nat → Nat) : Nat → Nat
  | 0 => 0
  | i + 1 => mk c i ^^^ (c i + 1)
def hue (c : Nat → Nat) (i j : Nat) : Nat := (mk c i ^^^ mk c j) - 1
def addT : Option T3 → T3 → Option T3
  | none, t => some t
  | some a, t => some (t.1 + a.1, t.2.1 + a.2.1, t.2.2 + a.2.2)
def plusOf (a b : Nat) : Int := 3 - 2 * stepOf a b
def joinT (a b : Nat) (acc l r : Option T3) : Option T3 :=
  match l, r with
  | some l, some r => if stepOf a b = 0 then acc else addT acc (l.1 * r.1, plusOf a b * (l.2.1 * r.2.1), plusOf a b * (l.2.2 * r.2.2))
  | _, _ => acc
/-- the table of the stretch of span lights from i on -/
def tbs (c : Nat → Nat) (w : Nat → Int) : Nat → Nat → Option T3
  | 0, _ => none
  | 1, i => some (1, 1, w i)
  | s + 2, i => (List.range (s + 1)).attach.foldl (fun acc k => joinT (hue c i (i + k.1 + 1)) (hue c (i + k.1 + 1) (i + s + 2)) acc (tbs c w (k.1 + 1) i) (tbs c w (s + 1 - k.1) (i + k.1 + 1))) none
termination_by s => s
decreasing_by
  · have := List.mem_range.mp k.2; (first | lia | omega)
  · have := List.mem_range.mp k.2; (first | lia | omega)
/-- what the first k cuts leave -/
def part (c : Nat → Nat) (w : Nat → Int) (s i k : Nat) : Option T3 :=
  (List.range k).foldl (fun acc k => joinT (hue c i (i + k + 1)) (hue c (i + k + 1) (i + s)) acc (tbs c w (k + 1) i) (tbs c w (s - 1 - k) (i + k + 1))) none
theorem part_zero (c w s i) : part c w s i 0 = none := rfl
theorem part_succ (c w s i k) : part c w s i (k + 1) = joinT (hue c i (i + k + 1)) (hue c (i + k + 1) (i + s)) (part c w s i k) (tbs c w (k + 1) i) (tbs c w (s - 1 - k) (i + k + 1)) := by
  unfold part
  rw [List.range_succ, List.foldl_append]
  rfl
theorem foldl_attach {α β : Type} (f : β → α → β) : ∀ (l : List α) (b : β), l.attach.foldl (fun acc k => f acc k.1) b = l.foldl f b := by
  intro l b
  rw [List.foldl_subtype (g := f) (by intros; rfl)]
  rw [List.unattach_attach]
theorem part_all (c w s i) : part c w (s + 2) i (s + 1) = tbs c w (s + 2) i := by
  rw [tbs]
  exact (foldl_attach (fun acc k => joinT (hue c i (i + k + 1)) (hue c (i + k + 1) (i + s + 2)) acc (tbs c w (k + 1) i) (tbs c w (s + 1 - k) (i + k + 1))) _ _).symm
theorem mk_lt {c : Nat → Nat} (hc : ∀ i, c i < 3) : ∀ i, mk c i < 4
  | 0 => by show 0 < 4; decide
  | i + 1 => Nat.xor_lt_two_pow (n := 2) (mk_lt hc i) (by have := hc i; (first | lia | omega))
theorem hue_leaf {c : Nat → Nat} (hc : ∀ i, c i < 3) (i : Nat) : hue c i (i + 1) = c i := by
  unfold hue
  show (mk c i ^^^ (mk c i ^^^ (c i + 1))) - 1 = c i
  rw [← Nat.xor_assoc, Nat.xor_self, Nat.zero_xor]; rfl
theorem mk_leaf {c : Nat → Nat} (i : Nat) : mk c i ≠ mk c (i + 1) := by
  show mk c i ≠ mk c i ^^^ (c i + 1)
  intro e
  have : mk c i ^^^ mk c i = mk c i ^^^ (mk c i ^^^ (c i + 1)) := by rw [← e]
  rw [← Nat.xor_assoc, Nat.xor_self, Nat.zero_xor] at this
  (first | lia | omega)
theorem hue_lt {c : Nat → Nat} (hc : ∀ i, c i < 3) (i j : Nat) : hue c i j < 3 := by
  have := Nat.xor_lt_two_pow (n := 2) (mk_lt hc i) (mk_lt hc j)
  unfold hue
  (first | lia | omega)
theorem meet_fin : ∀ a < 4, ∀ b < 4, ∀ d < 4, (a == b || b == d || stepOf ((a ^^^ b) - 1) ((b ^^^ d) - 1) == 0 || (a != d && metHue ((a ^^^ b) - 1) ((b ^^^ d) - 1) == (a ^^^ d) - 1)) = true := by decide
theorem meet {c : Nat → Nat} (hc : ∀ i, c i < 3) {i k j : Nat} (h1 : mk c i ≠ mk c k) (h2 : mk c k ≠ mk c j) (h : ¬ stepOf (hue c i k) (hue c k j) = 0) : mk c i ≠ mk c j ∧ metHue (hue c i k) (hue c k j) = hue c i j :=
by
  have := meet_fin _ (mk_lt hc i) _ (mk_lt hc k) _ (mk_lt hc j)
  simp only [Bool.or_eq_true, beq_iff_eq, Bool.and_eq_true, bne_iff_ne] at this
  rcases this with ((e | e) | e) | e
  · exact absurd e h1
  · exact absurd e h2
  · exact absurd e h
  · exact e
theorem joinT_some {a b : Nat} {acc l r : Option T3} {x : T3} (h : joinT a b acc l r = some x) : acc ≠ none ∨ (l ≠ none ∧ r ≠ none ∧ ¬ stepOf a b = 0) := by
  unfold joinT at h
  split at h
  · split at h
    · exact .inl (by rw [h]; nofun)
    · rename_i hne
      exact .inr ⟨nofun, nofun, hne⟩
  · exact .inl (by rw [h]; nofun)
theorem tbs_marks {c : Nat → Nat} {w : Nat → Int} (hc : ∀ i, c i < 3) : ∀ s i, tbs c w s i ≠ none → mk c i ≠ mk c (i + s) := by
  intro s
  induction s using Nat.strongRecOn with
  | _ s ih =>
    intro i h
    match s, ih, h with
    | 0, _, h => exact absurd (by rw [tbs]) h
    | 1, _, _ => exact mk_leaf i
    | s + 2, ih, h =>
      rw [← part_all] at h
      have key : ∀ k ≤ s + 1, part c w (s + 2) i k ≠ none → mk c i ≠ mk c (i + (s + 2)) := by
        intro k
        induction k with
        | zero => intro _ h; exact absurd (part_zero ..) h
        | succ k ihk =>
          intro hk h
          obtain ⟨x, hx⟩ := Option.ne_none_iff_exists'.mp h
          rw [part_succ] at hx
          rcases joinT_some hx with h1 | ⟨h1, h2, h3⟩
          · exact ihk (by (first | lia | omega)) h1
          · have m1 := ih (k + 1) (by (first | lia | omega)) i h1
            have m2 := ih (s + 2 - 1 - k) (by (first | lia | omega)) (i + k + 1) h2
            rw [show i + k + 1 + (s + 2 - 1 - k) = i + (s + 2) by (first | lia | omega)] at m2
            exact (meet hc m1 m2 h3).1
      exact key (s + 1) (Nat.le_refl _) h
def FitN (B : Nat) (t : T3) : Prop := t.1.natAbs ≤ B ∧ t.2.1.natAbs ≤ B ∧ t.2.2.natAbs ≤ B
theorem plusOf_abs (a b : Nat) : (plusOf a b).natAbs ≤ 3 := by
  unfold plusOf stepOf
  (first | lia | omega)
theorem joinT_fit {a b : Nat} {acc l r : Option T3} {A L R : Nat} (ha : ∀ t, acc = some t → FitN A t) (hl : ∀ t, l = some t → FitN L t) (hr : ∀ t, r = some t → FitN R t) : ∀ t, joinT a b acc l r = some t → FitN (A + 3 * (L * R)) t := by
  intro t h
  have up : ∀ t, FitN A t → FitN (A + 3 * (L * R)) t := fun t ⟨x, y, z⟩ => ⟨by (first | lia | omega), by (first | lia | omega), by (first | lia | omega)⟩
  unfold joinT at h
  split at h
  · rename_i lt rt
    split at h
    · exact up t (ha t h)
    · obtain ⟨l1, l2, l3⟩ := hl lt rfl
      obtain ⟨r1, r2, r3⟩ := hr rt rfl
      have p := plusOf_abs a b
      have m1 : (lt.1 * rt.1).natAbs ≤ L * R := by rw [Int.natAbs_mul]; exact Nat.mul_le_mul l1 r1
      have m2 : (plusOf a b * (lt.2.1 * rt.2.1)).natAbs ≤ 3 * (L * R) := by rw [Int.natAbs_mul, Int.natAbs_mul]; exact Nat.mul_le_mul p (Nat.mul_le_mul l2 r2)
      have m3 : (plusOf a b * (lt.2.2 * rt.2.2)).natAbs ≤ 3 * (L * R) := by rw [Int.natAbs_mul, Int.natAbs_mul]; exact Nat.mul_le_mul p (Nat.mul_le_mul l3 r3)
      cases acc with
      | none => cases h; exact ⟨Nat.le_trans m1 (by (first | lia | omega)), Nat.le_trans m2 (by (first | lia | omega)), Nat.le_trans m3 (by (first | lia | omega))⟩
      | some x =>
        cases h
        obtain ⟨x1, x2, x3⟩ := ha x rfl
        refine ⟨?_, ?_, ?_⟩
        · exact Nat.le_trans (Int.natAbs_add_le _ _) (Nat.le_trans (Nat.add_le_add m1 x1) (by (first | lia | omega)))
        · exact Nat.le_trans (Int.natAbs_add_le _ _) (Nat.le_trans (Nat.add_le_add m2 x2) (by (first | lia | omega)))
        · exact Nat.le_trans (Int.natAbs_add_le _ _) (Nat.le_trans (Nat.add_le_add m3 x3) (by (first | lia | omega)))
  · exact up t (ha t h)
theorem tbs_fit {c : Nat → Nat} {w : Nat → Int} (hw : ∀ i, (w i).natAbs < 2 ^ 32) : ∀ s, 1 ≤ s → s ≤ 100 → ∀ i t, tbs c w s i = some t → FitN (2 ^ (64 * s - 32)) t := by
  intro s
  induction s using Nat.strongRecOn with
  | _ s ih =>
    intro h1 h2 i t h
    match s, ih, h1, h2, h with
    | 1, _, _, _, h =>
      rw [tbs] at h
      cases h
      exact ⟨by show (1 : Int).natAbs ≤ _; decide, by show (1 : Int).natAbs ≤ _; decide, Nat.le_of_lt (hw i)⟩
    | s + 2, ih, _, h2, h =>
      rw [← part_all] at h
      have key : ∀ k ≤ s + 1, ∀ t, part c w (s + 2) i k = some t → FitN (k * (3 * 2 ^ (64 * (s + 2) - 64))) t := by
        intro k
        induction k with
        | zero => intro _ t h; cases h
        | succ k ihk =>
          intro hk t h
          rw [part_succ] at h
          have m := joinT_fit (ihk (by (first | lia | omega))) (ih (k + 1) (by (first | lia | omega)) (by (first | lia | omega)) (by (first | lia | omega)) i) (ih (s + 2 - 1 - k) (by (first | lia | omega)) (by (first | lia | omega)) (by (first | lia | omega)) (i + k + 1)) t h
          have e : 2 ^ (64 * (k + 1) - 32) * 2 ^ (64 * (s + 2 - 1 - k) - 32) = 2 ^ (64 * (s + 2) - 64) := by
            rw [← Nat.pow_add]; congr 1; (first | lia | omega)
          rw [e] at m
          rw [show (k + 1) * (3 * 2 ^ (64 * (s + 2) - 64)) = k * (3 * 2 ^ (64 * (s + 2) - 64)) + 3 * 2 ^ (64 * (s + 2) - 64) by rw [Nat.succ_mul]]
          exact m
      have m := key (s + 1) (Nat.le_refl _) t h
      have e : (s + 1) * (3 * 2 ^ (64 * (s + 2) - 64)) ≤ 2 ^ (64 * (s + 2) - 32) := by
        rw [show 64 * (s + 2) - 32 = (64 * (s + 2) - 64) + 32 by (first | lia | omega), Nat.pow_add, Nat.mul_comm (2 ^ (64 * (s + 2) - 64)) (2 ^ 32), ← Nat.mul_assoc]
        exact Nat.mul_le_mul_right _ (by (first | lia | omega))
      exact ⟨Nat.le_trans m.1 e, Nat.le_trans m.2.1 e, Nat.le_trans m.2.2 e⟩
theorem fit_bits {B m : Nat} {x : Int} (h : x.natAbs ≤ B) (hb : B < 2 ^ m) : Builtin.Int.intBits x ≤ m := intBits_le_iff.mpr (Nat.lt_of_le_of_lt h hb)
theorem tbs_mul {c : Nat → Nat} {w : Nat → Int} (hw : ∀ i, (w i).natAbs < 2 ^ 32) {s s' i i' : Nat} {l r : T3} (h1 : 1 ≤ s) (h2 : s ≤ 100) (h1' : 1 ≤ s') (h2' : s' ≤ 100) (hl : tbs c w s i = some l) (hr : tbs c w s' i' = some r) :
    IntMulOk l.1 r.1 ∧ IntMulOk l.2.1 r.2.1 ∧ IntMulOk l.2.2 r.2.2 := by
  obtain ⟨a1, a2, a3⟩ := tbs_fit hw s h1 h2 i l hl
  obtain ⟨b1, b2, b3⟩ := tbs_fit hw s' h1' h2' i' r hr
  have e : ∀ s, s ≤ 100 → 2 ^ (64 * s - 32) < 2 ^ 10000 := fun s hs => Nat.pow_lt_pow_right (by decide) (by (first | lia | omega))
  exact ⟨.of_le (fit_bits a1 (e s h2)) (fit_bits b1 (e s' h2')) (by decide), .of_le (fit_bits a2 (e s h2)) (fit_bits b2 (e s' h2')) (by decide), .of_le (fit_bits a3 (e s h2)) (fit_bits b3 (e s' h2')) (by decide)⟩
theorem plus_mul (a b : Nat) (x : Int) : IntMulOk (plusOf a b) x := .of_left (fit_bits (plusOf_abs a b) (by decide))
end
section

set_option Elab.async false
set_option maxRecDepth 100000
set_option maxHeartbeats 8000000
structure Row (n : Nat) (c lo hi : Nat → Nat) (wv : Nat → Int) (fb : Array UInt8) (wa : Array Value) : Prop where
  n1 : 1 ≤ n
  n8 : n ≤ 8
  c3 : ∀ i, c i < 3
  lh : ∀ i, lo i < hi i
  h8 : ∀ i, hi i < 256
  wb : ∀ i, (wv i).natAbs < 2 ^ 32
  size : fb.size = 3 * n
  film : ∀ i < n, ∀ k < 3, (fb.getD (3 * i + k) 0).toNat = lightAt (c i) (lo i) (hi i) k
  wsize : wa.size = n
  worth : ∀ i < n, ∃ t, wa[i]? = some (.int (wv i) t)
abbrev cutAt (fb : Array UInt8) (a b : Int) : Array UInt8 := KBy.picked fb (some a) (some b)
theorem cut_eq {fb : Array UInt8} {i : Nat} {a b : Int} (ha : a = 3 * i) (hb : b = 3 * i + 3) (h : 3 * i + 3 ≤ fb.size) : cutAt fb a b = ((fb.toList.drop (3 * i)).take 3).toArray := by
  subst ha hb
  unfold cutAt
  rw [KBc.picked_eq]
  simp only [Option.elim]
  rw [clipAt_in (by (first | lia | omega)) (by (first | lia | omega)), clipAt_in (by (first | lia | omega)) (by (first | lia | omega))]
  congr 3 <;> (first | lia | omega)
theorem cut_size {fb : Array UInt8} {i : Nat} {a b : Int} (ha : a = 3 * i) (hb : b = 3 * i + 3) (h : 3 * i + 3 ≤ fb.size) : (cutAt fb a b).size = 3 := by
  rw [cut_eq ha hb h]
  simp only [List.size_toArray, List.length_take, List.length_drop, Array.length_toList]
  (first | lia | omega)
theorem cut_get {fb : Array UInt8} {i k : Nat} {a b : Int} (ha : a = 3 * i) (hb : b = 3 * i + 3) (h : 3 * i + 3 ≤ fb.size) (hk : k < 3) : (cutAt fb a b).getD k 0 = fb.getD (3 * i + k) 0 := by
  rw [cut_eq ha hb h]
  simp only [Array.getD_eq_getD_getElem?, List.getElem?_toArray, List.getElem?_take, List.getElem?_drop, if_pos hk]
  simp
theorem cut_text {n : Nat} {c lo hi : Nat → Nat} {wv : Nat → Int} {fb : Array UInt8} {wa : Array Value} (R : Row n c lo hi wv fb wa) {i : Nat} (hi' : i < n) {a b : Int} (ha : a = 3 * i) (hb : b = 3 * i + 3) :
    (⟨#[((cutAt fb a b).getD 0 0).toNat, ((cutAt fb a b).getD 1 0).toNat, ((cutAt fb a b).getD 2 0).toNat]⟩ : Str) = ltext (c i) (lo i) (hi i) := by
  have h : 3 * i + 3 ≤ fb.size := by rw [R.size]; (first | lia | omega)
  rw [cut_get ha hb h (by decide), cut_get ha hb h (by decide), cut_get ha hb h (by decide), R.film i hi' 0 (by decide), R.film i hi' 1 (by decide), R.film i hi' 2 (by decide)]
  rfl
end
section

set_option Elab.async false
set_option maxRecDepth 100000
set_option maxHeartbeats 8000000
inductive One (w : World) (Y : List (Addr × Obj)) (x : Str) (od : Obj) (t : T3) : Prop
  | mk : ∀ a n u0 u1 u2, od.IsDictOf (strKind PySem.Challenge.rw_zn0010_01.row.prog w) [(x, .ref a)] → (a, tup [.int t.1 u0, .int t.2.1 u1, .int t.2.2 u2] n) ∈ Y → One w Y x od t
/-- the entry of a table: nothing, or one light with its three numbers -/
inductive Ent (w : World) (Y : List (Addr × Obj)) (d : Addr) (x : Str) (e : Option T3) : Prop
  | mk : ∀ od, ((d, od) ∈ Y) → ((d == sysModules) = false) → (e = none → od.IsDictOf (strKind PySem.Challenge.rw_zn0010_01.row.prog w) []) → (∀ t, e = some t → One w Y x od t) → Ent w Y d x e
theorem Ent.mono {w : World} {Y Y' : List (Addr × Obj)} {d : Addr} {x : Str} {e : Option T3} (h : Ent w Y d x e) (s : ∀ q ∈ Y, q ∈ Y') : Ent w Y' d x e :=
  let ⟨od, m, l, h0, h1⟩ := h
  ⟨od, s _ m, l, h0, fun t e => let ⟨a, n, u0, u1, u2, q, r⟩ := h1 t e; ⟨a, n, u0, u1, u2, q, s _ r⟩⟩
def txt (c lo hi : Nat → Nat) (i j : Nat) : Str := if j = i + 1 then ltext (c i) (lo i) (hi i) else ltext (hue c i j) 48 80
def TabInv (w : World) (Y : List (Addr × Obj)) (kvs : List (Int × Value)) (c lo hi : Nat → Nat) (wv : Nat → Int) (done : Nat → Nat → Prop) : Prop :=
  (∀ i j, done i j → ∃ d, valueAt kvs (9 * i + j : Int) = some (.ref d) ∧ Ent w Y d (txt c lo hi i j) (tbs c wv (j - i) i)) ∧ (∀ k v, valueAt kvs k = some v → ∃ i j, done i j ∧ k = (9 * i + j : Int))
theorem valueAt_stored {K : Type} [DecidableEq K] (kvs : List (K × Value)) (k k' : K) (v : Value) : valueAt (stored kvs k v) k' = if k' = k then some v else valueAt kvs k' := by
  unfold stored valueAt
  split
  · rename_i h
    induction kvs with
    | nil => cases h
    | cons x xs ih =>
      by_cases hx : x.1 = k
      · by_cases hk : k' = k
        · subst hk; simp [List.find?, hx]
        · have : ¬ x.1 = k' := fun e => hk (e.symm.trans hx)
          have hk2 : ¬ k = k' := fun e => hk e.symm
          simp only [List.map_cons, hx, if_true, List.find?, hk2, this, decide_false, if_neg hk]
          by_cases hany : xs.any (fun kv => kv.1 = k) = true
          · have := ih hany; rw [if_neg hk] at this; exact this
          · have : xs.map (fun kv => if kv.1 = k then (kv.1, v) else kv) = xs := by
              conv => rhs; rw [← List.map_id xs]
              refine List.map_congr_left fun y hy => ?_
              have : ¬ y.1 = k := fun e => hany (List.any_eq_true.mpr ⟨y, hy, by simpa using e⟩)
              simp [this]
            rw [this]
      · have hany : xs.any (fun kv => kv.1 = k) = true := by simpa [hx] using h
        have hi := ih hany
        simp only [List.map_cons, if_neg hx, List.find?]
        by_cases hk : x.1 = k'
        · have hk2 : ¬ k' = k := fun e => hx (hk.trans e)
          simp [hk, hk2]
        · simp only [hk, decide_false]; exact hi
  · rename_i h
    have hn : ∀ x ∈ kvs, ¬ x.1 = k := fun x hx e => h (List.any_eq_true.mpr ⟨x, hx, by simpa using e⟩)
    rw [List.find?_append]
    by_cases hk : k' = k
    · subst hk
      have : kvs.find? (fun kv => decide (kv.1 = k')) = none := List.find?_eq_none.mpr fun x hx => by simpa using hn x hx
      simp [this, List.find?]
    · have hk2 : ¬ k = k' := fun e => hk e.symm
      cases h2 : kvs.find? (fun kv => decide (kv.1 = k')) <;> simp [List.find?, hk, hk2]
theorem TabInv.store {w : World} {X X' : List (Addr × Obj)} {kvs : List (Int × Value)} {c lo hi : Nat → Nat} {wv : Nat → Int} {done done' : Nat → Nat → Prop} (h : TabInv w X kvs c lo hi wv done) (s : ∀ q ∈ X, q ∈ X') {i j : Nat} {k : Int} {d : Addr}
    (hk : k = 9 * i + j) (hj : j ≤ 8) (hd : ∀ a b, done a b → b ≤ 8) (e : Ent w X' d (txt c lo hi i j) (tbs c wv (j - i) i)) (hdn : ∀ a b, done' a b ↔ done a b ∨ (a = i ∧ b = j)) : TabInv w X' (stored kvs k (.ref d)) c lo hi wv done' := by
  subst hk
  refine ⟨fun a b hab => ?_, fun k v hv => ?_⟩
  · rw [valueAt_stored]
    by_cases hc : ((9 * a + b : Int) = 9 * i + j)
    · rcases (hdn a b).mp hab with hab | ⟨rfl, rfl⟩
      · have := hd a b hab
        have e1 : a = i := by (first | lia | omega)
        have e2 : b = j := by (first | lia | omega)
        subst e1 e2
        exact ⟨d, if_pos hc, e⟩
      · exact ⟨d, if_pos hc, e⟩
    · rw [if_neg hc]
      rcases (hdn a b).mp hab with hab | ⟨rfl, rfl⟩
      · obtain ⟨d', h1, h2⟩ := h.1 a b hab
        exact ⟨d', h1, h2.mono s⟩
      · exact absurd rfl hc
  · rw [valueAt_stored] at hv
    by_cases hc : k = 9 * i + j
    · exact ⟨i, j, (hdn i j).mpr (.inr ⟨rfl, rfl⟩), hc⟩
    · rw [if_neg hc] at hv
      obtain ⟨a, b, h1, h2⟩ := h.2 k v hv
      exact ⟨a, b, (hdn a b).mpr (.inl h1), h2⟩
theorem TabInv.mono {w : World} {X X' : List (Addr × Obj)} {kvs : List (Int × Value)} {c lo hi : Nat → Nat} {wv : Nat → Int} {done done' : Nat → Nat → Prop} (h : TabInv w X kvs c lo hi wv done) (s : ∀ q ∈ X, q ∈ X') (hdn : ∀ a b, done' a b ↔ done a b) : TabInv w X' kvs c lo hi wv done' :=
  ⟨fun a b hab => let ⟨d, h1, h2⟩ := h.1 a b ((hdn a b).mp hab); ⟨d, h1, h2.mono s⟩, fun k v hv => let ⟨a, b, h1, h2⟩ := h.2 k v hv; ⟨a, b, (hdn a b).mpr h1, h2⟩⟩
theorem ent_one {w : World} {Y : List (Addr × Obj)} {d D : Addr} {od : Obj} {x x' : Str} {v : Int} {u0 u1 u2 : Tok} {n : Nat} {e0 : Option T3} (m1 : (d, od) ∈ Y) (lo : (d == sysModules) = false) (hd : od.IsDictOf (strKind PySem.Challenge.rw_zn0010_01.row.prog w) [(x, .ref D)])
    (m2 : (D, tup [.int 1 u0, .int 1 u1, .int v u2] n) ∈ Y) (hx : x' = x) (he : e0 = some (1, 1, v)) : Ent w Y d x' e0 := by
  subst hx he
  exact ⟨od, m1, lo, fun e => (nomatch e), fun t e => by cases e; exact ⟨D, n, u0, u1, u2, hd, m2⟩⟩
theorem tbs_one {c : Nat → Nat} {w : Nat → Int} {i j : Nat} (h : j = i + 1) : tbs c w (j - i) i = some (1, 1, w i) := by
  subst h
  rw [Nat.add_sub_cancel_left]
  unfold tbs
  rfl
theorem txt_one {c lo hi : Nat → Nat} {i j : Nat} (h : j = i + 1) : txt c lo hi i j = ltext (c i) (lo i) (hi i) := if_pos h
end
section

set_option Elab.async false
set_option maxRecDepth 100000
set_option maxHeartbeats 8000000
inductive TxtIs (c lo hi : Nat → Nat) (i j : Nat) : Prop
  | mk : ∀ la ha, txt c lo hi i j = ltext (hue c i j) la ha → la < ha → ha < 256 → TxtIs c lo hi i j
theorem txt_is {n : Nat} {c lo hi : Nat → Nat} {wv : Nat → Int} {fb : Array UInt8} {wa : Array Value} (R : Row n c lo hi wv fb wa) (i j : Nat) :
    TxtIs c lo hi i j := by
  by_cases h : j = i + 1
  · subst h
    exact ⟨_, _, by unfold txt; rw [if_pos rfl, hue_leaf R.c3], R.lh i, R.h8 i⟩
  · exact ⟨_, _, if_neg h, by decide, by decide⟩
theorem joinT_none_l {a b : Nat} {acc r : Option T3} : joinT a b acc none r = acc := by
  unfold joinT; rfl
theorem joinT_none_r {a b : Nat} {acc l : Option T3} : joinT a b acc l none = acc := by
  unfold joinT; cases l <;> rfl
theorem joinT_zero {a b : Nat} {acc : Option T3} {l r : T3} (h : stepOf a b = 0) : joinT a b acc (some l) (some r) = acc := by
  unfold joinT; simp [h]
theorem joinT_go {a b : Nat} {acc : Option T3} {l r : T3} (h : ¬ stepOf a b = 0) : joinT a b acc (some l) (some r) = addT acc (l.1 * r.1, plusOf a b * (l.2.1 * r.2.1), plusOf a b * (l.2.2 * r.2.2)) := by
  unfold joinT; simp [h]
theorem strKind_of {prog : Program} {w : World} {x : Str} {key : Value} (h : (strKind prog w).is x key = true) : ∃ t, key = .str x t := Value.isStrOf_shape h
end
local macro_rules | `(tactic| walk_at "y_mem") => `(tactic| first | (with_reducible assumption) | (with_reducible exact List.mem_cons_self) | (refine List.mem_cons_of_mem _ ?_; walk_at "y_mem"))
section

set_option Elab.async false
set_option maxRecDepth 100000
set_option maxHeartbeats 8000000
local macro_rules | `(tactic| walk_at "execs cons") => `(tactic| ((try dsimp only); k_dflt (refine tok_gen (fun _ => ?_)); walk1))
inductive LTabOut (w : World) (n : Nat) (c lo hi : Nat → Nat) (wv : Nat → Int) : Value → List (Addr × Obj) → Prop
  | mk : ∀ T oT kvs X, ((T == sysModules) = false) → (oT.IsDictOf (intKind PySem.Challenge.rw_zn0010_01.row.prog w) kvs) → (TabInv w X kvs c lo hi wv (fun i j => i < j ∧ j ≤ n)) → LTabOut w n c lo hi wv (.ref T) ((T, oT) :: X)
inductive J1 (w : World) (n : Nat) (c lo hi : Nat → Nat) (wv : Nat → Int) (fb : Array UInt8) (t : Tok) (W : Addr) (oW : Obj) (len : Nat) (done : Nat → Nat → Prop) (m : Str → Option Value) : List (Addr × Obj) → Prop
  | mk : ∀ us T ps oT kvs X, (m "film" = some (.bytes fb t)) → (m "worths" = some (.ref W)) → (m "size" = some (.int n us)) → (m "tables" = some (.ref T)) → ((T == sysModules) = false) → (TriplesOk ps.toList) → (oT.IsDictOf (intKind PySem.Challenge.rw_zn0010_01.row.prog w) kvs) → (TabInv w X kvs c lo hi wv done) → (kvs.length ≤ len) → (∀ q ∈ X, @Ne Nat q.1 tabP) → (∀ q ∈ X, @Ne Nat q.1 T) → (∀ q ∈ X, @Ne Nat q.1 W) → (@Ne Nat T tabP) → (@Ne Nat T W) → J1 w n c lo hi wv fb t W oW len done m ((T, oT) :: (tabP, tabObj ps) :: (W, oW) :: X)
/-- the state inside the later loops: the loops' iterators (pre), the dict T, the table, the worths, the rest -/
inductive J2 (w : World) (n : Nat) (c lo hi : Nat → Nat) (wv : Nat → Int) (fb : Array UInt8) (t : Tok) (W : Addr) (oW : Obj) (T : Addr) (pre : List (Addr × Obj)) (extra : (Str → Option Value) → Prop) (len : Nat) (done : Nat → Nat → Prop) (m : Str → Option Value) : List (Addr × Obj) → Prop
  | mk : ∀ us ps oT kvs X, (m "film" = some (.bytes fb t)) → (m "worths" = some (.ref W)) → (m "size" = some (.int n us)) → (m "tables" = some (.ref T)) → (extra m) → (TriplesOk ps.toList) → (oT.IsDictOf (intKind PySem.Challenge.rw_zn0010_01.row.prog w) kvs) → (TabInv w X kvs c lo hi wv done) → (kvs.length ≤ len) → (∀ q ∈ X, @Ne Nat q.1 tabP) → (∀ q ∈ X, @Ne Nat q.1 T) → (∀ q ∈ X, @Ne Nat q.1 W) → (∀ p ∈ pre, ∀ q ∈ X, @Ne Nat q.1 p.1) → J2 w n c lo hi wv fb t W oW T pre extra len done m (pre ++ (T, oT) :: (tabP, tabObj ps) :: (W, oW) :: X)
set_option hygiene false in
local macro_rules | `(tactic| walk_at "exec For Name Name cons nil") => `(tactic| (
  rename Fr _ _ _ _ => lF'
  (with_unfolding_all (refine' For_G lF' ?_))
  k_whole))
set_option hygiene false in
local macro_rules | `(tactic| walk_at "exec For Name Call cons nil") => `(tactic| (
  rename Fr _ _ _ _ => lF'
  (with_unfolding_all (refine' For_G lF' ?_))
  k_whole))
local macro_rules | `(tactic| walk_at "eval Name") => `(tactic| (k_dflt (refine' ld ?k1 ?k2 ?_; (case k1 => k_asm); (case k2 => assumption))))
set_option hygiene false in
local macro_rules | `(tactic| walk_at "call builtin:len") => `(tactic| (k_dflt (refine call_len_list (News.isList (by k_asm) (by k_mem)) (by rw [R.wsize]; have := R.n8; (first | lia | omega)) ?_)))
set_option hygiene false in
local macro_rules | `(tactic| walk_at "eval Dict") => `(tactic| (k_here; (with_reducible show wpAny _ _ (eval (Expr.Dict (List.cons _ _) _ _) _) _ _ _); (k_dflt (refine' kdn_eval (knd := PySem.strKind _ _) ?dF ?dN ?db ?da ?dl ?de ?dn ?_; (case dF => k_asm); (case dN => k_asm); (case db => exact Top.nolimit (by k_asm)); (case da => rfl); (case dl => rfl); (case de => exact List.cons_ne_nil _ _); (case dn => exact Nat.le_of_ble_eq_true rfl))); intro dd9 h' od9 F' N' l1 lo' hd'; (try k_lt l1)))
set_option hygiene false in
local macro_rules | `(tactic| walk_at "subscriptTail") => `(tactic| (k_here; (first
  | ((with_reducible show wpAny _ _ (subscriptTail _ (Expr.Slice _ _ none _) (Value.bytes _ _) (Value.ref _)) _ _ _); (with_reducible rename Fr _ _ _ _ => F'); (with_reducible rename News _ _ _ _ => N'); (refine KBc.slice_K (s := ⟨_, _, _, _, _⟩) F' N' rfl (by constructor) (by constructor) (by rw [KBw.ints_length, R.size]; have := R.n8; (first | lia | omega)) ?_); intro _ _ _ _ _ kbcK; clear kbcK)
  | ((with_reducible show wpAny _ _ (subscriptTail _ _ (Value.ref _) (Value.int _ _)) _ _ _); (with_reducible rename News _ _ _ _ => N8); (k_dflt (refine' subscriptTail_builtin (Heap.IsList.typeIs (News.isList N8 (by k_mem))) slot_list_getitem.lookup (wpAny_getItem_list (News.isList N8 (by k_mem)) ?g0 ?g1 ?g2 ?_) ?g3 ?g4; (case g2 => exact hwt9); (case g0 => (first | lia | omega)); (case g1 => (have := R.n8; (first | lia | omega))); (case g3 => (with_unfolding_all rfl)); (case g4 => (intro _; with_unfolding_all rfl)))))
  | ((with_reducible show wpAny _ _ (subscriptTail _ _ (Value.ref _) (Value.int _ _)) _ _ _); (with_reducible rename News _ _ _ _ => N8); (k_dflt (refine kda_item (knd := PySem.intKind _ _) N8 (by k_mem) hD5 (intKind_is _ _ _ _) (by assumption) ?_))))))
set_option hygiene false in
local macro_rules | `(tactic| walk_at "call ref") => `(tactic| k_dflt (refine' Con.useS (textb_con (cut_size (i := i1) ?ta ?tb ?tc)) ?k1 ?k2 ?k3 ?k4 ?k5 ?k6 ?k7 ?k8 trivial ?_; (case ta => (first | lia | omega)); (case tb => (first | lia | omega)); (case tc => (rw [R.size]; (first | lia | omega))); walk_at "con_args"; (intro h9 tk9 t9 F9 N9 _); (try dsimp only)))
set_option hygiene false in
local macro_rules | `(tactic| walk_at "call ref") => `(tactic| k_dflt (first
  | (refine' Con.use (met_con (ca := hue c i5 (i5 + i6 + 1)) (cb := hue c (i5 + i6 + 1) (i5 + i4 + 2)) (hue_lt R.c3 _ _) (hue_lt R.c3 _ _) hla1 hha1 hla2 hha2) ?k1 ?k2 ?k3 ?k4 ?k5 ?k6 ?k7 ?k8 trivial ?_; walk_at "con_args"; (intro v9 h9 tk9 n9 o9; refine MetOut.casesOn o9 ?_; clear o9 n9 v9; intro D9 x9 y9 F9 N9 ne9); (replace N9 := app1 N9); (try dsimp only); (refine and9 (mem9 (ne9 _ (.head _))) fun nz8 nz7 nz6 nz5 nz4 nzT nzP nzW nzY => ?_))
  | (refine' Con.useS truth_con ?k1 ?k2 ?k3 ?k4 ?k5 ?k6 ?k7 ?k8 trivial ?_; walk_at "con_args"; (intro h9 tk9 _ F9 N9 _); (try dsimp only))))
theorem mem9 {D : Addr} {a b c d e f g h : Addr × Obj} {Y : List (Addr × Obj)} (x : ∀ q ∈ a :: b :: c :: d :: e :: f :: g :: h :: Y, q.1 ≠ D) : @Ne Nat a.1 D ∧ @Ne Nat b.1 D ∧ @Ne Nat c.1 D ∧ @Ne Nat d.1 D ∧ @Ne Nat e.1 D ∧ @Ne Nat f.1 D ∧ @Ne Nat g.1 D ∧ @Ne Nat h.1 D ∧ ∀ q ∈ Y, @Ne Nat q.1 D := by
  simp only [List.forall_mem_cons] at x
  exact x
set_option hygiene false in
local macro_rules | `(tactic| walk_at "setItem ref int") => `(tactic| (k_dflt (refine' kda_set (knd := PySem.intKind _ _) ?sF ?sN ?sU ?sd (intKind_is _ _ _ _) ?sz ?_; (case sF => k_asm); (case sN => k_asm); (case sU => k_updF); (case sd => k_asm); (case sz => exact Nat.le_trans (by assumption) (by rw [sizeLine_eq]; have := R.n8; (first | lia | omega)))); intro h' o' F' N' hd'; (replace N' : News _ _ _ (_ :: _) := N')))
theorem news_mv2 {h₀ h : Heap} {L : Addr} {a b i t p w : Addr × Obj} {X : List (Addr × Obj)} (N : News h₀ L h (a :: b :: i :: t :: p :: w :: X)) : News h₀ L h (i :: t :: p :: w :: a :: b :: X) := fun q hq => N q (mem_mid (L := [i, t, p, w]) (M := [a, b]) [] hq)
/-- the state inside the cuts of one span: the dict of tables (T, oT) and what it holds (X0) stand still; the table of this span grows -/
inductive J3 (w : World) (n : Nat) (c : Nat → Nat) (wv : Nat → Int) (fb : Array UInt8) (t : Tok) (W : Addr) (oW : Obj) (T : Addr) (oT : Obj) (X0 pre : List (Addr × Obj)) (span i k : Nat) (m : Str → Option Value) : List (Addr × Obj) → Prop
  | mk : ∀ us u5 ui ps d Y, (m "film" = some (.bytes fb t)) → (m "worths" = some (.ref W)) → (m "size" = some (.int n us)) → (m "tables" = some (.ref T)) → (m "span" = some (.int (2 + (span : Int)) u5)) → (m "i" = some (.int (0 + (i : Int)) ui)) → (m "table" = some (.ref d)) → (TriplesOk ps.toList) → (∀ q ∈ X0, q ∈ Y) → (Ent w Y d (ltext (hue c i (i + (span + 2))) 48 80) (part c wv (span + 2) i k)) → (∀ q ∈ Y, @Ne Nat q.1 tabP) → (∀ q ∈ Y, @Ne Nat q.1 T) → (∀ q ∈ Y, @Ne Nat q.1 W) → (∀ p ∈ pre, ∀ q ∈ Y, @Ne Nat q.1 p.1) → J3 w n c wv fb t W oW T oT X0 pre span i k m (pre ++ (T, oT) :: (tabP, tabObj ps) :: (W, oW) :: Y)
local macro_rules | `(tactic| walk_at "binaryOp Mult int int") => `(tactic| ((k_dflt (refine PyProof.Rows.mul_int ?_ (plus_mul _ _ _))); (try dsimp only)))
local macro_rules | `(tactic| walk_at "eval ListComp") => `(tactic| (k_dflt (refine ListComp_Z (by k_asm) (by rfl) (by decide) (by rfl) (by decide) (by rfl) (by rfl) (by decide) ?_)))
set_option hygiene false in
local macro_rules | `(tactic| walk_at "call type:zip") => `(tactic| (k_dflt (refine' zipC3 ?zh ?zF ?zN ?z1 ?z2 ?zelem ?zfin; (case zh => exact rfl); (case zF => k_asm); (case zN => k_asm); (case z1 => walk_at "y_mem"); (case z2 => walk_at "y_mem"))))
set_option hygiene false in
local macro_rules | `(tactic| walk_at "subscriptTail") => `(tactic| ((with_reducible show wpAny _ _ (subscriptTail _ _ (Value.ref _) (Value.str _ _)) _ _ _); (with_reducible rename News _ _ _ _ => N8); (k_dflt (first
  | refine kda_item (knd := PySem.strKind _ _) N8 (by walk_at "y_mem") hd1 (strKind_is _ _ _ _) va1 ?_
  | refine kda_item (knd := PySem.strKind _ _) N8 (by walk_at "y_mem") hd2 (strKind_is _ _ _ _) va1 ?_))))
local macro_rules | `(tactic| walk_at "exec If") => `(tactic| (k_dflt (refine wpAny_If ?_)))
local macro_rules | `(tactic| walk_at "eval Call") => `(tactic| (k_dflt (refine Call_ ?_)))
theorem mk_at {c : Nat → Nat} {k j j' : Nat} (h : mk c k ≠ mk c j) (e : j = j') : mk c k ≠ mk c j' := e ▸ h
theorem txt_far {c lo hi : Nat → Nat} {i j : Nat} (h : ¬ j = i + 1) : txt c lo hi i j = ltext (hue c i j) 48 80 := if_neg h
theorem mv0 {a b c d e i8 i7 i6 i5 i4 t p w q : Addr × Obj} {Y : List (Addr × Obj)} (h : q ∈ i8 :: i7 :: i6 :: i5 :: i4 :: t :: p :: w :: a :: b :: Y) : q ∈ a :: b :: c :: d :: e :: i8 :: i7 :: i6 :: i5 :: i4 :: t :: p :: w :: Y :=
  mem_mid (L := [i8, i7, i6, i5, i4, t, p, w]) (M := [a, b]) [c, d, e] h
theorem mv3 {a b i7 i6 i5 i4 t p p' w q : Addr × Obj} {Y : List (Addr × Obj)} (hpp : p.1 = p'.1) (h : q ∈ i7 :: i6 :: i5 :: i4 :: t :: p :: w :: a :: b :: Y) : (∃ q', q'.1 = q.1 ∧ q' ∈ i7 :: i6 :: i5 :: i4 :: t :: p' :: w :: Y) ∨ q = a ∨ q = b := by
  simp only [List.mem_cons] at h ⊢
  rcases h with rfl | rfl | rfl | rfl | rfl | rfl | rfl | rfl | rfl | h
  · exact .inl ⟨_, rfl, .inl rfl⟩
  · exact .inl ⟨_, rfl, by simp⟩
  · exact .inl ⟨_, rfl, by simp⟩
  · exact .inl ⟨_, rfl, by simp⟩
  · exact .inl ⟨_, rfl, by simp⟩
  · exact .inl ⟨_, hpp.symm, by simp⟩
  · exact .inl ⟨_, rfl, by simp⟩
  · exact .inr (.inl rfl)
  · exact .inr (.inr rfl)
  · exact .inl ⟨q, rfl, by simp [h]⟩
theorem mv00 {a b c d e f i8 i7 i6 i5 i4 t p w q : Addr × Obj} {Y : List (Addr × Obj)} (h : q ∈ i8 :: i7 :: i6 :: i5 :: i4 :: t :: p :: w :: a :: b :: Y) : q ∈ a :: b :: c :: d :: e :: f :: i8 :: i7 :: i6 :: i5 :: i4 :: t :: p :: w :: Y :=
  mem_mid (L := [i8, i7, i6, i5, i4, t, p, w]) (M := [a, b]) [c, d, e, f] h
theorem mem13 {D : Addr} {a b c d e f g h i j k l : Addr × Obj} {Y : List (Addr × Obj)} (x : ∀ q ∈ a :: b :: c :: d :: e :: f :: g :: h :: i :: j :: k :: l :: Y, q.1 ≠ D) :
    @Ne Nat e.1 D ∧ @Ne Nat f.1 D ∧ @Ne Nat g.1 D ∧ @Ne Nat h.1 D ∧ @Ne Nat i.1 D ∧ @Ne Nat j.1 D ∧ @Ne Nat k.1 D ∧ @Ne Nat l.1 D ∧ ∀ q ∈ Y, @Ne Nat q.1 D := by
  simp only [List.forall_mem_cons] at x
  exact x.2.2.2.2
theorem news_mv1 {h₀ h : Heap} {L : Addr} {a i j t p w : Addr × Obj} {X : List (Addr × Obj)} (N : News h₀ L h (a :: i :: j :: t :: p :: w :: X)) : News h₀ L h (i :: j :: t :: p :: w :: a :: X) := fun q hq => N q (mem_mid (L := [i, j, t, p, w]) (M := [a]) [] hq)
theorem tables_con {w p loose mean mg mb} {n : Nat} {c lo hi : Nat → Nat} {wv : Nat → Int} {fb : Array UInt8} {wa : Array Value} {t : Tok} {W : Addr} {cap : Nat} (R : Row n c lo hi wv fb wa) :
    ConG w p loose mean mg mb 113 5 [.bytes fb t, .ref W] [(W, { cls := .type "list", data := .seq wa cap })] (LTabOut w n c lo hi wv) := by
  (unfold ConG; k_fill; intro dp un gd cn cs a ccd cl outer A₀ base h₀ L m ps s Q E B F X N T hk hd hu hps hG hne hret; refine wpAny_call ?_; (refine' code_defG ?k1 ?k2 ?k3 N ?k5 ?kA ?kF ?kK ?k6 ?k7 ?k8 ?k9 ?kB ?_ ?c2 ?c3 ?c4 ?c5; (case kA => exact rfl); (case kF => exact rfl); (case kK => assumption); (case k1 => k_asm); (case k2 => k_asm); (case k3 => k_asm); (case k5 => k_asm); (case k6 => k_is); (case k7 => k_is); (case k8 => ktr_room); (case k9 => exact BindsTo.of_eq rfl); (case c5 => decide); (case kB => exact locs rfl); (case c2 => exact rfl); (case c3 => exact rfl); (case c4 => exact rfl); k_whole; intro g L' h' FG' F' N' B' X' T' GS; (try dsimp only); (try k_fold)))
  have e1 : @Ne Nat W tabP := hne _ (.head _)
  k_steps
  rename IsRange _ _ _ _ _ _ _ _ => hr9
  rename ((_ : Addr) == sysModules) = false => lo9
  rename LT.lt tabP _ ∧ _ => l9
  refine' range_G (n := n) (fun i => J1 w n c lo hi wv fb t W { cls := .type "list", data := .seq wa cap }  i (fun a b => b = a + 1 ∧ a < i)) rfl ?f1 ?nn1 hG hr9 ?sm1 ?sz1 ?h01 ?step1 ?fin1
  case f1 => k_asm
  case nn1 => k_asm
  case sm1 => exact small_one (by (first | lia | omega)) (by (first | lia | omega)) (by rw [R.wsize]; (first | lia | omega)) (by rw [R.wsize]; have := R.n8; (first | lia | omega))
  case sz1 => (rw [rangeSize_nat, R.wsize]; (first | lia | omega))
  case h01 => exact (J1.mk _ _ ps _ [] [] rfl rfl (by rw [← R.wsize]; rfl) rfl lo9 hps (by assumption) ⟨fun i j h => absurd h.2 (Nat.not_lt_zero _), fun k v e => by cases e⟩ (Nat.le_refl _) (fun _ h => nomatch h) (fun _ h => nomatch h) (fun _ h => nomatch h) (by (first | lia | omega)) (by (first | lia | omega)))
  case step1 =>
    intro I1 lI1 i1 t1 m1 news1 h1 tk1 gn1 o1 hi1 hJ1 hni1 hG1 F1 N1
    refine step_hide (fun Q1 dd1 os1 hQ1 => ?_)
    revert hni1 N1
    refine J1.casesOn hJ1 ?_
    clear hJ1 news1
    rintro us T1 ps1 oT kvs X fm wm sm tm lo1 hps1 hD1 hI1 hkl x1 x2 x3 x4 x5 hni1 N1
    have x6 : @Ne Nat T1 I1 := hni1 _ (.head _)
    have x7 : @Ne Nat tabP I1 := hni1 _ (.tail _ (.head _))
    have x8 : @Ne Nat W I1 := hni1 _ (.tail _ (.tail _ (.head _)))
    have x9 : ∀ q ∈ X, @Ne Nat q.1 I1 := fun q h => hni1 q (.tail _ (.tail _ (.tail _ h)))
    obtain ⟨wt, hwt⟩ := R.worth i1 hi1
    have hwt9 : wa[((0 : Int) + i1).toNat]? = some (.int (wv i1) wt) := by rw [Int.zero_add, Int.toNat_natCast]; exact hwt
    k_steps
    rename Obj.IsDictOf _ _ (stored _ _ _) => hd8
    rename Fr _ _ _ _ => F8
    rename News _ _ _ _ => N8
    k_dflt (refine' hQ1 F8 (news_mv2 N8) (fun _ h => nomatch h) ?q2 hG1 ?q3)
    case q2 =>
      refine' List.forall_mem_cons.mpr ⟨x6, List.forall_mem_cons.mpr ⟨x7, List.forall_mem_cons.mpr ⟨x8, List.forall_mem_cons.mpr ⟨?z1, List.forall_mem_cons.mpr ⟨?z2, x9⟩⟩⟩⟩⟩
      case z1 => k_ne
      case z2 => k_ne
    case q3 =>
      refine' (J1.mk us T1 ps1 _ _ (_ :: _ :: X) fm wm sm tm lo1 hps1 hd8 (TabInv.store (i := i1) (j := i1 + 1) hI1 (fun q hq => .tail _ (.tail _ hq)) ?y1 ?y2 ?y3 ?y4 ?y5) (Nat.le_trans (stored_length_le _ _ _) (Nat.succ_le_succ hkl)) ?y6 ?y7 ?y8 x4 x5)
      case y1 => (first | lia | omega)
      case y2 => have := R.n8; (first | lia | omega)
      case y3 => intro a b h; have := R.n8; (first | lia | omega)
      case y5 => intro a b; constructor <;> (intro h; (first | lia | omega))
      case y6 => exact List.forall_mem_cons.mpr ⟨by k_ne, List.forall_mem_cons.mpr ⟨by k_ne, x1⟩⟩
      case y7 => exact List.forall_mem_cons.mpr ⟨by k_ne, List.forall_mem_cons.mpr ⟨by k_ne, x2⟩⟩
      case y8 => exact List.forall_mem_cons.mpr ⟨by k_ne, List.forall_mem_cons.mpr ⟨by k_ne, x3⟩⟩
      case y4 =>
        rename_i od7 hd7
        k_dflt (refine' ent_one (.tail _ (.head _)) lo' ?w1 (.head _) ((txt_one rfl).trans (cut_text R hi1 ?w2 ?w3).symm) (tbs_one rfl))
        case w1 => k_dflt assumption
        all_goals (first | lia | omega)
  intro h2 tk2 gn2 m2 news2 F2 N2 hG2 hJ2
  revert N2
  refine J1.casesOn hJ2 ?_
  clear hJ2 news2
  rintro us2 T2 ps2 oT2 kvs2 X2 fm2 wm2 sm2 tm2 lo2 hps2 hD2 hI2 hkl2 y1 y2 y3 y4 y5 N2
  clear hr9
  k_steps
  rename IsRange _ _ _ _ _ _ _ _ => hr2
  refine' range_G (n := n - 1) (fun k => J2 w n c lo hi wv fb t W { cls := .type "list", data := .seq wa cap } T2 [] (fun _ => True) (8 + 8 * k) (fun a b => a < b ∧ b ≤ n ∧ b ≤ a + k + 1)) rfl ?f2 ?nn2 hG2 hr2 ?sm2 ?sz2 ?h02 ?step2 ?fin2
  case f2 => k_asm
  case nn2 => k_asm
  case sm2 => have := R.n8; exact small_one (by (first | lia | omega)) (by (first | lia | omega)) (by (first | lia | omega)) (by (first | lia | omega))
  case sz2 => rw [rangeSize_nat]; have := R.n1; (first | lia | omega)
  case h02 => exact (J2.mk us2 ps2 oT2 kvs2 X2 fm2 wm2 sm2 tm2 trivial hps2 hD2 (hI2.mono (fun _ h => h) (fun a b => by constructor <;> (intro h; (first | lia | omega)))) (Nat.le_trans hkl2 (Nat.le_trans R.n8 (Nat.le_add_right _ _))) y1 y2 y3 (fun _ h => nomatch h))
  case fin2 =>
    intro h7 tk7 gn7 m7 news7 F9 N9 hG7 hQQ
    revert N9
    refine J2.casesOn hQQ ?_
    clear hQQ news7
    rintro us7 ps7 oT7 kvs7 X7 fm7 wm7 sm7 tm7 - hps7 hD7 hI7 hkl7 w1 w2 w3 w4 N9
    replace N9 := app0 N9
    have hn1 := R.n1
    clear hr2
    k_steps
    rename Fr h₀ L _ m => kF
    rename News h₀ L _ _ => kN
    have hend := con_endG (tl := (T2, oT7) :: X7) (ps' := ps7) GS N F9 N9 (fun p hp => by rw [List.mem_singleton.mp hp]; exact .tail _ (.tail _ (.head _)))
      (fun p hp => by
        rcases List.mem_cons.mp hp with rfl | hp
        · exact .head _
        · exact .tail _ (.tail _ (.tail _ hp)))
      (fun p hp => by
        rcases List.mem_cons.mp hp with rfl | hp
        · exact List.forall_mem_cons.mpr ⟨Ne.symm y4, List.forall_mem_cons.mpr ⟨Ne.symm y5, fun _ h => nomatch h⟩⟩
        · exact List.forall_mem_cons.mpr ⟨Ne.symm (w1 p hp), List.forall_mem_cons.mpr ⟨Ne.symm (w3 p hp), fun _ h => nomatch h⟩⟩)
    exact hret _ _ _ _ ps7 ((T2, oT7) :: X7) ⟨T2, oT7, kvs7, X7, lo2, hD7, hI7.mono (fun _ h => h) (fun a b => by constructor <;> (intro h; (first | lia | omega)))⟩ kF
      (fun q hq => by
        rcases List.mem_cons.mp hq with rfl | hq
        · exact kN _ (.tail _ (.head _))
        · rcases List.mem_cons.mp hq with rfl | hq
          · exact kN _ (.head _)
          · exact kN _ (.tail _ (.tail _ (.tail _ hq)))) hend.1 hend.2 hps7 hG7
  intro I4 lI4 i4 t4 m4 news4 h4 tk4 gn4 o4 hi4 hJ4 hni4 hG4 F4 N4
  refine step_hide (fun Q4 dd4 os4 hQ4 => ?_)
  revert hni4 N4
  refine J2.casesOn hJ4 ?_
  clear hJ4 news4
  rintro us4 ps4 oT4 kvs4 X4 fm4 wm4 sm4 tm4 - hps4 hD4 hI4 hkl4 z1 z2 z3 z4 hni4 N4
  have q1 : @Ne Nat T2 I4 := hni4 _ (.head _)
  have q2 : @Ne Nat tabP I4 := hni4 _ (.tail _ (.head _))
  have q3 : @Ne Nat W I4 := hni4 _ (.tail _ (.tail _ (.head _)))
  have q4 : ∀ q ∈ X4, @Ne Nat q.1 I4 := fun q h => hni4 q (.tail _ (.tail _ (.tail _ h)))
  clear hr2
  replace N4 := capp0 N4
  k_steps
  rename IsRange _ _ _ _ _ _ _ _ => hr3
  refine' range_G (n := n + 1 - (2 + i4)) (fun k => J2 w n c lo hi wv fb t W { cls := .type "list", data := .seq wa cap } T2 [(I4, o4)] (fun m => ∃ u, m "span" = some (.int (2 + (i4 : Int)) u)) (8 + 8 * i4 + k) (fun a b => (a < b ∧ b ≤ n ∧ b ≤ a + i4 + 1) ∨ (b = a + i4 + 2 ∧ a < k))) rfl ?f3 ?nn3 hG4 hr3 ?sm3 ?sz3 ?h03 ?step3 ?fin3
  case f3 => k_asm
  case nn3 => k_asm
  case sm3 => have := R.n8; exact small_one (by (first | lia | omega)) (by (first | lia | omega)) (by (first | lia | omega)) (by (first | lia | omega))
  case sz3 => rw [rangeSize_nat]; have := R.n1; (first | lia | omega)
  case h03 => exact (J2.mk us4 ps4 oT4 kvs4 X4 fm4 wm4 sm4 tm4 ⟨_, rfl⟩ hps4 hD4 (hI4.mono (fun _ h => h) (fun a b => by constructor <;> (intro h; (first | lia | omega)))) hkl4 z1 z2 z3 (fun p hp => by rw [List.mem_singleton.mp hp]; exact q4))
  case fin3 =>
    intro h7 tk7 gn7 m7 news7 F9 N9 hG7 hQQ
    revert N9
    refine J2.casesOn hQQ ?_
    clear hQQ news7
    rintro us7 ps7 oT7 kvs7 X7 fm7 wm7 sm7 tm7 ⟨u7, sp7⟩ hps7 hD7 hI7 hkl7 w1 w2 w3 w4 N9
    replace N9 := app1 N9
    have hn8 := R.n8
    k_whole
    k_dflt (refine' wpAny_execs_nil (hQ4 F9 N9 (fun _ h => nomatch h) ?ni hG7 (J2.mk us7 ps7 oT7 kvs7 X7 fm7 wm7 sm7 tm7 trivial hps7 hD7 (hI7.mono (fun _ h => h) ?y5) ?y6 w1 w2 w3 (fun _ h => nomatch h))))
    case ni => exact List.forall_mem_cons.mpr ⟨q1, List.forall_mem_cons.mpr ⟨q2, List.forall_mem_cons.mpr ⟨q3, w4 _ (.head _)⟩⟩⟩
    case y5 => intro a b; constructor <;> (intro h; (first | lia | omega))
    case y6 => (first | lia | omega)
  intro I5 lI5 i5 t5 m5 news5 h5 tk5 gn5 o5 hi5 hJ5 hni5 hG5 F5 N5
  refine step_hide (fun Q5 dd5 os5 hQ5 => ?_)
  revert hni5 N5
  refine J2.casesOn hJ5 ?_
  clear hJ5 news5
  rintro us5 ps5 oT5 kvs5 X5 fm5 wm5 sm5 tm5 ⟨u5, sp5⟩ hps5 hD5 hI5 hkl5 z1' z2' z3' z4' hni5 N5
  have q5 : @Ne Nat T2 I5 := hni5 _ (.tail _ (.head _))
  have q6 : @Ne Nat tabP I5 := hni5 _ (.tail _ (.tail _ (.head _)))
  have q7 : @Ne Nat W I5 := hni5 _ (.tail _ (.tail _ (.tail _ (.head _))))
  have q8 : ∀ q ∈ X5, @Ne Nat q.1 I5 := fun q h => hni5 q (.tail _ (.tail _ (.tail _ (.tail _ h))))
  have q9 : @Ne Nat I4 I5 := hni5 _ (.head _)
  have q10 : ∀ q ∈ X5, @Ne Nat q.1 I4 := z4' _ (.head _)
  clear hr3
  replace N5 := capp1 N5
  k_steps
  rename IsRange _ _ _ _ _ _ _ _ => hr4
  rename Fr _ _ _ _ => F6
  rename News _ _ _ _ => N6
  have N7 := news_mv1 N6
  refine' range_G (n := i4 + 1) (fun k => J3 w n c wv fb t W { cls := .type "list", data := .seq wa cap } T2 oT5 X5 [(I5, o5), (I4, o4)] i4 i5 k) rfl F6 N7 hG5 hr4 ?sm4 ?sz4 ?h04 ?step4 ?fin4
  case sm4 => have := R.n8; exact small_one (by (first | lia | omega)) (by (first | lia | omega)) (by (first | lia | omega)) (by (first | lia | omega))
  case sz4 => rw [rangeSize_nat]; (first | lia | omega)
  case h04 =>
    rename ((_ : Addr) == sysModules) = false => lo8
    rename LT.lt I5 _ ∧ _ => l8
    refine' (J3.mk us5 u5 t5 ps5 _ _ fm5 wm5 sm5 tm5 sp5 rfl rfl hps5 (fun q h => .tail _ h) ⟨_, .head _, lo8, (fun _ => ?g1), (fun t e => nomatch (e : (none : Option T3) = some t))⟩ ?g2 ?g3 ?g4 ?g5)
    case g1 => k_dflt assumption
    case g2 => exact List.forall_mem_cons.mpr ⟨by k_ne, z1'⟩
    case g3 => exact List.forall_mem_cons.mpr ⟨by k_ne, z2'⟩
    case g4 => exact List.forall_mem_cons.mpr ⟨by k_ne, z3'⟩
    case g5 => exact List.forall_mem_cons.mpr ⟨List.forall_mem_cons.mpr ⟨by k_ne, q8⟩, List.forall_mem_cons.mpr ⟨List.forall_mem_cons.mpr ⟨by k_ne, q10⟩, (fun _ h => nomatch h)⟩⟩
  case fin4 =>
    intro h7 tk7 gn7 m7 news7 F9 N9 hG7 hQQ
    revert N9
    refine J3.casesOn hQQ ?_
    clear hQQ news7
    rintro us7 u7' ui7 ps7 d7 Y7 fm7 wm7 sm7 tm7 sp7 im7 tb7 hps7 hX7 hE7 w1 w2 w3 w4 N9
    replace N9 := app2 N9
    have hn8 := R.n8
    have hE7' : Ent w Y7 d7 (txt c lo hi i5 (i5 + i4 + 2)) (tbs c wv (i5 + i4 + 2 - i5) i5) := by
      rw [show i5 + i4 + 2 - i5 = i4 + 2 by (first | lia | omega), ← part_all, txt_far (by (first | lia | omega))]
      exact hE7
    clear hr4
    k_steps
    rename Obj.IsDictOf _ _ (stored _ _ _) => hd8
    rename Fr _ _ _ _ => F10
    rename News _ _ _ _ => N10
    k_dflt (refine' hQ5 F10 N10 (fun _ h => nomatch h) ?ni hG7 (J2.mk us7 ps7 _ _ Y7 fm7 wm7 sm7 tm7 ⟨u7', sp7⟩ hps7 hd8 (TabInv.store (i := i5) (j := i5 + i4 + 2) hI5 hX7 ?y1 ?y2 ?y3 hE7' ?y5) (Nat.le_trans (stored_length_le _ _ _) (Nat.succ_le_succ hkl5)) w1 w2 w3 (fun p hp => w4 p (.tail _ hp))))
    case ni => exact List.forall_mem_cons.mpr ⟨q9, List.forall_mem_cons.mpr ⟨q5, List.forall_mem_cons.mpr ⟨q6, List.forall_mem_cons.mpr ⟨q7, w4 _ (.head _)⟩⟩⟩⟩
    case y1 => (first | lia | omega)
    case y2 => (first | lia | omega)
    case y3 => intro a b h; (first | lia | omega)
    case y5 => intro a b; constructor <;> (intro h; (first | lia | omega))
  intro I6 lI6 i6 t6 m6 news6 h6 tk6 gn6 o6 hi6 hJ6 hni6 hG6 F7 N8
  refine step_hide (fun Q6 dd6 os6 hQ6 => ?_)
  revert hni6 N8
  refine J3.casesOn hJ6 ?_
  clear hJ6 news6
  rintro us6 u6 ui6 ps6 d6 Y6 fm6 wm6 sm6 tm6 sp6 im6 tb6 hps6 hX6 hE6 v1 v2 v3 v4 hni6 N8
  replace N8 := capp2 N8
  replace hni6 := app2q hni6
  clear hr4
  have hn8 := R.n8
  have hs1 : i6 + 1 ≤ 100 := by (first | lia | omega)
  have hs2 : i4 + 2 - 1 - i6 ≤ 100 := by (first | lia | omega)
  have hs4 : i5 + i6 + 1 + (i4 + 2 - 1 - i6) = i5 + i4 + 2 := by (first | lia | omega)
  have hs3 : 1 ≤ i4 + 2 - 1 - i6 := by (first | lia | omega)
  obtain ⟨d1, e1', en1⟩ := hI5.1 i5 (i5 + 1 + i6) (.inl ⟨by (first | lia | omega), by (first | lia | omega), by (first | lia | omega)⟩)
  obtain ⟨d2, e2', en2⟩ := hI5.1 (i5 + 1 + i6) (i5 + i4 + 2) (.inl ⟨by (first | lia | omega), by (first | lia | omega), by (first | lia | omega)⟩)
  have ek1 : valueAt kvs5 (9 * (0 + (i5 : Int)) + (0 + (i5 : Int) + 1 + (i6 : Int))) = some (.ref d1) := by rw [← e1']; congr 1; (first | lia | omega)
  have ek2 : valueAt kvs5 (9 * (0 + (i5 : Int) + 1 + (i6 : Int)) + (0 + (i5 : Int)) + (2 + (i4 : Int))) = some (.ref d2) := by rw [← e2']; congr 1; (first | lia | omega)
  k_steps
  rw [show i5 + 1 + i6 - i5 = i6 + 1 by (first | lia | omega)] at en1
  rw [show i5 + i4 + 2 - (i5 + 1 + i6) = i4 + 2 - 1 - i6 by (first | lia | omega)] at en2
  obtain ⟨od1, md1, lod1, en10, en11⟩ := en1
  obtain ⟨od2, md2, lod2, en20, en21⟩ := en2
  have hps := part_succ c wv (i4 + 2) i5 i6
  rename Fr _ _ _ _ => F8
  rename News _ _ _ _ => N9
  have md1' : (d1, od1) ∈ Y6 := hX6 _ md1
  have md2' : (d2, od2) ∈ Y6 := hX6 _ md2
  rw [show i5 + 1 + i6 = i5 + i6 + 1 by (first | lia | omega)] at en11 en21 en20
  obtain ⟨la1, ha1, ex1, hla1, hha1⟩ := txt_is R i5 (i5 + i6 + 1)
  obtain ⟨la2, ha2, ex2, hla2, hha2⟩ := txt_is R (i5 + i6 + 1) (i5 + i4 + 2)
  rw [ex1] at en11
  rw [ex2] at en21
  have u1 : @Ne Nat T2 I6 := hni6 _ (.tail _ (.tail _ (.head _)))
  have u2 : @Ne Nat tabP I6 := hni6 _ (.tail _ (.tail _ (.tail _ (.head _))))
  have u3 : @Ne Nat W I6 := hni6 _ (.tail _ (.tail _ (.tail _ (.tail _ (.head _)))))
  have u4 : ∀ q ∈ Y6, @Ne Nat q.1 I6 := fun q h => hni6 q (.tail _ (.tail _ (.tail _ (.tail _ (.tail _ h)))))
  have u5' : @Ne Nat I4 I6 := hni6 _ (.tail _ (.head _))
  have u6' : @Ne Nat I5 I6 := hni6 _ (.head _)
  have u7 : ∀ q ∈ Y6, @Ne Nat q.1 I5 := v4 _ (.head _)
  have u8 : ∀ q ∈ Y6, @Ne Nat q.1 I4 := v4 _ (.tail _ (.head _))
  cases el : tbs c wv (i6 + 1) i5 with
  | none =>
    rw [el, joinT_none_l] at hps
    refine' keys0_G rfl F8 N9 hG6 (.tail _ (.tail _ (.tail _ (.tail _ (.tail _ (.tail _ md1')))))) (en10 el) lod1 ?_
    intro h7 tk7 gn7 F10 N10 hG7
    k_whole
    k_dflt (refine' wpAny_execs_nil (hQ6 F10 N10 (fun _ h => nomatch h) hni6 hG7 (J3.mk us6 u6 ui6 ps6 d6 Y6 fm6 wm6 sm6 tm6 sp6 im6 tb6 hps6 hX6 ?_ v1 v2 v3 v4)))
    rw [hps]; exact hE6
  | some t1 =>
    obtain ⟨a1, c1, x10, x11, x12, hd1, ma1⟩ := en11 t1 el
    have ma1' := hX6 _ ma1
    refine' keys1_G (J3 w n c wv fb t W { cls := .type "list", data := .seq wa cap } T2 oT5 X5 [(I6, o6), (I5, o5), (I4, o4)] i4 i5 (i6 + 1)) rfl F8 N9 hG6 (.tail _ (.tail _ (.tail _ (.tail _ (.tail _ (.tail _ md1')))))) hd1 lod1 ?_ ?_
    rotate_left
    focus
      intro h7 tk7 gn7 m7 news7 F10 N10 hG7 hQQ
      revert N10
      refine J3.casesOn hQQ ?_
      clear hQQ news7
      rintro us7 u7' ui7 ps7 d7 Y7 fm7 wm7 sm7 tm7 sp7 im7 tb7 hps7 hX7 hE7 w1 w2 w3 w4 N10
      replace N10 := app3 N10
      k_whole
      k_dflt (refine' wpAny_execs_nil (hQ6 F10 N10 (fun _ h => nomatch h) ?_ hG7 (J3.mk us7 u7' ui7 ps7 d7 Y7 fm7 wm7 sm7 tm7 sp7 im7 tb7 hps7 hX7 hE7 w1 w2 w3 (fun p hp => w4 p (.tail _ hp)))))
      exact List.forall_mem_cons.mpr ⟨u6', List.forall_mem_cons.mpr ⟨u5', List.forall_mem_cons.mpr ⟨u1, List.forall_mem_cons.mpr ⟨u2, List.forall_mem_cons.mpr ⟨u3, w4 _ (.head _)⟩⟩⟩⟩⟩
    intro I7 lI7 key1 h7 tk7 gn7 o7 hkey1 hG7 F10 N10
    refine step_hide (fun Q7 dd7 os7 hQ7 => ?_)
    obtain ⟨tk1', rfl⟩ := strKind_of hkey1
    k_steps
    rename Fr _ _ _ _ => F10
    rename News _ _ _ _ => N10
    have y11 : @Ne Nat T2 I7 := Nat.ne_of_lt (lI7 _ (.tail _ (.tail _ (.tail _ (.head _)))))
    have y12 : @Ne Nat tabP I7 := Nat.ne_of_lt (lI7 _ (.tail _ (.tail _ (.tail _ (.tail _ (.head _))))))
    have y13 : @Ne Nat W I7 := Nat.ne_of_lt (lI7 _ (.tail _ (.tail _ (.tail _ (.tail _ (.tail _ (.head _)))))))
    have y14 : ∀ q ∈ Y6, @Ne Nat q.1 I7 := fun q h => Nat.ne_of_lt (lI7 q (.tail _ (.tail _ (.tail _ (.tail _ (.tail _ (.tail _ h)))))))
    have y15 : @Ne Nat I4 I7 := Nat.ne_of_lt (lI7 _ (.tail _ (.tail _ (.head _))))
    have y16 : @Ne Nat I5 I7 := Nat.ne_of_lt (lI7 _ (.tail _ (.head _)))
    have y17 : @Ne Nat I6 I7 := Nat.ne_of_lt (lI7 _ (.head _))
    rename_i od7 hd7
    cases er : tbs c wv (i4 + 2 - 1 - i6) (i5 + i6 + 1) with
    | none =>
      rw [er, joinT_none_r] at hps
      refine' keys0_G rfl F10 N10 hG7 (.tail _ (.tail _ (.tail _ (.tail _ (.tail _ (.tail _ (.tail _ md2'))))))) (en20 er) lod2 ?_
      intro h8 tk8 gn8 F11 N11 hG8
      k_whole
      k_dflt (refine' wpAny_execs_nil (hQ7 F11 N11 ?_ ?_ hG8 (J3.mk us6 u6 ui6 ps6 d6 Y6 fm6 wm6 sm6 tm6 sp6 im6 tb6 hps6 hX6 ?_ v1 v2 v3 ?_)))
      · intro q hq; rw [List.mem_singleton.mp hq]; exact .tail _ (.tail _ (.tail _ (.tail _ (.tail _ (.tail _ md1')))))
      · exact List.forall_mem_cons.mpr ⟨y17, List.forall_mem_cons.mpr ⟨y16, List.forall_mem_cons.mpr ⟨y15, List.forall_mem_cons.mpr ⟨y11, List.forall_mem_cons.mpr ⟨y12, List.forall_mem_cons.mpr ⟨y13, y14⟩⟩⟩⟩⟩⟩
      · rw [hps]; exact hE6
      · exact List.forall_mem_cons.mpr ⟨u4, v4⟩
    | some t2 =>
      obtain ⟨a2, c2, x20, x21, x22, hd2, ma2⟩ := en21 t2 er
      have ma2' := hX6 _ ma2
      refine' keys1_G (J3 w n c wv fb t W { cls := .type "list", data := .seq wa cap } T2 oT5 X5 [(I7, o7), (I6, o6), (I5, o5), (I4, o4)] i4 i5 (i6 + 1)) rfl F10 N10 hG7 (.tail _ (.tail _ (.tail _ (.tail _ (.tail _ (.tail _ (.tail _ md2'))))))) hd2 lod2 ?_ ?_
      rotate_left
      focus
        intro h8 tk8 gn8 m8 news8 F11 N11 hG8 hQQ
        revert N11
        refine J3.casesOn hQQ ?_
        clear hQQ news8
        rintro us8 u8' ui8 ps8 d8 Y8 fm8 wm8 sm8 tm8 sp8 im8 tb8 hps8 hX8 hE8 w1 w2 w3 w4 N11
        replace N11 := app4 N11
        k_whole
        k_dflt (refine' wpAny_execs_nil (hQ7 F11 N11 ?_ ?_ hG8 (J3.mk us8 u8' ui8 ps8 d8 Y8 fm8 wm8 sm8 tm8 sp8 im8 tb8 hps8 hX8 hE8 w1 w2 w3 (fun p hp => w4 p (.tail _ hp)))))
        · intro q hq; rw [List.mem_singleton.mp hq]; exact .tail _ (.tail _ (.tail _ (.tail _ (.tail _ (.tail _ (hX8 _ md1))))))
        · exact List.forall_mem_cons.mpr ⟨y17, List.forall_mem_cons.mpr ⟨y16, List.forall_mem_cons.mpr ⟨y15, List.forall_mem_cons.mpr ⟨y11, List.forall_mem_cons.mpr ⟨y12, List.forall_mem_cons.mpr ⟨y13, w4 _ (.head _)⟩⟩⟩⟩⟩⟩
      intro I8 lI8 key2 h8 tk8 gn8 o8 hkey2 hG8 F11 N11
      refine step_hide (fun Q8 dd8 os8 hQ8 => ?_)
      obtain ⟨tk2', rfl⟩ := strKind_of hkey2
      by_cases hst : stepOf (hue c i5 (i5 + i6 + 1)) (hue c (i5 + i6 + 1) (i5 + i4 + 2)) = 0
      · have hdc : decide (stepOf (hue c i5 (i5 + i6 + 1)) (hue c (i5 + i6 + 1) (i5 + i4 + 2)) ≠ 0) = false := decide_eq_false (fun h => h hst)
        k_steps
        rename Fr _ _ _ _ => F12
        rename News _ _ _ _ => N12
        k_dflt (refine' hQ8 F12 (fun q hq => N12 q (.tail _ hq)) ?_ ?_ hG8 (J3.mk us6 u6 ui6 ps6 d6 Y6 fm6 wm6 sm6 tm6 sp6 im6 tb6 hps6 hX6 ?_ v1 v2 v3 ?_))
        · intro q hq; rw [List.mem_singleton.mp hq]; exact .tail _ (.tail _ (.tail _ (.tail _ (.tail _ (.tail _ (.tail _ md2'))))))
        · exact fun q hq => Nat.ne_of_lt (lI8 q hq)
        · rw [hps, el, er, show i5 + (i4 + 2) = i5 + i4 + 2 by (first | lia | omega), joinT_zero hst]; exact hE6
        · exact List.forall_mem_cons.mpr ⟨y14, List.forall_mem_cons.mpr ⟨u4, v4⟩⟩
      · have hdc : decide (stepOf (hue c i5 (i5 + i6 + 1)) (hue c (i5 + i6 + 1) (i5 + i4 + 2)) ≠ 0) = true := decide_eq_true hst
        (repeat' ((try dsimp only); walk1))
        case zelem =>
          rename_i x33 y33 hxy
          have hmul : IntMulOk x33 y33 := by
            obtain ⟨m1, m2, m3⟩ := tbs_mul R.wb (Nat.succ_le_succ (Nat.zero_le _)) hs1 hs3 hs2 el er
            rcases hxy with ⟨rfl, rfl⟩ | ⟨rfl, rfl⟩ | ⟨rfl, rfl⟩
            · exact m1
            · exact m2
            · exact m3
          unfold MulEl
          intro tx33 ty33 C33 oC33 m33 h33 tk33 E33 hC33 ha33 hb33 F33 N33 off33
          (repeat' ((try dsimp only); walk1))
          k_dflt (refine' Con.useS (imul_con hmul) ?k1 ?k2 ?k3 ?k4 ?k5 ?k6 ?k7 ?k8 trivial ?_)
          walk_at "con_args"
          intro h9 tk9 t9 F9 N9 kp9
          exact ⟨⟨_, rfl⟩, _, _, rfl, kp9⟩
        have hmet := (meet R.c3 (i := i5) (k := i5 + i6 + 1) (j := i5 + i4 + 2) (tbs_marks R.c3 (i6 + 1) i5 (by rw [el]; exact nofun)) (mk_at (tbs_marks R.c3 (i4 + 2 - 1 - i6) (i5 + i6 + 1) (by rw [er]; exact nofun)) hs4) hst).2
        (rename Fr _ _ _ _ => F12)
        (rename News _ _ _ _ => N12)
        (rename Obj.IsDictOf _ _ (strPairs _) => hdn)
        (rw [hmet] at hdn)
        have hstep := hps
        (rw [el, er, show i5 + (i4 + 2) = i5 + i4 + 2 from rfl, joinT_go hst] at hstep)
        obtain ⟨od6, md6, lod6, en60, en61⟩ := hE6
        (with_reducible rename ∀ q ∈ (D9, _) :: _, LT.lt q.1 _ => lL)
        (with_reducible rename LT.lt dd9 _ ∧ _ => lD)
        (with_reducible rename LT.lt _ dd9 ∧ _ => ldd)
        refine and11 lD.2 fun r2 r3 r4 r5 r6 r7 r8 rT rP rW rY => ?_
        refine and11 ldd fun s2 s3 s4 s5 s6 s7 s8 sT sP sW sY => ?_
        have lP := lL _ (.tail _ (.tail _ (.tail _ (.tail _ (.tail _ (.tail _ (.tail _ (.head _))))))))
        have y18 : @Ne Nat tabP I8 := Nat.ne_of_lt (lI8 _ (.tail _ (.tail _ (.tail _ (.tail _ (.tail _ (.head _)))))))
        (cases ep : part c wv (i4 + 2) i5 i6)
        · rw [ep] at hstep
          (k_dflt (refine' ConG.use (add0_con (x := ltext (hue c i5 (i5 + i4 + 2)) 48 80) (en60 ep) ?hS lod6 lo') ?k1 ?k2 ?k3 ?k4 ?k5 ?k6 ?k7 ?k8 ?kU ?kl ?kn hps6 hG8 ?_))
          (walk_at "con_args")
          case kl =>
            (refine' List.forall_mem_cons.mpr ⟨?kl1, List.forall_mem_cons.mpr ⟨?kl2, List.forall_mem_cons.mpr ⟨?kl3, fun _ h => nomatch h⟩⟩⟩)
            case kl3 => (exact List.mem_cons_self)
            case kl1 => (walk_at "y_mem")
            case kl2 => (walk_at "y_mem")
          case hS => ((k_dflt exact hdn))
          case kn => (exact List.forall_mem_cons.mpr ⟨v1 _ md6, List.forall_mem_cons.mpr ⟨Nat.ne_of_gt sP, List.forall_mem_cons.mpr ⟨Nat.ne_of_gt rP, fun _ h => nomatch h⟩⟩⟩)
          case kU => (exact .tail (Nat.ne_of_gt rP) (.tail (Nat.ne_of_gt sP) (.tail (Nat.ne_of_gt lP) (.tail (Ne.symm nzP) (.tail (Ne.symm y18) (.tail (Ne.symm y12) (.tail (Ne.symm u2) (.tail (Ne.symm q6) (.tail (Ne.symm q2) (.tail y4 (.head (List.forall_mem_cons.mpr ⟨e1, v1⟩))))))))))))
          intro v9 h9 tk9 gn9 ps9 tl9 o9
          refine AddOut0.casesOn o9 ?_
          clear o9 tl9 v9
          intro D10 o10 hd10 lo10 F9 N9 ne9 hps9 hG9
          replace N9 := app1 N9
          ((repeat' ((try dsimp only); walk1)))
          rename Fr _ _ _ _ => F13
          rename News _ _ _ _ => N13
          refine and9 (mem13 (ne9 _ (.head _))) fun n8 n7 n6 n5 n4 nT nP nW nY => ?_
          (k_dflt (refine' hQ8 F13 (fun q hq => N13 q (mv0 hq)) ?ro ?ni hG9 (J3.mk us6 u6 ui6 ps9 D10 _ fm6 wm6 sm6 tm6 sp6 im6 rfl hps9 (fun q hq => .tail _ (.tail _ (hX6 q hq))) ⟨o10, .head _, lo10, ?en1, ?en2⟩ ?g1 ?g2 ?g3 ?g4)))
          case ro => intro q hq; rw [List.mem_singleton.mp hq]; walk_at "y_mem"
          case ni =>
            intro q hq
            rcases mv3 (p := (tabP, tabObj ps9)) (p' := (tabP, tabObj ps6)) rfl hq with ⟨q', hq1, h⟩ | rfl | rfl
            · rw [← hq1]; exact Nat.ne_of_lt (lI8 q' h)
            · exact Ne.symm n8
            · exact Nat.ne_of_gt r4
          case en1 => intro e; rw [hstep] at e; exact nomatch e
          case en2 => intro t e; rw [hstep] at e; cases e; exact ⟨_, _, _, _, _, hd10, .tail _ (.head _)⟩
          case g1 => exact List.forall_mem_cons.mpr ⟨Ne.symm nP, List.forall_mem_cons.mpr ⟨Nat.ne_of_gt rP, v1⟩⟩
          case g2 => exact List.forall_mem_cons.mpr ⟨Ne.symm nT, List.forall_mem_cons.mpr ⟨Nat.ne_of_gt rT, v2⟩⟩
          case g3 => exact List.forall_mem_cons.mpr ⟨Ne.symm nW, List.forall_mem_cons.mpr ⟨Nat.ne_of_gt rW, v3⟩⟩
          case g4 => exact List.forall_mem_cons.mpr ⟨List.forall_mem_cons.mpr ⟨Ne.symm n7, List.forall_mem_cons.mpr ⟨Nat.ne_of_gt r5, y14⟩⟩, List.forall_mem_cons.mpr ⟨List.forall_mem_cons.mpr ⟨Ne.symm n6, List.forall_mem_cons.mpr ⟨Nat.ne_of_gt r6, u4⟩⟩, List.forall_mem_cons.mpr ⟨List.forall_mem_cons.mpr ⟨Ne.symm n5, List.forall_mem_cons.mpr ⟨Nat.ne_of_gt r7, u7⟩⟩, List.forall_mem_cons.mpr ⟨List.forall_mem_cons.mpr ⟨Ne.symm n4, List.forall_mem_cons.mpr ⟨Nat.ne_of_gt r8, u8⟩⟩, fun _ h => nomatch h⟩⟩⟩⟩
        · rename_i t0
          rw [ep] at hstep
          obtain ⟨a6, c6, x60, x61, x62, hd6, ma6⟩ := en61 t0 ep
          k_dflt (refine' ConG.use (add1_con (x := ltext (hue c i5 (i5 + i4 + 2)) 48 80) hd6 ?hS lod6 lo') ?k1 ?k2 ?k3 ?k4 ?k5 ?k6 ?k7 ?k8 ?kU ?kl ?kn hps6 hG8 ?_)
          walk_at "con_args"
          case kl =>
            refine' List.forall_mem_cons.mpr ⟨?kl1, List.forall_mem_cons.mpr ⟨?kl2, List.forall_mem_cons.mpr ⟨?kl3, List.forall_mem_cons.mpr ⟨?kl4, fun _ h => nomatch h⟩⟩⟩⟩
            case kl4 => exact List.mem_cons_self
            case kl1 => walk_at "y_mem"
            case kl2 => walk_at "y_mem"
            case kl3 => walk_at "y_mem"
          case hS => (k_dflt exact hdn)
          case kn => exact List.forall_mem_cons.mpr ⟨v1 _ md6, List.forall_mem_cons.mpr ⟨Nat.ne_of_gt sP, List.forall_mem_cons.mpr ⟨v1 _ ma6, List.forall_mem_cons.mpr ⟨Nat.ne_of_gt rP, fun _ h => nomatch h⟩⟩⟩⟩
          case kU => exact .tail (Nat.ne_of_gt rP) (.tail (Nat.ne_of_gt sP) (.tail (Nat.ne_of_gt lP) (.tail (Ne.symm nzP) (.tail (Ne.symm y18) (.tail (Ne.symm y12) (.tail (Ne.symm u2) (.tail (Ne.symm q6) (.tail (Ne.symm q2) (.tail y4 (.head (List.forall_mem_cons.mpr ⟨e1, v1⟩)))))))))))
          intro v9 h9 tk9 gn9 ps9 tl9 o9
          refine AddOut1.casesOn o9 ?_
          clear o9 tl9 v9
          intro D10 o10 t10 ta tb tc cc hd10 lo10 F9 N9 ne9 hps9 hG9
          replace N9 := app2 N9
          (repeat' ((try dsimp only); walk1))
          rename Fr _ _ _ _ => F13
          rename News _ _ _ _ => N13
          refine and9 (mem13 (ne9 _ (.head _))) fun n8 n7 n6 n5 n4 nT nP nW nY => ?_
          refine and9 (mem13 (ne9 _ (.tail _ (.head _)))) fun o8' o7' o6' o5' o4' oT' oP' oW' oY' => ?_
          k_dflt (refine' hQ8 F13 (fun q hq => N13 q (mv00 hq)) ?ro ?ni hG9 (J3.mk us6 u6 ui6 ps9 D10 _ fm6 wm6 sm6 tm6 sp6 im6 rfl hps9 (fun q hq => .tail _ (.tail _ (hX6 q hq))) ⟨o10, .head _, lo10, ?en1, ?en2⟩ ?g1 ?g2 ?g3 ?g4))
          case ro => intro q hq; rw [List.mem_singleton.mp hq]; walk_at "y_mem"
          case ni =>
            intro q hq
            rcases mv3 (p := (tabP, tabObj ps9)) (p' := (tabP, tabObj ps6)) rfl hq with ⟨q', hq1, h⟩ | rfl | rfl
            · rw [← hq1]; exact Nat.ne_of_lt (lI8 q' h)
            · exact Ne.symm n8
            · exact Ne.symm o8'
          case en1 => intro e; rw [hstep] at e; exact nomatch e
          case en2 => intro t e; rw [hstep] at e; cases e; exact ⟨_, _, _, _, _, hd10, .tail _ (.head _)⟩
          case g1 => exact List.forall_mem_cons.mpr ⟨Ne.symm nP, List.forall_mem_cons.mpr ⟨Ne.symm oP', v1⟩⟩
          case g2 => exact List.forall_mem_cons.mpr ⟨Ne.symm nT, List.forall_mem_cons.mpr ⟨Ne.symm oT', v2⟩⟩
          case g3 => exact List.forall_mem_cons.mpr ⟨Ne.symm nW, List.forall_mem_cons.mpr ⟨Ne.symm oW', v3⟩⟩
          case g4 => exact List.forall_mem_cons.mpr ⟨List.forall_mem_cons.mpr ⟨Ne.symm n7, List.forall_mem_cons.mpr ⟨Ne.symm o7', y14⟩⟩, List.forall_mem_cons.mpr ⟨List.forall_mem_cons.mpr ⟨Ne.symm n6, List.forall_mem_cons.mpr ⟨Ne.symm o6', u4⟩⟩, List.forall_mem_cons.mpr ⟨List.forall_mem_cons.mpr ⟨Ne.symm n5, List.forall_mem_cons.mpr ⟨Ne.symm o5', u7⟩⟩, List.forall_mem_cons.mpr ⟨List.forall_mem_cons.mpr ⟨Ne.symm n4, List.forall_mem_cons.mpr ⟨Ne.symm o4', u8⟩⟩, fun _ h => nomatch h⟩⟩⟩⟩
end
section

set_option Elab.async false
set_option maxRecDepth 100000
/-- what a pair does to the sign -/
def sg (a b : Nat) : Int := if ((b : Int) - a) % 3 = 1 then 1 else -1
/-- the number of ways to cut -/
def wys (c : Nat → Nat) : Nat → Nat → Int
  | 0, _ => 0
  | 1, _ => 1
  | s + 2, i => if mk c i = mk c (i + s + 2) then 0 else (List.range (s + 1)).attach.foldl (fun acc k => acc + wys c (k.1 + 1) i * wys c (s + 1 - k.1) (i + k.1 + 1)) 0
termination_by s => s
decreasing_by
  · have := List.mem_range.mp k.2; (first | lia | omega)
  · have := List.mem_range.mp k.2; (first | lia | omega)
def wpart (c : Nat → Nat) (s i k : Nat) : Int :=
  (List.range k).foldl (fun acc k => acc + wys c (k + 1) i * wys c (s - 1 - k) (i + k + 1)) (if s = 1 then 1 else 0)
theorem wpart_zero (c s i) : wpart c s i 0 = if s = 1 then 1 else 0 := rfl
theorem wpart_succ (c s i k) : wpart c s i (k + 1) = wpart c s i k + wys c (k + 1) i * wys c (s - 1 - k) (i + k + 1) := by
  unfold wpart
  rw [List.range_succ, List.foldl_append]
  rfl
theorem wys_all (c : Nat → Nat) (s i : Nat) : wys c (s + 1) i = if mk c i = mk c (i + (s + 1)) then (if s + 1 = 1 then 1 else 0) else wpart c (s + 1) i s := by
  match s with
  | 0 =>
    rw [wys, wpart_zero]
    split <;> rfl
  | s + 1 =>
    rw [wys, show i + s + 2 = i + (s + 1 + 1) by (first | lia | omega)]
    unfold wpart
    rw [if_neg (show ¬ s + 1 + 1 = 1 by (first | lia | omega))]
    rw [foldl_attach (fun acc k => acc + wys c (k + 1) i * wys c (s + 1 - k) (i + k + 1)) (List.range (s + 1)) 0]
    rfl
def rowP (c : Nat → Nat) (p a : Nat) : Nat → Int
  | 0 => 1
  | t + 1 => rowP c p a t * sg (c p) (c (a + t))
def sgP (c : Nat → Nat) (i j : Nat) : Nat → Int
  | 0 => 1
  | t + 1 => sgP c i j t * rowP c (i + t) (i + t + 1) (j - (i + t + 1))
def prW (w : Nat → Int) (i : Nat) : Nat → Int
  | 0 => 1
  | t + 1 => prW w i t * w (i + t)
def dent (c : Nat → Nat) (w : Nat → Int) (s i : Nat) : Option T3 :=
  if 0 < wys c s i then some (wys c s i, sgP c i (i + s) s * wys c s i, sgP c i (i + s) s * wys c s i * prW w i s) else none
def dtx (c lo hi : Nat → Nat) (i j : Nat) : Str := if j = i + 1 then ltext (2 - c i) (lo i) (hi i) else ltext (2 - hue c i j) 48 80
theorem sg_abs (a b : Nat) : (sg a b).natAbs = 1 := by unfold sg; split <;> rfl
theorem rowP_abs (c p a t) : (rowP c p a t).natAbs = 1 := by
  induction t with
  | zero => rfl
  | succ t ih => rw [rowP, Int.natAbs_mul, ih, sg_abs]
theorem sgP_abs (c i j t) : (sgP c i j t).natAbs = 1 := by
  induction t with
  | zero => rfl
  | succ t ih => rw [sgP, Int.natAbs_mul, ih, rowP_abs]
theorem prW_abs {w : Nat → Int} (hw : ∀ i, (w i).natAbs < 2 ^ 32) (i t : Nat) : (prW w i t).natAbs ≤ 2 ^ (32 * t) := by
  induction t with
  | zero => exact Nat.le_refl _
  | succ t ih =>
    rw [prW, Int.natAbs_mul, show 32 * (t + 1) = 32 * t + 32 by (first | lia | omega), Nat.pow_add]
    exact Nat.mul_le_mul ih (Nat.le_of_lt (hw _))
theorem wys_abs (c : Nat → Nat) : ∀ s, 1 ≤ s → s ≤ 100 → ∀ i, (wys c s i).natAbs ≤ 2 ^ (64 * s - 32) := by
  intro s
  induction s using Nat.strongRecOn with
  | _ s ih =>
    intro h1 h2 i
    match s, ih, h1, h2 with
    | 1, _, _, _ => rw [wys]; decide
    | s + 2, ih, _, h2 =>
      rw [wys_all]
      split
      · rw [if_neg (by (first | lia | omega))]; exact Nat.zero_le _
      · have key : ∀ k ≤ s + 1, (wpart c (s + 2) i k).natAbs ≤ k * 2 ^ (64 * (s + 2) - 64) := by
          intro k
          induction k with
          | zero => intro _; rw [wpart_zero, if_neg (by (first | lia | omega))]; exact Nat.zero_le _
          | succ k ihk =>
            intro hk
            rw [wpart_succ]
            have e : 2 ^ (64 * (k + 1) - 32) * 2 ^ (64 * (s + 2 - 1 - k) - 32) = 2 ^ (64 * (s + 2) - 64) := by
              rw [← Nat.pow_add]; congr 1; (first | lia | omega)
            have m : (wys c (k + 1) i * wys c (s + 2 - 1 - k) (i + k + 1)).natAbs ≤ 2 ^ (64 * (s + 2) - 64) := by
              rw [Int.natAbs_mul, ← e]
              exact Nat.mul_le_mul (ih (k + 1) (by (first | lia | omega)) (by (first | lia | omega)) (by (first | lia | omega)) i) (ih (s + 2 - 1 - k) (by (first | lia | omega)) (by (first | lia | omega)) (by (first | lia | omega)) (i + k + 1))
            have := ihk (by (first | lia | omega))
            rw [Nat.succ_mul]
            exact Nat.le_trans (Int.natAbs_add_le _ _) (Nat.add_le_add this m)
        refine Nat.le_trans (key (s + 1) (Nat.le_refl _)) ?_
        rw [show 64 * (s + 2) - 32 = (64 * (s + 2) - 64) + 32 by (first | lia | omega), Nat.pow_add, Nat.mul_comm (2 ^ (64 * (s + 2) - 64)) (2 ^ 32)]
        exact Nat.mul_le_mul_right _ (by (first | lia | omega))
theorem pow_small {s : Nat} (hs : s ≤ 100) : 2 ^ (64 * s - 32) < 2 ^ 10000 := Nat.pow_lt_pow_right (by decide) (by (first | lia | omega))
theorem wys_mul (c : Nat → Nat) {s s' i i' : Nat} (h1 : 1 ≤ s) (h2 : s ≤ 100) (h1' : 1 ≤ s') (h2' : s' ≤ 100) : IntMulOk (wys c s i) (wys c s' i') :=
  .of_le (fit_bits (wys_abs c s h1 h2 i) (pow_small h2)) (fit_bits (wys_abs c s' h1' h2' i') (pow_small h2')) (by decide)
theorem one_mul_ok {x y : Int} (h : x.natAbs = 1) : IntMulOk x y := .of_left (fit_bits (B := 1) (m := 64) (by (first | lia | omega)) (by decide))
theorem prW_mul {w : Nat → Int} (hw : ∀ i, (w i).natAbs < 2 ^ 32) {i t j : Nat} (ht : t ≤ 100) : IntMulOk (prW w i t) (w j) :=
  .of_right (fit_bits (Nat.le_of_lt (hw j)) (m := 64) (by decide))
theorem due_mul {c : Nat → Nat} {w : Nat → Int} (hw : ∀ i, (w i).natAbs < 2 ^ 32) {s i t : Nat} {x : Int} (hx : x.natAbs = 1) (h1 : 1 ≤ s) (h2 : s ≤ 100) (ht : t ≤ 100) : IntMulOk (x * wys c s i) (prW w i t) := by
  refine .of_le (fit_bits (B := 2 ^ (64 * s - 32)) ?_ (pow_small h2)) (fit_bits (prW_abs hw i t) (show 2 ^ (32 * t) < 2 ^ 10000 from Nat.pow_lt_pow_right (by decide) (by (first | lia | omega)))) (by decide)
  rw [Int.natAbs_mul, hx, Nat.one_mul]
  exact wys_abs c s h1 h2 i
theorem xor4 : ∀ a < 4, ∀ b < 4, Builtin.bitXor ((a : Nat) : Int) ((b : Nat) : Int) = ((a ^^^ b : Nat) : Int) := by decide
/-- a dict of tables with any texts and entries -/
def TabE (w : World) (Y : List (Addr × Obj)) (kvs : List (Int × Value)) (tx : Nat → Nat → Str) (en : Nat → Nat → Option T3) (done : Nat → Nat → Prop) : Prop :=
  (∀ i j, done i j → ∃ d, valueAt kvs (9 * i + j : Int) = some (.ref d) ∧ Ent w Y d (tx i j) (en i j)) ∧ (∀ k v, valueAt kvs k = some v → ∃ i j, done i j ∧ k = (9 * i + j : Int))
theorem TabE.store {w : World} {X X' : List (Addr × Obj)} {kvs : List (Int × Value)} {tx : Nat → Nat → Str} {en : Nat → Nat → Option T3} {done done' : Nat → Nat → Prop} (h : TabE w X kvs tx en done) (s : ∀ q ∈ X, q ∈ X') {i j : Nat} {k : Int} {d : Addr}
    (hk : k = 9 * i + j) (hj : j ≤ 8) (hd : ∀ a b, done a b → b ≤ 8) (e : Ent w X' d (tx i j) (en i j)) (hdn : ∀ a b, done' a b ↔ done a b ∨ (a = i ∧ b = j)) : TabE w X' (stored kvs k (.ref d)) tx en done' := by
  subst hk
  refine ⟨fun a b hab => ?_, fun k v hv => ?_⟩
  · rw [valueAt_stored]
    by_cases hc : ((9 * a + b : Int) = 9 * i + j)
    · rcases (hdn a b).mp hab with hab | ⟨rfl, rfl⟩
      · have := hd a b hab
        have e1 : a = i := by (first | lia | omega)
        have e2 : b = j := by (first | lia | omega)
        subst e1 e2
        exact ⟨d, if_pos hc, e⟩
      · exact ⟨d, if_pos hc, e⟩
    · rw [if_neg hc]
      rcases (hdn a b).mp hab with hab | ⟨rfl, rfl⟩
      · obtain ⟨d', h1, h2⟩ := h.1 a b hab
        exact ⟨d', h1, h2.mono s⟩
      · exact absurd rfl hc
  · rw [valueAt_stored] at hv
    by_cases hc : k = 9 * i + j
    · exact ⟨i, j, (hdn i j).mpr (.inr ⟨rfl, rfl⟩), hc⟩
    · rw [if_neg hc] at hv
      obtain ⟨a, b, h1, h2⟩ := h.2 k v hv
      exact ⟨a, b, (hdn a b).mpr (.inl h1), h2⟩
theorem TabE.mono {w : World} {X X' : List (Addr × Obj)} {kvs : List (Int × Value)} {tx : Nat → Nat → Str} {en : Nat → Nat → Option T3} {done done' : Nat → Nat → Prop} (h : TabE w X kvs tx en done) (s : ∀ q ∈ X, q ∈ X') (hdn : ∀ a b, done' a b ↔ done a b) : TabE w X' kvs tx en done' :=
  ⟨fun a b hab => let ⟨d, h1, h2⟩ := h.1 a b ((hdn a b).mp hab); ⟨d, h1, h2.mono s⟩, fun k v hv => let ⟨a, b, h1, h2⟩ := h.2 k v hv; ⟨a, b, (hdn a b).mpr h1, h2⟩⟩
/-- a dict of numbers -/
def NumE (kvs : List (Int × Value)) (en : Nat → Nat → Int) (done : Nat → Nat → Prop) : Prop :=
  ∀ i j, done i j → ∃ t, valueAt kvs (9 * i + j : Int) = some (.int (en i j) t)
theorem NumE.store {kvs : List (Int × Value)} {en : Nat → Nat → Int} {done done' : Nat → Nat → Prop} (h : NumE kvs en done) {i j : Nat} {k : Int} {t : Tok}
    (hk : k = 9 * i + j) (hj : j ≤ 8) (hd : ∀ a b, done a b → b ≤ 8) (hdn : ∀ a b, done' a b → done a b ∨ (a = i ∧ b = j)) : NumE (stored kvs k (.int (en i j) t)) en done' := by
  subst hk
  intro a b hab
  rw [valueAt_stored]
  by_cases hc : ((9 * a + b : Int) = 9 * i + j)
  · rcases hdn a b hab with hab | ⟨rfl, rfl⟩
    · have := hd a b hab
      have e1 : a = i := by (first | lia | omega)
      have e2 : b = j := by (first | lia | omega)
      subst e1 e2
      exact ⟨t, if_pos hc⟩
    · exact ⟨t, if_pos hc⟩
  · rw [if_neg hc]
    rcases hdn a b hab with hab | ⟨rfl, rfl⟩
    · exact h a b hab
    · exact absurd rfl hc
end
section

set_option Elab.async false
set_option maxRecDepth 100000
set_option maxHeartbeats 8000000
section
variable {prog : Program} {w : World} {A : Around} {E : Value → Shared → Prop} {s : Shared} {env : Env} {h₀ : Heap} {target : Expr} {body : List Stmt} {Q : Flow → Shared → Prop}
theorem list_G {d : Addr} {od : Obj} {items : Array Value} {news : List (Addr × Obj)} {m : Str → Option Value} (J : Nat → (Str → Option Value) → List (Addr × Obj) → Prop)
    (hh : A.handled = none) (F : Fr h₀ env.locals s.heap m) (N : News h₀ env.locals s.heap news) (hG : AllBare s.gens) (hm : (d, od) ∈ news) (hd : od.cls = .type "list" ∧ ∃ n, od.data = .seq items n)
    (h0 : J 0 m news)
    (step : ∀ I : Addr, (∀ q ∈ news, q.1 < I) → ∀ i x m₁ news₁ h₁ tk₁ gn₁ o, items[i]? = some x → J i m₁ news₁ → (d, od) ∈ news₁ → (∀ q ∈ news₁, q.1 ≠ I) → AllBare gn₁ → Fr h₀ env.locals h₁ m₁ → News h₀ env.locals h₁ ((I, o) :: news₁) →
      wpAny (model prog w) A (assign target env x) (fun _ s₃ => wpAny (model prog w) A (execs body env)
        (StepG h₀ env.locals I o [(d, od)] (J (i + 1)) { s with heap := h₁, toks := tk₁, gens := gn₁ }) E s₃) E { s with heap := h₁, toks := tk₁, gens := gn₁ })
    (fin : ∀ h' tk gn m' news', Fr h₀ env.locals h' m' → News h₀ env.locals h' news' → (d, od) ∈ news' → AllBare gn → J items.size m' news' → Q .next { s with heap := h', toks := tk, gens := gn }) :
    wpAny (model prog w) A (pyIter (.ref d)) (fun it s₂ => TurnsG prog w A h₀ env target body Q E it s₂) E s := by
  have hax := N _ hm
  have hl : s.heap.IsList d items := ⟨od, hax.1, hd.1, hd.2⟩
  have hlt : d < s.heap.objs.size := Heap.lt_size hax.1
  refine wpAny_pyIter_list hl ?_
  refine ⟨s.heap.objs.size, [(d, od)], items.size, _, _, _, m, news, J, KTurns.ofWalks (Walks.list hh s.heap.objs.size d (Nat.ne_of_lt hlt) items) (fun i v s Q E st q => letGo_listiter st.1 q), Nat.ne_of_lt F.ns.lt, next_is_new F, ?_, F.push _, N.grown fun _ _ e => Heap.get?_push_of_some _ e, (fun q hq => by rw [List.mem_singleton.mp hq]; exact hm), (fun p hp => Nat.ne_of_lt (Heap.lt_size (N p hp).1)), hG, (fun i h st => let ⟨⟨o, e, _⟩, _⟩ := st; ⟨o, e⟩), h0, ?_, fun h' tk gn m' news' F' N' hr hG' hJ => fin h' tk gn m' news' F' N' (hr _ (.head _)) hG' hJ⟩
  · exact ⟨⟨_, Heap.get?_push_size _ rfl, rfl, rfl⟩, hl.push _⟩
  · rintro i v m₁ news₁ h₁ tk₁ gn₁ o hi hx hJ hro hni hG' F₁ N₁
    exact step _ (fun p hp => Heap.lt_size (N p hp).1) i v m₁ news₁ h₁ tk₁ gn₁ o hx hJ (hro _ (.head _)) hni hG' F₁ N₁
end
end
section

set_option Elab.async false
set_option maxRecDepth 100000
set_option maxHeartbeats 8000000
local macro_rules | `(tactic| walk_at "execs cons") => `(tactic| ((try dsimp only); k_dflt (refine tok_gen (fun _ => ?_)); walk1))
abbrev lobj (xs : Array Value) (k : Nat) : Obj := { cls := .type "list", data := .seq xs k }
structure DRow (n : Nat) (c lo hi : Nat → Nat) (wv : Nat → Int) (ca wa la : Array Value) (led : List (Addr × Obj)) : Prop where
  n1 : 1 ≤ n
  n8 : n ≤ 8
  c3 : ∀ i, c i < 3
  lh : ∀ i, lo i < hi i
  h8 : ∀ i, hi i < 256
  wb : ∀ i, (wv i).natAbs < 2 ^ 32
  csize : ca.size = n
  corner : ∀ i < n, ∃ t, ca[i]? = some (.int (c i : Nat) t)
  wsize : wa.size = n
  worth : ∀ i < n, ∃ t, wa[i]? = some (.int (wv i) t)
  lsize : la.size = n
  light : ∀ i < n, ∃ l t0 t1 t2 k, la[i]? = some (.ref l) ∧ (l, lobj #[.int (lightAt (c i) (lo i) (hi i) 0 : Nat) t0, .int (lightAt (c i) (lo i) (hi i) 1 : Nat) t1, .int (lightAt (c i) (lo i) (hi i) 2 : Nat) t2] k) ∈ led
theorem DRow.n100 {n : Nat} {c lo hi : Nat → Nat} {wv : Nat → Int} {ca wa la : Array Value} {led : List (Addr × Obj)} (R : DRow n c lo hi wv ca wa la led) : n ≤ 100 := Nat.le_trans R.n8 (by decide)
theorem DRow.l256 {n : Nat} {c lo hi : Nat → Nat} {wv : Nat → Int} {ca wa la : Array Value} {led : List (Addr × Obj)} (R : DRow n c lo hi wv ca wa la led) (i k : Nat) : (0 : Int) ≤ (lightAt (c i) (lo i) (hi i) k : Nat) ∧ ((lightAt (c i) (lo i) (hi i) k : Nat) : Int) < 256 := by
  have h1 := R.lh i
  have h2 := R.h8 i
  unfold lightAt
  split <;> (first | lia | omega)
inductive DueOut (w : World) (n : Nat) (c lo hi : Nat → Nat) (wv : Nat → Int) : Value → List (Addr × Obj) → Prop
  | mk : ∀ D oD kvs Y, ((D == sysModules) = false) → (oD.IsDictOf (intKind PySem.Challenge.rw_zn0010_01.row.prog w) kvs) → (TabE w Y kvs (fun a b => dtx c lo hi (n - b) (n - a)) (fun a b => dent c wv (b - a) (n - b)) (fun a b => a < b ∧ b ≤ n)) → DueOut w n c lo hi wv (.ref D) ((D, oD) :: Y)
local macro_rules | `(tactic| walk_at "exec If") => `(tactic| (k_dflt (refine wpAny_If ?_)))
local macro_rules | `(tactic| walk_at "binaryOp Mult int int") => `(tactic| ((k_dflt (refine' PyProof.Rows.mul_int ?_ ?hm; (case hm => with_reducible assumption))); (try dsimp only)))
set_option hygiene false in
local macro_rules | `(tactic| walk_at "setItem ref int") => `(tactic| (k_dflt (refine' kda_set (knd := PySem.intKind _ _) ?sF ?sN ?sU ?sd (intKind_is _ _ _ _) ?sz ?_; (case sF => k_asm); (case sN => k_asm); (case sU => k_updF); (case sd => k_asm); (case sz => exact Nat.le_trans (by assumption) (by rw [sizeLine_eq]; have := R.n8; (first | lia | omega)))); intro h' o' F' N' hd'; (replace N' : News _ _ _ (_ :: _) := N')))
set_option hygiene false in
local macro_rules | `(tactic| walk_at "subscriptTail Name Slice ref ref") => `(tactic| (k_dflt (refine' krv_lit ?rvF ?rvN ?rvl ?rvk ?rve ?_ ?rvs ?rvt ?rvz; (case rvF => k_asm); (case rvN => k_asm); (case rvl => exact News.isList (by k_asm) (by walk_at "y_mem")); (case rvk => exact IsPart.int _ _); (case rve => kl_lit); (case rvs => with_unfolding_all rfl); (case rvt => kmk_pure); (case rvz => exact Nat.le_of_ble_eq_true rfl)); intro D' h' F' N' l1; (try k_lt l1)))
set_option hygiene false in
local macro_rules | `(tactic| walk_at "call ref") => `(tactic| (k_dflt (refine' Con.useS (text_con (R.l256 i5 2) (R.l256 i5 1) (R.l256 i5 0)) ?k1 ?k2 ?k3 ?k4 ?k5 ?k6 ?k7 ?k8 ?kp ?_; (case kp => exact News.isList (by k_asm) (by walk_at "y_mem")); walk_at "con_args"; (intro h9 tk9 t9 F9 N9 _); (try dsimp only))))
set_option hygiene false in
local macro_rules | `(tactic| walk_at "binaryOp BitXor int int") => `(tactic| ((k_dflt (refine xor_at (mk_lt R.c3 _) (mk_lt R.c3 _) ?_)); (try dsimp only)))
local macro_rules | `(tactic| walk_at "inplaceOp Mult int int") => `(tactic| ((k_dflt (refine' PyProof.Rows.imul_int ?_ ?hm; (case hm => with_reducible assumption))); (try dsimp only)))
local macro_rules | `(tactic| walk_at "loadName") => `(tactic| (k_dflt (refine' wpAny_loadName_local ?la ?lb (Fr.ns ?lF) ?lv ?_; (case la => rfl); (case lb => rfl); (case lF => k_asm); (case lv => first | assumption | rfl))))
set_option hygiene false in
local macro_rules | `(tactic| walk_at "exec For Name Name cons nil") => `(tactic| (
  rename Fr _ _ _ _ => lF'
  (with_unfolding_all (refine' For_G lF' ?_))
  k_whole))
set_option hygiene false in
local macro_rules | `(tactic| walk_at "exec For Name Call cons nil") => `(tactic| (
  rename Fr _ _ _ _ => lF'
  (with_unfolding_all (refine' For_G lF' ?_))
  k_whole))
local macro_rules | `(tactic| walk_at "eval Name") => `(tactic| (k_dflt (refine' ld ?k1 ?k2 ?_; (case k1 => k_asm); (case k2 => assumption))))
def Marks (c : Nat → Nat) (ms : Array Value) (i : Nat) : Prop := ms.size = i + 1 ∧ ∀ j ≤ i, ∃ t, ms[j]? = some (.int (mk c j : Nat) t)
set_option hygiene false in
local macro_rules | `(tactic| walk_at "call builtin:len") => `(tactic| (k_dflt (refine call_len_list (News.isList (by k_asm) (by walk_at "y_mem")) (by rw [R.csize]; have := R.n8; (first | lia | omega)) ?_)))
section
variable {prog : Program} {w : World} {A : Around} {E : Value → Shared → Prop} {s : Shared} {h₀ : Heap} {L : Addr} {m : Str → Option Value} {news : List (Addr × Obj)}
theorem item_at {value slice : PySem.Expr} {d : Addr} {xs : Array Value} {cap : Nat} {k : Int} {t : Tok} {x : Value} {Q : Value → Shared → Prop} (N : News h₀ L s.heap news) (hm : (d, lobj xs cap) ∈ news) (hx : xs[k.toNat]? = some x) (h0 : 0 ≤ k) (hz : xs.size ≤ 100) (h : Q x s)
    (hs : subscripted slice false (.ref d) (.int k t) = operate [.ref d, .int k t] (getItem (.ref d) (.int k t)) := by with_unfolding_all rfl) (hg : ∀ r, letTemporaryGo value (.ref d) r = pure () := by intro _; with_unfolding_all rfl) :
    wpAny (model prog w) A (subscriptTail value slice (.ref d) (.int k t)) Q E s := by
  have hl : s.heap.IsList d xs := ⟨_, (N _ hm).1, rfl, cap, rfl⟩
  have : k.toNat < xs.size := (Array.getElem?_eq_some_iff.mp hx).1
  exact subscriptTail_builtin hl.typeIs slot_list_getitem.lookup (wpAny_getItem_list hl h0 (by (first | lia | omega)) hx h) hs hg
theorem item_last {value slice : PySem.Expr} {d : Addr} {xs : Array Value} {cap : Nat} {t : Tok} {x : Value} {i : Nat} {Q : Value → Shared → Prop} (N : News h₀ L s.heap news) (hm : (d, lobj xs cap) ∈ news) (hz : xs.size = i + 1) (hx : xs[i]? = some x) (h : Q x s)
    (hs : subscripted slice false (.ref d) (.int (-1) t) = operate [.ref d, .int (-1) t] (getItem (.ref d) (.int (-1) t)) := by with_unfolding_all rfl) (hg : ∀ r, letTemporaryGo value (.ref d) r = pure () := by intro _; with_unfolding_all rfl) :
    wpAny (model prog w) A (subscriptTail value slice (.ref d) (.int (-1) t)) Q E s := by
  have hl : s.heap.IsList d xs := ⟨_, (N _ hm).1, rfl, cap, rfl⟩
  refine subscriptTail_builtin hl.typeIs slot_list_getitem.lookup (wpAny_getItem_list_neg hl (by decide) (by rw [hz]; (first | lia | omega)) (by decide) ?_ h) hs hg
  rw [show ((-1 : Int) + (xs.size : Int)).toNat = i by rw [hz]; (first | lia | omega)]
  exact hx
end
theorem Marks.push {c : Nat → Nat} (hc : ∀ i, c i < 3) {ms : Array Value} {i : Nat} {t : Tok} (h : Marks c ms i) : Marks c (ms.push (.int (Builtin.bitXor (mk c i : Nat) ((c i : Nat) + 1)) t)) (i + 1) := by
  refine ⟨by rw [Array.size_push, h.1], fun j hj => ?_⟩
  rw [show ((c i : Nat) : Int) + 1 = ((c i + 1 : Nat) : Int) by (first | lia | omega), xor4 _ (mk_lt hc i) _ (by have := hc i; (first | lia | omega))]
  rw [Array.getElem?_push]
  by_cases e : j = i + 1
  · subst e; rw [if_pos h.1.symm]; exact ⟨t, rfl⟩
  · rw [if_neg (by rw [h.1]; exact e)]; exact h.2 j (by (first | lia | omega))
set_option hygiene false in
local macro_rules | `(tactic| walk_at "subscriptTail") => `(tactic| ((with_reducible show wpAny _ _ (subscriptTail _ _ (Value.ref _) (Value.int _ _)) _ _ _); (with_reducible rename News _ _ _ _ => N8); (k_dflt (first
  | (refine' item_at N8 ?ma ?xa ?za ?sa ?_ ?hsa ?hga; (case ma => walk_at "y_mem"); (case xa => with_reducible assumption); (case za => (first | lia | omega)); (case sa => first | (rw [R.csize]; exact R.n100) | (rw [R.wsize]; exact R.n100) | (rw [R.lsize]; exact R.n100) | (rw [hms.1]; exact Nat.succ_le_of_lt (Nat.lt_of_le_of_lt R.n8 (by decide)))); (case hsa => with_unfolding_all rfl); (case hga => (intro _; with_unfolding_all rfl)))
  | (refine' kda_item (knd := PySem.intKind _ _) N8 ?ma hY5 (intKind_is _ _ _ _) ?xa ?_ ?hsa ?hga; (case ma => walk_at "y_mem"); (case xa => with_reducible assumption); (case hsa => with_unfolding_all rfl); (case hga => (intro _; with_unfolding_all rfl)))
  | refine item_last N8 (by walk_at "y_mem") hms1.1 hlast ?_))))
set_option hygiene false in
local macro_rules | `(tactic| walk_at "call builtin:list.append") => `(tactic| (k_dflt (refine' append_K (its := ms1) ?aF ?aN ?aU ?_ ?az; (case aF => k_asm); (case aN => k_asm); (case aU => exact .tail (Ne.symm nM1) (.head nMX)); (case az => rw [sizeLine_eq, hms1.1]; have := R.n8; (first | lia | omega))); intro h' F' N'; (replace N' : News _ _ _ (_ :: _) := N')))
section
variable {M : Model} {A : Around} {E : Value → Shared → Prop} {s : Shared}
def IfjP (s : Shared) (x : Int) (v : Value) (s' : Shared) : Prop := ∃ u tk', v = .int x u ∧ s' = { s with toks := tk' }
theorem IfjP.of {x y : Int} {u : Tok} {tk : Nat} (h : y = x) : IfjP s x (.int y u) { s with toks := tk } := ⟨u, tk, by rw [h], rfl⟩
theorem ifj {t : Sem Value} {x : Int} {Q : Value → Shared → Prop} (h : wpAny M A t (IfjP s x) E s) (k : ∀ u tk', Q (.int x u) { s with toks := tk' }) : wpAny M A t Q E s :=
  wpAny_mono h (fun v s' hq => by obtain ⟨u, tk', rfl, rfl⟩ := hq; exact k u tk') fun _ _ x => x
def TjP (s : Shared) (x : Str) (v : Value) (s' : Shared) : Prop := ∃ u tk', v = .str x u ∧ s' = { s with toks := tk' }
theorem TjP.of {x y : Str} {u : Tok} {tk : Nat} (h : y = x) : TjP s x (.str y u) { s with toks := tk } := ⟨u, tk, by rw [h], rfl⟩
theorem tj {t : Sem Value} {x : Str} {Q : Value → Shared → Prop} (h : wpAny M A t (TjP s x) E s) (k : ∀ u tk', Q (.str x u) { s with toks := tk' }) : wpAny M A t Q E s :=
  wpAny_mono h (fun v s' hq => by obtain ⟨u, tk', rfl, rfl⟩ := hq; exact k u tk') fun _ _ x => x
/-- a statement that leaves the ledger and goes on -/
inductive Keep1 (h₀ : Heap) (L : Addr) (news : List (Addr × Obj)) (s : Shared) (X : (Str → Option Value) → Prop) : Flow → Shared → Prop
  | mk : ∀ h' tk gn m', Fr h₀ L h' m' → News h₀ L h' news → AllBare gn → X m' → Keep1 h₀ L news s X .next { s with heap := h', toks := tk, gens := gn }
theorem keep1 {h₀ : Heap} {L : Addr} {news : List (Addr × Obj)} {X : (Str → Option Value) → Prop} {t : Sem Flow} {Q : Flow → Shared → Prop} {m : Str → Option Value} (_F : Fr h₀ L s.heap m) (_N : News h₀ L s.heap news) (h : wpAny M A t (Keep1 h₀ L news s X) E s)
    (k : ∀ h' tk gn m', Fr h₀ L h' m' → News h₀ L h' news → AllBare gn → X m' → Q .next { s with heap := h', toks := tk, gens := gn }) : wpAny M A t Q E s :=
  wpAny_mono h (fun f s' hq => Keep1.casesOn hq fun h' tk gn m' a b c d => k h' tk gn m' a b c d) fun _ _ x => x
theorem keep1_now {h₀ h' : Heap} {L : Addr} {news : List (Addr × Obj)} {X : (Str → Option Value) → Prop} {tk : Nat} {gn : Array GenState} {m' : Str → Option Value} (a : Fr h₀ L h' m') (b : News h₀ L h' news) (c : AllBare gn) (d : X m') : Keep1 h₀ L news s X .next { s with heap := h', toks := tk, gens := gn } :=
  ⟨h', tk, gn, m', a, b, c, d⟩
end
theorem some_int {x y : Int} {t : Tok} (h : x = y) : some (Value.int x t) = some (Value.int y t) := by rw [h]
theorem row_neg {c : Nat → Nat} {p a t : Nat} {x : Int} (h : Int.fmod ((c (a + t) : Nat) - (c p : Nat) : Int) 3 ≠ 1) : -(x * rowP c p a t) = x * rowP c p a (t + 1) := by
  rw [Int.fmod_eq_emod_of_nonneg _ (by decide)] at h
  rw [rowP, sg, if_neg h, Int.mul_neg, Int.mul_one, Int.mul_neg]
theorem row_pos {c : Nat → Nat} {p a t : Nat} {x : Int} (h : Int.fmod ((c (a + t) : Nat) - (c p : Nat) : Int) 3 = 1) : x * rowP c p a t = x * rowP c p a (t + 1) := by
  rw [Int.fmod_eq_emod_of_nonneg _ (by decide)] at h
  rw [rowP, sg, if_pos h, Int.mul_one]
def dlt : Nat → Str
  | 0 => Str.ofString "000P"
  | 1 => Str.ofString "00P"
  | 2 => Str.ofString "0P0"
  | _ => Str.ofString "P00"
theorem xor_at {prog : Program} {w : World} {A : Around} {E : Value → Shared → Prop} {s : Shared} {Q : Value → Shared → Prop} {a b : Nat} {t u : Tok} (ha : a < 4) (hb : b < 4) (h : Q (.int ((a ^^^ b : Nat) : Int) s.toks) { s with toks := s.toks + 1 }) :
    wpAny (model prog w) A (binaryOp .BitXor (.int (a : Int) t) (.int (b : Int) u)) Q E s := by
  rw [← xor4 a ha b hb] at h
  exact xor_int h
theorem light_rev {a lo hi : Nat} (h : a < 3) : lightAt a lo hi 2 = lightAt (2 - a) lo hi 0 ∧ lightAt a lo hi 1 = lightAt (2 - a) lo hi 1 ∧ lightAt a lo hi 0 = lightAt (2 - a) lo hi 2 := by
  have : a = 0 ∨ a = 1 ∨ a = 2 := by (first | lia | omega)
  rcases this with rfl | rfl | rfl <;> exact ⟨rfl, rfl, rfl⟩
theorem rev_text {c lo hi : Nat → Nat} (hc : ∀ i, c i < 3) {i4 i5 : Nat} (h : (1 + (i4 : Int)) = 1) :
    (⟨#[Int.toNat (lightAt (c i5) (lo i5) (hi i5) 2 : Nat), Int.toNat (lightAt (c i5) (lo i5) (hi i5) 1 : Nat), Int.toNat (lightAt (c i5) (lo i5) (hi i5) 0 : Nat)]⟩ : Str) = dtx c lo hi i5 (i5 + (i4 + 1)) := by
  obtain rfl : i4 = 0 := by (first | lia | omega)
  obtain ⟨a, b, d⟩ := light_rev (lo := lo i5) (hi := hi i5) (hc i5)
  simp only [Int.toNat_natCast]
  unfold dtx
  rw [if_pos rfl, a, b, d]
  rfl
theorem dlt_text {c lo hi : Nat → Nat} {i4 i5 x : Nat} (hx : (mk c i5 ^^^ mk c (i5 + (i4 + 1))) = x) (h4 : x < 4) (h : (1 + (i4 : Int)) ≠ 1) (hp : 0 < wys c (i4 + 1) i5) : dlt x = dtx c lo hi i5 (i5 + (i4 + 1)) := by
  unfold dtx
  rw [if_neg (by (first | lia | omega))]
  unfold hue
  rw [hx]
  have : x ≠ 0 := by
    rintro rfl
    have e2 : mk c i5 ^^^ (mk c i5 ^^^ mk c (i5 + (i4 + 1))) = mk c i5 ^^^ 0 := by rw [hx]
    rw [← Nat.xor_assoc, Nat.xor_self, Nat.zero_xor, Nat.xor_zero] at e2
    have e : mk c i5 = mk c (i5 + (i4 + 1)) := e2.symm
    rw [wys_all, if_pos e, if_neg (by (first | lia | omega))] at hp
    exact absurd hp (by decide)
  have : x = 1 ∨ x = 2 ∨ x = 3 := by (first | lia | omega)
  rcases this with rfl | rfl | rfl <;> rfl
theorem mvd {a b i5 i4 D Y q : Addr × Obj} {X : List (Addr × Obj)} (h : q ∈ i5 :: i4 :: D :: Y :: a :: b :: X) : q ∈ a :: b :: i5 :: i4 :: D :: Y :: X :=
  mem_mid (L := [i5, i4, D, Y]) (M := [a, b]) [] h
theorem mve {a i5 i4 D Y q : Addr × Obj} {X : List (Addr × Obj)} (h : q ∈ i5 :: i4 :: D :: Y :: a :: X) : q ∈ a :: i5 :: i4 :: D :: Y :: X :=
  mem_mid (L := [i5, i4, D, Y]) (M := [a]) [] h
theorem dent_pos {c : Nat → Nat} {w : Nat → Int} {s i : Nat} (h : 0 < wys c s i) : dent c w s i = some (wys c s i, sgP c i (i + s) s * wys c s i, sgP c i (i + s) s * wys c s i * prW w i s) := if_pos h
theorem dent_neg {c : Nat → Nat} {w : Nat → Int} {s i : Nat} (h : ¬ 0 < wys c s i) : dent c w s i = none := if_neg h
abbrev dueDone (n i4 k : Nat) (a b : Nat) : Prop := (a < b ∧ b ≤ n ∧ b ≤ a + i4) ∨ (b = a + i4 + 1 ∧ a < k)
theorem due_nw {n i4 i5 : Nat} {c : Nat → Nat} {kvs : List (Int × Value)} {t : Tok} (h8 : n ≤ 8) (h4 : i4 < n) (h5 : i5 < n - i4) (h : NumE kvs (fun i j => wys c (j - i) i) (fun a b => dueDone n i4 i5 a b)) :
    NumE (stored kvs (9 * (0 + (i5 : Int)) + (0 + (i5 : Int) + (1 + (i4 : Int)))) (.int (wys c (i4 + 1) i5) t)) (fun i j => wys c (j - i) i) (fun a b => dueDone n i4 (i5 + 1) a b) := by
  have e : wys c (i4 + 1) i5 = (fun i j => wys c (j - i) i) i5 (i5 + (i4 + 1)) := by dsimp only; rw [show i5 + (i4 + 1) - i5 = i4 + 1 by (first | lia | omega)]
  rw [e]
  refine NumE.store h (by (first | lia | omega)) (by (first | lia | omega)) (fun a b hab => ?_) (fun a b hab => ?_)
  · unfold dueDone at hab; (first | lia | omega)
  · rcases hab with h1 | ⟨h1, h2⟩
    · exact .inl (.inl h1)
    · by_cases h6 : a < i5
      · exact .inl (.inr ⟨h1, h6⟩)
      · exact .inr ⟨by lia, by lia⟩
theorem due_td {w : World} {n i4 i5 : Nat} {c lo hi : Nat → Nat} {wv : Nat → Int} {kvs : List (Int × Value)} {X X' : List (Addr × Obj)} {d : Addr} (h8 : n ≤ 8) (h4 : i4 < n) (h5 : i5 < n - i4)
    (h : TabE w X kvs (fun a b => dtx c lo hi (n - b) (n - a)) (fun a b => dent c wv (b - a) (n - b)) (fun a b => b ≤ n ∧ a < b ∧ dueDone n i4 i5 (n - b) (n - a))) (hs : ∀ q ∈ X, q ∈ X') (he : Ent w X' d (dtx c lo hi i5 (i5 + (i4 + 1))) (dent c wv (i4 + 1) i5)) :
    TabE w X' (stored kvs (9 * ((n : Int) - (0 + (i5 : Int) + (1 + (i4 : Int)))) + (n : Int) - (0 + (i5 : Int))) (.ref d)) (fun a b => dtx c lo hi (n - b) (n - a)) (fun a b => dent c wv (b - a) (n - b)) (fun a b => b ≤ n ∧ a < b ∧ dueDone n i4 (i5 + 1) (n - b) (n - a)) := by
  refine TabE.store h hs (i := n - (i5 + (i4 + 1))) (j := n - i5) (by (first | lia | omega)) (by (first | lia | omega)) (fun a b hab => by (first | lia | omega)) ?_ (fun a b => ?_)
  · rw [show n - (n - i5) = i5 by (first | lia | omega), show n - (n - (i5 + (i4 + 1))) = i5 + (i4 + 1) by (first | lia | omega), show n - i5 - (n - (i5 + (i4 + 1))) = i4 + 1 by (first | lia | omega)]
    exact he
  · constructor
    · rintro ⟨h1, h2, h3 | ⟨h3, h4⟩⟩
      · exact .inl ⟨h1, h2, .inl h3⟩
      · by_cases h6 : n - b < i5
        · exact .inl ⟨h1, h2, .inr ⟨h3, h6⟩⟩
        · exact .inr ⟨by lia, by lia⟩
    · rintro (⟨h1, h2, h3 | ⟨h3, h4⟩⟩ | ⟨h1, h2⟩)
      · exact ⟨h1, h2, .inl h3⟩
      · exact ⟨h1, h2, .inr ⟨h3, Nat.lt_succ_of_lt h4⟩⟩
      · exact ⟨by lia, by lia, .inr ⟨by lia, by lia⟩⟩
/-- the names that stand still -/
inductive DF (n : Nat) (Cc Ww Ll M D Y : Addr) (i4 i5 : Nat) (m : Str → Option Value) : Prop
  | mk : (∃ us, m "size" = some (.int n us)) → m "corners" = some (.ref Cc) → m "worths" = some (.ref Ww) → m "lights" = some (.ref Ll) → m "marks" = some (.ref M) → m "ways" = some (.ref Y) → m "due" = some (.ref D) →
    (∃ u, m "span" = some (.int (1 + (i4 : Int)) u)) → (∃ u, m "i" = some (.int (0 + (i5 : Int)) u)) → (∃ u, m "j" = some (.int (0 + (i5 : Int) + (1 + (i4 : Int))) u)) → DF n Cc Ww Ll M D Y i4 i5 m
theorem DF.elim {n : Nat} {Cc Ww Ll M D Y : Addr} {i4 i5 : Nat} {m : Str → Option Value} {CC : Prop} (hh : DF n Cc Ww Ll M D Y i4 i5 m)
    (ff : ∀ us u1 u2 u3, m "size" = some (.int n us) → m "corners" = some (.ref Cc) → m "worths" = some (.ref Ww) → m "lights" = some (.ref Ll) → m "marks" = some (.ref M) → m "ways" = some (.ref Y) → m "due" = some (.ref D) → m "span" = some (.int (1 + (i4 : Int)) u1) → m "i" = some (.int (0 + (i5 : Int)) u2) → m "j" = some (.int (0 + (i5 : Int) + (1 + (i4 : Int))) u3) → CC) : CC := by
  obtain ⟨⟨us, h0⟩, h1, h2, h3, h4, h5, h6, ⟨u1, h7⟩, ⟨u2, h8⟩, ⟨u3, h9⟩⟩ := hh
  exact ff us u1 u2 u3 h0 h1 h2 h3 h4 h5 h6 h7 h8 h9
/-- the state inside the loops of _law_due -/
inductive JD (w : World) (n : Nat) (c lo hi : Nat → Nat) (wv : Nat → Int) (Cc Ww Ll M D Y : Addr) (B0 pre : List (Addr × Obj)) (extra : (Str → Option Value) → Prop) (len : Nat) (done : Nat → Nat → Prop) (m : Str → Option Value) : List (Addr × Obj) → Prop
  | mk : ∀ us kvw kvd oY oD X, (m "corners" = some (.ref Cc)) → (m "worths" = some (.ref Ww)) → (m "lights" = some (.ref Ll)) → (m "size" = some (.int n us)) → (m "marks" = some (.ref M)) → (m "ways" = some (.ref Y)) → (m "due" = some (.ref D)) → (extra m) → (∀ p ∈ X, ∀ q ∈ B0, @Ne Nat q.1 p.1) → (oY.IsDictOf (intKind PySem.Challenge.rw_zn0010_01.row.prog w) kvw) → (NumE kvw (fun i j => wys c (j - i) i) done) → (kvw.length ≤ len) → (oD.IsDictOf (intKind PySem.Challenge.rw_zn0010_01.row.prog w) kvd) → (TabE w X kvd (fun a b => dtx c lo hi (n - b) (n - a)) (fun a b => dent c wv (b - a) (n - b)) (fun a b => b ≤ n ∧ a < b ∧ done (n - b) (n - a))) → (kvd.length ≤ len) → (∀ q ∈ X ++ B0, @Ne Nat q.1 D) → (∀ q ∈ X ++ B0, @Ne Nat q.1 Y) → (∀ p ∈ pre, ∀ q ∈ X ++ B0, @Ne Nat q.1 p.1) → JD w n c lo hi wv Cc Ww Ll M D Y B0 pre extra len done m (pre ++ (D, oD) :: (Y, oY) :: (X ++ B0))
theorem JD.intro {w : World} {n : Nat} {c lo hi : Nat → Nat} {wv : Nat → Int} {Cc Ww Ll M D Y : Addr} {B0 pre : List (Addr × Obj)} {extra : (Str → Option Value) → Prop} {len : Nat} {done : Nat → Nat → Prop} {m : Str → Option Value} {news : List (Addr × Obj)} (us kvw kvd oY oD X) (h0 : m "corners" = some (.ref Cc)) (h1 : m "worths" = some (.ref Ww)) (h2 : m "lights" = some (.ref Ll)) (h3 : m "size" = some (.int n us)) (h4 : m "marks" = some (.ref M)) (h5 : m "ways" = some (.ref Y)) (h6 : m "due" = some (.ref D)) (h7 : extra m) (h8 : news = pre ++ (D, oD) :: (Y, oY) :: (X ++ B0)) (h9 : (∀ p ∈ X, ∀ q ∈ B0, @Ne Nat q.1 p.1)) (h10 : oY.IsDictOf (intKind PySem.Challenge.rw_zn0010_01.row.prog w) kvw) (h11 : NumE kvw (fun i j => wys c (j - i) i) done) (h12 : kvw.length ≤ len) (h13 : oD.IsDictOf (intKind PySem.Challenge.rw_zn0010_01.row.prog w) kvd) (h14 : TabE w X kvd (fun a b => dtx c lo hi (n - b) (n - a)) (fun a b => dent c wv (b - a) (n - b)) (fun a b => b ≤ n ∧ a < b ∧ done (n - b) (n - a))) (h15 : kvd.length ≤ len) (h16 : (∀ q ∈ X ++ B0, @Ne Nat q.1 D)) (h17 : (∀ q ∈ X ++ B0, @Ne Nat q.1 Y)) (h18 : (∀ p ∈ pre, ∀ q ∈ X ++ B0, @Ne Nat q.1 p.1)) : JD w n c lo hi wv Cc Ww Ll M D Y B0 pre extra len done m news := by
  subst h8
  exact ⟨us, kvw, kvd, oY, oD, X, h0, h1, h2, h3, h4, h5, h6, h7, h9, h10, h11, h12, h13, h14, h15, h16, h17, h18⟩
inductive JM (n : Nat) (c : Nat → Nat) (Cc Ww Ll M : Addr) (B0 : List (Addr × Obj)) (i : Nat) (m' : Str → Option Value) : List (Addr × Obj) → Prop
  | mk : ∀ us ms km, m' "corners" = some (.ref Cc) → m' "worths" = some (.ref Ww) → m' "lights" = some (.ref Ll) → m' "size" = some (.int n us) → m' "marks" = some (.ref M) → Marks c ms i → JM n c Cc Ww Ll M B0 i m' ((M, W.listOf ms km) :: B0)
theorem due_con {w p loose mean mg mb} {n : Nat} {c lo hi : Nat → Nat} {wv : Nat → Int} {ca wa la : Array Value} {Cc Ww Ll : Addr} {kc kw kl : Nat} {led : List (Addr × Obj)} (R : DRow n c lo hi wv ca wa la led)
    (mC : (Cc, lobj ca kc) ∈ led) (mW : (Ww, lobj wa kw) ∈ led) (mL : (Ll, lobj la kl) ∈ led) :
    ConG w p loose mean mg mb 120 5 [.ref Cc, .ref Ww, .ref Ll] led (DueOut w n c lo hi wv) := by
  (unfold ConG; k_fill; intro dp un gd cn cs a ccd cl outer A₀ base h₀ L m ps s Q E B F X N T hk hd hu hps hG hne hret; refine wpAny_call ?_; (refine' code_defG ?k1 ?k2 ?k3 N ?k5 ?kA ?kF ?kK ?k6 ?k7 ?k8 ?k9 ?kB ?_ ?c2 ?c3 ?c4 ?c5; (case kA => exact rfl); (case kF => exact rfl); (case kK => assumption); (case k1 => k_asm); (case k2 => k_asm); (case k3 => k_asm); (case k5 => k_asm); (case k6 => k_is); (case k7 => k_is); (case k8 => ktr_room); (case k9 => exact BindsTo.of_eq rfl); (case c5 => decide); (case kB => exact locs rfl); (case c2 => exact rfl); (case c3 => exact rfl); (case c4 => exact rfl); k_whole; intro g L' h' FG' F' N' B' X' T' GS; (try dsimp only); (try k_fold)))
  (repeat' (first | walk1 | (dsimp only; walk1)))
  rename Fr _ _ _ _ => F1
  rename News _ _ _ _ => N1
  rename LT.lt tabP _ ∧ _ => lM
  rename_i M _ _ _
  have nMX : ∀ q ∈ (tabP, tabObj ps) :: led, q.1 ≠ M := List.forall_mem_cons.mpr ⟨Nat.ne_of_lt lM.1, fun q h => Nat.ne_of_lt (kst_ltOf lM.2 q h)⟩
  refine' list_G (items := ca) (JM n c Cc Ww Ll M ((tabP, tabObj ps) :: led)) rfl F1 N1 hG (od := lobj ca kc) (by walk_at "y_mem") ⟨rfl, kc, rfl⟩ ?h01 ?step1 ?fin1
  case h01 =>
    refine' ⟨_, _, _, rfl, rfl, rfl, by rw [← R.csize]; rfl, rfl, ?_⟩
    exact ⟨rfl, fun j hj => by rw [Nat.le_zero.mp hj]; exact ⟨_, rfl⟩⟩
  case step1 =>
    intro I1 lI1 i1 x1 m1 news1 h1 tk1 gn1 o1 hx1 hJ1 hm1 hni1 hG1 F2 N2
    refine step_hide (fun Q1 dd1 os1 hQ1 => ?_)
    revert hm1 hni1 N2
    refine JM.casesOn hJ1 ?_
    clear hJ1 news1
    intro us1 ms1 km1 cm1 wm1 lm1 sm1 mm1 hms1 hm1 hni1 N2
    have hi1 : i1 < n := by rw [← R.csize]; exact (Array.getElem?_eq_some_iff.mp hx1).1
    obtain ⟨tc, hcx⟩ := R.corner i1 hi1
    rw [hcx] at hx1
    cases hx1
    obtain ⟨tl, hlast⟩ := hms1.2 i1 (Nat.le_refl _)
    have nM1 : @Ne Nat M I1 := hni1 _ (.head _)
    k_steps
    rename Fr _ _ _ _ => F3
    rename News _ _ _ _ => N3
    k_dflt (refine' hQ1 F3 N3 ?ro ?ni hG1 ⟨us1, _, _, cm1, wm1, lm1, sm1, mm1, hms1.push R.c3⟩)
    case ro => intro q hq; rw [List.mem_singleton.mp hq]; walk_at "y_mem"
    case ni => exact List.forall_mem_cons.mpr ⟨nM1, fun q h => hni1 q (.tail _ h)⟩
  intro h2 tk2 gn2 m2 news2 F2 N2 hm2 hG2 hJ2
  revert hm2 N2
  refine JM.casesOn hJ2 ?_
  clear hJ2 news2
  intro us2 ms km cm2 wm2 lm2 sm2 mm2 hms N2 hm2
  rw [R.csize] at hms
  iterate 21 (first | walk1 | (dsimp only; walk1))
  rename_i _ _ Y _ oY _ _ loY _ _ hiY _ lY _ _ D _ oD loD _ _ hiD _ lD _ N20 _
  walk1
  dsimp only
  try walk1
  rename IsRange _ _ _ _ _ _ _ _ => hr2
  clear hm2
  refine' range_G (n := n) (fun k => JD w n c lo hi wv Cc Ww Ll M D Y ((M, lobj ms km) :: (tabP, tabObj ps) :: led) [] (fun _ => True) (8 * k) (fun a b => a < b ∧ b ≤ n ∧ b ≤ a + k)) rfl ?f2 ?nn2 hG2 hr2 ?sm2 ?sz2 ?h02 ?step2 ?fin2
  case f2 => k_asm
  case nn2 => k_asm
  case sm2 => have := R.n8; exact small_one (by (first | lia | omega)) (by (first | lia | omega)) (by (first | lia | omega)) (by (first | lia | omega))
  case sz2 => rw [rangeSize_nat]; have := R.n1; (first | lia | omega)
  case h02 =>
    refine' (JD.intro us2 [] [] oY oD [] cm2 wm2 lm2 sm2 mm2 rfl rfl trivial rfl (fun _ h => nomatch h) hiY (fun a b h => absurd h (by (first | lia | omega))) (Nat.zero_le _) hiD ⟨fun a b h => absurd h (by (first | lia | omega)), fun k v e => by cases e⟩ (Nat.zero_le _) ?g1 ?g2 (fun _ h => nomatch h))
    case g1 => exact List.forall_mem_cons.mpr ⟨Nat.ne_of_lt lD.2.1, List.forall_mem_cons.mpr ⟨Nat.ne_of_lt lD.2.2.1, fun q h => Nat.ne_of_lt (kst_ltOf lD.2.2.2 q h)⟩⟩
    case g2 => exact List.forall_mem_cons.mpr ⟨Nat.ne_of_lt lY.1, List.forall_mem_cons.mpr ⟨Nat.ne_of_lt lY.2.1, fun q h => Nat.ne_of_lt (kst_ltOf lY.2.2 q h)⟩⟩
  case fin2 =>
    intro h7 tk7 gn7 m7 news7 F9 N9 hG7 hQQ
    revert N9
    refine JD.casesOn hQQ ?_
    clear hQQ news7
    rintro us7 kvw7 kvd7 oY7 oD7 X7 cm7 wm7 lm7 sm7 mm7 ym7 dm7 - hX7 hY7 hN7 hlw7 hD7 hT7 hld7 w1 w2 w3 N9
    have N9 : News g L' h7 ((D, oD7) :: (Y, oY7) :: (X7 ++ ((M, lobj ms km) :: (tabP, tabObj ps) :: led))) := N9
    have hn1 := R.n1
    clear hr2
    k_steps
    rename Fr h₀ L _ m => kF
    rename News h₀ L _ _ => kN
    have hend := con_endG (tl := (D, oD7) :: X7) (ps' := ps) GS N F9 N9 (fun p hp => .tail _ (.tail _ (List.mem_append_right _ (.tail _ (.tail _ hp)))))
      (fun p hp => by
        rcases List.mem_cons.mp hp with rfl | hp
        · exact .head _
        · exact .tail _ (.tail _ (List.mem_append_left _ hp)))
      (fun p hp => by
        rcases List.mem_cons.mp hp with rfl | hp
        · exact fun q hq => w1 q (List.mem_append_right _ (.tail _ hq))
        · exact fun q hq => hX7 p hp q (.tail _ hq))
    exact hret _ _ _ _ ps ((D, oD7) :: X7) ⟨D, oD7, kvd7, X7, loD, hD7, hT7.mono (fun _ h => h) (fun a b => by constructor <;> (intro h; (first | lia | omega)))⟩ kF
      (fun q hq => by
        rcases List.mem_cons.mp hq with rfl | hq
        · exact kN _ (.tail _ (.tail _ (List.mem_append_right _ (.tail _ (.head _)))))
        · rcases List.mem_cons.mp hq with rfl | hq
          · exact kN _ (.head _)
          · exact kN _ (.tail _ (.tail _ (List.mem_append_left _ hq)))) hend.1 hend.2 hps hG7
  intro I4 lI4 i4 t4 m4 news4 h4 tk4 gn4 o4 hi4 hJ4 hni4 hG4 F4 N4
  refine step_hide (fun Q4 dd4 os4 hQ4 => ?_)
  revert hni4 N4
  refine JD.casesOn hJ4 ?_
  clear hJ4 news4
  rintro us4 kvw4 kvd4 oY4 oD4 X4 cm4 wm4 lm4 sm4 mm4 ym4 dm4 - hX4 hY4 hN4 hlw4 hD4 hT4 hld4 z1 z2 z3 hni4 N4
  have q1 : @Ne Nat D I4 := hni4 _ (.head _)
  have q2 : @Ne Nat Y I4 := hni4 _ (.tail _ (.head _))
  have q4 : ∀ q ∈ X4 ++ ((M, lobj ms km) :: (tabP, tabObj ps) :: led), @Ne Nat q.1 I4 := fun q h => hni4 q (.tail _ (.tail _ h))
  have nDY : @Ne Nat D Y := Nat.ne_of_gt lD.1
  clear hr2
  replace N4 := capp0 N4
  k_steps
  rename IsRange _ _ _ _ _ _ _ _ => hr3
  refine' range_G (n := n - i4) (fun k => JD w n c lo hi wv Cc Ww Ll M D Y ((M, lobj ms km) :: (tabP, tabObj ps) :: led) [(I4, o4)] (fun m => ∃ u, m "span" = some (.int (1 + (i4 : Int)) u)) (8 * i4 + k) (fun a b => (a < b ∧ b ≤ n ∧ b ≤ a + i4) ∨ (b = a + i4 + 1 ∧ a < k))) rfl ?f3 ?nn3 hG4 hr3 ?sm3 ?sz3 ?h03 ?step3 ?fin3
  case f3 => k_asm
  case nn3 => k_asm
  case sm3 => have := R.n8; exact small_one (by (first | lia | omega)) (by (first | lia | omega)) (by (first | lia | omega)) (by (first | lia | omega))
  case sz3 => rw [rangeSize_nat]; have := R.n1; (first | lia | omega)
  case h03 =>
    exact (JD.intro us4 kvw4 kvd4 oY4 oD4 X4 cm4 wm4 lm4 sm4 mm4 ym4 dm4 ⟨_, rfl⟩ rfl hX4 hY4 (fun a b h => hN4 a b (by (first | lia | omega))) hlw4 hD4 (hT4.mono (fun _ h => h) (fun a b => by (first | lia | omega))) hld4 z1 z2 (fun p hp => by rw [List.mem_singleton.mp hp]; exact q4))
  case fin3 =>
    intro h7 tk7 gn7 m7 news7 F9 N9 hG7 hQQ
    revert N9
    refine JD.casesOn hQQ ?_
    clear hQQ news7
    rintro us7 kvw7 kvd7 oY7 oD7 X7 cm7 wm7 lm7 sm7 mm7 ym7 dm7 - hX7 hY7 hN7 hlw7 hD7 hT7 hld7 w1 w2 w3 N9
    have hn8 := R.n8
    k_whole
    k_dflt (refine' wpAny_execs_nil (hQ4 F9 N9 (fun _ h => nomatch h) ?ni hG7 (JD.intro us7 kvw7 kvd7 oY7 oD7 X7 cm7 wm7 lm7 sm7 mm7 ym7 dm7 trivial rfl hX7 hY7 ?nw ?lw hD7 ?td ?ld w1 w2 (fun _ h => nomatch h))))
    case ni => exact List.forall_mem_cons.mpr ⟨q1, List.forall_mem_cons.mpr ⟨q2, w3 _ (.head _)⟩⟩
    case nw => exact fun a b h => hN7 a b (by (first | lia | omega))
    case lw => (first | lia | omega)
    case ld => (first | lia | omega)
    case td => exact hT7.mono (fun _ h => h) (fun a b => by (first | lia | omega))
  intro I5 lI5 i5 t5 m5 news5 h5 tk5 gn5 o5 hi5 hJ5 hni5 hG5 F5 N5
  refine step_hide (fun Q5 dd5 os5 hQ5 => ?_)
  revert hni5 N5
  refine JD.casesOn hJ5 ?_
  clear hJ5 news5
  rintro us5 kvw5 kvd5 oY5 oD5 X5 cm5 wm5 lm5 sm5 mm5 ym5 dm5 ⟨u5, sp5⟩ hX5 hY5 hN5 hlw5 hD5 hT5 hld5 z1' z2' z3' hni5 N5
  have q5 : @Ne Nat D I5 := hni5 _ (.tail _ (.head _))
  have q6 : @Ne Nat Y I5 := hni5 _ (.tail _ (.tail _ (.head _)))
  have q8 : ∀ q ∈ X5 ++ ((M, lobj ms km) :: (tabP, tabObj ps) :: led), @Ne Nat q.1 I5 := fun q h => hni5 q (.tail _ (.tail _ (.tail _ h)))
  have q9 : @Ne Nat I4 I5 := hni5 _ (.head _)
  have q10 : ∀ q ∈ X5 ++ ((M, lobj ms km) :: (tabP, tabObj ps) :: led), @Ne Nat q.1 I4 := z3' _ (.head _)
  clear hr3
  have N5 : News g L' h5 ((I5, o5) :: (I4, o4) :: (D, oD5) :: (Y, oY5) :: (X5 ++ ((M, lobj ms km) :: (tabP, tabObj ps) :: led))) := N5
  have hB5 : ∀ q ∈ (M, lobj ms km) :: (tabP, tabObj ps) :: led, q ∈ X5 ++ ((M, lobj ms km) :: (tabP, tabObj ps) :: led) := fun q h => List.mem_append_right _ h
  clear hni5 lI5
  generalize hZ5 : X5 ++ ((M, lobj ms km) :: (tabP, tabObj ps) :: led) = Z5 at N5 hB5 q8 q10 z1' z2'
  clear z3'
  have mM5 : (M, lobj ms km) ∈ Z5 := hB5 _ (.head _)
  have mC5 : (Cc, lobj ca kc) ∈ Z5 := hB5 _ (.tail _ (.tail _ mC))
  have mW5 : (Ww, lobj wa kw) ∈ Z5 := hB5 _ (.tail _ (.tail _ mW))
  have mL5 : (Ll, lobj la kl) ∈ Z5 := hB5 _ (.tail _ (.tail _ mL))
  have hxi : ∃ t, ms[(0 + (i5 : Int)).toNat]? = some (.int (mk c i5 : Nat) t) := by rw [show (0 + (i5 : Int)).toNat = i5 by (first | lia | omega)]; exact hms.2 i5 (by (first | lia | omega))
  have hxj : ∃ t, ms[(0 + (i5 : Int) + (1 + (i4 : Int))).toNat]? = some (.int (mk c (i5 + (i4 + 1)) : Nat) t) := by rw [show (0 + (i5 : Int) + (1 + (i4 : Int))).toNat = i5 + (i4 + 1) by (first | lia | omega)]; exact hms.2 _ (by (first | lia | omega))
  obtain ⟨txi, hxi⟩ := hxi
  obtain ⟨txj, hxj⟩ := hxj
  iterate 11 (first | walk1 | (dsimp only; walk1))
  k_dflt (refine' ifj (x := wpart c (i4 + 1) i5 0) ?ia ?_)
  case ia =>
    (repeat' (first | walk1 | (dsimp only; walk1)))
    focus (k_dflt exact IfjP.of (by rw [wpart_zero, if_pos (by (first | lia | omega))]))
    k_dflt exact IfjP.of (by rw [wpart_zero, if_neg (by (first | lia | omega))])
  intro uc2 tkc2
  iterate 2 (first | walk1 | (dsimp only; walk1))
  rename Fr _ _ _ _ => F6
  rename News _ _ _ _ => N6
  k_dflt (refine' keep1 (X := fun m => DF n Cc Ww Ll M D Y i4 i5 m ∧ ∃ uc, m "count" = some (.int (wys c (i4 + 1) i5) uc)) F6 N6 ?kif ?_)
  case kif =>
    (repeat' (first | walk1 | (dsimp only; walk1)))
    focus
      rename (_ : Int) ≠ _ => hmk
      rename IsRange _ _ _ _ _ _ _ _ => hr6
      rename Fr _ _ _ _ => F7
      rename News _ _ _ _ => N7
      refine' range_G (n := i4) (fun k m news => news = (I5, o5) :: (I4, o4) :: (D, oD5) :: (Y, oY5) :: Z5 ∧ DF n Cc Ww Ll M D Y i4 i5 m ∧ ∃ uc, m "count" = some (.int (wpart c (i4 + 1) i5 k) uc)) rfl F7 N7 hG5 hr6 ?sm6 ?sz6 ?h06 ?step6 ?fin6
      case sm6 => have := R.n8; exact small_one (by (first | lia | omega)) (by (first | lia | omega)) (by (first | lia | omega)) (by (first | lia | omega))
      case sz6 => rw [rangeSize_nat]; (first | lia | omega)
      case h06 => exact ⟨rfl, ⟨⟨us5, sm5⟩, cm5, wm5, lm5, mm5, ym5, dm5, ⟨u5, sp5⟩, ⟨_, rfl⟩, ⟨_, rfl⟩⟩, ⟨_, rfl⟩⟩
      case fin6 =>
        rintro h7 tk7 gn7 m7 news7 F8 N8 hG7 ⟨rfl, hDF7, uc7, cc7⟩
        k_whole
        k_dflt (refine' wpAny_execs_nil (keep1_now F8 N8 hG7 ⟨hDF7, uc7, ?_⟩))
        rw [wys_all, if_neg (fun e => hmk (by rw [e]))]
        exact cc7
      rintro I6 lI6 i6 t6 m6 news6 h6 tk6 gn6 o6 hi6 ⟨rfl, hDF6, uc6, cc6⟩ hni6 hG6 F8 N8
      refine step_hide (fun Q6 dd6 os6 hQ6 => ?_)
      refine DF.elim hDF6 ?_
      rintro us6 u61 u62 u63 sm6 cm6 wm6 lm6 mm6 ym6 dm6 sp6 im6 jm6
      have hn8 := R.n8
      obtain ⟨w61, e61⟩ := hN5 i5 (i5 + 1 + i6) (.inl ⟨by (first | lia | omega), by (first | lia | omega), by (first | lia | omega)⟩)
      obtain ⟨w62, e62⟩ := hN5 (i5 + 1 + i6) (i5 + (i4 + 1)) (.inl ⟨by (first | lia | omega), by (first | lia | omega), by (first | lia | omega)⟩)
      dsimp only at e61 e62
      rw [show i5 + 1 + i6 - i5 = i6 + 1 by (first | lia | omega)] at e61
      rw [show i5 + (i4 + 1) - (i5 + 1 + i6) = i4 + 1 - 1 - i6 by (first | lia | omega), show i5 + 1 + i6 = i5 + i6 + 1 by (first | lia | omega)] at e62
      have f61 : valueAt kvw5 (9 * (0 + (i5 : Int)) + (0 + (i5 : Int) + 1 + (i6 : Int))) = some (.int (wys c (i6 + 1) i5) w61) := by rw [← e61]; congr 1; (first | lia | omega)
      have f62 : valueAt kvw5 (9 * (0 + (i5 : Int) + 1 + (i6 : Int)) + (0 + (i5 : Int) + (1 + (i4 : Int)))) = some (.int (wys c (i4 + 1 - 1 - i6) (i5 + i6 + 1)) w62) := by rw [← e62]; congr 1; (first | lia | omega)
      have hmul := wys_mul c (s := i6 + 1) (s' := i4 + 1 - 1 - i6) (i := i5) (i' := i5 + i6 + 1) (by (first | lia | omega)) (by (first | lia | omega)) (by (first | lia | omega)) (by (first | lia | omega))
      clear hr6
      (repeat' (first | walk1 | (dsimp only; walk1)))
      rename Fr _ _ _ _ => F9
      rename News _ _ _ _ => N9
      k_dflt (refine' hQ6 F9 N9 (fun _ h => nomatch h) hni6 hG6 ⟨rfl, ⟨⟨us6, sm6⟩, cm6, wm6, lm6, mm6, ym6, dm6, ⟨u61, sp6⟩, ⟨u62, im6⟩, ⟨u63, jm6⟩⟩, ⟨_, some_int (wpart_succ c (i4 + 1) i5 i6).symm⟩⟩)
    rename (_ : Int) = _ => hmk
    rename Fr _ _ _ _ => F7
    rename News _ _ _ _ => N7
    k_dflt (refine' keep1_now F7 N7 hG5 ⟨⟨⟨us5, sm5⟩, cm5, wm5, lm5, mm5, ym5, dm5, ⟨u5, sp5⟩, ⟨_, rfl⟩, ⟨_, rfl⟩⟩, uc2, some_int ((wys_all c i4 i5).trans (if_pos (Int.ofNat.inj hmk))).symm⟩)
  rintro h7 tk7 gn7 m7 F7 N7 hG7 ⟨DF7, uc7, cc7⟩
  refine DF.elim DF7 ?_
  rintro us7 u71 u72 u73 sm7 cm7 wm7 lm7 mm7 ym7 dm7 sp7 im7 jm7
  clear F6 N6
  k_steps
  rename IsRange _ _ _ _ _ _ _ _ => hr7
  rename Fr _ _ _ _ => F8
  rename News _ _ _ _ => N8
  rename Obj.IsDictOf _ _ (stored _ _ _) => hY6
  obtain ⟨oY6, eY6⟩ : ∃ z, z = o' := ⟨o', rfl⟩
  subst eY6
  have N9 : News g L' _ ((I5, o5) :: (I4, o4) :: (D, oD5) :: (Y, oY6) :: Z5) := fun q hq => N8 q (.tail _ hq)
  k_dflt (refine' range_G (n := i4 + 1) (fun k m news => news = (I5, o5) :: (I4, o4) :: (D, oD5) :: (Y, oY6) :: Z5 ∧ DF n Cc Ww Ll M D Y i4 i5 m ∧ (∃ uc, m "count" = some (.int (wys c (i4 + 1) i5) uc)) ∧ (∃ uc, m "plus" = some (.int (sgP c i5 (i5 + (i4 + 1)) k) uc)) ∧ ∃ uc, m "worth" = some (.int (prW wv i5 k) uc)) rfl F8 N9 hG7 hr7 ?sm8 ?sz8 ?h08 ?step8 ?fin8)
  case sm8 => have := R.n8; exact small_one (by (first | lia | omega)) (by (first | lia | omega)) (by (first | lia | omega)) (by (first | lia | omega))
  case sz8 => rw [rangeSize_nat]; (first | lia | omega)
  case h08 => exact ⟨rfl, ⟨⟨us7, sm7⟩, cm7, wm7, lm7, mm7, ym7, dm7, ⟨u71, sp7⟩, ⟨u72, im7⟩, ⟨u73, jm7⟩⟩, ⟨uc7, cc7⟩, ⟨_, rfl⟩, ⟨_, rfl⟩⟩
  case step8 =>
    rintro J7 lJ7 j7 v7 m8 news8 h8 tk8 gn8 w8 hj7 ⟨rfl, DF8, ⟨uc8, cc8⟩, ⟨up8, pp8⟩, ⟨uw8, ww8⟩⟩ hnj7 hG8 F10 N10
    refine step_hide (fun Q7 dd7 os7 hQ7 => ?_)
    refine DF.elim DF8 ?_
    rintro us8 u81 u82 u83 sm8 cm8 wm8 lm8 mm8 ym8 dm8 sp8 im8 jm8
    obtain ⟨wt8, hwt8⟩ := R.worth (i5 + j7) (by (first | lia | omega))
    have hwx : wa[(0 + (i5 : Int) + (j7 : Int)).toNat]? = some (.int (wv (i5 + j7)) wt8) := by rw [show (0 + (i5 : Int) + (j7 : Int)).toNat = i5 + j7 by (first | lia | omega)]; exact hwt8
    have hmul8 : IntMulOk (prW wv i5 j7) (wv (i5 + j7)) := prW_mul R.wb (Nat.le_of_lt (by have := R.n8; (first | lia | omega)))
    clear hr7
    (repeat' (first | walk1 | (dsimp only; walk1)))
    rename IsRange _ _ _ _ _ _ _ _ => hr8
    rename Fr _ _ _ _ => F11
    rename News _ _ _ _ => N11
    have hn8 := R.n8
    k_dflt (refine' range_G (n := i4 - j7) (fun k m news => news = (J7, w8) :: (I5, o5) :: (I4, o4) :: (D, oD5) :: (Y, oY6) :: Z5 ∧ DF n Cc Ww Ll M D Y i4 i5 m ∧ (∃ uc, m "count" = some (.int (wys c (i4 + 1) i5) uc)) ∧ (∃ uc, m "p" = some (.int (0 + (i5 : Int) + (j7 : Int)) uc)) ∧ (∃ uc, m "plus" = some (.int (sgP c i5 (i5 + (i4 + 1)) j7 * rowP c (i5 + j7) (i5 + j7 + 1) k) uc)) ∧ ∃ uc, m "worth" = some (.int (prW wv i5 (j7 + 1)) uc)) rfl F11 N11 hG8 hr8 ?sm9 ?sz9 ?h09 ?step9 ?fin9)
    case sm9 => exact small_one (by (first | lia | omega)) (by (first | lia | omega)) (by (first | lia | omega)) (by (first | lia | omega))
    case sz9 => rw [rangeSize_nat]; (first | lia | omega)
    case h09 => exact ⟨rfl, ⟨⟨us8, sm8⟩, cm8, wm8, lm8, mm8, ym8, dm8, ⟨u81, sp8⟩, ⟨u82, im8⟩, ⟨u83, jm8⟩⟩, ⟨uc8, cc8⟩, ⟨_, rfl⟩, ⟨up8, pp8.trans (some_int (Int.mul_one _).symm)⟩, ⟨_, rfl⟩⟩
    case fin9 =>
      rintro h9 tk9 gn9 m9 news9 F12 N12 hG9 ⟨rfl, DF9, hc9, -, ⟨up9, pp9⟩, hw9⟩
      k_whole
      k_dflt (refine' wpAny_execs_nil (hQ7 F12 N12 (fun _ h => nomatch h) hnj7 hG9 ⟨rfl, DF9, hc9, ⟨up9, pp9.trans (some_int ?_)⟩, hw9⟩))
      show _ = sgP c i5 (i5 + (i4 + 1)) j7 * rowP c (i5 + j7) (i5 + j7 + 1) (i5 + (i4 + 1) - (i5 + j7 + 1))
      rw [show i5 + (i4 + 1) - (i5 + j7 + 1) = i4 - j7 by (first | lia | omega)]
    rintro J8 lJ8 j8 v8 m9 news9 h9 tk9 gn9 w9 hj8 ⟨rfl, DF9, ⟨uc9, cc9⟩, ⟨uq9, qq9⟩, ⟨up9, pp9⟩, ⟨uw9, ww9⟩⟩ hnj8 hG9 F12 N12
    refine step_hide (fun Q8 dd8 os8 hQ8 => ?_)
    refine DF.elim DF9 ?_
    rintro us9 u91 u92 u93 sm9 cm9 wm9 lm9 mm9 ym9 dm9 sp9 im9 jm9
    obtain ⟨ct1, hct1⟩ := R.corner (i5 + j7) (by (first | lia | omega))
    obtain ⟨ct2, hct2⟩ := R.corner (i5 + j7 + 1 + j8) (by (first | lia | omega))
    have hcx1 : ca[(0 + (i5 : Int) + (j7 : Int)).toNat]? = some (.int (c (i5 + j7) : Nat) ct1) := by rw [show (0 + (i5 : Int) + (j7 : Int)).toNat = i5 + j7 by (first | lia | omega)]; exact hct1
    have hcx2 : ca[(0 + (i5 : Int) + (j7 : Int) + 1 + (j8 : Int)).toNat]? = some (.int (c (i5 + j7 + 1 + j8) : Nat) ct2) := by rw [show (0 + (i5 : Int) + (j7 : Int) + 1 + (j8 : Int)).toNat = i5 + j7 + 1 + j8 by (first | lia | omega)]; exact hct2
    clear hr8
    (repeat' (first | walk1 | (dsimp only; walk1)))
    focus
      rename Int.fmod _ _ ≠ _ => hsg
      rename Fr _ _ _ _ => F13
      rename News _ _ _ _ => N13
      dsimp only
      refine' hQ8 F13 N13 (fun _ h => nomatch h) hnj8 hG9 ⟨rfl, ⟨⟨us9, sm9⟩, cm9, wm9, lm9, mm9, ym9, dm9, ⟨u91, sp9⟩, ⟨u92, im9⟩, ⟨u93, jm9⟩⟩, ⟨uc9, cc9⟩, ⟨uq9, qq9⟩, ⟨_, some_int (row_neg hsg)⟩, ⟨uw9, ww9⟩⟩
    rename Int.fmod _ _ = _ => hsg
    rename Fr _ _ _ _ => F13
    rename News _ _ _ _ => N13
    dsimp only
    refine' hQ8 F13 N13 (fun _ h => nomatch h) hnj8 hG9 ⟨rfl, ⟨⟨us9, sm9⟩, cm9, wm9, lm9, mm9, ym9, dm9, ⟨u91, sp9⟩, ⟨u92, im9⟩, ⟨u93, jm9⟩⟩, ⟨uc9, cc9⟩, ⟨uq9, qq9⟩, ⟨_, pp9.trans (some_int (row_pos hsg))⟩, ⟨uw9, ww9⟩⟩
  case fin8 =>
    rintro h9 tk9 gn9 m9 news9 F12 N12 hG9 ⟨rfl, DF9, ⟨uc9, cc9⟩, ⟨up9, pp9⟩, ⟨uw9, ww9⟩⟩
    have hs1 : i4 + 1 ≤ 100 := by have := R.n8; (first | lia | omega)
    refine DF.elim DF9 ?_
    rintro us9 u91 u92 u93 sm9 cm9 wm9 lm9 mm9 ym9 dm9 sp9 im9 jm9
    clear hr7
    iterate 18 (first | walk1 | (dsimp only; walk1))
    rename Fr _ _ _ _ => F13
    rename News _ _ _ _ => N13
    have hx4 : (mk c i5 ^^^ mk c (i5 + (i4 + 1))) < 4 := Nat.xor_lt_two_pow (n := 2) (mk_lt R.c3 _) (mk_lt R.c3 _)
    generalize hx : (mk c i5 ^^^ mk c (i5 + (i4 + 1))) = x at hx4 F13
    k_dflt (refine' tj (x := dlt x) ?ta ?_)
    case ta =>
      have hxc : x = 0 ∨ x = 1 ∨ x = 2 ∨ x = 3 := by (first | lia | omega)
      clear hx hx4
      rcases hxc with rfl | rfl | rfl | rfl
      all_goals (repeat' (first | walk1 | (dsimp only; walk1)))
      all_goals (k_dflt exact TjP.of (by rfl))
    intro ul2 tkl2
    iterate 2 (first | walk1 | (dsimp only; walk1))
    rename Fr _ _ _ _ => F14
    rename News _ _ _ _ => N14
    obtain ⟨l5, lt0, lt1, lt2, kl5, hl5, ml5⟩ := R.light i5 (by (first | lia | omega))
    have hlx : la[(0 + (i5 : Int)).toNat]? = some (.ref l5) := by rw [show (0 + (i5 : Int)).toNat = i5 by (first | lia | omega)]; exact hl5
    have ml6 := hB5 _ (.tail _ (.tail _ ml5))
    k_dflt (refine' keep1 (X := fun m => DF n Cc Ww Ll M D Y i4 i5 m ∧ (∃ uc, m "count" = some (.int (wys c (i4 + 1) i5) uc)) ∧ (∃ uc, m "plus" = some (.int (sgP c i5 (i5 + (i4 + 1)) (i4 + 1)) uc)) ∧ (∃ uc, m "worth" = some (.int (prW wv i5 (i4 + 1)) uc)) ∧ ∃ tx uc, m "light" = some (.str tx uc) ∧ (0 < wys c (i4 + 1) i5 → tx = dtx c lo hi i5 (i5 + (i4 + 1)))) F14 N14 ?kl ?_)
    case kl =>
      (repeat' (first | walk1 | (dsimp only; walk1)))
      focus
        rename (1 + (i4 : Int)) = 1 => he1
        rename Fr _ _ _ _ => F15
        rename News _ _ _ _ => N15
        dsimp only
        exact keep1_now F15 (fun q hq => N15 q (.tail _ hq)) hG9 ⟨⟨⟨us9, sm9⟩, cm9, wm9, lm9, mm9, ym9, dm9, ⟨u91, sp9⟩, ⟨u92, im9⟩, ⟨u93, jm9⟩⟩, ⟨uc9, cc9⟩, ⟨up9, pp9⟩, ⟨uw9, ww9⟩, _, _, rfl, fun _ => rev_text R.c3 he1⟩
      rename (1 + (i4 : Int)) ≠ 1 => he1
      rename Fr _ _ _ _ => F15
      rename News _ _ _ _ => N15
      dsimp only
      exact keep1_now F15 N15 hG9 ⟨⟨⟨us9, sm9⟩, cm9, wm9, lm9, mm9, ym9, dm9, ⟨u91, sp9⟩, ⟨u92, im9⟩, ⟨u93, jm9⟩⟩, ⟨uc9, cc9⟩, ⟨up9, pp9⟩, ⟨uw9, ww9⟩, dlt x, ul2, rfl, fun hp => dlt_text hx hx4 he1 hp⟩
    rintro h10 tk10 gn10 m10 F16 N16 hG10 ⟨DF10, ⟨uc10, cc10⟩, ⟨up10, pp10⟩, ⟨uw10, ww10⟩, tx, ut, lt10, htx⟩
    refine DF.elim DF10 ?_
    rintro us10 u101 u102 u103 sm10 cm10 wm10 lm10 mm10 ym10 dm10 sp10 im10 jm10
    have hm1 : IntMulOk (sgP c i5 (i5 + (i4 + 1)) (i4 + 1)) (wys c (i4 + 1) i5) := one_mul_ok (sgP_abs _ _ _ _)
    have hm2 : IntMulOk (sgP c i5 (i5 + (i4 + 1)) (i4 + 1) * wys c (i4 + 1) i5) (prW wv i5 (i4 + 1)) := due_mul R.wb (sgP_abs _ _ _ _) (Nat.succ_le_succ (Nat.zero_le _)) hs1 hs1
    clear F14 N14
    (repeat' (first | walk1 | (dsimp only; walk1)))
    focus
      rename 0 < wys _ _ _ => hpos
      dsimp only
      k_dflt (refine' kdn_eval (knd := PySem.strKind _ _) ?dF ?dN ?db ?da ?dl ?de ?dn ?_)
      case dF => k_asm
      case dN => k_asm
      case db => exact Top.nolimit (by k_asm)
      case da => rfl
      case dl => rfl
      case de => exact List.cons_ne_nil _ _
      case dn => exact Nat.le_of_ble_eq_true rfl
      intro dd9 h' od9 F' N' l1 lodd hd'
      k_lt l1
      have la := l1
      obtain rfl := htx hpos
      (repeat' (first | walk1 | (dsimp only; walk1)))
      rename Obj.IsDictOf _ _ (strPairs _) => hdn
      rename Obj.IsDictOf _ _ (stored _ _ _) => hD6
      rename Fr _ _ _ _ => F17
      rename News _ _ _ _ => N17
      with_reducible rename LT.lt dd9 _ ∧ _ => lb
      refine and5 lb.2 fun b1 b2 b3 b4 b5 => ?_
      refine and5 la fun a1 a2 a3 a4 a5 => ?_
      dsimp only
      refine' hQ5 F17 (fun q hq => N17 q (mvd hq)) (fun _ h => nomatch h) ?ni hG10 (JD.intro us10 _ _ _ _ (_ :: _ :: X5) cm10 wm10 lm10 sm10 mm10 ym10 dm10 ⟨u101, sp10⟩ (by rw [← hZ5]; rfl) ?fr hY6 ?nw ?lw hD6 ?td ?ld ?d1 ?d2 ?d3)
      case ni => exact List.forall_mem_cons.mpr ⟨q9, List.forall_mem_cons.mpr ⟨q5, List.forall_mem_cons.mpr ⟨q6, List.forall_mem_cons.mpr ⟨Nat.ne_of_gt b1, List.forall_mem_cons.mpr ⟨Nat.ne_of_gt a1, q8⟩⟩⟩⟩⟩
      case nw => exact due_nw R.n8 hi4 hi5 hN5
      case lw => exact Nat.le_trans (stored_length_le _ _ _) (Nat.succ_le_succ hlw5)
      case ld => exact Nat.le_trans (stored_length_le _ _ _) (Nat.succ_le_succ hld5)
      case fr => exact List.forall_mem_cons.mpr ⟨fun q h => Nat.ne_of_lt (kst_ltOf b5 q (hB5 q h)), List.forall_mem_cons.mpr ⟨fun q h => Nat.ne_of_lt (kst_ltOf a5 q (hB5 q h)), hX5⟩⟩
      case d1 => rw [List.cons_append, List.cons_append, hZ5]; exact List.forall_mem_cons.mpr ⟨Nat.ne_of_gt b3, List.forall_mem_cons.mpr ⟨Nat.ne_of_gt a3, z1'⟩⟩
      case d2 => rw [List.cons_append, List.cons_append, hZ5]; exact List.forall_mem_cons.mpr ⟨Nat.ne_of_gt b4, List.forall_mem_cons.mpr ⟨Nat.ne_of_gt a4, z2'⟩⟩
      case d3 => rw [List.cons_append, List.cons_append, hZ5]; exact List.forall_mem_cons.mpr ⟨List.forall_mem_cons.mpr ⟨Nat.ne_of_gt b2, List.forall_mem_cons.mpr ⟨Nat.ne_of_gt a2, q10⟩⟩, fun _ h => nomatch h⟩
      case td =>
        refine' due_td R.n8 hi4 hi5 hT5 (fun q h => .tail _ (.tail _ h)) ⟨_, .tail _ (.head _), lodd, ?e1, ?e2⟩
        case e1 => intro e; rw [dent_pos hpos] at e; exact nomatch e
        case e2 => intro t e; rw [dent_pos hpos] at e; cases e; exact ⟨_, _, _, _, _, hdn, .head _⟩
    rename ¬ 0 < wys _ _ _ => hpos
    rename ((_ : Addr) == sysModules) = false => lo11
    rename Obj.IsDictOf (PySem.strKind _ _) _ [] => hs11
    rename Obj.IsDictOf _ _ (stored _ _ _) => hD6
    rename Fr _ _ _ _ => F17
    rename News _ _ _ _ => N17
    with_reducible rename LT.lt I5 _ ∧ _ => la
    refine and5 la fun a1 a2 a3 a4 a5 => ?_
    dsimp only
    refine' hQ5 F17 (fun q hq => N17 q (mve hq)) (fun _ h => nomatch h) ?ni hG10 (JD.intro us10 _ _ _ _ (_ :: X5) cm10 wm10 lm10 sm10 mm10 ym10 dm10 ⟨u101, sp10⟩ (by rw [← hZ5]; rfl) ?fr hY6 ?nw ?lw hD6 ?td ?ld ?d1 ?d2 ?d3)
    case ni => exact List.forall_mem_cons.mpr ⟨q9, List.forall_mem_cons.mpr ⟨q5, List.forall_mem_cons.mpr ⟨q6, List.forall_mem_cons.mpr ⟨Nat.ne_of_gt a1, q8⟩⟩⟩⟩
    case nw => exact due_nw R.n8 hi4 hi5 hN5
    case lw => exact Nat.le_trans (stored_length_le _ _ _) (Nat.succ_le_succ hlw5)
    case ld => exact Nat.le_trans (stored_length_le _ _ _) (Nat.succ_le_succ hld5)
    case fr => exact List.forall_mem_cons.mpr ⟨fun q h => Nat.ne_of_lt (kst_ltOf a5 q (hB5 q h)), hX5⟩
    case d1 => rw [List.cons_append, hZ5]; exact List.forall_mem_cons.mpr ⟨Nat.ne_of_gt a3, z1'⟩
    case d2 => rw [List.cons_append, hZ5]; exact List.forall_mem_cons.mpr ⟨Nat.ne_of_gt a4, z2'⟩
    case d3 => rw [List.cons_append, hZ5]; exact List.forall_mem_cons.mpr ⟨List.forall_mem_cons.mpr ⟨Nat.ne_of_gt a2, q10⟩, fun _ h => nomatch h⟩
    case td =>
      refine' due_td R.n8 hi4 hi5 hT5 (fun q h => .tail _ h) ⟨_, .head _, lo11, fun _ => hs11, ?e2⟩
      case e2 => intro t e; rw [dent_neg hpos] at e; exact nomatch e
end
section

set_option Elab.async false
set_option maxRecDepth 100000
/-- the sign as a form on classes -/
def bf (x y : Nat) : Int := if x = 0 ∨ y = 0 then 1 else sg (x - 1) (y - 1)
theorem bf_l : ∀ x < 4, ∀ y < 4, ∀ z < 4, bf (x ^^^ y) z = bf x z * bf y z := by decide
theorem bf_r : ∀ x < 4, ∀ y < 4, ∀ z < 4, bf x (y ^^^ z) = bf x y * bf x z := by decide
theorem bf_plus : ∀ x < 4, ∀ y < 4, x ≠ 0 → y ≠ 0 → x ≠ y → bf x y = plusOf (x - 1) (y - 1) := by decide
theorem bf_sg : ∀ a < 3, ∀ b < 3, bf (a + 1) (b + 1) = sg a b := by decide
theorem bf_zero_r : ∀ x < 4, bf x 0 = 1 := by decide
theorem x4 {c : Nat → Nat} (hc : ∀ i, c i < 3) (i j : Nat) : mk c i ^^^ mk c j < 4 := Nat.xor_lt_two_pow (n := 2) (mk_lt hc i) (mk_lt hc j)
theorem xor_mid (a b d : Nat) : a ^^^ d = (a ^^^ b) ^^^ (b ^^^ d) := by
  rw [Nat.xor_assoc, ← Nat.xor_assoc b b d, Nat.xor_self, Nat.zero_xor]
theorem rowP_bf {c : Nat → Nat} (hc : ∀ i, c i < 3) (p a t : Nat) : rowP c p a t = bf (c p + 1) (mk c a ^^^ mk c (a + t)) := by
  induction t with
  | zero =>
    show (1 : Int) = bf (c p + 1) (mk c a ^^^ mk c a)
    rw [Nat.xor_self, bf_zero_r _ (by have := hc p; (first | lia | omega))]
  | succ t ih =>
    have h1 := hc p
    have h2 := hc (a + t)
    rw [rowP, ih, ← bf_sg _ h1 _ h2, ← bf_r _ (by (first | lia | omega)) _ (x4 hc _ _) _ (by (first | lia | omega)), Nat.xor_assoc]
    rfl
theorem sgP_cut {c : Nat → Nat} (hc : ∀ i, c i < 3) (i a b t : Nat) (ht : t ≤ a) : sgP c i (i + a + b) t = sgP c i (i + a) t * bf (mk c i ^^^ mk c (i + t)) (mk c (i + a) ^^^ mk c (i + a + b)) := by
  induction t with
  | zero =>
    show (1 : Int) = 1 * bf (mk c i ^^^ mk c i) _
    rw [Nat.xor_self]
    rfl
  | succ t ih =>
    have h1 := hc (i + t)
    rw [sgP, sgP, ih (by (first | lia | omega)), rowP_bf hc, rowP_bf hc, show i + t + 1 + (i + a + b - (i + t + 1)) = i + a + b by (first | lia | omega), show i + t + 1 + (i + a - (i + t + 1)) = i + a by (first | lia | omega),
      xor_mid (mk c (i + t + 1)) (mk c (i + a)) (mk c (i + a + b)), bf_r _ (by (first | lia | omega)) _ (x4 hc _ _) _ (x4 hc _ _),
      show mk c (i + (t + 1)) = mk c (i + t) ^^^ (c (i + t) + 1) from rfl, ← Nat.xor_assoc, bf_l _ (x4 hc _ _) _ (by (first | lia | omega)) _ (x4 hc _ _)]
    simp only [Int.mul_assoc, Int.mul_left_comm, Int.mul_comm]
theorem sgP_tail (c : Nat → Nat) (i a j t : Nat) : sgP c i j (a + t) = sgP c i j a * sgP c (i + a) j t := by
  induction t with
  | zero => show sgP c i j a = sgP c i j a * 1; rw [Int.mul_one]
  | succ t ih => rw [← Nat.add_assoc, sgP, ih, sgP, ← Nat.add_assoc, Int.mul_assoc]
theorem sgP_split {c : Nat → Nat} (hc : ∀ i, c i < 3) (i a b : Nat) : sgP c i (i + a + b) (a + b) = sgP c i (i + a) a * sgP c (i + a) (i + a + b) b * bf (mk c i ^^^ mk c (i + a)) (mk c (i + a) ^^^ mk c (i + a + b)) := by
  rw [sgP_tail, sgP_cut hc i a b a (Nat.le_refl _), Int.mul_right_comm]
theorem prW_split (w : Nat → Int) (i a b : Nat) : prW w i (a + b) = prW w i a * prW w (i + a) b := by
  induction b with
  | zero => show prW w i a = prW w i a * 1; rw [Int.mul_one]
  | succ b ih => rw [← Nat.add_assoc, prW, ih, prW, ← Nat.add_assoc, Int.mul_assoc]
theorem wys_nonneg (c : Nat → Nat) : ∀ s i, 0 ≤ wys c s i := by
  intro s
  induction s using Nat.strongRecOn with
  | _ s ih =>
    intro i
    match s, ih with
    | 0, _ => rw [wys]; decide
    | s + 1, ih =>
      rw [wys_all]
      split
      · split <;> decide
      · have key : ∀ k ≤ s, 0 ≤ wpart c (s + 1) i k := by
          intro k
          induction k with
          | zero => intro _; rw [wpart_zero]; split <;> decide
          | succ k ihk =>
            intro hk
            rw [wpart_succ]
            exact Int.add_nonneg (ihk (by (first | lia | omega))) (Int.mul_nonneg (ih _ (by (first | lia | omega)) _) (ih _ (by (first | lia | omega)) _))
        exact key s (Nat.le_refl _)
/-- a dent of a number -/
def dn (m sgn pr : Int) : Option T3 := if 0 < m then some (m, sgn * m, sgn * m * pr) else none
theorem dent_dn (c w s i) : dent c w s i = dn (wys c s i) (sgP c i (i + s) s) (prW w i s) := rfl
theorem dn_join {a b : Nat} {p m1 m2 s1 s2 sg p1 p2 : Int} (hp : 0 ≤ p) (h1 : 0 ≤ m1) (h2 : 0 ≤ m2) (hs : 0 < m1 → 0 < m2 → ¬ stepOf a b = 0 ∧ plusOf a b * (s1 * s2) = sg) :
    joinT a b (dn p sg (p1 * p2)) (dn m1 s1 p1) (dn m2 s2 p2) = dn (p + m1 * m2) sg (p1 * p2) := by
  by_cases h1' : 0 < m1
  · by_cases h2' : 0 < m2
    · obtain ⟨e1, e2⟩ := hs h1' h2'
      have hm : 0 < m1 * m2 := Int.mul_pos h1' h2'
      have q1 : plusOf a b * (s1 * m1 * (s2 * m2)) = sg * (m1 * m2) := by
        rw [← e2]; simp only [Int.mul_assoc, Int.mul_left_comm, Int.mul_comm]
      have q2 : plusOf a b * (s1 * m1 * p1 * (s2 * m2 * p2)) = sg * (m1 * m2) * (p1 * p2) := by
        rw [← e2]; simp only [Int.mul_assoc, Int.mul_left_comm, Int.mul_comm]
      unfold dn joinT
      rw [if_pos h1', if_pos h2', if_pos (show 0 < p + m1 * m2 by (first | lia | omega))]
      simp only [e1, if_false, q1, q2]
      by_cases hp' : 0 < p
      · rw [if_pos hp']
        simp only [addT, Option.some.injEq, Prod.mk.injEq]
        refine ⟨by (first | lia | omega), ?_, ?_⟩
        · rw [Int.mul_add, Int.add_comm]
        · rw [Int.mul_add, Int.add_mul, Int.add_comm]
      · obtain rfl : p = 0 := by (first | lia | omega)
        rw [if_neg hp']
        simp only [addT, Int.zero_add]
    · obtain rfl : m2 = 0 := by (first | lia | omega)
      rw [show dn 0 s2 p2 = none from rfl, joinT_none_r, Int.mul_zero, Int.add_zero]
  · obtain rfl : m1 = 0 := by (first | lia | omega)
    rw [show dn 0 s1 p1 = none from rfl, joinT_none_l, Int.zero_mul, Int.add_zero]
theorem hue_eq {c : Nat → Nat} {i j : Nat} (h : mk c i ≠ mk c j) : mk c i ^^^ mk c j ≠ 0 := fun e => h (by
  have e2 : mk c i ^^^ (mk c i ^^^ mk c j) = mk c i ^^^ 0 := by rw [e]
  rw [← Nat.xor_assoc, Nat.xor_self, Nat.zero_xor, Nat.xor_zero] at e2
  exact e2.symm)
theorem wys_marks {c : Nat → Nat} {s i : Nat} (h : 0 < wys c (s + 1) i) : mk c i ≠ mk c (i + (s + 1)) := by
  intro e
  rw [wys_all, if_pos e] at h
  match s, h, e with
  | 0, _, e => exact mk_leaf i e
  | s + 1, h, _ => rw [if_neg (by (first | lia | omega))] at h; exact absurd h (by decide)
theorem step_ne0 : ∀ x < 4, ∀ y < 4, (x == 0 || y == 0 || x == y || !(stepOf (x - 1) (y - 1) == 0)) = true := by decide
theorem step_ne (x : Nat) (hx : x < 4) (y : Nat) (hy : y < 4) (h1 : x ≠ 0) (h2 : y ≠ 0) (h3 : x ≠ y) : ¬ stepOf (x - 1) (y - 1) = 0 := by
  have := step_ne0 x hx y hy
  simp only [Bool.or_eq_true, beq_iff_eq, Bool.not_eq_true', beq_eq_false_iff_ne] at this
  rcases this with ((e | e) | e) | e
  · exact absurd e h1
  · exact absurd e h2
  · exact absurd e h3
  · exact e
theorem tbs_dent {c : Nat → Nat} (hc : ∀ i, c i < 3) (w : Nat → Int) : ∀ s i, tbs c w (s + 1) i = dent c w (s + 1) i := by
  intro s
  induction s using Nat.strongRecOn with
  | _ s ih =>
    intro i
    match s, ih with
    | 0, _ =>
      rw [tbs]
      unfold dent
      rw [show wys c (0 + 1) i = 1 by rw [wys]]
      rw [if_pos (by decide)]
      have e1 : sgP c i (i + (0 + 1)) (0 + 1) = 1 := by
        rw [sgP, sgP, Int.one_mul, show i + (0 + 1) - (i + 0 + 1) = 0 by (first | lia | omega), rowP]
      have e2 : prW w i (0 + 1) = w i := by rw [prW, prW, Int.one_mul]; rfl
      rw [e1, e2]
      simp
    | s + 1, ih =>
      rw [show s + 1 + 1 = s + 2 from rfl, ← part_all]
      by_cases hm : mk c i = mk c (i + (s + 2))
      · have hz : wys c (s + 2) i = 0 := by rw [wys_all, if_pos hm, if_neg (by (first | lia | omega))]
        have key : ∀ k ≤ s + 1, part c w (s + 2) i k = none := by
          intro k
          induction k with
          | zero => intro _; rfl
          | succ k ihk =>
            intro hk
            rw [part_succ, ihk (by (first | lia | omega))]
            generalize hl : tbs c w (k + 1) i = l
            generalize hr : tbs c w (s + 2 - 1 - k) (i + k + 1) = r
            match l, r, hl, hr with
            | none, _, _, _ => exact joinT_none_l
            | some l, none, _, _ => exact joinT_none_r
            | some l, some r, hl, hr =>
              have m1 := tbs_marks hc (k + 1) i (by rw [hl]; exact nofun)
              have m2 := tbs_marks hc (s + 2 - 1 - k) (i + k + 1) (by rw [hr]; exact nofun)
              rw [show i + k + 1 + (s + 2 - 1 - k) = i + (s + 2) by (first | lia | omega)] at m2
              by_cases h0 : stepOf (hue c i (i + k + 1)) (hue c (i + k + 1) (i + (s + 2))) = 0
              · exact joinT_zero h0
              · exact absurd hm (meet hc m1 m2 h0).1
        rw [key (s + 1) (Nat.le_refl _)]
        unfold dent
        rw [hz]
        rfl
      · have hall : wys c (s + 2) i = wpart c (s + 2) i (s + 1) := by rw [wys_all, if_neg hm]
        have key : ∀ k ≤ s + 1, 0 ≤ wpart c (s + 2) i k ∧ part c w (s + 2) i k = dn (wpart c (s + 2) i k) (sgP c i (i + (s + 2)) (s + 2)) (prW w i (s + 2)) := by
          intro k
          induction k with
          | zero => intro _; rw [wpart_zero, if_neg (by (first | lia | omega))]; exact ⟨by decide, rfl⟩
          | succ k ihk =>
            intro hk
            obtain ⟨g1, g2⟩ := ihk (by (first | lia | omega))
            have n1 := wys_nonneg c (k + 1) i
            have n2 := wys_nonneg c (s + 2 - 1 - k) (i + k + 1)
            refine ⟨by rw [wpart_succ]; exact Int.add_nonneg g1 (Int.mul_nonneg n1 n2), ?_⟩
            rw [part_succ, wpart_succ, g2, ih k (by (first | lia | omega)) i]
            obtain ⟨b, hb⟩ : ∃ b, s + 2 - 1 - k = b + 1 := ⟨s - k, by (first | lia | omega)⟩
            rw [hb, ih b (by (first | lia | omega)) (i + k + 1), dent_dn, dent_dn]
            have hsplit : s + 2 = (k + 1) + (b + 1) := by (first | lia | omega)
            have hpr : prW w i (s + 2) = prW w i (k + 1) * prW w (i + k + 1) (b + 1) := by rw [hsplit, prW_split]; rfl
            rw [hpr]
            refine dn_join g1 n1 (by rw [hb] at n2; exact n2) fun h1 h2 => ?_
            have m1 := wys_marks h1
            have m2 := wys_marks h2
            have ej : i + k + 1 + (b + 1) = i + (s + 2) := by (first | lia | omega)
            rw [ej] at m2
            have x1 := hue_eq m1
            have x2 := hue_eq m2
            have xne : mk c i ^^^ mk c (i + (k + 1)) ≠ mk c (i + k + 1) ^^^ mk c (i + (s + 2)) := by
              intro e
              refine hue_eq hm ?_
              rw [xor_mid (mk c i) (mk c (i + (k + 1))) (mk c (i + (s + 2))), e]
              exact Nat.xor_self _
            refine ⟨step_ne _ (x4 hc _ _) _ (x4 hc _ _) x1 x2 xne, ?_⟩
            have hsg := sgP_split hc i (k + 1) (b + 1)
            rw [bf_plus _ (x4 hc _ _) _ (x4 hc _ _) x1 (by rw [show i + (k + 1) + (b + 1) = i + (s + 2) by (first | lia | omega)]; exact x2) (by rw [show i + (k + 1) + (b + 1) = i + (s + 2) by (first | lia | omega)]; exact xne)] at hsg
            rw [show i + (k + 1) + (b + 1) = i + (s + 2) by (first | lia | omega), show k + 1 + (b + 1) = s + 2 by (first | lia | omega)] at hsg
            rw [hsg, ej]
            exact Int.mul_comm _ _
        rw [(key (s + 1) (Nat.le_refl _)).2, dent_dn, hall]
end
section

set_option Elab.async false
set_option maxRecDepth 100000
def ph : Nat → Nat
  | 0 => 0
  | 1 => 3
  | 2 => 2
  | _ => 1
theorem ph_xor : ∀ x < 4, ∀ y < 4, ph (x ^^^ y) = ph x ^^^ ph y := by decide
theorem ph_bf : ∀ x < 4, ∀ y < 4, bf (ph x) (ph y) = bf y x := by decide
theorem ph_col : ∀ a < 3, ph (a + 1) = 2 - a + 1 := by decide
theorem ph_lt : ∀ x < 4, ph x < 4 := by decide
theorem ph_zero : ∀ x < 4, (ph x = 0 ↔ x = 0) := by decide
theorem ph_hue : ∀ x < 4, x ≠ 0 → ph x - 1 = 2 - (x - 1) := by decide
def mc (n : Nat) (c : Nat → Nat) (k : Nat) : Nat := 2 - c (n - 1 - k)
def mw (n : Nat) (w : Nat → Int) (k : Nat) : Int := w (n - 1 - k)
theorem mc3 {n : Nat} {c : Nat → Nat} (i : Nat) : mc n c i < 3 := by unfold mc; (first | lia | omega)
theorem xc_front (c : Nat → Nat) (i s : Nat) : mk c i ^^^ mk c (i + (s + 1)) = (c i + 1) ^^^ (mk c (i + 1) ^^^ mk c (i + 1 + s)) := by
  rw [xor_mid (mk c i) (mk c (i + 1)) (mk c (i + (s + 1))), show i + (s + 1) = i + 1 + s by (first | lia | omega)]
  congr 1
  show mk c i ^^^ (mk c i ^^^ (c i + 1)) = c i + 1
  rw [← Nat.xor_assoc, Nat.xor_self, Nat.zero_xor]
theorem xc_mirror {n : Nat} {c : Nat → Nat} (hc : ∀ i, c i < 3) (i : Nat) : ∀ s, i + s ≤ n → mk (mc n c) (n - (i + s)) ^^^ mk (mc n c) (n - (i + s) + s) = ph (mk c i ^^^ mk c (i + s)) := by
  intro s
  induction s with
  | zero =>
    intro _
    show mk (mc n c) (n - i) ^^^ mk (mc n c) (n - i) = ph (mk c i ^^^ mk c i)
    rw [Nat.xor_self, Nat.xor_self]
    rfl
  | succ s ih =>
    intro h
    have h1 := hc (i + s)
    rw [xc_front, show n - (i + (s + 1)) + 1 = n - (i + s) by (first | lia | omega), ih (by (first | lia | omega))]
    show _ = ph (mk c i ^^^ (mk c (i + s) ^^^ (c (i + s) + 1)))
    rw [← Nat.xor_assoc, ph_xor _ (x4 hc _ _) _ (by (first | lia | omega)), ph_col _ h1, Nat.xor_comm]
    unfold mc
    rw [show n - 1 - (n - (i + (s + 1))) = i + s by (first | lia | omega)]
theorem prW_mirror {n : Nat} (w : Nat → Int) (i : Nat) : ∀ s, i + s ≤ n → prW (mw n w) (n - (i + s)) s = prW w i s := by
  intro s
  induction s with
  | zero => intro _; rfl
  | succ s ih =>
    intro h
    have e := prW_split (mw n w) (n - (i + (s + 1))) 1 s
    rw [show 1 + s = s + 1 by (first | lia | omega), show n - (i + (s + 1)) + 1 = n - (i + s) by (first | lia | omega), ih (by (first | lia | omega))] at e
    rw [e, prW, prW, prW, Int.one_mul, Int.mul_comm]
    congr 1
    unfold mw
    congr 1
    (first | lia | omega)
theorem sgP_one {c : Nat → Nat} (i j : Nat) (h : j = i + 1) : sgP c i j 1 = 1 := by
  subst h
  rw [sgP, sgP, Int.one_mul, show i + 1 - (i + 0 + 1) = 0 by (first | lia | omega), rowP]
theorem sgP_mirror {n : Nat} {c : Nat → Nat} (hc : ∀ i, c i < 3) (i : Nat) : ∀ s, i + s ≤ n → sgP (mc n c) (n - (i + s)) (n - (i + s) + s) s = sgP c i (i + s) s := by
  intro s
  induction s with
  | zero => intro _; rfl
  | succ s ih =>
    intro h
    have h1 := hc (i + s)
    have e1 := sgP_split (c := mc n c) mc3 (n - (i + (s + 1))) 1 s
    have e2 := sgP_split hc i s 1
    rw [sgP_one _ _ rfl, Int.one_mul, show 1 + s = s + 1 by (first | lia | omega), Nat.add_assoc, show 1 + s = s + 1 by (first | lia | omega)] at e1
    rw [sgP_one _ _ rfl, Int.mul_one] at e2
    have e3 : n - (i + (s + 1)) + 1 = n - (i + s) := by (first | lia | omega)
    have e4 : n - (i + (s + 1)) + (s + 1) = n - (i + s) + s := by (first | lia | omega)
    rw [e3, e4] at e1
    rw [e4, e1, ih (by (first | lia | omega)), show i + (s + 1) = i + s + 1 by (first | lia | omega), e2, xc_mirror hc i s (by (first | lia | omega))]
    congr 1
    have f1 : mk (mc n c) (n - (i + s + 1)) ^^^ mk (mc n c) (n - (i + s)) = ph (c (i + s) + 1) := by
      rw [show n - (i + s) = n - (i + s + 1) + 1 by (first | lia | omega)]
      show mk _ _ ^^^ (mk _ _ ^^^ (mc n c (n - (i + s + 1)) + 1)) = _
      rw [← Nat.xor_assoc, Nat.xor_self, Nat.zero_xor, ph_col _ h1]
      unfold mc
      rw [show n - 1 - (n - (i + s + 1)) = i + s by (first | lia | omega)]
    have f2 : mk c (i + s) ^^^ mk c (i + s + 1) = c (i + s) + 1 := by
      show mk _ _ ^^^ (mk _ _ ^^^ (c (i + s) + 1)) = _
      rw [← Nat.xor_assoc, Nat.xor_self, Nat.zero_xor]
    rw [f1, f2, ph_bf _ (by (first | lia | omega)) _ (x4 hc _ _)]
def sm (f : Nat → Int) : Nat → Int
  | 0 => 0
  | k + 1 => sm f k + f k
theorem sm_front (f : Nat → Int) (k : Nat) : sm f (k + 1) = f 0 + sm (fun j => f (j + 1)) k := by
  induction k with
  | zero => simp [sm]
  | succ k ih => rw [sm, ih, sm, Int.add_assoc]
theorem sm_congr {f g : Nat → Int} {k : Nat} (h : ∀ j < k, f j = g j) : sm f k = sm g k := by
  induction k with
  | zero => rfl
  | succ k ih => rw [sm, sm, ih (fun j hj => h j (by (first | lia | omega))), h k (by (first | lia | omega))]
theorem sm_rev (f : Nat → Int) (k : Nat) : sm (fun j => f (k - 1 - j)) k = sm f k := by
  induction k generalizing f with
  | zero => rfl
  | succ k ih =>
    rw [sm_front, sm, Int.add_comm, ← ih f]
    congr 1
    exact sm_congr fun j hj => by congr 1; (first | lia | omega)
theorem wpart_sm (c : Nat → Nat) (s i : Nat) (h : s ≠ 1) (k : Nat) : wpart c s i k = sm (fun k => wys c (k + 1) i * wys c (s - 1 - k) (i + k + 1)) k := by
  induction k with
  | zero => rw [wpart_zero, if_neg h]; rfl
  | succ k ih => rw [wpart_succ, ih]; rfl
theorem wys_mirror {n : Nat} {c : Nat → Nat} (hc : ∀ i, c i < 3) : ∀ s i, i + s ≤ n → wys (mc n c) s (n - (i + s)) = wys c s i := by
  intro s
  induction s using Nat.strongRecOn with
  | _ s ih =>
    intro i h
    match s, ih, h with
    | 0, _, _ => rw [wys, wys]
    | 1, _, _ => rw [wys, wys]
    | s + 2, ih, h =>
      have hx := xc_mirror hc i (s + 2) h
      have hiff : mk (mc n c) (n - (i + (s + 2))) = mk (mc n c) (n - (i + (s + 2)) + (s + 2)) ↔ mk c i = mk c (i + (s + 2)) := by
        constructor
        · intro e
          rw [e, Nat.xor_self] at hx
          have := (ph_zero _ (x4 hc i (i + (s + 2)))).mp hx.symm
          exact Classical.byContradiction fun hn => hue_eq hn this
        · intro e
          rw [e, Nat.xor_self] at hx
          exact Classical.byContradiction fun hn => hue_eq hn hx
      rw [wys_all, wys_all]
      by_cases e : mk c i = mk c (i + (s + 2))
      · rw [if_pos (hiff.mpr e), if_pos e]
      · rw [if_neg (fun q => e (hiff.mp q)), if_neg e, wpart_sm _ _ _ (by (first | lia | omega)), wpart_sm _ _ _ (by (first | lia | omega)), ← sm_rev]
        refine sm_congr fun k hk => ?_
        have a1 := ih (s + 1 - 1 - k + 1) (by (first | lia | omega)) (i + k + 1) (by (first | lia | omega))
        have a2 := ih (k + 1) (by (first | lia | omega)) i (by (first | lia | omega))
        rw [show s + 1 + 1 - 1 - (s + 1 - 1 - k) = k + 1 by (first | lia | omega), show s + 1 + 1 - 1 - k = s + 1 - 1 - k + 1 by (first | lia | omega), show n - (i + (s + 2)) = n - (i + k + 1 + (s + 1 - 1 - k + 1)) by (first | lia | omega), a1,
          show n - (i + k + 1 + (s + 1 - 1 - k + 1)) + (s + 1 - 1 - k) + 1 = n - (i + (k + 1)) by (first | lia | omega), a2, Int.mul_comm]
/-- the turned row's tables are those told by the row as it was drawn -/
theorem tbs_due {n : Nat} {c : Nat → Nat} (hc : ∀ i, c i < 3) (w : Nat → Int) (s i : Nat) (h : i + (s + 1) ≤ n) : tbs (mc n c) (mw n w) (s + 1) (n - (i + (s + 1))) = dent c w (s + 1) i := by
  rw [tbs_dent mc3, dent_dn, dent_dn, wys_mirror hc _ _ h, sgP_mirror hc _ _ h, prW_mirror _ _ _ h]
def mn (n : Nat) (f : Nat → Nat) (k : Nat) : Nat := f (n - 1 - k)
theorem txt_due {n : Nat} {c lo hi : Nat → Nat} (hc : ∀ i, c i < 3) (w : Nat → Int) (s i : Nat) (h : i + (s + 1) ≤ n) {t : T3} (ht : dent c w (s + 1) i = some t) :
    txt (mc n c) (mn n lo) (mn n hi) (n - (i + (s + 1))) (n - (i + (s + 1)) + (s + 1)) = dtx c lo hi i (i + (s + 1)) := by
  have hm : mk c i ≠ mk c (i + (s + 1)) := by
    refine wys_marks (s := s) ?_
    unfold dent at ht
    split at ht
    · assumption
    · cases ht
  unfold txt dtx
  match s with
  | 0 =>
    rw [if_pos rfl, if_pos rfl]
    unfold mc mn
    rw [show n - 1 - (n - (i + (0 + 1))) = i by (first | lia | omega)]
  | s + 1 =>
    rw [if_neg (by (first | lia | omega)), if_neg (by (first | lia | omega))]
    unfold hue
    rw [xc_mirror hc i _ h, ph_hue _ (x4 hc _ _) (hue_eq hm)]
end
section

set_option Elab.async false
set_option maxRecDepth 100000
set_option maxHeartbeats 8000000

inductive LightOut (y : Nat) : Value → List (Addr × Obj) → Prop
  | mk : ∀ l t0 t1 t2 k, LightOut y (.ref l) ([(l, { cls := .type "list", data := .seq #[.int (lightAt (y % 3) (y / 3 % 100) (y / 3 % 100 + (1 + y / 300 % 100)) 0 : Nat) t0, .int (lightAt (y % 3) (y / 3 % 100) (y / 3 % 100 + (1 + y / 300 % 100)) 1 : Nat) t1, .int (lightAt (y % 3) (y / 3 % 100) (y / 3 % 100 + (1 + y / 300 % 100)) 2 : Nat) t2] k })])
theorem fmod_nat (y k : Nat) : Int.fmod (y : Int) (k : Int) = ((y % k : Nat) : Int) := by rw [Int.fmod_eq_emod_of_nonneg _ (Int.natCast_nonneg k), Int.natCast_emod]
theorem fdiv_nat (y k : Nat) : Int.fdiv (y : Int) (k : Int) = ((y / k : Nat) : Int) := by rw [Int.fdiv_eq_ediv_of_nonneg _ (Int.natCast_nonneg k), Int.natCast_ediv]
theorem light_eq {y i : Nat} {k : Int} (hk : (i : Int) = k) : (if Int.fmod (y : Int) 3 = k then List.getD [Int.fmod (Int.fdiv (y : Int) 3) 100, Int.fmod (Int.fdiv (y : Int) 3) 100, Int.fmod (Int.fdiv (y : Int) 3) 100] (Int.toNat (Int.fmod (y : Int) 3)) 0 + (1 + Int.fmod (Int.fdiv (y : Int) 300) 100) else Int.fmod (Int.fdiv (y : Int) 3) 100) =
    ((lightAt (y % 3) (y / 3 % 100) (y / 3 % 100 + (1 + y / 300 % 100)) i : Nat) : Int) := by
  subst hk
  have e1 : Int.fmod (y : Int) 3 = ((y % 3 : Nat) : Int) := fmod_nat y 3
  have e2 : Int.fdiv (y : Int) 3 = ((y / 3 : Nat) : Int) := fdiv_nat y 3
  have e3 : Int.fdiv (y : Int) 300 = ((y / 300 : Nat) : Int) := fdiv_nat y 300
  have e4 : Int.fmod ((y / 3 : Nat) : Int) 100 = ((y / 3 % 100 : Nat) : Int) := fmod_nat (y / 3) 100
  have e5 : Int.fmod ((y / 300 : Nat) : Int) 100 = ((y / 300 % 100 : Nat) : Int) := fmod_nat (y / 300) 100
  rw [e1, e2, e3, e4, e5]
  have hg : List.getD [((y / 3 % 100 : Nat) : Int), ((y / 3 % 100 : Nat) : Int), ((y / 3 % 100 : Nat) : Int)] (Int.toNat ((y % 3 : Nat) : Int)) 0 = ((y / 3 % 100 : Nat) : Int) := by
    have h3 : y % 3 < 3 := Nat.mod_lt _ (by decide)
    rw [Int.toNat_natCast]
    generalize y % 3 = r at h3
    match r, h3 with
    | 0, _ => rfl
    | 1, _ => rfl
    | 2, _ => rfl
  rw [hg]
  unfold lightAt
  by_cases h : y % 3 = i
  · have h' : ((y % 3 : Nat) : Int) = (i : Int) := by (first | lia | omega)
    rw [if_pos h', if_pos (by (first | lia | omega))]; (first | lia | omega)
  · have h' : ¬ ((y % 3 : Nat) : Int) = (i : Int) := by (first | lia | omega)
    rw [if_neg h', if_neg (by (first | lia | omega))]
theorem light_con {w p loose mean mg mb} {y : Nat} {t} : Con w p loose mean mg mb 98 1 [.int (y : Int) t] any (LightOut y) := by
  (unfold Con; k_fill; intro dp un gd cn cs a ccd cl outer A₀ base h₀ L m s Q E B F X T hp hk hd hu hret; refine wpAny_call ?_; (refine' code_defG ?k1 ?k2 ?k3 (News.nil) ?k5 ?kA ?kF ?kK ?k6 ?k7 ?k8 ?k9 ?kB ?_ ?c2 ?c3 ?c4 ?c5; (case kA => exact rfl); (case kF => exact rfl); (case kK => assumption); (case k1 => k_asm); (case k2 => k_asm); (case k3 => k_asm); (case k5 => k_asm); (case k6 => k_is); (case k7 => k_is); (case k8 => ktr_room); (case k9 => exact BindsTo.of_eq rfl); (case c5 => decide); (case kB => exact locs rfl); (case c2 => exact rfl); (case c3 => exact rfl); (case c4 => exact rfl); k_whole; intro g L' h' FG' F' N' B' X' T' GS; (try dsimp only); (try k_fold)))
  k_steps
  rename Fr h₀ L _ m => kF
  rename News h₀ L _ _ => kN
  rename News g _ _ ((_, _) :: _) => N6
  rw [light_eq (y := y) (i := 0) (k := 0) rfl, light_eq (y := y) (i := 1) (k := 1) rfl, light_eq (y := y) (i := 2) (k := 2) rfl] at kN N6
  refine' hret _ _ _ _ ⟨_, _, _, _, _⟩ ?kF ?kN ?kG ?kH
  ((case kF => k_asm); (case kN => first | k_asm | exact News.nil | exact news_one (by assumption)); (case kG => exact (con_end GS (by assumption) (by assumption)).1); (case kH => first | exact (con_end GS (by assumption) (by assumption)).2 | exact (con_end GS (by assumption) News.nil).2 | exact (con_end GS (by assumption) (news_one (by assumption))).2))
end
section

set_option Elab.async false
set_option maxRecDepth 100000
set_option maxHeartbeats 8000000
open PyProof.Rows.LCg
section
variable {prog : Program} {w : World} {A : Around} {E : Value → Shared → Prop} {s : Shared} {h₀ : Heap} {L : Addr} {m : Str → Option Value} {env : Env} {R : Result → Shared → Prop}
abbrev two (elt t1 i1 t2 i2 : PySem.Expr) (scope : Scope) (pos : Pos) : PySem.Expr := .ListComp elt [⟨t1, i1, [], 0⟩, ⟨t2, i2, [], 0⟩] scope pos
theorem turn_two0 (elt t1 i1 t2 i2 : PySem.Expr) (scope : Scope) (pos : Pos) (it acc : Value) (env : Env) : compTurn (two elt t1 i1 t2 i2 scope pos) 0 it acc env = (standAt i1.pos >>= fun _ => pyNext it >>= fun r => match r with
  | none => pure (.done .next)
  | some v => letOwnedTupleGo t1 it v >>= fun _ => assign t1 env v >>= fun _ =>
    eval i2 env >>= fun x => standAt i2.pos >>= fun _ => foldedSetIterable i2 env x >>= fun x => holding [x] (pyIter x) >>= fun it2 => runOwn (.compStart (two elt t1 i1 t2 i2 scope pos) 1 it2 acc env) env >>= fun _ =>
    again (.compLoop (two elt t1 i1 t2 i2 scope pos) 0 it acc env)) := by rfl
theorem turn_two1 (elt t1 i1 t2 i2 : PySem.Expr) (scope : Scope) (pos : Pos) (it acc : Value) (env : Env) : compTurn (two elt t1 i1 t2 i2 scope pos) 1 it acc env = (standAt i2.pos >>= fun _ => pyNext it >>= fun r => match r with
  | none => pure (.done .next)
  | some v => letOwnedTupleGo t2 it v >>= fun _ => assign t2 env v >>= fun _ =>
    (eval elt env >>= fun x => call (.builtin "list.append") [acc, x] >>= fun _ => pure ()) >>= fun _ =>
    again (.compLoop (two elt t1 i1 t2 i2 scope pos) 1 it acc env)) := by rfl
abbrev nb (prog : Program) (w : World) (A : Around) (env : Env) (R : Result → Shared → Prop) : Value → Shared → Prop := notedBy (model prog w) A env fun e s' => R (.error e) s'
theorem loop_two1 {elt t1 i1 i2 : PySem.Expr} {y : Str} {py : Pos} {scope : Scope} {pos : Pos} {it acc : Value} (I : Nat → Shared → Prop)
    (turn : ∀ n s, I n s → wpAny (model prog w) A (pyNext it) (fun r s₁ => match r with
      | none => R (.ok .next) s₁
      | some v => wpAny (model prog w) A (assign (.Name y py) env v) (fun _ s₂ => wpAny (model prog w) A (eval elt env) (fun x s₄ =>
            wpAny (model prog w) A (call (.builtin "list.append") [acc, x]) (fun _ s₅ => ∃ m, m < n ∧ I m s₅) (nb prog w A env R) s₄) (nb prog w A env R) s₂) (nb prog w A env R) s₁) (nb prog w A env R) s)
    (n : Nat) (h : I n s) : codeAny (model prog w) A (.compLoop (two elt t1 i1 (.Name y py) i2 scope pos) 1 it acc env) R s := by
  refine codeAny_loop rfl I (fun n s hI => ?_) n h
  show wpAny _ A ((compTurn (two elt t1 i1 (.Name y py) i2 scope pos) 1 it acc env).onRaise (fun x => do noteFrame x env; theTreesLotGoes x)) _ _ s
  refine wpAny_noted ?_
  rw [turn_two1]
  refine wpAny_bind (wpAny_standAt (wpAny_bind (wpAny_mono (turn n s hI) (fun r s₁ h₁ => ?_) fun _ _ x => x)))
  cases r with
  | none => exact wpAny_pure h₁
  | some v =>
    refine wpAny_bind (wpAny_of_eq (by rfl) ?_)
    exact wpAny_bind (wpAny_mono h₁ (fun _ s₂ h₂ => wpAny_bind (wpAny_bind (wpAny_mono h₂ (fun x s₄ h₄ => wpAny_bind (wpAny_mono h₄ (fun _ s₅ h₅ => wpAny_pure (wpAny_pure ⟨rfl, h₅⟩)) fun _ _ x => x)) fun _ _ x => x))) fun _ _ x => x)
theorem loop_two0 {elt i1 t2 : PySem.Expr} {x : Str} {px p2 : Pos} {scope : Scope} {pos : Pos} {it acc : Value} (I : Nat → Shared → Prop)
    (turn : ∀ n s, I n s → wpAny (model prog w) A (pyNext it) (fun r s₁ => match r with
      | none => R (.ok .next) s₁
      | some v => wpAny (model prog w) A (assign (.Name x px) env v) (fun _ s₂ => wpAny (model prog w) A (eval (.Name x p2) env) (fun xv s₃ => wpAny (model prog w) A (pyIter xv) (fun it2 s₄ =>
            codeAny (model prog w) A (.compStart (two elt (.Name x px) i1 t2 (.Name x p2) scope pos) 1 it2 acc env) (fun r s' => r = .ok .next ∧ ∃ m, m < n ∧ I m s') s₄)
            (nb prog w A env R) s₃) (nb prog w A env R) s₂) (nb prog w A env R) s₁) (nb prog w A env R) s)
    (n : Nat) (h : I n s) : codeAny (model prog w) A (.compLoop (two elt (.Name x px) i1 t2 (.Name x p2) scope pos) 0 it acc env) R s := by
  refine codeAny_loop rfl I (fun n s hI => ?_) n h
  show wpAny _ A ((compTurn (two elt (.Name x px) i1 t2 (.Name x p2) scope pos) 0 it acc env).onRaise (fun x => do noteFrame x env; theTreesLotGoes x)) _ _ s
  refine wpAny_noted ?_
  rw [turn_two0]
  refine wpAny_bind (wpAny_standAt (wpAny_bind (wpAny_mono (turn n s hI) (fun r s₁ h₁ => ?_) fun _ _ x => x)))
  cases r with
  | none => exact wpAny_pure h₁
  | some v =>
    refine wpAny_bind (wpAny_of_eq (by rfl) ?_)
    refine wpAny_bind (wpAny_mono h₁ (fun _ s₂ h₂ => wpAny_bind (wpAny_mono h₂ (fun xv s₃ h₃ => ?_) fun _ _ x => x)) fun _ _ x => x)
    refine wpAny_bind (wpAny_standAt (wpAny_bind (wpAny_of_eq (by rfl) (wpAny_bind (wpAny_holding (wpAny_mono h₃ (fun it2 s₄ h₄ => ?_) fun _ _ x => x))))))
    refine wpAny_bind (wpAny_runOwn (codeAny_mono h₄ fun r s' hr => ?_))
    obtain ⟨rfl, hr⟩ := hr
    exact wpAny_pure ⟨rfl, hr⟩
theorem start_two1 {elt t1 i1 t2 i2 : PySem.Expr} {scope : Scope} {pos : Pos} {it acc : Value}
    (h0 : codeAny (model prog w) A (.compLoop (two elt t1 i1 t2 i2 scope pos) 1 it acc env) R s)
    (h : wpAny (model prog w) A (pyIter it) (fun it' s' => codeAny (model prog w) A (.compLoop (two elt t1 i1 t2 i2 scope pos) 1 it' acc env) R s') (nb prog w A env R) s) :
    codeAny (model prog w) A (.compStart (two elt t1 i1 t2 i2 scope pos) 1 it acc env) R s := by
  refine codeAny_of_tree ?_
  show wpAny _ _ ((compStart (two elt t1 i1 t2 i2 scope pos) 1 it acc env).onRaise (fun x => do noteFrame x env; standAt theWindowsPlace)) _ _ s
  refine wpAny_notedAt ?_
  unfold compStart
  show wpAny _ _ (ask >>= _) _ _ s
  refine wpAny_bind (wpAny_askSetting (wpAny_ite ?_))
  split
  · first
      | exact wpAny_bind (wpAny_pure (wpAny_pure ⟨rfl, h0⟩))
      | exact wpAny_pure ⟨rfl, h0⟩
  · refine wpAny_bind (wpAny_rule ?_)
    show wpAny _ _ (standAt i2.pos >>= _) _ _ s
    exact wpAny_bind (wpAny_standAt (wpAny_bind (wpAny_mono h (fun it' s' h' => wpAny_pure ⟨rfl, h'⟩) fun _ _ x => x)))
end
section
variable {prog : Program} {w : World} {A : Around} {E : Value → Shared → Prop} {s : Shared} {h₀ : Heap} {L : Addr} {m : Str → Option Value} {env : Env}
theorem news_near {h₀ h h' : Heap} {L X : Addr} {news : List (Addr × Obj)} (N : News h₀ L h news) (hk : ∀ b o, b ≠ X → h.get? b = some o → h'.get? b = some o) (off : ∀ p ∈ news, p.1 ≠ X) : News h₀ L h' news :=
  fun p hp => ⟨hk _ _ (off p hp) (N p hp).1, (N p hp).2⟩
inductive InAt (h₀ : Heap) (L C D I J l ax : Addr) (i : Nat) (m : Str → Option Value) (news : List (Addr × Obj)) (vs : Array Value) (ys : List Value) (s : Shared) : Nat → Shared → Prop
  | mk : ∀ h' tk j m'', j ≤ vs.size → h'.IsListIter J l j → h'.IsListIter I ax i → Fr h₀ L h' m → h'.Ns C m'' → News h₀ L h' ((D, lst (ys ++ vs.toList.take j)) :: news) → InAt h₀ L C D I J l ax i m news vs ys s (vs.size + 1 - j) { s with heap := h', toks := tk }
inductive OutAt (h₀ : Heap) (L I ax : Addr) (m : Str → Option Value) (news : List (Addr × Obj)) (its : Array Value) (inner : Nat → Array Value) (s : Shared) : Nat → Shared → Prop
  | mk : ∀ h' tk i m', i ≤ its.size → h'.IsListIter I ax i → Fr h₀ L h' m → h'.Ns (I + 1 + 1) m' → News h₀ L h' ((I + 1, lst ((List.range i).flatMap fun a => (inner a).toList)) :: news) → OutAt h₀ L I ax m news its inner s (its.size + 1 - i) { s with heap := h', toks := tk }
theorem inner_F {i1 : PySem.Expr} {x y : Str} {px py pe p2 : Pos} {scope : Scope} {cl : List (Str × Addr)} {pos : Pos} {R : Result → Shared → Prop} {g : Heap} {tk ax I C D l : Addr} {i kl : Nat} {m' : Str → Option Value} {vs : Array Value} {ys : List Value} {news : List (Addr × Obj)}
    (hh : A.handled = none) (hkind : scope.kind = .function) (hy : scope.names.lookup y = some .local) (hyd : (y == ("__debug__" : Str)) = false)
    (hI : g.IsListIter I ax i) (F : Fr h₀ L g m) (hn : g.Ns C m') (N : News h₀ L g ((D, lst ys) :: news)) (hl : (l, ({ cls := .type "list", data := .seq vs kl } : Obj)) ∈ news)
    (hCL : C ≠ L) (hDL : D ≠ L) (hCD : C ≠ D) (hC₀ : h₀.get? C = none) (hD₀ : h₀.get? D = none) (hIC : I ≠ C) (hID : I ≠ D) (offC : ∀ q ∈ news, q.1 ≠ C) (offD : ∀ q ∈ news, q.1 ≠ D)
    (hsz : ys.length + vs.size ≤ sizeLine)
    (hR : ∀ h' tk' m'', h'.IsListIter I ax i → Fr h₀ L h' m → h'.Ns C m'' → News h₀ L h' ((D, lst (ys ++ vs.toList)) :: news) → R (.ok .next) { s with heap := h', toks := tk' }) :
    wpAny (model prog w) A (pyIter (.ref l)) (fun it2 s' => codeAny (model prog w) A (.compStart (two (.Name y pe) (.Name x px) i1 (.Name y py) (.Name x p2) scope pos) 1 it2 (.ref D) (compEnvC scope cl C env)) R s') E { s with heap := g, toks := tk } := by
  have zl := N _ (List.mem_cons_of_mem _ hl)
  have hli : g.IsList l vs := ⟨_, zl.1, rfl, _, rfl⟩
  refine wpAny_pyIter_list hli ?_
  generalize hH : g.push { cls := .type "list_iterator", data := .fields #[.ref l, .int 0 0] } = H
  have up : ∀ b o, g.get? b = some o → H.get? b = some o := fun b o e => by rw [← hH]; exact Heap.get?_push_of_some _ e
  have hJ0 : H.IsListIter g.objs.size l 0 := ⟨_, by rw [← hH]; exact Heap.get?_push_size _ rfl, rfl, rfl⟩
  show codeAny (model prog w) A (.compStart _ 1 (.ref g.objs.size) _ _) R { s with heap := H, toks := tk }
  generalize hJ : g.objs.size = J at hJ0 ⊢
  have ltJ : ∀ {b : Addr} {o : Obj}, g.get? b = some o → b ≠ J := fun e => by rw [← hJ]; exact Nat.ne_of_lt (Heap.lt_size e)
  have hlJ : l ≠ J := ltJ zl.1
  have hLJ : L ≠ J := by rw [← hJ]; exact Nat.ne_of_lt F.ns.lt
  have h0J : ∀ {b : Addr} {o : Obj}, h₀.get? b = some o → b ≠ J := fun e => ltJ (F.keep _ _ e)
  have hDJ : D ≠ J := ltJ (N _ List.mem_cons_self).1
  have hCJ : C ≠ J := by obtain ⟨o, _, _, e, _⟩ := hn; exact ltJ e
  have hIJ : I ≠ J := by obtain ⟨o, e, _⟩ := hI; exact ltJ e
  have offJ : ∀ q ∈ news, q.1 ≠ J := fun q hq => ltJ (N q (List.mem_cons_of_mem _ hq)).1
  have W := Walks.list (prog := prog) (w := w) hh J l hlJ vs
  have loop : codeAny (model prog w) A (.compLoop (two (.Name y pe) (.Name x px) i1 (.Name y py) (.Name x p2) scope pos) 1 (.ref J) (.ref D) (compEnvC scope cl C env)) R { s with heap := H, toks := tk } := by
    refine loop_two1
      (InAt h₀ L C D I J l ax i m news vs ys s) ?_ (vs.size + 1)
      (.mk H tk 0 m' (Nat.zero_le _) hJ0 (hI.at fun o e => up _ _ e) (F.keeps up) (hn.keeps up) (by rw [List.take_zero, List.append_nil]; exact N.grown up))
    intro k s' hJ9
    refine InAt.casesOn hJ9 ?_
    clear hJ9 s' k
    intro h' tk' j m'' hj hJ' hI' F' hn' N'
    have zl' := N' _ (List.mem_cons_of_mem _ hl)
    have hli' : h'.IsList l vs := ⟨_, zl'.1, rfl, _, rfl⟩
    by_cases hlt : j < vs.size
    · refine W.item j _ _ _ hlt ⟨hJ', hli'⟩ fun v h₂ tk₂ hPv hst₂ hk₂ => ?_
      have hk2 : ∀ b o, b ≠ J → h'.get? b = some o → h₂.get? b = some o := fun b o hb e => hk₂ b o (fun hm => hb (List.mem_singleton.mp hm)) e
      refine wpAny_assign_Name (wpAny_storeName_local (lookup_relabel_local hy) (hn'.at' fun o e => hk2 _ o hCJ e) (fun h₃ hn₃ hs₃ => ?_) (by simp [compEnvC, relabel, hkind]))
      refine ldVarK (v := v) hn₃ (by simp) ?_ hkind (lookup_relabel_local hy) hyd
      have hk3 : ∀ b o, b ≠ J → b ≠ C → h'.get? b = some o → h₃.get? b = some o := fun b o hb hc e => hs₃.extBut b o hc (hk2 b o hb e)
      have zD : h₃.get? D = some (lst (ys ++ vs.toList.take j)) := hk3 _ _ hDJ (Ne.symm hCD) (N' _ List.mem_cons_self).1
      refine append_at (hsz := by show (ys ++ vs.toList.take j).toArray.size ≤ sizeLine; rw [List.size_toArray, List.length_append, List.length_take]; (first | lia | omega)) zD fun h₄ hs₄ hD₄ => ?_
      have hk4 : ∀ b o, b ≠ J → b ≠ C → b ≠ D → h'.get? b = some o → h₄.get? b = some o := fun b o hb hc hd e => hs₄.extBut b o hd (hk3 b o hb hc e)
      refine ⟨vs.size + 1 - (j + 1), by (first | lia | omega), .mk h₄ _ (j + 1) _ hlt ?_ (hI'.at fun o e => hk4 _ _ hIJ hIC hID e) ?_ (hn₃.sameBut hs₄ hCD) ?_⟩
      · exact (hst₂.1.at fun o e => hs₃.extBut _ _ (Ne.symm hCJ) e).at fun o e => hs₄.extBut _ _ (Ne.symm hDJ) e
      · exact ⟨F'.ns.at' fun o e => hk4 _ _ hLJ (Ne.symm hCL) (Ne.symm hDL) e, fun b o e => hk4 b o (h0J e) (fun q => by rw [q, hC₀] at e; cases e) (fun q => by rw [q, hD₀] at e; cases e) (F'.keep b o e), F'.above⟩
      · have ev : ys ++ vs.toList.take (j + 1) = (ys ++ vs.toList.take j) ++ [v] := by
          rw [List.take_add_one, List.append_assoc, Array.getElem?_toList, hPv]
          rfl
        intro q hq
        rcases List.mem_cons.mp hq with rfl | hq
        · refine ⟨?_, hDL, hD₀⟩
          rw [hD₄, lst_snoc, ev]
        · have z := N' q (List.mem_cons_of_mem _ hq)
          exact ⟨hk4 _ _ (offJ q hq) (offC q hq) (offD q hq) z.1, z.2⟩
    · have hjn : j = vs.size := by (first | lia | omega)
      subst hjn
      refine W.done _ _ _ ⟨hJ', hli'⟩ fun h₂ tk₂ hk₂ => ?_
      have hk2 : ∀ b o, b ≠ J → h'.get? b = some o → h₂.get? b = some o := fun b o hb e => hk₂ b o (fun hm => hb (List.mem_singleton.mp hm)) e
      rw [show vs.size = vs.toList.length from Array.length_toList.symm, List.take_length] at N'
      refine hR h₂ tk₂ m'' (hI'.at fun o e => hk2 _ _ hIJ e) ⟨F'.ns.at' fun o e => hk2 _ _ hLJ e, fun b o e => hk2 b o (h0J e) (F'.keep b o e), F'.above⟩ (hn'.at' fun o e => hk2 _ _ hCJ e) (news_near N' hk2 fun q hq => ?_)
      rcases List.mem_cons.mp hq with rfl | hq
      · exact hDJ
      · exact offJ q hq
  exact start_two1 loop (W.self 0 _ _ _ ⟨hJ0, hli.at fun o e => up _ _ e⟩ loop)
inductive FilmSrc (prog : Program) (w : World) (A : Around) (h₀ : Heap) (L : Addr) (m : Str → Option Value) (Q : Value → Shared → Prop) : Value → Shared → Prop
  | mk : ∀ {s₁ : Shared}, ∀ (ax : Addr) (its : Array Value) (k : Nat) (news : List (Addr × Obj)) (inner : Nat → Array Value), (A.handled = none) → (Fr h₀ L s₁.heap m) → (News h₀ L s₁.heap news) → ((ax, ({ cls := .type "list", data := .seq its k } : Obj)) ∈ news) → (∀ i < its.size, ∃ l ki, its[i]? = some (.ref l) ∧ (l, ({ cls := .type "list", data := .seq (inner i) ki } : Obj)) ∈ news ∧ (inner i).size = 3) → (its.size ≤ 100) → (∀ D h tk, Fr h₀ L h m → News h₀ L h ((D, lst ((List.range its.size).flatMap fun a => (inner a).toList)) :: news) → (∀ q ∈ news, q.1 ≠ D) → Q (.ref D) { s₁ with heap := h, toks := tk }) → FilmSrc prog w A h₀ L m Q (.ref ax) s₁
theorem flat_len {inner : Nat → Array Value} {n : Nat} (h : ∀ i < n, (inner i).size = 3) : ∀ i ≤ n, ((List.range i).flatMap fun a => (inner a).toList).length = 3 * i := by
  intro i
  induction i with
  | zero => intro _; rfl
  | succ i ih =>
    intro hi
    rw [List.range_succ, List.flatMap_append, List.length_append, ih (by (first | lia | omega))]
    simp [h i (by (first | lia | omega))]
    (first | lia | omega)
theorem ListComp_F {iter : PySem.Expr} {x y : Str} {px py pe p2 : Pos} {scope : Scope} {cl : List (Str × Addr)} {pos : Pos} {Q : Value → Shared → Prop} (_F₀ : Fr h₀ L s.heap m)
    (hclos : closureFor scope env = pure cl) (hcell : ∀ y ∈ scope.names, y.2 ≠ .cell) (hkind : scope.kind = .function)
    (hnames : ∀ y ∈ scope.names, y.2 = .local → scope.names.lookup y.1 = some .local) (hx : scope.names.lookup x = some .local) (hy : scope.names.lookup y = some .local)
    (hxd : (x == ("__debug__" : Str)) = false) (hyd : (y == ("__debug__" : Str)) = false)
    (h : wpAny (model prog w) A (eval iter env) (FilmSrc prog w A h₀ L m Q) E s)
    (hs : ∀ x, foldedSetIterable iter env x = pure x := by intro _; rfl) :
    wpAny (model prog w) A (eval (two (.Name y pe) (.Name x px) iter (.Name y py) (.Name x p2) scope pos) env) Q E s := by
  unfold two
  rw [eval_ListComp]
  refine wpAny_comprehension_free (use := none) rfl hs hclos hkind hnames (wpAny_mono h (fun xv s₁ h₁ => ?_) fun _ _ e => e)
  obtain ⟨ax, its, k, news, inner, hh, F, N, hax, hin, hsz, fin⟩ := h₁
  have zax := N _ hax
  have hla : s₁.heap.IsList ax its := ⟨_, zax.1, rfl, _, rfl⟩
  refine wpAny_pyIter_list hla ?_
  generalize hH : s₁.heap.push { cls := .type "list_iterator", data := .fields #[.ref ax, .int 0 0] } = H
  have up : ∀ b o, s₁.heap.get? b = some o → H.get? b = some o := fun b o e => by rw [← hH]; exact Heap.get?_push_of_some _ e
  have hHs : H.objs.size = s₁.heap.objs.size + 1 := by rw [← hH, Heap.size_push]
  have hI0 : H.IsListIter s₁.heap.objs.size ax 0 := ⟨_, by rw [← hH]; exact Heap.get?_push_size _ rfl, rfl, rfl⟩
  generalize hI : s₁.heap.objs.size = I at hI0 hHs ⊢
  refine wpAny_newObj_type (wpAny_newFunctionEnv hcell (by intro y hy; simp at hy) (fun h₁ hns₁ hsb₁ => ?_) hkind)
  dsimp only at hns₁ hsb₁ ⊢
  generalize hH2 : H.push { cls := .type "list", dict := none, data := .seq ([] : List Value).toArray } = H2 at hns₁ hsb₁ ⊢
  have hC : H2.objs.size = I + 1 + 1 := by rw [← hH2, Heap.size_push, hHs]
  rw [hC] at hns₁ hsb₁ ⊢
  rw [hHs]
  have old : ∀ b o, H.get? b = some o → h₁.get? b = some o := fun b o e => by
    have lt := Heap.lt_size e
    rw [hHs] at lt
    exact hsb₁.extBut b o (Nat.ne_of_lt (Nat.lt_succ_of_lt lt)) (Heap.get?_push_of_some _ (by rw [← hH2]; exact Heap.get?_push_of_some _ e))
  have hacc : h₁.get? (I + 1) = some (lst []) := hsb₁.extBut _ _ (Nat.ne_of_lt (Nat.lt_succ_self _)) (Heap.get?_push_of_some _ (by rw [← hH2, ← hHs]; exact Heap.get?_push_size _ rfl))
  have near : ∀ {b : Addr} {o : Obj}, s₁.heap.get? b = some o → b < I := fun e => by rw [← hI]; exact Heap.lt_size e
  have fresh₀ : ∀ a, I ≤ a → h₀.get? a = none := fun a ha => Heap.get?_none_of_le (Nat.le_trans F.above (Nat.le_trans (Nat.le_of_lt F.ns.lt) (hI ▸ ha)))
  have hD₀ : h₀.get? (I + 1) = none := fresh₀ _ (Nat.le_succ _)
  have hC₀ : h₀.get? (I + 1 + 1) = none := fresh₀ _ (Nat.le_succ_of_le (Nat.le_succ _))
  have hLI : L < I := by rw [← hI]; exact F.ns.lt
  have nlt : ∀ q ∈ news, q.1 < I := fun q hq => near (N q hq).1
  have offI : ∀ q ∈ news, q.1 ≠ I := fun q hq => Nat.ne_of_lt (nlt q hq)
  have offD : ∀ q ∈ news, q.1 ≠ I + 1 := fun q hq => Nat.ne_of_lt (Nat.lt_succ_of_lt (nlt q hq))
  have offC : ∀ q ∈ news, q.1 ≠ I + 1 + 1 := fun q hq => Nat.ne_of_lt (Nat.lt_succ_of_lt (Nat.lt_succ_of_lt (nlt q hq)))
  have hDL : I + 1 ≠ L := Ne.symm (Nat.ne_of_lt (Nat.lt_succ_of_lt hLI))
  have hCL : I + 1 + 1 ≠ L := Ne.symm (Nat.ne_of_lt (Nat.lt_succ_of_lt (Nat.lt_succ_of_lt hLI)))
  have hCD : I + 1 + 1 ≠ I + 1 := Ne.symm (Nat.ne_of_lt (Nat.lt_succ_self _))
  have hIC : I ≠ I + 1 + 1 := Nat.ne_of_lt (Nat.lt_succ_of_lt (Nat.lt_succ_self _))
  have hID : I ≠ I + 1 := Nat.ne_of_lt (Nat.lt_succ_self _)
  have h0I : ∀ {b : Addr} {o : Obj}, h₀.get? b = some o → b ≠ I := fun e => Nat.ne_of_lt (near (F.keep _ _ e))
  have haI : ax ≠ I := offI _ hax
  have W := Walks.list (prog := prog) (w := w) hh I ax haI its
  have hin3 : ∀ i < its.size, (inner i).size = 3 := fun i hi => let ⟨_, _, _, _, e⟩ := hin i hi; e
  have loop : ∀ s₃ : Shared, s₃ = { s₁ with heap := h₁, toks := s₁.toks + ([] : List (Str × Value)).length } →
      codeAny (model prog w) A (.compLoop (two (.Name y pe) (.Name x px) iter (.Name y py) (.Name x p2) scope pos) 0 (.ref I) (.ref (I + 1)) (compEnvC scope cl (I + 1 + 1) env)) (compPost (model prog w) A E none Q (.ref (I + 1)) (I + 1 + 1)) s₃ := by
    rintro s₃ rfl
    refine loop_two0
      (OutAt h₀ L I ax m news its inner s₁) ?_ (its.size + 1)
      (.mk h₁ _ 0 _ (Nat.zero_le _) (hI0.at fun o e => old _ _ e) (F.keeps fun b o e => old _ _ (up _ _ e)) hns₁ fun p hp => ?_)
    · intro kk s' hJ9
      refine OutAt.casesOn hJ9 ?_
      clear hJ9 s' kk
      intro h' tk i m' hi hI' F' hn' N'
      have zax' := N' _ (List.mem_cons_of_mem _ hax)
      have hla' : h'.IsList ax its := ⟨_, zax'.1, rfl, _, rfl⟩
      have next : ∀ h₂ : Heap, (∀ b o, b ∉ [I] → h'.get? b = some o → h₂.get? b = some o) → Fr h₀ L h₂ m ∧ h₂.Ns (I + 1 + 1) m' ∧ News h₀ L h₂ ((I + 1, lst ((List.range i).flatMap fun a => (inner a).toList)) :: news) := fun h₂ hk₂ => by
        have hk2 : ∀ b o, b ≠ I → h'.get? b = some o → h₂.get? b = some o := fun b o hb e => hk₂ b o (fun hm => hb (List.mem_singleton.mp hm)) e
        refine ⟨⟨F'.ns.at' fun o e => hk2 _ _ (Nat.ne_of_lt hLI) e, fun b o e => hk2 b o (h0I e) (F'.keep b o e), F'.above⟩, hn'.at' fun o e => hk2 _ _ (Ne.symm hIC) e, news_near N' hk2 fun q hq => ?_⟩
        rcases List.mem_cons.mp hq with rfl | hq
        · exact Ne.symm hID
        · exact offI q hq
      by_cases hlt : i < its.size
      · refine hide fun CC hCC => ?_
        obtain ⟨l, ki, hil, hlm, h3⟩ := hin i hlt
        refine hCC ?_
        clear hCC
        refine W.item i _ _ _ hlt ⟨hI', hla'⟩ fun v h₂ tk₂ hPv hst₂ hk₂ => ?_
        have hv : v = .ref l := Option.some.inj (hPv.symm.trans hil)
        subst hv
        refine and3 (next h₂ hk₂) fun F₂ hn₂ N₂ => ?_
        refine wpAny_assign_Name (wpAny_storeName_local (lookup_relabel_local hx) hn₂ (fun h₃ hn₃ hs₃ => ?_) (by simp [compEnvC, relabel, hkind]))
        refine ldVarK (v := .ref l) hn₃ (by simp) ?_ hkind (lookup_relabel_local hx) hxd
        refine inner_F (vs := inner i) (i := i + 1) (ys := (List.range i).flatMap fun a => (inner a).toList) (news := news) hh hkind hy hyd (hst₂.1.at fun o e => hs₃.extBut _ _ hIC e) (F₂.change hs₃ hCL hC₀) hn₃ (fun q hq => ?_) hlm hCL hDL hCD hC₀ hD₀ hIC hID offC offD ?_ ?_
        · refine ⟨hs₃.extBut _ _ ?_ (N₂ q hq).1, (N₂ q hq).2⟩
          rcases List.mem_cons.mp hq with rfl | hq
          · exact Ne.symm hCD
          · exact offC q hq
        · rw [flat_len hin3 i hi, h3, sizeLine_eq]; (first | lia | omega)
        · intro h₄ tk₄ m₄ hI₄ F₄ hn₄ N₄
          refine ⟨rfl, its.size + 1 - (i + 1), by (first | lia | omega), .mk h₄ tk₄ (i + 1) m₄ hlt hI₄ F₄ hn₄ ?_⟩
          rw [List.range_succ, List.flatMap_append]
          simp only [List.flatMap_cons, List.flatMap_nil, List.append_nil]
          exact N₄
      · have hie : i = its.size := by (first | lia | omega)
        subst hie
        refine W.done _ _ _ ⟨hI', hla'⟩ fun h₂ tk₂ hk₂ => ?_
        obtain ⟨F₂, hn₂, N₂⟩ := next h₂ hk₂
        refine ⟨m', hn₂, fun h₃ hs₃ => fin _ h₃ tk₂ (F₂.change hs₃ hCL hC₀) (fun q hq => ?_) offD⟩
        refine ⟨hs₃.extBut _ _ ?_ (N₂ q hq).1, (N₂ q hq).2⟩
        rcases List.mem_cons.mp hq with rfl | hq
        · exact Ne.symm hCD
        · exact offC q hq
    · rcases List.mem_cons.mp hp with rfl | hp
      · exact ⟨hacc, hDL, hD₀⟩
      · exact ⟨old _ _ (up _ _ (N p hp).1), (N p hp).2⟩
  exact codeAny_compStart_list (loop _ rfl) (W.self 0 _ _ _ ⟨hI0.at fun o e => old _ _ e, hla.at fun o e => old _ _ (up _ _ e)⟩ (loop _ rfl))
end
end
section

set_option Elab.async false
set_option maxRecDepth 100000
set_option maxHeartbeats 8000000
open PyProof.Rows.LCg
section
variable {prog : Program} {w : World} {A : Around} {E : Value → Shared → Prop} {s : Shared} {h₀ : Heap} {L : Addr} {m : Str → Option Value} {env : Env}
/-- an element that makes a number of a number -/
def IntEl (prog : Program) (w : World) (A : Around) (h₀ : Heap) (L : Addr) (m : Str → Option Value) (env : Env) (elt : PySem.Expr) (x : Str) (scope : Scope) (cl : List (Str × Addr)) (z r : Int) : Prop :=
  ∀ (s : Shared) t C oC m₂ all (E' : Value → Shared → Prop), NsObj oC m₂ → m₂ x = some (.int z t) → Fr h₀ L s.heap m → News h₀ L s.heap ((C, oC) :: all) →
    wpAny (model prog w) A (eval elt (compEnvC scope cl C env)) (fun v s' => (∃ t, v = .int r t) ∧ ∃ tk', s' = { s with toks := tk' }) E' s
/-- an element that makes an object of a number -/
def RefEl (prog : Program) (w : World) (A : Around) (h₀ : Heap) (L : Addr) (m : Str → Option Value) (env : Env) (elt : PySem.Expr) (x : Str) (scope : Scope) (cl : List (Str × Addr)) (z : Int) (P : Obj → Prop) : Prop :=
  ∀ (s : Shared) t C oC m₂ all (E' : Value → Shared → Prop), NsObj oC m₂ → m₂ x = some (.int z t) → Fr h₀ L s.heap m → News h₀ L s.heap all → (C, oC) ∈ all →
    wpAny (model prog w) A (eval elt (compEnvC scope cl C env)) (fun v s' => ∃ l o h' tk', v = .ref l ∧ P o ∧ s' = { s with heap := h', toks := tk' } ∧ Fr h₀ L h' m ∧ News h₀ L h' ((l, o) :: all) ∧ ∀ q ∈ all, q.1 ≠ l) E' s
theorem ints_rest {elt : PySem.Expr} {x : Str} {scope : Scope} {cl : List (Str × Addr)} {S : List (Addr × Obj) → Prop} {Fin : List Value → List (Addr × Obj) → Prop} {n : Nat} {z r : Nat → Int} {its : Array Value} {news : List (Addr × Obj)}
    (hsz : its.size = n) (hits : ∀ i < n, ∃ t, its[i]? = some (.int (z i) t)) (hS : S news) (el : ∀ i < n, IntEl prog w A h₀ L m env elt x scope cl (z i) (r i))
    (fin : ∀ ys : List Value, ys.length = n → (∀ i < n, ∃ t, ys[i]? = some (.int (r i) t)) → Fin ys news) :
    CompRest prog w A h₀ L m env elt x scope cl s S (fun i v => its[i]? = some v) Fin its.size 0 [] news := by
  have key : ∀ k i ys, i + k = n → ys.length = i → (∀ j < i, ∃ t, ys[j]? = some (.int (r j) t)) →
      CompRest prog w A h₀ L m env elt x scope cl s S (fun i v => its[i]? = some v) Fin k i ys news := by
    intro k
    induction k with
    | zero => intro i ys hi hl hy; exact fin ys (by (first | lia | omega)) (fun j hj => hy j (by (first | lia | omega)))
    | succ k ih =>
      intro i ys hi hl hy v I oI C oC D m₂ h tk E' hv hC hx F N off ne
      obtain ⟨t, ht⟩ := hits i (by (first | lia | omega))
      have hv' : v = .int (z i) t := Option.some.inj (hv.symm.trans ht)
      subst hv'
      have N2 : News h₀ L h ((C, oC) :: (D, lst ys) :: news) := fun p hp => N p (List.mem_cons_of_mem _ hp)
      refine wpAny_mono (el i (by (first | lia | omega)) { s with heap := h, toks := tk } t C oC m₂ _ E' hC hx F N2) (fun y s' hy' => ?_) fun _ _ e => e
      obtain ⟨⟨t', rfl⟩, tk', rfl⟩ := hy'
      refine ⟨h, tk', news, rfl, F, N, off, hS, ih (i + 1) _ (by (first | lia | omega)) (by rw [List.length_append, hl]; rfl) fun j hj => ?_⟩
      by_cases hji : j < i
      · rw [List.getElem?_append_left (by (first | lia | omega))]; exact hy j hji
      · obtain rfl : j = i := by (first | lia | omega)
        rw [List.getElem?_append_right (by (first | lia | omega)), hl, Nat.sub_self]
        exact ⟨t', rfl⟩
  rw [hsz]
  exact key n 0 [] (by (first | lia | omega)) rfl fun j hj => absurd hj (Nat.not_lt_zero _)
theorem refs_rest {elt : PySem.Expr} {x : Str} {scope : Scope} {cl : List (Str × Addr)} {S : List (Addr × Obj) → Prop} {Fin : List Value → List (Addr × Obj) → Prop} {n : Nat} {z : Nat → Int} {P : Nat → Obj → Prop} {its : Array Value} {news : List (Addr × Obj)}
    (hsz : its.size = n) (hits : ∀ i < n, ∃ t, its[i]? = some (.int (z i) t)) (hS : ∀ X, S (X ++ news)) (el : ∀ i < n, RefEl prog w A h₀ L m env elt x scope cl (z i) (P i))
    (fin : ∀ (ys : List Value) X, ys.length = n → (∀ i < n, ∃ l o, ys[i]? = some (.ref l) ∧ (l, o) ∈ X ∧ P i o) → (∀ q ∈ X, ∀ p ∈ news, p.1 ≠ q.1) → Fin ys (X ++ news)) :
    CompRest prog w A h₀ L m env elt x scope cl s S (fun i v => its[i]? = some v) Fin its.size 0 [] news := by
  have key : ∀ k i ys X, i + k = n → ys.length = i → (∀ j < i, ∃ l o, ys[j]? = some (.ref l) ∧ (l, o) ∈ X ∧ P j o) → (∀ q ∈ X, ∀ p ∈ news, p.1 ≠ q.1) →
      CompRest prog w A h₀ L m env elt x scope cl s S (fun i v => its[i]? = some v) Fin k i ys (X ++ news) := by
    intro k
    induction k with
    | zero => intro i ys X hi hl hy hX; exact fin ys X (by (first | lia | omega)) (fun j hj => hy j (by (first | lia | omega))) hX
    | succ k ih =>
      intro i ys X hi hl hy hX v I oI C oC D m₂ h tk E' hv hC hx F N off ne
      obtain ⟨t, ht⟩ := hits i (by (first | lia | omega))
      have hv' : v = .int (z i) t := Option.some.inj (hv.symm.trans ht)
      subst hv'
      refine wpAny_mono (el i (by (first | lia | omega)) { s with heap := h, toks := tk } t C oC m₂ _ E' hC hx F N (List.mem_cons_of_mem _ List.mem_cons_self)) (fun y s' hy' => ?_) fun _ _ e => e
      obtain ⟨l, o, h', tk', rfl, hP, rfl, F', N', ne'⟩ := hy'
      have offm := off.mem
      refine ⟨h', tk', (l, o) :: (X ++ news), rfl, F', fun p hp => N' p ?_, Off3.of fun p hp => ?_, hS ((l, o) :: X), ih (i + 1) _ ((l, o) :: X) (by (first | lia | omega)) (by rw [List.length_append, hl]; rfl) (fun j hj => ?_) fun q hq p hp => ?_⟩
      · simp only [List.mem_cons] at hp ⊢
        rcases hp with hp | hp | hp | hp | hp
        · exact .inr (.inl hp)
        · exact .inr (.inr (.inl hp))
        · exact .inr (.inr (.inr (.inl hp)))
        · exact .inl hp
        · exact .inr (.inr (.inr (.inr hp)))
      · rcases List.mem_cons.mp hp with rfl | hp
        · exact ⟨(ne' _ List.mem_cons_self).symm, (ne' _ (List.mem_cons_of_mem _ List.mem_cons_self)).symm, (ne' _ (List.mem_cons_of_mem _ (List.mem_cons_of_mem _ List.mem_cons_self))).symm⟩
        · exact offm p hp
      · by_cases hji : j < i
        · rw [List.getElem?_append_left (by (first | lia | omega))]
          obtain ⟨l', o', a, b, c⟩ := hy j hji
          exact ⟨l', o', a, List.mem_cons_of_mem _ b, c⟩
        · obtain rfl : j = i := by (first | lia | omega)
          rw [List.getElem?_append_right (by (first | lia | omega)), hl, Nat.sub_self]
          exact ⟨l, o, rfl, List.mem_cons_self, hP⟩
      · rcases List.mem_cons.mp hq with rfl | hq
        · exact ne' p (List.mem_cons_of_mem _ (List.mem_cons_of_mem _ (List.mem_cons_of_mem _ (List.mem_append_right _ hp))))
        · exact hX q hq p hp
  rw [hsz]
  exact key n 0 [] [] (by (first | lia | omega)) rfl (fun j hj => absurd hj (Nat.not_lt_zero _)) fun q hq => nomatch hq
end
end
section
open PyProof.V
set_option Elab.async false
set_option maxRecDepth 100000
set_option maxHeartbeats 8000000
def cY (Y : Nat → Nat) (i : Nat) : Nat := Y i % 3
def lY (Y : Nat → Nat) (i : Nat) : Nat := Y i / 3 % 100
def hY (Y : Nat → Nat) (i : Nat) : Nat := Y i / 3 % 100 + (1 + Y i / 300 % 100)
def wY (Y : Nat → Nat) (i : Nat) : Int := Int.fdiv (Y i : Int) 3 - 1000
theorem hY_lt (Y : Nat → Nat) (i : Nat) : hY Y i < 256 := by unfold hY; (first | lia | omega)
theorem lY_lt (Y : Nat → Nat) (i : Nat) : lY Y i < hY Y i := by unfold lY hY; (first | lia | omega)
theorem cY_lt (Y : Nat → Nat) (i : Nat) : cY Y i < 3 := Nat.mod_lt _ (by decide)
theorem wY_abs {Y : Nat → Nat} (h : ∀ i, Y i < 10 ^ 9) (i : Nat) : (wY Y i).natAbs < 2 ^ 32 := by
  have := h i
  unfold wY
  rw [show Int.fdiv (Y i : Int) 3 = ((Y i / 3 : Nat) : Int) from fdiv_nat (Y i) 3]
  (first | lia | omega)
theorem light_lt (Y : Nat → Nat) (i k : Nat) : lightAt (cY Y i) (lY Y i) (hY Y i) k < 256 := by
  have h1 := hY_lt Y i
  have h2 := lY_lt Y i
  unfold lightAt
  split <;> (first | lia | omega)
theorem ints_at : ∀ {vs : List Value} {ns : List Int}, IntsAre vs ns → ∀ i (h : i < ns.length), ∃ t, vs[i]? = some (.int ns[i] t)
  | _, _, .cons n t r, 0, h => ⟨t, rfl⟩
  | _, _, .cons n t r, i + 1, h => by
    obtain ⟨u, hu⟩ := ints_at r i (by simpa using h)
    exact ⟨u, by simpa using hu⟩
theorem numbers_of {ys : List Value} {l : List Int} (h : IntsAre ys (List.map (fun k' => Int.fmod k' (10 ^ Int.toNat 9)) l)) (h5 : 5 ≤ l.length) (h6 : l.length ≤ 6) :
    ∃ (n : Nat) (Y : Nat → Nat), 5 ≤ n ∧ n ≤ 6 ∧ ys.length = n ∧ (∀ i, Y i < 10 ^ 9) ∧ ∀ i < n, ∃ t, ys[i]? = some (.int ((Y i : Nat) : Int) t) := by
  refine ⟨l.length, fun i => (Int.fmod (l.getD i 0) (10 ^ 9)).toNat, h5, h6, by rw [h.length, List.length_map], fun i => ?_, fun i hi => ?_⟩
  · have h1 : Int.fmod (l.getD i 0) (10 ^ 9) < 10 ^ 9 := Int.fmod_lt_of_pos _ (by decide)
    have h0 : 0 ≤ Int.fmod (l.getD i 0) (10 ^ 9) := Int.fmod_nonneg_of_pos _ (by decide)
    show (Int.fmod (l.getD i 0) (10 ^ 9)).toNat < 10 ^ 9
    (first | lia | omega)
  · obtain ⟨t, ht⟩ := ints_at h i (by rw [List.length_map]; exact hi)
    refine ⟨t, ?_⟩
    rw [ht]
    congr 2
    rw [List.getElem_map]
    have h0 : 0 ≤ Int.fmod (l.getD i 0) (10 ^ 9) := Int.fmod_nonneg_of_pos _ (by decide)
    rw [Int.toNat_of_nonneg h0]
    simp [List.getD_eq_getElem?_getD, List.getElem?_eq_getElem hi]
theorem len_src (zs : List Int) : 5 ≤ (List.take 6 zs ++ List.drop (Int.toNat (zs.length : Int)) [3003, 3007, 2997, 3010, 3008]).length ∧ (List.take 6 zs ++ List.drop (Int.toNat (zs.length : Int)) [3003, 3007, 2997, 3010, 3008]).length ≤ 6 := by
  simp only [List.length_append, List.length_take, List.length_drop, List.length_cons, List.length_nil, Int.toNat_natCast]
  (first | lia | omega)
/-- a light's object -/
def LObj (Y : Nat → Nat) (i : Nat) (o : Obj) : Prop := ∃ t0 t1 t2 k, o = { cls := .type "list", data := .seq #[.int (lightAt (cY Y i) (lY Y i) (hY Y i) 0 : Nat) t0, .int (lightAt (cY Y i) (lY Y i) (hY Y i) 1 : Nat) t1, .int (lightAt (cY Y i) (lY Y i) (hY Y i) 2 : Nat) t2] k }
def three (Y : Nat → Nat) (i : Nat) : List Int := [(lightAt (cY Y i) (lY Y i) (hY Y i) 0 : Nat), (lightAt (cY Y i) (lY Y i) (hY Y i) 1 : Nat), (lightAt (cY Y i) (lY Y i) (hY Y i) 2 : Nat)]
theorem inner_of {Y : Nat → Nat} {n : Nat} {ys : List Value} {X : List (Addr × Obj)} (h : ∀ i < n, ∃ l o, ys[i]? = some (.ref l) ∧ (l, o) ∈ X ∧ LObj Y i o) :
    ∃ inner : Nat → Array Value, (∀ i < n, ∃ l k, ys[i]? = some (.ref l) ∧ (l, ({ cls := .type "list", data := .seq (inner i) k } : Obj)) ∈ X ∧ (inner i).size = 3) ∧ ∀ i < n, IntsAre (inner i).toList (three Y i) := by
  have key : ∀ i, ∃ A : Array Value, i < n → (∃ l k, ys[i]? = some (.ref l) ∧ (l, ({ cls := .type "list", data := .seq A k } : Obj)) ∈ X ∧ A.size = 3) ∧ IntsAre A.toList (three Y i) := by
    intro i
    by_cases hi : i < n
    · obtain ⟨l, o, h1, h2, t0, t1, t2, k, rfl⟩ := h i hi
      exact ⟨_, fun _ => ⟨⟨l, k, h1, h2, rfl⟩, .cons _ _ (.cons _ _ (.cons _ _ .nil))⟩⟩
    · exact ⟨#[], fun h => absurd h hi⟩
  obtain ⟨inner, hin⟩ := Classical.skolem.mp key
  exact ⟨inner, fun i hi => (hin i hi).1, fun i hi => (hin i hi).2⟩
theorem flat_ints {Y : Nat → Nat} {inner : Nat → Array Value} {n : Nat} (h : ∀ i < n, IntsAre (inner i).toList (three Y i)) : ∀ i ≤ n, IntsAre ((List.range i).flatMap fun a => (inner a).toList) ((List.range i).flatMap (three Y)) := by
  intro i
  induction i with
  | zero => intro _; exact .nil
  | succ i ih =>
    intro hi
    rw [List.range_succ, List.flatMap_append, List.flatMap_append]
    refine (ih (by (first | lia | omega))).append ?_
    simpa using h i (by (first | lia | omega))
theorem flat_len3 (Y : Nat → Nat) (n : Nat) : ((List.range n).flatMap (three Y)).length = 3 * n := by
  induction n with
  | zero => rfl
  | succ n ih =>
    rw [List.range_succ, List.flatMap_append, List.length_append, ih]
    simp [three]
    (first | lia | omega)
theorem flat_get (Y : Nat → Nat) {n i k : Nat} (hi : i < n) (hk : k < 3) : ((List.range n).flatMap (three Y))[3 * i + k]? = some ((lightAt (cY Y i) (lY Y i) (hY Y i) k : Nat) : Int) := by
  induction n with
  | zero => (first | lia | omega)
  | succ n ih =>
    rw [List.range_succ, List.flatMap_append]
    by_cases hin : i < n
    · rw [List.getElem?_append_left (by rw [flat_len3]; (first | lia | omega))]
      exact ih hin
    · obtain rfl : i = n := by (first | lia | omega)
      rw [List.getElem?_append_right (by rw [flat_len3]; (first | lia | omega)), flat_len3]
      simp only [List.flatMap_cons, List.flatMap_nil, List.append_nil]
      rw [show 3 * i + k - 3 * i = k by (first | lia | omega)]
      match k, hk with
      | 0, _ => rfl
      | 1, _ => rfl
      | 2, _ => rfl
theorem flat_in (Y : Nat → Nat) (n : Nat) : ∀ z ∈ (List.range n).flatMap (three Y), 0 ≤ z ∧ z < 256 := by
  intro z hz
  obtain ⟨i, _, h⟩ := List.mem_flatMap.mp hz
  simp only [three, List.mem_cons, List.not_mem_nil, or_false] at h
  have h0 := light_lt Y i 0
  have h1 := light_lt Y i 1
  have h2 := light_lt Y i 2
  rcases h with rfl | rfl | rfl <;> (first | lia | omega)
def filmOf (Y : Nat → Nat) (n : Nat) : Array UInt8 := (((List.range n).flatMap (three Y)).map fun z => z.toNat.toUInt8).toArray
theorem film_size (Y : Nat → Nat) (n : Nat) : (filmOf Y n).size = 3 * n := by
  rw [filmOf, List.size_toArray, List.length_map, flat_len3]
theorem film_get (Y : Nat → Nat) {n i k : Nat} (hi : i < n) (hk : k < 3) : ((filmOf Y n).getD (3 * i + k) 0).toNat = lightAt (cY Y i) (lY Y i) (hY Y i) k := by
  have hl := light_lt Y i k
  rw [Array.getD_eq_getD_getElem?, filmOf, List.getElem?_toArray, List.getElem?_map, flat_get Y hi hk]
  simp only [Option.map_some, Option.getD_some, Int.toNat_natCast]
  rw [Nat.toUInt8, UInt8.toNat_ofNat']
  (first | lia | omega)
theorem light_turn (c lo hi k : Nat) (hc : c < 3) (hk : k < 3) : lightAt c lo hi (2 - k) = lightAt (2 - c) lo hi k := by
  unfold lightAt
  by_cases h : k = 2 - c
  · rw [if_pos h, if_pos (by (first | lia | omega))]
  · rw [if_neg h, if_neg (by (first | lia | omega))]
theorem row_of {Y : Nat → Nat} {n : Nat} {ws : List Value} (h5 : 5 ≤ n) (h6 : n ≤ 6) (hYs : ∀ i, Y i < 10 ^ 9) (hl : ws.length = n) (hw : ∀ i < n, ∃ t, ws[i]? = some (.int (wY Y i) t)) :
    Row n (mc n (cY Y)) (mn n (lY Y)) (mn n (hY Y)) (mw n (wY Y)) (filmOf Y n).reverse ws.reverse.toArray where
  n1 := by (first | lia | omega)
  n8 := by (first | lia | omega)
  c3 := fun i => mc3 i
  lh := fun i => lY_lt Y _
  h8 := fun i => hY_lt Y _
  wb := fun i => wY_abs hYs _
  size := by rw [Array.size_reverse, film_size]
  film := fun i hi k hk => by
    have e : ((filmOf Y n).reverse.getD (3 * i + k) 0) = (filmOf Y n).getD (3 * (n - 1 - i) + (2 - k)) 0 := by
      rw [Array.getD_eq_getD_getElem?, Array.getD_eq_getD_getElem?, Array.getElem?_reverse (by rw [film_size]; (first | lia | omega)), film_size]
      congr 2
      (first | lia | omega)
    rw [e, film_get Y (by (first | lia | omega)) (by (first | lia | omega))]
    exact light_turn _ _ _ _ (cY_lt Y _) hk
  wsize := by rw [List.size_toArray, List.length_reverse, hl]
  worth := fun i hi => by
    obtain ⟨t, ht⟩ := hw (n - 1 - i) (by (first | lia | omega))
    refine ⟨t, ?_⟩
    rw [List.getElem?_toArray, List.getElem?_reverse (by (first | lia | omega)), hl, ht]
    rfl
theorem drow_of {Y : Nat → Nat} {n : Nat} {cs ws ls : List Value} {led : List (Addr × Obj)} (h5 : 5 ≤ n) (h6 : n ≤ 6) (hYs : ∀ i, Y i < 10 ^ 9) (hcl : cs.length = n) (hc : ∀ i < n, ∃ t, cs[i]? = some (.int (Int.fmod (Y i : Int) 3) t))
    (hl : ws.length = n) (hw : ∀ i < n, ∃ t, ws[i]? = some (.int (wY Y i) t)) (hll : ls.length = n) (hL : ∀ i < n, ∃ l o, ls[i]? = some (.ref l) ∧ (l, o) ∈ led ∧ LObj Y i o) :
    DRow n (cY Y) (lY Y) (hY Y) (wY Y) cs.toArray ws.toArray ls.toArray led where
  n1 := by (first | lia | omega)
  n8 := by (first | lia | omega)
  c3 := cY_lt Y
  lh := lY_lt Y
  h8 := hY_lt Y
  wb := wY_abs hYs
  csize := by rw [List.size_toArray, hcl]
  corner := fun i hi => by
    obtain ⟨t, ht⟩ := hc i hi
    exact ⟨t, by rw [List.getElem?_toArray, ht, show Int.fmod (Y i : Int) 3 = ((Y i % 3 : Nat) : Int) from fmod_nat (Y i) 3]; rfl⟩
  wsize := by rw [List.size_toArray, hl]
  worth := fun i hi => by
    obtain ⟨t, ht⟩ := hw i hi
    exact ⟨t, by rw [List.getElem?_toArray, ht]⟩
  lsize := by rw [List.size_toArray, hll]
  light := fun i hi => by
    obtain ⟨l, o, h1, h2, t0, t1, t2, k, rfl⟩ := hL i hi
    exact ⟨l, t0, t1, t2, k, by rw [List.getElem?_toArray, h1], h2⟩
end
section
open PyProof.V
set_option Elab.async false
set_option maxRecDepth 100000
set_option maxHeartbeats 8000000
section
variable {prog : Program} {w : World} {K : Type} [DecidableEq K] {knd : KeyKind prog w K} {A : Around} {E : Value → Shared → Prop} {s : Shared}
/-- two values are told equal here -/
def EqHere (prog : Program) (w : World) (A : Around) (s : Shared) (v y : Value) : Prop :=
  ∀ (E : Value → Shared → Prop) (Q : Bool → Shared → Prop), Q true s → wpAny (model prog w) A (eqBool v y) Q E s
theorem same_dicts {nm : String} {a b : Addr} {ka kb : List (K × Value)} {Q : Bool → Shared → Prop} (ha : (a == sysModules) = false) (hb : (b == sysModules) = false)
    (da : s.heap.DictOf knd a ka) (db : s.heap.DictOf knd b kb) (hl : ka.length = kb.length) (hits : ∀ (i : Nat) k v, ka[i]? = some (k, v) → ∃ y, valueAt kb k = some y ∧ EqHere prog w A s v y) (h : Q true s) :
    wpAny (model prog w) A (Builtin.Dict.samePairs nm a b) Q E s := by
  obtain ⟨oa, ea, pa, ga, _, dda, keya, pra, _⟩ := da
  obtain ⟨ob, eb, pb, gb, _, ddb, keyb, prb, _⟩ := db
  have sa : ea.size = ka.length := by rw [← pra.length]; exact Array.length_toList.symm
  have sb : eb.size = kb.length := by rw [← prb.length]; exact Array.length_toList.symm
  have look : ∀ k, findBy knd.is eb k = valueAt kb k := fun k => by
    have := prb.find k
    rw [← this]
    cases eb
    simp [findBy]
  unfold Builtin.Dict.samePairs Builtin.Dict.showsAll
  simp only [ha, hb, Bool.false_eq_true, if_false]
  refine wpAny_bind (wpAny_pure (wpAny_bind (wpAny_pure (wpAny_bind (wpAny_dictEntries ga dda ?_)))))
  refine wpAny_bind (wpAny_dictEntries gb ddb ?_)
  rw [if_neg (by rw [sa, sb, hl]; simp)]
  refine wpAny_bind (wpAny_dictEpoch ga dda (wpAny_bind ?_))
  rw [Std.Legacy.Range.forIn_eq_forIn_range']
  simp only [Std.Legacy.Range.size, Nat.sub_zero, Nat.add_sub_cancel, Nat.div_one]
  refine wpAny_forIn_list _ (fun rest q s' => s' = s ∧ q = (none, ()) ∧ ∃ i, rest = List.range' i (ea.size - i) ∧ i ≤ ea.size) _ ?_ ?_ _ _ ⟨rfl, rfl, 0, by simp, Nat.zero_le _⟩
  · rintro x rest q s' ⟨rfl, rfl, i, hr, hi⟩
    have hlt : i < ea.size := by
      rcases Nat.lt_or_ge i ea.size with h | h
      · exact h
      · rw [Nat.sub_eq_zero_of_le h] at hr; simp at hr
    rw [show ea.size - i = (ea.size - (i + 1)) + 1 by (first | lia | omega), List.range'_succ] at hr
    injection hr with h1 h2
    subst h1
    refine wpAny_bind (wpAny_dictEntries ga dda ?_)
    rw [Array.getElem?_eq_getElem hlt]
    have hlt' : x < ka.length := by (first | lia | omega)
    obtain ⟨k, v, hkv⟩ : ∃ k v, ka[x]? = some (k, v) := ⟨_, _, List.getElem?_eq_getElem hlt'⟩
    obtain ⟨hkey, hval⟩ := pra.get? (i := x) (e := ea[x]) (k := k) (v := v) (by rw [Array.getElem?_toList]; exact Array.getElem?_eq_getElem hlt) hkv
    obtain ⟨k', hk', hh⟩ := keya ea[x] (Array.getElem_mem hlt)
    obtain rfl : k' = k := knd.inj _ _ _ hk' hkey
    obtain ⟨y, hy, he⟩ := hits x k' v hkv
    show wpAny _ _ (holding [ea[x].key, ea[x].val] _ >>= _) _ _ _
    rw [hh]
    refine wpAny_bind (wpAny_holding (wpAny_bind (wpAny_dictFind_of hkey gb ddb keyb ?_)))
    cases hj : eb.findIdx? fun e => knd.is k' e.key with
    | none =>
      have hn : valueAt kb k' = none := by rw [← look k', findBy_of_findIdx?, hj]
      rw [hn] at hy; cases hy
    | some j =>
      obtain ⟨hjlt, _, _⟩ := Array.findIdx?_eq_some_iff_getElem.mp hj
      have hv' : valueAt kb k' = some eb[j].val := by
        rw [← look k', findBy_of_findIdx?, hj]
        simp [Array.getElem?_eq_getElem hjlt]
      refine wpAny_bind (wpAny_dictEntries gb ddb ?_)
      rw [Array.getElem?_eq_getElem hjlt]
      have ey : eb[j].val = y := Option.some.inj (hv'.symm.trans hy)
      rw [← ey, ← hval] at he
      refine wpAny_holding (he _ _ ?_)
      show wpAny _ _ (if (!true) = true then _ else _) _ _ _
      rw [if_neg (by decide)]
      refine wpAny_bind (wpAny_dictEpoch ga dda ?_)
      rw [if_neg (by simp)]
      exact wpAny_pure ⟨rfl, rfl, x + 1, h2, hlt⟩
  · rintro q s' ⟨rfl, rfl, i, hr, hi⟩
    exact wpAny_pure h
theorem eq_dicts {a b : Addr} {ka kb : List (K × Value)} {Q : Value → Shared → Prop} (ha : (a == sysModules) = false) (hb : (b == sysModules) = false)
    (da : s.heap.DictOf knd a ka) (db : s.heap.DictOf knd b kb) (hu : A.units < cLine) (hl : ka.length = kb.length) (hits : ∀ (i : Nat) k v, ka[i]? = some (k, v) → ∃ y, valueAt kb k = some y ∧ EqHere prog w A.in1 s v y) (h : Q (.bool true) s) :
    wpAny (model prog w) A (compareOp .Eq (.ref a) (.ref b)) Q E s := by
  refine wpAny_richCompare_same_room (op := .Eq) da.typeIs db.typeIs PySem.F.slot_dict_eq (wpAny_call_entry PySem.F.slot_dict_eq da.typeIs PySem.F.entry_dict_eq ?_ (PySem.F.args_dict_eq_2 _ _)) hu
  show wpAny _ _ (Builtin.Dict.dictSlotArgs "__eq__" ⟨[.ref a, .ref b], []⟩ >>= _) _ _ s
  refine wpAny_bind ?_
  unfold Builtin.Dict.dictSlotArgs
  refine wpAny_bind (wpAny_notOrdered_dict da.typeIs ?_)
  show wpAny _ _ (pure (Value.ref a, Value.ref b)) _ _ s
  refine wpAny_pure (wpAny_bind (wpAny_isInstance (T := "dict") db.typeIs PySem.F.sub_dict_dict ?_))
  simp only [Bool.not_true, Bool.false_eq_true, if_false]
  refine wpAny_bind (wpAny_pure (wpAny_bind (wpAny_pure (wpAny_bind (same_dicts ha hb da db hl hits ?_)))))
  refine wpAny_pure ⟨_, rfl, ?_, ?_⟩
  · exact fun x => nomatch x
  · simpa using h
theorem here_dicts {a b : Addr} {ka kb : List (K × Value)} (ha : (a == sysModules) = false) (hb : (b == sysModules) = false)
    (da : s.heap.DictOf knd a ka) (db : s.heap.DictOf knd b kb) (hu : A.units < cLine) (hl : ka.length = kb.length) (hits : ∀ (i : Nat) k v, ka[i]? = some (k, v) → ∃ y, valueAt kb k = some y ∧ EqHere prog w A.in1 s v y) : EqHere prog w A s (.ref a) (.ref b) := by
  intro E Q h
  by_cases hab : a = b
  · subst hab; exact SeqAt.EqAt.same _ prog w E Q h
  · unfold eqBool
    refine wpAny_holding (wpAny_ite_split (fun e => absurd (by have := eq_of_beq e; injection this) hab) fun _ => ?_)
    exact wpAny_bind (eq_dicts ha hb da db hu hl hits (wpAny_truthy_bool h))
end
/-- two entries that say the same are told equal -/
theorem here_ent {prog : Program} {w : World} {A : Around} {s : Shared} {h₀ : Heap} {L : Addr} {a b : Addr} {n k : Nat} {Y : List (Addr × Obj)} {x y z : Int} {t0 t1 t2 u0 u1 u2 : Tok} (N : News h₀ L s.heap Y) (hu : A.in1.units + 64 < cLine)
    (ha : (a, tup [.int x t0, .int y t1, .int z t2] n) ∈ Y) (hb : (b, tup [.int x u0, .int y u1, .int z u2] k) ∈ Y) : EqHere prog w A.in1 s (.ref a) (.ref b) := by
  have ra : Reads s.heap (.ref a) (.tuple [.int x, .int y, .int z]) _ := reads_tuple_at (N.get ha) rfl rfl (ReadsAll.cons (Reads.int _ _) (ReadsAll.cons (Reads.int _ _) (ReadsAll.cons (Reads.int _ _) ReadsAll.nil)))
  have rb : Reads s.heap (.ref b) (.tuple [.int x, .int y, .int z]) _ := reads_tuple_at (N.get hb) rfl rfl (ReadsAll.cons (Reads.int _ _) (ReadsAll.cons (Reads.int _ _) (ReadsAll.cons (Reads.int _ _) ReadsAll.nil)))
  have h := keq_at (A := A) ra rb (by rfl) (by rfl) hu
  have e : PyData.eqv (.tuple [.int x, .int y, .int z]) (.tuple [.int x, .int y, .int z]) = true := by simp [PyData.eqv, PyData.eqvAll]
  rw [e] at h
  exact fun E Q hq => h prog w E Q hq
end
section
open PyProof.V
set_option Elab.async false
set_option maxRecDepth 100000
set_option maxHeartbeats 8000000
theorem keys_le {K : Type} [DecidableEq K] {ka kb : List (K × Value)} (hn : (ka.map (·.1)).Nodup) (h : ∀ k v, valueAt ka k = some v → ∃ y, valueAt kb k = some y) : ka.length ≤ kb.length := by
  rw [← List.length_map (f := (·.1)) (as := ka), ← List.length_map (f := (·.1)) (as := kb)]
  refine List.Nodup.length_le_of_subset hn fun k hk => ?_
  obtain ⟨q, hq, rfl⟩ := List.mem_map.mp hk
  obtain ⟨i, hi⟩ := List.mem_iff_getElem?.mp hq
  obtain ⟨y, hy⟩ := h q.1 q.2 (valueAt_of_get hn (i := i) (by rw [hi]))
  by_cases hm : q.1 ∈ kb.map (·.1)
  · exact hm
  · rw [valueAt_none_of_not_mem hm] at hy; cases hy
theorem ent_here {w : World} {A : Around} {s : Shared} {h₀ : Heap} {L : Addr} {all X Y : List (Addr × Obj)} {d d' : Addr} {x x' : Str} {e : Option T3} (N : News h₀ L s.heap all) (hX : ∀ q ∈ X, q ∈ all) (hY : ∀ q ∈ Y, q ∈ all)
    (hu : A.units < cLine) (hu2 : A.in1.units + 64 < cLine) (h : Ent w X d x e) (h' : Ent w Y d' x' e) (hx : ∀ t, e = some t → x = x') : EqHere PySem.Challenge.rw_zn0010_01.row.prog w A s (.ref d) (.ref d') := by
  obtain ⟨o, m, l, h0, h1⟩ := h
  obtain ⟨o', m', l', h0', h1'⟩ := h'
  cases e with
  | none =>
    exact here_dicts l l' (Heap.dictOf_iff.mpr ⟨o, N.get (hX _ m), h0 rfl⟩) (Heap.dictOf_iff.mpr ⟨o', N.get (hY _ m'), h0' rfl⟩) hu rfl fun i k v hi => by simp at hi
  | some t =>
    obtain ⟨a, n, u0, u1, u2, q, r⟩ := h1 t rfl
    obtain ⟨a', n', u0', u1', u2', q', r'⟩ := h1' t rfl
    obtain rfl := hx t rfl
    refine here_dicts l l' (Heap.dictOf_iff.mpr ⟨o, N.get (hX _ m), q⟩) (Heap.dictOf_iff.mpr ⟨o', N.get (hY _ m'), q'⟩) hu rfl fun i k v hi => ?_
    match i, hi with
    | 0, hi =>
      cases hi
      exact ⟨_, by simp [valueAt], here_ent N hu2 (hX _ r) (hY _ r')⟩
    | i + 1, hi => simp at hi
theorem told_due {w : World} {A : Around} {E : Value → Shared → Prop} {s : Shared} {h₀ : Heap} {L : Addr} {all X Y : List (Addr × Obj)} {T D : Addr} {oT oD : Obj} {ka kb : List (Int × Value)} {n : Nat} {c lo hi : Nat → Nat} {wv : Nat → Int} {Q : Value → Shared → Prop}
    (hc : ∀ i, c i < 3) (N : News h₀ L s.heap all) (mT : (T, oT) ∈ all) (mD : (D, oD) ∈ all) (hX : ∀ q ∈ X, q ∈ all) (hY : ∀ q ∈ Y, q ∈ all) (lT : (T == sysModules) = false) (lD : (D == sysModules) = false)
    (dT : oT.IsDictOf (intKind PySem.Challenge.rw_zn0010_01.row.prog w) ka) (dD : oD.IsDictOf (intKind PySem.Challenge.rw_zn0010_01.row.prog w) kb)
    (iT : TabInv w X ka (mc n c) (mn n lo) (mn n hi) (mw n wv) (fun i j => i < j ∧ j ≤ n)) (iD : TabE w Y kb (fun a b => dtx c lo hi (n - b) (n - a)) (fun a b => dent c wv (b - a) (n - b)) (fun a b => a < b ∧ b ≤ n))
    (hu0 : A.units < cLine) (hu1 : A.in1.units < cLine) (hu2 : A.in1.in1.units + 64 < cLine) (h : Q (.bool true) s) :
    wpAny (model PySem.Challenge.rw_zn0010_01.row.prog w) A (compareOp .Eq (.ref T) (.ref D)) Q E s := by
  have nT : (ka.map (·.1)).Nodup := let ⟨_, _, _, _, _, _, e⟩ := dT; e
  have nD : (kb.map (·.1)).Nodup := let ⟨_, _, _, _, _, _, e⟩ := dD; e
  have hl : ka.length = kb.length := by
    refine Nat.le_antisymm (keys_le nT fun k v hv => ?_) (keys_le nD fun k v hv => ?_)
    · obtain ⟨i, j, hij, rfl⟩ := iT.2 k v hv
      obtain ⟨d, hd, _⟩ := iD.1 i j hij
      exact ⟨_, hd⟩
    · obtain ⟨i, j, hij, rfl⟩ := iD.2 k v hv
      obtain ⟨d, hd, _⟩ := iT.1 i j hij
      exact ⟨_, hd⟩
  refine eq_dicts lT lD (Heap.dictOf_iff.mpr ⟨oT, N.get mT, dT⟩) (Heap.dictOf_iff.mpr ⟨oD, N.get mD, dD⟩) hu0 hl (fun i k v hki => ?_) h
  have hv := valueAt_of_get nT hki
  obtain ⟨a, b, hab, rfl⟩ := iT.2 k v hv
  obtain ⟨d, hd, ed⟩ := iT.1 a b hab
  obtain ⟨d', hd', ed'⟩ := iD.1 a b hab
  have e1 : v = .ref d := Option.some.inj (hv.symm.trans hd)
  subst e1
  refine ⟨_, hd', ?_⟩
  obtain ⟨h1, h2⟩ := hab
  obtain ⟨z, hz⟩ : ∃ z, b - a = z + 1 := ⟨b - a - 1, by (first | lia | omega)⟩
  have hb : (n - b) + (z + 1) ≤ n := by (first | lia | omega)
  have ha : n - ((n - b) + (z + 1)) = a := by (first | lia | omega)
  have k1 := tbs_due (n := n) hc wv z (n - b) hb
  rw [ha] at k1
  rw [hz, k1] at ed
  dsimp only at ed'
  rw [hz] at ed'
  refine ent_here (A := A.in1) N hX hY hu1 hu2 ed ed' fun t ht => ?_
  have k2 := txt_due (n := n) (lo := lo) (hi := hi) hc wv z (n - b) hb ht
  rw [ha, show a + (z + 1) = b by (first | lia | omega), show n - b + (z + 1) = n - a by (first | lia | omega)] at k2
  exact k2
end
section

set_option Elab.async false
set_option maxRecDepth 100000
set_option maxHeartbeats 8000000

local macro_rules | `(tactic| walk_at "slice_ints") => `(tactic| (k_dflt (refine' kmk_slice_ints ?F ?N ?l ?p ?q ?i ?m ?c ?_ ?s ?t ?z; (case F => k_asm); (case N => k_asm); (case l => kmk_list); (case p => kmk_part); (case q => kmk_part); (case i => l_ints); (case m => exact kmk_from (by l_ints) (Int.natCast_nonneg _)); (case c => kmk_len); (case s => with_unfolding_all rfl); (case t => kmk_pure); (case z => kmk_size)); intro D' ws' h' F' N' l1 hI' hC' hL'; (try k_lt l1)))
section
variable {prog : Program} {w : World} {s : Shared} {H : Heap} {R : Result → Shared → Prop}
theorem codeC.top {name : Str} {params : Arguments} {body : List Stmt} {scope : Scope} {dV kV pm cd doc : Value} {f : Addr} {o : Obj} {args : Args} {binds : List (Str × Value)}
    (hk : ∀ b o, H.get? b = some o → s.heap.get? b = some o) (hsz : H.objs.size ≤ s.heap.objs.size)
    (ho : s.heap.get? f = some o) (hdata : o.data = .func { docDef name params body scope pm cd doc with defaults := dV, kwdefaults := kV }) (hlim : s.heap.NoLimit) (hcd : s.heap.CodeRec cd name) (hroom : callerA.depth < recursionLimit)
    (hbind : BindsTo s { docDef name params body scope pm cd doc with defaults := dV, kwdefaults := kV } args binds) (hloc : ∀ y ∈ binds, scope.names.lookup y.1 = some .local)
    (h : ∀ L h₁, Fr H L h₁ (fun y => binds.reverse.lookup y) → s.heap.objs.size = L → (∀ b o, s.heap.get? b = some o → h₁.get? b = some o) →
      wpC (model prog w) (callerA.deeper (envOf name scope L f cd)) (execs body (envOf name scope L f cd))
        (fun fl s' => R (.ok (.ret (match fl with | .ret v => v | _ => .none))) s')
        (fun e s' => wpAny (model prog w) (callerA.deeper (envOf name scope L f cd)) (leaving (envOf name scope L f cd) e) (fun _ s'' => R (.error e) s'') (fun e' s'' => R (.error e') s'') s')
        { s with heap := h₁, toks := s.toks + binds.length })
    (hco : scope.isCoroutine = false) (hgen : scope.isGenerator = false) (hkf : scope.kind = .function)
    (hcell : ∀ x ∈ scope.names, x.2 ≠ .cell) : codeC (model prog w) callerA (.call (.ref f) args) R s := by
  refine .callFn (fd := { docDef name params body scope pm cd doc with defaults := dV, kwdefaults := kV }) (body := body) hroom ho hdata hco hgen rfl hcd (hbind _ _ _ _ ?_)
  refine wpAny_newFunctionEnv hcell hloc (fun h₁ hns₁ hsb₁ => ⟨hlim.fresh _ hsb₁, .func ?_⟩) hkf
  have hk₁ : ∀ b o, s.heap.get? b = some o → h₁.get? b = some o := fun b o e => hsb₁.extBut b o (Nat.ne_of_lt (Heap.lt_size e)) (Heap.get?_push_of_some _ e)
  exact h _ h₁ ⟨hns₁, fun b o e => hk₁ b o (hk b o e), hsz⟩ rfl hk₁
end
theorem good_true {c : ClaimW} {cl : Str → Option Addr} {mean : ExcName → Option Value} {args : List WData} {s₁ : Shared} {h' : Heap} {tk : Nat} {gn : Array GenState} {ps : Array Value} (hT : TabsAt [(83, tabP)] s₁.heap)
    (keep : ∀ b o, (ghostOf s₁.heap [(83, tabP)]).get? b = some o → h'.get? b = some o) (hp : h'.get? tabP = some (tabObj ps)) (hb : AllBare gn) (hn : ∀ cls, c.raises args cls = false) (hpost : c.post args (.bool true) args = true) :
    GoodWG c cl mean args s₁ (.ok (.ret (.bool true))) { s₁ with heap := h', toks := tk, gens := gn } := by
  have hq := hT (83, tabP) (.head _)
  refine ⟨.inl ⟨_, .bool true, [], rfl, hn, .bool true, hpost, fun _ => ⟨List.nodup_nil, fun _ h => nomatch h⟩⟩, ⟨fun b o e => ?_, fun b o e => ?_⟩, rfl, hb⟩
  · by_cases hbp : b = tabP
    · subst hbp
      have e2 := hq.2
      rw [e] at e2
      have e3 := Option.some.inj e2
      subst e3
      exact .inr (.inl ⟨(hq.1.tab hq.2).isCodeTable, rfl, #[], ps, rfl, by rw [Array.empty_append]; exact hp⟩)
    · exact .inl (keep b o (ghost_ne e (by simpa using hbp)))
  · by_cases hbp : b = tabP
    · subst hbp; exact ⟨_, hp⟩
    · exact ⟨o, keep b o (ghost_ne e (by simpa using hbp))⟩
theorem ConC.use {w : World} {p : Program} {loose : List Str} {mean : ExcName → Option Value} {mg mb : Str → Option Value} {f : Addr} {k : Nat} {vs : List Value} {pre : Heap → Prop} {R : Value → List (Addr × Obj) → Prop}
    {dp un : Nat} {gd : Option (List Code)} {cn : Str} {cs : Scope} {a : Addr} {ccd : Value} {cl : List (Str × Addr)} {outer : List Env} {A₀ : Around} {base h₀ : Heap} {L : Addr} {m : Str → Option Value} {s : Shared} {news : List (Addr × Obj)} {Q E : Value → Shared → Prop}
    (C : ConC w p loose mean mg mb f k vs pre R) (B : Below A₀ base outer h₀) (F : Fr h₀ L s.heap m) (X : (hd.heap_1 w.params).In h₀) (N : News h₀ L s.heap news) (T : Top p loose mean mg mb h₀) (hk : cs.kind = .function)
    (hd : dp + k < recursionLimit) (hu : un + 8 * k < cLine) (hp : pre s.heap) (hG : AllBare s.gens)
    (ret : ∀ (v : Value) (h' : Heap) (tk' : Nat) (gn' : Array GenState) (tl : List (Addr × Obj)), R v tl → Fr h₀ L h' m → News h₀ L h' (tl ++ news) → AllBare gn' → Q v { s with heap := h', toks := tk', gens := gn' }) :
    wpC (model PySem.Challenge.rw_zn0010_01.row.prog w) (ktrTop dp un gd cn cs L a ccd cl outer) (call (.ref f) vs) Q E s :=
  C _ _ _ _ _ _ _ _ _ _ _ _ _ _ _ _ _ B F X T hp hk hd hu (fun v h' tk' gn' tl hr F' N' kp _ hG' => ret v h' tk' gn' tl hr F' (fun q hq => (List.mem_append.mp hq).elim (N' q) fun hq => ⟨kp _ _ (N q hq).1, (N q hq).2⟩) hG') hG
theorem film_K {prog : Program} {w : World} {A : Around} {E : Value → Shared → Prop} {s : Shared} {h₀ : Heap} {L : Addr} {m : Str → Option Value} {news : List (Addr × Obj)} {l : Addr} {vs : List Value} {Y : Nat → Nat} {n : Nat} {Q : Value → Shared → Prop} (hn : n ≤ 6)
    (F : Fr h₀ L s.heap m) (N : News h₀ L s.heap news) (hl : s.heap.IsList l vs.toArray) (hi : IntsAre vs ((List.range n).flatMap (three Y))) (hh : A.handled = none)
    (h : ∀ h' t k, Fr h₀ L h' m → News h₀ L h' news → Q (.bytes (filmOf Y n) t) { s with heap := h', toks := k }) : wpAny (model prog w) A (call (.type "bytes") [.ref l]) Q E s :=
  bytes_K F N hl hi (flat_in Y n) (by rw [hi.length, flat_len3, sizeLine_eq]; omega) hh fun h' t k F' N' _ => h h' t k F' N'
theorem updF_app {d : Addr} {o : Obj} {r : List (Addr × Obj)} {g : Obj → List (Addr × Obj)} : ∀ {X : List (Addr × Obj)}, (∀ q ∈ X, q.1 ≠ d) → UpdF d o r g → UpdF d o (X ++ r) (fun o' => X ++ g o')
  | [], _, h => h
  | q :: X, hX, h => .tail (hX q List.mem_cons_self) (updF_app (fun p hp => hX p (List.mem_cons_of_mem _ hp)) h)
theorem off1_mem {D : Addr} {l : List (Addr × Obj)} (h : LCg.Off1 D l) (q : Addr × Obj) (hq : q ∈ l) : q.1 ≠ D := by
  induction l with
  | nil => cases hq
  | cons p r ih =>
    rcases List.mem_cons.mp hq with e | hq
    · rw [e]; exact h.1
    · exact ih h.2 hq
theorem news_two {h₀ h : Heap} {L D P : Addr} {o oP : Obj} {r : List (Addr × Obj)} (N : News h₀ L h ((D, o) :: r)) (hm : (P, oP) ∈ r) : News h₀ L h [(D, o), (P, oP)] := fun q hq => by
  rcases List.mem_cons.mp hq with rfl | hq
  · exact N _ List.mem_cons_self
  · rw [List.mem_singleton.mp hq]; exact N _ (List.mem_cons_of_mem _ hm)
theorem law_holds : PySem.Challenge.rw_zn0010_01.Holds := by
  refine hd ?_
  k_fill
  intro w s₀ s₁ mg mb G Y fa o pm cd doc dV kV ho hdo hcd hD hmg hg args vals as hpre hlay hrd hwl hlo
  have KX := kIn_of Y
  refine Ground.open G ?_
  intro T _ _ _ _
  wrow_args hpre hlay hrd hwl hlo
  have he := Dflts.none hD rfl
  subst he
  clear hD hmg G Y
  have hT9 : TabsAt ([(83, tabP)] : List (Addr × Addr)) s₁.heap := List.forall_mem_cons.mpr ⟨tab_of (x := PySem.Str.ofString "add_callers") (c := 83) (P := 79) T KX rfl (by kernel_rfl), fun _ h => nomatch h⟩
  have X' := ghost_K hT9 KX (by kernel_rfl)
  have T' := ghost_top hT9 T
  have B' := ghost_below hT9
  rename Heap.IsList _ _ _ => hL
  rename IntsAre _ _ => hI
  rename List Int => zs
  rename List Value => vs
  rename ¬ _ < _ => hlen
  rename Addr => l
  have hl' := ghost_list hT9 hL
  have hP0 : (ghostOf s₁.heap [(83, tabP)]).get? tabP = none := hideAll_none _ (.head _)
  have hk : ∀ b o, (ghostOf s₁.heap [(83, tabP)]).get? b = some o → s₁.heap.get? b = some o := fun b o e => of_hideAll _ e
  refine wpC.call ?_
  suffices key : ∀ R9 : Result → Shared → Prop, (∀ (h' : Heap) (tk : Nat) (gn : Array GenState) (ps : Array Value), (∀ b o, (ghostOf s₁.heap [(83, tabP)]).get? b = some o → h'.get? b = some o) → h'.get? tabP = some (tabObj ps) → AllBare gn → R9 (.ok (.ret (.bool true))) { s₁ with heap := h', toks := tk, gens := gn }) →
      codeC (model PySem.Challenge.rw_zn0010_01.row.prog w) callerA (.call (.ref fa) ⟨[.ref l], []⟩) R9 s₁ from
    key _ (fun h' tk gn ps k1 k2 k3 => good_true hT9 k1 k2 k3 (raisesW_false (by wrow_none_raised)) (by wrow_post))
  intro R9 back
  refine' codeC.top (H := ghostOf s₁.heap [(83, tabP)]) (binds := [(PySem.Str.ofString "script", .ref l)]) hk (Nat.le_of_eq (hideAll_size _ _)) ho hdo T.nolimit hcd (by decide) (BindsTo.of_eq rfl) (locs rfl) ?_ rfl rfl rfl (by decide)
  intro L h₁ F hsz hkeep
  have hP := (hT9 _ (.head _)).2
  have N : News (ghostOf s₁.heap [(83, tabP)]) L h₁ [(tabP, tabObj #[])] := fun q hq => by
    rw [List.mem_singleton.mp hq]
    exact ⟨hkeep _ _ hP, Nat.ne_of_lt (by rw [← hsz]; exact Heap.lt_size hP), hP0⟩
  clear KX T hT9 hkeep hP hsz hL ho hdo hcd hk
  generalize ghostOf (Shared.heap s₁) [(83, tabP)] = H at *
  (try dsimp only)
  (try k_fold)
  refine wpC.execs (.of ?_)
  refine LCg.Assign_ListComp_U (F₀ := by k_asm) (by rfl) (by with_unfolding_all rfl) (by rfl) (by decide) (by rfl) (by decide) (by rfl) (by rfl) (by rfl) ?_
  iterate 34 (first | walk1 | (dsimp only; walk1))
  refine kba_turn (value' := PySem.Expr.Name (PySem.Str.ofString "_") ⟨0, 0, 0, 0⟩) (fun _ => rfl) ?_
  walk_at "slice_ints"
  iterate 13 (first | walk1 | (dsimp only; walk1))
  rename IntsAre _ (List.map _ _) => hq
  obtain ⟨n, Y, h5, h6, hyl, hYs, hits⟩ := numbers_of hq (len_src zs).1 (len_src zs).2
  rename Fr H L _ _ => F1
  rename News H L _ _ => N1
  rename _ ∧ _ ∧ _ ∧ _ ∧ _ => o1
  have hDP := o1.2.2.2.2
  have N2 := news_two N1 (P := tabP) (oP := tabObj #[]) (by k_mem)
  clear N1 o1 hq
  refine wpC.execs (.of ?_)
  refine LCg.Assign_ListComp_U (F₀ := by k_asm) (by rfl) (by with_unfolding_all rfl) (by rfl) (by decide) (by rfl) (by decide) (by rfl) (by rfl) (by rfl) ?_
  walk1
  refine LCg.CompSrc.ledger (by rfl) (by k_asm) (by k_asm) List.mem_cons_self (by rw [List.size_toArray, hyl, sizeLine_eq]; omega) ?_
  intro g1
  refine refs_rest (n := n) (z := fun i => (Y i : Int)) (P := LObj Y) (by rw [List.size_toArray, hyl]) (fun i hi => by rw [List.getElem?_toArray]; exact hits i hi) (fun X => .inr ⟨_, List.mem_append_right _ List.mem_cons_self, rfl, _, rfl⟩) ?el1 ?fin1
  case el1 =>
    intro i hi s t C oC m₂ all E' hC hx F N hm
    iterate 8 (first | walk1 | (dsimp only; walk1))
    refine' Con.use light_con ?k1 ?k2 ?k3 ?k4 ?k5 ?k6 ?k7 ?k8 trivial ?_
    walk_at "con_args"
    intro v9 h9 tk9 tl9 o9
    refine LightOut.casesOn o9 ?_
    intro l9 t0 t1 t2 k9 F9 N9 ne9
    exact ⟨l9, _, h9, tk9, rfl, ⟨t0, t1, t2, k9, rfl⟩, rfl, F9, N9, fun q hq => ne9 _ List.mem_cons_self q hq⟩
  intro ls XL hll hXL hap1
  unfold LCg.FinA
  intro D2 h2 tk2 F2 N2' o2
  have o2m := off1_mem o2
  clear o2
  dsimp only
  refine wpC.execs (.of ?_)
  refine LCg.Assign_ListComp_U (F₀ := by k_asm) (by rfl) (by with_unfolding_all rfl) (by rfl) (by decide) (by rfl) (by decide) (by rfl) (by rfl) (by rfl) ?_
  walk1
  refine LCg.CompSrc.ledger (by rfl) F2 N2' (List.mem_cons_of_mem _ (List.mem_append_right _ List.mem_cons_self)) (by rw [List.size_toArray, hyl, sizeLine_eq]; omega) ?_
  intro g2
  refine ints_rest (n := n) (z := fun i => (Y i : Int)) (r := wY Y) (by rw [List.size_toArray, hyl]) (fun i hi => by rw [List.getElem?_toArray]; exact hits i hi) (.inr ⟨_, List.mem_cons_of_mem _ (List.mem_append_right _ List.mem_cons_self), rfl, _, rfl⟩) ?el2 ?fin2
  case el2 =>
    intro i hi s t C oC m₂ all E' hC hx F N
    iterate 7 (first | walk1 | (dsimp only; walk1))
    exact ⟨⟨_, rfl⟩, _, rfl⟩
  intro ws hwl hws
  unfold LCg.FinA
  intro D3 h3 tk3 F3 N3 o3
  have o3m := off1_mem o3
  clear o3
  dsimp only
  obtain ⟨inner, hin, hint⟩ := inner_of (Y := Y) (n := n) (ys := ls) (X := XL) hXL
  refine wpC.execs (.of ?_)
  iterate 5 (first | walk1 | (dsimp only; walk1))
  refine ListComp_F F3 (by rfl) (by decide) (by rfl) (by decide) (by rfl) (by rfl) (by decide) (by decide) ?_
  walk1
  have hsz4 : ls.toArray.size = n := by rw [List.size_toArray, hll]
  refine ⟨D2, ls.toArray, ls.length, _, inner, rfl, F3, N3, List.mem_cons_of_mem _ List.mem_cons_self, fun i hi => ?_, by rw [hsz4]; omega, ?_⟩
  · rw [hsz4] at hi
    obtain ⟨l4, k4, e1, e2, e3⟩ := hin i hi
    exact ⟨l4, k4, by rw [List.getElem?_toArray]; exact e1, List.mem_cons_of_mem _ (List.mem_cons_of_mem _ (List.mem_append_left _ e2)), e3⟩
  rw [hsz4]
  intro D4 h4 tk4 F4 N4 o4m
  iterate 1 (first | walk1 | (dsimp only; walk1))
  refine film_K h6 F4 N4 ⟨_, (N4 _ List.mem_cons_self).1, rfl, _, rfl⟩ (flat_ints hint n (Nat.le_refl _)) rfl ?_
  intro h5' tb kb F5 N5
  have hrow := row_of (ws := ws) h5 h6 hYs hwl hws
  have hfs := film_size Y n
  generalize filmOf Y n = fb at hrow hfs ⊢
  have N6 : News H L h5' _ := fun q hq => N5 q (List.mem_cons_of_mem _ hq)
  clear N5
  iterate 1 (first | walk1 | (dsimp only; walk1))
  rename Fr H L _ _ => F7
  rename News H L _ _ => N7
  refine wpC.execs (wpC.assign (wpC.callExpr ?_ rfl) rfl)
  iterate 1 (first | walk1 | (dsimp only; walk1))
  refine wpC.callRefE (K := hd.heap_1 w.params) (by k_is) ?_ rfl rfl
  refine wpC.argsCons (wpC.callExpr ?_ rfl) rfl
  iterate 1 (first | walk1 | (dsimp only; walk1))
  refine wpC.callRefE (K := hd.heap_1 w.params) (by k_is) (.of ?_) rfl rfl
  iterate 12 (first | walk1 | (dsimp only; walk1))
  refine' ConC.use (swap_con (n := fb.size) rfl ?z0 ?z1) ?k1 ?k2 ?k3 ?k4 ?k5 ?k6 ?k7 ?k8 trivial ?kg ?_
  case z0 => omega
  case z1 => omega
  case kg => exact AllBare.of_eq hg
  walk_at "con_args"
  rintro v9 h9 tk9 gn9 tl9 ⟨rfl, tb9, rfl⟩ F9 N9 hG9
  refine .of ?_
  rw [List.nil_append] at N9
  iterate 10 (first | walk1 | (dsimp only; walk1))
  refine' krv_lit (its := ws.toArray) (zs := ws.reverse) F9 N9 ⟨_, (N9 _ List.mem_cons_self).1, rfl, _, rfl⟩ (IsPart.int _ _) ?e10 ?_ ?s10 ?t10 ?z10
  case e10 => rfl
  case s10 => with_unfolding_all rfl
  case t10 => kmk_pure
  case z10 => rw [List.size_toArray, hwl, sizeLine_eq]; omega
  intro D5 h10 F10 N10 lt10
  iterate 2 (first | walk1 | (dsimp only; walk1))
  refine .of ?_
  have pP : ∀ (x : Addr × Obj), (tabP, tabObj #[]) ∈ (D3, LCg.lst ws) :: (D2, LCg.lst ls) :: (XL ++ [x, (tabP, tabObj #[])]) := fun x => List.mem_cons_of_mem _ (List.mem_cons_of_mem _ (List.mem_append_right _ (List.mem_cons_of_mem _ List.mem_cons_self)))
  have e5 : D5 ≠ tabP := Ne.symm (Nat.ne_of_lt (lt10 _ (pP _)))
  have e3 : D3 ≠ tabP := Ne.symm (o3m (tabP, tabObj #[]) (List.mem_cons_of_mem _ (List.mem_append_right _ (List.mem_cons_of_mem _ List.mem_cons_self))))
  have e2 : D2 ≠ tabP := Ne.symm (o2m (tabP, tabObj #[]) (List.mem_append_right _ (List.mem_cons_of_mem _ List.mem_cons_self)))
  have eX : ∀ q ∈ XL, q.1 ≠ tabP := fun q hq => Ne.symm (hap1 q hq (tabP, tabObj #[]) (List.mem_cons_of_mem _ List.mem_cons_self))
  have U10 : ∀ (x : Addr × Obj) (y : Obj), x.1 ≠ tabP → UpdF tabP (tabObj #[]) ((D5, y) :: (D3, LCg.lst ws) :: (D2, LCg.lst ls) :: (XL ++ [x, (tabP, tabObj #[])])) (fun o' => (D5, y) :: (D3, LCg.lst ws) :: (D2, LCg.lst ls) :: (XL ++ [x, (tabP, o')])) := fun x y hx =>
    .tail e5 (.tail e3 (.tail e2 (updF_app eX (.tail hx (.head fun _ h => nomatch h)))))
  refine' ConG.use (tables_con hrow) ?k1 ?k2 ?k3 ?k4 ?k5 ?k6 ?k7 ?k8 ?kU ?kl ?kne ?kt ?kG ?_
  walk_at "con_args"
  case kU => exact U10 _ _ (Ne.symm hDP)
  case kl => exact fun q hq => by rw [List.mem_singleton.mp hq]; exact List.mem_cons_self
  case kne => exact fun q hq => by rw [List.mem_singleton.mp hq]; exact e5
  case kt => trivial
  case kG => exact hG9
  intro v11 h11 tk11 gn11 ps11 tl11 o11
  refine LTabOut.casesOn o11 ?_
  clear o11 tl11 v11
  intro T oT kT XT lT dT iT F11 N11 ap11 ht11 hG11
  iterate 1 (first | walk1 | (dsimp only; walk1))
  rename Fr H L _ _ => F12
  rename News H L _ _ => N12
  rw [List.cons_append] at N12
  refine wpC.execs (.of ?_)
  iterate 7 (first | walk1 | (dsimp only; walk1))
  refine LCg.ListComp_U (F₀ := F12) (by rfl) (by decide) (by rfl) (by decide) (by rfl) ?_
  walk1
  refine LCg.CompSrc.ledger (by rfl) F12 N12 (List.mem_cons_of_mem _ (List.mem_append_right _ (List.mem_cons_of_mem _ (List.mem_cons_of_mem _ (List.mem_cons_of_mem _ (List.mem_append_right _ List.mem_cons_self)))))) (by rw [List.size_toArray, hyl, sizeLine_eq]; omega) ?_
  intro g3
  refine ints_rest (n := n) (z := fun i => (Y i : Int)) (r := fun i => Int.fmod (Y i : Int) 3) (by rw [List.size_toArray, hyl]) (fun i hi => by rw [List.getElem?_toArray]; exact hits i hi) (.inr ⟨_, List.mem_cons_of_mem _ (List.mem_append_right _ (List.mem_cons_of_mem _ (List.mem_cons_of_mem _ (List.mem_cons_of_mem _ (List.mem_append_right _ List.mem_cons_self))))), rfl, _, rfl⟩) ?el3 ?fin3
  case el3 =>
    intro i hi s t C oC m₂ all E' hC hx F N
    iterate 4 (first | walk1 | (dsimp only; walk1))
    exact ⟨⟨_, rfl⟩, _, rfl⟩
  intro cs hcl hcs
  unfold LCg.FinE
  intro D6 h13 tk13 F13 N13 o13
  have o13m := off1_mem o13
  clear o13
  iterate 6 (first | walk1 | (dsimp only; walk1))
  have hlast : ∀ (x y : Addr × Obj) (c : Obj), (tabP, c) ∈ XT ++ y :: (D3, LCg.lst ws) :: (D2, LCg.lst ls) :: (XL ++ [x, (tabP, c)]) := fun x y c => List.mem_append_right _ (List.mem_cons_of_mem _ (List.mem_cons_of_mem _ (List.mem_cons_of_mem _ (List.mem_append_right _ (List.mem_cons_of_mem _ List.mem_cons_self)))))
  have e6 : D6 ≠ tabP := Ne.symm (o13m (tabP, tabObj ps11) (List.mem_cons_of_mem _ (hlast _ _ _)))
  have tb11 : ∀ (x y : Addr × Obj), (tabP, tabObj ps11) ∈ y :: (D3, LCg.lst ws) :: (D2, LCg.lst ls) :: (XL ++ [x, (tabP, tabObj ps11)]) := fun x y => List.mem_cons_of_mem _ (List.mem_cons_of_mem _ (List.mem_cons_of_mem _ (List.mem_append_right _ (List.mem_cons_of_mem _ List.mem_cons_self))))
  have eT : T ≠ tabP := Ne.symm (ap11 (T, oT) List.mem_cons_self (tabP, tabObj ps11) (tb11 _ _))
  have eXT : ∀ q ∈ XT, q.1 ≠ tabP := fun q hq => Ne.symm (ap11 q (List.mem_cons_of_mem _ hq) (tabP, tabObj ps11) (tb11 _ _))
  have U13 : ∀ (x : Addr × Obj) (y z : Obj), x.1 ≠ tabP → UpdF tabP (tabObj ps11) ((D6, z) :: (T, oT) :: (XT ++ (D5, y) :: (D3, LCg.lst ws) :: (D2, LCg.lst ls) :: (XL ++ [x, (tabP, tabObj ps11)]))) (fun o' => (D6, z) :: (T, oT) :: (XT ++ (D5, y) :: (D3, LCg.lst ws) :: (D2, LCg.lst ls) :: (XL ++ [x, (tabP, o')]))) := fun x y z hx =>
    .tail e6 (.tail eT (updF_app eXT (.tail e5 (.tail e3 (.tail e2 (updF_app eX (.tail hx (.head fun _ h => nomatch h))))))))
  have hdrow := drow_of (led := (D6, LCg.lst cs) :: (D3, LCg.lst ws) :: (D2, LCg.lst ls) :: XL) h5 h6 hYs hcl hcs hwl hws hll (fun i hi => let ⟨l, o, a, b, c⟩ := hXL i hi; ⟨l, o, a, List.mem_cons_of_mem _ (List.mem_cons_of_mem _ (List.mem_cons_of_mem _ b)), c⟩)
  refine' ConG.use (due_con hdrow List.mem_cons_self (List.mem_cons_of_mem _ List.mem_cons_self) (List.mem_cons_of_mem _ (List.mem_cons_of_mem _ List.mem_cons_self))) ?k1 ?k2 ?k3 ?k4 ?k5 ?k6 ?k7 ?k8 ?kU ?kl ?kne ?kt ?kG ?_
  walk_at "con_args"
  case kU => exact U13 _ _ _ (Ne.symm hDP)
  case kl =>
    intro q hq
    simp only [List.mem_cons] at hq
    rcases hq with hq | hq | hq | hq
    · rw [hq]; exact List.mem_cons_self
    · rw [hq]; exact List.mem_cons_of_mem _ (List.mem_cons_of_mem _ (List.mem_append_right _ (List.mem_cons_of_mem _ List.mem_cons_self)))
    · rw [hq]; exact List.mem_cons_of_mem _ (List.mem_cons_of_mem _ (List.mem_append_right _ (List.mem_cons_of_mem _ (List.mem_cons_of_mem _ List.mem_cons_self))))
    · exact List.mem_cons_of_mem _ (List.mem_cons_of_mem _ (List.mem_append_right _ (List.mem_cons_of_mem _ (List.mem_cons_of_mem _ (List.mem_cons_of_mem _ (List.mem_append_left _ hq))))))
  case kne =>
    intro q hq
    simp only [List.mem_cons] at hq
    rcases hq with hq | hq | hq | hq
    · rw [hq]; exact e6
    · rw [hq]; exact e3
    · rw [hq]; exact e2
    · exact eX q hq
  case kt => exact ht11
  case kG => exact hG11
  intro v14 h14 tk14 gn14 ps14 tl14 o14
  refine DueOut.casesOn o14 ?_
  clear o14 tl14 v14
  intro D oD kD YD lD dD iD F14 N14 ap14 ht14 hG14
  rw [List.cons_append] at N14
  refine told_due (cY_lt Y) N14 (List.mem_cons_of_mem _ (List.mem_append_right _ (List.mem_cons_of_mem _ List.mem_cons_self))) List.mem_cons_self
    (fun q hq => List.mem_cons_of_mem _ (List.mem_append_right _ (List.mem_cons_of_mem _ (List.mem_cons_of_mem _ (List.mem_append_left _ hq))))) (fun q hq => List.mem_cons_of_mem _ (List.mem_append_left _ hq))
    lT lD dT dD iT iD (Nat.le_of_ble_eq_true rfl) (Nat.le_of_ble_eq_true rfl) (Nat.le_of_ble_eq_true rfl) ?_
  exact back h14 tk14 gn14 ps14 F14.keep (N14 (tabP, tabObj ps14) (List.mem_cons_of_mem _ (List.mem_append_right _ (List.mem_cons_of_mem _ (List.mem_cons_of_mem _ (hlast _ _ _)))))).1 hG14
end
end Mine
end
open PySem PySem.W PyProof.Rows
set_option maxRecDepth 100000 in
set_option maxHeartbeats 8000000 in
theorem PySem.Challenge.cw_zn0010_01_holds : PySem.Challenge.rw_zn0010_01.Holds := by
  exact Mine.law_holds
