import PyProof.Rows.All
import Wide.All
import OpenK.AllK
import Wide.FinOn
import Lean
import PySem.Challenge.RW_rs0085_01
open PySem PySem.W PyProof.Rows PySem.Calls
set_option Elab.async false
set_option maxRecDepth 100000
set_option rowWalk.seconds 0
set_option linter.unusedSimpArgs false
set_option linter.unusedVariables false
set_option exponentiation.threshold 3000
namespace Mine
/-- the claim's caller stands somewhere on the stack -/
def HasC (Γ : Ctx) : Prop := Γ.code.isCaller = true ∨ ∃ x ∈ Γ.below, x.1.isCaller = true
def wpC {α : Type} (M : Model) (A : Around) (t : Sem α) (Q : α → Shared → Prop) (E : Value → Shared → Prop) (s : Shared) : Prop :=
  ∀ Γ p, Γ.In A → HasC Γ → Sem.wp M Γ t (fun a _ s' => Q a s') (fun e _ s' => E e s') p s
def codeC (M : Model) (A : Around) (c : Code) (R : Result → Shared → Prop) (s : Shared) : Prop :=
  ∀ Γ p, Γ.code = c → Γ.Below A → (∃ x ∈ Γ.below, x.1.isCaller = true) → wpCode M Γ R p s
section
variable {α β : Type} {M : Model} {A : Around} {E : Value → Shared → Prop} {s : Shared}
theorem wpC.of {t : Sem α} {Q : α → Shared → Prop} (h : wpAny M A t Q E s) : wpC M A t Q E s := fun Γ p i _ => h Γ p i
theorem codeC.of {c : Code} {R : Result → Shared → Prop} (h : codeAny M A c R s) : codeC M A c R s := fun Γ p e b _ => h Γ p e b
theorem wpC.mono {t : Sem α} {Q Q' : α → Shared → Prop} {E' : Value → Shared → Prop} (h : wpC M A t Q E s) (hQ : ∀ a s, Q a s → Q' a s) (hE : ∀ e s, E e s → E' e s) : wpC M A t Q' E' s :=
  fun Γ p i c => Sem.wp_mono M Γ t (fun a _ s => hQ a s) (fun e _ s => hE e s) p s (h Γ p i c)
theorem wpC.bindC {m : Sem α} {f : α → Sem β} {Q : β → Shared → Prop} (h : wpC M A m (fun a s' => wpC M A (f a) Q E s') E s) : wpC M A (m >>= f) Q E s := fun Γ p i c => by
  rw [Sem.wp_bind']
  exact Sem.wp_mono M Γ m (fun a p' s' k => k Γ p' i c) (fun _ _ _ k => k) p s (h Γ p i c)
/-- a first step that needs no caller -/
theorem wpC.bind {m : Sem α} {f : α → Sem β} {Q : β → Shared → Prop} (h : wpAny M A m (fun a s' => wpC M A (f a) Q E s') E s) : wpC M A (m >>= f) Q E s := .bindC (.of h)
theorem wpC.onRaise {m : Sem α} {k : Value → Sem Unit} {Q : α → Shared → Prop} (h : wpC M A m Q (fun e s' => wpC M A (k e) (fun _ s'' => E e s'') E s') s) : wpC M A (m.onRaise k) Q E s := fun Γ p i c => by
  rw [Sem.wp_onRaise]
  exact Sem.wp_mono M Γ m (fun _ _ _ k => k) (fun e p' s' k => k Γ p' i c) p s (h Γ p i c)
theorem wpC.attempt {m : Sem α} {Q : Except Value α → Shared → Prop} (h : wpC M A m (fun a => Q (.ok a)) (fun e => Q (.error e)) s) : wpC M A m.attempt Q E s :=
  fun Γ p i c => by rw [Sem.wp_attempt]; exact h Γ p i c
theorem wpC.holding {vs : List Value} {m : Sem α} {Q : α → Shared → Prop} (h : wpC M A m Q E s) : wpC M A (holding vs m) Q E s :=
  fun Γ p i c => by rw [Sem.wp_holding]; exact h Γ p i c
theorem wpC.eq {t : Sem α} {a : α} {Q : α → Shared → Prop} (e : t = pure a) (h : Q a s) : wpC M A t Q E s := .of (wpAny_of_eq e h)
theorem HasC.enter {Γ : Ctx} {c : Code} {h : Option Value} {p : Pos} (hc : HasC Γ) : ∃ x ∈ (Γ.enter c h p).below, x.1.isCaller = true :=
  hc.elim (fun e => ⟨(Γ.code, p), .head _, e⟩) fun ⟨x, m, e⟩ => ⟨x, .tail _ m, e⟩
theorem wpC.run {c : Code} {h : Option Value} {Q : Flow → Shared → Prop}
    (hc : codeC M (A.mark h) c (fun r s' => match r with | .ok f => Q f s' | .error e => E e s') s) (hnb : h ≠ some byPass := by intro x; cases x) : wpC M A (run c h) Q E s :=
  fun Γ p i k => by rw [Sem.wp_run]; exact hc _ p rfl (i.enter c h p hnb) k.enter
theorem wpC.runValue {c : Code} {Q : Value → Shared → Prop}
    (hc : codeC M A c (fun r s' => match r with | .ok (.ret v) => Q v s' | .ok _ => False | .error e => E e s') s) : wpC M A (runValue c) Q E s :=
  fun Γ p i k => by rw [Sem.wp_runValue]; exact hc _ p rfl (i.enter c none p (by intro x; cases x)) k.enter
theorem codeC.of_tree {c : Code} {R : Result → Shared → Prop}
    (h : wpC M (A.under c) (M.den c) (fun fin s' => match fin with | .done f => R (.ok f) s' | .again c' => c'.quiet = true ∧ codeC M A c' R s') (fun e s' => R (.error e) s') s) : codeC M A c R s := fun Γ p hc b k => by
  rw [wpCode_iff_wp, hc]
  refine Sem.wp_mono M Γ _ (fun fin p' s' h' => ?_) (fun _ _ _ h' => h') p s (h Γ p (hc ▸ b.in) (.inr k))
  cases fin with
  | done f => exact h'
  | again c' => exact ⟨h'.1, h'.2 (Γ.goto c') p' rfl (b.goto c') k⟩
theorem codeC.mono {c : Code} {R R' : Result → Shared → Prop} (h : codeC M A c R s) (hR : ∀ r s, R r s → R' r s) : codeC M A c R' s := fun Γ p e b k => wpCode_mono hR (h Γ p e b k)
end
section
variable {prog : Program} {w : World} {A : Around} {s : Shared} {R : Result → Shared → Prop}
theorem codeC.func {body : List Stmt} {env : Env}
    (h : wpC (model prog w) (A.deeper env) (execs body env) (fun f s' => R (.ok (.ret (match f with | .ret v => v | _ => .none))) s')
      (fun e s' => wpC (model prog w) (A.deeper env) (leaving env e) (fun _ s'' => R (.error e) s'') (fun e' s'' => R (.error e') s'') s') s) : codeC (model prog w) A (.func body env) R s := by
  refine .of_tree ?_
  show wpC _ (A.deeper env) (do point; match ← (execs body env).onRaise (leaving env) with | .ret v => ret v | _ => ret .none) _ _ s
  refine .bind (wpAny_point (.bindC (.onRaise (h.mono (fun f s' k => ?_) fun _ _ k => k))))
  cases f <;> exact .of (wpAny_pure k)
theorem codeC.call_def {a : Addr} {o : Obj} {fd : FuncData} {body : List Stmt} {args : Args} {binds : List (Str × Value)}
    (hroom : A.depth < recursionLimit) (ho : s.heap.get? a = some o) (hdata : o.data = .func fd) (hlim : s.heap.NoLimit) (hcd : s.heap.CodeRec fd.code fd.qualname)
    (hbody : fd.body = .stmts body) (hbind : BindsTo s fd args binds) (hcell : ∀ x ∈ fd.scope.names, x.2 ≠ .cell) (hloc : ∀ x ∈ binds, fd.scope.names.lookup x.1 = some .local)
    (h : ∀ h₀, h₀.Ns s.heap.objs.size (fun x => binds.reverse.lookup x) → (∀ b o, s.heap.get? b = some o → h₀.get? b = some o) →
      wpC (model prog w) (A.deeper (callEnv fd s.heap.objs.size a)) (execs body (callEnv fd s.heap.objs.size a)) (fun f s' => R (.ok (.ret (match f with | .ret v => v | _ => .none))) s')
        (fun e s' => wpC (model prog w) (A.deeper (callEnv fd s.heap.objs.size a)) (leaving (callEnv fd s.heap.objs.size a) e) (fun _ s'' => R (.error e) s'') (fun e' s'' => R (.error e') s'') s')
        { s with heap := h₀, toks := s.toks + binds.length })
    (hco : fd.scope.isCoroutine = false := by rfl) (hgen : fd.scope.isGenerator = false := by rfl) (hk : fd.scope.kind = .function := by rfl) : codeC (model prog w) A (.call (.ref a) args) R s := by
  refine .of_tree ?_
  show wpC _ A.in1 (callAny (.ref a) args) _ _ s
  simp only [callAny]
  refine .bind (wpAny_load ho ?_)
  obtain ⟨c, oc, vs, tq, hc, hoc, hdc, hq⟩ := hcd
  simp only [hdata, callFunction, hco, hgen, hbody, hc]
  refine .bind (m := field (.ref c) 1) (wpAny_field hoc hdc hq ?_)
  refine .bind (wpAny_pure (.bind (hbind _ _ _ _ (.bind ?_))))
  rw [← hc]
  refine wpAny_newFunctionEnv hcell hloc (fun h₀ n k => ?_) hk
  refine .bind (wpAny_enterFrame (hlim.fresh _ k) hroom (.of (wpAny_pure ⟨rfl, .func ?_⟩)))
  exact h h₀ n fun b o e => k.extBut b o (Nat.ne_of_lt (Heap.lt_size e)) (Heap.get?_push_of_some _ e)
end

section
variable {prog : Program} {w : World} {A : Around} {s : Shared} {R : Result → Shared → Prop} {E : Value → Shared → Prop}
theorem codeC.builtin {id : String} {args : Args} {b : Builtin} (hb : entryFor table id = some b)
    (h : wpC (model prog w) (A.under (.builtin id args)) (b args) (fun fin s' => match fin with | .done f => R (.ok f) s' | .again c' => c'.quiet = true ∧ codeC (model prog w) A c' R s') (fun e s' => R (.error e) s') s) :
    codeC (model prog w) A (.builtin id args) R s := by
  refine .of_tree ?_
  show wpC _ _ (match entryFor table id with | some b => b args | none => unsupported ((withoutEnding? id "#data").getD id)) _ _ s
  rw [hb]; exact h
theorem codeC.call_builtin {id : String} {args : Args} {b : Builtin} (hq : plainId id = true) (hb : entryFor table id = some b)
    (h : wpAny (model prog w) A.in1 (checkBuiltinCall id args) (fun _ s₁ => wpC (model prog w) A.in1 (b args)
      (fun fin s' => match fin with | .done f => R (.ok f) s' | .again c' => c'.quiet = true ∧ codeC (model prog w) A c' R s') (fun e s' => R (.error e) s') s₁) (fun e s' => R (.error e) s') s) :
    codeC (model prog w) A (.call (.builtin id) args) R s := by
  refine .of_tree ?_
  show wpC _ A.in1 (do checkBuiltinCall id args; again (.builtin id args)) _ _ s
  refine .bind (wpAny_mono h (fun _ s₁ k => .of (wpAny_pure ⟨plainId_quiet hq args, .builtin hb ?_⟩)) fun _ _ k => k)
  rw [Around.under_plainId hq args]; exact k
theorem mark_no {own : List String} {e : Value} {Q : Unit → Shared → Prop} (h : Q () s) : wpC (model prog w) A (markTheRefusal own e) Q E s := fun Γ p i c => by
  unfold markTheRefusal
  rw [Sem.wp_bind']
  show Sem.wp _ Γ (if pythonCodeMadeTheCall own (((Γ.code, p) :: Γ.below).map (·.1)) = true then _ else _) _ _ p s
  have hany : (((Γ.code, p) :: Γ.below).map (·.1)).any Code.isCaller = true := by
    rcases c with k | ⟨x, m, k⟩
    · simp [k]
    · rw [List.map_cons, List.any_cons, Bool.or_eq_true]
      exact .inr (List.any_eq_true.mpr ⟨x.1, List.mem_map_of_mem m, k⟩)
  rw [if_neg]
  · exact h
  · have : pythonCodeMadeTheCall own (((Γ.code, p) :: Γ.below).map (·.1)) = (!((((Γ.code, p) :: Γ.below).map (·.1)).any Code.isCaller) && (((Γ.code, p) :: Γ.below).map (·.1)).any (·.env?.isSome) && _) := rfl
    rw [this, hany]
    exact fun k => nomatch k
set_option maxHeartbeats 4000000 in
theorem ift {t : Tok} {l : List Nat} {Q : Value → Shared → Prop} (hl : l = []) (hA : A.handled = none)
    (h : ∀ h' tk e, Heap.NewExc s.heap h' e "ValueError" → E (.ref e) { s with heap := h', toks := tk }) :
    wpC (model prog w) A ((int_private% "intFromText") (.str (Str.ofString "") t) l 10) Q E s := by
  subst hl
  have hr : (int_private% "readNumeral") 0 10 [] = (int_private% "Numeral.invalid") := by rfl
  refine .bind (wpAny_pure ?_)
  dsimp only [List.takeWhile_nil]
  rw [hr]
  dsimp only
  refine .bind ?_
  repeat (any_goals (first | assumption | wp_step))
  rw [if_neg (by rw [Bool.and_eq_true]; exact fun c => nomatch c.1)]
  refine .bind (wpAny_rule ?_)
  refine .bind ?_
  repeat (any_goals (first | assumption | wp_step))
  dsimp only
  refine .bind (wpAny_pyRepr_str ?_ (by decide +kernel))
  refine .bind (wpAny_mkStr ?_ (by rw [Str.length_append]; exact Nat.le_trans (Nat.add_le_add (show _ ≤ 100 by decide +kernel) (show _ ≤ 200 by show (Array.extract _ _ _).size ≤ 200; rw [Array.size_extract]; omega)) (by decide +kernel)))
  unfold newExc newTuple
  have hp := plainExc_ValueError
  refine .bind (wpAny_bind (wpAny_newObj_type ?_))
  refine wpAny_bind (m := firstArgMember _ _) (wpAny_of_eq (a := Value.none) (by simp only [firstArgMember, hp.first]; rfl) ?_)
  rw [hp.own]
  refine wpAny_newObj_type ?_
  refine .bindC (mark_no ?_)
  refine .of (wpAny_raiseNew_none hA ?_)
  exact h _ _ _ ⟨fun b o hb => Heap.get?_push_of_some _ (Heap.get?_push_of_some _ hb), Heap.get?_none_of_le (by simp), _, .ref s.heap.objs.size, Heap.get?_push_size _ rfl, rfl, by simp⟩
end
section
variable {prog : Program} {w : World} {A : Around} {s : Shared} {R : Result → Shared → Prop} {E : Value → Shared → Prop}
set_option maxHeartbeats 4000000 in
theorem int_none {x : Str} {t : Tok} {Q : Value → Shared → Prop} (hx : x = Str.ofString "") (hA : A.handled = none)
    (h : ∀ h' tk e, Heap.NewExc s.heap h' e "ValueError" → E (.ref e) { s with heap := h', toks := tk }) :
    wpC (model prog w) A (call (.type "int") [.str x t]) Q E s := by
  refine .runValue (.of_tree ?_)
  show wpC _ _ (callAny (.type "int") _) _ _ _
  refine .of (wpAny_pure ⟨Code.quiet_builtin _ (by decide +kernel), codeC.builtin F.entry_type_call ?_⟩)
  rw [Around.under_plain (weight_type_call_type "int" _ []) (units_type_call_type "int" _ [])]
  have ft := F.called_int
  obtain ⟨c, tl, hmro⟩ := ft.mro
  have hmade := ft.made
  have hsub := ft.sub
  have h1 := ft.notType
  have h2 := ft.canCreate
  have h3 := F.typeCall_int_1 (.str x t)
  unfold Builtin.«type.__call__»
  dsimp only
  rw [if_neg (by rw [h1]; decide)]
  rw [if_neg (by rw [h2]; decide)]
  refine .bind (wpAny_of_eq h3 ?_)
  refine .bind (wpAny_of_eq hmro ?_)
  rw [if_neg (by show ¬ (c :: tl).isEmpty = true; simp)]
  refine .bind (wpAny_of_eq hmade ?_)
  dsimp only
  refine .bind (wpAny_pure ?_)
  refine .bindC (.holding (.runValue (codeC.call_builtin ft.plain F.entry_int_new (wpAny_of_eq (F.newCall_int_1 (.str x t)) ?_))))
  have f1 := F.conv_sub_int
  have f2 := F.madeHere_int
  have f3 := KIN.str_int
  have f4 := KIN.str_idx
  have f5 := KIN.str_trunc
  have f6 : typeOf (.str x t) = pure (.type "str") := rfl
  unfold Builtin.«int.__new__»
  dsimp only
  refine .bind (wpAny_of_eq (show isType (.type "int") = pure true from rfl) ?_)
  rw [if_neg (by decide)]
  refine .bind (wpAny_of_eq hsub ?_)
  rw [if_neg (by decide)]
  refine .bind (wpAny_of_eq f2 ?_)
  rw [if_neg (by show ¬ (_ && false) = true; rw [Bool.and_false]; decide), if_neg (by show ¬ (1 + 0 > 2); decide)]
  refine .bind (wpAny_pure ?_)
  show wpC _ _ ((int_private% "intFromObject") (.str x t) >>= _) _ _ _
  refine .bindC ?_
  refine .bind ?_
  repeat (any_goals (first | assumption | wp_step))
  dsimp only
  refine .bind ?_
  repeat (any_goals (first | assumption | wp_step))
  rw [if_neg (by decide)]
  refine .bind ?_
  repeat (any_goals (first | assumption | wp_step))
  dsimp only
  refine .bind ?_
  repeat (any_goals (first | assumption | wp_step))
  dsimp only
  subst hx
  exact ift (by decide +kernel) hA h
end

abbrev NoE : Value → Shared → Prop := fun _ _ => False
section
variable {M : Model} {A : Around} {E : Value → Shared → Prop} {s : Shared} {env : Env}
theorem wpC.execs_any {st : Stmt} {rest : List Stmt} {Q : Flow → Shared → Prop}
    (h : wpAny M A (exec st env) (fun f s' => match f with | .next => wpC M A (execs rest env) Q E s' | f => Q f s') E s) : wpC M A (execs (st :: rest) env) Q E s := by
  rw [execs]
  refine .bind (wpAny_mono h (fun f s' k => ?_) fun _ _ k => k)
  cases f <;> first | exact k | exact .of (wpAny_pure k)
theorem wpC.execs_c {st : Stmt} {rest : List Stmt} {Q : Flow → Shared → Prop}
    (h : wpC M A (exec st env) (fun f s' => match f with | .next => wpC M A (execs rest env) Q E s' | f => Q f s') E s) : wpC M A (execs (st :: rest) env) Q E s := by
  rw [execs]
  refine .bindC (h.mono (fun f s' k => ?_) fun _ _ k => k)
  cases f <;> first | exact k | exact .of (wpAny_pure k)
theorem wp_execs_app {Γ : Ctx} {rest : List Stmt} {Q : Flow → Pos → Shared → Prop} {E' : Value → Pos → Shared → Prop} : ∀ (l : List Stmt) (p : Pos) (s : Shared),
    Sem.wp M Γ (execs l env) (fun f p' s' => match f with | .next => Sem.wp M Γ (execs rest env) Q E' p' s' | f => Q f p' s') E' p s → Sem.wp M Γ (execs (l ++ rest) env) Q E' p s
  | [], p, s, h => by rw [execs] at h; exact h
  | st :: l, p, s, h => by
    show Sem.wp M Γ (execs (st :: (l ++ rest)) env) Q E' p s
    rw [execs] at h ⊢
    rw [Sem.wp_bind'] at h ⊢
    refine Sem.wp_mono M Γ _ (fun f p' s' k => ?_) (fun _ _ _ k => k) p s h
    cases f with
    | next => exact wp_execs_app l p' s' k
    | _ => exact k
/-- some first statements that need no caller -/
theorem wpC.execs_app {l rest : List Stmt} {Q : Flow → Shared → Prop}
    (h : wpAny M A (execs l env) (fun f s' => match f with | .next => wpC M A (execs rest env) Q E s' | f => Q f s') E s) : wpC M A (execs (l ++ rest) env) Q E s := fun Γ p i c =>
  wp_execs_app l p s (Sem.wp_mono M Γ _ (fun f p' s' k => by cases f <;> first | exact k Γ p' i c | exact k) (fun _ _ _ k => k) p s (h Γ p i))
theorem wpC.keep {α : Type} {vs : List Value} {m : Sem α} {Q : α → Shared → Prop} (h : wpC M A m Q E s) : wpC M A (m.keep vs) Q E s := fun Γ p i c => by rw [Sem.wp_keep]; exact h Γ p i c
theorem wpC.splicedA {x : Sem Value} {rest : List (Bool × Sem Value)} {Q : List Value → Shared → Prop}
    (h : wpAny M A x (fun v s₁ => wpC M A (spliced rest) (fun vs s₂ => Q (v :: vs) s₂) E s₁) E s) : wpC M A (spliced ((false, x) :: rest)) Q E s := by
  rw [spliced]
  refine .bind (wpAny_mono h (fun v s₁ k => ?_) fun _ _ k => k)
  simp only [Bool.false_eq_true, if_false]
  exact .bind (wpAny_pure (.bindC (.holding (k.mono (fun vs s₂ k => .of (wpAny_pure k)) fun _ _ k => k))))
theorem wpC.splicedC {x : Sem Value} {rest : List (Bool × Sem Value)} {Q : List Value → Shared → Prop}
    (h : wpC M A x (fun v s₁ => wpAny M A (spliced rest) (fun vs s₂ => Q (v :: vs) s₂) E s₁) E s) : wpC M A (spliced ((false, x) :: rest)) Q E s := by
  rw [spliced]
  refine .bindC (h.mono (fun v s₁ k => ?_) fun _ _ k => k)
  simp only [Bool.false_eq_true, if_false]
  exact .bind (wpAny_pure (.bind (wpAny_holding (wpAny_mono k (fun vs s₂ k => .of (wpAny_pure k)) fun _ _ k => k))))
theorem wpC.tuple {elts : List Expr} {k : Nat} {pos : Pos} {Q : Value → Shared → Prop} (h : wpC M A (spliced (backTo pos (starEach elts env))) (fun vs s' => wpAny M A (newTuple vs) Q E s') E s) : wpC M A (eval (.Tuple elts k pos) env) Q E s := by
  show wpC M A (do standAt pos; newTuple (← spliced (backTo pos (starEach elts env)))) Q E s
  exact .bind (wpAny_standAt (.bindC (h.mono (fun vs s' k => .of k) fun _ _ k => k)))
theorem wpC.ret {e : Expr} {pos : Pos} {Q : Flow → Shared → Prop} (h : wpC M A (eval e env) (fun v => Q (.ret v)) E s) : wpC M A (exec (.Return (some e) pos) env) Q E s := by
  rw [exec_Return_some]
  exact .bind (wpAny_standAt (.bindC (h.mono (fun v s' k => .of (wpAny_pure k)) fun _ _ k => k)))
theorem wpC.assign {t value : Expr} {pos : Pos} {Q : Flow → Shared → Prop}
    (h : wpC M A (eval value env) (fun v s₁ => wpAny M A (assign t env v) (fun _ => Q .next) E s₁) E s)
    (hs : swapsWithSole [t] value pos.line env = pure false) (hw : swappedStores [t] value env = pure none) (ha : (assignEach [t] env).map (·.2) = [PySem.assign t env]) :
    wpC M A (exec (.Assign [t] value pos) env) Q E s := by
  rw [PyProof.Rows.exec_Assign]
  refine .bind (wpAny_standAt ?_)
  rw [hs]
  refine .bind (wpAny_pure ?_)
  rw [if_neg (by decide)]
  refine .bindC (h.mono (fun v s₁ k => ?_) fun _ _ k => k)
  rw [hw]
  refine .bind (wpAny_pure ?_)
  show wpC M A (do assignAll v ((assignEach [t] env).map (·.2)); pure .next) Q E s₁
  rw [ha]
  exact .bind (wpAny_mono k (fun _ _ k => .of (wpAny_pure k)) fun _ _ k => k)
theorem wpC.call_name {x : Str} {p pos : Pos} {args : List Expr} {Q : Value → Shared → Prop}
    (h : wpAny M A (eval (.Name x p) env) (fun f s₁ => wpC M A (callWith pos f [] (backTo pos (starEach args env)) []) Q E s₁) E s) : wpC M A (eval (.Call (.Name x p) args [] pos) env) Q E s := .bind h
theorem wpC.evalArgs {f : Value} {x : Sem Value} {rest : List (Bool × Sem Value)} {Q : Args → Shared → Prop}
    (h : wpC M A (spliced ((false, x) :: rest)) (fun vs s' => Q ⟨vs, []⟩ s') E s) : wpC M A (evalArgs f true ((false, x) :: rest) []) Q E s := by
  unfold PySem.evalArgs
  show wpC M A (spliced ((false, x) :: rest) >>= _) Q E s
  refine .bindC (h.mono (fun vs s' k => ?_) fun _ _ k => k)
  refine .holding ?_
  exact .bind (wpAny_pure (.bind (wpAny_pure (.of (wpAny_pure k)))))
theorem wpC.callWith_fn {pos : Pos} {a : Addr} {trees : List (Bool × Sem Value)} {Q : Value → Shared → Prop} (hplain : trees.any (·.1) = false) (hlen : trees.length ≤ 30)
    (h : wpC M A (PySem.evalArgs (.ref a) true trees []) (fun x s₁ => (∃ o fd, s₁.heap.get? a = some o ∧ o.data = .func fd) ∧ wpC M A (call (.ref a) x.pos x.kw) Q E s₁) E s) : wpC M A (PySem.callWith pos (.ref a) [] trees []) Q E s := by
  unfold PySem.callWith
  refine .bindC (.holding (h.mono (fun x s₁ k => ?_) fun _ _ k => k))
  obtain ⟨⟨o, fd, ho, hd⟩, k⟩ := k
  refine .bind (wpAny_standAt ?_)
  simp only [hplain, List.any_nil, Bool.or_false]
  refine .bind (m := keeperOf (.ref a)) ?_
  unfold keeperOf
  refine wpAny_bind (wpAny_load ho ?_)
  rw [hd]
  refine wpAny_pure ?_
  dsimp only
  rw [if_neg (by simp only [List.length_nil]; omega)]
  exact .bindC (.keep (k.mono (fun r s₂ k => .bind (wpAny_holding (wpAny_point (.of (wpAny_pure k))))) fun _ _ k => k))
theorem wpC.callWith_type {pos : Pos} {T : String} {trees : List (Bool × Sem Value)} {Q : Value → Shared → Prop} (hplain : trees.any (·.1) = false)
    (h : wpC M A (PySem.evalArgs (.type T) true trees []) (fun x s₁ => wpC M A (call (.type T) x.pos x.kw) Q E s₁) E s) : wpC M A (PySem.callWith pos (.type T) [] trees []) Q E s := by
  unfold PySem.callWith
  refine .bindC (.holding (h.mono (fun x s₁ k => ?_) fun _ _ k => k))
  refine .bind (wpAny_standAt ?_)
  simp only [hplain, List.any_nil, Bool.or_false]
  refine .bind (wpAny_pure ?_)
  dsimp only
  exact .bindC (k.mono (fun r s₂ k => .bind (wpAny_holding (wpAny_point (.of (wpAny_pure k))))) fun _ _ k => k)
theorem wpC.try {body : List Stmt} {handlers : List ExceptHandler} {pos : Pos} {Q : Flow → Shared → Prop} (hne : handlers.isEmpty = false)
    (h : wpC M A (execs body env) (fun f s' => f ≠ .next ∧ Q f s') (fun e s' => wpAny M A (noteFrame e env) (fun _ s₂ => wpAny M A (setFlight e none) (fun _ s₃ => wpAny M A (handleBy e env handlers) Q E s₃) E s₂) E s') s) :
    wpC M A (exec (.Try body handlers [] [] pos) env) Q E s := by
  show wpC M A (do standAt pos; tryStmt false (execs body env) handlers (execs [] env) [] env) Q E s
  refine .bind (wpAny_standAt ?_)
  unfold tryStmt
  dsimp only
  rw [if_pos (by rfl)]
  refine .bindC (.attempt (h.mono (fun f s' k => ?_) fun e s' k => ?_))
  · cases f with
    | next => exact absurd rfl k.1
    | _ => exact .of (wpAny_pure k.2)
  · refine .bind (wpAny_mono k (fun _ s₂ k => ?_) fun _ _ k => k)
    rw [if_neg (by rw [hne]; decide)]
    refine .bind (wpAny_mono k (fun _ s₃ k => ?_) fun _ _ k => k)
    rw [if_neg (by show ¬ (false && _) = true; exact fun k => nomatch k), if_neg (by decide)]
    exact .of k
end
section
variable {prog : Program} {w : World} {A : Around} {s : Shared} {R : Result → Shared → Prop} {E : Value → Shared → Prop} {env : Env}
/-- a for whose turns raise nothing -/
theorem codeC.forLoop {target : Expr} {it : Value} {body : List Stmt} (I : Nat → Shared → Prop)
    (turn : ∀ n s, I n s → wpAny (model prog w) A (pyNext it) (fun r s₁ => match r with
      | none => R (.ok .next) s₁
      | some v => wpAny (model prog w) A (assign target env v) (fun _ s₂ => wpC (model prog w) A (execs body env) (fun f s₃ => match f with
          | .next | .cont => ∃ m, m < n ∧ I m s₃
          | .brk => R (.ok .next) s₃
          | .ret v => R (.ok (.ret v)) s₃) NoE s₂) NoE s₁) NoE s)
    (n : Nat) (h : I n s) (ht : ∀ v, letOwnedTupleGo target it v = pure ()) : codeC (model prog w) A (.forLoop target it body [] env) R s := by
  induction n using Nat.strongRecOn generalizing s with
  | ind n ih =>
    refine .of_tree ?_
    show wpC _ A ((forTurn target it body [] env).onRaise (fun x => do noteFrame x env; theTreesLotGoes x)) _ _ s
    refine .onRaise (E := _) (wpC.mono (E' := _) (E := NoE) ?_ (fun _ _ k => k) fun _ _ k => k.elim)
    simp only [forTurn]
    refine .bind (wpAny_standAt (.bind (wpAny_onRaise (wpAny_mono (turn n s h) (fun r s₁ k => ?_) fun _ _ k => k.elim))))
    cases r with
    | none => exact .of (wpAny_pure ⟨rfl, .of (codeAny_block (by rw [execs]; exact wpAny_pure k))⟩)
    | some v =>
      refine .bind (wpAny_of_eq (ht v) ?_)
      refine .bind (wpAny_mono k (fun _ s₂ k => ?_) fun _ _ k => k)
      refine .bindC (k.mono (fun f s₃ k => ?_) fun _ _ k => k)
      cases f with
      | next => obtain ⟨m, hm, hI⟩ := k; exact .of (wpAny_pure ⟨rfl, ih m hm hI⟩)
      | cont => obtain ⟨m, hm, hI⟩ := k; exact .of (wpAny_pure ⟨rfl, ih m hm hI⟩)
      | brk => exact .of (wpAny_pure k)
      | ret v => exact .of (wpAny_pure k)
theorem wpC.for_ {target iter : Expr} {body : List Stmt} {pos : Pos} {Q : Flow → Shared → Prop}
    (h : wpAny (model prog w) A (eval iter env) (fun x s₁ => wpAny (model prog w) A (pyIter x) (fun it s₂ => codeC (model prog w) A (.forLoop target it body [] env) (fun r s' => match r with | .ok f => Q f s' | .error _ => False) s₂) E s₁) E s)
    (hs : ∀ x, foldedSetIterable iter env x = pure x) : wpC (model prog w) A (exec (.For target iter body [] pos) env) Q E s := by
  rw [exec_For]
  refine .bind (wpAny_standAt (.bind (wpAny_mono h (fun x s₁ k => .bind (wpAny_of_eq (hs x) (.bind (wpAny_standAt (.bind (wpAny_holding (wpAny_mono k (fun it s₂ k => ?_) fun _ _ k => k))))))) fun _ _ k => k)))
  unfold runOwn
  exact .onRaise (.run (k.mono fun r s' k => by cases r with | ok f => exact k | error e => exact k.elim))
end

theorem thread_endsC {prog : Program} {w : World} {t : Sem Fin} {s : Shared} {R : Result → Shared → Prop} (hreg : s.asleep)
    (h : wpC (model prog w) callerA t (fun fin s' => ∃ f, fin = .done f ∧ (R (.ok f) s' ∧ leftWithCleanup s'.gens = false)) (fun e s' => R (.error e) s' ∧ leftWithCleanup s'.gens = false) s) :
    ∃ n r s' s'', runN (denote table) prog w n s ⟨t, .builtin "claim.caller" {}, default, []⟩ = .halted (outcomeOf r) s' ∧
      schedN (denote table) prog w n (.single s ⟨t, .builtin "claim.caller" {}, default, []⟩) = .halted (outcomeOf r) s' ∧ s'.forget = s''.forget ∧ R r s'' := by
  have g := h ⟨.builtin "claim.caller" {}, none, none, [], none⟩ default caller_in (.inl rfl)
  obtain ⟨n, r, s₁, s₂, hs, hn, hfo, hR⟩ := wp_halts_full (M := model prog w) (R := R) hreg (Sem.wp_mono _ _ t (fun fin p' s' k => by obtain ⟨f, rfl, k⟩ := k; exact k) (fun _ _ _ k => k) default s g)
  exact ⟨n, r, s₂, s₁, hn, hs, hfo, hR⟩
theorem callFromC {c : ClaimW} {tree : List Value → Sem Fin} {w : World} {s : Shared} {free : Addr → Prop} {gens : Prop} {kept : Heap → Prop} (hz : s.asleep) (hgens : s.gens = #[])
    (hspec : ∀ args, c.pre args = true → WData.layableAll args = true → ∀ ord : List DictEntry → List DictEntry, (∀ l, (ord l).Perm l) →
      ∃ vs s₁, layAllW c.records (classAt s.heap) w.params ord args s = some (vs, s₁) ∧
        wpC (model c.prog w) callerA (tree vs) (fun fin s' => ∃ f, fin = .done f ∧ (c.Ends s args vs s₁ (.ok f) s' ∧ s'.os = s.os ∧ AllBare s'.gens ∧ kept s'.heap))
          (fun e s' => c.Ends s args vs s₁ (.error e) s' ∧ s'.os = s.os ∧ AllBare s'.gens ∧ kept s'.heap) s₁) :
    c.CallFrom (fun vs => ⟨tree vs, .builtin "claim.caller" {}, default, []⟩) w free gens kept s := by
  intro args hpre hlay ord hord
  obtain ⟨vs, s₁, hlaid, hcode⟩ := hspec args hpre hlay ord hord
  have hal := layAllW_rest _ _ _ hlaid
  obtain ⟨k, r, s', s'', hrun, hsched, hfo, hcase, hos, hkp⟩ := thread_endsC (R := fun r s' => c.Ends s args vs s₁ r s' ∧ s'.os = s.os ∧ kept s'.heap) (Shared.asleep_of_life hal.2.2.2 hz)
    (hcode.mono (fun fin s' ⟨f, e, k1, k2, k3, k4⟩ => ⟨f, e, ⟨k1, k2, k4⟩, leftWithCleanup_false_of_bare k3⟩) fun e s' ⟨k1, k2, k3, k4⟩ => ⟨⟨k1, k2, k4⟩, leftWithCleanup_false_of_bare k3⟩)
  obtain ⟨eh, _, _, eo, _⟩ := Shared.forget_eq hfo
  have hcase := hcase.congr eh
  have hkp : kept s'.heap := by first | exact eh ▸ hkp | (rw [eh] at hkp; exact hkp) | (rw [← eh] at hkp; exact hkp)
  rw [← eo] at hos
  have hlife : s'.heap.life = s.heap.life := (runN_life _ _ _ hrun).trans hal.2.2.2
  refine ⟨vs, s₁, hlaid, k, _, s', hsched, ?_, (fun _ i x hx => by rw [hgens] at hx; simp at hx), hkp, by rw [hlife], Shared.rest_eq hos⟩
  rcases hcase with ⟨v, rfl, d1, d2, d3, d4, d5⟩ | ⟨e, ob, cls, rfl, d1, d2, d3, d4, d5⟩
  · exact .inl ⟨v, rfl, d1, d2, d3, fun b o y _ => d4 b o y, d5⟩
  · exact .inr ⟨e, ob, cls, rfl, d1, d2, d3, d4, fun b o y _ => d5 b o y⟩
/-- what is to be walked, under the caller -/
abbrev WalkC (q : Program) (loose : List Str) (XP : (Str → Option Value) → Heap → Prop) (YP : World → Heap → Prop) (r : RowW) (d : DefRec) (kwd : List (Str × Expr)) : Prop :=
  ∀ (w : World) (s₀ s₁ : Shared) (mg mb : Str → Option Value), Ground q loose r.records XP w s₀ mg mb s₁.heap → YP w s₁.heap → ∀ (a : Addr) (o : Obj) (pm cd doc dV kV : Value), s₁.heap.get? a = some o →
    o.data = .func { docDef d.name d.params d.body d.scope pm cd doc with defaults := dV, kwdefaults := kV } → s₁.heap.CodeRec cd d.name → Dflts mg s₁.heap d.params kwd dV kV → mg d.name = some (.ref a) → s₁.gens = #[] →
    ∀ (args : List WData) (vals : List Value) (as : List Addr), r.claim.pre args = true → WData.layableAll args = true → ReadsAllW r.records (classAt s₀.heap) s₁.heap vals args as → WellAll w.params s₁.heap vals args → (∀ a ∈ as, (a == sysModules) = false) →
      wpC (model r.prog w) callerA (call (.ref a) vals) (fun v s' => GoodWG r.claim (classAt s₀.heap) (ExcName.means s₀.heap) args s₁ (.ok (.ret v)) s')
        (fun e s' => GoodWG r.claim (classAt s₀.heap) (ExcName.means s₀.heap) args s₁ (.error e) s') s₁
theorem PySem.W.holds_open {r : OpenRow} {q : Program} {loose : List Str} {Xt : Shared → Bool} {XP : (Str → Option Value) → Heap → Prop} {α : Type} {Yf : Shared → α} {Ya : World → α} {YP : World → Heap → Prop} {d : DefRec} {kwd : List (Str × Expr)} {N : Nat}
    (left₀ : ∀ w : World, (openEnds treeTable r.prog w N).map (fun s => (openSeen q loose (importedModules r.prog.main.body) Xt true s, Yf s)) = some (openGood q loose, Ya w)) (hY : ∀ w s, Yf s = Ya w → YP w s.heap) (hYk : ∀ w h h', YP w h → (∀ b o, h.get? b = some o → h'.get? b = some o) → YP w h')
    (hX : ∀ s, Xt s = true → XP (s.heap.nsMap mainGlobals) s.heap) (hXk : ∀ mg h h', XP mg h → (∀ b o, h.get? b = some o → h'.get? b = some o) → XP mg h')
    (hdef : defOf q r.name = some (d, kwd)) (hp : r.prog.theDef r.name = some (d.params, d.body, d.scope)) (hk : kwWritten? d.params.kwonlyargs d.params.kw_defaults = some kwd) (hRf : ∀ s, Xt s = true → RecFacts r.records s.heap) (hwr : (!r.writes || r.records.isEmpty) = true)
    (k1 : r.wellSaid = true) (ok : (chainsOk q && opensWell r.prog && (frees r.toRowW && r.within.isEmpty)) = true) (hb : r.prog.bare) (hw : r.toRowW.promised)
    (call : WalkC q loose XP YP r.toRowW d kwd) : r.Holds := by
  have left : LeftO r.prog q loose Xt Yf Ya N := left₀
  obtain ⟨o2, k5⟩ := Bool.and_eq_true_iff.mp ok
  obtain ⟨hch, o1⟩ := Bool.and_eq_true_iff.mp o2
  obtain ⟨k5, k6⟩ := Bool.and_eq_true_iff.mp k5
  obtain ⟨hsame, hu, ha, hap, hm⟩ := frees_parts k5
  refine ⟨k1, hw, ⟨hb, o1, by show r.toRowW.makers.map _ = []; rw [hm]; rfl⟩, hw.witness, fun w => ⟨(left.behind hX hch w).1, fun s' hs' => ?_⟩⟩
  obtain ⟨s₀, hf, hg0, s, hT, hz, hgens, hg, G00, y⟩ := (left.behind (XP := fun mg h => XP mg h ∧ RecFacts r.records h) (fun s hs => ⟨hX s hs, hRf s hs⟩) hch w).2 s' hs'
  have G0 : Ground q loose [] XP w s (s.heap.nsMap mainGlobals) (s.heap.nsMap builtinsNs) s.heap := ⟨G00.T, G00.B, G00.D, G00.TE, G00.TD, G00.W, G00.X.1, G00.cls, G00.has, G00.apart, G00.once, G00.K⟩
  have RF := G00.X.2
  refine ⟨s₀, hf, hg0, s, hT, fun n hn => ?_, RF.1, RF.2.1, ?_⟩
  · obtain rfl : n = r.name := by split at hn <;> simp_all
    exact pinned_of_view hg G0 hdef hp hk
  have hgens : s.gens = #[] := Array.eq_empty_of_size_eq_zero (beq_iff_eq.mp hgens)
  have G : Ground q loose r.records XP w s _ _ s.heap := RF.ground G0
  refine callFromC (c := r.toRowW.claim) hz hgens fun args hpre hlay ord hord => ?_
  obtain ⟨⟨vs, s₁⟩, hlaid⟩ := Option.isSome_iff_exists.mp (layAllW_isSome (P := w.params) (ord := ord) G.has args r.args s (pre_splitW hpre).1)
  have keeps := layAllW_keeps _ _ _ hlaid
  have hal := layAllW_rest _ _ _ hlaid
  obtain ⟨as, hrd, hin, hold⟩ := reads_layAllW hord _ _ _ hlaid hlay s₁.heap (fun _ _ e => e)
  have L : Laid r.records w s s₁ args vs as := ⟨⟨ord, hord, hlaid⟩, hrd, hin, hold, keeps, hal.1.trans hgens, hal.2.2.1⟩
  have G₁ := G.keeps hXk keeps
  obtain ⟨a, o, pm, cd, doc, dV, kV, h1, h2, h3, h4, h5⟩ := G₁.fn hdef
  have h := call w s s₁ _ _ G₁ (hYk _ _ _ (hY w s y) keeps) a o pm cd doc dV kV h2 h3 h4 h5 (defOf_name hdef ▸ h1) L.gens args vs as hpre hlay L.reads L.well (L.low G.low)
  have hi := ident_freeW hu ha hap
  have hwi : r.toRowW.claim.within = [] := List.isEmpty_iff.mp k6
  refine ⟨vs, s₁, hlaid, ?_⟩
  refine .bind (wpAny_nsGet G₁.T.g ?_)
  rw [show s.heap.nsMap mainGlobals r.name = some (.ref a) from h1]
  refine .bindC (h.mono (fun v s' g => .of (wpAny_pure ⟨_, rfl, ?_⟩)) fun e s' g => ?_)
  · have z := g.laid (c := r.toRowW.claim) hsame hwi hi L
    exact ⟨z.1, z.2.1, z.2.2, fun q => ⟨namesKept_of hT hg _ keeps g.2.1.old, noTable hwr q⟩⟩
  · have z := g.laid (c := r.toRowW.claim) hsame hwi hi L
    exact ⟨z.1, z.2.1, z.2.2, fun q => ⟨namesKept_of hT hg _ keeps g.2.1.old, noTable hwr q⟩⟩

set_option maxHeartbeats 8000000 in
open_top hd for PySem.Challenge.rw_rs0085_01.row

abbrev Led := List (Addr × Obj)
abbrev Ret (h₀ : Heap) (L : Addr) (m : Str → Option Value) (news : Led) (s : Shared) (Q : Value → Shared → Prop) (P : Led → Value → Prop) : Prop :=
  ∀ (r : Value) (tl : Led) (h' : Heap) (tk' : Nat), Fr h₀ L h' m → News h₀ L h' (tl ++ news) → (∀ q ∈ news, ∀ p ∈ tl, q.1 < p.1) → P tl r → Q r { s with heap := h', toks := tk' }

/-- a call of the def at f with vs gives back r and lays tl onto the ledger, with P -/
def Ct (w : World) (f : Addr) (vs : List Value) (news : Led) (d u : Nat) (P : Led → Value → Prop) : Prop :=
  ∀ (mean : ExcName → Option Value) (mg mb : Str → Option Value) (dp un : Nat) (gd : Option (List Code)) (cn : Str) (cs : Scope) (a : Addr) (ccd : Value) (cl : List (Str × Addr)) (outer : List Env) (A₀ : Around) (base h₀ : Heap) (L : Addr) (m : Str → Option Value) (s : Shared) (Q E : Value → Shared → Prop),
    Below A₀ base outer h₀ → Fr h₀ L s.heap m → (hd.heap_1 w.params).In h₀ → News h₀ L s.heap news → Top hd.view_1 (looseW hd.view_1 []) mean mg mb h₀ → cs.kind = .function →
    dp + d < recursionLimit → un + u < cLine → Ret h₀ L m news s Q P →
      wpAny (model PySem.Challenge.pw_rs0085_01 w) (ktrTop dp un gd cn cs L a ccd cl outer) (call (.ref f) vs) Q E s

theorem fillIt {G : Prop} (h : (PySem.Challenge.rw_rs0085_01 = PySem.Challenge.rw_rs0085_01 ∧ hd.heap_1 = hd.heap_1) → G) : G := h ⟨rfl, rfl⟩

abbrev tupO (vs : List Value) : Obj := { cls := .type "tuple", data := .seq vs.toArray }

/-- at a way's end: one new object handed back -/
theorem end1 {h₀ h' : Heap} {L D : Addr} {m : Str → Option Value} {news all : Led} {s : Shared} {Q : Value → Shared → Prop} {P : Led → Value → Prop} {o : Obj} {tk' : Nat}
    (hret : Ret h₀ L m news s Q P) (F : Fr h₀ L h' m) (N : News h₀ L h' ((D, o) :: all)) (hs : ∀ p ∈ news, p ∈ all) (lt : ∀ p ∈ news, p.1 < D) (hP : P [(D, o)] (.ref D)) :
    Q (.ref D) { s with heap := h', toks := tk' } :=
  hret _ [(D, o)] _ _ F (fun p hp => N p ((List.mem_cons.mp hp).elim (fun e => e ▸ .head _) fun h => .tail _ (hs p h))) (fun q hq p hp => by rw [List.mem_singleton.mp hp]; exact lt q hq) hP
/-- at a way's end: a plain value handed back -/
theorem end0 {h₀ h' : Heap} {L : Addr} {m : Str → Option Value} {news all : Led} {s : Shared} {Q : Value → Shared → Prop} {P : Led → Value → Prop} {r : Value} {tk' : Nat}
    (hret : Ret h₀ L m news s Q P) (F : Fr h₀ L h' m) (N : News h₀ L h' all) (hs : ∀ p ∈ news, p ∈ all) (hP : P [] r) :
    Q r { s with heap := h', toks := tk' } :=
  hret _ [] _ _ F (fun p hp => N p (hs p hp)) (fun _ _ _ hp => nomatch hp) hP
theorem Ct.use {w : World} {f : Addr} {vs : List Value} {news : Led} {d u : Nat} {P : Led → Value → Prop} (C : Ct w f vs news d u P)
    {mean : ExcName → Option Value} {mg mb : Str → Option Value} {dp un : Nat} {gd : Option (List Code)} {cn : Str} {cs : Scope} {a : Addr} {ccd : Value} {cl : List (Str × Addr)} {outer : List Env} {A₀ : Around} {base h₀ : Heap} {L : Addr} {m : Str → Option Value} {s : Shared} {Q E : Value → Shared → Prop}
    (B : Below A₀ base outer h₀) (F : Fr h₀ L s.heap m) (X : (hd.heap_1 w.params).In h₀) (N : News h₀ L s.heap news) (T : Top hd.view_1 (looseW hd.view_1 []) mean mg mb h₀) (hk : cs.kind = .function)
    (hd : dp + d < recursionLimit) (hu : un + u < cLine) (ret : Ret h₀ L m news s Q P) :
    wpAny (model PySem.Challenge.pw_rs0085_01 w) (ktrTop dp un gd cn cs L a ccd cl outer) (call (.ref f) vs) Q E s := C _ _ _ _ _ _ _ _ _ _ _ _ _ _ _ _ _ _ _ _ B F X N T hk hd hu ret
theorem lt_tl1 {news : Led} {D : Addr} {o : Obj} (h : ∀ q ∈ news, ∀ p ∈ [(D, o)], q.1 < p.1) : ∀ q ∈ news, q.1 < D := fun q hq => h q hq _ (.head _)
theorem lt1 {P : Prop} {D : Addr} {news : Led} (h : P ∧ AllLt D news) : ∀ p ∈ news, p.1 < D := ktn_ltOf h.2
theorem lt2 {P R : Prop} {D : Addr} {news : Led} (h : P ∧ R ∧ AllLt D news) : ∀ p ∈ news, p.1 < D := ktn_ltOf h.2.2
theorem lt3 {P R S : Prop} {D : Addr} {news : Led} (h : P ∧ R ∧ S ∧ AllLt D news) : ∀ p ∈ news, p.1 < D := ktn_ltOf h.2.2.2
theorem lt4 {P R S U : Prop} {D : Addr} {news : Led} (h : P ∧ R ∧ S ∧ U ∧ AllLt D news) : ∀ p ∈ news, p.1 < D := ktn_ltOf h.2.2.2.2
/-- the walk stops at it -/
def Hold (P : Prop) : Prop := P
theorem Hold.un {P : Prop} (h : Hold P) : P := h

structure C3 where
  a : UInt64
  b : UInt64
  c : UInt64
abbrev toI (x : UInt64) : Int := Flt.toInt Float64.truncOf x
abbrev feq (x y : UInt64) : Bool := Float64.cmp x y == some .eq
abbrev h6 (h : UInt64) : UInt64 := Float64.mul h 4618441417868443648
abbrev hfr (h : UInt64) : UInt64 := Float64.sub (h6 h) (Float64.ofInt (toI (h6 h)))
abbrev hP (s v : UInt64) : UInt64 := Float64.mul v (Float64.sub 4607182418800017408 s)
abbrev hQ (h s v : UInt64) : UInt64 := Float64.mul v (Float64.sub 4607182418800017408 (Float64.mul s (hfr h)))
abbrev hT (h s v : UInt64) : UInt64 := Float64.mul v (Float64.sub 4607182418800017408 (Float64.mul s (Float64.sub 4607182418800017408 (hfr h))))
def hsvToRgb (h s v : UInt64) : C3 :=
  if feq s 0 = true then ⟨v, v, v⟩
  else if (toI (h6 h)).fmod 6 = 0 then ⟨v, hT h s v, hP s v⟩
  else if (toI (h6 h)).fmod 6 = 1 then ⟨hQ h s v, v, hP s v⟩
  else if (toI (h6 h)).fmod 6 = 2 then ⟨hP s v, v, hT h s v⟩
  else if (toI (h6 h)).fmod 6 = 3 then ⟨hP s v, hQ h s v, v⟩
  else if (toI (h6 h)).fmod 6 = 4 then ⟨hT h s v, hP s v, v⟩
  else ⟨v, hP s v, hQ h s v⟩
section
variable {h s v : UInt64}
theorem hsvG (e : feq s 0 = true) : hsvToRgb h s v = ⟨v, v, v⟩ := by unfold hsvToRgb; rw [if_pos e]
theorem hsvN (e : feq s 0 = false) {x : C3} (hx : (if (toI (h6 h)).fmod 6 = 0 then ⟨v, hT h s v, hP s v⟩
  else if (toI (h6 h)).fmod 6 = 1 then ⟨hQ h s v, v, hP s v⟩
  else if (toI (h6 h)).fmod 6 = 2 then ⟨hP s v, v, hT h s v⟩
  else if (toI (h6 h)).fmod 6 = 3 then ⟨hP s v, hQ h s v, v⟩
  else if (toI (h6 h)).fmod 6 = 4 then ⟨hT h s v, hP s v, v⟩
  else (⟨v, hP s v, hQ h s v⟩ : C3)) = x) : hsvToRgb h s v = x := by unfold hsvToRgb; rw [if_neg (by simp [e])]; exact hx
theorem hsv0 (e : feq s 0 = false) (i : (toI (h6 h)).fmod 6 = 0) : hsvToRgb h s v = ⟨v, hT h s v, hP s v⟩ := hsvN e (by rw [i]; rfl)
theorem hsv1 (e : feq s 0 = false) (i : (toI (h6 h)).fmod 6 = 1) : hsvToRgb h s v = ⟨hQ h s v, v, hP s v⟩ := hsvN e (by rw [i]; rfl)
theorem hsv2 (e : feq s 0 = false) (i : (toI (h6 h)).fmod 6 = 2) : hsvToRgb h s v = ⟨hP s v, v, hT h s v⟩ := hsvN e (by rw [i]; rfl)
theorem hsv3 (e : feq s 0 = false) (i : (toI (h6 h)).fmod 6 = 3) : hsvToRgb h s v = ⟨hP s v, hQ h s v, v⟩ := hsvN e (by rw [i]; rfl)
theorem hsv4 (e : feq s 0 = false) (i : (toI (h6 h)).fmod 6 = 4) : hsvToRgb h s v = ⟨hT h s v, hP s v, v⟩ := hsvN e (by rw [i]; rfl)
theorem hsv5 (e : feq s 0 = false) (i : (toI (h6 h)).fmod 6 = 5) : hsvToRgb h s v = ⟨v, hP s v, hQ h s v⟩ := hsvN e (by rw [i]; rfl)
end
/-- the rgb tuple on the ledger -/
def Col (c : C3) (o : Obj) : Prop := ∃ t1 t2 t3, o = tupO [.float c.a t1, .float c.b t2, .float c.c t3]

def fmax (x y : UInt64) : UInt64 := if Float64.cmp x y == some .lt then y else x
def fmin (x y : UInt64) : UInt64 := if Float64.cmp y x == some .lt then y else x
abbrev mx (r g b : UInt64) : UInt64 := fmax (fmax r g) b
abbrev mn (r g b : UInt64) : UInt64 := fmin (fmin r g) b
abbrev rg (r g b : UInt64) : UInt64 := Float64.sub (mx r g b) (mn r g b)
abbrev cc (r g b x : UInt64) : UInt64 := Float64.div (Float64.sub (mx r g b) x) (rg r g b)
abbrev fin6 (h : UInt64) : UInt64 := (Float64.divmod (Float64.div h 4618441417868443648) 4607182418800017408).2
def rgbToHsv (r g b : UInt64) : C3 :=
  if feq (mn r g b) (mx r g b) = true then ⟨0, 0, mx r g b⟩
  else if feq r (mx r g b) = true then ⟨fin6 (Float64.sub (cc r g b b) (cc r g b g)), Float64.div (rg r g b) (mx r g b), mx r g b⟩
  else if feq g (mx r g b) = true then ⟨fin6 (Float64.sub (Float64.add 4611686018427387904 (cc r g b r)) (cc r g b b)), Float64.div (rg r g b) (mx r g b), mx r g b⟩
  else ⟨fin6 (Float64.sub (Float64.add 4616189618054758400 (cc r g b g)) (cc r g b r)), Float64.div (rg r g b) (mx r g b), mx r g b⟩
section
variable {r g b : UInt64}
theorem rgbG (e : feq (mn r g b) (mx r g b) = true) : rgbToHsv r g b = ⟨0, 0, mx r g b⟩ := by unfold rgbToHsv; rw [if_pos e]
theorem rgb0 (e : feq (mn r g b) (mx r g b) = false) (e1 : feq r (mx r g b) = true) : rgbToHsv r g b = ⟨fin6 (Float64.sub (cc r g b b) (cc r g b g)), Float64.div (rg r g b) (mx r g b), mx r g b⟩ := by
  unfold rgbToHsv; rw [if_neg (by simp [e]), if_pos e1]
theorem rgb1 (e : feq (mn r g b) (mx r g b) = false) (e1 : feq r (mx r g b) = false) (e2 : feq g (mx r g b) = true) : rgbToHsv r g b = ⟨fin6 (Float64.sub (Float64.add 4611686018427387904 (cc r g b r)) (cc r g b b)), Float64.div (rg r g b) (mx r g b), mx r g b⟩ := by
  unfold rgbToHsv; rw [if_neg (by simp [e]), if_neg (by simp [e1]), if_pos e2]
theorem rgb2 (e : feq (mn r g b) (mx r g b) = false) (e1 : feq r (mx r g b) = false) (e2 : feq g (mx r g b) = false) : rgbToHsv r g b = ⟨fin6 (Float64.sub (Float64.add 4616189618054758400 (cc r g b g)) (cc r g b r)), Float64.div (rg r g b) (mx r g b), mx r g b⟩ := by
  unfold rgbToHsv; rw [if_neg (by simp [e]), if_neg (by simp [e1]), if_neg (by simp [e2])]
end
abbrev near (x : UInt64) (n : Int) : UInt64 := Float64.add (Float64.mul x (Float64.ofInt n)) 4602678819172646912
abbrev nearI (x : UInt64) (n : Int) : Int := toI (near x n)
structure RgbOk (r g b : UInt64) : Prop where
  h1 : (Float64.cmp (mn r g b) (mx r g b) == some .eq) = false → Float64.isZero (mx r g b) = false
  h2 : (Float64.cmp (mn r g b) (mx r g b) == some .eq) = false → Float64.isZero (rg r g b) = false
structure ReadOk (y : C3) : Prop where
  f1 : Float64.isFinite (near y.a 48) = true
  f2 : Float64.isFinite (near y.b 4) = true
  f3 : Float64.isFinite (near y.c 16) = true


section
variable {prog : Program} {w : World} {A : Around} {E : Value → Shared → Prop} {s : Shared} {Q : Value → Shared → Prop}
theorem min3_args (a b c : Value) : argsOk "min" ⟨[a, b, c], []⟩ := by unfold argsOk; kernel_rfl
theorem min3_walk {a b c : Value}
    (h : wpAny (model prog w) A.in1 (pyIter (.ref s.heap.objs.size)) (fun it s₂ => ∃ I fp wr n P St bt, it = .ref I ∧ Walks prog w A.in1 I fp wr n P St ∧ St 0 s₂.heap ∧ (∀ b ∈ fp, b < s₂.heap.objs.size) ∧ 0 < n ∧ CmpOf prog w A.in1 .Lt P bt ∧
      ∀ v h' tk, P (argBest bt (n - 1)) v → (∀ b o, b ∉ wr → s₂.heap.get? b = some o → h'.get? b = some o) → Q v { s₂ with heap := h', toks := tk }) E
      { s with heap := s.heap.push { cls := .type "tuple", data := .seq #[a, b, c] } }) :
    wpAny (model prog w) A (call (.builtin "min") [a, b, c]) Q E s := by
  have hname : (toString "min" ++ toString ".loop" : String) = "min.loop" := by decide
  refine call_function_tree F.kind_min F.plain_min F.entry_min (min3_args _ _ _) ?_
  show wpAny _ A.in1 (Builtin.Builtins.bindParams "min" ["key", "default"] 0 ⟨[], []⟩ >>= _) _ _ s
  refine wpAny_bind (wpAny_of_eq (show Builtin.Builtins.bindParams "min" ["key", "default"] 0 ⟨[], []⟩ = pure [none, none] from rfl) ?_)
  show wpAny _ A.in1 (newTuple [a, b, c] >>= _) _ _ s
  refine wpAny_bind (wpAny_newObj_type ?_)
  refine wpAny_bind (wpAny_mono h (fun it s₂ h₂ => ?_) fun _ _ e => e)
  obtain ⟨I, fp, wr, n, P, St, bt, rfl, W, hst, hfp, hn, hcmp, hQ⟩ := h₂
  refine wpAny_bind (wpAny_newObj_type ?_)
  have hSf : s₂.heap.objs.size ∉ fp := fun hm => Nat.lt_irrefl _ (hfp _ hm)
  rw [hname]
  refine wpAny_pure ⟨plainId_quiet F.plain_min_loop _, codeAny_min_loop_first W bt hcmp s₂.heap.objs.size hSf hn (W.frame _ _ _ hst fun b _ o e => Heap.get?_push_of_some _ e) (Heap.get?_push_size _ rfl) fun v h' tk hP hk => ?_⟩
  exact hQ v h' tk hP fun b o hbw e => hk b o hbw (Nat.ne_of_lt (Heap.lt_size e)) (Heap.get?_push_of_some _ e)

variable {x y z : UInt64} {t u v : Tok}
theorem three_size (a b c : Value) : (s.heap.push { cls := .type "tuple", data := .seq #[a, b, c] }).objs.size = s.heap.objs.size + 1 := Heap.size_push ..
theorem three_fp {a b c : Value} : ∀ d ∈ [(s.heap.push { cls := .type "tuple", data := .seq #[a, b, c] }).objs.size, s.heap.objs.size], d < ((s.heap.push { cls := .type "tuple", data := .seq #[a, b, c] }).push ({ cls := .type "tuple_iterator", data := .fields #[.ref s.heap.objs.size, rawInt 0] } : Obj)).objs.size := by
  intro d hd
  rw [Heap.size_push, three_size]
  rcases List.mem_cons.mp hd with rfl | hd
  · rw [three_size]; omega
  · rcases List.mem_cons.mp hd with rfl | hd
    · omega
    · cases hd
theorem three_num {vs : Array Value} (h : vs = #[.float x t, .float y u, .float z v]) : ∀ q ∈ vs, Flt.NumV q := by
  subst h
  intro q hq
  simp only [List.mem_toArray, List.mem_cons, List.not_mem_nil, or_false] at hq
  rcases hq with rfl | rfl | rfl <;> constructor
theorem max3 (hh : A.handled = none) (h : ∀ h' tk tv, (∀ d o, s.heap.get? d = some o → h'.get? d = some o) → Q (.float (fmax (fmax x y) z) tv) { s with heap := h', toks := tk }) :
    wpAny (model prog w) A (call (.builtin "max") [.float x t, .float y u, .float z v]) Q E s := by
  have hT : (s.heap.push { cls := .type "tuple", data := .seq #[.float x t, .float y u, .float z v] }).IsTuple s.heap.objs.size #[.float x t, .float y u, .float z v] := ⟨_, Heap.get?_push_size _ rfl, rfl, 0, rfl⟩
  refine call_max_three (wpAny_pyIter_tuple hT ?_)
  refine ⟨_, [_, s.heap.objs.size], [_], _, _, _, _, rfl, Walks.tuple (A := A.in1) hh _ s.heap.objs.size (by rw [three_size]; exact Nat.ne_of_lt (Nat.lt_succ_self _)) #[.float x t, .float y u, .float z v],
    ⟨⟨_, Heap.get?_push_size _ rfl, rfl, rfl⟩, hT.push _⟩, fun d hd => ?_, by simp, Flt.cmpOf_gt _ (three_num rfl), fun q h' tk hP hk => ?_⟩
  · exact three_fp d hd
  · have hold : ∀ d o, s.heap.get? d = some o → h'.get? d = some o := fun d o e => by
      refine hk d o (fun hm => ?_) (Heap.get?_push_of_some _ (Heap.get?_push_of_some _ e))
      rcases List.mem_cons.mp hm with e1 | hm
      · have := Heap.lt_size e; rw [e1, three_size] at this; exact Nat.lt_irrefl _ (Nat.lt_of_succ_lt this)
      · cases hm
    have hv : ∃ tv, q = .float (fmax (fmax x y) z) tv := by
      unfold fmax
      cases c1 : (Float64.cmp x y == some .lt) <;> cases c2 : (Float64.cmp x z == some .lt) <;> cases c3 : (Float64.cmp y z == some .lt) <;> simp [argBest, Flt.ltV, c1, c2, c3] at hP <;> subst hP <;> simp [c1, c2, c3]
    obtain ⟨tv, rfl⟩ := hv
    exact h h' tk tv hold
theorem min3 (hh : A.handled = none) (h : ∀ h' tk tv, (∀ d o, s.heap.get? d = some o → h'.get? d = some o) → Q (.float (fmin (fmin x y) z) tv) { s with heap := h', toks := tk }) :
    wpAny (model prog w) A (call (.builtin "min") [.float x t, .float y u, .float z v]) Q E s := by
  have hT : (s.heap.push { cls := .type "tuple", data := .seq #[.float x t, .float y u, .float z v] }).IsTuple s.heap.objs.size #[.float x t, .float y u, .float z v] := ⟨_, Heap.get?_push_size _ rfl, rfl, 0, rfl⟩
  refine min3_walk (wpAny_pyIter_tuple hT ?_)
  refine ⟨_, [_, s.heap.objs.size], [_], _, _, _, _, rfl, Walks.tuple (A := A.in1) hh _ s.heap.objs.size (by rw [three_size]; exact Nat.ne_of_lt (Nat.lt_succ_self _)) #[.float x t, .float y u, .float z v],
    ⟨⟨_, Heap.get?_push_size _ rfl, rfl, rfl⟩, hT.push _⟩, fun d hd => ?_, by simp, Flt.cmpOf_lt _ (three_num rfl), fun q h' tk hP hk => ?_⟩
  · exact three_fp d hd
  · have hold : ∀ d o, s.heap.get? d = some o → h'.get? d = some o := fun d o e => by
      refine hk d o (fun hm => ?_) (Heap.get?_push_of_some _ (Heap.get?_push_of_some _ e))
      rcases List.mem_cons.mp hm with e1 | hm
      · have := Heap.lt_size e; rw [e1, three_size] at this; exact Nat.lt_irrefl _ (Nat.lt_of_succ_lt this)
      · cases hm
    have hv : ∃ tv, q = .float (fmin (fmin x y) z) tv := by
      unfold fmin
      cases c1 : (Float64.cmp y x == some .lt) <;> cases c2 : (Float64.cmp z x == some .lt) <;> cases c3 : (Float64.cmp z y == some .lt) <;> simp [argBest, Flt.ltV, c1, c2, c3] at hP <;> subst hP <;> simp [c1, c2, c3]
    obtain ⟨tv, rfl⟩ := hv
    exact h h' tk tv hold
variable {h₀ : Heap} {L : Addr} {m : Str → Option Value} {news : Led}
theorem max3_K (hh : A.handled = none) (F : Fr h₀ L s.heap m) (N : News h₀ L s.heap news)
    (h : ∀ h' tk tv, Fr h₀ L h' m → News h₀ L h' news → Q (.float (fmax (fmax x y) z) tv) { s with heap := h', toks := tk }) :
    wpAny (model prog w) A (call (.builtin "max") [.float x t, .float y u, .float z v]) Q E s :=
  max3 hh fun h' tk tv kp => h h' tk tv (F.grownK kp) (N.grown kp)
theorem min3_K (hh : A.handled = none) (F : Fr h₀ L s.heap m) (N : News h₀ L s.heap news)
    (h : ∀ h' tk tv, Fr h₀ L h' m → News h₀ L h' news → Q (.float (fmin (fmin x y) z) tv) { s with heap := h', toks := tk }) :
    wpAny (model prog w) A (call (.builtin "min") [.float x t, .float y u, .float z v]) Q E s :=
  min3 hh fun h' tk tv kp => h h' tk tv (F.grownK kp) (N.grown kp)
end
theorem tupN {h₀ h : Heap} {L a : Addr} {news : Led} {vs : List Value} {n : Nat} (N : News h₀ L h news) (hm : (a, { cls := .type "tuple", data := .seq vs.toArray n }) ∈ news) : IsTup h a vs.toArray := ⟨_, (N _ hm).1, rfl, n, rfl⟩
theorem tup_item {prog : Program} {w : World} {A : Around} {E : Value → Shared → Prop} {s : Shared} {Q : Value → Shared → Prop} {h₀ : Heap} {L a : Addr} {news : Led} {vs : List Value} {n : Nat} {value slice : Expr} {k : Int} {u : Tok} {v : Value}
    (N : News h₀ L s.heap news) (hm : (a, { cls := .type "tuple", data := .seq vs.toArray n }) ∈ news) (h0 : 0 ≤ k) (hk : k < 1000) (hx : vs[k.toNat]? = some v)
    (hs : subscripted slice false (.ref a) (.int k u) = operate [.ref a, .int k u] (getItem (.ref a) (.int k u))) (h : Q v s) :
    wpAny (model prog w) A (subscriptTail value slice (.ref a) (.int k u)) Q E s := by
  have hlt : k.toNat < vs.length := by
    cases Nat.lt_or_ge k.toNat vs.length with
    | inl h => exact h
    | inr h => rw [List.getElem?_eq_none h] at hx; cases hx
  refine item_tupleT (tupN N hm) (by omega) (by omega) (j := k.toNat) ?_ hx h hs
  unfold seqIndex?
  rw [if_neg (by omega : ¬ k < 0), if_pos (by simp; omega)]
section
variable {prog : Program} {w : World} {A : Around} {E : Value → Shared → Prop} {s : Shared} {Q : Value → Shared → Prop} {h₀ : Heap} {L a : Addr} {news : Led} {n : Nat} {value slice : Expr} {k : Int} {u : Tok}
theorem lstN {h : Heap} {vs : List Value} (N : News h₀ L h news) (hm : (a, { cls := .type "list", data := .seq vs.toArray n }) ∈ news) : h.IsList a vs.toArray := ⟨_, (N _ hm).1, rfl, n, rfl⟩
theorem lst_item {vs : List Value} (N : News h₀ L s.heap news) (hm : (a, { cls := .type "list", data := .seq vs.toArray n }) ∈ news) (h0 : 0 ≤ k) (hk : k < 1000) (hk1 : k < vs.length)
    (hs : subscripted slice false (.ref a) (.int k u) = operate [.ref a, .int k u] (getItem (.ref a) (.int k u))) (h : ∀ v, vs[k.toNat]? = some v → Q v s) :
    wpAny (model prog w) A (subscriptTail value slice (.ref a) (.int k u)) Q E s := by
  have hL := lstN N hm
  have hx : vs[k.toNat]? = some (vs[k.toNat]'(by omega)) := List.getElem?_eq_getElem (by omega)
  exact tail_any hL.typeIs slot_list_getitem.lookup (wpAny_getItem_list hL h0 (by omega) (by simp [hx]) (h _ hx)) hs
theorem lst_item3 {v0 v1 v2 : Value} (N : News h₀ L s.heap news) (hm : (a, { cls := .type "list", data := .seq #[v0, v1, v2] n }) ∈ news) (h0 : 0 ≤ k) (hk : k ≤ 2)
    (hs : subscripted slice false (.ref a) (.int k u) = operate [.ref a, .int k u] (getItem (.ref a) (.int k u))) (q0 : k = 0 → Q v0 s) (q1 : k = 1 → Q v1 s) (q2 : k = 2 → Q v2 s) :
    wpAny (model prog w) A (subscriptTail value slice (.ref a) (.int k u)) Q E s := by
  refine lst_item (vs := [v0, v1, v2]) N hm h0 (by omega) (by simp; omega) hs fun v hv => ?_
  have : k = 0 ∨ k = 1 ∨ k = 2 := by omega
  rcases this with rfl | rfl | rfl <;> cases hv
  · exact q0 rfl
  · exact q1 rfl
  · exact q2 rfl
end
section
variable {prog : Program} {w : World} {A : Around} {E : Value → Shared → Prop} {s : Shared} {Q : Value → Shared → Prop} {x y z : Str} {t u v : Tok}
theorem add_m (hsz : x.length + y.length ≤ sizeLine) (h : ∀ t' k, s.toks ≤ k → Q (.str (x ++ y) t') { s with toks := k }) : wpAny (model prog w) A (binaryOp .Add (.str x t) (.str y u)) Q E s :=
  wpAny_with_toks (Nat.le_refl s.toks) (PyProof.Rows.add_str (fun t' k hk => h t' k hk) hsz)
theorem repl_m (hu : 0 < u) (hv : 0 < v) (huv : u ≠ v) (hyz : (y == z) = false) (hx : x.length ≤ 1048576) (hz : z.length ≤ 14)
    (h : ∀ t' k, s.toks ≤ k → Q (.str (Txt.replace x y z) t') { s with toks := k }) : wpAny (model prog w) A (call (.builtin "str.replace") [.str x t, .str y u, .str z v]) Q E s :=
  wpAny_with_toks (Nat.le_refl s.toks) (SC.replaceW (by exact Nat.ne_of_gt hu) (by exact Nat.ne_of_gt hv) huv hyz hx hz (fun t' k hk => h t' k hk))
end
section
variable {prog : Program} {w : World} {A : Around} {E : Value → Shared → Prop} {s : Shared} {Q : Value → Shared → Prop} {x : Str} {t u : Tok} {value slice : Expr}
theorem str_item {i : Int} (h0 : 0 ≤ i) (h2 : i < x.length) (hx : x.length ≤ 1048576)
    (hs : subscripted slice false (.str x t) (.int i u) = operate [.str x t, .int i u] (getItem (.str x t) (.int i u)))
    (ht : ∀ r, letTemporaryGo value (.str x t) r = pure ())
    (h : (Txt.item x i).length = 1 → Q (.str (Txt.item x i) s.toks) { s with toks := s.toks + 1 }) :
    wpAny (model prog w) A (subscriptTail value slice (.str x t) (.int i u)) Q E s :=
  item_str (fitsSsize_of (N := 9223372036854775808) (by omega) (by omega) (Int.le_refl _)) (by omega) h2 (fun _ => h rfl) hs ht
end
section
variable {prog : Program} {w : World} {A : Around} {E : Value → Shared → Prop} {s : Shared} {Q : Value → Shared → Prop} {x y : Str} {t u : Tok} {value slice : Expr} {a b : Nat}
theorem item_g {i : Int} (h0 : 0 ≤ i) (h2 : i < x.length) (hx : x.length ≤ 1048576)
    (hs : subscripted slice false (.str x t) (.int i u) = operate [.str x t, .int i u] (getItem (.str x t) (.int i u)))
    (ht : ∀ r, letTemporaryGo value (.str x t) r = pure ())
    (h : ∀ z, z = Txt.item x i → z.length ≤ 1 → Q (.str z s.toks) { s with toks := s.toks + 1 }) :
    wpAny (model prog w) A (subscriptTail value slice (.str x t) (.int i u)) Q E s :=
  str_item h0 h2 hx hs ht fun e => h _ rfl (Nat.le_of_eq e)
theorem add_g (hx : x.length ≤ a) (hy : y.length ≤ b) (hab : a + b ≤ 16777216) (h : ∀ z, z = x ++ y → z.length ≤ a + b → ∀ t' k, s.toks ≤ k → Q (.str z t') { s with toks := k }) :
    wpAny (model prog w) A (binaryOp .Add (.str x t) (.str y u)) Q E s :=
  add_m (by rw [sizeLine_eq]; omega) fun t' k hk => h _ rfl (by rw [Str.length_append]; omega) t' k hk
theorem mul_g {i : Int} (hx : x.length ≤ a) (ha : a ≤ 16) (h0 : 0 ≤ i) (hi : i ≤ 100) (h : ∀ z, z = Txt.mul x i → z.length ≤ a * i.toNat → ∀ t' k, s.toks ≤ k → Q (.str z t') { s with toks := k }) :
    wpAny (model prog w) A (binaryOp .Mult (.str x t) (.int i u)) Q E s :=
  wpAny_with_toks (Nat.le_refl s.toks) (KXi.mul (n := x.length) rfl (by omega) (by omega) (by omega) fun t' k _ hz hk => h _ rfl (by
    have e := hz h0
    have e2 : ((Txt.mul x i).length : Int) ≤ (a : Int) * i := by rw [e]; exact Int.mul_le_mul_of_nonneg_right (by omega) h0
    have e3 : ((a * i.toNat : Nat) : Int) = (a : Int) * i := by rw [Int.natCast_mul, Int.toNat_of_nonneg h0]
    omega) t' k hk)
theorem strint_g {n : Int} (h0 : 0 ≤ n) (hn : n ≤ 99) (h : ∀ z, z = Str.ofString (toString n) → z.length ≤ 3 → Q (.str z s.toks) { s with toks := s.toks + 1 }) :
    wpAny (model prog w) A (call (.type "str") [.int n t]) Q E s :=
  str_of_int_fit (N := 100) (by split <;> omega) (by decide) fun _ => h _ rfl (by
    have := int_text_length_le10 (a := n) (k := 2) (by decide) (by omega)
    rw [PySem.ofString_length]; exact this)
variable {h₀ : Heap} {L : Addr} {m : Str → Option Value} {news : Led}
theorem cut_g {i : Int} {ui : Tok} (hx : x.length ≤ a) (ha : a ≤ 16777216) (hF : Fr h₀ L s.heap m) (hN : News h₀ L s.heap news)
    (hs : subscripted slice false (.str x t) (.ref s.heap.objs.size) = operate [.ref s.heap.objs.size, .str x t] (getItem (.str x t) (.ref s.heap.objs.size)))
    (ht : ∀ r, letTemporaryGo value (.str x t) r = pure ())
    (h : ∀ z, z = Txt.slice x (some i) none → z.length ≤ a → ∀ h' t' k, Fr h₀ L h' m → News h₀ L h' news → s.toks ≤ k → Q (.str z t') { s with heap := h', toks := k }) :
    wpAny (model prog w) A (subscriptTail value slice (.str x t) (.ref s.heap.objs.size)) Q E { s with heap := s.heap.push { cls := .type "slice", data := .fields #[.int i ui, .none, .none] } } :=
  wpAny_with_toks (n := s.toks) (Nat.le_refl _) (slice_strN_sn_len hF hN (fun h' t' k F' N' l hk => h _ rfl (Nat.le_trans l hx) h' t' k F' N' hk) hs ht (by rw [sizeLine_eq]; omega))
end

/-- a thing that fails, if any does: what holds of it holds of all. A long proof about it names no variable: its terms are closed and laid once -/
theorem ex_eps {V : Type} (d : V) (P : V → Prop) : ∃ v, P v → ∀ u, P u := by
  by_cases h : ∀ u, P u
  · exact ⟨d, fun _ => h⟩
  · obtain ⟨u, hu⟩ := Classical.not_forall.mp h
    exact ⟨u, fun p => (hu p).elim⟩
def dW : World := ⟨fun _ _ => 0, { strHash := fun _ => 0, shareClass := fun _ => 0, mergeTok := fun t => t, idOf := fun _ => 0, idOfShared := fun _ _ => 0, followText := fun _ => false, idOfImm := fun _ => 0 }⟩
def dA : Around := {}
def dS : Shared := {}
/-- a contract's body: Ct is this for all -/
def CtB (w : World) (f : Addr) (vs : List Value) (news : Led) (d u : Nat) (P : Led → Value → Prop) (mean : ExcName → Option Value) (mg mb : Str → Option Value) (dp un : Nat) (gd : Option (List Code)) (cn : Str) (cs : Scope) (a : Addr) (ccd : Value) (cl : List (Str × Addr)) (outer : List Env) (A₀ : Around) (base h₀ : Heap) (L : Addr) (m : Str → Option Value) (s : Shared) (Q E : Value → Shared → Prop) : Prop :=
    Below A₀ base outer h₀ → Fr h₀ L s.heap m → (hd.heap_1 w.params).In h₀ → News h₀ L s.heap news → Top hd.view_1 (looseW hd.view_1 []) mean mg mb h₀ → cs.kind = .function →
    dp + d < recursionLimit → un + u < cLine → Ret h₀ L m news s Q P →
      wpAny (model PySem.Challenge.pw_rs0085_01 w) (ktrTop dp un gd cn cs L a ccd cl outer) (call (.ref f) vs) Q E s
theorem Ct.of {w : World} {f : Addr} {vs : List Value} {news : Led} {d u : Nat} {P : Led → Value → Prop} (h : ∀ mean mg mb dp un gd cn cs a ccd cl outer A₀ base h₀ L m s Q E, CtB w f vs news d u P mean mg mb dp un gd cn cs a ccd cl outer A₀ base h₀ L m s Q E) : Ct w f vs news d u P := h
theorem lst_at {prog : Program} {w : World} {A : Around} {E : Value → Shared → Prop} {s : Shared} {Q : Value → Shared → Prop} {h₀ : Heap} {L a : Addr} {news : Led} {vs : List Value} {n : Nat} {value slice : Expr} {k : Int} {u : Tok} {v : Value}
    (N : News h₀ L s.heap news) (hm : (a, { cls := .type "list", data := .seq vs.toArray n }) ∈ news) (h0 : 0 ≤ k) (hk : k < 1000) (hk1 : k < vs.length) (hx : vs[k.toNat]? = some v)
    (hs : subscripted slice false (.ref a) (.int k u) = operate [.ref a, .int k u] (getItem (.ref a) (.int k u))) (h : Q v s) :
    wpAny (model prog w) A (subscriptTail value slice (.ref a) (.int k u)) Q E s :=
  lst_item N hm h0 hk hk1 hs fun v' hv => by rw [hx] at hv; cases hv; exact h

local macro_rules | `(tactic| walk_at $s:str) => `(tactic| k_extra $s)
theorem hsv_rows1 : True := by
  k_with_none
  w_top off
  k_with "led_sub" => first | exact fun p hp => hp | (intro p hp; repeat' (first | exact hp | refine List.Mem.tail _ ?_))
  k_with "led_lt" => first | assumption | exact ktn_ltOf (by assumption) | exact lt1 (by assumption) | exact lt2 (by assumption) | exact lt3 (by assumption) | exact lt4 (by assumption)
  k_with "ct_fill" => (refine fillIt ?_; k_fill; intro _; unfold Ct)
  k_with "ct_enter" => (refine wpAny_call ?_; k_dflt cell_enter)
  k_with "ct_use" => ((case k1 => k_asm); (case k2 => k_asm); (case k3 => k_asm); (case k4 => k_asm); (case k5 => k_asm); (case kK => first | exact rfl | assumption); (case kd => ktr_room); (case ku => ktr_units))
  k_with "subscriptTail" => (k_here; (with_reducible show wpAny _ _ (subscriptTail _ _ (Value.ref _) (Value.int _ _)) _ _ _); (k_dflt (refine' tup_item ?k1 ?k2 ?k3 ?k4 ?k5 ?k6 ?_; (case k1 => k_asm); (case k2 => first | assumption | k_mem); (case k3 => decide); (case k4 => decide); (case k5 => exact rfl); (case k6 => with_unfolding_all rfl); k_whole)))
  k_with "call builtin:max" => ((with_reducible show wpAny _ _ (call _ [Value.float _ _, Value.float _ _, Value.float _ _]) _ _ _); (rename News _ _ _ _ => N'); (rename Fr _ _ _ _ => F'); refine max3_K rfl F' N' ?_; clear N'; intro _ _ _ _ _)
  k_with "call builtin:min" => ((with_reducible show wpAny _ _ (call _ [Value.float _ _, Value.float _ _, Value.float _ _]) _ _ _); (rename News _ _ _ _ => N'); (rename Fr _ _ _ _ => F'); refine min3_K rfl F' N' ?_; clear N'; intro _ _ _ _ _)
  k_with "subscriptTail" => (k_here; (with_reducible show wpAny _ _ (subscriptTail _ _ (Value.ref _) (Value.int _ _)) _ _ _); (k_dflt (refine' lst_item3 ?k1 ?k2 ?k3 ?k4 ?k6 ?_ ?_ ?_; (case k1 => k_asm); (case k2 => k_mem); (case k3 => omega); (case k4 => omega); (case k6 => with_unfolding_all rfl); all_goals (k_whole; intro hidx))))
  k_with "str_fit" => first | decide +kernel | (simp only [Str.length_append]; omega)
  k_with "binaryOp Add str str" => (k_here; (with_reducible show wpAny _ _ (binaryOp Operator.Add (Value.str _ _) (Value.str _ _)) _ _ _); (refine' add_m ?ksz ?_; (case ksz => walk_at "str_fit")); intro tx' kx' hx'; (try dsimp only at hx'))
  k_with "call builtin:str.replace" => (k_here; (refine' repl_m ?k1 ?k2 ?k3 ?k4 ?k5 ?k6 ?_; (case k1 => (show (0 : Nat) < _); omega); (case k2 => (show (0 : Nat) < _); omega); (case k3 => (show @Ne Nat _ _); omega); (case k4 => decide +kernel); (case k5 => walk_at "str_fit"); (case k6 => walk_at "str_fit")); intro tx' kx' hx'; (try dsimp only at hx'))
  k_with "subscriptTail" => (k_here; (with_reducible show wpAny _ _ (subscriptTail _ _ (Value.str _ _) (Value.int _ _)) _ _ _); (k_dflt (refine' str_item ?k1 ?k2 ?k3 ?k4 ?k5 ?_; (case k1 => omega); (case k2 => first | omega | exact Int.lt_of_lt_of_le (b := 4) (by omega) (by decide +kernel)); (case k3 => first | omega | decide +kernel); (case k4 => with_unfolding_all rfl); (case k5 => (intro _; with_unfolding_all rfl)))); intro hone')
  k_with "subscriptTail Name Slice str ref" => ((with_reducible rename Fr _ _ _ _ => F'); (with_reducible rename News _ _ _ _ => N'); (first
  | ((with_reducible show wpAny _ _ (subscriptTail _ (Expr.Slice (some _) none none _) _ _) _ _ _); (refine' slice_strN_sn_len (s := ⟨_, _, _, _, _⟩) F' N' ?_ (hsz := ?hsz)); (case hsz => walk_at "str_fit"))
  | ((with_reducible show wpAny _ _ (subscriptTail _ (Expr.Slice none (some _) none _) _ _) _ _ _); (refine' slice_strN_ns_len (s := ⟨_, _, _, _, _⟩) F' N' ?_ (hsz := ?hsz)); (case hsz => walk_at "str_fit"))
  | ((with_reducible show wpAny _ _ (subscriptTail _ (Expr.Slice (some _) (some _) none _) _ _) _ _ _); (refine' slice_strN_ss_len (s := ⟨_, _, _, _, _⟩) F' N' ?_ (hsz := ?hsz)); (case hsz => walk_at "str_fit"))); intro _ _ _ _ _ _)
  trivial
def hsv_spec_says (w : World) (news : Led) (h : UInt64) (s : UInt64) (v : UInt64) (t1 : Tok) (t2 : Tok) (t3 : Tok) (mean : ExcName → Option Value) (mg : Str → Option Value) (mb : Str → Option Value) (dp : Nat) (un : Nat) (gd : Option (List Code)) (cn : Str) (cs : Scope) (a : Addr) (ccd : Value) (cl : List (Str × Addr)) (outer : List Env) (A₀ : Around) (base : Heap) (h₀ : Heap) (L : Addr) (m : Str → Option Value) (sCT : Shared) (Q : Value → Shared → Prop) (E : Value → Shared → Prop) : Prop := (Float64.isFinite (h6 h) = true) → (0 ≤ toI (h6 h)) → (toI (h6 h) ≤ 100) → CtB w 35 [.float h t1, .float s t2, .float v t3] news 4 40 (fun tl r => ∃ a c t4 t5 t6, r = .ref a ∧ tl = [(a, tupO [.float c.a t4, .float c.b t5, .float c.c t6])] ∧ hsvToRgb h s v = c) mean mg mb dp un gd cn cs a ccd cl outer A₀ base h₀ L m sCT Q E
noncomputable def hsv_spec_bad : World × Led × UInt64 × UInt64 × UInt64 × Tok × Tok × Tok × (ExcName → Option Value) × (Str → Option Value) × (Str → Option Value) × Nat × Nat × (Option (List Code)) × Str × Scope × Addr × Value × (List (Str × Addr)) × (List Env) × Around × Heap × Heap × Addr × (Str → Option Value) × Shared × (Value → Shared → Prop) × (Value → Shared → Prop) := Classical.choose (ex_eps (dW, default, default, default, default, default, default, default, default, default, default, default, default, default, default, default, default, default, default, default, dA, default, default, default, default, dS, default, default) (fun v : World × Led × UInt64 × UInt64 × UInt64 × Tok × Tok × Tok × (ExcName → Option Value) × (Str → Option Value) × (Str → Option Value) × Nat × Nat × (Option (List Code)) × Str × Scope × Addr × Value × (List (Str × Addr)) × (List Env) × Around × Heap × Heap × Addr × (Str → Option Value) × Shared × (Value → Shared → Prop) × (Value → Shared → Prop) => hsv_spec_says v.1 v.2.1 v.2.2.1 v.2.2.2.1 v.2.2.2.2.1 v.2.2.2.2.2.1 v.2.2.2.2.2.2.1 v.2.2.2.2.2.2.2.1 v.2.2.2.2.2.2.2.2.1 v.2.2.2.2.2.2.2.2.2.1 v.2.2.2.2.2.2.2.2.2.2.1 v.2.2.2.2.2.2.2.2.2.2.2.1 v.2.2.2.2.2.2.2.2.2.2.2.2.1 v.2.2.2.2.2.2.2.2.2.2.2.2.2.1 v.2.2.2.2.2.2.2.2.2.2.2.2.2.2.1 v.2.2.2.2.2.2.2.2.2.2.2.2.2.2.2.1 v.2.2.2.2.2.2.2.2.2.2.2.2.2.2.2.2.1 v.2.2.2.2.2.2.2.2.2.2.2.2.2.2.2.2.2.1 v.2.2.2.2.2.2.2.2.2.2.2.2.2.2.2.2.2.2.1 v.2.2.2.2.2.2.2.2.2.2.2.2.2.2.2.2.2.2.2.1 v.2.2.2.2.2.2.2.2.2.2.2.2.2.2.2.2.2.2.2.2.1 v.2.2.2.2.2.2.2.2.2.2.2.2.2.2.2.2.2.2.2.2.2.1 v.2.2.2.2.2.2.2.2.2.2.2.2.2.2.2.2.2.2.2.2.2.2.1 v.2.2.2.2.2.2.2.2.2.2.2.2.2.2.2.2.2.2.2.2.2.2.2.1 v.2.2.2.2.2.2.2.2.2.2.2.2.2.2.2.2.2.2.2.2.2.2.2.2.1 v.2.2.2.2.2.2.2.2.2.2.2.2.2.2.2.2.2.2.2.2.2.2.2.2.2.1 v.2.2.2.2.2.2.2.2.2.2.2.2.2.2.2.2.2.2.2.2.2.2.2.2.2.2.1 v.2.2.2.2.2.2.2.2.2.2.2.2.2.2.2.2.2.2.2.2.2.2.2.2.2.2.2))
noncomputable def hsv_spec_w : World := hsv_spec_bad.1
noncomputable def hsv_spec_news : Led := hsv_spec_bad.2.1
noncomputable def hsv_spec_h : UInt64 := hsv_spec_bad.2.2.1
noncomputable def hsv_spec_s : UInt64 := hsv_spec_bad.2.2.2.1
noncomputable def hsv_spec_v : UInt64 := hsv_spec_bad.2.2.2.2.1
noncomputable def hsv_spec_t1 : Tok := hsv_spec_bad.2.2.2.2.2.1
noncomputable def hsv_spec_t2 : Tok := hsv_spec_bad.2.2.2.2.2.2.1
noncomputable def hsv_spec_t3 : Tok := hsv_spec_bad.2.2.2.2.2.2.2.1
noncomputable def hsv_spec_mean : ExcName → Option Value := hsv_spec_bad.2.2.2.2.2.2.2.2.1
noncomputable def hsv_spec_mg : Str → Option Value := hsv_spec_bad.2.2.2.2.2.2.2.2.2.1
noncomputable def hsv_spec_mb : Str → Option Value := hsv_spec_bad.2.2.2.2.2.2.2.2.2.2.1
noncomputable def hsv_spec_dp : Nat := hsv_spec_bad.2.2.2.2.2.2.2.2.2.2.2.1
noncomputable def hsv_spec_un : Nat := hsv_spec_bad.2.2.2.2.2.2.2.2.2.2.2.2.1
noncomputable def hsv_spec_gd : Option (List Code) := hsv_spec_bad.2.2.2.2.2.2.2.2.2.2.2.2.2.1
noncomputable def hsv_spec_cn : Str := hsv_spec_bad.2.2.2.2.2.2.2.2.2.2.2.2.2.2.1
noncomputable def hsv_spec_cs : Scope := hsv_spec_bad.2.2.2.2.2.2.2.2.2.2.2.2.2.2.2.1
noncomputable def hsv_spec_a : Addr := hsv_spec_bad.2.2.2.2.2.2.2.2.2.2.2.2.2.2.2.2.1
noncomputable def hsv_spec_ccd : Value := hsv_spec_bad.2.2.2.2.2.2.2.2.2.2.2.2.2.2.2.2.2.1
noncomputable def hsv_spec_cl : List (Str × Addr) := hsv_spec_bad.2.2.2.2.2.2.2.2.2.2.2.2.2.2.2.2.2.2.1
noncomputable def hsv_spec_outer : List Env := hsv_spec_bad.2.2.2.2.2.2.2.2.2.2.2.2.2.2.2.2.2.2.2.1
noncomputable def hsv_spec_A₀ : Around := hsv_spec_bad.2.2.2.2.2.2.2.2.2.2.2.2.2.2.2.2.2.2.2.2.1
noncomputable def hsv_spec_base : Heap := hsv_spec_bad.2.2.2.2.2.2.2.2.2.2.2.2.2.2.2.2.2.2.2.2.2.1
noncomputable def hsv_spec_h₀ : Heap := hsv_spec_bad.2.2.2.2.2.2.2.2.2.2.2.2.2.2.2.2.2.2.2.2.2.2.1
noncomputable def hsv_spec_L : Addr := hsv_spec_bad.2.2.2.2.2.2.2.2.2.2.2.2.2.2.2.2.2.2.2.2.2.2.2.1
noncomputable def hsv_spec_m : Str → Option Value := hsv_spec_bad.2.2.2.2.2.2.2.2.2.2.2.2.2.2.2.2.2.2.2.2.2.2.2.2.1
noncomputable def hsv_spec_sCT : Shared := hsv_spec_bad.2.2.2.2.2.2.2.2.2.2.2.2.2.2.2.2.2.2.2.2.2.2.2.2.2.1
noncomputable def hsv_spec_Q : Value → Shared → Prop := hsv_spec_bad.2.2.2.2.2.2.2.2.2.2.2.2.2.2.2.2.2.2.2.2.2.2.2.2.2.2.1
noncomputable def hsv_spec_E : Value → Shared → Prop := hsv_spec_bad.2.2.2.2.2.2.2.2.2.2.2.2.2.2.2.2.2.2.2.2.2.2.2.2.2.2.2
set_option maxHeartbeats 8000000 in
theorem hsv_spec_core : hsv_spec_says hsv_spec_w hsv_spec_news hsv_spec_h hsv_spec_s hsv_spec_v hsv_spec_t1 hsv_spec_t2 hsv_spec_t3 hsv_spec_mean hsv_spec_mg hsv_spec_mb hsv_spec_dp hsv_spec_un hsv_spec_gd hsv_spec_cn hsv_spec_cs hsv_spec_a hsv_spec_ccd hsv_spec_cl hsv_spec_outer hsv_spec_A₀ hsv_spec_base hsv_spec_h₀ hsv_spec_L hsv_spec_m hsv_spec_sCT hsv_spec_Q hsv_spec_E := by
  unfold hsv_spec_says
  intro h1 h2 h3
  (refine fillIt ?_; k_fill; intro _; unfold CtB)
  dsimp only [toI, h6] at h1 h2 h3
  intro B F X N T hk hdp hun hret
  walk_at "ct_enter"
  k_steps
  all_goals first
    | (refine end1 hret (by k_asm) (by k_asm) (fun p hp => hp) (by assumption) ⟨_, ⟨_, _, _⟩, _, _, _, rfl, rfl, ?_⟩; first | exact hsvG (by assumption) | exact hsv0 (by assumption) (by assumption) | exact hsv1 (by assumption) (by assumption) | exact hsv2 (by assumption) (by assumption) | exact hsv3 (by assumption) (by assumption) | exact hsv4 (by assumption) (by assumption) | exact hsv5 (by assumption) (by assumption))
    | (exfalso; have q1 := Int.fmod_nonneg (a := toI (h6 hsv_spec_h)) (b := 6) (by omega) (by omega); have q2 := Int.fmod_lt_of_pos (toI (h6 hsv_spec_h)) (b := 6) (by omega); dsimp only [toI, h6] at q1 q2; omega)
theorem hsv_spec (w : World) (news) (h s v : UInt64) (t1 t2 t3 : Tok) (h1 : Float64.isFinite (h6 h) = true) (h2 : 0 ≤ toI (h6 h)) (h3 : toI (h6 h) ≤ 100)
   : Ct w 35 [.float h t1, .float s t2, .float v t3] news 4 40 (fun tl r => ∃ a c t4 t5 t6, r = .ref a ∧ tl = [(a, tupO [.float c.a t4, .float c.b t5, .float c.c t6])] ∧ hsvToRgb h s v = c) :=
  Ct.of fun mean mg mb dp un gd cn cs a ccd cl outer A₀ base h₀ L m sCT Q E => (Classical.choose_spec (ex_eps (dW, default, default, default, default, default, default, default, default, default, default, default, default, default, default, default, default, default, default, default, dA, default, default, default, default, dS, default, default) (fun v : World × Led × UInt64 × UInt64 × UInt64 × Tok × Tok × Tok × (ExcName → Option Value) × (Str → Option Value) × (Str → Option Value) × Nat × Nat × (Option (List Code)) × Str × Scope × Addr × Value × (List (Str × Addr)) × (List Env) × Around × Heap × Heap × Addr × (Str → Option Value) × Shared × (Value → Shared → Prop) × (Value → Shared → Prop) => hsv_spec_says v.1 v.2.1 v.2.2.1 v.2.2.2.1 v.2.2.2.2.1 v.2.2.2.2.2.1 v.2.2.2.2.2.2.1 v.2.2.2.2.2.2.2.1 v.2.2.2.2.2.2.2.2.1 v.2.2.2.2.2.2.2.2.2.1 v.2.2.2.2.2.2.2.2.2.2.1 v.2.2.2.2.2.2.2.2.2.2.2.1 v.2.2.2.2.2.2.2.2.2.2.2.2.1 v.2.2.2.2.2.2.2.2.2.2.2.2.2.1 v.2.2.2.2.2.2.2.2.2.2.2.2.2.2.1 v.2.2.2.2.2.2.2.2.2.2.2.2.2.2.2.1 v.2.2.2.2.2.2.2.2.2.2.2.2.2.2.2.2.1 v.2.2.2.2.2.2.2.2.2.2.2.2.2.2.2.2.2.1 v.2.2.2.2.2.2.2.2.2.2.2.2.2.2.2.2.2.2.1 v.2.2.2.2.2.2.2.2.2.2.2.2.2.2.2.2.2.2.2.1 v.2.2.2.2.2.2.2.2.2.2.2.2.2.2.2.2.2.2.2.2.1 v.2.2.2.2.2.2.2.2.2.2.2.2.2.2.2.2.2.2.2.2.2.1 v.2.2.2.2.2.2.2.2.2.2.2.2.2.2.2.2.2.2.2.2.2.2.1 v.2.2.2.2.2.2.2.2.2.2.2.2.2.2.2.2.2.2.2.2.2.2.2.1 v.2.2.2.2.2.2.2.2.2.2.2.2.2.2.2.2.2.2.2.2.2.2.2.2.1 v.2.2.2.2.2.2.2.2.2.2.2.2.2.2.2.2.2.2.2.2.2.2.2.2.2.1 v.2.2.2.2.2.2.2.2.2.2.2.2.2.2.2.2.2.2.2.2.2.2.2.2.2.2.1 v.2.2.2.2.2.2.2.2.2.2.2.2.2.2.2.2.2.2.2.2.2.2.2.2.2.2.2)) hsv_spec_core (w, news, h, s, v, t1, t2, t3, mean, mg, mb, dp, un, gd, cn, cs, a, ccd, cl, outer, A₀, base, h₀, L, m, sCT, Q, E) : hsv_spec_says w news h s v t1 t2 t3 mean mg mb dp un gd cn cs a ccd cl outer A₀ base h₀ L m sCT Q E) h1 h2 h3

theorem rgb_rows1 : True := by
  k_with_none
  w_top off
  k_with "led_sub" => first | exact fun p hp => hp | (intro p hp; repeat' (first | exact hp | refine List.Mem.tail _ ?_))
  k_with "led_lt" => first | assumption | exact ktn_ltOf (by assumption) | exact lt1 (by assumption) | exact lt2 (by assumption) | exact lt3 (by assumption) | exact lt4 (by assumption)
  k_with "ct_fill" => (refine fillIt ?_; k_fill; intro _; unfold Ct)
  k_with "ct_enter" => (refine wpAny_call ?_; k_dflt cell_enter)
  k_with "ct_use" => ((case k1 => k_asm); (case k2 => k_asm); (case k3 => k_asm); (case k4 => k_asm); (case k5 => k_asm); (case kK => first | exact rfl | assumption); (case kd => ktr_room); (case ku => ktr_units))
  k_with "subscriptTail" => (k_here; (with_reducible show wpAny _ _ (subscriptTail _ _ (Value.ref _) (Value.int _ _)) _ _ _); (k_dflt (refine' tup_item ?k1 ?k2 ?k3 ?k4 ?k5 ?k6 ?_; (case k1 => k_asm); (case k2 => first | assumption | k_mem); (case k3 => decide); (case k4 => decide); (case k5 => exact rfl); (case k6 => with_unfolding_all rfl); k_whole)))
  k_with "call builtin:max" => ((with_reducible show wpAny _ _ (call _ [Value.float _ _, Value.float _ _, Value.float _ _]) _ _ _); (rename News _ _ _ _ => N'); (rename Fr _ _ _ _ => F'); refine max3_K rfl F' N' ?_; clear N'; intro _ _ _ _ _)
  k_with "call builtin:min" => ((with_reducible show wpAny _ _ (call _ [Value.float _ _, Value.float _ _, Value.float _ _]) _ _ _); (rename News _ _ _ _ => N'); (rename Fr _ _ _ _ => F'); refine min3_K rfl F' N' ?_; clear N'; intro _ _ _ _ _)
  k_with "subscriptTail" => (k_here; (with_reducible show wpAny _ _ (subscriptTail _ _ (Value.ref _) (Value.int _ _)) _ _ _); (k_dflt (refine' lst_item3 ?k1 ?k2 ?k3 ?k4 ?k6 ?_ ?_ ?_; (case k1 => k_asm); (case k2 => k_mem); (case k3 => omega); (case k4 => omega); (case k6 => with_unfolding_all rfl); all_goals (k_whole; intro hidx))))
  k_with "str_fit" => first | decide +kernel | (simp only [Str.length_append]; omega)
  k_with "binaryOp Add str str" => (k_here; (with_reducible show wpAny _ _ (binaryOp Operator.Add (Value.str _ _) (Value.str _ _)) _ _ _); (refine' add_m ?ksz ?_; (case ksz => walk_at "str_fit")); intro tx' kx' hx'; (try dsimp only at hx'))
  k_with "call builtin:str.replace" => (k_here; (refine' repl_m ?k1 ?k2 ?k3 ?k4 ?k5 ?k6 ?_; (case k1 => (show (0 : Nat) < _); omega); (case k2 => (show (0 : Nat) < _); omega); (case k3 => (show @Ne Nat _ _); omega); (case k4 => decide +kernel); (case k5 => walk_at "str_fit"); (case k6 => walk_at "str_fit")); intro tx' kx' hx'; (try dsimp only at hx'))
  k_with "subscriptTail" => (k_here; (with_reducible show wpAny _ _ (subscriptTail _ _ (Value.str _ _) (Value.int _ _)) _ _ _); (k_dflt (refine' str_item ?k1 ?k2 ?k3 ?k4 ?k5 ?_; (case k1 => omega); (case k2 => first | omega | exact Int.lt_of_lt_of_le (b := 4) (by omega) (by decide +kernel)); (case k3 => first | omega | decide +kernel); (case k4 => with_unfolding_all rfl); (case k5 => (intro _; with_unfolding_all rfl)))); intro hone')
  k_with "subscriptTail Name Slice str ref" => ((with_reducible rename Fr _ _ _ _ => F'); (with_reducible rename News _ _ _ _ => N'); (first
  | ((with_reducible show wpAny _ _ (subscriptTail _ (Expr.Slice (some _) none none _) _ _) _ _ _); (refine' slice_strN_sn_len (s := ⟨_, _, _, _, _⟩) F' N' ?_ (hsz := ?hsz)); (case hsz => walk_at "str_fit"))
  | ((with_reducible show wpAny _ _ (subscriptTail _ (Expr.Slice none (some _) none _) _ _) _ _ _); (refine' slice_strN_ns_len (s := ⟨_, _, _, _, _⟩) F' N' ?_ (hsz := ?hsz)); (case hsz => walk_at "str_fit"))
  | ((with_reducible show wpAny _ _ (subscriptTail _ (Expr.Slice (some _) (some _) none _) _ _) _ _ _); (refine' slice_strN_ss_len (s := ⟨_, _, _, _, _⟩) F' N' ?_ (hsz := ?hsz)); (case hsz => walk_at "str_fit"))); intro _ _ _ _ _ _)
  trivial
def rgb_spec_says (w : World) (news : Led) (r : UInt64) (g : UInt64) (b : UInt64) (t1 : Tok) (t2 : Tok) (t3 : Tok) (mean : ExcName → Option Value) (mg : Str → Option Value) (mb : Str → Option Value) (dp : Nat) (un : Nat) (gd : Option (List Code)) (cn : Str) (cs : Scope) (a : Addr) (ccd : Value) (cl : List (Str × Addr)) (outer : List Env) (A₀ : Around) (base : Heap) (h₀ : Heap) (L : Addr) (m : Str → Option Value) (s : Shared) (Q : Value → Shared → Prop) (E : Value → Shared → Prop) : Prop := ((Float64.cmp (mn r g b) (mx r g b) == some .eq) = false → Float64.isZero (mx r g b) = false) → ((Float64.cmp (mn r g b) (mx r g b) == some .eq) = false → Float64.isZero (rg r g b) = false) → CtB w 28 [.float r t1, .float g t2, .float b t3] news 4 40 (fun tl q => ∃ a c t4 t5 t6, q = .ref a ∧ tl = [(a, tupO [.float c.a t4, .float c.b t5, .float c.c t6])] ∧ rgbToHsv r g b = c) mean mg mb dp un gd cn cs a ccd cl outer A₀ base h₀ L m s Q E
noncomputable def rgb_spec_bad : World × Led × UInt64 × UInt64 × UInt64 × Tok × Tok × Tok × (ExcName → Option Value) × (Str → Option Value) × (Str → Option Value) × Nat × Nat × (Option (List Code)) × Str × Scope × Addr × Value × (List (Str × Addr)) × (List Env) × Around × Heap × Heap × Addr × (Str → Option Value) × Shared × (Value → Shared → Prop) × (Value → Shared → Prop) := Classical.choose (ex_eps (dW, default, default, default, default, default, default, default, default, default, default, default, default, default, default, default, default, default, default, default, dA, default, default, default, default, dS, default, default) (fun v : World × Led × UInt64 × UInt64 × UInt64 × Tok × Tok × Tok × (ExcName → Option Value) × (Str → Option Value) × (Str → Option Value) × Nat × Nat × (Option (List Code)) × Str × Scope × Addr × Value × (List (Str × Addr)) × (List Env) × Around × Heap × Heap × Addr × (Str → Option Value) × Shared × (Value → Shared → Prop) × (Value → Shared → Prop) => rgb_spec_says v.1 v.2.1 v.2.2.1 v.2.2.2.1 v.2.2.2.2.1 v.2.2.2.2.2.1 v.2.2.2.2.2.2.1 v.2.2.2.2.2.2.2.1 v.2.2.2.2.2.2.2.2.1 v.2.2.2.2.2.2.2.2.2.1 v.2.2.2.2.2.2.2.2.2.2.1 v.2.2.2.2.2.2.2.2.2.2.2.1 v.2.2.2.2.2.2.2.2.2.2.2.2.1 v.2.2.2.2.2.2.2.2.2.2.2.2.2.1 v.2.2.2.2.2.2.2.2.2.2.2.2.2.2.1 v.2.2.2.2.2.2.2.2.2.2.2.2.2.2.2.1 v.2.2.2.2.2.2.2.2.2.2.2.2.2.2.2.2.1 v.2.2.2.2.2.2.2.2.2.2.2.2.2.2.2.2.2.1 v.2.2.2.2.2.2.2.2.2.2.2.2.2.2.2.2.2.2.1 v.2.2.2.2.2.2.2.2.2.2.2.2.2.2.2.2.2.2.2.1 v.2.2.2.2.2.2.2.2.2.2.2.2.2.2.2.2.2.2.2.2.1 v.2.2.2.2.2.2.2.2.2.2.2.2.2.2.2.2.2.2.2.2.2.1 v.2.2.2.2.2.2.2.2.2.2.2.2.2.2.2.2.2.2.2.2.2.2.1 v.2.2.2.2.2.2.2.2.2.2.2.2.2.2.2.2.2.2.2.2.2.2.2.1 v.2.2.2.2.2.2.2.2.2.2.2.2.2.2.2.2.2.2.2.2.2.2.2.2.1 v.2.2.2.2.2.2.2.2.2.2.2.2.2.2.2.2.2.2.2.2.2.2.2.2.2.1 v.2.2.2.2.2.2.2.2.2.2.2.2.2.2.2.2.2.2.2.2.2.2.2.2.2.2.1 v.2.2.2.2.2.2.2.2.2.2.2.2.2.2.2.2.2.2.2.2.2.2.2.2.2.2.2))
noncomputable def rgb_spec_w : World := rgb_spec_bad.1
noncomputable def rgb_spec_news : Led := rgb_spec_bad.2.1
noncomputable def rgb_spec_r : UInt64 := rgb_spec_bad.2.2.1
noncomputable def rgb_spec_g : UInt64 := rgb_spec_bad.2.2.2.1
noncomputable def rgb_spec_b : UInt64 := rgb_spec_bad.2.2.2.2.1
noncomputable def rgb_spec_t1 : Tok := rgb_spec_bad.2.2.2.2.2.1
noncomputable def rgb_spec_t2 : Tok := rgb_spec_bad.2.2.2.2.2.2.1
noncomputable def rgb_spec_t3 : Tok := rgb_spec_bad.2.2.2.2.2.2.2.1
noncomputable def rgb_spec_mean : ExcName → Option Value := rgb_spec_bad.2.2.2.2.2.2.2.2.1
noncomputable def rgb_spec_mg : Str → Option Value := rgb_spec_bad.2.2.2.2.2.2.2.2.2.1
noncomputable def rgb_spec_mb : Str → Option Value := rgb_spec_bad.2.2.2.2.2.2.2.2.2.2.1
noncomputable def rgb_spec_dp : Nat := rgb_spec_bad.2.2.2.2.2.2.2.2.2.2.2.1
noncomputable def rgb_spec_un : Nat := rgb_spec_bad.2.2.2.2.2.2.2.2.2.2.2.2.1
noncomputable def rgb_spec_gd : Option (List Code) := rgb_spec_bad.2.2.2.2.2.2.2.2.2.2.2.2.2.1
noncomputable def rgb_spec_cn : Str := rgb_spec_bad.2.2.2.2.2.2.2.2.2.2.2.2.2.2.1
noncomputable def rgb_spec_cs : Scope := rgb_spec_bad.2.2.2.2.2.2.2.2.2.2.2.2.2.2.2.1
noncomputable def rgb_spec_a : Addr := rgb_spec_bad.2.2.2.2.2.2.2.2.2.2.2.2.2.2.2.2.1
noncomputable def rgb_spec_ccd : Value := rgb_spec_bad.2.2.2.2.2.2.2.2.2.2.2.2.2.2.2.2.2.1
noncomputable def rgb_spec_cl : List (Str × Addr) := rgb_spec_bad.2.2.2.2.2.2.2.2.2.2.2.2.2.2.2.2.2.2.1
noncomputable def rgb_spec_outer : List Env := rgb_spec_bad.2.2.2.2.2.2.2.2.2.2.2.2.2.2.2.2.2.2.2.1
noncomputable def rgb_spec_A₀ : Around := rgb_spec_bad.2.2.2.2.2.2.2.2.2.2.2.2.2.2.2.2.2.2.2.2.1
noncomputable def rgb_spec_base : Heap := rgb_spec_bad.2.2.2.2.2.2.2.2.2.2.2.2.2.2.2.2.2.2.2.2.2.1
noncomputable def rgb_spec_h₀ : Heap := rgb_spec_bad.2.2.2.2.2.2.2.2.2.2.2.2.2.2.2.2.2.2.2.2.2.2.1
noncomputable def rgb_spec_L : Addr := rgb_spec_bad.2.2.2.2.2.2.2.2.2.2.2.2.2.2.2.2.2.2.2.2.2.2.2.1
noncomputable def rgb_spec_m : Str → Option Value := rgb_spec_bad.2.2.2.2.2.2.2.2.2.2.2.2.2.2.2.2.2.2.2.2.2.2.2.2.1
noncomputable def rgb_spec_s : Shared := rgb_spec_bad.2.2.2.2.2.2.2.2.2.2.2.2.2.2.2.2.2.2.2.2.2.2.2.2.2.1
noncomputable def rgb_spec_Q : Value → Shared → Prop := rgb_spec_bad.2.2.2.2.2.2.2.2.2.2.2.2.2.2.2.2.2.2.2.2.2.2.2.2.2.2.1
noncomputable def rgb_spec_E : Value → Shared → Prop := rgb_spec_bad.2.2.2.2.2.2.2.2.2.2.2.2.2.2.2.2.2.2.2.2.2.2.2.2.2.2.2
set_option maxHeartbeats 8000000 in
theorem rgb_spec_core : rgb_spec_says rgb_spec_w rgb_spec_news rgb_spec_r rgb_spec_g rgb_spec_b rgb_spec_t1 rgb_spec_t2 rgb_spec_t3 rgb_spec_mean rgb_spec_mg rgb_spec_mb rgb_spec_dp rgb_spec_un rgb_spec_gd rgb_spec_cn rgb_spec_cs rgb_spec_a rgb_spec_ccd rgb_spec_cl rgb_spec_outer rgb_spec_A₀ rgb_spec_base rgb_spec_h₀ rgb_spec_L rgb_spec_m rgb_spec_s rgb_spec_Q rgb_spec_E := by
  unfold rgb_spec_says
  intro h1 h2
  (refine fillIt ?_; k_fill; intro _; unfold CtB)
  dsimp only [rg, mx, mn] at h1 h2
  intro B F X N T hk hdp hun hret
  walk_at "ct_enter"
  k_steps
  all_goals first
    | (refine end1 hret (by k_asm) (by k_asm) (fun p hp => hp) (by assumption) ⟨_, ⟨_, _, _⟩, _, _, _, rfl, rfl, ?_⟩; first | exact rgbG (by assumption) | exact rgb0 (by assumption) (by assumption) | exact rgb1 (by assumption) (by assumption) (by assumption) | exact rgb2 (by assumption) (by assumption) (by assumption))
theorem rgb_spec (w : World) (news) (r g b : UInt64) (t1 t2 t3 : Tok) (h1 : (Float64.cmp (mn r g b) (mx r g b) == some .eq) = false → Float64.isZero (mx r g b) = false) (h2 : (Float64.cmp (mn r g b) (mx r g b) == some .eq) = false → Float64.isZero (rg r g b) = false)
   : Ct w 28 [.float r t1, .float g t2, .float b t3] news 4 40 (fun tl q => ∃ a c t4 t5 t6, q = .ref a ∧ tl = [(a, tupO [.float c.a t4, .float c.b t5, .float c.c t6])] ∧ rgbToHsv r g b = c) :=
  Ct.of fun mean mg mb dp un gd cn cs a ccd cl outer A₀ base h₀ L m s Q E => (Classical.choose_spec (ex_eps (dW, default, default, default, default, default, default, default, default, default, default, default, default, default, default, default, default, default, default, default, dA, default, default, default, default, dS, default, default) (fun v : World × Led × UInt64 × UInt64 × UInt64 × Tok × Tok × Tok × (ExcName → Option Value) × (Str → Option Value) × (Str → Option Value) × Nat × Nat × (Option (List Code)) × Str × Scope × Addr × Value × (List (Str × Addr)) × (List Env) × Around × Heap × Heap × Addr × (Str → Option Value) × Shared × (Value → Shared → Prop) × (Value → Shared → Prop) => rgb_spec_says v.1 v.2.1 v.2.2.1 v.2.2.2.1 v.2.2.2.2.1 v.2.2.2.2.2.1 v.2.2.2.2.2.2.1 v.2.2.2.2.2.2.2.1 v.2.2.2.2.2.2.2.2.1 v.2.2.2.2.2.2.2.2.2.1 v.2.2.2.2.2.2.2.2.2.2.1 v.2.2.2.2.2.2.2.2.2.2.2.1 v.2.2.2.2.2.2.2.2.2.2.2.2.1 v.2.2.2.2.2.2.2.2.2.2.2.2.2.1 v.2.2.2.2.2.2.2.2.2.2.2.2.2.2.1 v.2.2.2.2.2.2.2.2.2.2.2.2.2.2.2.1 v.2.2.2.2.2.2.2.2.2.2.2.2.2.2.2.2.1 v.2.2.2.2.2.2.2.2.2.2.2.2.2.2.2.2.2.1 v.2.2.2.2.2.2.2.2.2.2.2.2.2.2.2.2.2.2.1 v.2.2.2.2.2.2.2.2.2.2.2.2.2.2.2.2.2.2.2.1 v.2.2.2.2.2.2.2.2.2.2.2.2.2.2.2.2.2.2.2.2.1 v.2.2.2.2.2.2.2.2.2.2.2.2.2.2.2.2.2.2.2.2.2.1 v.2.2.2.2.2.2.2.2.2.2.2.2.2.2.2.2.2.2.2.2.2.2.1 v.2.2.2.2.2.2.2.2.2.2.2.2.2.2.2.2.2.2.2.2.2.2.2.1 v.2.2.2.2.2.2.2.2.2.2.2.2.2.2.2.2.2.2.2.2.2.2.2.2.1 v.2.2.2.2.2.2.2.2.2.2.2.2.2.2.2.2.2.2.2.2.2.2.2.2.2.1 v.2.2.2.2.2.2.2.2.2.2.2.2.2.2.2.2.2.2.2.2.2.2.2.2.2.2.1 v.2.2.2.2.2.2.2.2.2.2.2.2.2.2.2.2.2.2.2.2.2.2.2.2.2.2.2)) rgb_spec_core (w, news, r, g, b, t1, t2, t3, mean, mg, mb, dp, un, gd, cn, cs, a, ccd, cl, outer, A₀, base, h₀, L, m, s, Q, E) : rgb_spec_says w news r g b t1 t2 t3 mean mg mb dp un gd cn cs a ccd cl outer A₀ base h₀ L m s Q E) h1 h2

theorem read_rows1 : True := by
  k_with_none
  w_top off
  k_with "led_sub" => first | exact fun p hp => hp | (intro p hp; repeat' (first | exact hp | refine List.Mem.tail _ ?_))
  k_with "led_lt" => first | assumption | exact ktn_ltOf (by assumption) | exact lt1 (by assumption) | exact lt2 (by assumption) | exact lt3 (by assumption) | exact lt4 (by assumption)
  k_with "ct_fill" => (refine fillIt ?_; k_fill; intro _; unfold Ct)
  k_with "ct_enter" => (refine wpAny_call ?_; k_dflt cell_enter)
  k_with "ct_use" => ((case k1 => k_asm); (case k2 => k_asm); (case k3 => k_asm); (case k4 => k_asm); (case k5 => k_asm); (case kK => first | exact rfl | assumption); (case kd => ktr_room); (case ku => ktr_units))
  k_with "subscriptTail" => (k_here; (with_reducible show wpAny _ _ (subscriptTail _ _ (Value.ref _) (Value.int _ _)) _ _ _); (k_dflt (refine' tup_item ?k1 ?k2 ?k3 ?k4 ?k5 ?k6 ?_; (case k1 => k_asm); (case k2 => first | assumption | k_mem); (case k3 => decide); (case k4 => decide); (case k5 => exact rfl); (case k6 => with_unfolding_all rfl); k_whole)))
  k_with "call builtin:max" => ((with_reducible show wpAny _ _ (call _ [Value.float _ _, Value.float _ _, Value.float _ _]) _ _ _); (rename News _ _ _ _ => N'); (rename Fr _ _ _ _ => F'); refine max3_K rfl F' N' ?_; clear N'; intro _ _ _ _ _)
  k_with "call builtin:min" => ((with_reducible show wpAny _ _ (call _ [Value.float _ _, Value.float _ _, Value.float _ _]) _ _ _); (rename News _ _ _ _ => N'); (rename Fr _ _ _ _ => F'); refine min3_K rfl F' N' ?_; clear N'; intro _ _ _ _ _)
  k_with "subscriptTail" => (k_here; (with_reducible show wpAny _ _ (subscriptTail _ _ (Value.ref _) (Value.int _ _)) _ _ _); (k_dflt (refine' lst_item3 ?k1 ?k2 ?k3 ?k4 ?k6 ?_ ?_ ?_; (case k1 => k_asm); (case k2 => k_mem); (case k3 => omega); (case k4 => omega); (case k6 => with_unfolding_all rfl); all_goals (k_whole; intro hidx))))
  k_with "str_fit" => first | decide +kernel | (simp only [Str.length_append]; omega)
  k_with "binaryOp Add str str" => (k_here; (with_reducible show wpAny _ _ (binaryOp Operator.Add (Value.str _ _) (Value.str _ _)) _ _ _); (refine' add_m ?ksz ?_; (case ksz => walk_at "str_fit")); intro tx' kx' hx'; (try dsimp only at hx'))
  k_with "call builtin:str.replace" => (k_here; (refine' repl_m ?k1 ?k2 ?k3 ?k4 ?k5 ?k6 ?_; (case k1 => (show (0 : Nat) < _); omega); (case k2 => (show (0 : Nat) < _); omega); (case k3 => (show @Ne Nat _ _); omega); (case k4 => decide +kernel); (case k5 => walk_at "str_fit"); (case k6 => walk_at "str_fit")); intro tx' kx' hx'; (try dsimp only at hx'))
  k_with "subscriptTail" => (k_here; (with_reducible show wpAny _ _ (subscriptTail _ _ (Value.str _ _) (Value.int _ _)) _ _ _); (k_dflt (refine' str_item ?k1 ?k2 ?k3 ?k4 ?k5 ?_; (case k1 => omega); (case k2 => first | omega | exact Int.lt_of_lt_of_le (b := 4) (by omega) (by decide +kernel)); (case k3 => first | omega | decide +kernel); (case k4 => with_unfolding_all rfl); (case k5 => (intro _; with_unfolding_all rfl)))); intro hone')
  k_with "subscriptTail Name Slice str ref" => ((with_reducible rename Fr _ _ _ _ => F'); (with_reducible rename News _ _ _ _ => N'); (first
  | ((with_reducible show wpAny _ _ (subscriptTail _ (Expr.Slice (some _) none none _) _ _) _ _ _); (refine' slice_strN_sn_len (s := ⟨_, _, _, _, _⟩) F' N' ?_ (hsz := ?hsz)); (case hsz => walk_at "str_fit"))
  | ((with_reducible show wpAny _ _ (subscriptTail _ (Expr.Slice none (some _) none _) _ _) _ _ _); (refine' slice_strN_ns_len (s := ⟨_, _, _, _, _⟩) F' N' ?_ (hsz := ?hsz)); (case hsz => walk_at "str_fit"))
  | ((with_reducible show wpAny _ _ (subscriptTail _ (Expr.Slice (some _) (some _) none _) _ _) _ _ _); (refine' slice_strN_ss_len (s := ⟨_, _, _, _, _⟩) F' N' ?_ (hsz := ?hsz)); (case hsz => walk_at "str_fit"))); intro _ _ _ _ _ _)
  k_with "call ref" => (k_here; (with_reducible show wpAny _ _ (call (Value.ref 28) _) _ _ _); (k_dflt (refine' Ct.use (rgb_spec _ _ _ _ _ _ _ _ ?p1 ?p2) ?k1 ?k2 ?k3 ?k4 ?k5 ?kK ?kd ?ku ?_; (case p1 => exact RgbOk.h1 (by assumption)); (case p2 => exact RgbOk.h2 (by assumption)); walk_at "ct_use")); intro r' tl' h' tk' F' N' l1 hP'; obtain ⟨D', c', t4', t5', t6', e1', e2', e3'⟩ := hP'; subst e1' e2' e3'; replace l1 := lt_tl1 l1; (try k_lt l1); (simp only [List.cons_append, List.nil_append] at N'); (try k_sweep); (try dsimp only); (try k_fold))
  trivial

def read_spec_says (w : World) (news : Led) (q : Addr) (r : UInt64) (g : UInt64) (b : UInt64) (t1 : Tok) (t2 : Tok) (t3 : Tok) (mean : ExcName → Option Value) (mg : Str → Option Value) (mb : Str → Option Value) (dp : Nat) (un : Nat) (gd : Option (List Code)) (cn : Str) (cs : Scope) (a : Addr) (ccd : Value) (cl : List (Str × Addr)) (outer : List Env) (A₀ : Around) (base : Heap) (h₀ : Heap) (L : Addr) (m : Str → Option Value) (s : Shared) (Q : Value → Shared → Prop) (E : Value → Shared → Prop) : Prop := ((q, tupO [.float r t1, .float g t2, .float b t3]) ∈ news) → (RgbOk r g b) → (ReadOk (rgbToHsv r g b)) → CtB w 140 [.ref q] news 5 60 (fun tl r' => ∃ a t4 t5 t6, r' = .ref a ∧ tl = [(a, tupO [.int (nearI (rgbToHsv r g b).a 48) t4, .int (nearI (rgbToHsv r g b).b 4) t5, .int (nearI (rgbToHsv r g b).c 16) t6])]) mean mg mb dp un gd cn cs a ccd cl outer A₀ base h₀ L m s Q E
noncomputable def read_spec_bad : World × Led × Addr × UInt64 × UInt64 × UInt64 × Tok × Tok × Tok × (ExcName → Option Value) × (Str → Option Value) × (Str → Option Value) × Nat × Nat × (Option (List Code)) × Str × Scope × Addr × Value × (List (Str × Addr)) × (List Env) × Around × Heap × Heap × Addr × (Str → Option Value) × Shared × (Value → Shared → Prop) × (Value → Shared → Prop) := Classical.choose (ex_eps (dW, default, default, default, default, default, default, default, default, default, default, default, default, default, default, default, default, default, default, default, default, dA, default, default, default, default, dS, default, default) (fun v : World × Led × Addr × UInt64 × UInt64 × UInt64 × Tok × Tok × Tok × (ExcName → Option Value) × (Str → Option Value) × (Str → Option Value) × Nat × Nat × (Option (List Code)) × Str × Scope × Addr × Value × (List (Str × Addr)) × (List Env) × Around × Heap × Heap × Addr × (Str → Option Value) × Shared × (Value → Shared → Prop) × (Value → Shared → Prop) => read_spec_says v.1 v.2.1 v.2.2.1 v.2.2.2.1 v.2.2.2.2.1 v.2.2.2.2.2.1 v.2.2.2.2.2.2.1 v.2.2.2.2.2.2.2.1 v.2.2.2.2.2.2.2.2.1 v.2.2.2.2.2.2.2.2.2.1 v.2.2.2.2.2.2.2.2.2.2.1 v.2.2.2.2.2.2.2.2.2.2.2.1 v.2.2.2.2.2.2.2.2.2.2.2.2.1 v.2.2.2.2.2.2.2.2.2.2.2.2.2.1 v.2.2.2.2.2.2.2.2.2.2.2.2.2.2.1 v.2.2.2.2.2.2.2.2.2.2.2.2.2.2.2.1 v.2.2.2.2.2.2.2.2.2.2.2.2.2.2.2.2.1 v.2.2.2.2.2.2.2.2.2.2.2.2.2.2.2.2.2.1 v.2.2.2.2.2.2.2.2.2.2.2.2.2.2.2.2.2.2.1 v.2.2.2.2.2.2.2.2.2.2.2.2.2.2.2.2.2.2.2.1 v.2.2.2.2.2.2.2.2.2.2.2.2.2.2.2.2.2.2.2.2.1 v.2.2.2.2.2.2.2.2.2.2.2.2.2.2.2.2.2.2.2.2.2.1 v.2.2.2.2.2.2.2.2.2.2.2.2.2.2.2.2.2.2.2.2.2.2.1 v.2.2.2.2.2.2.2.2.2.2.2.2.2.2.2.2.2.2.2.2.2.2.2.1 v.2.2.2.2.2.2.2.2.2.2.2.2.2.2.2.2.2.2.2.2.2.2.2.2.1 v.2.2.2.2.2.2.2.2.2.2.2.2.2.2.2.2.2.2.2.2.2.2.2.2.2.1 v.2.2.2.2.2.2.2.2.2.2.2.2.2.2.2.2.2.2.2.2.2.2.2.2.2.2.1 v.2.2.2.2.2.2.2.2.2.2.2.2.2.2.2.2.2.2.2.2.2.2.2.2.2.2.2.1 v.2.2.2.2.2.2.2.2.2.2.2.2.2.2.2.2.2.2.2.2.2.2.2.2.2.2.2.2))
noncomputable def read_spec_w : World := read_spec_bad.1
noncomputable def read_spec_news : Led := read_spec_bad.2.1
noncomputable def read_spec_q : Addr := read_spec_bad.2.2.1
noncomputable def read_spec_r : UInt64 := read_spec_bad.2.2.2.1
noncomputable def read_spec_g : UInt64 := read_spec_bad.2.2.2.2.1
noncomputable def read_spec_b : UInt64 := read_spec_bad.2.2.2.2.2.1
noncomputable def read_spec_t1 : Tok := read_spec_bad.2.2.2.2.2.2.1
noncomputable def read_spec_t2 : Tok := read_spec_bad.2.2.2.2.2.2.2.1
noncomputable def read_spec_t3 : Tok := read_spec_bad.2.2.2.2.2.2.2.2.1
noncomputable def read_spec_mean : ExcName → Option Value := read_spec_bad.2.2.2.2.2.2.2.2.2.1
noncomputable def read_spec_mg : Str → Option Value := read_spec_bad.2.2.2.2.2.2.2.2.2.2.1
noncomputable def read_spec_mb : Str → Option Value := read_spec_bad.2.2.2.2.2.2.2.2.2.2.2.1
noncomputable def read_spec_dp : Nat := read_spec_bad.2.2.2.2.2.2.2.2.2.2.2.2.1
noncomputable def read_spec_un : Nat := read_spec_bad.2.2.2.2.2.2.2.2.2.2.2.2.2.1
noncomputable def read_spec_gd : Option (List Code) := read_spec_bad.2.2.2.2.2.2.2.2.2.2.2.2.2.2.1
noncomputable def read_spec_cn : Str := read_spec_bad.2.2.2.2.2.2.2.2.2.2.2.2.2.2.2.1
noncomputable def read_spec_cs : Scope := read_spec_bad.2.2.2.2.2.2.2.2.2.2.2.2.2.2.2.2.1
noncomputable def read_spec_a : Addr := read_spec_bad.2.2.2.2.2.2.2.2.2.2.2.2.2.2.2.2.2.1
noncomputable def read_spec_ccd : Value := read_spec_bad.2.2.2.2.2.2.2.2.2.2.2.2.2.2.2.2.2.2.1
noncomputable def read_spec_cl : List (Str × Addr) := read_spec_bad.2.2.2.2.2.2.2.2.2.2.2.2.2.2.2.2.2.2.2.1
noncomputable def read_spec_outer : List Env := read_spec_bad.2.2.2.2.2.2.2.2.2.2.2.2.2.2.2.2.2.2.2.2.1
noncomputable def read_spec_A₀ : Around := read_spec_bad.2.2.2.2.2.2.2.2.2.2.2.2.2.2.2.2.2.2.2.2.2.1
noncomputable def read_spec_base : Heap := read_spec_bad.2.2.2.2.2.2.2.2.2.2.2.2.2.2.2.2.2.2.2.2.2.2.1
noncomputable def read_spec_h₀ : Heap := read_spec_bad.2.2.2.2.2.2.2.2.2.2.2.2.2.2.2.2.2.2.2.2.2.2.2.1
noncomputable def read_spec_L : Addr := read_spec_bad.2.2.2.2.2.2.2.2.2.2.2.2.2.2.2.2.2.2.2.2.2.2.2.2.1
noncomputable def read_spec_m : Str → Option Value := read_spec_bad.2.2.2.2.2.2.2.2.2.2.2.2.2.2.2.2.2.2.2.2.2.2.2.2.2.1
noncomputable def read_spec_s : Shared := read_spec_bad.2.2.2.2.2.2.2.2.2.2.2.2.2.2.2.2.2.2.2.2.2.2.2.2.2.2.1
noncomputable def read_spec_Q : Value → Shared → Prop := read_spec_bad.2.2.2.2.2.2.2.2.2.2.2.2.2.2.2.2.2.2.2.2.2.2.2.2.2.2.2.1
noncomputable def read_spec_E : Value → Shared → Prop := read_spec_bad.2.2.2.2.2.2.2.2.2.2.2.2.2.2.2.2.2.2.2.2.2.2.2.2.2.2.2.2
set_option maxHeartbeats 8000000 in
theorem read_spec_core : read_spec_says read_spec_w read_spec_news read_spec_q read_spec_r read_spec_g read_spec_b read_spec_t1 read_spec_t2 read_spec_t3 read_spec_mean read_spec_mg read_spec_mb read_spec_dp read_spec_un read_spec_gd read_spec_cn read_spec_cs read_spec_a read_spec_ccd read_spec_cl read_spec_outer read_spec_A₀ read_spec_base read_spec_h₀ read_spec_L read_spec_m read_spec_s read_spec_Q read_spec_E := by
  unfold read_spec_says
  intro hm ho hr
  (refine fillIt ?_; k_fill; intro _; unfold CtB)
  have f1 := hr.f1
  have f2 := hr.f2
  have f3 := hr.f3
  dsimp only [near] at f1 f2 f3
  intro B F X N T hk hdp hun hret
  walk_at "ct_enter"
  k_steps
  all_goals (refine end1 hret (by k_asm) (by k_asm) ?hs ?hl ⟨_, _, _, _, rfl, rfl⟩; (case hs => walk_at "led_sub"); (case hl => walk_at "led_lt"))
theorem read_spec (w : World) (news) (q : Addr) (r g b : UInt64) (t1 t2 t3 : Tok) (hm : (q, tupO [.float r t1, .float g t2, .float b t3]) ∈ news) (ho : RgbOk r g b) (hr : ReadOk (rgbToHsv r g b))
   : Ct w 140 [.ref q] news 5 60 (fun tl r' => ∃ a t4 t5 t6, r' = .ref a ∧ tl = [(a, tupO [.int (nearI (rgbToHsv r g b).a 48) t4, .int (nearI (rgbToHsv r g b).b 4) t5, .int (nearI (rgbToHsv r g b).c 16) t6])]) :=
  Ct.of fun mean mg mb dp un gd cn cs a ccd cl outer A₀ base h₀ L m s Q E => (Classical.choose_spec (ex_eps (dW, default, default, default, default, default, default, default, default, default, default, default, default, default, default, default, default, default, default, default, default, dA, default, default, default, default, dS, default, default) (fun v : World × Led × Addr × UInt64 × UInt64 × UInt64 × Tok × Tok × Tok × (ExcName → Option Value) × (Str → Option Value) × (Str → Option Value) × Nat × Nat × (Option (List Code)) × Str × Scope × Addr × Value × (List (Str × Addr)) × (List Env) × Around × Heap × Heap × Addr × (Str → Option Value) × Shared × (Value → Shared → Prop) × (Value → Shared → Prop) => read_spec_says v.1 v.2.1 v.2.2.1 v.2.2.2.1 v.2.2.2.2.1 v.2.2.2.2.2.1 v.2.2.2.2.2.2.1 v.2.2.2.2.2.2.2.1 v.2.2.2.2.2.2.2.2.1 v.2.2.2.2.2.2.2.2.2.1 v.2.2.2.2.2.2.2.2.2.2.1 v.2.2.2.2.2.2.2.2.2.2.2.1 v.2.2.2.2.2.2.2.2.2.2.2.2.1 v.2.2.2.2.2.2.2.2.2.2.2.2.2.1 v.2.2.2.2.2.2.2.2.2.2.2.2.2.2.1 v.2.2.2.2.2.2.2.2.2.2.2.2.2.2.2.1 v.2.2.2.2.2.2.2.2.2.2.2.2.2.2.2.2.1 v.2.2.2.2.2.2.2.2.2.2.2.2.2.2.2.2.2.1 v.2.2.2.2.2.2.2.2.2.2.2.2.2.2.2.2.2.2.1 v.2.2.2.2.2.2.2.2.2.2.2.2.2.2.2.2.2.2.2.1 v.2.2.2.2.2.2.2.2.2.2.2.2.2.2.2.2.2.2.2.2.1 v.2.2.2.2.2.2.2.2.2.2.2.2.2.2.2.2.2.2.2.2.2.1 v.2.2.2.2.2.2.2.2.2.2.2.2.2.2.2.2.2.2.2.2.2.2.1 v.2.2.2.2.2.2.2.2.2.2.2.2.2.2.2.2.2.2.2.2.2.2.2.1 v.2.2.2.2.2.2.2.2.2.2.2.2.2.2.2.2.2.2.2.2.2.2.2.2.1 v.2.2.2.2.2.2.2.2.2.2.2.2.2.2.2.2.2.2.2.2.2.2.2.2.2.1 v.2.2.2.2.2.2.2.2.2.2.2.2.2.2.2.2.2.2.2.2.2.2.2.2.2.2.1 v.2.2.2.2.2.2.2.2.2.2.2.2.2.2.2.2.2.2.2.2.2.2.2.2.2.2.2.1 v.2.2.2.2.2.2.2.2.2.2.2.2.2.2.2.2.2.2.2.2.2.2.2.2.2.2.2.2)) read_spec_core (w, news, q, r, g, b, t1, t2, t3, mean, mg, mb, dp, un, gd, cn, cs, a, ccd, cl, outer, A₀, base, h₀, L, m, s, Q, E) : read_spec_says w news q r g b t1 t2 t3 mean mg mb dp un gd cn cs a ccd cl outer A₀ base h₀ L m s Q E) hm ho hr

theorem due_rows1 : True := by
  k_with_none
  w_top off
  k_with "led_sub" => first | exact fun p hp => hp | (intro p hp; repeat' (first | exact hp | refine List.Mem.tail _ ?_))
  k_with "led_lt" => first | assumption | exact ktn_ltOf (by assumption) | exact lt1 (by assumption) | exact lt2 (by assumption) | exact lt3 (by assumption) | exact lt4 (by assumption)
  k_with "ct_fill" => (refine fillIt ?_; k_fill; intro _; unfold Ct)
  k_with "ct_enter" => (refine wpAny_call ?_; k_dflt cell_enter)
  k_with "ct_use" => ((case k1 => k_asm); (case k2 => k_asm); (case k3 => k_asm); (case k4 => k_asm); (case k5 => k_asm); (case kK => first | exact rfl | assumption); (case kd => ktr_room); (case ku => ktr_units))
  k_with "subscriptTail" => (k_here; (with_reducible show wpAny _ _ (subscriptTail _ _ (Value.ref _) (Value.int _ _)) _ _ _); (k_dflt (refine' tup_item ?k1 ?k2 ?k3 ?k4 ?k5 ?k6 ?_; (case k1 => k_asm); (case k2 => first | assumption | k_mem); (case k3 => decide); (case k4 => decide); (case k5 => exact rfl); (case k6 => with_unfolding_all rfl); k_whole)))
  k_with "call builtin:max" => ((with_reducible show wpAny _ _ (call _ [Value.float _ _, Value.float _ _, Value.float _ _]) _ _ _); (rename News _ _ _ _ => N'); (rename Fr _ _ _ _ => F'); refine max3_K rfl F' N' ?_; clear N'; intro _ _ _ _ _)
  k_with "call builtin:min" => ((with_reducible show wpAny _ _ (call _ [Value.float _ _, Value.float _ _, Value.float _ _]) _ _ _); (rename News _ _ _ _ => N'); (rename Fr _ _ _ _ => F'); refine min3_K rfl F' N' ?_; clear N'; intro _ _ _ _ _)
  k_with "subscriptTail" => (k_here; (with_reducible show wpAny _ _ (subscriptTail _ _ (Value.ref _) (Value.int _ _)) _ _ _); (k_dflt (refine' lst_item3 ?k1 ?k2 ?k3 ?k4 ?k6 ?_ ?_ ?_; (case k1 => k_asm); (case k2 => k_mem); (case k3 => omega); (case k4 => omega); (case k6 => with_unfolding_all rfl); all_goals (k_whole; intro hidx))))
  k_with "str_fit" => first | decide +kernel | (simp only [Str.length_append]; omega)
  k_with "binaryOp Add str str" => (k_here; (with_reducible show wpAny _ _ (binaryOp Operator.Add (Value.str _ _) (Value.str _ _)) _ _ _); (refine' add_m ?ksz ?_; (case ksz => walk_at "str_fit")); intro tx' kx' hx'; (try dsimp only at hx'))
  k_with "call builtin:str.replace" => (k_here; (refine' repl_m ?k1 ?k2 ?k3 ?k4 ?k5 ?k6 ?_; (case k1 => (show (0 : Nat) < _); omega); (case k2 => (show (0 : Nat) < _); omega); (case k3 => (show @Ne Nat _ _); omega); (case k4 => decide +kernel); (case k5 => walk_at "str_fit"); (case k6 => walk_at "str_fit")); intro tx' kx' hx'; (try dsimp only at hx'))
  k_with "subscriptTail" => (k_here; (with_reducible show wpAny _ _ (subscriptTail _ _ (Value.str _ _) (Value.int _ _)) _ _ _); (k_dflt (refine' str_item ?k1 ?k2 ?k3 ?k4 ?k5 ?_; (case k1 => omega); (case k2 => first | omega | exact Int.lt_of_lt_of_le (b := 4) (by omega) (by decide +kernel)); (case k3 => first | omega | decide +kernel); (case k4 => with_unfolding_all rfl); (case k5 => (intro _; with_unfolding_all rfl)))); intro hone')
  k_with "subscriptTail Name Slice str ref" => ((with_reducible rename Fr _ _ _ _ => F'); (with_reducible rename News _ _ _ _ => N'); (first
  | ((with_reducible show wpAny _ _ (subscriptTail _ (Expr.Slice (some _) none none _) _ _) _ _ _); (refine' slice_strN_sn_len (s := ⟨_, _, _, _, _⟩) F' N' ?_ (hsz := ?hsz)); (case hsz => walk_at "str_fit"))
  | ((with_reducible show wpAny _ _ (subscriptTail _ (Expr.Slice none (some _) none _) _ _) _ _ _); (refine' slice_strN_ns_len (s := ⟨_, _, _, _, _⟩) F' N' ?_ (hsz := ?hsz)); (case hsz => walk_at "str_fit"))
  | ((with_reducible show wpAny _ _ (subscriptTail _ (Expr.Slice (some _) (some _) none _) _ _) _ _ _); (refine' slice_strN_ss_len (s := ⟨_, _, _, _, _⟩) F' N' ?_ (hsz := ?hsz)); (case hsz => walk_at "str_fit"))); intro _ _ _ _ _ _)
  k_with "call ref" => (k_here; (with_reducible show wpAny _ _ (call (Value.ref 28) _) _ _ _); (k_dflt (refine' Ct.use (rgb_spec _ _ _ _ _ _ _ _ ?p1 ?p2) ?k1 ?k2 ?k3 ?k4 ?k5 ?kK ?kd ?ku ?_; (case p1 => exact RgbOk.h1 (by assumption)); (case p2 => exact RgbOk.h2 (by assumption)); walk_at "ct_use")); intro r' tl' h' tk' F' N' l1 hP'; obtain ⟨D', c', t4', t5', t6', e1', e2', e3'⟩ := hP'; subst e1' e2' e3'; replace l1 := lt_tl1 l1; (try k_lt l1); (simp only [List.cons_append, List.nil_append] at N'); (try k_sweep); (try dsimp only); (try k_fold))
  trivial
set_option maxHeartbeats 8000000 in
theorem due_spec (w : World) (news) (x y z : Int) (t1 t2 t3 : Tok) (hy0 : 0 ≤ y) (hy : y ≤ 4) (hz0 : 0 ≤ z) (hz : z ≤ 15) :
    Ct w 147 [.int x t1, .int y t2, .int z t3] news 4 40 (fun tl r => ∃ a i j t4 t5 t6, r = .ref a ∧ tl = [(a, tupO [.int i t4, .int j t5, .int z t6])] ∧ i = (if y * z = 0 then 0 else x) ∧ j = (if y * z = 0 then 0 else y)) := by
  walk_at "ct_fill"
  intro mean mg mb dp un gd cn cs a ccd cl outer A₀ base h₀ L m sh Q E B F X N T hk hdp hun hret
  walk_at "ct_enter"
  k_steps
  all_goals (refine end1 hret (by k_asm) (by k_asm) (by walk_at "led_sub") (by walk_at "led_lt") ⟨_, _, _, _, _, _, rfl, rfl, ?_, ?_⟩)
  · rw [if_pos (by assumption)]
  · rw [if_pos (by assumption)]
  · rw [if_neg (by assumption)]
  · rw [if_neg (by assumption)]

theorem name_rows1 : True := by
  k_with_none
  w_top off
  k_with "led_sub" => first | exact fun p hp => hp | (intro p hp; repeat' (first | exact hp | refine List.Mem.tail _ ?_))
  k_with "led_lt" => first | assumption | exact ktn_ltOf (by assumption) | exact lt1 (by assumption) | exact lt2 (by assumption) | exact lt3 (by assumption) | exact lt4 (by assumption)
  k_with "ct_fill" => (refine fillIt ?_; k_fill; intro _; unfold Ct)
  k_with "ct_enter" => (refine wpAny_call ?_; k_dflt cell_enter)
  k_with "ct_use" => ((case k1 => k_asm); (case k2 => k_asm); (case k3 => k_asm); (case k4 => k_asm); (case k5 => k_asm); (case kK => first | exact rfl | assumption); (case kd => ktr_room); (case ku => ktr_units))
  k_with "subscriptTail" => (k_here; (with_reducible show wpAny _ _ (subscriptTail _ _ (Value.ref _) (Value.int _ _)) _ _ _); (k_dflt (refine' tup_item ?k1 ?k2 ?k3 ?k4 ?k5 ?k6 ?_; (case k1 => k_asm); (case k2 => first | assumption | k_mem); (case k3 => decide); (case k4 => decide); (case k5 => exact rfl); (case k6 => with_unfolding_all rfl); k_whole)))
  k_with "call builtin:max" => ((with_reducible show wpAny _ _ (call _ [Value.float _ _, Value.float _ _, Value.float _ _]) _ _ _); (rename News _ _ _ _ => N'); (rename Fr _ _ _ _ => F'); refine max3_K rfl F' N' ?_; clear N'; intro _ _ _ _ _)
  k_with "call builtin:min" => ((with_reducible show wpAny _ _ (call _ [Value.float _ _, Value.float _ _, Value.float _ _]) _ _ _); (rename News _ _ _ _ => N'); (rename Fr _ _ _ _ => F'); refine min3_K rfl F' N' ?_; clear N'; intro _ _ _ _ _)
  k_with "subscriptTail" => (k_here; (with_reducible show wpAny _ _ (subscriptTail _ _ (Value.ref _) (Value.int _ _)) _ _ _); (k_dflt (refine' lst_item3 ?k1 ?k2 ?k3 ?k4 ?k6 ?_ ?_ ?_; (case k1 => k_asm); (case k2 => k_mem); (case k3 => omega); (case k4 => omega); (case k6 => with_unfolding_all rfl); all_goals (k_whole; intro hidx))))
  k_with "str_fit" => first | decide +kernel | (simp only [Str.length_append]; omega)
  k_with "binaryOp Add str str" => (k_here; (with_reducible show wpAny _ _ (binaryOp Operator.Add (Value.str _ _) (Value.str _ _)) _ _ _); (refine' add_m ?ksz ?_; (case ksz => walk_at "str_fit")); intro tx' kx' hx'; (try dsimp only at hx'))
  k_with "call builtin:str.replace" => (k_here; (refine' repl_m ?k1 ?k2 ?k3 ?k4 ?k5 ?k6 ?_; (case k1 => (show (0 : Nat) < _); omega); (case k2 => (show (0 : Nat) < _); omega); (case k3 => (show @Ne Nat _ _); omega); (case k4 => decide +kernel); (case k5 => walk_at "str_fit"); (case k6 => walk_at "str_fit")); intro tx' kx' hx'; (try dsimp only at hx'))
  k_with "subscriptTail" => (k_here; (with_reducible show wpAny _ _ (subscriptTail _ _ (Value.str _ _) (Value.int _ _)) _ _ _); (k_dflt (refine' str_item ?k1 ?k2 ?k3 ?k4 ?k5 ?_; (case k1 => omega); (case k2 => first | omega | exact Int.lt_of_lt_of_le (b := 4) (by omega) (by decide +kernel)); (case k3 => first | omega | decide +kernel); (case k4 => with_unfolding_all rfl); (case k5 => (intro _; with_unfolding_all rfl)))); intro hone')
  k_with "subscriptTail Name Slice str ref" => ((with_reducible rename Fr _ _ _ _ => F'); (with_reducible rename News _ _ _ _ => N'); (first
  | ((with_reducible show wpAny _ _ (subscriptTail _ (Expr.Slice (some _) none none _) _ _) _ _ _); (refine' slice_strN_sn_len (s := ⟨_, _, _, _, _⟩) F' N' ?_ (hsz := ?hsz)); (case hsz => walk_at "str_fit"))
  | ((with_reducible show wpAny _ _ (subscriptTail _ (Expr.Slice none (some _) none _) _ _) _ _ _); (refine' slice_strN_ns_len (s := ⟨_, _, _, _, _⟩) F' N' ?_ (hsz := ?hsz)); (case hsz => walk_at "str_fit"))
  | ((with_reducible show wpAny _ _ (subscriptTail _ (Expr.Slice (some _) (some _) none _) _ _) _ _ _); (refine' slice_strN_ss_len (s := ⟨_, _, _, _, _⟩) F' N' ?_ (hsz := ?hsz)); (case hsz => walk_at "str_fit"))); intro _ _ _ _ _ _)
  k_with "call ref" => (k_here; (with_reducible show wpAny _ _ (call (Value.ref 28) _) _ _ _); (k_dflt (refine' Ct.use (rgb_spec _ _ _ _ _ _ _ _ ?p1 ?p2) ?k1 ?k2 ?k3 ?k4 ?k5 ?kK ?kd ?ku ?_; (case p1 => exact RgbOk.h1 (by assumption)); (case p2 => exact RgbOk.h2 (by assumption)); walk_at "ct_use")); intro r' tl' h' tk' F' N' l1 hP'; obtain ⟨D', c', t4', t5', t6', e1', e2', e3'⟩ := hP'; subst e1' e2' e3'; replace l1 := lt_tl1 l1; (try k_lt l1); (simp only [List.cons_append, List.nil_append] at N'); (try k_sweep); (try dsimp only); (try k_fold))
  trivial
section
variable {prog : Program} {w : World} {A : Around} {E : Value → Shared → Prop} {s : Shared} {h₀ : Heap} {L : Addr} {news : Led} {Q : Value → Shared → Prop} {value slice : Expr}
/-- the text at a place of a list of texts -/
def pick (l : List Str) (k : Int) : Str := l.getD k.toNat (Str.ofString "")
def strsOf : List Value → List Str
  | [] => []
  | .str x _ :: r => x :: strsOf r
  | _ :: r => strsOf r
theorem pick_item {ad : Addr} {n : Nat} {k : Int} {u : Tok} {vs : List Value} {xs : List Str} {b : Nat} (N : News h₀ L s.heap news) (hm : (ad, { cls := .type "list", data := .seq vs.toArray n }) ∈ news) (hs2 : StrsAre vs xs) (h0 : 0 ≤ k) (hk : k < vs.length) (h1 : vs.length ≤ 100) (hb : ∀ x ∈ xs, x.length ≤ b)
    (hs : subscripted slice false (.ref ad) (.int k u) = operate [.ref ad, .int k u] (getItem (.ref ad) (.int k u))) (q : ∀ z t, z = pick xs k → z.length ≤ b → Q (.str z t) s) : wpAny (model prog w) A (subscriptTail value slice (.ref ad) (.int k u)) Q E s := by
  refine lst_item (vs := vs) N hm h0 (by omega) hk hs fun v hv => ?_
  have key : ∀ {vs : List Value} {xs : List Str} {i : Nat} {v : Value}, StrsAre vs xs → vs[i]? = some v → ∃ x t, v = .str x t ∧ xs[i]? = some x := by
    intro vs xs i v h
    induction h generalizing i with
    | nil => intro e; simp at e
    | cons x t _ ih =>
      intro e
      cases i with
      | zero => cases e; exact ⟨x, t, rfl, rfl⟩
      | succ i => exact ih (by simpa using e)
  obtain ⟨x, t, rfl, hx⟩ := key hs2 hv
  exact q x t (by unfold pick; rw [List.getD_eq_getElem?_getD, hx]; rfl) (hb x (List.mem_of_getElem? hx))
theorem repl_g {x y z : Str} {t u v : Tok} {a : Nat} (hu : 0 < u) (hv : 0 < v) (huv : u ≠ v) (hyz : (y == z) = false) (hx : x.length ≤ a) (ha : a ≤ 1048576) (hz : z.length ≤ 14) (hb : ∀ z', z' = Txt.replace x y z → z'.length ≤ 1000)
    (h : ∀ z', z' = Txt.replace x y z → z'.length ≤ 1000 → ∀ t' k, s.toks ≤ k → Q (.str z' t') { s with toks := k }) : wpAny (model prog w) A (call (.builtin "str.replace") [.str x t, .str y u, .str z v]) Q E s :=
  repl_m hu hv huv hyz (by omega) hz fun t' k hk => h _ rfl (hb _ rfl) t' k hk
end
def orders (i : Int) : Str := ([Str.ofString "r\"b", Str.ofString "\"rb", Str.ofString "\"br", Str.ofString "b\"r", Str.ofString "br\"", Str.ofString "rb\""] : List Str).getD i.toNat (Str.ofString "")
def tails (i : Int) : Str := ([Str.ofString "", Str.ofString " \"b", Str.ofString "r\"\""] : List Str).getD i.toNat (Str.ofString "")
def nameReply (kind : Int) (grey : Bool) (i tail : Int) : Str :=
  if kind = 6 then (if grey = true then Str.ofString "250" ++ Str.ofString " no choice" else Str.ofString "250" ++ Str.ofString " \"" ++ Txt.replace (orders i) (Str.ofString "\"") (Str.ofString "\"\"") ++ Str.ofString "\"" ++ tails tail)
  else (if grey = true then Str.ofString "257" ++ Str.ofString " no choice" else Str.ofString "257" ++ Str.ofString " \"" ++ Txt.replace (orders i) (Str.ofString "\"") (Str.ofString "\"\"") ++ Str.ofString "\"" ++ tails tail)
abbrev sixth (y : C3) : UInt64 := Float64.mul y.a (Float64.ofInt 6)
theorem ord_len {z : Str} {i : Int} (h : z = pick [Str.ofString "r\"b", Str.ofString "\"rb", Str.ofString "\"br", Str.ofString "b\"r", Str.ofString "br\"", Str.ofString "rb\""] i) :
    ∀ z', z' = Txt.replace z (Str.ofString "\"") (Str.ofString "\"\"") → z'.length ≤ 1000 := by
  intro z' e
  subst e; subst h
  have h1 : ∀ x ∈ ([Str.ofString "r\"b", Str.ofString "\"rb", Str.ofString "\"br", Str.ofString "b\"r", Str.ofString "br\"", Str.ofString "rb\""] : List Str), (Txt.replace x (Str.ofString "\"") (Str.ofString "\"\"")).length ≤ 1000 := by decide +kernel
  have h2 : (Txt.replace (Str.ofString "") (Str.ofString "\"") (Str.ofString "\"\"")).length ≤ 1000 := by decide +kernel
  unfold pick
  rw [List.getD_eq_getElem?_getD]
  cases e : ([Str.ofString "r\"b", Str.ofString "\"rb", Str.ofString "\"br", Str.ofString "b\"r", Str.ofString "br\"", Str.ofString "rb\""] : List Str)[i.toNat]? with
  | none => exact h2
  | some x => exact h1 x (List.mem_of_getElem? e)
theorem name_rows2 : True := by
  k_with "len_le" => first | assumption | exact Nat.le_refl _
  k_with "binaryOp Add str str" => (k_here; (with_reducible show wpAny _ _ (binaryOp Operator.Add (Value.str _ _) (Value.str _ _)) _ _ _); (refine' add_g ?ka ?kb ?kc ?_; (case ka => walk_at "len_le"); (case kb => walk_at "len_le"); (case kc => decide +kernel)); intro z' ez' lz' tx' kx' hx'; (try dsimp only at hx'))
  k_with "binaryOp Mult str int" => (k_here; (refine' mul_g ?ka ?kb ?kc ?kd ?_; (case ka => walk_at "len_le"); (case kb => decide +kernel); (case kc => decide); (case kd => decide)); intro z' ez' lz' tx' kx' hx'; (try dsimp only at hx'))
  k_with "call type:str" => (k_here; (refine' strint_g ?ka ?kb ?_; (case ka => omega); (case kb => omega)); intro z' ez' lz')
  k_with "subscriptTail Name Slice str ref" => ((with_reducible rename Fr _ _ _ _ => F'); (with_reducible rename News _ _ _ _ => N'); (with_reducible show wpAny _ _ (subscriptTail _ (Expr.Slice (some _) none none _) _ _) _ _ _); (refine' cut_g (s := ⟨_, _, _, _, _⟩) ?ka ?kb F' N' ?kc ?kd ?_; (case ka => walk_at "len_le"); (case kb => decide +kernel); (case kc => with_unfolding_all rfl); (case kd => (intro _; with_unfolding_all rfl))); intro z' ez' lz' h' tx' kx' F2' N2' hx'; (try dsimp only at hx'))
  k_with "subscriptTail" => (k_here; (with_reducible show wpAny _ _ (subscriptTail _ _ (Value.str _ _) (Value.int _ _)) _ _ _); (k_dflt (refine' item_g ?k1 ?k2 ?k3 ?k4 ?k5 ?_; (case k1 => omega); (case k2 => first | omega | exact Int.lt_of_lt_of_le (b := 4) (by omega) (by decide +kernel)); (case k3 => first | omega | decide +kernel); (case k4 => with_unfolding_all rfl); (case k5 => (intro _; with_unfolding_all rfl)))); intro z' ez' lz')
  trivial
theorem name_rows3 : True := by
  k_with "pick_len" => (first | (simp only [List.forall_mem_cons, List.not_mem_nil, false_imp_iff, implies_true, and_true]; (repeat' (first | refine And.intro ?_ ?_)); all_goals (first | exact Nat.le_trans (by assumption) (by decide +kernel) | decide +kernel)))
  trivial
theorem name_rows4 : True := by
  k_with "pick_lt" => (first | exact Int.lt_of_le_of_lt (b := 2) (by assumption) (Int.ofNat_lt.2 (Nat.lt_add_one 2)) | exact Int.lt_of_le_of_lt (b := 5) (by assumption) (Int.ofNat_lt.2 (Nat.lt_add_one 5)) | exact Int.lt_of_le_of_lt (b := 8) (by assumption) (Int.ofNat_lt.2 (Nat.lt_add_one 8)))
  trivial
theorem name_rows5 : True := by
  k_with "subscriptTail" => (k_here; (with_reducible show wpAny _ _ (subscriptTail _ _ (Value.ref _) (Value.int _ _)) _ _ _); (k_dflt (refine' pick_item (b := 60) ?k1 ?k2 ?k3 ?k4 ?k5 ?k6 ?k7 ?k8 ?_; (case k1 => k_asm); (case k2 => k_mem); (case k3 => with_unfolding_all (repeat' (first | exact StrsAre.nil | refine' StrsAre.cons _ _ ?_))); (case k4 => assumption); (case k5 => walk_at "pick_lt"); (case k6 => with_unfolding_all exact Nat.le_of_ble_eq_true rfl); (case k7 => walk_at "pick_len"); (case k8 => with_unfolding_all rfl))); intro z' tk' ez' lz')
  trivial
theorem name_rows6 : True := by
  k_with "call builtin:str.replace" => (k_here; (refine' repl_g (a := 60) ?k1 ?k2 ?k3 ?k4 ?k5 ?k6 ?k7 ?k8 ?_; (case k1 => (show (0 : Nat) < _); omega); (case k2 => (show (0 : Nat) < _); omega); (case k3 => (show @Ne Nat _ _); omega); (case k4 => decide +kernel); (case k5 => assumption); (case k6 => decide); (case k7 => decide +kernel); (case k8 => exact ord_len (by assumption))); intro z' ez' lz' tx' kx' hx'; (try dsimp only at hx'))
  trivial
def name_spec_says (w : World) (news : Led) (q : Addr) (r : UInt64) (g : UInt64) (b : UInt64) (t1 : Tok) (t2 : Tok) (t3 : Tok) (t4 : Tok) (t5 : Tok) (kind : Int) (tail : Int) (mean : ExcName → Option Value) (mg : Str → Option Value) (mb : Str → Option Value) (dp : Nat) (un : Nat) (gd : Option (List Code)) (cn : Str) (cs : Scope) (a : Addr) (ccd : Value) (cl : List (Str × Addr)) (outer : List Env) (A₀ : Around) (base : Heap) (h₀ : Heap) (L : Addr) (m : Str → Option Value) (s : Shared) (Q : Value → Shared → Prop) (E : Value → Shared → Prop) : Prop := (0 ≤ kind) → (kind ≤ 8) → (0 ≤ tail) → (tail ≤ 2) → ((q, tupO [.float r t1, .float g t2, .float b t3]) ∈ news) → (RgbOk r g b) → (Float64.isFinite (sixth (rgbToHsv r g b)) = true) → (0 ≤ toI (sixth (rgbToHsv r g b))) → (toI (sixth (rgbToHsv r g b)) ≤ 5) → CtB w 98 [.ref q, .int kind t4, .int tail t5] news 5 60 (fun tl r' => ∃ x t, r' = .str x t ∧ tl = [] ∧ nameReply kind (feq (rgbToHsv r g b).b 0) (toI (sixth (rgbToHsv r g b))) tail = x) mean mg mb dp un gd cn cs a ccd cl outer A₀ base h₀ L m s Q E
noncomputable def name_spec_bad : World × Led × Addr × UInt64 × UInt64 × UInt64 × Tok × Tok × Tok × Tok × Tok × Int × Int × (ExcName → Option Value) × (Str → Option Value) × (Str → Option Value) × Nat × Nat × (Option (List Code)) × Str × Scope × Addr × Value × (List (Str × Addr)) × (List Env) × Around × Heap × Heap × Addr × (Str → Option Value) × Shared × (Value → Shared → Prop) × (Value → Shared → Prop) := Classical.choose (ex_eps (dW, default, default, default, default, default, default, default, default, default, default, default, default, default, default, default, default, default, default, default, default, default, default, default, default, dA, default, default, default, default, dS, default, default) (fun v : World × Led × Addr × UInt64 × UInt64 × UInt64 × Tok × Tok × Tok × Tok × Tok × Int × Int × (ExcName → Option Value) × (Str → Option Value) × (Str → Option Value) × Nat × Nat × (Option (List Code)) × Str × Scope × Addr × Value × (List (Str × Addr)) × (List Env) × Around × Heap × Heap × Addr × (Str → Option Value) × Shared × (Value → Shared → Prop) × (Value → Shared → Prop) => name_spec_says v.1 v.2.1 v.2.2.1 v.2.2.2.1 v.2.2.2.2.1 v.2.2.2.2.2.1 v.2.2.2.2.2.2.1 v.2.2.2.2.2.2.2.1 v.2.2.2.2.2.2.2.2.1 v.2.2.2.2.2.2.2.2.2.1 v.2.2.2.2.2.2.2.2.2.2.1 v.2.2.2.2.2.2.2.2.2.2.2.1 v.2.2.2.2.2.2.2.2.2.2.2.2.1 v.2.2.2.2.2.2.2.2.2.2.2.2.2.1 v.2.2.2.2.2.2.2.2.2.2.2.2.2.2.1 v.2.2.2.2.2.2.2.2.2.2.2.2.2.2.2.1 v.2.2.2.2.2.2.2.2.2.2.2.2.2.2.2.2.1 v.2.2.2.2.2.2.2.2.2.2.2.2.2.2.2.2.2.1 v.2.2.2.2.2.2.2.2.2.2.2.2.2.2.2.2.2.2.1 v.2.2.2.2.2.2.2.2.2.2.2.2.2.2.2.2.2.2.2.1 v.2.2.2.2.2.2.2.2.2.2.2.2.2.2.2.2.2.2.2.2.1 v.2.2.2.2.2.2.2.2.2.2.2.2.2.2.2.2.2.2.2.2.2.1 v.2.2.2.2.2.2.2.2.2.2.2.2.2.2.2.2.2.2.2.2.2.2.1 v.2.2.2.2.2.2.2.2.2.2.2.2.2.2.2.2.2.2.2.2.2.2.2.1 v.2.2.2.2.2.2.2.2.2.2.2.2.2.2.2.2.2.2.2.2.2.2.2.2.1 v.2.2.2.2.2.2.2.2.2.2.2.2.2.2.2.2.2.2.2.2.2.2.2.2.2.1 v.2.2.2.2.2.2.2.2.2.2.2.2.2.2.2.2.2.2.2.2.2.2.2.2.2.2.1 v.2.2.2.2.2.2.2.2.2.2.2.2.2.2.2.2.2.2.2.2.2.2.2.2.2.2.2.1 v.2.2.2.2.2.2.2.2.2.2.2.2.2.2.2.2.2.2.2.2.2.2.2.2.2.2.2.2.1 v.2.2.2.2.2.2.2.2.2.2.2.2.2.2.2.2.2.2.2.2.2.2.2.2.2.2.2.2.2.1 v.2.2.2.2.2.2.2.2.2.2.2.2.2.2.2.2.2.2.2.2.2.2.2.2.2.2.2.2.2.2.1 v.2.2.2.2.2.2.2.2.2.2.2.2.2.2.2.2.2.2.2.2.2.2.2.2.2.2.2.2.2.2.2.1 v.2.2.2.2.2.2.2.2.2.2.2.2.2.2.2.2.2.2.2.2.2.2.2.2.2.2.2.2.2.2.2.2))
noncomputable def name_spec_w : World := name_spec_bad.1
noncomputable def name_spec_news : Led := name_spec_bad.2.1
noncomputable def name_spec_q : Addr := name_spec_bad.2.2.1
noncomputable def name_spec_r : UInt64 := name_spec_bad.2.2.2.1
noncomputable def name_spec_g : UInt64 := name_spec_bad.2.2.2.2.1
noncomputable def name_spec_b : UInt64 := name_spec_bad.2.2.2.2.2.1
noncomputable def name_spec_t1 : Tok := name_spec_bad.2.2.2.2.2.2.1
noncomputable def name_spec_t2 : Tok := name_spec_bad.2.2.2.2.2.2.2.1
noncomputable def name_spec_t3 : Tok := name_spec_bad.2.2.2.2.2.2.2.2.1
noncomputable def name_spec_t4 : Tok := name_spec_bad.2.2.2.2.2.2.2.2.2.1
noncomputable def name_spec_t5 : Tok := name_spec_bad.2.2.2.2.2.2.2.2.2.2.1
noncomputable def name_spec_kind : Int := name_spec_bad.2.2.2.2.2.2.2.2.2.2.2.1
noncomputable def name_spec_tail : Int := name_spec_bad.2.2.2.2.2.2.2.2.2.2.2.2.1
noncomputable def name_spec_mean : ExcName → Option Value := name_spec_bad.2.2.2.2.2.2.2.2.2.2.2.2.2.1
noncomputable def name_spec_mg : Str → Option Value := name_spec_bad.2.2.2.2.2.2.2.2.2.2.2.2.2.2.1
noncomputable def name_spec_mb : Str → Option Value := name_spec_bad.2.2.2.2.2.2.2.2.2.2.2.2.2.2.2.1
noncomputable def name_spec_dp : Nat := name_spec_bad.2.2.2.2.2.2.2.2.2.2.2.2.2.2.2.2.1
noncomputable def name_spec_un : Nat := name_spec_bad.2.2.2.2.2.2.2.2.2.2.2.2.2.2.2.2.2.1
noncomputable def name_spec_gd : Option (List Code) := name_spec_bad.2.2.2.2.2.2.2.2.2.2.2.2.2.2.2.2.2.2.1
noncomputable def name_spec_cn : Str := name_spec_bad.2.2.2.2.2.2.2.2.2.2.2.2.2.2.2.2.2.2.2.1
noncomputable def name_spec_cs : Scope := name_spec_bad.2.2.2.2.2.2.2.2.2.2.2.2.2.2.2.2.2.2.2.2.1
noncomputable def name_spec_a : Addr := name_spec_bad.2.2.2.2.2.2.2.2.2.2.2.2.2.2.2.2.2.2.2.2.2.1
noncomputable def name_spec_ccd : Value := name_spec_bad.2.2.2.2.2.2.2.2.2.2.2.2.2.2.2.2.2.2.2.2.2.2.1
noncomputable def name_spec_cl : List (Str × Addr) := name_spec_bad.2.2.2.2.2.2.2.2.2.2.2.2.2.2.2.2.2.2.2.2.2.2.2.1
noncomputable def name_spec_outer : List Env := name_spec_bad.2.2.2.2.2.2.2.2.2.2.2.2.2.2.2.2.2.2.2.2.2.2.2.2.1
noncomputable def name_spec_A₀ : Around := name_spec_bad.2.2.2.2.2.2.2.2.2.2.2.2.2.2.2.2.2.2.2.2.2.2.2.2.2.1
noncomputable def name_spec_base : Heap := name_spec_bad.2.2.2.2.2.2.2.2.2.2.2.2.2.2.2.2.2.2.2.2.2.2.2.2.2.2.1
noncomputable def name_spec_h₀ : Heap := name_spec_bad.2.2.2.2.2.2.2.2.2.2.2.2.2.2.2.2.2.2.2.2.2.2.2.2.2.2.2.1
noncomputable def name_spec_L : Addr := name_spec_bad.2.2.2.2.2.2.2.2.2.2.2.2.2.2.2.2.2.2.2.2.2.2.2.2.2.2.2.2.1
noncomputable def name_spec_m : Str → Option Value := name_spec_bad.2.2.2.2.2.2.2.2.2.2.2.2.2.2.2.2.2.2.2.2.2.2.2.2.2.2.2.2.2.1
noncomputable def name_spec_s : Shared := name_spec_bad.2.2.2.2.2.2.2.2.2.2.2.2.2.2.2.2.2.2.2.2.2.2.2.2.2.2.2.2.2.2.1
noncomputable def name_spec_Q : Value → Shared → Prop := name_spec_bad.2.2.2.2.2.2.2.2.2.2.2.2.2.2.2.2.2.2.2.2.2.2.2.2.2.2.2.2.2.2.2.1
noncomputable def name_spec_E : Value → Shared → Prop := name_spec_bad.2.2.2.2.2.2.2.2.2.2.2.2.2.2.2.2.2.2.2.2.2.2.2.2.2.2.2.2.2.2.2.2
set_option maxHeartbeats 8000000 in
theorem name_spec_core : name_spec_says name_spec_w name_spec_news name_spec_q name_spec_r name_spec_g name_spec_b name_spec_t1 name_spec_t2 name_spec_t3 name_spec_t4 name_spec_t5 name_spec_kind name_spec_tail name_spec_mean name_spec_mg name_spec_mb name_spec_dp name_spec_un name_spec_gd name_spec_cn name_spec_cs name_spec_a name_spec_ccd name_spec_cl name_spec_outer name_spec_A₀ name_spec_base name_spec_h₀ name_spec_L name_spec_m name_spec_s name_spec_Q name_spec_E := by
  unfold name_spec_says
  intro hk0 hk1 ht0 ht1 hm ho f1 f2 f3
  (refine fillIt ?_; k_fill; intro _; unfold CtB)
  dsimp only [toI, sixth] at f1 f2 f3
  intro B F X N T hk hdp hun hret
  walk_at "ct_enter"
  k_steps
  all_goals (refine end0 hret (by k_asm) (by k_asm) (by walk_at "led_sub") ⟨_, _, rfl, rfl, ?_⟩)
  all_goals (clear hret; unfold nameReply)
  all_goals (first | rw [if_pos (show name_spec_kind = 6 by assumption)] | rw [if_neg (show name_spec_kind ≠ 6 by assumption)])
  all_goals (first | rw [if_pos (show feq (rgbToHsv name_spec_r name_spec_g name_spec_b).b 0 = true by assumption)] | rw [if_neg (by rw [show feq (rgbToHsv name_spec_r name_spec_g name_spec_b).b 0 = false by assumption]; decide)])
  all_goals (try subst_vars)
  all_goals rfl
theorem name_spec (w : World) (news) (q : Addr) (r g b : UInt64) (t1 t2 t3 t4 t5 : Tok) (kind tail : Int) (hk0 : 0 ≤ kind) (hk1 : kind ≤ 8) (ht0 : 0 ≤ tail) (ht1 : tail ≤ 2)
   (hm : (q, tupO [.float r t1, .float g t2, .float b t3]) ∈ news) (ho : RgbOk r g b) (f1 : Float64.isFinite (sixth (rgbToHsv r g b)) = true)
   (f2 : 0 ≤ toI (sixth (rgbToHsv r g b))) (f3 : toI (sixth (rgbToHsv r g b)) ≤ 5)
   : Ct w 98 [.ref q, .int kind t4, .int tail t5] news 5 60 (fun tl r' => ∃ x t, r' = .str x t ∧ tl = [] ∧ nameReply kind (feq (rgbToHsv r g b).b 0) (toI (sixth (rgbToHsv r g b))) tail = x) :=
  Ct.of fun mean mg mb dp un gd cn cs a ccd cl outer A₀ base h₀ L m s Q E => (Classical.choose_spec (ex_eps (dW, default, default, default, default, default, default, default, default, default, default, default, default, default, default, default, default, default, default, default, default, default, default, default, default, dA, default, default, default, default, dS, default, default) (fun v : World × Led × Addr × UInt64 × UInt64 × UInt64 × Tok × Tok × Tok × Tok × Tok × Int × Int × (ExcName → Option Value) × (Str → Option Value) × (Str → Option Value) × Nat × Nat × (Option (List Code)) × Str × Scope × Addr × Value × (List (Str × Addr)) × (List Env) × Around × Heap × Heap × Addr × (Str → Option Value) × Shared × (Value → Shared → Prop) × (Value → Shared → Prop) => name_spec_says v.1 v.2.1 v.2.2.1 v.2.2.2.1 v.2.2.2.2.1 v.2.2.2.2.2.1 v.2.2.2.2.2.2.1 v.2.2.2.2.2.2.2.1 v.2.2.2.2.2.2.2.2.1 v.2.2.2.2.2.2.2.2.2.1 v.2.2.2.2.2.2.2.2.2.2.1 v.2.2.2.2.2.2.2.2.2.2.2.1 v.2.2.2.2.2.2.2.2.2.2.2.2.1 v.2.2.2.2.2.2.2.2.2.2.2.2.2.1 v.2.2.2.2.2.2.2.2.2.2.2.2.2.2.1 v.2.2.2.2.2.2.2.2.2.2.2.2.2.2.2.1 v.2.2.2.2.2.2.2.2.2.2.2.2.2.2.2.2.1 v.2.2.2.2.2.2.2.2.2.2.2.2.2.2.2.2.2.1 v.2.2.2.2.2.2.2.2.2.2.2.2.2.2.2.2.2.2.1 v.2.2.2.2.2.2.2.2.2.2.2.2.2.2.2.2.2.2.2.1 v.2.2.2.2.2.2.2.2.2.2.2.2.2.2.2.2.2.2.2.2.1 v.2.2.2.2.2.2.2.2.2.2.2.2.2.2.2.2.2.2.2.2.2.1 v.2.2.2.2.2.2.2.2.2.2.2.2.2.2.2.2.2.2.2.2.2.2.1 v.2.2.2.2.2.2.2.2.2.2.2.2.2.2.2.2.2.2.2.2.2.2.2.1 v.2.2.2.2.2.2.2.2.2.2.2.2.2.2.2.2.2.2.2.2.2.2.2.2.1 v.2.2.2.2.2.2.2.2.2.2.2.2.2.2.2.2.2.2.2.2.2.2.2.2.2.1 v.2.2.2.2.2.2.2.2.2.2.2.2.2.2.2.2.2.2.2.2.2.2.2.2.2.2.1 v.2.2.2.2.2.2.2.2.2.2.2.2.2.2.2.2.2.2.2.2.2.2.2.2.2.2.2.1 v.2.2.2.2.2.2.2.2.2.2.2.2.2.2.2.2.2.2.2.2.2.2.2.2.2.2.2.2.1 v.2.2.2.2.2.2.2.2.2.2.2.2.2.2.2.2.2.2.2.2.2.2.2.2.2.2.2.2.2.1 v.2.2.2.2.2.2.2.2.2.2.2.2.2.2.2.2.2.2.2.2.2.2.2.2.2.2.2.2.2.2.1 v.2.2.2.2.2.2.2.2.2.2.2.2.2.2.2.2.2.2.2.2.2.2.2.2.2.2.2.2.2.2.2.1 v.2.2.2.2.2.2.2.2.2.2.2.2.2.2.2.2.2.2.2.2.2.2.2.2.2.2.2.2.2.2.2.2)) name_spec_core (w, news, q, r, g, b, t1, t2, t3, t4, t5, kind, tail, mean, mg, mb, dp, un, gd, cn, cs, a, ccd, cl, outer, A₀, base, h₀, L, m, s, Q, E) : name_spec_says w news q r g b t1 t2 t3 t4 t5 kind tail mean mg mb dp un gd cn cs a ccd cl outer A₀ base h₀ L m s Q E) hk0 hk1 ht0 ht1 hm ho f1 f2 f3

theorem port_rows1 : True := by
  k_with_none
  w_top off
  k_with "led_sub" => first | exact fun p hp => hp | (intro p hp; repeat' (first | exact hp | refine List.Mem.tail _ ?_))
  k_with "led_lt" => first | assumption | exact ktn_ltOf (by assumption) | exact lt1 (by assumption) | exact lt2 (by assumption) | exact lt3 (by assumption) | exact lt4 (by assumption)
  k_with "ct_fill" => (refine fillIt ?_; k_fill; intro _; unfold Ct)
  k_with "ct_enter" => (refine wpAny_call ?_; k_dflt cell_enter)
  k_with "ct_use" => ((case k1 => k_asm); (case k2 => k_asm); (case k3 => k_asm); (case k4 => k_asm); (case k5 => k_asm); (case kK => first | exact rfl | assumption); (case kd => ktr_room); (case ku => ktr_units))
  k_with "subscriptTail" => (k_here; (with_reducible show wpAny _ _ (subscriptTail _ _ (Value.ref _) (Value.int _ _)) _ _ _); (k_dflt (refine' tup_item ?k1 ?k2 ?k3 ?k4 ?k5 ?k6 ?_; (case k1 => k_asm); (case k2 => first | assumption | k_mem); (case k3 => decide); (case k4 => decide); (case k5 => exact rfl); (case k6 => with_unfolding_all rfl); k_whole)))
  k_with "call builtin:max" => ((with_reducible show wpAny _ _ (call _ [Value.float _ _, Value.float _ _, Value.float _ _]) _ _ _); (rename News _ _ _ _ => N'); (rename Fr _ _ _ _ => F'); refine max3_K rfl F' N' ?_; clear N'; intro _ _ _ _ _)
  k_with "call builtin:min" => ((with_reducible show wpAny _ _ (call _ [Value.float _ _, Value.float _ _, Value.float _ _]) _ _ _); (rename News _ _ _ _ => N'); (rename Fr _ _ _ _ => F'); refine min3_K rfl F' N' ?_; clear N'; intro _ _ _ _ _)
  k_with "subscriptTail" => (k_here; (with_reducible show wpAny _ _ (subscriptTail _ _ (Value.ref _) (Value.int _ _)) _ _ _); (k_dflt (refine' lst_item3 ?k1 ?k2 ?k3 ?k4 ?k6 ?_ ?_ ?_; (case k1 => k_asm); (case k2 => k_mem); (case k3 => omega); (case k4 => omega); (case k6 => with_unfolding_all rfl); all_goals (k_whole; intro hidx))))
  k_with "str_fit" => first | decide +kernel | (simp only [Str.length_append]; omega)
  k_with "binaryOp Add str str" => (k_here; (with_reducible show wpAny _ _ (binaryOp Operator.Add (Value.str _ _) (Value.str _ _)) _ _ _); (refine' add_m ?ksz ?_; (case ksz => walk_at "str_fit")); intro tx' kx' hx'; (try dsimp only at hx'))
  k_with "call builtin:str.replace" => (k_here; (refine' repl_m ?k1 ?k2 ?k3 ?k4 ?k5 ?k6 ?_; (case k1 => (show (0 : Nat) < _); omega); (case k2 => (show (0 : Nat) < _); omega); (case k3 => (show @Ne Nat _ _); omega); (case k4 => decide +kernel); (case k5 => walk_at "str_fit"); (case k6 => walk_at "str_fit")); intro tx' kx' hx'; (try dsimp only at hx'))
  k_with "subscriptTail" => (k_here; (with_reducible show wpAny _ _ (subscriptTail _ _ (Value.str _ _) (Value.int _ _)) _ _ _); (k_dflt (refine' str_item ?k1 ?k2 ?k3 ?k4 ?k5 ?_; (case k1 => omega); (case k2 => first | omega | exact Int.lt_of_lt_of_le (b := 4) (by omega) (by decide +kernel)); (case k3 => first | omega | decide +kernel); (case k4 => with_unfolding_all rfl); (case k5 => (intro _; with_unfolding_all rfl)))); intro hone')
  k_with "subscriptTail Name Slice str ref" => ((with_reducible rename Fr _ _ _ _ => F'); (with_reducible rename News _ _ _ _ => N'); (first
  | ((with_reducible show wpAny _ _ (subscriptTail _ (Expr.Slice (some _) none none _) _ _) _ _ _); (refine' slice_strN_sn_len (s := ⟨_, _, _, _, _⟩) F' N' ?_ (hsz := ?hsz)); (case hsz => walk_at "str_fit"))
  | ((with_reducible show wpAny _ _ (subscriptTail _ (Expr.Slice none (some _) none _) _ _) _ _ _); (refine' slice_strN_ns_len (s := ⟨_, _, _, _, _⟩) F' N' ?_ (hsz := ?hsz)); (case hsz => walk_at "str_fit"))
  | ((with_reducible show wpAny _ _ (subscriptTail _ (Expr.Slice (some _) (some _) none _) _ _) _ _ _); (refine' slice_strN_ss_len (s := ⟨_, _, _, _, _⟩) F' N' ?_ (hsz := ?hsz)); (case hsz => walk_at "str_fit"))); intro _ _ _ _ _ _)
  k_with "call ref" => (k_here; (with_reducible show wpAny _ _ (call (Value.ref 28) _) _ _ _); (k_dflt (refine' Ct.use (rgb_spec _ _ _ _ _ _ _ _ ?p1 ?p2) ?k1 ?k2 ?k3 ?k4 ?k5 ?kK ?kd ?ku ?_; (case p1 => exact RgbOk.h1 (by assumption)); (case p2 => exact RgbOk.h2 (by assumption)); walk_at "ct_use")); intro r' tl' h' tk' F' N' l1 hP'; obtain ⟨D', c', t4', t5', t6', e1', e2', e3'⟩ := hP'; subst e1' e2' e3'; replace l1 := lt_tl1 l1; (try k_lt l1); (simp only [List.cons_append, List.nil_append] at N'); (try k_sweep); (try dsimp only); (try k_fold))
  trivial
abbrev wt (y : C3) : UInt64 := Float64.add (Float64.mul (Float64.mul y.b y.c) (Float64.ofInt 64)) 4602678819172646912
def pOne (mark : Int) : Str := Txt.item (Str.ofString "|/\"r") mark
def pFull (one : Str) (n : Int) : Str := Txt.mul one 3 ++ Str.ofString (toString n) ++ one
def pBent (one full : Str) (tail : Int) : Str := match tail.toNat with
  | 0 => one ++ full
  | 1 => Txt.slice full (some 1) none
  | _ => Txt.slice full (some 2) none
def pKind (one full : Str) (tail : Int) : Nat → Str
  | 0 => Str.ofString "229 set (" ++ full ++ Str.ofString ")"
  | 1 => Str.ofString "228 set (" ++ full ++ Str.ofString ")"
  | 2 => Str.ofString "229 set (" ++ full ++ Str.ofString "x"
  | 3 => Str.ofString "229 set (" ++ full ++ Str.ofString "x)"
  | 4 => Str.ofString "229 set (" ++ pBent one full tail ++ Str.ofString ")"
  | 5 => Str.ofString "229 set (" ++ Txt.mul one 4 ++ Str.ofString ")"
  | 6 => Str.ofString "229 set (" ++ full ++ Str.ofString ")"
  | 7 => Str.ofString "229 9) (" ++ full ++ Str.ofString ") (!!!1!)"
  | _ => Str.ofString "229 272)"
def portReply (kind mark tail n : Int) : Str := pKind (pOne mark) (pFull (pOne mark) n) tail kind.toNat
theorem port_pick {kind mark tail n : Int} (hk : kind ≤ 8) (ht : tail ≤ 2) : portReply kind mark tail n =
    pick [Str.ofString "229 set (" ++ pFull (pOne mark) n ++ Str.ofString ")", Str.ofString "228 set (" ++ pFull (pOne mark) n ++ Str.ofString ")", Str.ofString "229 set (" ++ pFull (pOne mark) n ++ Str.ofString "x", Str.ofString "229 set (" ++ pFull (pOne mark) n ++ Str.ofString "x)",
      Str.ofString "229 set (" ++ pick [pOne mark ++ pFull (pOne mark) n, Txt.slice (pFull (pOne mark) n) (some 1) none, Txt.slice (pFull (pOne mark) n) (some 2) none] tail ++ Str.ofString ")", Str.ofString "229 set (" ++ Txt.mul (pOne mark) 4 ++ Str.ofString ")",
      Str.ofString "229 set (" ++ pFull (pOne mark) n ++ Str.ofString ")", Str.ofString "229 9) (" ++ pFull (pOne mark) n ++ Str.ofString ") (!!!1!)", Str.ofString "229 272)"] kind := by
  have h1 : kind.toNat < 9 := by omega
  have h2 : tail.toNat < 3 := by omega
  unfold portReply pick pKind pBent
  generalize kind.toNat = i at h1 ⊢
  generalize tail.toNat = j at h2 ⊢
  match i, h1 with
  | 0, _ => rfl
  | 1, _ => rfl
  | 2, _ => rfl
  | 3, _ => rfl
  | 4, _ => match j, h2 with
    | 0, _ => rfl
    | 1, _ => rfl
    | 2, _ => rfl
  | 5, _ => rfl
  | 6, _ => rfl
  | 7, _ => rfl
  | 8, _ => rfl
section
theorem port_rows2 : True := by
  k_with "len_le" => first | assumption | exact Nat.le_refl _
  k_with "binaryOp Add str str" => (k_here; (with_reducible show wpAny _ _ (binaryOp Operator.Add (Value.str _ _) (Value.str _ _)) _ _ _); (refine' add_g ?ka ?kb ?kc ?_; (case ka => walk_at "len_le"); (case kb => walk_at "len_le"); (case kc => decide +kernel)); intro z' ez' lz' tx' kx' hx'; (try dsimp only at hx'))
  k_with "binaryOp Mult str int" => (k_here; (refine' mul_g ?ka ?kb ?kc ?kd ?_; (case ka => walk_at "len_le"); (case kb => decide +kernel); (case kc => decide); (case kd => decide)); intro z' ez' lz' tx' kx' hx'; (try dsimp only at hx'))
  k_with "call type:str" => (k_here; (refine' strint_g ?ka ?kb ?_; (case ka => omega); (case kb => omega)); intro z' ez' lz')
  k_with "subscriptTail Name Slice str ref" => ((with_reducible rename Fr _ _ _ _ => F'); (with_reducible rename News _ _ _ _ => N'); (with_reducible show wpAny _ _ (subscriptTail _ (Expr.Slice (some _) none none _) _ _) _ _ _); (refine' cut_g (s := ⟨_, _, _, _, _⟩) ?ka ?kb F' N' ?kc ?kd ?_; (case ka => walk_at "len_le"); (case kb => decide +kernel); (case kc => with_unfolding_all rfl); (case kd => (intro _; with_unfolding_all rfl))); intro z' ez' lz' h' tx' kx' F2' N2' hx'; (try dsimp only at hx'))
  k_with "subscriptTail" => (k_here; (with_reducible show wpAny _ _ (subscriptTail _ _ (Value.str _ _) (Value.int _ _)) _ _ _); (k_dflt (refine' item_g ?k1 ?k2 ?k3 ?k4 ?k5 ?_; (case k1 => omega); (case k2 => first | omega | exact Int.lt_of_lt_of_le (b := 4) (by omega) (by decide +kernel)); (case k3 => first | omega | decide +kernel); (case k4 => with_unfolding_all rfl); (case k5 => (intro _; with_unfolding_all rfl)))); intro z' ez' lz')
  trivial
theorem port_rows3 : True := by
  k_with "pick_len" => (first | (simp only [List.forall_mem_cons, List.not_mem_nil, false_imp_iff, implies_true, and_true]; (repeat' (first | refine And.intro ?_ ?_)); all_goals (first | exact Nat.le_trans (by assumption) (by decide +kernel) | decide +kernel)))
  trivial
theorem port_rows4 : True := by
  k_with "pick_lt" => (first | exact Int.lt_of_le_of_lt (b := 2) (by assumption) (Int.ofNat_lt.2 (Nat.lt_add_one 2)) | exact Int.lt_of_le_of_lt (b := 5) (by assumption) (Int.ofNat_lt.2 (Nat.lt_add_one 5)) | exact Int.lt_of_le_of_lt (b := 8) (by assumption) (Int.ofNat_lt.2 (Nat.lt_add_one 8)))
  trivial
theorem port_rows5 : True := by
  k_with "subscriptTail" => (k_here; (with_reducible show wpAny _ _ (subscriptTail _ _ (Value.ref _) (Value.int _ _)) _ _ _); (k_dflt (first | (refine' pick_item (b := 60) ?k1 ?k2 ?k3 ?k4 ?k5 ?k6 ?k7 ?k8 ?_; (case k1 => k_asm); (case k2 => k_mem); (case k3 => with_unfolding_all (repeat' (first | exact StrsAre.nil | refine' StrsAre.cons _ _ ?_))); (case k4 => assumption); (case k5 => walk_at "pick_lt"); (case k6 => with_unfolding_all exact Nat.le_of_ble_eq_true rfl); (case k7 => walk_at "pick_len"); (case k8 => with_unfolding_all rfl)) | (refine' pick_item (b := 200) ?k1 ?k2 ?k3 ?k4 ?k5 ?k6 ?k7 ?k8 ?_; (case k1 => k_asm); (case k2 => k_mem); (case k3 => with_unfolding_all (repeat' (first | exact StrsAre.nil | refine' StrsAre.cons _ _ ?_))); (case k4 => assumption); (case k5 => walk_at "pick_lt"); (case k6 => with_unfolding_all exact Nat.le_of_ble_eq_true rfl); (case k7 => walk_at "pick_len"); (case k8 => with_unfolding_all rfl)))); intro z' tk' ez' lz')
  trivial
def port_spec_says (w : World) (news : Led) (q : Addr) (r : UInt64) (g : UInt64) (b : UInt64) (t1 : Tok) (t2 : Tok) (t3 : Tok) (t4 : Tok) (t5 : Tok) (t6 : Tok) (kind : Int) (mark : Int) (tail : Int) (mean : ExcName → Option Value) (mg : Str → Option Value) (mb : Str → Option Value) (dp : Nat) (un : Nat) (gd : Option (List Code)) (cn : Str) (cs : Scope) (a : Addr) (ccd : Value) (cl : List (Str × Addr)) (outer : List Env) (A₀ : Around) (base : Heap) (h₀ : Heap) (L : Addr) (m : Str → Option Value) (s : Shared) (Q : Value → Shared → Prop) (E : Value → Shared → Prop) : Prop := (0 ≤ kind) → (kind ≤ 8) → (0 ≤ mark) → (mark ≤ 3) → (0 ≤ tail) → (tail ≤ 2) → ((q, tupO [.float r t1, .float g t2, .float b t3]) ∈ news) → (RgbOk r g b) → (Float64.isFinite (wt (rgbToHsv r g b)) = true) → (0 ≤ toI (wt (rgbToHsv r g b))) → (toI (wt (rgbToHsv r g b)) ≤ 60) → CtB w 105 [.ref q, .int kind t4, .int mark t5, .int tail t6] news 5 60 (fun tl r' => ∃ x t, r' = .str x t ∧ tl = [] ∧ portReply kind mark tail (toI (wt (rgbToHsv r g b))) = x) mean mg mb dp un gd cn cs a ccd cl outer A₀ base h₀ L m s Q E
noncomputable def port_spec_bad : World × Led × Addr × UInt64 × UInt64 × UInt64 × Tok × Tok × Tok × Tok × Tok × Tok × Int × Int × Int × (ExcName → Option Value) × (Str → Option Value) × (Str → Option Value) × Nat × Nat × (Option (List Code)) × Str × Scope × Addr × Value × (List (Str × Addr)) × (List Env) × Around × Heap × Heap × Addr × (Str → Option Value) × Shared × (Value → Shared → Prop) × (Value → Shared → Prop) := Classical.choose (ex_eps (dW, default, default, default, default, default, default, default, default, default, default, default, default, default, default, default, default, default, default, default, default, default, default, default, default, default, default, dA, default, default, default, default, dS, default, default) (fun v : World × Led × Addr × UInt64 × UInt64 × UInt64 × Tok × Tok × Tok × Tok × Tok × Tok × Int × Int × Int × (ExcName → Option Value) × (Str → Option Value) × (Str → Option Value) × Nat × Nat × (Option (List Code)) × Str × Scope × Addr × Value × (List (Str × Addr)) × (List Env) × Around × Heap × Heap × Addr × (Str → Option Value) × Shared × (Value → Shared → Prop) × (Value → Shared → Prop) => port_spec_says v.1 v.2.1 v.2.2.1 v.2.2.2.1 v.2.2.2.2.1 v.2.2.2.2.2.1 v.2.2.2.2.2.2.1 v.2.2.2.2.2.2.2.1 v.2.2.2.2.2.2.2.2.1 v.2.2.2.2.2.2.2.2.2.1 v.2.2.2.2.2.2.2.2.2.2.1 v.2.2.2.2.2.2.2.2.2.2.2.1 v.2.2.2.2.2.2.2.2.2.2.2.2.1 v.2.2.2.2.2.2.2.2.2.2.2.2.2.1 v.2.2.2.2.2.2.2.2.2.2.2.2.2.2.1 v.2.2.2.2.2.2.2.2.2.2.2.2.2.2.2.1 v.2.2.2.2.2.2.2.2.2.2.2.2.2.2.2.2.1 v.2.2.2.2.2.2.2.2.2.2.2.2.2.2.2.2.2.1 v.2.2.2.2.2.2.2.2.2.2.2.2.2.2.2.2.2.2.1 v.2.2.2.2.2.2.2.2.2.2.2.2.2.2.2.2.2.2.2.1 v.2.2.2.2.2.2.2.2.2.2.2.2.2.2.2.2.2.2.2.2.1 v.2.2.2.2.2.2.2.2.2.2.2.2.2.2.2.2.2.2.2.2.2.1 v.2.2.2.2.2.2.2.2.2.2.2.2.2.2.2.2.2.2.2.2.2.2.1 v.2.2.2.2.2.2.2.2.2.2.2.2.2.2.2.2.2.2.2.2.2.2.2.1 v.2.2.2.2.2.2.2.2.2.2.2.2.2.2.2.2.2.2.2.2.2.2.2.2.1 v.2.2.2.2.2.2.2.2.2.2.2.2.2.2.2.2.2.2.2.2.2.2.2.2.2.1 v.2.2.2.2.2.2.2.2.2.2.2.2.2.2.2.2.2.2.2.2.2.2.2.2.2.2.1 v.2.2.2.2.2.2.2.2.2.2.2.2.2.2.2.2.2.2.2.2.2.2.2.2.2.2.2.1 v.2.2.2.2.2.2.2.2.2.2.2.2.2.2.2.2.2.2.2.2.2.2.2.2.2.2.2.2.1 v.2.2.2.2.2.2.2.2.2.2.2.2.2.2.2.2.2.2.2.2.2.2.2.2.2.2.2.2.2.1 v.2.2.2.2.2.2.2.2.2.2.2.2.2.2.2.2.2.2.2.2.2.2.2.2.2.2.2.2.2.2.1 v.2.2.2.2.2.2.2.2.2.2.2.2.2.2.2.2.2.2.2.2.2.2.2.2.2.2.2.2.2.2.2.1 v.2.2.2.2.2.2.2.2.2.2.2.2.2.2.2.2.2.2.2.2.2.2.2.2.2.2.2.2.2.2.2.2.1 v.2.2.2.2.2.2.2.2.2.2.2.2.2.2.2.2.2.2.2.2.2.2.2.2.2.2.2.2.2.2.2.2.2.1 v.2.2.2.2.2.2.2.2.2.2.2.2.2.2.2.2.2.2.2.2.2.2.2.2.2.2.2.2.2.2.2.2.2.2))
noncomputable def port_spec_w : World := port_spec_bad.1
noncomputable def port_spec_news : Led := port_spec_bad.2.1
noncomputable def port_spec_q : Addr := port_spec_bad.2.2.1
noncomputable def port_spec_r : UInt64 := port_spec_bad.2.2.2.1
noncomputable def port_spec_g : UInt64 := port_spec_bad.2.2.2.2.1
noncomputable def port_spec_b : UInt64 := port_spec_bad.2.2.2.2.2.1
noncomputable def port_spec_t1 : Tok := port_spec_bad.2.2.2.2.2.2.1
noncomputable def port_spec_t2 : Tok := port_spec_bad.2.2.2.2.2.2.2.1
noncomputable def port_spec_t3 : Tok := port_spec_bad.2.2.2.2.2.2.2.2.1
noncomputable def port_spec_t4 : Tok := port_spec_bad.2.2.2.2.2.2.2.2.2.1
noncomputable def port_spec_t5 : Tok := port_spec_bad.2.2.2.2.2.2.2.2.2.2.1
noncomputable def port_spec_t6 : Tok := port_spec_bad.2.2.2.2.2.2.2.2.2.2.2.1
noncomputable def port_spec_kind : Int := port_spec_bad.2.2.2.2.2.2.2.2.2.2.2.2.1
noncomputable def port_spec_mark : Int := port_spec_bad.2.2.2.2.2.2.2.2.2.2.2.2.2.1
noncomputable def port_spec_tail : Int := port_spec_bad.2.2.2.2.2.2.2.2.2.2.2.2.2.2.1
noncomputable def port_spec_mean : ExcName → Option Value := port_spec_bad.2.2.2.2.2.2.2.2.2.2.2.2.2.2.2.1
noncomputable def port_spec_mg : Str → Option Value := port_spec_bad.2.2.2.2.2.2.2.2.2.2.2.2.2.2.2.2.1
noncomputable def port_spec_mb : Str → Option Value := port_spec_bad.2.2.2.2.2.2.2.2.2.2.2.2.2.2.2.2.2.1
noncomputable def port_spec_dp : Nat := port_spec_bad.2.2.2.2.2.2.2.2.2.2.2.2.2.2.2.2.2.2.1
noncomputable def port_spec_un : Nat := port_spec_bad.2.2.2.2.2.2.2.2.2.2.2.2.2.2.2.2.2.2.2.1
noncomputable def port_spec_gd : Option (List Code) := port_spec_bad.2.2.2.2.2.2.2.2.2.2.2.2.2.2.2.2.2.2.2.2.1
noncomputable def port_spec_cn : Str := port_spec_bad.2.2.2.2.2.2.2.2.2.2.2.2.2.2.2.2.2.2.2.2.2.1
noncomputable def port_spec_cs : Scope := port_spec_bad.2.2.2.2.2.2.2.2.2.2.2.2.2.2.2.2.2.2.2.2.2.2.1
noncomputable def port_spec_a : Addr := port_spec_bad.2.2.2.2.2.2.2.2.2.2.2.2.2.2.2.2.2.2.2.2.2.2.2.1
noncomputable def port_spec_ccd : Value := port_spec_bad.2.2.2.2.2.2.2.2.2.2.2.2.2.2.2.2.2.2.2.2.2.2.2.2.1
noncomputable def port_spec_cl : List (Str × Addr) := port_spec_bad.2.2.2.2.2.2.2.2.2.2.2.2.2.2.2.2.2.2.2.2.2.2.2.2.2.1
noncomputable def port_spec_outer : List Env := port_spec_bad.2.2.2.2.2.2.2.2.2.2.2.2.2.2.2.2.2.2.2.2.2.2.2.2.2.2.1
noncomputable def port_spec_A₀ : Around := port_spec_bad.2.2.2.2.2.2.2.2.2.2.2.2.2.2.2.2.2.2.2.2.2.2.2.2.2.2.2.1
noncomputable def port_spec_base : Heap := port_spec_bad.2.2.2.2.2.2.2.2.2.2.2.2.2.2.2.2.2.2.2.2.2.2.2.2.2.2.2.2.1
noncomputable def port_spec_h₀ : Heap := port_spec_bad.2.2.2.2.2.2.2.2.2.2.2.2.2.2.2.2.2.2.2.2.2.2.2.2.2.2.2.2.2.1
noncomputable def port_spec_L : Addr := port_spec_bad.2.2.2.2.2.2.2.2.2.2.2.2.2.2.2.2.2.2.2.2.2.2.2.2.2.2.2.2.2.2.1
noncomputable def port_spec_m : Str → Option Value := port_spec_bad.2.2.2.2.2.2.2.2.2.2.2.2.2.2.2.2.2.2.2.2.2.2.2.2.2.2.2.2.2.2.2.1
noncomputable def port_spec_s : Shared := port_spec_bad.2.2.2.2.2.2.2.2.2.2.2.2.2.2.2.2.2.2.2.2.2.2.2.2.2.2.2.2.2.2.2.2.1
noncomputable def port_spec_Q : Value → Shared → Prop := port_spec_bad.2.2.2.2.2.2.2.2.2.2.2.2.2.2.2.2.2.2.2.2.2.2.2.2.2.2.2.2.2.2.2.2.2.1
noncomputable def port_spec_E : Value → Shared → Prop := port_spec_bad.2.2.2.2.2.2.2.2.2.2.2.2.2.2.2.2.2.2.2.2.2.2.2.2.2.2.2.2.2.2.2.2.2.2
set_option maxHeartbeats 8000000 in
theorem port_spec_core : port_spec_says port_spec_w port_spec_news port_spec_q port_spec_r port_spec_g port_spec_b port_spec_t1 port_spec_t2 port_spec_t3 port_spec_t4 port_spec_t5 port_spec_t6 port_spec_kind port_spec_mark port_spec_tail port_spec_mean port_spec_mg port_spec_mb port_spec_dp port_spec_un port_spec_gd port_spec_cn port_spec_cs port_spec_a port_spec_ccd port_spec_cl port_spec_outer port_spec_A₀ port_spec_base port_spec_h₀ port_spec_L port_spec_m port_spec_s port_spec_Q port_spec_E := by
  unfold port_spec_says
  intro hk0 hk1 hm0 hm1 ht0 ht1 hm ho f1 f2 f3
  (refine fillIt ?_; k_fill; intro _; unfold CtB)
  dsimp only [toI, wt] at f1 f2 f3
  intro B F X N T hk hdp hun hret
  walk_at "ct_enter"
  k_steps
  all_goals (refine end0 hret (by k_asm) (by k_asm) (by walk_at "led_sub") ⟨_, _, rfl, rfl, ?_⟩)
  clear hret
  subst_vars
  exact port_pick hk1 ht1
theorem port_spec (w : World) (news) (q : Addr) (r g b : UInt64) (t1 t2 t3 t4 t5 t6 : Tok) (kind mark tail : Int) (hk0 : 0 ≤ kind) (hk1 : kind ≤ 8) (hm0 : 0 ≤ mark) (hm1 : mark ≤ 3) (ht0 : 0 ≤ tail) (ht1 : tail ≤ 2)
   (hm : (q, tupO [.float r t1, .float g t2, .float b t3]) ∈ news) (ho : RgbOk r g b) (f1 : Float64.isFinite (wt (rgbToHsv r g b)) = true)
   (f2 : 0 ≤ toI (wt (rgbToHsv r g b))) (f3 : toI (wt (rgbToHsv r g b)) ≤ 60)
   : Ct w 105 [.ref q, .int kind t4, .int mark t5, .int tail t6] news 5 60 (fun tl r' => ∃ x t, r' = .str x t ∧ tl = [] ∧ portReply kind mark tail (toI (wt (rgbToHsv r g b))) = x) :=
  Ct.of fun mean mg mb dp un gd cn cs a ccd cl outer A₀ base h₀ L m s Q E => (Classical.choose_spec (ex_eps (dW, default, default, default, default, default, default, default, default, default, default, default, default, default, default, default, default, default, default, default, default, default, default, default, default, default, default, dA, default, default, default, default, dS, default, default) (fun v : World × Led × Addr × UInt64 × UInt64 × UInt64 × Tok × Tok × Tok × Tok × Tok × Tok × Int × Int × Int × (ExcName → Option Value) × (Str → Option Value) × (Str → Option Value) × Nat × Nat × (Option (List Code)) × Str × Scope × Addr × Value × (List (Str × Addr)) × (List Env) × Around × Heap × Heap × Addr × (Str → Option Value) × Shared × (Value → Shared → Prop) × (Value → Shared → Prop) => port_spec_says v.1 v.2.1 v.2.2.1 v.2.2.2.1 v.2.2.2.2.1 v.2.2.2.2.2.1 v.2.2.2.2.2.2.1 v.2.2.2.2.2.2.2.1 v.2.2.2.2.2.2.2.2.1 v.2.2.2.2.2.2.2.2.2.1 v.2.2.2.2.2.2.2.2.2.2.1 v.2.2.2.2.2.2.2.2.2.2.2.1 v.2.2.2.2.2.2.2.2.2.2.2.2.1 v.2.2.2.2.2.2.2.2.2.2.2.2.2.1 v.2.2.2.2.2.2.2.2.2.2.2.2.2.2.1 v.2.2.2.2.2.2.2.2.2.2.2.2.2.2.2.1 v.2.2.2.2.2.2.2.2.2.2.2.2.2.2.2.2.1 v.2.2.2.2.2.2.2.2.2.2.2.2.2.2.2.2.2.1 v.2.2.2.2.2.2.2.2.2.2.2.2.2.2.2.2.2.2.1 v.2.2.2.2.2.2.2.2.2.2.2.2.2.2.2.2.2.2.2.1 v.2.2.2.2.2.2.2.2.2.2.2.2.2.2.2.2.2.2.2.2.1 v.2.2.2.2.2.2.2.2.2.2.2.2.2.2.2.2.2.2.2.2.2.1 v.2.2.2.2.2.2.2.2.2.2.2.2.2.2.2.2.2.2.2.2.2.2.1 v.2.2.2.2.2.2.2.2.2.2.2.2.2.2.2.2.2.2.2.2.2.2.2.1 v.2.2.2.2.2.2.2.2.2.2.2.2.2.2.2.2.2.2.2.2.2.2.2.2.1 v.2.2.2.2.2.2.2.2.2.2.2.2.2.2.2.2.2.2.2.2.2.2.2.2.2.1 v.2.2.2.2.2.2.2.2.2.2.2.2.2.2.2.2.2.2.2.2.2.2.2.2.2.2.1 v.2.2.2.2.2.2.2.2.2.2.2.2.2.2.2.2.2.2.2.2.2.2.2.2.2.2.2.1 v.2.2.2.2.2.2.2.2.2.2.2.2.2.2.2.2.2.2.2.2.2.2.2.2.2.2.2.2.1 v.2.2.2.2.2.2.2.2.2.2.2.2.2.2.2.2.2.2.2.2.2.2.2.2.2.2.2.2.2.1 v.2.2.2.2.2.2.2.2.2.2.2.2.2.2.2.2.2.2.2.2.2.2.2.2.2.2.2.2.2.2.1 v.2.2.2.2.2.2.2.2.2.2.2.2.2.2.2.2.2.2.2.2.2.2.2.2.2.2.2.2.2.2.2.1 v.2.2.2.2.2.2.2.2.2.2.2.2.2.2.2.2.2.2.2.2.2.2.2.2.2.2.2.2.2.2.2.2.1 v.2.2.2.2.2.2.2.2.2.2.2.2.2.2.2.2.2.2.2.2.2.2.2.2.2.2.2.2.2.2.2.2.2.1 v.2.2.2.2.2.2.2.2.2.2.2.2.2.2.2.2.2.2.2.2.2.2.2.2.2.2.2.2.2.2.2.2.2.2)) port_spec_core (w, news, q, r, g, b, t1, t2, t3, t4, t5, t6, kind, mark, tail, mean, mg, mb, dp, un, gd, cn, cs, a, ccd, cl, outer, A₀, base, h₀, L, m, s, Q, E) : port_spec_says w news q r g b t1 t2 t3 t4 t5 t6 kind mark tail mean mg mb dp un gd cn cs a ccd cl outer A₀ base h₀ L m s Q E) hk0 hk1 hm0 hm1 ht0 ht1 hm ho f1 f2 f3
end

theorem tab_rows1 : True := by
  k_with_none
  w_top off
  k_with "led_sub" => first | exact fun p hp => hp | (intro p hp; repeat' (first | exact hp | refine List.Mem.tail _ ?_))
  k_with "led_lt" => first | assumption | exact ktn_ltOf (by assumption) | exact lt1 (by assumption) | exact lt2 (by assumption) | exact lt3 (by assumption) | exact lt4 (by assumption)
  k_with "ct_fill" => (refine fillIt ?_; k_fill; intro _; unfold Ct)
  k_with "ct_enter" => (refine wpAny_call ?_; k_dflt cell_enter)
  k_with "ct_use" => ((case k1 => k_asm); (case k2 => k_asm); (case k3 => k_asm); (case k4 => k_asm); (case k5 => k_asm); (case kK => first | exact rfl | assumption); (case kd => ktr_room); (case ku => ktr_units))
  k_with "subscriptTail" => (k_here; (with_reducible show wpAny _ _ (subscriptTail _ _ (Value.ref _) (Value.int _ _)) _ _ _); (k_dflt (refine' tup_item ?k1 ?k2 ?k3 ?k4 ?k5 ?k6 ?_; (case k1 => k_asm); (case k2 => first | assumption | k_mem); (case k3 => decide); (case k4 => decide); (case k5 => exact rfl); (case k6 => with_unfolding_all rfl); k_whole)))
  k_with "call builtin:max" => ((with_reducible show wpAny _ _ (call _ [Value.float _ _, Value.float _ _, Value.float _ _]) _ _ _); (rename News _ _ _ _ => N'); (rename Fr _ _ _ _ => F'); refine max3_K rfl F' N' ?_; clear N'; intro _ _ _ _ _)
  k_with "call builtin:min" => ((with_reducible show wpAny _ _ (call _ [Value.float _ _, Value.float _ _, Value.float _ _]) _ _ _); (rename News _ _ _ _ => N'); (rename Fr _ _ _ _ => F'); refine min3_K rfl F' N' ?_; clear N'; intro _ _ _ _ _)
  k_with "subscriptTail" => (k_here; (with_reducible show wpAny _ _ (subscriptTail _ _ (Value.ref _) (Value.int _ _)) _ _ _); (k_dflt (refine' lst_item3 ?k1 ?k2 ?k3 ?k4 ?k6 ?_ ?_ ?_; (case k1 => k_asm); (case k2 => k_mem); (case k3 => omega); (case k4 => omega); (case k6 => with_unfolding_all rfl); all_goals (k_whole; intro hidx))))
  k_with "str_fit" => first | decide +kernel | (simp only [Str.length_append]; omega)
  k_with "binaryOp Add str str" => (k_here; (with_reducible show wpAny _ _ (binaryOp Operator.Add (Value.str _ _) (Value.str _ _)) _ _ _); (refine' add_m ?ksz ?_; (case ksz => walk_at "str_fit")); intro tx' kx' hx'; (try dsimp only at hx'))
  k_with "call builtin:str.replace" => (k_here; (refine' repl_m ?k1 ?k2 ?k3 ?k4 ?k5 ?k6 ?_; (case k1 => (show (0 : Nat) < _); omega); (case k2 => (show (0 : Nat) < _); omega); (case k3 => (show @Ne Nat _ _); omega); (case k4 => decide +kernel); (case k5 => walk_at "str_fit"); (case k6 => walk_at "str_fit")); intro tx' kx' hx'; (try dsimp only at hx'))
  k_with "subscriptTail" => (k_here; (with_reducible show wpAny _ _ (subscriptTail _ _ (Value.str _ _) (Value.int _ _)) _ _ _); (k_dflt (refine' str_item ?k1 ?k2 ?k3 ?k4 ?k5 ?_; (case k1 => omega); (case k2 => first | omega | exact Int.lt_of_lt_of_le (b := 4) (by omega) (by decide +kernel)); (case k3 => first | omega | decide +kernel); (case k4 => with_unfolding_all rfl); (case k5 => (intro _; with_unfolding_all rfl)))); intro hone')
  k_with "subscriptTail Name Slice str ref" => ((with_reducible rename Fr _ _ _ _ => F'); (with_reducible rename News _ _ _ _ => N'); (first
  | ((with_reducible show wpAny _ _ (subscriptTail _ (Expr.Slice (some _) none none _) _ _) _ _ _); (refine' slice_strN_sn_len (s := ⟨_, _, _, _, _⟩) F' N' ?_ (hsz := ?hsz)); (case hsz => walk_at "str_fit"))
  | ((with_reducible show wpAny _ _ (subscriptTail _ (Expr.Slice none (some _) none _) _ _) _ _ _); (refine' slice_strN_ns_len (s := ⟨_, _, _, _, _⟩) F' N' ?_ (hsz := ?hsz)); (case hsz => walk_at "str_fit"))
  | ((with_reducible show wpAny _ _ (subscriptTail _ (Expr.Slice (some _) (some _) none _) _ _) _ _ _); (refine' slice_strN_ss_len (s := ⟨_, _, _, _, _⟩) F' N' ?_ (hsz := ?hsz)); (case hsz => walk_at "str_fit"))); intro _ _ _ _ _ _)
  k_with "call ref" => (k_here; (with_reducible show wpAny _ _ (call (Value.ref 28) _) _ _ _); (k_dflt (refine' Ct.use (rgb_spec _ _ _ _ _ _ _ _ ?p1 ?p2) ?k1 ?k2 ?k3 ?k4 ?k5 ?kK ?kd ?ku ?_; (case p1 => exact RgbOk.h1 (by assumption)); (case p2 => exact RgbOk.h2 (by assumption)); walk_at "ct_use")); intro r' tl' h' tk' F' N' l1 hP'; obtain ⟨D', c', t4', t5', t6', e1', e2', e3'⟩ := hP'; subst e1' e2' e3'; replace l1 := lt_tl1 l1; (try k_lt l1); (simp only [List.cons_append, List.nil_append] at N'); (try k_sweep); (try dsimp only); (try k_fold))
  trivial
/-- the double of n/d -/
def D (d n : Nat) : UInt64 := Float64.ofFrac false n d
def allN (n : Nat) (p : Nat → Bool) : Bool := (List.range n).all p
theorem allN_of {n : Nat} {p : Nat → Bool} (h : allN n p = true) {i : Nat} (hi : i < n) : p i = true := List.all_eq_true.mp h i (List.mem_range.mpr hi)
abbrev fin (x : UInt64) : Bool := Float64.isFinite x
theorem t_mul6 : allN 96 (fun m => Float64.mul (D 48 m) 4618441417868443648 == D 8 m) = true := by decide +kernel
theorem t_toI : allN 96 (fun m => toI (D 8 m) == (m / 8 : Nat) && fin (D 8 m)) = true := by decide +kernel
theorem t_fr : allN 96 (fun m => Float64.sub (D 8 m) (Float64.ofInt (m / 8 : Nat)) == D 8 (m % 8)) = true := by decide +kernel
theorem t_sc : allN 5 (fun c => Float64.sub 4607182418800017408 (D 4 c) == D 32 (32 - 8 * c) && (feq (D 4 c) 0 == (c == 0)) && fin (near (D 4 c) 4) && (nearI (D 4 c) 4 == (c : Int)) && allN 8 fun j => Float64.mul (D 4 c) (D 8 j) == D 32 (c * j)) = true := by decide +kernel
theorem t_one32 : allN 33 (fun n => Float64.sub 4607182418800017408 (D 32 n) == D 32 (32 - n)) = true := by decide +kernel
theorem t_one8 : allN 9 (fun j => Float64.sub 4607182418800017408 (D 8 j) == D 8 (8 - j)) = true := by decide +kernel
theorem t_vp : allN 16 (fun w => allN 33 fun n => Float64.mul (D 16 w) (D 32 n) == D 512 (w * n)) = true := by decide +kernel
theorem t_lev : allN 16 (fun w => (D 16 w == D 512 (32 * w)) && fin (near (D 512 (32 * w)) 16) && (nearI (D 512 (32 * w)) 16 == (w : Int)) && (Float64.sub (D 512 (32 * w)) (D 512 (32 * w)) == 0) && fin (wt ⟨0, 0, D 512 (32 * w)⟩) && (toI (wt ⟨0, 0, D 512 (32 * w)⟩) == 0)) = true := by decide +kernel
theorem t_val : allN 481 (fun n => fin (D 512 n) && (Float64.val (D 512 n) == (n : Int) * 2 ^ 1065)) = true := by decide +kernel
theorem t_mix : allN 481 (fun n => fin (near (D 512 n) 512) && (nearI (D 512 n) 512 == (n : Int))) = true := by decide +kernel
theorem t_wc : allN 15 (fun w => allN 4 fun c => (Float64.sub (D 512 (32 * (w + 1))) (D 512 ((w + 1) * (32 - 8 * (c + 1)))) == D 512 (8 * (c + 1) * (w + 1))) && (Float64.div (D 512 (8 * (c + 1) * (w + 1))) (D 512 (32 * (w + 1))) == D 4 (c + 1)) && (Float64.div (D 512 (8 * (c + 1) * (w + 1))) (D 512 (8 * (c + 1) * (w + 1))) == D 8 8)
  && (Float64.div 0 (D 512 (8 * (c + 1) * (w + 1))) == D 8 0) && !Float64.isZero (D 512 (32 * (w + 1))) && !Float64.isZero (D 512 (8 * (c + 1) * (w + 1))) && fin (wt ⟨0, D 4 (c + 1), D 512 (32 * (w + 1))⟩) && (toI (wt ⟨0, D 4 (c + 1), D 512 (32 * (w + 1))⟩) == ((c + 1) * (w + 1) : Nat))) = true := by decide +kernel
theorem t_wcj : allN 15 (fun w => allN 4 fun c => allN 8 fun j => (Float64.sub (D 512 (32 * (w + 1))) (D 512 ((w + 1) * (32 - (c + 1) * j))) == D 512 ((c + 1) * (w + 1) * j)) && (Float64.div (D 512 ((c + 1) * (w + 1) * j)) (D 512 (8 * (c + 1) * (w + 1))) == D 8 j)) = true := by decide +kernel
def hueOf (k f : Nat) : UInt64 := match k with
  | 0 => fin6 (Float64.sub (D 8 8) (D 8 (8 - f)))
  | 1 => fin6 (Float64.sub (Float64.add 4611686018427387904 (D 8 f)) (D 8 8))
  | 2 => fin6 (Float64.sub (Float64.add 4611686018427387904 (D 8 8)) (D 8 (8 - f)))
  | 3 => fin6 (Float64.sub (Float64.add 4616189618054758400 (D 8 f)) (D 8 8))
  | 4 => fin6 (Float64.sub (Float64.add 4616189618054758400 (D 8 8)) (D 8 (8 - f)))
  | _ => fin6 (Float64.sub (D 8 f) (D 8 8))
theorem t_hue : allN 6 (fun k => allN 7 fun f => fin (near (hueOf k (f + 1)) 48) && (nearI (hueOf k (f + 1)) 48 == (8 * k + (f + 1) : Nat)) && fin (sixth ⟨hueOf k (f + 1), 0, 0⟩) && (toI (sixth ⟨hueOf k (f + 1), 0, 0⟩) == (k : Nat))) = true := by decide +kernel

theorem col_rows1 : True := by
  k_with_none
  w_top off
  k_with "led_sub" => first | exact fun p hp => hp | (intro p hp; repeat' (first | exact hp | refine List.Mem.tail _ ?_))
  k_with "led_lt" => first | assumption | exact ktn_ltOf (by assumption) | exact lt1 (by assumption) | exact lt2 (by assumption) | exact lt3 (by assumption) | exact lt4 (by assumption)
  k_with "ct_fill" => (refine fillIt ?_; k_fill; intro _; unfold Ct)
  k_with "ct_enter" => (refine wpAny_call ?_; k_dflt cell_enter)
  k_with "ct_use" => ((case k1 => k_asm); (case k2 => k_asm); (case k3 => k_asm); (case k4 => k_asm); (case k5 => k_asm); (case kK => first | exact rfl | assumption); (case kd => ktr_room); (case ku => ktr_units))
  k_with "subscriptTail" => (k_here; (with_reducible show wpAny _ _ (subscriptTail _ _ (Value.ref _) (Value.int _ _)) _ _ _); (k_dflt (refine' tup_item ?k1 ?k2 ?k3 ?k4 ?k5 ?k6 ?_; (case k1 => k_asm); (case k2 => first | assumption | k_mem); (case k3 => decide); (case k4 => decide); (case k5 => exact rfl); (case k6 => with_unfolding_all rfl); k_whole)))
  k_with "call builtin:max" => ((with_reducible show wpAny _ _ (call _ [Value.float _ _, Value.float _ _, Value.float _ _]) _ _ _); (rename News _ _ _ _ => N'); (rename Fr _ _ _ _ => F'); refine max3_K rfl F' N' ?_; clear N'; intro _ _ _ _ _)
  k_with "call builtin:min" => ((with_reducible show wpAny _ _ (call _ [Value.float _ _, Value.float _ _, Value.float _ _]) _ _ _); (rename News _ _ _ _ => N'); (rename Fr _ _ _ _ => F'); refine min3_K rfl F' N' ?_; clear N'; intro _ _ _ _ _)
  k_with "subscriptTail" => (k_here; (with_reducible show wpAny _ _ (subscriptTail _ _ (Value.ref _) (Value.int _ _)) _ _ _); (k_dflt (refine' lst_item3 ?k1 ?k2 ?k3 ?k4 ?k6 ?_ ?_ ?_; (case k1 => k_asm); (case k2 => k_mem); (case k3 => omega); (case k4 => omega); (case k6 => with_unfolding_all rfl); all_goals (k_whole; intro hidx))))
  k_with "str_fit" => first | decide +kernel | (simp only [Str.length_append]; omega)
  k_with "binaryOp Add str str" => (k_here; (with_reducible show wpAny _ _ (binaryOp Operator.Add (Value.str _ _) (Value.str _ _)) _ _ _); (refine' add_m ?ksz ?_; (case ksz => walk_at "str_fit")); intro tx' kx' hx'; (try dsimp only at hx'))
  k_with "call builtin:str.replace" => (k_here; (refine' repl_m ?k1 ?k2 ?k3 ?k4 ?k5 ?k6 ?_; (case k1 => (show (0 : Nat) < _); omega); (case k2 => (show (0 : Nat) < _); omega); (case k3 => (show @Ne Nat _ _); omega); (case k4 => decide +kernel); (case k5 => walk_at "str_fit"); (case k6 => walk_at "str_fit")); intro tx' kx' hx'; (try dsimp only at hx'))
  k_with "subscriptTail" => (k_here; (with_reducible show wpAny _ _ (subscriptTail _ _ (Value.str _ _) (Value.int _ _)) _ _ _); (k_dflt (refine' str_item ?k1 ?k2 ?k3 ?k4 ?k5 ?_; (case k1 => omega); (case k2 => first | omega | exact Int.lt_of_lt_of_le (b := 4) (by omega) (by decide +kernel)); (case k3 => first | omega | decide +kernel); (case k4 => with_unfolding_all rfl); (case k5 => (intro _; with_unfolding_all rfl)))); intro hone')
  k_with "subscriptTail Name Slice str ref" => ((with_reducible rename Fr _ _ _ _ => F'); (with_reducible rename News _ _ _ _ => N'); (first
  | ((with_reducible show wpAny _ _ (subscriptTail _ (Expr.Slice (some _) none none _) _ _) _ _ _); (refine' slice_strN_sn_len (s := ⟨_, _, _, _, _⟩) F' N' ?_ (hsz := ?hsz)); (case hsz => walk_at "str_fit"))
  | ((with_reducible show wpAny _ _ (subscriptTail _ (Expr.Slice none (some _) none _) _ _) _ _ _); (refine' slice_strN_ns_len (s := ⟨_, _, _, _, _⟩) F' N' ?_ (hsz := ?hsz)); (case hsz => walk_at "str_fit"))
  | ((with_reducible show wpAny _ _ (subscriptTail _ (Expr.Slice (some _) (some _) none _) _ _) _ _ _); (refine' slice_strN_ss_len (s := ⟨_, _, _, _, _⟩) F' N' ?_ (hsz := ?hsz)); (case hsz => walk_at "str_fit"))); intro _ _ _ _ _ _)
  k_with "call ref" => (k_here; (with_reducible show wpAny _ _ (call (Value.ref 28) _) _ _ _); (k_dflt (refine' Ct.use (rgb_spec _ _ _ _ _ _ _ _ ?p1 ?p2) ?k1 ?k2 ?k3 ?k4 ?k5 ?kK ?kd ?ku ?_; (case p1 => exact RgbOk.h1 (by assumption)); (case p2 => exact RgbOk.h2 (by assumption)); walk_at "ct_use")); intro r' tl' h' tk' F' N' l1 hP'; obtain ⟨D', c', t4', t5', t6', e1', e2', e3'⟩ := hP'; subst e1' e2' e3'; replace l1 := lt_tl1 l1; (try k_lt l1); (simp only [List.cons_append, List.nil_append] at N'); (try k_sweep); (try dsimp only); (try k_fold))
  trivial
section
variable {m n c w j k f : Nat}
theorem and2 {a b : Bool} (h : (a && b) = true) : a = true ∧ b = true := by cases a <;> cases b <;> simp_all
theorem eqb {α : Type} [BEq α] [LawfulBEq α] {a b : α} (h : (a == b) = true) : a = b := eq_of_beq h
theorem d_mul6 (h : m < 96) : Float64.mul (D 48 m) 4618441417868443648 = D 8 m := eqb (allN_of t_mul6 h)
theorem d_toI (h : m < 96) : toI (D 8 m) = (m / 8 : Nat) := eqb (and2 (allN_of t_toI h)).1
theorem d_fin8 (h : m < 96) : Float64.isFinite (D 8 m) = true := (and2 (allN_of t_toI h)).2
theorem d_fr (h : m < 96) : Float64.sub (D 8 m) (Float64.ofInt (m / 8 : Nat)) = D 8 (m % 8) := eqb (allN_of t_fr h)
theorem d_s (h : c < 5) : Float64.sub 4607182418800017408 (D 4 c) = D 32 (32 - 8 * c) := eqb (and2 (and2 (and2 (and2 (allN_of t_sc h)).1).1).1).1
theorem d_s0 (h : c < 5) : feq (D 4 c) 0 = (c == 0) := eqb (and2 (and2 (and2 (and2 (allN_of t_sc h)).1).1).1).2
theorem d_sfin (h : c < 5) : Float64.isFinite (near (D 4 c) 4) = true := (and2 (and2 (and2 (allN_of t_sc h)).1).1).2
theorem d_snear (h : c < 5) : nearI (D 4 c) 4 = c := eqb (and2 (and2 (allN_of t_sc h)).1).2
theorem d_sj (h : c < 5) (hj : j < 8) : Float64.mul (D 4 c) (D 8 j) = D 32 (c * j) := eqb (allN_of (and2 (allN_of t_sc h)).2 hj)
theorem d_one32 (h : n < 33) : Float64.sub 4607182418800017408 (D 32 n) = D 32 (32 - n) := eqb (allN_of t_one32 h)
theorem d_one8 (h : n < 9) : Float64.sub 4607182418800017408 (D 8 n) = D 8 (8 - n) := eqb (allN_of t_one8 h)
theorem d_vp (h : w < 16) (hn : n < 33) : Float64.mul (D 16 w) (D 32 n) = D 512 (w * n) := eqb (allN_of (allN_of t_vp h) hn)
theorem d_lev (h : w < 16) : D 16 w = D 512 (32 * w) := eqb (and2 (and2 (and2 (and2 (and2 (allN_of t_lev h)).1).1).1).1).1
theorem d_levfin (h : w < 16) : Float64.isFinite (near (D 512 (32 * w)) 16) = true := (and2 (and2 (and2 (and2 (and2 (allN_of t_lev h)).1).1).1).1).2
theorem d_levnear (h : w < 16) : nearI (D 512 (32 * w)) 16 = w := eqb (and2 (and2 (and2 (and2 (allN_of t_lev h)).1).1).1).2
theorem d_levself (h : w < 16) : Float64.sub (D 512 (32 * w)) (D 512 (32 * w)) = 0 := eqb (and2 (and2 (and2 (allN_of t_lev h)).1).1).2
theorem d_wt0fin (h : w < 16) : Float64.isFinite (wt ⟨0, 0, D 512 (32 * w)⟩) = true := (and2 (and2 (allN_of t_lev h)).1).2
theorem d_wt0 (h : w < 16) : toI (wt ⟨0, 0, D 512 (32 * w)⟩) = 0 := eqb (and2 (allN_of t_lev h)).2
theorem d_fin (h : n < 481) : Float64.isFinite (D 512 n) = true := (and2 (allN_of t_val h)).1
theorem d_val (h : n < 481) : Float64.val (D 512 n) = (n : Int) * 2 ^ 1065 := eqb (and2 (allN_of t_val h)).2
theorem d_mixfin (h : n < 481) : Float64.isFinite (near (D 512 n) 512) = true := (and2 (allN_of t_mix h)).1
theorem d_mix (h : n < 481) : nearI (D 512 n) 512 = n := eqb (and2 (allN_of t_mix h)).2
theorem fin_dec {x : UInt64} (h : Float64.isFinite x = true) : ∃ a m e, Float64.decode x = .fin a m e := by
  unfold Float64.isFinite at h
  cases hd : Float64.decode x with
  | nan => rw [hd] at h; cases h
  | inf a => rw [hd] at h; cases h
  | fin a m e => exact ⟨a, m, e, rfl⟩
theorem d_cmp (h1 : m < 481) (h2 : n < 481) : Float64.cmp (D 512 m) (D 512 n) = some (compare m n) := by
  obtain ⟨a, k, e, hx⟩ := fin_dec (d_fin h1)
  obtain ⟨b, l, f, hy⟩ := fin_dec (d_fin h2)
  rw [Float64.cmp_right hx hy, d_val h1, d_val h2]
  congr 1
  have hp : (0 : Int) < 2 ^ 1065 := by decide +kernel
  generalize (2 : Int) ^ 1065 = P at hp
  rcases Nat.lt_trichotomy m n with h | h | h
  · rw [Nat.compare_eq_lt.mpr h, Int.compare_eq_lt]
    exact Int.mul_lt_mul_of_pos_right (by omega) hp
  · subst h
    rw [Nat.compare_eq_eq.mpr rfl, Int.compare_eq_eq]
  · rw [Nat.compare_eq_gt.mpr h, Int.compare_eq_gt]
    exact Int.mul_lt_mul_of_pos_right (by omega) hp
theorem d_lt (h1 : m < 481) (h2 : n < 481) : (Float64.cmp (D 512 m) (D 512 n) == some .lt) = decide (m < n) := by
  rw [d_cmp h1 h2]
  by_cases h : m < n
  · rw [Nat.compare_eq_lt.mpr h]; simp [h]
  · have : compare m n ≠ .lt := fun e => h (Nat.compare_eq_lt.mp e)
    simp [h, this]
theorem d_eq (h1 : m < 481) (h2 : n < 481) : (Float64.cmp (D 512 m) (D 512 n) == some .eq) = decide (m = n) := by
  rw [d_cmp h1 h2]
  by_cases h : m = n
  · rw [Nat.compare_eq_eq.mpr h]; simp [h]
  · have : compare m n ≠ .eq := fun e => h (Nat.compare_eq_eq.mp e)
    simp [h, this]
theorem d_max (h1 : m < 481) (h2 : n < 481) : fmax (D 512 m) (D 512 n) = D 512 (max m n) := by
  unfold fmax
  rw [d_lt h1 h2]
  by_cases h : m < n
  · rw [if_pos (by simp [h]), Nat.max_eq_right (Nat.le_of_lt h)]
  · rw [if_neg (by simp [h]), Nat.max_eq_left (by omega)]
theorem d_min (h1 : m < 481) (h2 : n < 481) : fmin (D 512 m) (D 512 n) = D 512 (min m n) := by
  unfold fmin
  rw [d_lt h2 h1]
  by_cases h : n < m
  · rw [if_pos (by simp [h]), Nat.min_eq_right (Nat.le_of_lt h)]
  · rw [if_neg (by simp [h]), Nat.min_eq_left (by omega)]
end
theorem D0 : D 512 0 = 0 := by decide +kernel
/-- the lights in 512ths: the high one, the low one, and the middle one at j eighths -/
def hi (w : Nat) : Nat := 32 * w
def mid (c w j : Nat) : Nat := w * (32 - c * j)
structure T3 where
  a : Nat
  b : Nat
  c : Nat
/-- the colour of 8 * k + f 48ths -/
def colOf (k f c w : Nat) : T3 := match k % 6 with
  | 0 => ⟨hi w, mid c w (8 - f), mid c w 8⟩
  | 1 => ⟨mid c w f, hi w, mid c w 8⟩
  | 2 => ⟨mid c w 8, hi w, mid c w (8 - f)⟩
  | 3 => ⟨mid c w 8, mid c w f, hi w⟩
  | 4 => ⟨mid c w (8 - f), mid c w 8, hi w⟩
  | _ => ⟨hi w, mid c w 8, mid c w f⟩
def c3 (x : T3) : C3 := ⟨D 512 x.a, D 512 x.b, D 512 x.c⟩
section
variable {k f c w j : Nat}
theorem cj_le (hc : c < 5) (hj : j ≤ 8) : c * j ≤ 32 := Nat.le_trans (Nat.mul_le_mul (show c ≤ 4 by omega) hj) (by decide)
theorem hi_lt (hw : w < 16) : hi w < 481 := by unfold hi; omega
theorem mid_lt (hw : w < 16) : mid c w j < 481 := by
  unfold mid
  exact Nat.lt_of_le_of_lt (Nat.mul_le_mul (show w ≤ 15 by omega) (show 32 - c * j ≤ 32 by omega)) (by decide)
theorem d_hq (hc : c < 5) (hw : w < 16) (hj : j ≤ 8) : Float64.mul (D 16 w) (D 32 (32 - c * j)) = D 512 (mid c w j) := d_vp hw (by omega)
theorem hsv_col (hk : k < 12) (f1 : 1 ≤ f) (f7 : f ≤ 7) (hc : c < 5) (hw : w < 16) : hsvToRgb (D 48 (8 * k + f)) (D 4 c) (D 16 w) = c3 (colOf k f c w) := by
  have hm : 8 * k + f < 96 := by omega
  have a1 : (8 * k + f) / 8 = k := by omega
  have a2 : (8 * k + f) % 8 = f := by omega
  have e1 : toI (h6 (D 48 (8 * k + f))) = (k : Nat) := by unfold h6; rw [d_mul6 hm, d_toI hm, a1]
  have e2 : hfr (D 48 (8 * k + f)) = D 8 f := by
    unfold hfr; rw [e1]; unfold h6; rw [d_mul6 hm]
    have := d_fr hm
    rw [a1, a2] at this
    exact this
  have eP : hP (D 4 c) (D 16 w) = D 512 (mid c w 8) := by
    unfold hP; rw [d_s hc, Nat.mul_comm 8 c]; exact d_hq hc hw (by omega)
  have eQ : hQ (D 48 (8 * k + f)) (D 4 c) (D 16 w) = D 512 (mid c w f) := by
    unfold hQ; rw [e2, d_sj hc (by omega), d_one32 (by have := cj_le (j := f) hc (by omega); omega)]; exact d_hq hc hw (by omega)
  have eT : hT (D 48 (8 * k + f)) (D 4 c) (D 16 w) = D 512 (mid c w (8 - f)) := by
    unfold hT; rw [e2, d_one8 (by omega), d_sj hc (by omega), d_one32 (by have := cj_le (j := 8 - f) hc (by omega); omega)]; exact d_hq hc hw (by omega)
  have eV : D 16 w = D 512 (hi w) := d_lev hw
  by_cases c0 : c = 0
  · subst c0
    rw [hsvG (by rw [d_s0 hc]; rfl), eV]
    have : ∀ j, mid 0 w j = hi w := fun j => by unfold mid hi; rw [Nat.zero_mul, Nat.sub_zero, Nat.mul_comm]
    unfold colOf c3
    simp only [this]
    split <;> rfl
  · have g : feq (D 4 c) 0 = false := by rw [d_s0 hc]; simpa using c0
    have i6 : (toI (h6 (D 48 (8 * k + f)))).fmod 6 = ((k % 6 : Nat) : Int) := by rw [e1, Int.fmod_eq_emod_of_nonneg _ (by decide)]; omega
    have cs : k % 6 = 0 ∨ k % 6 = 1 ∨ k % 6 = 2 ∨ k % 6 = 3 ∨ k % 6 = 4 ∨ k % 6 = 5 := by omega
    rcases cs with h | h | h | h | h | h <;> rw [h] at i6
    · rw [hsv0 g i6, eP, eT, eV]; unfold colOf; rw [h]; rfl
    · rw [hsv1 g i6, eP, eQ, eV]; unfold colOf; rw [h]; rfl
    · rw [hsv2 g i6, eP, eT, eV]; unfold colOf; rw [h]; rfl
    · rw [hsv3 g i6, eP, eQ, eV]; unfold colOf; rw [h]; rfl
    · rw [hsv4 g i6, eP, eT, eV]; unfold colOf; rw [h]; rfl
    · rw [hsv5 g i6, eP, eQ, eV]; unfold colOf; rw [h]; rfl
theorem hsv_fin (hk : k < 12) (f1 : 1 ≤ f) (f7 : f ≤ 7) : Float64.isFinite (h6 (D 48 (8 * k + f))) = true ∧ 0 ≤ toI (h6 (D 48 (8 * k + f))) ∧ toI (h6 (D 48 (8 * k + f))) ≤ 100 := by
  have hm : 8 * k + f < 96 := by omega
  unfold h6
  rw [d_mul6 hm, d_toI hm]
  exact ⟨d_fin8 hm, by omega, by omega⟩
end

theorem col2_rows1 : True := by
  k_with_none
  w_top off
  k_with "led_sub" => first | exact fun p hp => hp | (intro p hp; repeat' (first | exact hp | refine List.Mem.tail _ ?_))
  k_with "led_lt" => first | assumption | exact ktn_ltOf (by assumption) | exact lt1 (by assumption) | exact lt2 (by assumption) | exact lt3 (by assumption) | exact lt4 (by assumption)
  k_with "ct_fill" => (refine fillIt ?_; k_fill; intro _; unfold Ct)
  k_with "ct_enter" => (refine wpAny_call ?_; k_dflt cell_enter)
  k_with "ct_use" => ((case k1 => k_asm); (case k2 => k_asm); (case k3 => k_asm); (case k4 => k_asm); (case k5 => k_asm); (case kK => first | exact rfl | assumption); (case kd => ktr_room); (case ku => ktr_units))
  k_with "subscriptTail" => (k_here; (with_reducible show wpAny _ _ (subscriptTail _ _ (Value.ref _) (Value.int _ _)) _ _ _); (k_dflt (refine' tup_item ?k1 ?k2 ?k3 ?k4 ?k5 ?k6 ?_; (case k1 => k_asm); (case k2 => first | assumption | k_mem); (case k3 => decide); (case k4 => decide); (case k5 => exact rfl); (case k6 => with_unfolding_all rfl); k_whole)))
  k_with "call builtin:max" => ((with_reducible show wpAny _ _ (call _ [Value.float _ _, Value.float _ _, Value.float _ _]) _ _ _); (rename News _ _ _ _ => N'); (rename Fr _ _ _ _ => F'); refine max3_K rfl F' N' ?_; clear N'; intro _ _ _ _ _)
  k_with "call builtin:min" => ((with_reducible show wpAny _ _ (call _ [Value.float _ _, Value.float _ _, Value.float _ _]) _ _ _); (rename News _ _ _ _ => N'); (rename Fr _ _ _ _ => F'); refine min3_K rfl F' N' ?_; clear N'; intro _ _ _ _ _)
  k_with "subscriptTail" => (k_here; (with_reducible show wpAny _ _ (subscriptTail _ _ (Value.ref _) (Value.int _ _)) _ _ _); (k_dflt (refine' lst_item3 ?k1 ?k2 ?k3 ?k4 ?k6 ?_ ?_ ?_; (case k1 => k_asm); (case k2 => k_mem); (case k3 => omega); (case k4 => omega); (case k6 => with_unfolding_all rfl); all_goals (k_whole; intro hidx))))
  k_with "str_fit" => first | decide +kernel | (simp only [Str.length_append]; omega)
  k_with "binaryOp Add str str" => (k_here; (with_reducible show wpAny _ _ (binaryOp Operator.Add (Value.str _ _) (Value.str _ _)) _ _ _); (refine' add_m ?ksz ?_; (case ksz => walk_at "str_fit")); intro tx' kx' hx'; (try dsimp only at hx'))
  k_with "call builtin:str.replace" => (k_here; (refine' repl_m ?k1 ?k2 ?k3 ?k4 ?k5 ?k6 ?_; (case k1 => (show (0 : Nat) < _); omega); (case k2 => (show (0 : Nat) < _); omega); (case k3 => (show @Ne Nat _ _); omega); (case k4 => decide +kernel); (case k5 => walk_at "str_fit"); (case k6 => walk_at "str_fit")); intro tx' kx' hx'; (try dsimp only at hx'))
  k_with "subscriptTail" => (k_here; (with_reducible show wpAny _ _ (subscriptTail _ _ (Value.str _ _) (Value.int _ _)) _ _ _); (k_dflt (refine' str_item ?k1 ?k2 ?k3 ?k4 ?k5 ?_; (case k1 => omega); (case k2 => first | omega | exact Int.lt_of_lt_of_le (b := 4) (by omega) (by decide +kernel)); (case k3 => first | omega | decide +kernel); (case k4 => with_unfolding_all rfl); (case k5 => (intro _; with_unfolding_all rfl)))); intro hone')
  k_with "subscriptTail Name Slice str ref" => ((with_reducible rename Fr _ _ _ _ => F'); (with_reducible rename News _ _ _ _ => N'); (first
  | ((with_reducible show wpAny _ _ (subscriptTail _ (Expr.Slice (some _) none none _) _ _) _ _ _); (refine' slice_strN_sn_len (s := ⟨_, _, _, _, _⟩) F' N' ?_ (hsz := ?hsz)); (case hsz => walk_at "str_fit"))
  | ((with_reducible show wpAny _ _ (subscriptTail _ (Expr.Slice none (some _) none _) _ _) _ _ _); (refine' slice_strN_ns_len (s := ⟨_, _, _, _, _⟩) F' N' ?_ (hsz := ?hsz)); (case hsz => walk_at "str_fit"))
  | ((with_reducible show wpAny _ _ (subscriptTail _ (Expr.Slice (some _) (some _) none _) _ _) _ _ _); (refine' slice_strN_ss_len (s := ⟨_, _, _, _, _⟩) F' N' ?_ (hsz := ?hsz)); (case hsz => walk_at "str_fit"))); intro _ _ _ _ _ _)
  k_with "call ref" => (k_here; (with_reducible show wpAny _ _ (call (Value.ref 28) _) _ _ _); (k_dflt (refine' Ct.use (rgb_spec _ _ _ _ _ _ _ _ ?p1 ?p2) ?k1 ?k2 ?k3 ?k4 ?k5 ?kK ?kd ?ku ?_; (case p1 => exact RgbOk.h1 (by assumption)); (case p2 => exact RgbOk.h2 (by assumption)); walk_at "ct_use")); intro r' tl' h' tk' F' N' l1 hP'; obtain ⟨D', c', t4', t5', t6', e1', e2', e3'⟩ := hP'; subst e1' e2' e3'; replace l1 := lt_tl1 l1; (try k_lt l1); (simp only [List.cons_append, List.nil_append] at N'); (try k_sweep); (try dsimp only); (try k_fold))
  trivial
section
variable {k f c w j : Nat}
theorem d_rg (hw : w < 16) (w0 : 1 ≤ w) (hc : c < 5) (c0 : 1 ≤ c) : Float64.sub (D 512 (hi w)) (D 512 (mid c w 8)) = D 512 (8 * c * w) := by
  obtain ⟨w, rfl⟩ : ∃ v, w = v + 1 := ⟨w - 1, by omega⟩
  obtain ⟨c, rfl⟩ : ∃ v, c = v + 1 := ⟨c - 1, by omega⟩
  have := eqb (and2 (and2 (and2 (and2 (and2 (and2 (and2 (allN_of (allN_of t_wc (show w < 15 by omega)) (show c < 4 by omega))).1).1).1).1).1).1).1
  unfold hi mid
  rw [Nat.mul_comm (c + 1) 8]
  exact this
theorem d_sat (hw : w < 16) (w0 : 1 ≤ w) (hc : c < 5) (c0 : 1 ≤ c) : Float64.div (D 512 (8 * c * w)) (D 512 (hi w)) = D 4 c := by
  obtain ⟨w, rfl⟩ : ∃ v, w = v + 1 := ⟨w - 1, by omega⟩
  obtain ⟨c, rfl⟩ : ∃ v, c = v + 1 := ⟨c - 1, by omega⟩
  exact eqb (and2 (and2 (and2 (and2 (and2 (and2 (and2 (allN_of (allN_of t_wc (show w < 15 by omega)) (show c < 4 by omega))).1).1).1).1).1).1).2
theorem d_self (hw : w < 16) (w0 : 1 ≤ w) (hc : c < 5) (c0 : 1 ≤ c) : Float64.div (D 512 (8 * c * w)) (D 512 (8 * c * w)) = D 8 8 := by
  obtain ⟨w, rfl⟩ : ∃ v, w = v + 1 := ⟨w - 1, by omega⟩
  obtain ⟨c, rfl⟩ : ∃ v, c = v + 1 := ⟨c - 1, by omega⟩
  exact eqb (and2 (and2 (and2 (and2 (and2 (and2 (allN_of (allN_of t_wc (show w < 15 by omega)) (show c < 4 by omega))).1).1).1).1).1).2
theorem d_hiz (hw : w < 16) (w0 : 1 ≤ w) (hc : c < 5) (c0 : 1 ≤ c) : Float64.isZero (D 512 (hi w)) = false := by
  obtain ⟨w, rfl⟩ : ∃ v, w = v + 1 := ⟨w - 1, by omega⟩
  obtain ⟨c, rfl⟩ : ∃ v, c = v + 1 := ⟨c - 1, by omega⟩
  exact (Bool.not_eq_true' _).mp (and2 (and2 (and2 (and2 (allN_of (allN_of t_wc (show w < 15 by omega)) (show c < 4 by omega))).1).1).1).2
theorem d_rgz (hw : w < 16) (w0 : 1 ≤ w) (hc : c < 5) (c0 : 1 ≤ c) : Float64.isZero (D 512 (8 * c * w)) = false := by
  obtain ⟨w, rfl⟩ : ∃ v, w = v + 1 := ⟨w - 1, by omega⟩
  obtain ⟨c, rfl⟩ : ∃ v, c = v + 1 := ⟨c - 1, by omega⟩
  exact (Bool.not_eq_true' _).mp (and2 (and2 (and2 (allN_of (allN_of t_wc (show w < 15 by omega)) (show c < 4 by omega))).1).1).2
theorem d_wtfin (hw : w < 16) (w0 : 1 ≤ w) (hc : c < 5) (c0 : 1 ≤ c) : Float64.isFinite (wt ⟨0, D 4 c, D 512 (hi w)⟩) = true := by
  obtain ⟨w, rfl⟩ : ∃ v, w = v + 1 := ⟨w - 1, by omega⟩
  obtain ⟨c, rfl⟩ : ∃ v, c = v + 1 := ⟨c - 1, by omega⟩
  exact (and2 (and2 (allN_of (allN_of t_wc (show w < 15 by omega)) (show c < 4 by omega))).1).2
theorem d_wt (hw : w < 16) (w0 : 1 ≤ w) (hc : c < 5) (c0 : 1 ≤ c) : toI (wt ⟨0, D 4 c, D 512 (hi w)⟩) = (c * w : Nat) := by
  obtain ⟨w, rfl⟩ : ∃ v, w = v + 1 := ⟨w - 1, by omega⟩
  obtain ⟨c, rfl⟩ : ∃ v, c = v + 1 := ⟨c - 1, by omega⟩
  exact eqb (and2 (allN_of (allN_of t_wc (show w < 15 by omega)) (show c < 4 by omega))).2
theorem d_cc (hw : w < 16) (w0 : 1 ≤ w) (hc : c < 5) (c0 : 1 ≤ c) (hj : j < 8) : Float64.div (Float64.sub (D 512 (hi w)) (D 512 (mid c w j))) (D 512 (8 * c * w)) = D 8 j := by
  obtain ⟨w, rfl⟩ : ∃ v, w = v + 1 := ⟨w - 1, by omega⟩
  obtain ⟨c, rfl⟩ : ∃ v, c = v + 1 := ⟨c - 1, by omega⟩
  have h := and2 (allN_of (allN_of (allN_of t_wcj (show w < 15 by omega)) (show c < 4 by omega)) hj)
  unfold hi mid
  rw [eqb h.1]
  exact eqb h.2
theorem d_cc8 (hw : w < 16) (w0 : 1 ≤ w) (hc : c < 5) (c0 : 1 ≤ c) : Float64.div (Float64.sub (D 512 (hi w)) (D 512 (mid c w 8))) (D 512 (8 * c * w)) = D 8 8 := by
  rw [d_rg hw w0 hc c0, d_self hw w0 hc c0]
theorem hi_mid (w0 : 1 ≤ w) (hc : c < 5) (c0 : 1 ≤ c) (h1 : 1 ≤ j) (hj : j ≤ 8) : mid c w j < hi w := by
  have := cj_le hc hj
  have p : 1 ≤ c * j := Nat.mul_pos c0 h1
  unfold mid hi
  rw [Nat.mul_comm 32 w]
  exact Nat.mul_lt_mul_of_pos_left (by omega) w0
theorem mid_lo (w0 : 1 ≤ w) (hc : c < 5) (c0 : 1 ≤ c) (hj : j < 8) : mid c w 8 < mid c w j := by
  have := cj_le (j := 8) hc (by omega)
  have p : c * j < c * 8 := Nat.mul_lt_mul_of_pos_left hj c0
  unfold mid
  exact Nat.mul_lt_mul_of_pos_left (by omega) w0
theorem mx_D {x y z : Nat} (hx : x < 481) (hy : y < 481) (hz : z < 481) : mx (D 512 x) (D 512 y) (D 512 z) = D 512 (max (max x y) z) := by
  unfold mx; rw [d_max hx hy, d_max (by omega) hz]
theorem mn_D {x y z : Nat} (hx : x < 481) (hy : y < 481) (hz : z < 481) : mn (D 512 x) (D 512 y) (D 512 z) = D 512 (min (min x y) z) := by
  unfold mn; rw [d_min hx hy, d_min (by omega) hz]
/-- what rgb_to_hsv tells of a colour -/
def hsvOf (k f c w : Nat) : C3 := if c * w = 0 then ⟨0, 0, D 512 (hi w)⟩ else ⟨hueOf (k % 6) f, D 4 c, D 512 (hi w)⟩
structure RgbIs (k f c w : Nat) (r g b : UInt64) : Prop where
  is : rgbToHsv r g b = hsvOf k f c w
  ok : RgbOk r g b
theorem rgbIs_of {x y z m : Nat} (hx : x < 481) (hy : y < 481) (hz : z < 481) (hw : w < 16) (w0 : 1 ≤ w) (hc : c < 5) (c0 : 1 ≤ c)
    (eM : max (max x y) z = hi w) (em : min (min x y) z = mid c w 8) (hlt : mid c w 8 < hi w)
    (hh : mx (D 512 x) (D 512 y) (D 512 z) = D 512 (hi w) → rg (D 512 x) (D 512 y) (D 512 z) = D 512 (8 * c * w) → feq (mn (D 512 x) (D 512 y) (D 512 z)) (mx (D 512 x) (D 512 y) (D 512 z)) = false → rgbToHsv (D 512 x) (D 512 y) (D 512 z) = ⟨hueOf (k % 6) f, D 4 c, D 512 (hi w)⟩) : RgbIs k f c w (D 512 x) (D 512 y) (D 512 z) := by
  have e1 := mx_D hx hy hz
  have e2 := mn_D hx hy hz
  rw [eM] at e1
  rw [em] at e2
  have e3 : rg (D 512 x) (D 512 y) (D 512 z) = D 512 (8 * c * w) := by unfold rg; rw [e1, e2, d_rg hw w0 hc c0]
  have e4 : feq (mn (D 512 x) (D 512 y) (D 512 z)) (mx (D 512 x) (D 512 y) (D 512 z)) = false := by
    rw [e1, e2]; unfold feq; rw [d_eq (mid_lt hw) (hi_lt hw)]; simp; omega
  refine ⟨?_, ⟨fun _ => by rw [e1, d_hiz hw w0 hc c0], fun _ => by rw [e3, d_rgz hw w0 hc c0]⟩⟩
  rw [hh e1 e3 e4]
  unfold hsvOf
  rw [if_neg (by have := Nat.mul_pos c0 w0; omega)]
theorem ne_eq {x y : Nat} (hx : x < 481) (hy : y < 481) (h : x ≠ y) : feq (D 512 x) (D 512 y) = false := by unfold feq; rw [d_eq hx hy]; simp [h]
theorem eq_eq {x : Nat} (hx : x < 481) : feq (D 512 x) (D 512 x) = true := by unfold feq; rw [d_eq hx hx]; simp
theorem rgb_col (hk : k < 12) (f1 : 1 ≤ f) (f7 : f ≤ 7) (hc : c < 5) (hw : w < 16) : RgbIs k f c w (c3 (colOf k f c w)).a (c3 (colOf k f c w)).b (c3 (colOf k f c w)).c := by
  by_cases hcw : c * w = 0
  · have : ∀ j, mid c w j = hi w := fun j => by
      rcases Nat.mul_eq_zero.mp hcw with h | h
      · subst h; unfold mid hi; rw [Nat.zero_mul, Nat.sub_zero, Nat.mul_comm]
      · subst h; unfold mid hi; rw [Nat.zero_mul]
    have e : c3 (colOf k f c w) = ⟨D 512 (hi w), D 512 (hi w), D 512 (hi w)⟩ := by
      unfold colOf c3
      simp only [this]
      split <;> rfl
    rw [e]
    have h := hi_lt hw
    have e1 := mx_D h h h
    have e2 := mn_D h h h
    simp only [Nat.max_self, Nat.min_self] at e1 e2
    have g : feq (mn (D 512 (hi w)) (D 512 (hi w)) (D 512 (hi w))) (mx (D 512 (hi w)) (D 512 (hi w)) (D 512 (hi w))) = true := by rw [e1, e2, eq_eq h]
    refine ⟨by rw [rgbG g, e1]; unfold hsvOf; rw [if_pos hcw], ⟨fun q => ?_, fun q => ?_⟩⟩
    · unfold feq at g; rw [g] at q; cases q
    · unfold feq at g; rw [g] at q; cases q
  · have c0 : 1 ≤ c := Nat.pos_of_ne_zero fun e => hcw (by rw [e, Nat.zero_mul])
    have w0 : 1 ≤ w := Nat.pos_of_ne_zero fun e => hcw (by rw [e, Nat.mul_zero])
    have hH := hi_lt hw
    have hL : mid c w 8 < 481 := mid_lt hw
    have l1 := hi_mid w0 hc c0 (j := 8) (by omega) (by omega)
    have a1 := hi_mid w0 hc c0 (j := f) (by omega) (by omega)
    have a2 := hi_mid w0 hc c0 (j := 8 - f) (by omega) (by omega)
    have b1 := mid_lo w0 hc c0 (j := f) (by omega)
    have b2 := mid_lo w0 hc c0 (j := 8 - f) (by omega)
    have hF : mid c w f < 481 := mid_lt hw
    have hG : mid c w (8 - f) < 481 := mid_lt hw
    have q8 := d_cc8 hw w0 hc c0
    have qf := d_cc hw w0 hc c0 (j := f) (by omega)
    have qg := d_cc hw w0 hc c0 (j := 8 - f) (by omega)
    have qs := d_sat hw w0 hc c0
    have cs : k % 6 = 0 ∨ k % 6 = 1 ∨ k % 6 = 2 ∨ k % 6 = 3 ∨ k % 6 = 4 ∨ k % 6 = 5 := by omega
    rcases cs with h | h | h | h | h | h
    · rw [show colOf k f c w = ⟨hi w, mid c w (8 - f), mid c w 8⟩ by unfold colOf; rw [h]; rfl]; dsimp only [c3]
      refine rgbIs_of hH hG hL hw w0 hc c0 (by omega) (by omega) l1 (m := 0) fun e1 e3 e4 => ?_
      rw [rgb0 e4 (by rw [e1]; exact eq_eq hH)]
      unfold cc; rw [e1, e3, q8, qg, qs, h]; rfl
    · rw [show colOf k f c w = ⟨mid c w f, hi w, mid c w 8⟩ by unfold colOf; rw [h]; rfl]; dsimp only [c3]
      refine rgbIs_of hF hH hL hw w0 hc c0 (by omega) (by omega) l1 (m := 0) fun e1 e3 e4 => ?_
      rw [rgb1 e4 (by rw [e1]; exact ne_eq hF hH (by omega)) (by rw [e1]; exact eq_eq hH)]
      unfold cc; rw [e1, e3, q8, qf, qs, h]; rfl
    · rw [show colOf k f c w = ⟨mid c w 8, hi w, mid c w (8 - f)⟩ by unfold colOf; rw [h]; rfl]; dsimp only [c3]
      refine rgbIs_of hL hH hG hw w0 hc c0 (by omega) (by omega) l1 (m := 0) fun e1 e3 e4 => ?_
      rw [rgb1 e4 (by rw [e1]; exact ne_eq hL hH (by omega)) (by rw [e1]; exact eq_eq hH)]
      unfold cc; rw [e1, e3, q8, qg, qs, h]; rfl
    · rw [show colOf k f c w = ⟨mid c w 8, mid c w f, hi w⟩ by unfold colOf; rw [h]; rfl]; dsimp only [c3]
      refine rgbIs_of hL hF hH hw w0 hc c0 (by omega) (by omega) l1 (m := 0) fun e1 e3 e4 => ?_
      rw [rgb2 e4 (by rw [e1]; exact ne_eq hL hH (by omega)) (by rw [e1]; exact ne_eq hF hH (by omega))]
      unfold cc; rw [e1, e3, q8, qf, qs, h]; rfl
    · rw [show colOf k f c w = ⟨mid c w (8 - f), mid c w 8, hi w⟩ by unfold colOf; rw [h]; rfl]; dsimp only [c3]
      refine rgbIs_of hG hL hH hw w0 hc c0 (by omega) (by omega) l1 (m := 0) fun e1 e3 e4 => ?_
      rw [rgb2 e4 (by rw [e1]; exact ne_eq hG hH (by omega)) (by rw [e1]; exact ne_eq hL hH (by omega))]
      unfold cc; rw [e1, e3, q8, qg, qs, h]; rfl
    · rw [show colOf k f c w = ⟨hi w, mid c w 8, mid c w f⟩ by unfold colOf; rw [h]; rfl]; dsimp only [c3]
      refine rgbIs_of hH hL hF hw w0 hc c0 (by omega) (by omega) l1 (m := 0) fun e1 e3 e4 => ?_
      rw [rgb0 e4 (by rw [e1]; exact eq_eq hH)]
      unfold cc; rw [e1, e3, q8, qf, qs, h]; rfl
theorem z_near : Float64.isFinite (near 0 48) = true ∧ nearI 0 48 = 0 ∧ Float64.isFinite (near 0 4) = true ∧ nearI 0 4 = 0 ∧ Float64.isFinite (Float64.mul 0 (Float64.ofInt 6)) = true ∧ toI (Float64.mul 0 (Float64.ofInt 6)) = 0 ∧ feq 0 0 = true := by
  refine ⟨by decide +kernel, by decide +kernel, by decide +kernel, by decide +kernel, by decide +kernel, by decide +kernel, by decide +kernel⟩
/-- all that the law asks of what rgb_to_hsv tells -/
structure HsvIs (k f c w : Nat) (y : C3) : Prop where
  rd : ReadOk y
  r1 : nearI y.a 48 = if c * w = 0 then 0 else ((8 * (k % 6) + f : Nat) : Int)
  r2 : nearI y.b 4 = if c * w = 0 then 0 else (c : Int)
  r3 : nearI y.c 16 = w
  grey : feq y.b 0 = (c * w == 0)
  s1 : Float64.isFinite (sixth y) = true
  s2 : 0 ≤ toI (sixth y)
  s3 : toI (sixth y) ≤ 5
  s4 : c * w ≠ 0 → toI (sixth y) = ((k % 6 : Nat) : Int)
  w1 : Float64.isFinite (wt y) = true
  w2 : toI (wt y) = ((c * w : Nat) : Int)
theorem hsvIs (hk : k < 12) (f1 : 1 ≤ f) (f7 : f ≤ 7) (hc : c < 5) (hw : w < 16) : HsvIs k f c w (hsvOf k f c w) := by
  obtain ⟨z1, z2, z3, z4, z5, z6, z7⟩ := z_near
  unfold hsvOf
  by_cases hcw : c * w = 0
  · rw [if_pos hcw]
    refine ⟨⟨z1, z3, d_levfin hw⟩, by rw [if_pos hcw]; exact z2, by rw [if_pos hcw]; exact z4, d_levnear hw, by rw [hcw]; exact z7, z5, by show 0 ≤ toI (Float64.mul 0 (Float64.ofInt 6)); rw [z6]; decide, by show toI (Float64.mul 0 (Float64.ofInt 6)) ≤ 5; rw [z6]; decide, fun h => absurd hcw h, d_wt0fin hw, by rw [hcw]; exact d_wt0 hw⟩
  · rw [if_neg hcw]
    have c0 : 1 ≤ c := Nat.pos_of_ne_zero fun e => hcw (by rw [e, Nat.zero_mul])
    have w0 : 1 ≤ w := Nat.pos_of_ne_zero fun e => hcw (by rw [e, Nat.mul_zero])
    obtain ⟨g, rfl⟩ : ∃ v, f = v + 1 := ⟨f - 1, by omega⟩
    have h := allN_of (allN_of t_hue (show k % 6 < 6 by omega)) (show g < 7 by omega)
    have h4 := eqb (and2 h).2
    have h3 := (and2 (and2 h).1).2
    have h2 := eqb (and2 (and2 (and2 h).1).1).2
    have h1 := (and2 (and2 (and2 h).1).1).1
    have h5 : toI (sixth ⟨hueOf (k % 6) (g + 1), D 4 c, D 512 (hi w)⟩) = ((k % 6 : Nat) : Int) := h4
    refine ⟨⟨h1, d_sfin hc, d_levfin hw⟩, by rw [if_neg hcw]; exact h2, by rw [if_neg hcw]; exact d_snear hc, d_levnear hw, ?_, h3, by rw [h5]; omega, by rw [h5]; omega, fun _ => h5, d_wtfin hw w0 hc c0, d_wt hw w0 hc c0⟩
    show feq (D 4 c) 0 = _
    rw [d_s0 hc]
    have : (c == 0) = false := by simp; omega
    have t : (c * w == 0) = false := by simp only [beq_eq_false_iff_ne]; exact hcw
    rw [this, t]
end

theorem p257_rows1 : True := by
  k_with_none
  w_top off
  k_with "led_sub" => first | exact fun p hp => hp | (intro p hp; repeat' (first | exact hp | refine List.Mem.tail _ ?_))
  k_with "led_lt" => first | assumption | exact ktn_ltOf (by assumption) | exact lt1 (by assumption) | exact lt2 (by assumption) | exact lt3 (by assumption) | exact lt4 (by assumption)
  k_with "ct_fill" => (refine fillIt ?_; k_fill; intro _; unfold Ct)
  k_with "ct_enter" => (refine wpAny_call ?_; k_dflt cell_enter)
  k_with "ct_use" => ((case k1 => k_asm); (case k2 => k_asm); (case k3 => k_asm); (case k4 => k_asm); (case k5 => k_asm); (case kK => first | exact rfl | assumption); (case kd => ktr_room); (case ku => ktr_units))
  k_with "subscriptTail" => (k_here; (with_reducible show wpAny _ _ (subscriptTail _ _ (Value.ref _) (Value.int _ _)) _ _ _); (k_dflt (refine' tup_item ?k1 ?k2 ?k3 ?k4 ?k5 ?k6 ?_; (case k1 => k_asm); (case k2 => first | assumption | k_mem); (case k3 => decide); (case k4 => decide); (case k5 => exact rfl); (case k6 => with_unfolding_all rfl); k_whole)))
  k_with "call builtin:max" => ((with_reducible show wpAny _ _ (call _ [Value.float _ _, Value.float _ _, Value.float _ _]) _ _ _); (rename News _ _ _ _ => N'); (rename Fr _ _ _ _ => F'); refine max3_K rfl F' N' ?_; clear N'; intro _ _ _ _ _)
  k_with "call builtin:min" => ((with_reducible show wpAny _ _ (call _ [Value.float _ _, Value.float _ _, Value.float _ _]) _ _ _); (rename News _ _ _ _ => N'); (rename Fr _ _ _ _ => F'); refine min3_K rfl F' N' ?_; clear N'; intro _ _ _ _ _)
  k_with "subscriptTail" => (k_here; (with_reducible show wpAny _ _ (subscriptTail _ _ (Value.ref _) (Value.int _ _)) _ _ _); (k_dflt (refine' lst_item3 ?k1 ?k2 ?k3 ?k4 ?k6 ?_ ?_ ?_; (case k1 => k_asm); (case k2 => k_mem); (case k3 => omega); (case k4 => omega); (case k6 => with_unfolding_all rfl); all_goals (k_whole; intro hidx))))
  k_with "str_fit" => first | decide +kernel | (simp only [Str.length_append]; omega)
  k_with "binaryOp Add str str" => (k_here; (with_reducible show wpAny _ _ (binaryOp Operator.Add (Value.str _ _) (Value.str _ _)) _ _ _); (refine' add_m ?ksz ?_; (case ksz => walk_at "str_fit")); intro tx' kx' hx'; (try dsimp only at hx'))
  k_with "call builtin:str.replace" => (k_here; (refine' repl_m ?k1 ?k2 ?k3 ?k4 ?k5 ?k6 ?_; (case k1 => (show (0 : Nat) < _); omega); (case k2 => (show (0 : Nat) < _); omega); (case k3 => (show @Ne Nat _ _); omega); (case k4 => decide +kernel); (case k5 => walk_at "str_fit"); (case k6 => walk_at "str_fit")); intro tx' kx' hx'; (try dsimp only at hx'))
  k_with "subscriptTail" => (k_here; (with_reducible show wpAny _ _ (subscriptTail _ _ (Value.str _ _) (Value.int _ _)) _ _ _); (k_dflt (refine' str_item ?k1 ?k2 ?k3 ?k4 ?k5 ?_; (case k1 => omega); (case k2 => first | omega | exact Int.lt_of_lt_of_le (b := 4) (by omega) (by decide +kernel)); (case k3 => first | omega | decide +kernel); (case k4 => with_unfolding_all rfl); (case k5 => (intro _; with_unfolding_all rfl)))); intro hone')
  k_with "subscriptTail Name Slice str ref" => ((with_reducible rename Fr _ _ _ _ => F'); (with_reducible rename News _ _ _ _ => N'); (first
  | ((with_reducible show wpAny _ _ (subscriptTail _ (Expr.Slice (some _) none none _) _ _) _ _ _); (refine' slice_strN_sn_len (s := ⟨_, _, _, _, _⟩) F' N' ?_ (hsz := ?hsz)); (case hsz => walk_at "str_fit"))
  | ((with_reducible show wpAny _ _ (subscriptTail _ (Expr.Slice none (some _) none _) _ _) _ _ _); (refine' slice_strN_ns_len (s := ⟨_, _, _, _, _⟩) F' N' ?_ (hsz := ?hsz)); (case hsz => walk_at "str_fit"))
  | ((with_reducible show wpAny _ _ (subscriptTail _ (Expr.Slice (some _) (some _) none _) _ _) _ _ _); (refine' slice_strN_ss_len (s := ⟨_, _, _, _, _⟩) F' N' ?_ (hsz := ?hsz)); (case hsz => walk_at "str_fit"))); intro _ _ _ _ _ _)
  k_with "call ref" => (k_here; (with_reducible show wpAny _ _ (call (Value.ref 28) _) _ _ _); (k_dflt (refine' Ct.use (rgb_spec _ _ _ _ _ _ _ _ ?p1 ?p2) ?k1 ?k2 ?k3 ?k4 ?k5 ?kK ?kd ?ku ?_; (case p1 => exact RgbOk.h1 (by assumption)); (case p2 => exact RgbOk.h2 (by assumption)); walk_at "ct_use")); intro r' tl' h' tk' F' N' l1 hP'; obtain ⟨D', c', t4', t5', t6', e1', e2', e3'⟩ := hP'; subst e1' e2' e3'; replace l1 := lt_tl1 l1; (try k_lt l1); (simp only [List.cons_append, List.nil_append] at N'); (try k_sweep); (try dsimp only); (try k_fold))
  trivial
/-- the while of parse257, with fuel: the signs from i on, what stands so far -/
def l257 (x : Str) : Nat → Int → Str → Str
  | 0, _, d => d
  | f + 1, i, d =>
    if i < x.length then
      (if (Txt.item x i == Str.ofString "\"") = true then
        (if (x.length : Int) ≤ i + 1 then d else if (Txt.item x (i + 1) != Str.ofString "\"") = true then d else l257 x f (i + 1 + 1) (d ++ Txt.item x i))
      else l257 x f (i + 1) (d ++ Txt.item x i))
    else d
def p257 (x : Str) : Str := if (Txt.slice x (some 3) (some 5) != Str.ofString " \"") = true then Str.ofString "" else l257 x (x.length + 1) 5 (Str.ofString "")
def mp257 (m : Str → Option Value) (i : Int) (ti : Tok) (d : Str) (td : Tok) (cv : Option Value) : Str → Option Value :=
  fun y => if y = Str.ofString "i" then some (.int i ti) else if y = Str.ofString "dirname" then some (.str d td) else if y = Str.ofString "c" then cv else m y
def W257 (Q : Flow → Shared → Prop) (g : Heap) (L : Addr) (news : Led) (m : Str → Option Value) (s : Shared) (J : Int → Str → Prop) (i : Int) (f : Flow) (s₃ : Shared) : Prop := match f with
  | .next | .cont => ∃ i' ti' d' td' cv' hp' tk', i < i' ∧ J i' d' ∧ s₃ = { s with heap := hp', toks := tk' } ∧ Fr g L hp' (mp257 m i' ti' d' td' cv') ∧ News g L hp' news
  | .brk => Q .next s₃
  | .ret v => Q (.ret v) s₃
section
variable {prog : Program} {w : World} {A : Around} {E : Value → Shared → Prop} {s : Shared} {env : Env} {test : Expr} {body : List Stmt} {Q : Flow → Shared → Prop} {g : Heap} {L : Addr} {m : Str → Option Value} {news : Led} {pos : Pos}
theorem while257 (F : Fr g L s.heap m) (N : News g L s.heap news) {i₀ : Int} {ti₀ : Tok} {d₀ : Str} {td₀ : Tok} (h1 : m (Str.ofString "i") = some (.int i₀ ti₀)) (h2 : m (Str.ofString "dirname") = some (.str d₀ td₀))
    (J : Int → Str → Prop) (top : Int) (hJ : J i₀ d₀) (hb : ∀ i d, J i d → i ≤ top) (hE : PassesOwn (model prog w) A env E)
    (turn : ∀ i ti d td cv hp tk, J i d → Fr g L hp (mp257 m i ti d td cv) → News g L hp news →
      wpAny (model prog w) A (isTrue test env (eval test env)) (fun b s₂ => if b = true then wpAny (model prog w) A (execs body env) (W257 Q g L news m s J i) E s₂ else Q .next s₂) E { s with heap := hp, toks := tk }) :
    wpAny (model prog w) A (exec (.While test body [] pos) env) Q E s := by
  have e0 : mp257 m i₀ ti₀ d₀ td₀ (m (Str.ofString "c")) = m := by
    funext y
    unfold mp257
    by_cases a1 : y = Str.ofString "i"
    · rw [if_pos a1, a1, h1]
    · rw [if_neg a1]
      by_cases a2 : y = Str.ofString "dirname"
      · rw [if_pos a2, a2, h2]
      · rw [if_neg a2]
        by_cases a3 : y = Str.ofString "c"
        · rw [if_pos a3, a3]
        · rw [if_neg a3]
  refine wpAny_While (codeAny_whileLoop (fun n s' => ∃ i ti d td cv hp tk, n = (top - i).toNat ∧ J i d ∧ s' = { s with heap := hp, toks := tk } ∧ Fr g L hp (mp257 m i ti d td cv) ∧ News g L hp news) ?_ _ ⟨i₀, ti₀, d₀, td₀, m (Str.ofString "c"), s.heap, s.toks, rfl, hJ, rfl, e0.symm ▸ F, N⟩)
  rintro n s' ⟨i, ti, d, td, cv, hp, tk, rfl, hJi, rfl, F₁, N₁⟩
  refine wpAny_mono (turn i ti d td cv hp tk hJi F₁ N₁) (fun b s₂ h₂ => ?_) hE
  cases b with
  | false =>
    simp only [Bool.false_eq_true, if_false] at h₂ ⊢
    exact wpAny_execs_nil h₂
  | true =>
    simp only [if_true] at h₂ ⊢
    refine wpAny_mono h₂ (fun f s₃ h₃ => ?_) hE
    have fin : (∃ i' ti' d' td' cv' hp' tk', i < i' ∧ J i' d' ∧ s₃ = { s with heap := hp', toks := tk' } ∧ Fr g L hp' (mp257 m i' ti' d' td' cv') ∧ News g L hp' news) → ∃ k, k < (top - i).toNat ∧ ∃ i ti d td cv hp tk, k = (top - i).toNat ∧ J i d ∧ s₃ = { s with heap := hp, toks := tk } ∧ Fr g L hp (mp257 m i ti d td cv) ∧ News g L hp news := by
      rintro ⟨i', ti', d', td', cv', hp', tk', hlt, hJ', e', F', N'⟩
      have := hb _ _ hJ'
      exact ⟨_, by omega, i', ti', d', td', cv', hp', tk', rfl, hJ', e', F', N'⟩
    cases f with
    | next => exact fin h₃
    | cont => exact fin h₃
    | brk => exact h₃
    | ret v => exact h₃
end
theorem fr_c {g h : Heap} {L : Addr} {m1 m2 : Str → Option Value} (F : Fr g L h m1) (e : ∀ y, m1 y = m2 y) : Fr g L h m2 := (funext e : m1 = m2) ▸ F
theorem W257.next {Q : Flow → Shared → Prop} {g : Heap} {L : Addr} {news : Led} {m m1 : Str → Option Value} {s : Shared} {J : Int → Str → Prop} {i i' : Int} {ti' td' : Tok} {d' : Str} {hp' : Heap} {tk' : Nat}
    (F : Fr g L hp' m1) (N : News g L hp' news) (h1 : m1 (Str.ofString "i") = some (.int i' ti')) (h2 : m1 (Str.ofString "dirname") = some (.str d' td')) (h3 : ∀ y, y ≠ Str.ofString "i" → y ≠ Str.ofString "dirname" → y ≠ Str.ofString "c" → m1 y = m y)
    (hlt : i < i') (hJ : J i' d') : W257 Q g L news m s J i .next { s with heap := hp', toks := tk' } := by
  refine ⟨i', ti', d', td', m1 (Str.ofString "c"), hp', tk', hlt, hJ, rfl, fr_c F fun y => ?_, N⟩
  unfold mp257
  by_cases a1 : y = Str.ofString "i"
  · rw [if_pos a1, a1, h1]
  · rw [if_neg a1]
    by_cases a2 : y = Str.ofString "dirname"
    · rw [if_pos a2, a2, h2]
    · rw [if_neg a2]
      by_cases a3 : y = Str.ofString "c"
      · rw [if_pos a3, a3]
      · rw [if_neg a3]; exact h3 y a1 a2 a3
section
theorem p257_rows2 : True := by
  k_with "len_le" => first | assumption | exact Nat.le_refl _
  k_with "binaryOp Add str str" => (k_here; (with_reducible show wpAny _ _ (binaryOp Operator.Add (Value.str _ _) (Value.str _ _)) _ _ _); (refine' add_g ?ka ?kb ?kc ?_; (case ka => walk_at "len_le"); (case kb => walk_at "len_le"); (case kc => decide +kernel)); intro z' ez' lz' tx' kx' hx'; (try dsimp only at hx'))
  k_with "binaryOp Mult str int" => (k_here; (refine' mul_g ?ka ?kb ?kc ?kd ?_; (case ka => walk_at "len_le"); (case kb => decide +kernel); (case kc => decide); (case kd => decide)); intro z' ez' lz' tx' kx' hx'; (try dsimp only at hx'))
  k_with "call type:str" => (k_here; (refine' strint_g ?ka ?kb ?_; (case ka => omega); (case kb => omega)); intro z' ez' lz')
  k_with "subscriptTail Name Slice str ref" => ((with_reducible rename Fr _ _ _ _ => F'); (with_reducible rename News _ _ _ _ => N'); (with_reducible show wpAny _ _ (subscriptTail _ (Expr.Slice (some _) none none _) _ _) _ _ _); (refine' cut_g (s := ⟨_, _, _, _, _⟩) ?ka ?kb F' N' ?kc ?kd ?_; (case ka => walk_at "len_le"); (case kb => decide +kernel); (case kc => with_unfolding_all rfl); (case kd => (intro _; with_unfolding_all rfl))); intro z' ez' lz' h' tx' kx' F2' N2' hx'; (try dsimp only at hx'))
  k_with "subscriptTail" => (k_here; (with_reducible show wpAny _ _ (subscriptTail _ _ (Value.str _ _) (Value.int _ _)) _ _ _); (k_dflt (refine' item_g ?k1 ?k2 ?k3 ?k4 ?k5 ?_; (case k1 => omega); (case k2 => first | omega | exact Int.lt_of_lt_of_le (b := 4) (by omega) (by decide +kernel)); (case k3 => first | omega | decide +kernel); (case k4 => with_unfolding_all rfl); (case k5 => (intro _; with_unfolding_all rfl)))); intro z' ez' lz')
  trivial
theorem p257_rows3 : True := by
  k_with "exec While Compare cons nil" => refine Hold.un ?_
  trivial
def p257_spec_says (w : World) (news : Led) (t1 : Tok) (mean : ExcName → Option Value) (mg : Str → Option Value) (mb : Str → Option Value) (dp : Nat) (un : Nat) (gd : Option (List Code)) (cn : Str) (cs : Scope) (a : Addr) (ccd : Value) (cl : List (Str × Addr)) (outer : List Env) (A₀ : Around) (base : Heap) (h₀ : Heap) (L : Addr) (m : Str → Option Value) (s : Shared) (Q : Value → Shared → Prop) (E : Value → Shared → Prop) : Prop := ∀ (x : Str), (x.length ≤ 1000) → ((Txt.slice x none (some 3) != Str.ofString "257") = false) → CtB w 86 [.str x t1] news 5 60 (fun tl r' => ∃ z t, r' = .str z t ∧ tl = [] ∧ p257 x = z) mean mg mb dp un gd cn cs a ccd cl outer A₀ base h₀ L m s Q E
noncomputable def p257_spec_bad : World × Led × Tok × (ExcName → Option Value) × (Str → Option Value) × (Str → Option Value) × Nat × Nat × (Option (List Code)) × Str × Scope × Addr × Value × (List (Str × Addr)) × (List Env) × Around × Heap × Heap × Addr × (Str → Option Value) × Shared × (Value → Shared → Prop) × (Value → Shared → Prop) := Classical.choose (ex_eps (dW, default, default, default, default, default, default, default, default, default, default, default, default, default, default, dA, default, default, default, default, dS, default, default) (fun v : World × Led × Tok × (ExcName → Option Value) × (Str → Option Value) × (Str → Option Value) × Nat × Nat × (Option (List Code)) × Str × Scope × Addr × Value × (List (Str × Addr)) × (List Env) × Around × Heap × Heap × Addr × (Str → Option Value) × Shared × (Value → Shared → Prop) × (Value → Shared → Prop) => p257_spec_says v.1 v.2.1 v.2.2.1 v.2.2.2.1 v.2.2.2.2.1 v.2.2.2.2.2.1 v.2.2.2.2.2.2.1 v.2.2.2.2.2.2.2.1 v.2.2.2.2.2.2.2.2.1 v.2.2.2.2.2.2.2.2.2.1 v.2.2.2.2.2.2.2.2.2.2.1 v.2.2.2.2.2.2.2.2.2.2.2.1 v.2.2.2.2.2.2.2.2.2.2.2.2.1 v.2.2.2.2.2.2.2.2.2.2.2.2.2.1 v.2.2.2.2.2.2.2.2.2.2.2.2.2.2.1 v.2.2.2.2.2.2.2.2.2.2.2.2.2.2.2.1 v.2.2.2.2.2.2.2.2.2.2.2.2.2.2.2.2.1 v.2.2.2.2.2.2.2.2.2.2.2.2.2.2.2.2.2.1 v.2.2.2.2.2.2.2.2.2.2.2.2.2.2.2.2.2.2.1 v.2.2.2.2.2.2.2.2.2.2.2.2.2.2.2.2.2.2.2.1 v.2.2.2.2.2.2.2.2.2.2.2.2.2.2.2.2.2.2.2.2.1 v.2.2.2.2.2.2.2.2.2.2.2.2.2.2.2.2.2.2.2.2.2.1 v.2.2.2.2.2.2.2.2.2.2.2.2.2.2.2.2.2.2.2.2.2.2))
noncomputable def p257_spec_w : World := p257_spec_bad.1
noncomputable def p257_spec_news : Led := p257_spec_bad.2.1
noncomputable def p257_spec_t1 : Tok := p257_spec_bad.2.2.1
noncomputable def p257_spec_mean : ExcName → Option Value := p257_spec_bad.2.2.2.1
noncomputable def p257_spec_mg : Str → Option Value := p257_spec_bad.2.2.2.2.1
noncomputable def p257_spec_mb : Str → Option Value := p257_spec_bad.2.2.2.2.2.1
noncomputable def p257_spec_dp : Nat := p257_spec_bad.2.2.2.2.2.2.1
noncomputable def p257_spec_un : Nat := p257_spec_bad.2.2.2.2.2.2.2.1
noncomputable def p257_spec_gd : Option (List Code) := p257_spec_bad.2.2.2.2.2.2.2.2.1
noncomputable def p257_spec_cn : Str := p257_spec_bad.2.2.2.2.2.2.2.2.2.1
noncomputable def p257_spec_cs : Scope := p257_spec_bad.2.2.2.2.2.2.2.2.2.2.1
noncomputable def p257_spec_a : Addr := p257_spec_bad.2.2.2.2.2.2.2.2.2.2.2.1
noncomputable def p257_spec_ccd : Value := p257_spec_bad.2.2.2.2.2.2.2.2.2.2.2.2.1
noncomputable def p257_spec_cl : List (Str × Addr) := p257_spec_bad.2.2.2.2.2.2.2.2.2.2.2.2.2.1
noncomputable def p257_spec_outer : List Env := p257_spec_bad.2.2.2.2.2.2.2.2.2.2.2.2.2.2.1
noncomputable def p257_spec_A₀ : Around := p257_spec_bad.2.2.2.2.2.2.2.2.2.2.2.2.2.2.2.1
noncomputable def p257_spec_base : Heap := p257_spec_bad.2.2.2.2.2.2.2.2.2.2.2.2.2.2.2.2.1
noncomputable def p257_spec_h₀ : Heap := p257_spec_bad.2.2.2.2.2.2.2.2.2.2.2.2.2.2.2.2.2.1
noncomputable def p257_spec_L : Addr := p257_spec_bad.2.2.2.2.2.2.2.2.2.2.2.2.2.2.2.2.2.2.1
noncomputable def p257_spec_m : Str → Option Value := p257_spec_bad.2.2.2.2.2.2.2.2.2.2.2.2.2.2.2.2.2.2.2.1
noncomputable def p257_spec_s : Shared := p257_spec_bad.2.2.2.2.2.2.2.2.2.2.2.2.2.2.2.2.2.2.2.2.1
noncomputable def p257_spec_Q : Value → Shared → Prop := p257_spec_bad.2.2.2.2.2.2.2.2.2.2.2.2.2.2.2.2.2.2.2.2.2.1
noncomputable def p257_spec_E : Value → Shared → Prop := p257_spec_bad.2.2.2.2.2.2.2.2.2.2.2.2.2.2.2.2.2.2.2.2.2.2
set_option maxHeartbeats 2000000 in
theorem p257_spec_core : p257_spec_says p257_spec_w p257_spec_news p257_spec_t1 p257_spec_mean p257_spec_mg p257_spec_mb p257_spec_dp p257_spec_un p257_spec_gd p257_spec_cn p257_spec_cs p257_spec_a p257_spec_ccd p257_spec_cl p257_spec_outer p257_spec_A₀ p257_spec_base p257_spec_h₀ p257_spec_L p257_spec_m p257_spec_s p257_spec_Q p257_spec_E := by
  unfold p257_spec_says
  intro x hx hok
  (refine fillIt ?_; k_fill; intro _; unfold CtB)
  intro B F X N T hk hdp hun hret
  walk_at "ct_enter"
  k_steps
  · refine end0 hret (by k_asm) (by k_asm) (by walk_at "led_sub") ⟨_, _, rfl, rfl, ?_⟩
    unfold p257
    rw [if_pos (by assumption)]
  · unfold Hold
    rename Fr _ _ _ _ => F9
    rename News _ _ _ _ => N9
    refine while257 F9 N9 (i₀ := 5) rfl rfl (fun i d => 5 ≤ i ∧ i ≤ x.length + 5 ∧ (d.length : Int) ≤ i ∧ ∃ f : Nat, 0 < f ∧ (x.length : Int) - i < f ∧ l257 x f i d = l257 x (x.length + 1) 5 (Str.ofString "")) (x.length + 5) ?_ ?_ ?_ ?_
    · exact ⟨by omega, by omega, by decide, x.length + 1, by omega, by omega, rfl⟩
    · exact fun i d h => h.2.1
    · passes_own
    · intro i ti d td cv hp tk hJ F10 N10
      clear F9 N9
      obtain ⟨j1, j2, j3, f, j0, j4, j5⟩ := hJ
      have hd : d.length ≤ 1005 := by omega
      obtain ⟨f, rfl⟩ : ∃ f', f = f' + 1 := ⟨f - 1, by omega⟩
      have p0 : (Txt.slice x (some 3) (some 5) != Str.ofString " \"") = false := by assumption
      have pR : p257 x = l257 x (f + 1) i d := by unfold p257; rw [if_neg (by rw [p0]; decide), ← j5]
      have pl := pR
      unfold l257 at pl
      k_steps
      · dsimp only [W257]
        k_steps
        refine end0 hret (by k_asm) (by k_asm) (by walk_at "led_sub") ⟨_, _, rfl, rfl, ?_⟩
        rw [pl, if_pos (by assumption), if_pos (by assumption), if_pos (by assumption)]
      · dsimp only [W257]
        k_steps
        refine end0 hret (by k_asm) (by k_asm) (by walk_at "led_sub") ⟨_, _, rfl, rfl, ?_⟩
        rw [pl, if_pos (by assumption), if_pos (by assumption), if_neg (by omega), if_pos (by assumption)]
      · refine W257.next (by k_asm) (by k_asm) rfl rfl (fun y a1 a2 a3 => ?_) (by omega) ?_
        · simp only [mp257, if_neg a1, if_neg a2, if_neg a3]
        · subst_vars
          refine ⟨by omega, by omega, by rw [Str.length_append]; omega, f, by omega, by omega, ?_⟩
          rw [← j5]
          conv => rhs; unfold l257
          rw [if_pos (by assumption), if_pos (by assumption), if_neg (by omega), if_neg (by simp_all)]
      · refine W257.next (by k_asm) (by k_asm) rfl rfl (fun y a1 a2 a3 => ?_) (by omega) ?_
        · simp only [mp257, if_neg a1, if_neg a2, if_neg a3]
        · subst_vars
          refine ⟨by omega, by omega, by rw [Str.length_append]; omega, f, by omega, by omega, ?_⟩
          rw [← j5]
          conv => rhs; unfold l257
          rw [if_pos (by assumption), if_neg (by simp_all)]
      · refine end0 hret (by k_asm) (by k_asm) (by walk_at "led_sub") ⟨_, _, rfl, rfl, ?_⟩
        rw [pl, if_neg (by omega)]
theorem p257_spec (w : World) (news) (x : Str) (t1 : Tok) (hx : x.length ≤ 1000) (hok : (Txt.slice x none (some 3) != Str.ofString "257") = false)
   : Ct w 86 [.str x t1] news 5 60 (fun tl r' => ∃ z t, r' = .str z t ∧ tl = [] ∧ p257 x = z) :=
  Ct.of fun mean mg mb dp un gd cn cs a ccd cl outer A₀ base h₀ L m s Q E => (Classical.choose_spec (ex_eps (dW, default, default, default, default, default, default, default, default, default, default, default, default, default, default, dA, default, default, default, default, dS, default, default) (fun v : World × Led × Tok × (ExcName → Option Value) × (Str → Option Value) × (Str → Option Value) × Nat × Nat × (Option (List Code)) × Str × Scope × Addr × Value × (List (Str × Addr)) × (List Env) × Around × Heap × Heap × Addr × (Str → Option Value) × Shared × (Value → Shared → Prop) × (Value → Shared → Prop) => p257_spec_says v.1 v.2.1 v.2.2.1 v.2.2.2.1 v.2.2.2.2.1 v.2.2.2.2.2.1 v.2.2.2.2.2.2.1 v.2.2.2.2.2.2.2.1 v.2.2.2.2.2.2.2.2.1 v.2.2.2.2.2.2.2.2.2.1 v.2.2.2.2.2.2.2.2.2.2.1 v.2.2.2.2.2.2.2.2.2.2.2.1 v.2.2.2.2.2.2.2.2.2.2.2.2.1 v.2.2.2.2.2.2.2.2.2.2.2.2.2.1 v.2.2.2.2.2.2.2.2.2.2.2.2.2.2.1 v.2.2.2.2.2.2.2.2.2.2.2.2.2.2.2.1 v.2.2.2.2.2.2.2.2.2.2.2.2.2.2.2.2.1 v.2.2.2.2.2.2.2.2.2.2.2.2.2.2.2.2.2.1 v.2.2.2.2.2.2.2.2.2.2.2.2.2.2.2.2.2.2.1 v.2.2.2.2.2.2.2.2.2.2.2.2.2.2.2.2.2.2.2.1 v.2.2.2.2.2.2.2.2.2.2.2.2.2.2.2.2.2.2.2.2.1 v.2.2.2.2.2.2.2.2.2.2.2.2.2.2.2.2.2.2.2.2.2.1 v.2.2.2.2.2.2.2.2.2.2.2.2.2.2.2.2.2.2.2.2.2.2)) p257_spec_core (w, news, t1, mean, mg, mb, dp, un, gd, cn, cs, a, ccd, cl, outer, A₀, base, h₀, L, m, s, Q, E) : p257_spec_says w news t1 mean mg mb dp un gd cn cs a ccd cl outer A₀ base h₀ L m s Q E) x hx hok
end

theorem tolde_rows1 : True := by
  k_with_none
  w_top off
  k_with "led_sub" => first | exact fun p hp => hp | (intro p hp; repeat' (first | exact hp | refine List.Mem.tail _ ?_))
  k_with "led_lt" => first | assumption | exact ktn_ltOf (by assumption) | exact lt1 (by assumption) | exact lt2 (by assumption) | exact lt3 (by assumption) | exact lt4 (by assumption)
  k_with "ct_fill" => (refine fillIt ?_; k_fill; intro _; unfold Ct)
  k_with "ct_enter" => (refine wpAny_call ?_; k_dflt cell_enter)
  k_with "ct_use" => ((case k1 => k_asm); (case k2 => k_asm); (case k3 => k_asm); (case k4 => k_asm); (case k5 => k_asm); (case kK => first | exact rfl | assumption); (case kd => ktr_room); (case ku => ktr_units))
  k_with "subscriptTail" => (k_here; (with_reducible show wpAny _ _ (subscriptTail _ _ (Value.ref _) (Value.int _ _)) _ _ _); (k_dflt (refine' tup_item ?k1 ?k2 ?k3 ?k4 ?k5 ?k6 ?_; (case k1 => k_asm); (case k2 => first | assumption | k_mem); (case k3 => decide); (case k4 => decide); (case k5 => exact rfl); (case k6 => with_unfolding_all rfl); k_whole)))
  k_with "call builtin:max" => ((with_reducible show wpAny _ _ (call _ [Value.float _ _, Value.float _ _, Value.float _ _]) _ _ _); (rename News _ _ _ _ => N'); (rename Fr _ _ _ _ => F'); refine max3_K rfl F' N' ?_; clear N'; intro _ _ _ _ _)
  k_with "call builtin:min" => ((with_reducible show wpAny _ _ (call _ [Value.float _ _, Value.float _ _, Value.float _ _]) _ _ _); (rename News _ _ _ _ => N'); (rename Fr _ _ _ _ => F'); refine min3_K rfl F' N' ?_; clear N'; intro _ _ _ _ _)
  k_with "subscriptTail" => (k_here; (with_reducible show wpAny _ _ (subscriptTail _ _ (Value.ref _) (Value.int _ _)) _ _ _); (k_dflt (refine' lst_item3 ?k1 ?k2 ?k3 ?k4 ?k6 ?_ ?_ ?_; (case k1 => k_asm); (case k2 => k_mem); (case k3 => omega); (case k4 => omega); (case k6 => with_unfolding_all rfl); all_goals (k_whole; intro hidx))))
  k_with "str_fit" => first | decide +kernel | (simp only [Str.length_append]; omega)
  k_with "binaryOp Add str str" => (k_here; (with_reducible show wpAny _ _ (binaryOp Operator.Add (Value.str _ _) (Value.str _ _)) _ _ _); (refine' add_m ?ksz ?_; (case ksz => walk_at "str_fit")); intro tx' kx' hx'; (try dsimp only at hx'))
  k_with "call builtin:str.replace" => (k_here; (refine' repl_m ?k1 ?k2 ?k3 ?k4 ?k5 ?k6 ?_; (case k1 => (show (0 : Nat) < _); omega); (case k2 => (show (0 : Nat) < _); omega); (case k3 => (show @Ne Nat _ _); omega); (case k4 => decide +kernel); (case k5 => walk_at "str_fit"); (case k6 => walk_at "str_fit")); intro tx' kx' hx'; (try dsimp only at hx'))
  k_with "subscriptTail" => (k_here; (with_reducible show wpAny _ _ (subscriptTail _ _ (Value.str _ _) (Value.int _ _)) _ _ _); (k_dflt (refine' str_item ?k1 ?k2 ?k3 ?k4 ?k5 ?_; (case k1 => omega); (case k2 => first | omega | exact Int.lt_of_lt_of_le (b := 4) (by omega) (by decide +kernel)); (case k3 => first | omega | decide +kernel); (case k4 => with_unfolding_all rfl); (case k5 => (intro _; with_unfolding_all rfl)))); intro hone')
  k_with "subscriptTail Name Slice str ref" => ((with_reducible rename Fr _ _ _ _ => F'); (with_reducible rename News _ _ _ _ => N'); (first
  | ((with_reducible show wpAny _ _ (subscriptTail _ (Expr.Slice (some _) none none _) _ _) _ _ _); (refine' slice_strN_sn_len (s := ⟨_, _, _, _, _⟩) F' N' ?_ (hsz := ?hsz)); (case hsz => walk_at "str_fit"))
  | ((with_reducible show wpAny _ _ (subscriptTail _ (Expr.Slice none (some _) none _) _ _) _ _ _); (refine' slice_strN_ns_len (s := ⟨_, _, _, _, _⟩) F' N' ?_ (hsz := ?hsz)); (case hsz => walk_at "str_fit"))
  | ((with_reducible show wpAny _ _ (subscriptTail _ (Expr.Slice (some _) (some _) none _) _ _) _ _ _); (refine' slice_strN_ss_len (s := ⟨_, _, _, _, _⟩) F' N' ?_ (hsz := ?hsz)); (case hsz => walk_at "str_fit"))); intro _ _ _ _ _ _)
  k_with "call ref" => (k_here; (with_reducible show wpAny _ _ (call (Value.ref 28) _) _ _ _); (k_dflt (refine' Ct.use (rgb_spec _ _ _ _ _ _ _ _ ?p1 ?p2) ?k1 ?k2 ?k3 ?k4 ?k5 ?kK ?kd ?ku ?_; (case p1 => exact RgbOk.h1 (by assumption)); (case p2 => exact RgbOk.h2 (by assumption)); walk_at "ct_use")); intro r' tl' h' tk' F' N' l1 hP'; obtain ⟨D', c', t4', t5', t6', e1', e2', e3'⟩ := hP'; subst e1' e2' e3'; replace l1 := lt_tl1 l1; (try k_lt l1); (simp only [List.cons_append, List.nil_append] at N'); (try k_sweep); (try dsimp only); (try k_fold))
  k_with "call ref" => (k_here; (with_reducible show wpAny _ _ (call (Value.ref 86) _) _ _ _); (k_dflt (refine' Ct.use (p257_spec _ _ _ _ ?p1 ?p2) ?k1 ?k2 ?k3 ?k4 ?k5 ?kK ?kd ?ku ?_; (case p1 => assumption); (case p2 => assumption); walk_at "ct_use")); intro r' tl' h' tk' F' N' l1 hP'; obtain ⟨z', t4', e1', e2', e3'⟩ := hP'; subst e1' e2' e3'; (simp only [List.nil_append] at N'); (try k_sweep); (try dsimp only); (try k_fold))
  k_with "enterS" => (refine' code_defS ?k1 ?k2 ?k3 ?k4 ?k5 ?XB ?TB ?D ?T0 ?kA ?k6 ?k7 ?k8 ?k9 ?kB ?_ ?cK ?c2 ?c3 ?c4 ?c5; (case kA => exact rfl); (case k2 => k_asm); (case k1 => k_asm); (case XB => assumption); (case TB => assumption); (case D => assumption); (case T0 => first | assumption | exact KtsTurn.refl); (case k3 => k_asm); (case k4 => k_asm); (case k5 => k_asm); (case k6 => k_is); (case k7 => k_is); (case k8 => ktr_room); (case k9 => exact BindsTo.of_eq rfl); (case kB => exact locs rfl); (case cK => first | exact rfl | assumption); (case c2 => exact rfl); (case c3 => exact rfl); (case c4 => exact rfl); (case c5 => decide); k_whole; intro g' L' h' FG' F' N' B' X' T' D'; (try dsimp only); (try k_lift B'); (try k_fold))
  k_with "enterS0" => (refine' enter0X ?k1 ?k2 ?k3 ?k4 ?k5 ?kA ?kF ?cK ?k6 ?k7 ?k8 ?k9 ?kB ?_ ?c2 ?c3 ?c4 ?c5; (case kA => exact rfl); (case kF => exact rfl); (case cK => first | exact rfl | assumption); (case k2 => k_asm); (case k1 => k_asm); (case k3 => k_asm); (case k4 => k_asm); (case k5 => k_asm); (case k6 => k_is); (case k7 => k_is); (case k8 => ktr_room); (case k9 => exact BindsTo.of_eq rfl); (case kB => exact locs rfl); (case c2 => exact rfl); (case c3 => exact rfl); (case c4 => exact rfl); (case c5 => decide); k_whole; intro g' L' h' FG' F' N' B' X' T' D'; (try dsimp only); (try k_lift B'); (try k_fold))
  trivial
theorem enter0C {prog : Program} {w : World} {A₀ A : Around} {s : Shared} {base h₀ : Heap} {L : Addr} {m : Str → Option Value} {env : Env} {news : Led} {K : Frag} {p : Program} {loose : List Str} {mean : ExcName → Option Value} {mg mb : Str → Option Value}
    {R : Result → Shared → Prop} {name qual : Str} {params : Arguments} {body : List Stmt} {scope : Scope} {dV kV doc pm cdv ct oc : Value} {an od : Option Addr} {osl : Array (Option Value)} {f : Addr} {args : Args} {binds : List (Str × Value)}
    (B : Below A₀ base [] h₀) (F : Fr h₀ L s.heap m) (X₀ : K.In h₀) (N : News h₀ L s.heap news) (T : Top p loose mean mg mb h₀) (hA : A.frames = some [env]) (hf : env.frame = some L) (hke : env.scope.kind = .function)
    (ho : K.lookup f = some ⟨oc, od, .func (fnOf name qual params body scope dV kV doc pm an cdv ct), osl⟩) (hcd : codeIn K cdv qual = true) (hroom : A.depth < recursionLimit)
    (hbind : BindsTo s (fnOf name qual params body scope dV kV doc pm an cdv ct) args binds) (hloc : ∀ y ∈ binds, scope.names.lookup y.1 = some .local)
    (h : ∀ g L' h₁, Fr h₀ L g m → Fr g L' h₁ (fun y => binds.reverse.lookup y) → News g L' h₁ news → Below A base [env] g → K.In g → Top p loose mean mg mb g → KtsDicts ([env].filterMap (·.frame)) g →
      wpC (model prog w) (A.deeper (envOf qual scope L' f cdv)) (execs body (envOf qual scope L' f cdv))
        (fun fl s' => LeaveS0 ([env].filterMap (·.frame)) h₀ L m g R (match fl with | .ret v => v | _ => .none) s')
        (fun e s' => wpAny (model prog w) (A.deeper (envOf qual scope L' f cdv)) (leaving (envOf qual scope L' f cdv) e) (fun _ s'' => R (.error e) s'') (fun e' s'' => R (.error e') s'') s')
        { s with heap := h₁, toks := s.toks + binds.length })
    (hco : scope.isCoroutine = false) (hgen : scope.isGenerator = false) (hk : scope.kind = .function) (hcell : ∀ x ∈ scope.names, x.2 ≠ .cell) : codeC (model prog w) A (.call (.ref f) args) R s := by
  obtain ⟨FG, BG, st, _⟩ := groundX (R := R) B F N hA hf hke
  obtain ⟨oL, es, ep, hLg, hLd, hLk, hLf⟩ := FG.ns
  have X := X₀.keeps F.keep
  refine codeC.call_def (fd := fnOf name qual params body scope dV kV doc pm an cdv ct) (body := body) (binds := binds) hroom (X _ _ ho) rfl (T.nolimit.keeps F.keep) (codeRec_of X hcd) rfl hbind hcell hloc (fun h₁ hns hk₁ => ?_) hco hgen hk
  have only : ∀ b, b ∈ [env].filterMap (·.frame) → b = L := fun b hb => by
    obtain ⟨e, he, hb⟩ := List.mem_filterMap.mp hb
    rw [List.mem_singleton.mp he, hf] at hb
    exact (Option.some.inj hb).symm
  refine wpC.mono (h _ s.heap.objs.size h₁ FG ⟨hns, fun b o e => hk₁ b o (of_hideAll _ e), Nat.le_of_eq (hideAll_size _ _)⟩
    (fun q hq => ⟨hk₁ _ _ (N q hq).1, Nat.ne_of_lt (Heap.lt_size (N q hq).1), hideAll_none _ (List.mem_map_of_mem hq)⟩) BG (X₀.keeps st) (T.keeps st) (fun b hb => (only b hb).symm ▸ ⟨oL, es, ep, hLg, hLd⟩)) (fun fl s' hl => ?_) fun _ _ y => .of y
  obtain ⟨g', L', m', news', T', F', N', k⟩ := hl
  obtain ⟨sl, hs⟩ := T'.up hLg
  refine k ⟨⟨_, es, ep, F'.keep _ _ hs, hLd, hLk, hLf⟩, fun b o e => F'.keep b o (T'.other b o (st b o e) fun hb => ?_), F.above⟩ fun q hq => ⟨(N' q hq).1, fun e => ?_, ?_⟩
  · rw [only b hb, kts_self F] at e
    cases e
  · have z := (N' q hq).2.2
    rw [e, hs] at z
    cases z
  · cases z : h₀.get? q.1 with
    | none => rfl
    | some o =>
      obtain ⟨sl', hs'⟩ := T'.up (st _ _ z)
      have z' := (N' q hq).2.2
      rw [hs'] at z'
      cases z'
theorem enter1C {prog : Program} {w : World} {A₀ A : Around} {s : Shared} {base h₀ : Heap} {L : Addr} {m : Str → Option Value} {env : Env} {outer : List Env} {news : Led} {K : Frag} {p : Program} {loose : List Str} {mean : ExcName → Option Value} {mg mb : Str → Option Value}
    {R : Result → Shared → Prop} {name qual : Str} {params : Arguments} {body : List Stmt} {scope : Scope} {dV kV doc pm cdv ct oc : Value} {an od : Option Addr} {osl : Array (Option Value)} {f : Addr} {args : Args} {binds : List (Str × Value)}
    (B : Below A₀ base outer h₀) (F : Fr h₀ L s.heap m) (X₀ : K.In h₀) (N : News h₀ L s.heap news) (T : Top p loose mean mg mb h₀) (D : KtsDicts (outer.filterMap (·.frame)) h₀) (hA : A.frames = some (env :: outer)) (hf : env.frame = some L) (hke : env.scope.kind = .function)
    (ho : K.lookup f = some ⟨oc, od, .func (fnOf name qual params body scope dV kV doc pm an cdv ct), osl⟩) (hcd : codeIn K cdv qual = true) (hroom : A.depth < recursionLimit)
    (hbind : BindsTo s (fnOf name qual params body scope dV kV doc pm an cdv ct) args binds) (hloc : ∀ y ∈ binds, scope.names.lookup y.1 = some .local)
    (h : ∀ g L' h₁, Fr h₀ L g m → Fr g L' h₁ (fun y => binds.reverse.lookup y) → News g L' h₁ news → Below A base (env :: outer) g → K.In g → Top p loose mean mg mb g → KtsDicts ((env :: outer).filterMap (·.frame)) g →
      wpC (model prog w) (A.deeper (envOf qual scope L' f cdv)) (execs body (envOf qual scope L' f cdv)) (fun fl s' => LeaveK h₀ L m g R (match fl with | .ret v => v | _ => .none) s')
        (fun e s' => wpAny (model prog w) (A.deeper (envOf qual scope L' f cdv)) (leaving (envOf qual scope L' f cdv) e) (fun _ s'' => R (.error e) s'') (fun e' s'' => R (.error e') s'') s')
        { s with heap := h₁, toks := s.toks + binds.length })
    (hco : scope.isCoroutine = false) (hgen : scope.isGenerator = false) (hk : scope.kind = .function) (hcell : ∀ x ∈ scope.names, x.2 ≠ .cell) : codeC (model prog w) A (.call (.ref f) args) R s := by
  obtain ⟨FG, BG, st, lv⟩ := groundX (R := R) B F N hA hf hke
  obtain ⟨oL, es, ep, hLg, hLd, hLk, hLf⟩ := FG.ns
  have X := X₀.keeps F.keep
  refine codeC.call_def (fd := fnOf name qual params body scope dV kV doc pm an cdv ct) (body := body) (binds := binds) hroom (X _ _ ho) rfl (T.nolimit.keeps F.keep) (codeRec_of X hcd) rfl hbind hcell hloc (fun h₁ hns hk₁ => ?_) hco hgen hk
  refine wpC.mono (h _ s.heap.objs.size h₁ FG ⟨hns, fun b o e => hk₁ b o (of_hideAll _ e), Nat.le_of_eq (hideAll_size _ _)⟩
    (fun q hq => ⟨hk₁ _ _ (N q hq).1, Nat.ne_of_lt (Heap.lt_size (N q hq).1), hideAll_none _ (List.mem_map_of_mem hq)⟩) BG (X₀.keeps st) (T.keeps st) (fun b hb => ?_)) (fun fl s' hl => lv _ _ hl) fun _ _ y => .of y
  obtain ⟨e, he, hq⟩ := List.mem_filterMap.mp hb
  rcases List.mem_cons.mp he with rfl | he
  · have z := Option.some.inj (hf.symm.trans hq); subst z; exact ⟨oL, es, ep, hLg, hLd⟩
  · obtain ⟨o, es', n', ho', hd'⟩ := D b (List.mem_filterMap.mpr ⟨e, he, hq⟩)
    exact ⟨o, es', n', st b o ho', hd'⟩
theorem evalArgsC {M : Model} {A : Around} {E : Value → Shared → Prop} {s : Shared} {f : Value} {x : Sem Value} {rest trees : List (Bool × Sem Value)} {Q : Args → Shared → Prop} (e : trees = (false, x) :: rest)
    (h : wpAny M A (spliced trees) (fun vs s' => Q ⟨vs, []⟩ s') E s) : wpC M A (evalArgs f true trees []) Q E s := by
  subst e
  exact wpC.evalArgs (.of h)
def IsFn (h : Heap) (a : Addr) : Prop := ∃ o fd, h.get? a = some o ∧ o.data = .func fd
theorem isFn_of {K : Frag} {g h : Heap} {L a : Addr} {m : Str → Option Value} {oc : Value} {od : Option Addr} {fd : FuncData} {sl : Array (Option Value)} (X : K.In g) (F : Fr g L h m) (e : K.lookup a = some ⟨oc, od, .func fd, sl⟩) : IsFn h a := ⟨_, _, F.keep _ _ (X _ _ e), rfl⟩
theorem callWithC {M : Model} {A : Around} {E : Value → Shared → Prop} {s : Shared} {pos : Pos} {a : Addr} {x : Sem Value} {rest trees : List (Bool × Sem Value)} {Q : Value → Shared → Prop} (e : trees = (false, x) :: rest) (hplain : trees.any (·.1) = false) (hlen : trees.length ≤ 30)
    (h : wpAny M A (spliced trees) (fun vs s₁ => IsFn s₁.heap a ∧ wpC M A (call (.ref a) vs []) Q E s₁) E s) : wpC M A (callWith pos (.ref a) [] trees []) Q E s :=
  wpC.callWith_fn hplain hlen (evalArgsC e h)
theorem callWithT {M : Model} {A : Around} {E : Value → Shared → Prop} {s : Shared} {pos : Pos} {T : String} {x : Sem Value} {rest trees : List (Bool × Sem Value)} {Q : Value → Shared → Prop} (e : trees = (false, x) :: rest) (hplain : trees.any (·.1) = false)
    (h : wpAny M A (spliced trees) (fun vs s₁ => wpC M A (call (.type T) vs []) Q E s₁) E s) : wpC M A (callWith pos (.type T) [] trees []) Q E s :=
  wpC.callWith_type hplain (evalArgsC e h)
theorem wpC.execs_take {M : Model} {A : Around} {E : Value → Shared → Prop} {s : Shared} {env : Env} {l : List Stmt} {Q : Flow → Shared → Prop} (n : Nat)
    (h : wpAny M A (execs (l.take n) env) (fun f s' => match f with | .next => wpC M A (execs (l.drop n) env) Q E s' | f => Q f s') E s) : wpC M A (execs l env) Q E s := by
  have := wpC.execs_app h
  rwa [List.take_append_drop] at this

theorem toldp_rows1 : True := by
  k_with_none
  w_top off
  k_with "led_sub" => first | exact fun p hp => hp | (intro p hp; repeat' (first | exact hp | refine List.Mem.tail _ ?_))
  k_with "led_lt" => first | assumption | exact ktn_ltOf (by assumption) | exact lt1 (by assumption) | exact lt2 (by assumption) | exact lt3 (by assumption) | exact lt4 (by assumption)
  k_with "ct_fill" => (refine fillIt ?_; k_fill; intro _; unfold Ct)
  k_with "ct_enter" => (refine wpAny_call ?_; k_dflt cell_enter)
  k_with "ct_use" => ((case k1 => k_asm); (case k2 => k_asm); (case k3 => k_asm); (case k4 => k_asm); (case k5 => k_asm); (case kK => first | exact rfl | assumption); (case kd => ktr_room); (case ku => ktr_units))
  k_with "subscriptTail" => (k_here; (with_reducible show wpAny _ _ (subscriptTail _ _ (Value.ref _) (Value.int _ _)) _ _ _); (k_dflt (refine' tup_item ?k1 ?k2 ?k3 ?k4 ?k5 ?k6 ?_; (case k1 => k_asm); (case k2 => first | assumption | k_mem); (case k3 => decide); (case k4 => decide); (case k5 => exact rfl); (case k6 => with_unfolding_all rfl); k_whole)))
  k_with "call builtin:max" => ((with_reducible show wpAny _ _ (call _ [Value.float _ _, Value.float _ _, Value.float _ _]) _ _ _); (rename News _ _ _ _ => N'); (rename Fr _ _ _ _ => F'); refine max3_K rfl F' N' ?_; clear N'; intro _ _ _ _ _)
  k_with "call builtin:min" => ((with_reducible show wpAny _ _ (call _ [Value.float _ _, Value.float _ _, Value.float _ _]) _ _ _); (rename News _ _ _ _ => N'); (rename Fr _ _ _ _ => F'); refine min3_K rfl F' N' ?_; clear N'; intro _ _ _ _ _)
  k_with "subscriptTail" => (k_here; (with_reducible show wpAny _ _ (subscriptTail _ _ (Value.ref _) (Value.int _ _)) _ _ _); (k_dflt (refine' lst_item3 ?k1 ?k2 ?k3 ?k4 ?k6 ?_ ?_ ?_; (case k1 => k_asm); (case k2 => k_mem); (case k3 => omega); (case k4 => omega); (case k6 => with_unfolding_all rfl); all_goals (k_whole; intro hidx))))
  k_with "str_fit" => first | decide +kernel | (simp only [Str.length_append]; omega)
  k_with "binaryOp Add str str" => (k_here; (with_reducible show wpAny _ _ (binaryOp Operator.Add (Value.str _ _) (Value.str _ _)) _ _ _); (refine' add_m ?ksz ?_; (case ksz => walk_at "str_fit")); intro tx' kx' hx'; (try dsimp only at hx'))
  k_with "call builtin:str.replace" => (k_here; (refine' repl_m ?k1 ?k2 ?k3 ?k4 ?k5 ?k6 ?_; (case k1 => (show (0 : Nat) < _); omega); (case k2 => (show (0 : Nat) < _); omega); (case k3 => (show @Ne Nat _ _); omega); (case k4 => decide +kernel); (case k5 => walk_at "str_fit"); (case k6 => walk_at "str_fit")); intro tx' kx' hx'; (try dsimp only at hx'))
  k_with "subscriptTail" => (k_here; (with_reducible show wpAny _ _ (subscriptTail _ _ (Value.str _ _) (Value.int _ _)) _ _ _); (k_dflt (refine' str_item ?k1 ?k2 ?k3 ?k4 ?k5 ?_; (case k1 => omega); (case k2 => first | omega | exact Int.lt_of_lt_of_le (b := 4) (by omega) (by decide +kernel)); (case k3 => first | omega | decide +kernel); (case k4 => with_unfolding_all rfl); (case k5 => (intro _; with_unfolding_all rfl)))); intro hone')
  k_with "subscriptTail Name Slice str ref" => ((with_reducible rename Fr _ _ _ _ => F'); (with_reducible rename News _ _ _ _ => N'); (first
  | ((with_reducible show wpAny _ _ (subscriptTail _ (Expr.Slice (some _) none none _) _ _) _ _ _); (refine' slice_strN_sn_len (s := ⟨_, _, _, _, _⟩) F' N' ?_ (hsz := ?hsz)); (case hsz => walk_at "str_fit"))
  | ((with_reducible show wpAny _ _ (subscriptTail _ (Expr.Slice none (some _) none _) _ _) _ _ _); (refine' slice_strN_ns_len (s := ⟨_, _, _, _, _⟩) F' N' ?_ (hsz := ?hsz)); (case hsz => walk_at "str_fit"))
  | ((with_reducible show wpAny _ _ (subscriptTail _ (Expr.Slice (some _) (some _) none _) _ _) _ _ _); (refine' slice_strN_ss_len (s := ⟨_, _, _, _, _⟩) F' N' ?_ (hsz := ?hsz)); (case hsz => walk_at "str_fit"))); intro _ _ _ _ _ _)
  k_with "call ref" => (k_here; (with_reducible show wpAny _ _ (call (Value.ref 28) _) _ _ _); (k_dflt (refine' Ct.use (rgb_spec _ _ _ _ _ _ _ _ ?p1 ?p2) ?k1 ?k2 ?k3 ?k4 ?k5 ?kK ?kd ?ku ?_; (case p1 => exact RgbOk.h1 (by assumption)); (case p2 => exact RgbOk.h2 (by assumption)); walk_at "ct_use")); intro r' tl' h' tk' F' N' l1 hP'; obtain ⟨D', c', t4', t5', t6', e1', e2', e3'⟩ := hP'; subst e1' e2' e3'; replace l1 := lt_tl1 l1; (try k_lt l1); (simp only [List.cons_append, List.nil_append] at N'); (try k_sweep); (try dsimp only); (try k_fold))
  k_with "call ref" => (k_here; (with_reducible show wpAny _ _ (call (Value.ref 86) _) _ _ _); (k_dflt (refine' Ct.use (p257_spec _ _ _ _ ?p1 ?p2) ?k1 ?k2 ?k3 ?k4 ?k5 ?kK ?kd ?ku ?_; (case p1 => assumption); (case p2 => assumption); walk_at "ct_use")); intro r' tl' h' tk' F' N' l1 hP'; obtain ⟨z', t4', e1', e2', e3'⟩ := hP'; subst e1' e2' e3'; (simp only [List.nil_append] at N'); (try k_sweep); (try dsimp only); (try k_fold))
  k_with "enterS" => (refine' code_defS ?k1 ?k2 ?k3 ?k4 ?k5 ?XB ?TB ?D ?T0 ?kA ?k6 ?k7 ?k8 ?k9 ?kB ?_ ?cK ?c2 ?c3 ?c4 ?c5; (case kA => exact rfl); (case k2 => k_asm); (case k1 => k_asm); (case XB => assumption); (case TB => assumption); (case D => assumption); (case T0 => first | assumption | exact KtsTurn.refl); (case k3 => k_asm); (case k4 => k_asm); (case k5 => k_asm); (case k6 => k_is); (case k7 => k_is); (case k8 => ktr_room); (case k9 => exact BindsTo.of_eq rfl); (case kB => exact locs rfl); (case cK => first | exact rfl | assumption); (case c2 => exact rfl); (case c3 => exact rfl); (case c4 => exact rfl); (case c5 => decide); k_whole; intro g' L' h' FG' F' N' B' X' T' D'; (try dsimp only); (try k_lift B'); (try k_fold))
  k_with "enterS0" => (refine' enter0X ?k1 ?k2 ?k3 ?k4 ?k5 ?kA ?kF ?cK ?k6 ?k7 ?k8 ?k9 ?kB ?_ ?c2 ?c3 ?c4 ?c5; (case kA => exact rfl); (case kF => exact rfl); (case cK => first | exact rfl | assumption); (case k2 => k_asm); (case k1 => k_asm); (case k3 => k_asm); (case k4 => k_asm); (case k5 => k_asm); (case k6 => k_is); (case k7 => k_is); (case k8 => ktr_room); (case k9 => exact BindsTo.of_eq rfl); (case kB => exact locs rfl); (case c2 => exact rfl); (case c3 => exact rfl); (case c4 => exact rfl); (case c5 => decide); k_whole; intro g' L' h' FG' F' N' B' X' T' D'; (try dsimp only); (try k_lift B'); (try k_fold))
  trivial
inductive T229 where
  | ok (n : Int) | reply | proto | value
def f229 (y : Str) : Int := Txt.find y (Str.ofString "(")
def g229 (y : Str) : Int := Txt.find3 y (Str.ofString ")") (Txt.find y (Str.ofString "(") + 1)
def parts229 (y : Str) : List Str := Txt.split (Txt.slice y (some (Txt.find y (Str.ofString "(") + 1)) (some (Txt.find3 y (Str.ofString ")") (Txt.find y (Str.ofString "(") + 1)))) (Txt.item y (Txt.find y (Str.ofString "(") + 1))
def v229 : Option Int → T229
  | some n => .ok n
  | none => .value
def last229 : List Str → T229
  | [_, _, _, d, _] => v229 (PySem.intText? d)
  | _ => .proto
def p229 (y : Str) : T229 :=
  if (Txt.slice y none (some 3) != Str.ofString "229") = true then .reply
  else if Txt.find y (Str.ofString "(") < 0 then .proto
  else if Txt.find3 y (Str.ofString ")") (Txt.find y (Str.ofString "(") + 1) < 0 then .proto
  else if (Txt.item y (Txt.find y (Str.ofString "(") + 1) != Txt.item y (Txt.find3 y (Str.ofString ")") (Txt.find y (Str.ofString "(") + 1) - 1)) = true then .proto
  else last229 (parts229 y)
def Sp5 (l : List Str) : Prop := (∃ a b c, l = [a, b, c]) ∨ (∃ a b c d, l = [a, b, c, d]) ∨ (∃ a b c d e f, l = [a, b, c, d, e, f]) ∨
  (∃ a b c d e, l = [a, b, c, d, e] ∧ d = Str.ofString "") ∨ (∃ a b c d e n, l = [a, b, c, d, e] ∧ PySem.intText? d = some n ∧ d.length ≤ 640)
structure Y229 (y : Str) : Prop where
  len : y.length ≤ 100
  b : 0 ≤ Txt.find y (Str.ofString "(") → 0 ≤ Txt.find3 y (Str.ofString ")") (Txt.find y (Str.ofString "(") + 1) →
    Txt.find y (Str.ofString "(") + 1 < y.length ∧ 1 ≤ Txt.find3 y (Str.ofString ")") (Txt.find y (Str.ofString "(") + 1) ∧ Txt.find3 y (Str.ofString ")") (Txt.find y (Str.ofString "(") + 1) ≤ y.length
  sp : 0 ≤ Txt.find y (Str.ofString "(") → 0 ≤ Txt.find3 y (Str.ofString ")") (Txt.find y (Str.ofString "(") + 1) → Sp5 (parts229 y)
structure TR where
  name : Str
  host : Str
  port : Int
  err : Str
def trOf (x : Str) : T229 → TR
  | .ok n => ⟨p257 x, Str.ofString "there", n, Str.ofString ""⟩
  | .reply => ⟨Str.ofString "", Str.ofString "", 0, Str.ofString "reply"⟩
  | .proto => ⟨Str.ofString "", Str.ofString "", 0, Str.ofString "proto"⟩
  | .value => ⟨Str.ofString "", Str.ofString "", 0, Str.ofString "value"⟩
def told (x y : Str) : TR :=
  if (Txt.slice x none (some 3) != Str.ofString "257") = true then ⟨Str.ofString "", Str.ofString "", 0, Str.ofString "reply"⟩ else trOf x (p229 y)
def TP (x y : Str) (tl : Led) (r : Value) : Prop := ∃ D1 D2 t1 t2 t3 t4 z, r = .ref D2 ∧ tl = [(D2, tupO [.str z.name t1, .ref D1, .str z.err t2]), (D1, tupO [.str z.host t3, .int z.port t4])] ∧ told x y = z
theorem end2 {h₀ h' : Heap} {L D1 D2 : Addr} {m : Str → Option Value} {news all : Led} {s : Shared} {Q : Value → Shared → Prop} {P : Led → Value → Prop} {o1 o2 : Obj} {tk' : Nat}
    (hret : Ret h₀ L m news s Q P) (F : Fr h₀ L h' m) (N : News h₀ L h' all) (h2 : (D2, o2) ∈ all) (h1 : (D1, o1) ∈ all) (hs : ∀ p ∈ news, p ∈ all) (l2 : ∀ p ∈ news, p.1 < D2) (l1 : ∀ p ∈ news, p.1 < D1) (hP : P [(D2, o2), (D1, o1)] (.ref D2)) :
    Q (.ref D2) { s with heap := h', toks := tk' } := by
  refine hret _ [(D2, o2), (D1, o1)] _ _ F (fun p hp => N p ?_) (fun q hq p hp => ?_) hP
  · rcases List.mem_cons.mp hp with rfl | hp
    · exact h2
    · rcases List.mem_cons.mp hp with rfl | hp
      · exact h1
      · exact hs p hp
  · rcases List.mem_cons.mp hp with rfl | hp
    · exact l2 q hq
    · rw [List.mem_singleton.mp hp]; exact l1 q hq
theorem item_len (x : Str) (i : Int) : ((Txt.item x i).length == 0) = false := rfl
section
variable {prog : Program} {w : World} {A : Around} {E : Value → Shared → Prop} {s : Shared} {h₀ : Heap} {L : Addr} {m : Str → Option Value} {news : Led} {x y : Str} {t u : Tok} {Q : Value → Shared → Prop}
abbrev lst (D : Addr) (vs : List Value) : Addr × Obj := (D, listOf vs.toArray 0)
/-- split into three to six parts -/
theorem split5 (hF : Fr h₀ L s.heap m) (hN : News h₀ L s.heap news) (hy : (y.length == 0) = false) (hsz : x.length + 2 ≤ sizeLine) (h5 : Sp5 (Txt.split x y))
    (q3 : ∀ D a b c ta tb tc h' k, Txt.split x y = [a, b, c] → Fr h₀ L h' m → News h₀ L h' (lst D [.str a ta, .str b tb, .str c tc] :: news) → (∀ p ∈ news, p.1 < D) → Q (.ref D) { s with heap := h', toks := k })
    (q4 : ∀ D a b c d ta tb tc td h' k, Txt.split x y = [a, b, c, d] → Fr h₀ L h' m → News h₀ L h' (lst D [.str a ta, .str b tb, .str c tc, .str d td] :: news) → (∀ p ∈ news, p.1 < D) → Q (.ref D) { s with heap := h', toks := k })
    (q6 : ∀ D a b c d e f ta tb tc td te tf h' k, Txt.split x y = [a, b, c, d, e, f] → Fr h₀ L h' m → News h₀ L h' (lst D [.str a ta, .str b tb, .str c tc, .str d td, .str e te, .str f tf] :: news) → (∀ p ∈ news, p.1 < D) → Q (.ref D) { s with heap := h', toks := k })
    (q5 : ∀ D a b c d e ta tb tc td te h' k, Txt.split x y = [a, b, c, d, e] → (d = Str.ofString "" ∨ ∃ n, PySem.intText? d = some n ∧ d.length ≤ 640) → Fr h₀ L h' m → News h₀ L h' (lst D [.str a ta, .str b tb, .str c tc, .str d td, .str e te] :: news) → (∀ p ∈ news, p.1 < D) → Q (.ref D) { s with heap := h', toks := k }) :
    wpAny (model prog w) A (call (.builtin "str.split") [.str x t, .str y u]) Q E s := by
  refine KSpl.split1 hF hN hy (fun D l h' k e _ F N lt => ?_) hsz
  rcases h5 with ⟨a, b, c, hS⟩ | ⟨a, b, c, d, hS⟩ | ⟨a, b, c, d, f, g, hS⟩ | ⟨a, b, c, d, f, hS, hd⟩ | ⟨a, b, c, d, f, n, hS, hd⟩ <;> rw [hS] at e
  · skip
    obtain ⟨t1, l1, rfl, e1⟩ := KSpl.cons_of e
    obtain ⟨t2, l2, rfl, e2⟩ := KSpl.cons_of e1
    obtain ⟨t3, l3, rfl, e3⟩ := KSpl.cons_of e2
    obtain rfl := KSpl.nil_of e3
    exact q3 _ _ _ _ _ _ _ _ _ hS F N lt
  · skip
    obtain ⟨t1, l1, rfl, e1⟩ := KSpl.cons_of e
    obtain ⟨t2, l2, rfl, e2⟩ := KSpl.cons_of e1
    obtain ⟨t3, l3, rfl, e3⟩ := KSpl.cons_of e2
    obtain ⟨t4, l4, rfl, e4⟩ := KSpl.cons_of e3
    obtain rfl := KSpl.nil_of e4
    exact q4 _ _ _ _ _ _ _ _ _ _ _ hS F N lt
  · skip
    obtain ⟨t1, l1, rfl, e1⟩ := KSpl.cons_of e
    obtain ⟨t2, l2, rfl, e2⟩ := KSpl.cons_of e1
    obtain ⟨t3, l3, rfl, e3⟩ := KSpl.cons_of e2
    obtain ⟨t4, l4, rfl, e4⟩ := KSpl.cons_of e3
    obtain ⟨t5, l5, rfl, e5⟩ := KSpl.cons_of e4
    obtain ⟨t6, l6, rfl, e6⟩ := KSpl.cons_of e5
    obtain rfl := KSpl.nil_of e6
    exact q6 _ _ _ _ _ _ _ _ _ _ _ _ _ _ _ hS F N lt
  · skip
    obtain ⟨t1, l1, rfl, e1⟩ := KSpl.cons_of e
    obtain ⟨t2, l2, rfl, e2⟩ := KSpl.cons_of e1
    obtain ⟨t3, l3, rfl, e3⟩ := KSpl.cons_of e2
    obtain ⟨t4, l4, rfl, e4⟩ := KSpl.cons_of e3
    obtain ⟨t5, l5, rfl, e5⟩ := KSpl.cons_of e4
    obtain rfl := KSpl.nil_of e5
    exact q5 _ _ _ _ _ _ _ _ _ _ _ _ _ hS (.inl hd) F N lt
  · skip
    obtain ⟨t1, l1, rfl, e1⟩ := KSpl.cons_of e
    obtain ⟨t2, l2, rfl, e2⟩ := KSpl.cons_of e1
    obtain ⟨t3, l3, rfl, e3⟩ := KSpl.cons_of e2
    obtain ⟨t4, l4, rfl, e4⟩ := KSpl.cons_of e3
    obtain ⟨t5, l5, rfl, e5⟩ := KSpl.cons_of e4
    obtain rfl := KSpl.nil_of e5
    exact q5 _ _ _ _ _ _ _ _ _ _ _ _ _ hS (.inr ⟨n, hd⟩) F N lt
end
section
variable {x y : Str}
theorem told_0 (h : (Txt.slice x none (some 3) != Str.ofString "257") = true) : told x y = ⟨Str.ofString "", Str.ofString "", 0, Str.ofString "reply"⟩ := by unfold told; rw [if_pos h]
theorem told_t {t : T229} {r : TR} (hok : (Txt.slice x none (some 3) != Str.ofString "257") = false) (h : p229 y = t) (hr : trOf x t = r) : told x y = r := by unfold told; rw [if_neg (by rw [hok]; decide), h]; exact hr
theorem last_5 {a b c d e : Str} {r : Option Int} (h : PySem.intText? d = r) : last229 [a, b, c, d, e] = v229 r := by subst h; rfl
theorem told_1 (hok : (Txt.slice x none (some 3) != Str.ofString "257") = false) (h : (Txt.slice y none (some 3) != Str.ofString "229") = true) : told x y = ⟨Str.ofString "", Str.ofString "", 0, Str.ofString "reply"⟩ :=
  told_t (t := .reply) hok (by unfold p229; rw [if_pos h]) rfl
variable (hok : (Txt.slice x none (some 3) != Str.ofString "257") = false) (h0 : (Txt.slice y none (some 3) != Str.ofString "229") = false)
include hok h0
theorem told_2 (h : Txt.find y (Str.ofString "(") < 0) : told x y = ⟨Str.ofString "", Str.ofString "", 0, Str.ofString "proto"⟩ :=
  told_t (t := .proto) hok (by unfold p229; rw [if_neg (by rw [h0]; decide), if_pos h]) rfl
variable (h1 : ¬ Txt.find y (Str.ofString "(") < 0)
include h1
theorem told_3 (h : Txt.find3 y (Str.ofString ")") (Txt.find y (Str.ofString "(") + 1) < 0) : told x y = ⟨Str.ofString "", Str.ofString "", 0, Str.ofString "proto"⟩ :=
  told_t (t := .proto) hok (by unfold p229; rw [if_neg (by rw [h0]; decide), if_neg h1, if_pos h]) rfl
variable (h2 : ¬ Txt.find3 y (Str.ofString ")") (Txt.find y (Str.ofString "(") + 1) < 0)
include h2
theorem told_4 (h : (Txt.item y (Txt.find y (Str.ofString "(") + 1) != Txt.item y (Txt.find3 y (Str.ofString ")") (Txt.find y (Str.ofString "(") + 1) - 1)) = true) : told x y = ⟨Str.ofString "", Str.ofString "", 0, Str.ofString "proto"⟩ :=
  told_t (t := .proto) hok (by unfold p229; rw [if_neg (by rw [h0]; decide), if_neg h1, if_neg h2, if_pos h]) rfl
variable (h3 : (Txt.item y (Txt.find y (Str.ofString "(") + 1) != Txt.item y (Txt.find3 y (Str.ofString ")") (Txt.find y (Str.ofString "(") + 1) - 1)) = false)
include h3
theorem p229_last {l : List Str} (h : Txt.split (Txt.slice y (some (Txt.find y (Str.ofString "(") + 1)) (some (Txt.find3 y (Str.ofString ")") (Txt.find y (Str.ofString "(") + 1)))) (Txt.item y (Txt.find y (Str.ofString "(") + 1)) = l) : p229 y = last229 l := by
  unfold p229; rw [if_neg (by rw [h0]; decide), if_neg h1, if_neg h2, if_neg (by rw [h3]; decide)]; unfold parts229; rw [h]
theorem told_5a {a b c : Str} (h : Txt.split (Txt.slice y (some (Txt.find y (Str.ofString "(") + 1)) (some (Txt.find3 y (Str.ofString ")") (Txt.find y (Str.ofString "(") + 1)))) (Txt.item y (Txt.find y (Str.ofString "(") + 1)) = [a, b, c]) : told x y = ⟨Str.ofString "", Str.ofString "", 0, Str.ofString "proto"⟩ :=
  told_t (t := .proto) hok (p229_last hok h0 h1 h2 h3 h) rfl
theorem told_5b {a b c d : Str} (h : Txt.split (Txt.slice y (some (Txt.find y (Str.ofString "(") + 1)) (some (Txt.find3 y (Str.ofString ")") (Txt.find y (Str.ofString "(") + 1)))) (Txt.item y (Txt.find y (Str.ofString "(") + 1)) = [a, b, c, d]) : told x y = ⟨Str.ofString "", Str.ofString "", 0, Str.ofString "proto"⟩ :=
  told_t (t := .proto) hok (p229_last hok h0 h1 h2 h3 h) rfl
theorem told_5c {a b c d e f : Str} (h : Txt.split (Txt.slice y (some (Txt.find y (Str.ofString "(") + 1)) (some (Txt.find3 y (Str.ofString ")") (Txt.find y (Str.ofString "(") + 1)))) (Txt.item y (Txt.find y (Str.ofString "(") + 1)) = [a, b, c, d, e, f]) : told x y = ⟨Str.ofString "", Str.ofString "", 0, Str.ofString "proto"⟩ :=
  told_t (t := .proto) hok (p229_last hok h0 h1 h2 h3 h) rfl
theorem told_6 {a b c d e : Str} (h : Txt.split (Txt.slice y (some (Txt.find y (Str.ofString "(") + 1)) (some (Txt.find3 y (Str.ofString ")") (Txt.find y (Str.ofString "(") + 1)))) (Txt.item y (Txt.find y (Str.ofString "(") + 1)) = [a, b, c, d, e]) (hd : d = Str.ofString "") : told x y = ⟨Str.ofString "", Str.ofString "", 0, Str.ofString "value"⟩ :=
  told_t (t := .value) hok ((p229_last hok h0 h1 h2 h3 h).trans (last_5 (r := none) (by rw [hd]; decide +kernel))) rfl
theorem told_7 {a b c d e : Str} {n : Int} (h : Txt.split (Txt.slice y (some (Txt.find y (Str.ofString "(") + 1)) (some (Txt.find3 y (Str.ofString ")") (Txt.find y (Str.ofString "(") + 1)))) (Txt.item y (Txt.find y (Str.ofString "(") + 1)) = [a, b, c, d, e]) (hn : PySem.intText? d = some n) : told x y = ⟨p257 x, Str.ofString "there", n, Str.ofString ""⟩ :=
  told_t (t := .ok n) hok ((p229_last hok h0 h1 h2 h3 h).trans (last_5 (r := some n) hn)) rfl
end

theorem told_rows1 : True := by
  k_with_none
  w_top off
  k_with "led_sub" => first | exact fun p hp => hp | (intro p hp; repeat' (first | exact hp | refine List.Mem.tail _ ?_))
  k_with "led_lt" => first | assumption | exact ktn_ltOf (by assumption) | exact lt1 (by assumption) | exact lt2 (by assumption) | exact lt3 (by assumption) | exact lt4 (by assumption)
  k_with "ct_fill" => (refine fillIt ?_; k_fill; intro _; unfold Ct)
  k_with "ct_enter" => (refine wpAny_call ?_; k_dflt cell_enter)
  k_with "ct_use" => ((case k1 => k_asm); (case k2 => k_asm); (case k3 => k_asm); (case k4 => k_asm); (case k5 => k_asm); (case kK => first | exact rfl | assumption); (case kd => ktr_room); (case ku => ktr_units))
  k_with "subscriptTail" => (k_here; (with_reducible show wpAny _ _ (subscriptTail _ _ (Value.ref _) (Value.int _ _)) _ _ _); (k_dflt (refine' tup_item ?k1 ?k2 ?k3 ?k4 ?k5 ?k6 ?_; (case k1 => k_asm); (case k2 => first | assumption | k_mem); (case k3 => decide); (case k4 => decide); (case k5 => exact rfl); (case k6 => with_unfolding_all rfl); k_whole)))
  k_with "call builtin:max" => ((with_reducible show wpAny _ _ (call _ [Value.float _ _, Value.float _ _, Value.float _ _]) _ _ _); (rename News _ _ _ _ => N'); (rename Fr _ _ _ _ => F'); refine max3_K rfl F' N' ?_; clear N'; intro _ _ _ _ _)
  k_with "call builtin:min" => ((with_reducible show wpAny _ _ (call _ [Value.float _ _, Value.float _ _, Value.float _ _]) _ _ _); (rename News _ _ _ _ => N'); (rename Fr _ _ _ _ => F'); refine min3_K rfl F' N' ?_; clear N'; intro _ _ _ _ _)
  k_with "subscriptTail" => (k_here; (with_reducible show wpAny _ _ (subscriptTail _ _ (Value.ref _) (Value.int _ _)) _ _ _); (k_dflt (refine' lst_item3 ?k1 ?k2 ?k3 ?k4 ?k6 ?_ ?_ ?_; (case k1 => k_asm); (case k2 => k_mem); (case k3 => omega); (case k4 => omega); (case k6 => with_unfolding_all rfl); all_goals (k_whole; intro hidx))))
  k_with "str_fit" => first | decide +kernel | (simp only [Str.length_append]; omega)
  k_with "binaryOp Add str str" => (k_here; (with_reducible show wpAny _ _ (binaryOp Operator.Add (Value.str _ _) (Value.str _ _)) _ _ _); (refine' add_m ?ksz ?_; (case ksz => walk_at "str_fit")); intro tx' kx' hx'; (try dsimp only at hx'))
  k_with "call builtin:str.replace" => (k_here; (refine' repl_m ?k1 ?k2 ?k3 ?k4 ?k5 ?k6 ?_; (case k1 => (show (0 : Nat) < _); omega); (case k2 => (show (0 : Nat) < _); omega); (case k3 => (show @Ne Nat _ _); omega); (case k4 => decide +kernel); (case k5 => walk_at "str_fit"); (case k6 => walk_at "str_fit")); intro tx' kx' hx'; (try dsimp only at hx'))
  k_with "subscriptTail" => (k_here; (with_reducible show wpAny _ _ (subscriptTail _ _ (Value.str _ _) (Value.int _ _)) _ _ _); (k_dflt (refine' str_item ?k1 ?k2 ?k3 ?k4 ?k5 ?_; (case k1 => omega); (case k2 => first | omega | exact Int.lt_of_lt_of_le (b := 4) (by omega) (by decide +kernel)); (case k3 => first | omega | decide +kernel); (case k4 => with_unfolding_all rfl); (case k5 => (intro _; with_unfolding_all rfl)))); intro hone')
  k_with "subscriptTail Name Slice str ref" => ((with_reducible rename Fr _ _ _ _ => F'); (with_reducible rename News _ _ _ _ => N'); (first
  | ((with_reducible show wpAny _ _ (subscriptTail _ (Expr.Slice (some _) none none _) _ _) _ _ _); (refine' slice_strN_sn_len (s := ⟨_, _, _, _, _⟩) F' N' ?_ (hsz := ?hsz)); (case hsz => walk_at "str_fit"))
  | ((with_reducible show wpAny _ _ (subscriptTail _ (Expr.Slice none (some _) none _) _ _) _ _ _); (refine' slice_strN_ns_len (s := ⟨_, _, _, _, _⟩) F' N' ?_ (hsz := ?hsz)); (case hsz => walk_at "str_fit"))
  | ((with_reducible show wpAny _ _ (subscriptTail _ (Expr.Slice (some _) (some _) none _) _ _) _ _ _); (refine' slice_strN_ss_len (s := ⟨_, _, _, _, _⟩) F' N' ?_ (hsz := ?hsz)); (case hsz => walk_at "str_fit"))); intro _ _ _ _ _ _)
  k_with "call ref" => (k_here; (with_reducible show wpAny _ _ (call (Value.ref 28) _) _ _ _); (k_dflt (refine' Ct.use (rgb_spec _ _ _ _ _ _ _ _ ?p1 ?p2) ?k1 ?k2 ?k3 ?k4 ?k5 ?kK ?kd ?ku ?_; (case p1 => exact RgbOk.h1 (by assumption)); (case p2 => exact RgbOk.h2 (by assumption)); walk_at "ct_use")); intro r' tl' h' tk' F' N' l1 hP'; obtain ⟨D', c', t4', t5', t6', e1', e2', e3'⟩ := hP'; subst e1' e2' e3'; replace l1 := lt_tl1 l1; (try k_lt l1); (simp only [List.cons_append, List.nil_append] at N'); (try k_sweep); (try dsimp only); (try k_fold))
  k_with "call ref" => (k_here; (with_reducible show wpAny _ _ (call (Value.ref 86) _) _ _ _); (k_dflt (refine' Ct.use (p257_spec _ _ _ _ ?p1 ?p2) ?k1 ?k2 ?k3 ?k4 ?k5 ?kK ?kd ?ku ?_; (case p1 => assumption); (case p2 => assumption); walk_at "ct_use")); intro r' tl' h' tk' F' N' l1 hP'; obtain ⟨z', t4', e1', e2', e3'⟩ := hP'; subst e1' e2' e3'; (simp only [List.nil_append] at N'); (try k_sweep); (try dsimp only); (try k_fold))
  k_with "enterS" => (refine' code_defS ?k1 ?k2 ?k3 ?k4 ?k5 ?XB ?TB ?D ?T0 ?kA ?k6 ?k7 ?k8 ?k9 ?kB ?_ ?cK ?c2 ?c3 ?c4 ?c5; (case kA => exact rfl); (case k2 => k_asm); (case k1 => k_asm); (case XB => assumption); (case TB => assumption); (case D => assumption); (case T0 => first | assumption | exact KtsTurn.refl); (case k3 => k_asm); (case k4 => k_asm); (case k5 => k_asm); (case k6 => k_is); (case k7 => k_is); (case k8 => ktr_room); (case k9 => exact BindsTo.of_eq rfl); (case kB => exact locs rfl); (case cK => first | exact rfl | assumption); (case c2 => exact rfl); (case c3 => exact rfl); (case c4 => exact rfl); (case c5 => decide); k_whole; intro g' L' h' FG' F' N' B' X' T' D'; (try dsimp only); (try k_lift B'); (try k_fold))
  k_with "enterS0" => (refine' enter0X ?k1 ?k2 ?k3 ?k4 ?k5 ?kA ?kF ?cK ?k6 ?k7 ?k8 ?k9 ?kB ?_ ?c2 ?c3 ?c4 ?c5; (case kA => exact rfl); (case kF => exact rfl); (case cK => first | exact rfl | assumption); (case k2 => k_asm); (case k1 => k_asm); (case k3 => k_asm); (case k4 => k_asm); (case k5 => k_asm); (case k6 => k_is); (case k7 => k_is); (case k8 => ktr_room); (case k9 => exact BindsTo.of_eq rfl); (case kB => exact locs rfl); (case c2 => exact rfl); (case c3 => exact rfl); (case c4 => exact rfl); (case c5 => decide); k_whole; intro g' L' h' FG' F' N' B' X' T' D'; (try dsimp only); (try k_lift B'); (try k_fold))
  trivial
/-- a call from the law's own frame, under the caller -/
def Ct0 (w : World) (f : Addr) (vs : List Value) (news : Led) (d u : Nat) (P : Led → Value → Prop) : Prop :=
  ∀ (mean : ExcName → Option Value) (mg mb : Str → Option Value) (dp un : Nat) (gd : Option (List Code)) (cn : Str) (cs : Scope) (a : Addr) (ccd : Value) (cl : List (Str × Addr)) (A₀ : Around) (h₀ : Heap) (L : Addr) (m : Str → Option Value) (s : Shared) (Q E : Value → Shared → Prop),
    Below A₀ h₀ [] h₀ → Fr h₀ L s.heap m → (hd.heap_1 w.params).In h₀ → News h₀ L s.heap news → Top hd.view_1 (looseW hd.view_1 []) mean mg mb h₀ → cs.kind = .function →
    dp + d < recursionLimit → un + u < cLine → Ret h₀ L m news s Q P →
      wpC (model PySem.Challenge.pw_rs0085_01 w) (ktrTop dp un gd cn cs L a ccd cl []) (call (.ref f) vs) Q E s
def Ct0B (w : World) (f : Addr) (vs : List Value) (news : Led) (d u : Nat) (P : Led → Value → Prop) (mean : ExcName → Option Value) (mg mb : Str → Option Value) (dp un : Nat) (gd : Option (List Code)) (cn : Str) (cs : Scope) (a : Addr) (ccd : Value) (cl : List (Str × Addr)) (A₀ : Around) (h₀ : Heap) (L : Addr) (m : Str → Option Value) (s : Shared) (Q E : Value → Shared → Prop) : Prop :=
    Below A₀ h₀ [] h₀ → Fr h₀ L s.heap m → (hd.heap_1 w.params).In h₀ → News h₀ L s.heap news → Top hd.view_1 (looseW hd.view_1 []) mean mg mb h₀ → cs.kind = .function →
    dp + d < recursionLimit → un + u < cLine → Ret h₀ L m news s Q P →
      wpC (model PySem.Challenge.pw_rs0085_01 w) (ktrTop dp un gd cn cs L a ccd cl []) (call (.ref f) vs) Q E s
theorem Ct0.of {w : World} {f : Addr} {vs : List Value} {news : Led} {d u : Nat} {P : Led → Value → Prop} (h : ∀ mean mg mb dp un gd cn cs a ccd cl A₀ h₀ L m s Q E, Ct0B w f vs news d u P mean mg mb dp un gd cn cs a ccd cl A₀ h₀ L m s Q E) : Ct0 w f vs news d u P := h
theorem told_rows2 : True := by
  k_with "len_le" => first | assumption | exact Nat.le_refl _
  k_with "binaryOp Add str str" => (k_here; (with_reducible show wpAny _ _ (binaryOp Operator.Add (Value.str _ _) (Value.str _ _)) _ _ _); (refine' add_g ?ka ?kb ?kc ?_; (case ka => walk_at "len_le"); (case kb => walk_at "len_le"); (case kc => decide +kernel)); intro z' ez' lz' tx' kx' hx'; (try dsimp only at hx'))
  k_with "binaryOp Mult str int" => (k_here; (refine' mul_g ?ka ?kb ?kc ?kd ?_; (case ka => walk_at "len_le"); (case kb => decide +kernel); (case kc => decide); (case kd => decide)); intro z' ez' lz' tx' kx' hx'; (try dsimp only at hx'))
  k_with "call type:str" => (k_here; (refine' strint_g ?ka ?kb ?_; (case ka => omega); (case kb => omega)); intro z' ez' lz')
  k_with "subscriptTail Name Slice str ref" => ((with_reducible rename Fr _ _ _ _ => F'); (with_reducible rename News _ _ _ _ => N'); (with_reducible show wpAny _ _ (subscriptTail _ (Expr.Slice (some _) none none _) _ _) _ _ _); (refine' cut_g (s := ⟨_, _, _, _, _⟩) ?ka ?kb F' N' ?kc ?kd ?_; (case ka => walk_at "len_le"); (case kb => decide +kernel); (case kc => with_unfolding_all rfl); (case kd => (intro _; with_unfolding_all rfl))); intro z' ez' lz' h' tx' kx' F2' N2' hx'; (try dsimp only at hx'))
  k_with "subscriptTail" => (k_here; (with_reducible show wpAny _ _ (subscriptTail _ _ (Value.str _ _) (Value.int _ _)) _ _ _); (k_dflt (refine' item_g ?k1 ?k2 ?k3 ?k4 ?k5 ?_; (case k1 => omega); (case k2 => first | omega | exact Int.lt_of_lt_of_le (b := 4) (by omega) (by decide +kernel)); (case k3 => first | omega | decide +kernel); (case k4 => with_unfolding_all rfl); (case k5 => (intro _; with_unfolding_all rfl)))); intro z' ez' lz')
  trivial
theorem told_rows3 : True := by
  k_with "subscriptTail Name Constant ref int" => (k_here; (with_reducible show wpAny _ _ (subscriptTail _ _ (Value.ref _) (Value.int _ _)) _ _ _); (k_dflt (first | (refine' tup_item ?k1 ?k2 ?k3 ?k4 ?k5 ?k6 ?_; (case k1 => k_asm); (case k2 => first | assumption | k_mem); (case k3 => decide); (case k4 => decide); (case k5 => exact rfl); (case k6 => with_unfolding_all rfl); k_whole) | (refine' lst_at ?k1 ?k2 ?k3 ?k4 ?k7 ?k5 ?k6 ?_; (case k1 => k_asm); (case k2 => k_mem); (case k3 => decide); (case k4 => decide); (case k7 => with_unfolding_all exact Int.ofNat_lt.2 (Nat.le_of_ble_eq_true rfl)); (case k5 => exact rfl); (case k6 => with_unfolding_all rfl); k_whole))))
  trivial
theorem told_rows4 : True := by
  k_with "enterT" => (refine' enter0C ?k1 ?k2 ?k3 ?k4 ?k5 ?kA ?kF ?cK ?k6 ?k7 ?k8 ?k9 ?kB ?_ ?c2 ?c3 ?c4 ?c5; (case kA => exact rfl); (case kF => exact rfl); (case cK => first | exact rfl | assumption); (case k2 => k_asm); (case k1 => k_asm); (case k3 => k_asm); (case k4 => k_asm); (case k5 => k_asm); (case k6 => k_is); (case k7 => k_is); (case k8 => ktr_room); (case k9 => exact BindsTo.of_eq rfl); (case kB => exact locs rfl); (case c2 => exact rfl); (case c3 => exact rfl); (case c4 => exact rfl); (case c5 => decide); k_whole; intro g' L' h' FG' F' N' B' X' T' D'; (try dsimp only); (try k_lift B'); (try k_fold))
  trivial
theorem told_rows5 : True := by
  k_with "enterP" => (refine' enter1C ?k1 ?k2 ?k3 ?k4 ?k5 ?kD ?kA ?kF ?cK ?k6 ?k7 ?k8 ?k9 ?kB ?_ ?c2 ?c3 ?c4 ?c5; (case kA => exact rfl); (case kF => exact rfl); (case cK => first | exact rfl | assumption); (case k2 => k_asm); (case k1 => k_asm); (case k3 => k_asm); (case k4 => k_asm); (case k5 => k_asm); (case kD => assumption); (case k6 => k_is); (case k7 => k_is); (case k8 => ktr_room); (case k9 => exact BindsTo.of_eq rfl); (case kB => exact locs rfl); (case c2 => exact rfl); (case c3 => exact rfl); (case c4 => exact rfl); (case c5 => decide); k_whole; intro g' L' h' FG' F' N' B' X' T' D'; (try dsimp only); (try k_lift B'); (try k_fold))
  trivial
theorem told_rows6 : True := by
  k_with "call builtin:str.split" => (k_here; (with_reducible show wpAny _ _ (call (Value.builtin "str.split") [Value.str _ _, Value.str _ _]) _ _ _); (k_dflt (refine' split5 ?k1 ?k2 ?k3 ?k4 ?k5 ?_ ?_ ?_ ?_; (case k1 => k_asm); (case k2 => k_asm); (case k3 => exact item_len _ _); (case k4 => walk_at "split_fit"); (case k5 => exact hysp (by omega) (by omega)))); intros; (try k_sweep); (try dsimp only); (try k_fold))
  trivial
theorem told_rows7 : True := by
  k_with "split_fit" => (refine Nat.le_trans (Nat.add_le_add_right (Nat.le_trans (Txt.slice_le _ _ _) ‹_ ≤ 100›) 2) (by decide +kernel))
  trivial
def told_spec_says (w : World) (news : Led) (t1 : Tok) (t2 : Tok) (mean : ExcName → Option Value) (mg : Str → Option Value) (mb : Str → Option Value) (dp : Nat) (un : Nat) (gd : Option (List Code)) (cn : Str) (cs : Scope) (a : Addr) (ccd : Value) (cl : List (Str × Addr)) (A₀ : Around) (h₀ : Heap) (L : Addr) (m : Str → Option Value) (s : Shared) (Q : Value → Shared → Prop) (E : Value → Shared → Prop) : Prop := ∀ (x : Str), ∀ (y : Str), (x.length ≤ 1000) → (Y229 y) → Ct0B w 112 [.str x t1, .str y t2] news 6 80 (TP x y) mean mg mb dp un gd cn cs a ccd cl A₀ h₀ L m s Q E
noncomputable def told_spec_bad : World × Led × Tok × Tok × (ExcName → Option Value) × (Str → Option Value) × (Str → Option Value) × Nat × Nat × (Option (List Code)) × Str × Scope × Addr × Value × (List (Str × Addr)) × Around × Heap × Addr × (Str → Option Value) × Shared × (Value → Shared → Prop) × (Value → Shared → Prop) := Classical.choose (ex_eps (dW, default, default, default, default, default, default, default, default, default, default, default, default, default, default, dA, default, default, default, dS, default, default) (fun v : World × Led × Tok × Tok × (ExcName → Option Value) × (Str → Option Value) × (Str → Option Value) × Nat × Nat × (Option (List Code)) × Str × Scope × Addr × Value × (List (Str × Addr)) × Around × Heap × Addr × (Str → Option Value) × Shared × (Value → Shared → Prop) × (Value → Shared → Prop) => told_spec_says v.1 v.2.1 v.2.2.1 v.2.2.2.1 v.2.2.2.2.1 v.2.2.2.2.2.1 v.2.2.2.2.2.2.1 v.2.2.2.2.2.2.2.1 v.2.2.2.2.2.2.2.2.1 v.2.2.2.2.2.2.2.2.2.1 v.2.2.2.2.2.2.2.2.2.2.1 v.2.2.2.2.2.2.2.2.2.2.2.1 v.2.2.2.2.2.2.2.2.2.2.2.2.1 v.2.2.2.2.2.2.2.2.2.2.2.2.2.1 v.2.2.2.2.2.2.2.2.2.2.2.2.2.2.1 v.2.2.2.2.2.2.2.2.2.2.2.2.2.2.2.1 v.2.2.2.2.2.2.2.2.2.2.2.2.2.2.2.2.1 v.2.2.2.2.2.2.2.2.2.2.2.2.2.2.2.2.2.1 v.2.2.2.2.2.2.2.2.2.2.2.2.2.2.2.2.2.2.1 v.2.2.2.2.2.2.2.2.2.2.2.2.2.2.2.2.2.2.2.1 v.2.2.2.2.2.2.2.2.2.2.2.2.2.2.2.2.2.2.2.2.1 v.2.2.2.2.2.2.2.2.2.2.2.2.2.2.2.2.2.2.2.2.2))
noncomputable def told_spec_w : World := told_spec_bad.1
noncomputable def told_spec_news : Led := told_spec_bad.2.1
noncomputable def told_spec_t1 : Tok := told_spec_bad.2.2.1
noncomputable def told_spec_t2 : Tok := told_spec_bad.2.2.2.1
noncomputable def told_spec_mean : ExcName → Option Value := told_spec_bad.2.2.2.2.1
noncomputable def told_spec_mg : Str → Option Value := told_spec_bad.2.2.2.2.2.1
noncomputable def told_spec_mb : Str → Option Value := told_spec_bad.2.2.2.2.2.2.1
noncomputable def told_spec_dp : Nat := told_spec_bad.2.2.2.2.2.2.2.1
noncomputable def told_spec_un : Nat := told_spec_bad.2.2.2.2.2.2.2.2.1
noncomputable def told_spec_gd : Option (List Code) := told_spec_bad.2.2.2.2.2.2.2.2.2.1
noncomputable def told_spec_cn : Str := told_spec_bad.2.2.2.2.2.2.2.2.2.2.1
noncomputable def told_spec_cs : Scope := told_spec_bad.2.2.2.2.2.2.2.2.2.2.2.1
noncomputable def told_spec_a : Addr := told_spec_bad.2.2.2.2.2.2.2.2.2.2.2.2.1
noncomputable def told_spec_ccd : Value := told_spec_bad.2.2.2.2.2.2.2.2.2.2.2.2.2.1
noncomputable def told_spec_cl : List (Str × Addr) := told_spec_bad.2.2.2.2.2.2.2.2.2.2.2.2.2.2.1
noncomputable def told_spec_A₀ : Around := told_spec_bad.2.2.2.2.2.2.2.2.2.2.2.2.2.2.2.1
noncomputable def told_spec_h₀ : Heap := told_spec_bad.2.2.2.2.2.2.2.2.2.2.2.2.2.2.2.2.1
noncomputable def told_spec_L : Addr := told_spec_bad.2.2.2.2.2.2.2.2.2.2.2.2.2.2.2.2.2.1
noncomputable def told_spec_m : Str → Option Value := told_spec_bad.2.2.2.2.2.2.2.2.2.2.2.2.2.2.2.2.2.2.1
noncomputable def told_spec_s : Shared := told_spec_bad.2.2.2.2.2.2.2.2.2.2.2.2.2.2.2.2.2.2.2.1
noncomputable def told_spec_Q : Value → Shared → Prop := told_spec_bad.2.2.2.2.2.2.2.2.2.2.2.2.2.2.2.2.2.2.2.2.1
noncomputable def told_spec_E : Value → Shared → Prop := told_spec_bad.2.2.2.2.2.2.2.2.2.2.2.2.2.2.2.2.2.2.2.2.2
set_option maxHeartbeats 1500000 in
theorem told_spec_core : told_spec_says told_spec_w told_spec_news told_spec_t1 told_spec_t2 told_spec_mean told_spec_mg told_spec_mb told_spec_dp told_spec_un told_spec_gd told_spec_cn told_spec_cs told_spec_a told_spec_ccd told_spec_cl told_spec_A₀ told_spec_h₀ told_spec_L told_spec_m told_spec_s told_spec_Q told_spec_E := by
  unfold told_spec_says
  intro x y hx hy
  have hyl := hy.len
  have hyb := hy.b
  have hysp := hy.sp
  refine fillIt ?_
  k_fill
  intro _
  unfold Ct0B
  intro B F X N T hk hdp hun hret
  refine wpC.runValue ?_
  k_dflt (walk_at "enterT")
  refine wpC.execs_c ?_
  refine wpC.try rfl ?_
  refine wpC.execs_c ?_
  refine wpC.ret ?_
  refine wpC.tuple ?_
  refine wpC.splicedA (x := eval _ _) ?_
  by_cases hok : (Txt.slice x none (some 3) != Str.ofString "257") = false
  · k_steps
    refine wpC.splicedC (x := eval _ _) ?_
    refine wpC.call_name ?_
    k_steps
    refine callWithC rfl rfl (Nat.le_of_ble_eq_true rfl) ?_
    k_steps
    · exact isFn_of (by k_asm) (by k_asm) (by k_is)
    refine wpC.runValue ?_
    k_dflt (walk_at "enterP")
    refine wpC.execs_take 9 ?_
    dsimp only [List.take, List.drop]
    k_steps
    all_goals first
      | (refine end2 hret (by k_asm) (by k_asm) (by k_mem) (by k_mem) (by walk_at "led_sub") (by walk_at "led_lt") (by walk_at "led_lt") ⟨_, _, _, _, _, _, ⟨_, _, _, _⟩, rfl, rfl, ?_⟩
         first
          | exact told_1 hok (by with_reducible assumption)
          | exact told_2 hok (by with_reducible assumption) (by with_reducible assumption)
          | exact told_3 hok (by with_reducible assumption) (by with_reducible assumption) (by with_reducible assumption)
          | exact told_4 hok (by with_reducible assumption) (by with_reducible assumption) (by with_reducible assumption) (by with_reducible assumption)
          | exact told_5a hok (by with_reducible assumption) (by with_reducible assumption) (by with_reducible assumption) (by with_reducible assumption) (by with_reducible assumption)
          | exact told_5b hok (by with_reducible assumption) (by with_reducible assumption) (by with_reducible assumption) (by with_reducible assumption) (by with_reducible assumption)
          | exact told_5c hok (by with_reducible assumption) (by with_reducible assumption) (by with_reducible assumption) (by with_reducible assumption) (by with_reducible assumption))
      | skip
    · dsimp only [List.drop]
      refine wpC.execs_c ?_
      refine wpC.assign ?_ rfl rfl rfl
      refine wpC.call_name ?_
      k_steps
      refine callWithT rfl rfl ?_
      k_steps
      rename (_ = Str.ofString "") ∨ (∃ _, _) => hd
      rcases hd with hd | ⟨n, hn, hl⟩
      · refine int_none hd rfl ?_
        intro h' tk e hX
        k_steps
        refine end2 hret (by k_asm) (by k_asm) (by k_mem) (by k_mem) (by walk_at "led_sub") (by walk_at "led_lt") (by walk_at "led_lt") ⟨_, _, _, _, _, _, ⟨_, _, _, _⟩, rfl, rfl, ?_⟩
        exact told_6 hok (by with_reducible assumption) (by with_reducible assumption) (by with_reducible assumption) (by with_reducible assumption) (by with_reducible assumption) hd
      · refine wpC.of (KIN.call_text hn hl ?_)
        k_steps
        dsimp only
        refine wpC.of ?_
        k_steps
        · nofun
        refine end2 hret (by k_asm) (by k_asm) (by k_mem) (by k_mem) (by walk_at "led_sub") (by walk_at "led_lt") (by walk_at "led_lt") ⟨_, _, _, _, _, _, ⟨_, _, _, _⟩, rfl, rfl, ?_⟩
        exact told_7 hok (by with_reducible assumption) (by with_reducible assumption) (by with_reducible assumption) (by with_reducible assumption) (by with_reducible assumption) hn
  · replace hok : (Txt.slice x none (some 3) != Str.ofString "257") = true := by simpa using hok
    k_steps
    refine wpAny_call ?_
    k_dflt (walk_at "enterS")
    k_steps
    refine end2 hret (by k_asm) (by k_asm) (by k_mem) (by k_mem) (by walk_at "led_sub") (by walk_at "led_lt") (by walk_at "led_lt") ⟨_, _, _, _, _, _, ⟨_, _, _, _⟩, rfl, rfl, ?_⟩
    exact told_0 hok
theorem told_spec (w : World) (news) (x y : Str) (t1 t2 : Tok) (hx : x.length ≤ 1000) (hy : Y229 y)
   : Ct0 w 112 [.str x t1, .str y t2] news 6 80 (TP x y) :=
  Ct0.of fun mean mg mb dp un gd cn cs a ccd cl A₀ h₀ L m s Q E => (Classical.choose_spec (ex_eps (dW, default, default, default, default, default, default, default, default, default, default, default, default, default, default, dA, default, default, default, dS, default, default) (fun v : World × Led × Tok × Tok × (ExcName → Option Value) × (Str → Option Value) × (Str → Option Value) × Nat × Nat × (Option (List Code)) × Str × Scope × Addr × Value × (List (Str × Addr)) × Around × Heap × Addr × (Str → Option Value) × Shared × (Value → Shared → Prop) × (Value → Shared → Prop) => told_spec_says v.1 v.2.1 v.2.2.1 v.2.2.2.1 v.2.2.2.2.1 v.2.2.2.2.2.1 v.2.2.2.2.2.2.1 v.2.2.2.2.2.2.2.1 v.2.2.2.2.2.2.2.2.1 v.2.2.2.2.2.2.2.2.2.1 v.2.2.2.2.2.2.2.2.2.2.1 v.2.2.2.2.2.2.2.2.2.2.2.1 v.2.2.2.2.2.2.2.2.2.2.2.2.1 v.2.2.2.2.2.2.2.2.2.2.2.2.2.1 v.2.2.2.2.2.2.2.2.2.2.2.2.2.2.1 v.2.2.2.2.2.2.2.2.2.2.2.2.2.2.2.1 v.2.2.2.2.2.2.2.2.2.2.2.2.2.2.2.2.1 v.2.2.2.2.2.2.2.2.2.2.2.2.2.2.2.2.2.1 v.2.2.2.2.2.2.2.2.2.2.2.2.2.2.2.2.2.2.1 v.2.2.2.2.2.2.2.2.2.2.2.2.2.2.2.2.2.2.2.1 v.2.2.2.2.2.2.2.2.2.2.2.2.2.2.2.2.2.2.2.2.1 v.2.2.2.2.2.2.2.2.2.2.2.2.2.2.2.2.2.2.2.2.2)) told_spec_core (w, news, t1, t2, mean, mg, mb, dp, un, gd, cn, cs, a, ccd, cl, A₀, h₀, L, m, s, Q, E) : told_spec_says w news t1 t2 mean mg mb dp un gd cn cs a ccd cl A₀ h₀ L m s Q E) x y hx hy

theorem em_rows1 : True := by
  k_with_none
  w_top off
  k_with "led_sub" => first | exact fun p hp => hp | (intro p hp; repeat' (first | exact hp | refine List.Mem.tail _ ?_))
  k_with "led_lt" => first | assumption | exact ktn_ltOf (by assumption) | exact lt1 (by assumption) | exact lt2 (by assumption) | exact lt3 (by assumption) | exact lt4 (by assumption)
  k_with "ct_fill" => (refine fillIt ?_; k_fill; intro _; unfold Ct)
  k_with "ct_enter" => (refine wpAny_call ?_; k_dflt cell_enter)
  k_with "ct_use" => ((case k1 => k_asm); (case k2 => k_asm); (case k3 => k_asm); (case k4 => k_asm); (case k5 => k_asm); (case kK => first | exact rfl | assumption); (case kd => ktr_room); (case ku => ktr_units))
  k_with "subscriptTail" => (k_here; (with_reducible show wpAny _ _ (subscriptTail _ _ (Value.ref _) (Value.int _ _)) _ _ _); (k_dflt (refine' tup_item ?k1 ?k2 ?k3 ?k4 ?k5 ?k6 ?_; (case k1 => k_asm); (case k2 => first | assumption | k_mem); (case k3 => decide); (case k4 => decide); (case k5 => exact rfl); (case k6 => with_unfolding_all rfl); k_whole)))
  k_with "call builtin:max" => ((with_reducible show wpAny _ _ (call _ [Value.float _ _, Value.float _ _, Value.float _ _]) _ _ _); (rename News _ _ _ _ => N'); (rename Fr _ _ _ _ => F'); refine max3_K rfl F' N' ?_; clear N'; intro _ _ _ _ _)
  k_with "call builtin:min" => ((with_reducible show wpAny _ _ (call _ [Value.float _ _, Value.float _ _, Value.float _ _]) _ _ _); (rename News _ _ _ _ => N'); (rename Fr _ _ _ _ => F'); refine min3_K rfl F' N' ?_; clear N'; intro _ _ _ _ _)
  k_with "subscriptTail" => (k_here; (with_reducible show wpAny _ _ (subscriptTail _ _ (Value.ref _) (Value.int _ _)) _ _ _); (k_dflt (refine' lst_item3 ?k1 ?k2 ?k3 ?k4 ?k6 ?_ ?_ ?_; (case k1 => k_asm); (case k2 => k_mem); (case k3 => omega); (case k4 => omega); (case k6 => with_unfolding_all rfl); all_goals (k_whole; intro hidx))))
  k_with "str_fit" => first | decide +kernel | (simp only [Str.length_append]; omega)
  k_with "binaryOp Add str str" => (k_here; (with_reducible show wpAny _ _ (binaryOp Operator.Add (Value.str _ _) (Value.str _ _)) _ _ _); (refine' add_m ?ksz ?_; (case ksz => walk_at "str_fit")); intro tx' kx' hx'; (try dsimp only at hx'))
  k_with "call builtin:str.replace" => (k_here; (refine' repl_m ?k1 ?k2 ?k3 ?k4 ?k5 ?k6 ?_; (case k1 => (show (0 : Nat) < _); omega); (case k2 => (show (0 : Nat) < _); omega); (case k3 => (show @Ne Nat _ _); omega); (case k4 => decide +kernel); (case k5 => walk_at "str_fit"); (case k6 => walk_at "str_fit")); intro tx' kx' hx'; (try dsimp only at hx'))
  k_with "subscriptTail" => (k_here; (with_reducible show wpAny _ _ (subscriptTail _ _ (Value.str _ _) (Value.int _ _)) _ _ _); (k_dflt (refine' str_item ?k1 ?k2 ?k3 ?k4 ?k5 ?_; (case k1 => omega); (case k2 => first | omega | exact Int.lt_of_lt_of_le (b := 4) (by omega) (by decide +kernel)); (case k3 => first | omega | decide +kernel); (case k4 => with_unfolding_all rfl); (case k5 => (intro _; with_unfolding_all rfl)))); intro hone')
  k_with "subscriptTail Name Slice str ref" => ((with_reducible rename Fr _ _ _ _ => F'); (with_reducible rename News _ _ _ _ => N'); (first
  | ((with_reducible show wpAny _ _ (subscriptTail _ (Expr.Slice (some _) none none _) _ _) _ _ _); (refine' slice_strN_sn_len (s := ⟨_, _, _, _, _⟩) F' N' ?_ (hsz := ?hsz)); (case hsz => walk_at "str_fit"))
  | ((with_reducible show wpAny _ _ (subscriptTail _ (Expr.Slice none (some _) none _) _ _) _ _ _); (refine' slice_strN_ns_len (s := ⟨_, _, _, _, _⟩) F' N' ?_ (hsz := ?hsz)); (case hsz => walk_at "str_fit"))
  | ((with_reducible show wpAny _ _ (subscriptTail _ (Expr.Slice (some _) (some _) none _) _ _) _ _ _); (refine' slice_strN_ss_len (s := ⟨_, _, _, _, _⟩) F' N' ?_ (hsz := ?hsz)); (case hsz => walk_at "str_fit"))); intro _ _ _ _ _ _)
  k_with "call ref" => (k_here; (with_reducible show wpAny _ _ (call (Value.ref 28) _) _ _ _); (k_dflt (refine' Ct.use (rgb_spec _ _ _ _ _ _ _ _ ?p1 ?p2) ?k1 ?k2 ?k3 ?k4 ?k5 ?kK ?kd ?ku ?_; (case p1 => exact RgbOk.h1 (by assumption)); (case p2 => exact RgbOk.h2 (by assumption)); walk_at "ct_use")); intro r' tl' h' tk' F' N' l1 hP'; obtain ⟨D', c', t4', t5', t6', e1', e2', e3'⟩ := hP'; subst e1' e2' e3'; replace l1 := lt_tl1 l1; (try k_lt l1); (simp only [List.cons_append, List.nil_append] at N'); (try k_sweep); (try dsimp only); (try k_fold))
  k_with "call ref" => (k_here; (with_reducible show wpAny _ _ (call (Value.ref 86) _) _ _ _); (k_dflt (refine' Ct.use (p257_spec _ _ _ _ ?p1 ?p2) ?k1 ?k2 ?k3 ?k4 ?k5 ?kK ?kd ?ku ?_; (case p1 => assumption); (case p2 => assumption); walk_at "ct_use")); intro r' tl' h' tk' F' N' l1 hP'; obtain ⟨z', t4', e1', e2', e3'⟩ := hP'; subst e1' e2' e3'; (simp only [List.nil_append] at N'); (try k_sweep); (try dsimp only); (try k_fold))
  k_with "enterS" => (refine' code_defS ?k1 ?k2 ?k3 ?k4 ?k5 ?XB ?TB ?D ?T0 ?kA ?k6 ?k7 ?k8 ?k9 ?kB ?_ ?cK ?c2 ?c3 ?c4 ?c5; (case kA => exact rfl); (case k2 => k_asm); (case k1 => k_asm); (case XB => assumption); (case TB => assumption); (case D => assumption); (case T0 => first | assumption | exact KtsTurn.refl); (case k3 => k_asm); (case k4 => k_asm); (case k5 => k_asm); (case k6 => k_is); (case k7 => k_is); (case k8 => ktr_room); (case k9 => exact BindsTo.of_eq rfl); (case kB => exact locs rfl); (case cK => first | exact rfl | assumption); (case c2 => exact rfl); (case c3 => exact rfl); (case c4 => exact rfl); (case c5 => decide); k_whole; intro g' L' h' FG' F' N' B' X' T' D'; (try dsimp only); (try k_lift B'); (try k_fold))
  k_with "enterS0" => (refine' enter0X ?k1 ?k2 ?k3 ?k4 ?k5 ?kA ?kF ?cK ?k6 ?k7 ?k8 ?k9 ?kB ?_ ?c2 ?c3 ?c4 ?c5; (case kA => exact rfl); (case kF => exact rfl); (case cK => first | exact rfl | assumption); (case k2 => k_asm); (case k1 => k_asm); (case k3 => k_asm); (case k4 => k_asm); (case k5 => k_asm); (case k6 => k_is); (case k7 => k_is); (case k8 => ktr_room); (case k9 => exact BindsTo.of_eq rfl); (case kB => exact locs rfl); (case c2 => exact rfl); (case c3 => exact rfl); (case c4 => exact rfl); (case c5 => decide); k_whole; intro g' L' h' FG' F' N' B' X' T' D'; (try dsimp only); (try k_lift B'); (try k_fold))
  trivial
def find4 (x y : Str) (i j : Int) : Int := match Builtin.Str.occurrences x y (fromIndex x.length i) (min (fromIndex x.length j) x.length) 1 with | k :: _ => (k : Int) | [] => -1
theorem gives_find4 (x y : Str) (i j : Int) (t u v v' : Tok) : Gives (Builtin.«str.find» ⟨[.str x t, .str y u, .int i v, .int j v'], []⟩) (.int (find4 x y i j)) := by
  show Gives (match Builtin.Str.occurrences x y (fromIndex x.length i) (min (fromIndex x.length j) x.length) 1 with | k :: _ => retInt k | [] => (do rule "str.find.not-found"; retInt (-1))) _
  unfold find4
  cases Builtin.Str.occurrences x y (fromIndex x.length i) (min (fromIndex x.length j) x.length) 1 with
  | nil => exact .rule (.of_eq rfl)
  | cons k _ => exact .of_eq rfl
theorem call_find4 {prog : Program} {w : World} {A : Around} {E : Value → Shared → Prop} {s : Shared} {x y : Str} {t u v v' : Tok} {i j : Int} {Q : Value → Shared → Prop} (hq : Q (.int (find4 x y i j) s.toks) { s with toks := s.toks + 1 }) :
    wpAny (model prog w) A (call (.builtin "str.find") [.str x t, .str y u, .int i v, .int j v']) Q E s :=
  call_gives F.slot_str_find (typeIs_str _ _ _) F.entry_str_find (F.args_str_find_4 _ _ _ _) (gives_find4 x y i j t u v v') hq
abbrev dots : Str := Str.ofString "..."
section
variable {prog : Program} {w : World} {A : Around} {E : Value → Shared → Prop} {s : Shared} {h₀ : Heap} {L : Addr} {m : Str → Option Value} {news : Led} {x y : Str} {t u : Tok} {Q : Value → Shared → Prop} {a b c d : Str}
theorem split_2 (hF : Fr h₀ L s.heap m) (hN : News h₀ L s.heap news) (hy : (y.length == 0) = false) (hsz : x.length + 2 ≤ sizeLine) (hS : Txt.split x y = [a, b])
    (q : ∀ D ta tb h' k, Fr h₀ L h' m → News h₀ L h' ((D, listOf #[.str a ta, .str b tb] 0) :: news) → (∀ p ∈ news, p.1 < D) → Q (.ref D) { s with heap := h', toks := k }) :
    wpAny (model prog w) A (call (.builtin "str.split") [.str x t, .str y u]) Q E s := by
  refine KSpl.split1 hF hN hy (fun D l h' k e _ F N lt => ?_) hsz
  rw [hS] at e
  obtain ⟨t1, l1, rfl, e1⟩ := KSpl.cons_of e
  obtain ⟨t2, l2, rfl, e2⟩ := KSpl.cons_of e1
  obtain rfl := KSpl.nil_of e2
  exact q _ _ _ _ _ F N lt
theorem split_3 (hF : Fr h₀ L s.heap m) (hN : News h₀ L s.heap news) (hy : (y.length == 0) = false) (hsz : x.length + 2 ≤ sizeLine) (hS : Txt.split x y = [a, b, c])
    (q : ∀ D ta tb tc h' k, Fr h₀ L h' m → News h₀ L h' ((D, listOf #[.str a ta, .str b tb, .str c tc] 0) :: news) → (∀ p ∈ news, p.1 < D) → Q (.ref D) { s with heap := h', toks := k }) :
    wpAny (model prog w) A (call (.builtin "str.split") [.str x t, .str y u]) Q E s := by
  refine KSpl.split1 hF hN hy (fun D l h' k e _ F N lt => ?_) hsz
  rw [hS] at e
  obtain ⟨t1, l1, rfl, e1⟩ := KSpl.cons_of e
  obtain ⟨t2, l2, rfl, e2⟩ := KSpl.cons_of e1
  obtain ⟨t3, l3, rfl, e3⟩ := KSpl.cons_of e2
  obtain rfl := KSpl.nil_of e3
  exact q _ _ _ _ _ _ F N lt
theorem split_4 (hF : Fr h₀ L s.heap m) (hN : News h₀ L s.heap news) (hy : (y.length == 0) = false) (hsz : x.length + 2 ≤ sizeLine) (hS : Txt.split x y = [a, b, c, d])
    (q : ∀ D ta tb tc td h' k, Fr h₀ L h' m → News h₀ L h' ((D, listOf #[.str a ta, .str b tb, .str c tc, .str d td] 0) :: news) → (∀ p ∈ news, p.1 < D) → Q (.ref D) { s with heap := h', toks := k }) :
    wpAny (model prog w) A (call (.builtin "str.split") [.str x t, .str y u]) Q E s := by
  refine KSpl.split1 hF hN hy (fun D l h' k e _ F N lt => ?_) hsz
  rw [hS] at e
  obtain ⟨t1, l1, rfl, e1⟩ := KSpl.cons_of e
  obtain ⟨t2, l2, rfl, e2⟩ := KSpl.cons_of e1
  obtain ⟨t3, l3, rfl, e3⟩ := KSpl.cons_of e2
  obtain ⟨t4, l4, rfl, e4⟩ := KSpl.cons_of e3
  obtain rfl := KSpl.nil_of e4
  exact q _ _ _ _ _ _ _ F N lt
end
section
variable {prog : Program} {w : World} {A : Around} {E : Value → Shared → Prop} {s : Shared} {x : Str} {t : Tok} {Q : Bool → Shared → Prop}
theorem truthy_t (h1 : 0 < x.length) (h2 : x.length ≤ 1000) (h : Q true { s with toks := s.toks + 1 + 1 }) : wpAny (model prog w) A (truthy (.str x t)) Q E s := by
  refine PySem.P.truthy_str (by omega) ?_
  rw [show ((x.length : Int) != 0) = true by simp; omega]
  exact h
end
section
variable {prog : Program} {w : World} {A : Around} {E : Value → Shared → Prop} {s : Shared} {env : Env} {g : Heap} {m : Str → Option Value} {news : Led} {x : Str} {D : Addr} {n : Nat} {target : Expr} {body : List Stmt} {p pos : Pos} {Q : Flow → Shared → Prop}
/-- a for over an empty list -/
theorem for_nil (hh : A.handled = none) (hk : env.scope.kind = .function) (hx : env.kindOf x = some .local) (hdb : (x == ("__debug__" : Str)) = false) (F : Fr g env.locals s.heap m) (N : News g env.locals s.heap news) (hv : m x = some (.ref D)) (hD : (D, listOf #[] n) ∈ news)
    (h : ∀ h', Fr g env.locals h' m → News g env.locals h' news → Q .next { s with heap := h' }) (ht : ∀ it v, letOwnedTupleGo target it v = pure ()) : wpAny (model prog w) A (exec (.For target (.Name x p) body [] pos) env) Q E s := by
  have hl : s.heap.IsList D #[] := lstN (vs := []) N hD
  refine wpAny_For (wpAny_Name (wpAny_loadName_local hk hx F.ns hv ?_) hdb) (fun _ => rfl)
  refine wpAny_pyIter_list hl ?_
  have hlt : D < s.heap.objs.size := Heap.lt_size (N _ hD).1
  refine codeAny_forLoop (fun k s' => k = 0 ∧ s' = { s with heap := s.heap.push { cls := .type "list_iterator", data := .fields #[.ref D, .int 0 0] } }) (fun k s' hI => ?_) 0 ⟨rfl, rfl⟩ (ht _)
  obtain ⟨rfl, rfl⟩ := hI
  refine wpAny_pyNext_list_end hh (l := D) (i := 0) (items := #[]) ⟨_, Heap.get?_push_size _ rfl, rfl, rfl⟩ ?_ rfl fun h' he => ?_
  · obtain ⟨o, ho, r⟩ := hl
    exact ⟨o, Heap.get?_push_of_some _ ho, r⟩
  rw [execs]
  refine wpAny_pure (h _ ?_ ?_)
  · have F1 := F.push ({ cls := .type "list_iterator", data := .fields #[.ref D, .int 0 0] } : Obj)
    have hL : env.locals < s.heap.objs.size := F.ns.lt
    refine ⟨F1.ns.extBut he (Nat.ne_of_lt hL), fun b o e => ?_, F.above⟩
    have := F1.keep b o e
    exact he b o (Nat.ne_of_lt (Heap.lt_size (F.keep b o e))) this
  · intro q hq
    exact ⟨he _ _ (Nat.ne_of_lt (Heap.lt_size (N q hq).1)) (Heap.get?_push_of_some _ (N q hq).1), (N q hq).2⟩
end
abbrev E0 : Str := Str.ofString ""
abbrev z0 : Int := ((0 : Nat) : Int)
def em2 (y p q : Str) : Bool := if Txt.startswith y p = false then false else if Txt.endswith y q = false then false else if (y.length : Int) - q.length < p.length then false else true
def em2l (y p : Str) : Bool := if Txt.startswith y p = false then false else if (y.length : Int) < p.length then false else if find4 y E0 p.length y.length < 0 then false else true
def em2r (y q : Str) : Bool := if Txt.endswith y q = false then false else if (y.length : Int) - q.length < 0 then false else if find4 y E0 0 ((y.length : Int) - q.length) < 0 then false else true
def em3 (y p c q : Str) : Bool := if Txt.startswith y p = false then false else if Txt.endswith y q = false then false else if (y.length : Int) - q.length < p.length then false else if find4 y c p.length ((y.length : Int) - q.length) < 0 then false else true
def em4 (y c d : Str) : Bool := if find4 y E0 0 y.length < 0 then false else if find4 y c (find4 y E0 0 y.length + z0) y.length < 0 then false
  else if find4 y d (find4 y c (find4 y E0 0 y.length + z0) y.length + c.length) y.length < 0 then false
  else if find4 y E0 (find4 y d (find4 y c (find4 y E0 0 y.length + z0) y.length + c.length) y.length + d.length) y.length < 0 then false else true
section
variable {y p q c d : Str}
theorem em2_1 (h : Txt.startswith y p = false) : em2 y p q = false := by unfold em2; rw [if_pos h]
theorem em2_2 (h : Txt.endswith y q = false) : em2 y p q = false := by unfold em2; (repeat' split) <;> first | rfl | contradiction
theorem em2_3 (h : (y.length : Int) - q.length < p.length) : em2 y p q = false := by unfold em2; (repeat' split) <;> first | rfl | contradiction
theorem em2_t (h1 : Txt.startswith y p = true) (h2 : Txt.endswith y q = true) (h3 : ¬ (y.length : Int) - q.length < p.length) : em2 y p q = true := by unfold em2; rw [if_neg (by rw [h1]; decide), if_neg (by rw [h2]; decide), if_neg h3]
theorem em2l_1 (h : Txt.startswith y p = false) : em2l y p = false := by unfold em2l; rw [if_pos h]
theorem em2l_2 (h : (y.length : Int) < p.length) : em2l y p = false := by unfold em2l; (repeat' split) <;> first | rfl | contradiction
theorem em2l_3 (h : find4 y E0 p.length y.length < 0) : em2l y p = false := by unfold em2l; (repeat' split) <;> first | rfl | contradiction
theorem em2l_t (h1 : Txt.startswith y p = true) (h2 : ¬ (y.length : Int) < p.length) (h3 : ¬ find4 y E0 p.length y.length < 0) : em2l y p = true := by unfold em2l; rw [if_neg (by rw [h1]; decide), if_neg h2, if_neg h3]
theorem em2r_1 (h : Txt.endswith y q = false) : em2r y q = false := by unfold em2r; rw [if_pos h]
theorem em2r_2 (h : (y.length : Int) - q.length < 0) : em2r y q = false := by unfold em2r; (repeat' split) <;> first | rfl | contradiction
theorem em2r_3 (h : find4 y E0 0 ((y.length : Int) - q.length) < 0) : em2r y q = false := by unfold em2r; (repeat' split) <;> first | rfl | contradiction
theorem em2r_t (h1 : Txt.endswith y q = true) (h2 : ¬ (y.length : Int) - q.length < 0) (h3 : ¬ find4 y E0 0 ((y.length : Int) - q.length) < 0) : em2r y q = true := by unfold em2r; rw [if_neg (by rw [h1]; decide), if_neg h2, if_neg h3]
theorem em3_1 (h : Txt.startswith y p = false) : em3 y p c q = false := by unfold em3; rw [if_pos h]
theorem em3_2 (h : Txt.endswith y q = false) : em3 y p c q = false := by unfold em3; (repeat' split) <;> first | rfl | contradiction
theorem em3_3 (h : (y.length : Int) - q.length < p.length) : em3 y p c q = false := by unfold em3; (repeat' split) <;> first | rfl | contradiction
theorem em3_4 (h : find4 y c p.length ((y.length : Int) - q.length) < 0) : em3 y p c q = false := by unfold em3; (repeat' split) <;> first | rfl | contradiction
theorem em3_t (h1 : Txt.startswith y p = true) (h2 : Txt.endswith y q = true) (h3 : ¬ (y.length : Int) - q.length < p.length) (h4 : ¬ find4 y c p.length ((y.length : Int) - q.length) < 0) : em3 y p c q = true := by
  unfold em3; rw [if_neg (by rw [h1]; decide), if_neg (by rw [h2]; decide), if_neg h3, if_neg h4]
theorem em4_1 (h : find4 y E0 0 y.length < 0) : em4 y c d = false := by unfold em4; rw [if_pos h]
theorem em4_2 (h : find4 y c (find4 y E0 0 y.length + z0) y.length < 0) : em4 y c d = false := by unfold em4; (repeat' split) <;> first | rfl | contradiction
theorem em4_3 (h : find4 y d (find4 y c (find4 y E0 0 y.length + z0) y.length + c.length) y.length < 0) : em4 y c d = false := by unfold em4; (repeat' split) <;> first | rfl | contradiction
theorem em4_4 (h : find4 y E0 (find4 y d (find4 y c (find4 y E0 0 y.length + z0) y.length + c.length) y.length + d.length) y.length < 0) : em4 y c d = false := by unfold em4; (repeat' split) <;> first | rfl | contradiction
theorem em4_t (h1 : ¬ find4 y E0 0 y.length < 0) (h2 : ¬ find4 y c (find4 y E0 0 y.length + z0) y.length < 0) (h3 : ¬ find4 y d (find4 y c (find4 y E0 0 y.length + z0) y.length + c.length) y.length < 0)
    (h4 : ¬ find4 y E0 (find4 y d (find4 y c (find4 y E0 0 y.length + z0) y.length + c.length) y.length + d.length) y.length < 0) : em4 y c d = true := by unfold em4; rw [if_neg h1, if_neg h2, if_neg h3, if_neg h4]
end
def em (x y : Str) : Bool := if (Builtin.Str.occurrences x (Str.ofString "...") 0 x.length 1).isEmpty = true then x == y else match Txt.split x dots with
  | [p, q] => if p.length = 0 then em2r y q else if q.length = 0 then em2l y p else em2 y p q
  | [p, c, q] => em3 y p c q
  | [_, c, d, _] => em4 y c d
  | _ => false
structure EmOk (x : Str) : Prop where
  len : x.length ≤ 100
  ok : (Builtin.Str.occurrences x (Str.ofString "...") 0 x.length 1).isEmpty = true ∨ ((Builtin.Str.occurrences x (Str.ofString "...") 0 x.length 1).isEmpty = false ∧
    ((∃ p q, Txt.split x dots = [p, q] ∧ 0 < p.length ∧ 0 < q.length ∧ p.length ≤ 100 ∧ q.length ≤ 100) ∨ (∃ p, Txt.split x dots = [p, Str.ofString ""] ∧ 0 < p.length ∧ p.length ≤ 100) ∨ (∃ q, Txt.split x dots = [Str.ofString "", q] ∧ 0 < q.length ∧ q.length ≤ 100) ∨
     (∃ p c q, Txt.split x dots = [p, c, q] ∧ 0 < p.length ∧ 0 < q.length ∧ p.length ≤ 100 ∧ c.length ≤ 100 ∧ q.length ≤ 100) ∨ (∃ c d, Txt.split x dots = [Str.ofString "", c, d, Str.ofString ""] ∧ c.length ≤ 100 ∧ d.length ≤ 100)))
section
variable (prog : Program) (w : World) (A : Around) (env : Env) (g : Heap) (news : Led) (x : Str) (D I : Addr) (body : List Stmt) (Q : Flow → Shared → Prop) (s : Shared)
def ForEnd (o : Obj) (rest : (Str → Option Value) → Prop) (f : Flow) (s' : Shared) : Prop := match f with
  | .ret v => Q (.ret v) s'
  | .brk => Q .next s'
  | _ => ∃ m' h' tk', s' = { s with heap := h', toks := tk' } ∧ Fr g env.locals h' m' ∧ News g env.locals h' ((I, o) :: news) ∧ rest m'
/-- a for over written items, turn by turn -/
def ForGo : List Value → (Str → Option Value) → Prop
  | [], m => ∀ h' tk, Fr g env.locals h' m → News g env.locals h' news → Q .next { s with heap := h', toks := tk }
  | v :: vs, m => ∀ o h' tk, Fr g env.locals h' (fun y => if y = x then some v else m y) → News g env.locals h' ((I, o) :: news) →
      wpAny (model prog w) A (execs body env) (ForEnd env g news I Q s o (ForGo vs)) NoE { s with heap := h', toks := tk }
end
section
variable {prog : Program} {w : World} {A : Around} {E : Value → Shared → Prop} {s : Shared} {env : Env} {g : Heap} {m : Str → Option Value} {news : Led} {x z : Str} {D : Addr} {n : Nat} {body : List Stmt} {p p' pos : Pos} {Q : Flow → Shared → Prop} {vs : List Value}
theorem ForGo.nil {I : Addr} (h : ∀ h' tk, Fr g env.locals h' m → News g env.locals h' news → Q .next { s with heap := h', toks := tk }) : ForGo prog w A env g news x I body Q s [] m := h
theorem ForGo.cons {I : Addr} {v : Value} (h : ∀ o h' tk, Fr g env.locals h' (fun y => if y = x then some v else m y) → News g env.locals h' ((I, o) :: news) →
      wpAny (model prog w) A (execs body env) (ForEnd env g news I Q s o (ForGo prog w A env g news x I body Q s vs)) NoE { s with heap := h', toks := tk }) : ForGo prog w A env g news x I body Q s (v :: vs) m := h
theorem for_items (hh : A.handled = none) (hk : env.scope.kind = .function) (hz : env.kindOf z = some .local) (hx : env.kindOf x = some .local) (hdb : (z == ("__debug__" : Str)) = false)
    (hp : (env.scope.kind == .class || (env.scope.kind == .module && env.locals != env.globals)) = false) (F : Fr g env.locals s.heap m) (N : News g env.locals s.heap news) (hv : m z = some (.ref D)) (hD : (D, listOf vs.toArray n) ∈ news)
    (h : ∀ I, (∀ q ∈ news, q.1 < I) → ForGo prog w A env g news x I body Q s vs m) : wpAny (model prog w) A (exec (.For (.Name x p) (.Name z p') body [] pos) env) Q E s := by
  have hl : s.heap.IsList D vs.toArray := lstN (vs := vs) N hD
  have hDlt : D < s.heap.objs.size := Heap.lt_size (N _ hD).1
  have hL : env.locals < s.heap.objs.size := F.ns.lt
  refine wpAny_For (wpAny_Name (wpAny_loadName_local hk hz F.ns hv ?_) hdb) (fun _ => rfl)
  refine wpAny_pyIter_list hl ?_
  have F1 := F.push ({ cls := .type "list_iterator", data := .fields #[.ref D, .int 0 0] } : Obj)
  have hnew : g.get? s.heap.objs.size = none := next_is_new F
  have h0 := h s.heap.objs.size fun q hq => Heap.lt_size (N q hq).1
  refine codeAny_forLoop (fun k s' => ∃ i m₁ o h' tk, k = vs.length - i ∧ i ≤ vs.length ∧ s' = { s with heap := h', toks := tk } ∧ Fr g env.locals h' m₁ ∧ News g env.locals h' ((s.heap.objs.size, o) :: news) ∧
    o.cls = .type "list_iterator" ∧ o.data = .fields #[.ref D, .int i 0] ∧ ForGo prog w A env g news x s.heap.objs.size body Q s (vs.drop i) m₁) (fun k s' hI => ?_) vs.length
    ⟨0, m, { cls := .type "list_iterator", data := .fields #[.ref D, .int 0 0] }, _, s.toks, rfl, Nat.zero_le _, rfl, F1, fun q hq => ?_, rfl, rfl, h0⟩ (fun _ => rfl)
  · obtain ⟨i, m₁, o, h', tk, rfl, hi, rfl, F₁, N₁, oc, od, G⟩ := hI
    have hit : h'.IsListIter s.heap.objs.size D i := ⟨o, (N₁ _ (.head _)).1, oc, od⟩
    have hl' : h'.IsList D vs.toArray := lstN (vs := vs) (a := D) N₁ (.tail _ hD)
    have hDI : D ≠ s.heap.objs.size := Nat.ne_of_lt hDlt
    by_cases hlt : i < vs.length
    · have hx' : vs.toArray[i]? = some vs[i] := by simp [hlt]
      have hd : vs.drop i = vs[i] :: vs.drop (i + 1) := List.drop_eq_getElem_cons hlt
      rw [hd] at G
      refine wpAny_pyNext_list_item hit hl' hx' fun h₁ hit₁ hs₁ => ?_
      have F₂ : Fr g env.locals h₁ m₁ := ⟨F₁.ns.sameBut hs₁ (Nat.ne_of_lt hL), fun b o e => (hs₁.2 b (fun eb => by rw [eb, hnew] at e; cases e)).trans (F₁.keep b o e), F₁.above⟩
      obtain ⟨o₁, ho₁, oc₁, od₁⟩ := hit₁
      have N₂ : News g env.locals h₁ ((s.heap.objs.size, o₁) :: news) := fun q hq => by
        rcases List.mem_cons.mp hq with rfl | hq
        · exact ⟨ho₁, (N₁ _ (.head _)).2⟩
        · exact ⟨(hs₁.2 _ (Nat.ne_of_lt (Heap.lt_size (N q hq).1))).trans (N₁ q (.tail _ hq)).1, (N q hq).2⟩
      refine wpAny_assign_Name (wpAny_storeName_local hx F₂.ns (fun h₂ hn₂ hs₂ => ?_) hp)
      have F₃ := F₂.set hn₂ hs₂
      have N₃ : News g env.locals h₂ ((s.heap.objs.size, o₁) :: news) := fun q hq => ⟨(hs₂.2 _ (N₂ q hq).2.1).trans (N₂ q hq).1, (N₂ q hq).2⟩
      refine wpAny_mono (G o₁ h₂ _ F₃ N₃) (fun f s₃ h₃ => ?_) fun _ _ e => e.elim
      have nx : (∃ m' h' tk', s₃ = { s with heap := h', toks := tk' } ∧ Fr g env.locals h' m' ∧ News g env.locals h' ((s.heap.objs.size, o₁) :: news) ∧ ForGo prog w A env g news x s.heap.objs.size body Q s (vs.drop (i + 1)) m') → ∃ k, k < vs.length - i ∧ ∃ i m₁ o h' tk, k = vs.length - i ∧ i ≤ vs.length ∧ s₃ = { s with heap := h', toks := tk } ∧ Fr g env.locals h' m₁ ∧ News g env.locals h' ((s.heap.objs.size, o) :: news) ∧
          o.cls = .type "list_iterator" ∧ o.data = .fields #[.ref D, .int i 0] ∧ ForGo prog w A env g news x s.heap.objs.size body Q s (vs.drop i) m₁ := by
        rintro ⟨m', h', tk', e, F', N', r⟩
        exact ⟨vs.length - (i + 1), by omega, i + 1, m', o₁, h', tk', rfl, hlt, e, F', N', oc₁, od₁, r⟩
      cases f with
      | next => exact nx h₃
      | cont => exact nx h₃
      | brk => exact h₃
      | ret v => exact h₃
    · have hin : i = vs.length := by omega
      subst hin
      refine wpAny_pyNext_list_end hh hit hl' (by simp) fun h₁ he => ?_
      rw [execs]
      rw [List.drop_length] at G
      refine wpAny_pure (G _ _ ⟨F₁.ns.extBut he (Nat.ne_of_lt hL), fun b o e => he b o (fun eb => by rw [eb, hnew] at e; cases e) (F₁.keep b o e), F₁.above⟩ fun q hq => ⟨he _ _ (Nat.ne_of_lt (Heap.lt_size (N q hq).1)) (N₁ q (.tail _ hq)).1, (N q hq).2⟩)
  · rcases List.mem_cons.mp hq with rfl | hq
    · exact ⟨Heap.get?_push_size _ rfl, Nat.ne_of_gt hL, hnew⟩
    · exact ⟨Heap.get?_push_of_some _ (N q hq).1, (N q hq).2⟩
theorem ForEnd.next {I : Addr} {o : Obj} {rest : (Str → Option Value) → Prop} {m' : Str → Option Value} {h' : Heap} {tk' : Nat} {all : Led} (F : Fr g env.locals h' m') (N : News g env.locals h' all) (hs : ∀ q ∈ (I, o) :: news, q ∈ all) (r : rest m') :
    ForEnd env g news I Q s o rest .next { s with heap := h', toks := tk' } := ⟨m', h', tk', rfl, F, fun q hq => N q (hs q hq), r⟩
end

theorem emw_rows1 : True := by
  k_with_none
  w_top off
  k_with "led_sub" => first | exact fun p hp => hp | (intro p hp; repeat' (first | exact hp | refine List.Mem.tail _ ?_))
  k_with "led_lt" => first | assumption | exact ktn_ltOf (by assumption) | exact lt1 (by assumption) | exact lt2 (by assumption) | exact lt3 (by assumption) | exact lt4 (by assumption)
  k_with "ct_fill" => (refine fillIt ?_; k_fill; intro _; unfold Ct)
  k_with "ct_enter" => (refine wpAny_call ?_; k_dflt cell_enter)
  k_with "ct_use" => ((case k1 => k_asm); (case k2 => k_asm); (case k3 => k_asm); (case k4 => k_asm); (case k5 => k_asm); (case kK => first | exact rfl | assumption); (case kd => ktr_room); (case ku => ktr_units))
  k_with "subscriptTail" => (k_here; (with_reducible show wpAny _ _ (subscriptTail _ _ (Value.ref _) (Value.int _ _)) _ _ _); (k_dflt (refine' tup_item ?k1 ?k2 ?k3 ?k4 ?k5 ?k6 ?_; (case k1 => k_asm); (case k2 => first | assumption | k_mem); (case k3 => decide); (case k4 => decide); (case k5 => exact rfl); (case k6 => with_unfolding_all rfl); k_whole)))
  k_with "call builtin:max" => ((with_reducible show wpAny _ _ (call _ [Value.float _ _, Value.float _ _, Value.float _ _]) _ _ _); (rename News _ _ _ _ => N'); (rename Fr _ _ _ _ => F'); refine max3_K rfl F' N' ?_; clear N'; intro _ _ _ _ _)
  k_with "call builtin:min" => ((with_reducible show wpAny _ _ (call _ [Value.float _ _, Value.float _ _, Value.float _ _]) _ _ _); (rename News _ _ _ _ => N'); (rename Fr _ _ _ _ => F'); refine min3_K rfl F' N' ?_; clear N'; intro _ _ _ _ _)
  k_with "subscriptTail" => (k_here; (with_reducible show wpAny _ _ (subscriptTail _ _ (Value.ref _) (Value.int _ _)) _ _ _); (k_dflt (refine' lst_item3 ?k1 ?k2 ?k3 ?k4 ?k6 ?_ ?_ ?_; (case k1 => k_asm); (case k2 => k_mem); (case k3 => omega); (case k4 => omega); (case k6 => with_unfolding_all rfl); all_goals (k_whole; intro hidx))))
  k_with "str_fit" => first | decide +kernel | (simp only [Str.length_append]; omega)
  k_with "binaryOp Add str str" => (k_here; (with_reducible show wpAny _ _ (binaryOp Operator.Add (Value.str _ _) (Value.str _ _)) _ _ _); (refine' add_m ?ksz ?_; (case ksz => walk_at "str_fit")); intro tx' kx' hx'; (try dsimp only at hx'))
  k_with "call builtin:str.replace" => (k_here; (refine' repl_m ?k1 ?k2 ?k3 ?k4 ?k5 ?k6 ?_; (case k1 => (show (0 : Nat) < _); omega); (case k2 => (show (0 : Nat) < _); omega); (case k3 => (show @Ne Nat _ _); omega); (case k4 => decide +kernel); (case k5 => walk_at "str_fit"); (case k6 => walk_at "str_fit")); intro tx' kx' hx'; (try dsimp only at hx'))
  k_with "subscriptTail" => (k_here; (with_reducible show wpAny _ _ (subscriptTail _ _ (Value.str _ _) (Value.int _ _)) _ _ _); (k_dflt (refine' str_item ?k1 ?k2 ?k3 ?k4 ?k5 ?_; (case k1 => omega); (case k2 => first | omega | exact Int.lt_of_lt_of_le (b := 4) (by omega) (by decide +kernel)); (case k3 => first | omega | decide +kernel); (case k4 => with_unfolding_all rfl); (case k5 => (intro _; with_unfolding_all rfl)))); intro hone')
  k_with "subscriptTail Name Slice str ref" => ((with_reducible rename Fr _ _ _ _ => F'); (with_reducible rename News _ _ _ _ => N'); (first
  | ((with_reducible show wpAny _ _ (subscriptTail _ (Expr.Slice (some _) none none _) _ _) _ _ _); (refine' slice_strN_sn_len (s := ⟨_, _, _, _, _⟩) F' N' ?_ (hsz := ?hsz)); (case hsz => walk_at "str_fit"))
  | ((with_reducible show wpAny _ _ (subscriptTail _ (Expr.Slice none (some _) none _) _ _) _ _ _); (refine' slice_strN_ns_len (s := ⟨_, _, _, _, _⟩) F' N' ?_ (hsz := ?hsz)); (case hsz => walk_at "str_fit"))
  | ((with_reducible show wpAny _ _ (subscriptTail _ (Expr.Slice (some _) (some _) none _) _ _) _ _ _); (refine' slice_strN_ss_len (s := ⟨_, _, _, _, _⟩) F' N' ?_ (hsz := ?hsz)); (case hsz => walk_at "str_fit"))); intro _ _ _ _ _ _)
  k_with "call ref" => (k_here; (with_reducible show wpAny _ _ (call (Value.ref 28) _) _ _ _); (k_dflt (refine' Ct.use (rgb_spec _ _ _ _ _ _ _ _ ?p1 ?p2) ?k1 ?k2 ?k3 ?k4 ?k5 ?kK ?kd ?ku ?_; (case p1 => exact RgbOk.h1 (by assumption)); (case p2 => exact RgbOk.h2 (by assumption)); walk_at "ct_use")); intro r' tl' h' tk' F' N' l1 hP'; obtain ⟨D', c', t4', t5', t6', e1', e2', e3'⟩ := hP'; subst e1' e2' e3'; replace l1 := lt_tl1 l1; (try k_lt l1); (simp only [List.cons_append, List.nil_append] at N'); (try k_sweep); (try dsimp only); (try k_fold))
  k_with "call ref" => (k_here; (with_reducible show wpAny _ _ (call (Value.ref 86) _) _ _ _); (k_dflt (refine' Ct.use (p257_spec _ _ _ _ ?p1 ?p2) ?k1 ?k2 ?k3 ?k4 ?k5 ?kK ?kd ?ku ?_; (case p1 => assumption); (case p2 => assumption); walk_at "ct_use")); intro r' tl' h' tk' F' N' l1 hP'; obtain ⟨z', t4', e1', e2', e3'⟩ := hP'; subst e1' e2' e3'; (simp only [List.nil_append] at N'); (try k_sweep); (try dsimp only); (try k_fold))
  k_with "enterS" => (refine' code_defS ?k1 ?k2 ?k3 ?k4 ?k5 ?XB ?TB ?D ?T0 ?kA ?k6 ?k7 ?k8 ?k9 ?kB ?_ ?cK ?c2 ?c3 ?c4 ?c5; (case kA => exact rfl); (case k2 => k_asm); (case k1 => k_asm); (case XB => assumption); (case TB => assumption); (case D => assumption); (case T0 => first | assumption | exact KtsTurn.refl); (case k3 => k_asm); (case k4 => k_asm); (case k5 => k_asm); (case k6 => k_is); (case k7 => k_is); (case k8 => ktr_room); (case k9 => exact BindsTo.of_eq rfl); (case kB => exact locs rfl); (case cK => first | exact rfl | assumption); (case c2 => exact rfl); (case c3 => exact rfl); (case c4 => exact rfl); (case c5 => decide); k_whole; intro g' L' h' FG' F' N' B' X' T' D'; (try dsimp only); (try k_lift B'); (try k_fold))
  k_with "enterS0" => (refine' enter0X ?k1 ?k2 ?k3 ?k4 ?k5 ?kA ?kF ?cK ?k6 ?k7 ?k8 ?k9 ?kB ?_ ?c2 ?c3 ?c4 ?c5; (case kA => exact rfl); (case kF => exact rfl); (case cK => first | exact rfl | assumption); (case k2 => k_asm); (case k1 => k_asm); (case k3 => k_asm); (case k4 => k_asm); (case k5 => k_asm); (case k6 => k_is); (case k7 => k_is); (case k8 => ktr_room); (case k9 => exact BindsTo.of_eq rfl); (case kB => exact locs rfl); (case c2 => exact rfl); (case c3 => exact rfl); (case c4 => exact rfl); (case c5 => decide); k_whole; intro g' L' h' FG' F' N' B' X' T' D'; (try dsimp only); (try k_lift B'); (try k_fold))
  trivial
theorem emw_rows2 : True := by
  k_with "subscriptTail Name Constant ref int" => (k_here; (with_reducible show wpAny _ _ (subscriptTail _ _ (Value.ref _) (Value.int _ _)) _ _ _); (k_dflt (first | (refine' tup_item ?k1 ?k2 ?k3 ?k4 ?k5 ?k6 ?_; (case k1 => k_asm); (case k2 => first | assumption | k_mem); (case k3 => decide); (case k4 => decide); (case k5 => exact rfl); (case k6 => with_unfolding_all rfl); k_whole) | (refine' lst_at ?k1 ?k2 ?k3 ?k4 ?k7 ?k5 ?k6 ?_; (case k1 => k_asm); (case k2 => k_mem); (case k3 => decide); (case k4 => decide); (case k7 => with_unfolding_all exact Int.ofNat_lt.2 (Nat.le_of_ble_eq_true rfl)); (case k5 => exact rfl); (case k6 => with_unfolding_all rfl); k_whole))))
  trivial
theorem emw_rows3 : True := by
  k_with "call builtin:str.split" => (k_here; (with_reducible show wpAny _ _ (call (Value.builtin "str.split") [Value.str _ _, Value.str _ _]) _ _ _); (k_dflt (first | (refine' split_2 ?k1 ?k2 ?k3 ?k4 ?k5 ?_; (case k5 => assumption)) | (refine' split_3 ?k1 ?k2 ?k3 ?k4 ?k5 ?_; (case k5 => assumption)) | (refine' split_4 ?k1 ?k2 ?k3 ?k4 ?k5 ?_; (case k5 => assumption))); (case k1 => k_asm); (case k2 => k_asm); (case k3 => decide +kernel); (case k4 => walk_at "dots_fit")); intro D' ta' tb'; intros; (try k_sweep); (try dsimp only); (try k_fold))
  trivial
theorem emw_rows4 : True := by
  k_with "dots_fit" => (refine Nat.le_trans (Nat.add_le_add_right ‹_ ≤ 100› 2) (by decide +kernel))
  trivial
theorem emw_rows5 : True := by
  k_with "call builtin:str.find" => (k_here; (with_reducible show wpAny _ _ (call (Value.builtin "str.find") [Value.str _ _, Value.str _ _, Value.int _ _, Value.int _ _]) _ _ _); refine call_find4 ?_; (try dsimp only))
  trivial
theorem emw_rows6 : True := by
  k_with "truthy str" => (k_here; (with_reducible show wpAny _ _ (PySem.truthy (Value.str _ _)) _ _ _); (refine truthy_t (by omega) (by omega) ?_))
  trivial
theorem emw_rows7 : True := by
  k_with "exec For Name Name cons nil" => (k_here; first | ((refine' for_nil ?k1 ?k2 ?k3 ?k4 ?k5 ?k6 ?k7 ?k8 ?_ ?k9; (case k1 => exact rfl); (case k2 => exact rfl); (case k3 => exact rfl); (case k4 => decide); (case k5 => k_asm); (case k6 => k_asm); (case k7 => exact rfl); (case k8 => k_mem); (case k9 => (intro _ _; rfl))); intro h' F' N'; (try dsimp only)) | ((refine' for_items ?k1 ?k2 ?k3 ?kx ?k4 ?kp ?k5 ?k6 ?k7 ?k8 ?_; (case k1 => exact rfl); (case k2 => exact rfl); (case k3 => exact rfl); (case kx => exact rfl); (case k4 => decide); (case kp => exact rfl); (case k5 => k_asm); (case k6 => k_asm); (case k7 => exact rfl); (case k8 => k_mem)); intro I' l1; (try k_lt l1); walk_at "ForGo"))
  trivial
theorem emw_rows8 : True := by
  k_with "ForGo" => first | ((refine ForGo.cons ?_); intro o' h' tk' F' N'; (try dsimp only)) | ((refine ForGo.nil ?_); intro h' tk' F' N'; (try dsimp only))
  trivial
theorem emw_rows9 : True := by
  k_with "ForEnd" => first | ((refine' ForEnd.next ?k1 ?k2 ?k3 ?_; (case k1 => ((try dsimp only [envOf]); k_asm)); (case k2 => ((try dsimp only [envOf]); k_asm)); (case k3 => walk_at "led_sub")); walk_at "ForGo") | (dsimp only [ForEnd])
  trivial
set_option maxHeartbeats 4000000 in
theorem em0_spec (w : World) (news) (x y : Str) (t1 t2 : Tok) (hx : x.length ≤ 100) (hy : y.length ≤ 101) (hc : (Builtin.Str.occurrences x (Str.ofString "...") 0 x.length 1).isEmpty = true)
   : Ct w 21 [.str x t1, .str y t2] news 5 60 (fun tl r => tl = [] ∧ ∃ b, r = .bool b ∧ (x == y) = b) := by
  walk_at "ct_fill"
  intro mean mg mb dp un gd cn cs a ccd cl outer A₀ base h₀ L m sh Q E B F X N T hk hdp hun hret
  walk_at "ct_enter"
  k_steps
  all_goals (refine end0 hret (by k_asm) (by k_asm) (by walk_at "led_sub") ⟨rfl, _, rfl, ?_⟩)
  all_goals first
    | rfl
set_option maxHeartbeats 4000000 in
theorem em2_spec (w : World) (news) (x y p q : Str) (t1 t2 : Tok) (hx : x.length ≤ 100) (hy : y.length ≤ 101) (hc : (Builtin.Str.occurrences x (Str.ofString "...") 0 x.length 1).isEmpty = false) (hs : Txt.split x dots = [p, q]) (ha : 0 < p.length) (hb : 0 < q.length) (ha1 : p.length ≤ 100) (hb1 : q.length ≤ 100)
   : Ct w 21 [.str x t1, .str y t2] news 5 60 (fun tl r => tl = [] ∧ ∃ b, r = .bool b ∧ em2 y p q = b) := by
  walk_at "ct_fill"
  intro mean mg mb dp un gd cn cs a ccd cl outer A₀ base h₀ L m sh Q E B F X N T hk hdp hun hret
  walk_at "ct_enter"
  k_steps
  all_goals (refine end0 hret (by k_asm) (by k_asm) (by walk_at "led_sub") ⟨rfl, _, rfl, ?_⟩)
  all_goals first
    | exact em2_1 (by with_reducible assumption)
    | exact em2_2 (by with_reducible assumption)
    | exact em2_3 (by with_reducible assumption)
    | exact em2_t (by with_reducible assumption) (by with_reducible assumption) (by with_reducible assumption)
set_option maxHeartbeats 4000000 in
theorem em2l_spec (w : World) (news) (x y p : Str) (t1 t2 : Tok) (hx : x.length ≤ 100) (hy : y.length ≤ 101) (hc : (Builtin.Str.occurrences x (Str.ofString "...") 0 x.length 1).isEmpty = false) (hs : Txt.split x dots = [p, Str.ofString ""]) (ha : 0 < p.length) (ha1 : p.length ≤ 100)
   : Ct w 21 [.str x t1, .str y t2] news 5 60 (fun tl r => tl = [] ∧ ∃ b, r = .bool b ∧ em2l y p = b) := by
  walk_at "ct_fill"
  intro mean mg mb dp un gd cn cs a ccd cl outer A₀ base h₀ L m sh Q E B F X N T hk hdp hun hret
  walk_at "ct_enter"
  k_steps
  all_goals (refine end0 hret (by k_asm) (by k_asm) (by walk_at "led_sub") ⟨rfl, _, rfl, ?_⟩)
  all_goals first
    | exact em2l_1 (by with_reducible assumption)
    | exact em2l_2 (by with_reducible assumption)
    | exact em2l_3 (by with_reducible assumption)
    | exact em2l_t (by with_reducible assumption) (by with_reducible assumption) (by with_reducible assumption)
set_option maxHeartbeats 4000000 in
theorem em2r_spec (w : World) (news) (x y q : Str) (t1 t2 : Tok) (hx : x.length ≤ 100) (hy : y.length ≤ 101) (hc : (Builtin.Str.occurrences x (Str.ofString "...") 0 x.length 1).isEmpty = false) (hs : Txt.split x dots = [Str.ofString "", q]) (hb : 0 < q.length) (hb1 : q.length ≤ 100)
   : Ct w 21 [.str x t1, .str y t2] news 5 60 (fun tl r => tl = [] ∧ ∃ b, r = .bool b ∧ em2r y q = b) := by
  walk_at "ct_fill"
  intro mean mg mb dp un gd cn cs a ccd cl outer A₀ base h₀ L m sh Q E B F X N T hk hdp hun hret
  walk_at "ct_enter"
  k_steps
  all_goals (refine end0 hret (by k_asm) (by k_asm) (by walk_at "led_sub") ⟨rfl, _, rfl, ?_⟩)
  all_goals first
    | exact em2r_1 (by with_reducible assumption)
    | exact em2r_2 (by with_reducible assumption)
    | exact em2r_3 (by with_reducible assumption)
    | exact em2r_t (by with_reducible assumption) (by with_reducible assumption) (by with_reducible assumption)
set_option maxHeartbeats 4000000 in
theorem em3_spec (w : World) (news) (x y p v q : Str) (t1 t2 : Tok) (hx : x.length ≤ 100) (hy : y.length ≤ 101) (hc : (Builtin.Str.occurrences x (Str.ofString "...") 0 x.length 1).isEmpty = false) (hs : Txt.split x dots = [p, v, q]) (ha : 0 < p.length) (hb : 0 < q.length) (ha1 : p.length ≤ 100) (hv1 : v.length ≤ 100) (hb1 : q.length ≤ 100)
   : Ct w 21 [.str x t1, .str y t2] news 5 60 (fun tl r => tl = [] ∧ ∃ b, r = .bool b ∧ em3 y p v q = b) := by
  walk_at "ct_fill"
  intro mean mg mb dp un gd cn cs a ccd cl outer A₀ base h₀ L m sh Q E B F X N T hk hdp hun hret
  walk_at "ct_enter"
  k_steps
  all_goals (refine end0 hret (by k_asm) (by k_asm) (by walk_at "led_sub") ⟨rfl, _, rfl, ?_⟩)
  all_goals first
    | exact em3_1 (by with_reducible assumption)
    | exact em3_2 (by with_reducible assumption)
    | exact em3_3 (by with_reducible assumption)
    | exact em3_4 (by with_reducible assumption)
    | exact em3_t (by with_reducible assumption) (by with_reducible assumption) (by with_reducible assumption) (by with_reducible assumption)
    | (exfalso; first | contradiction | omega)
set_option maxHeartbeats 4000000 in
theorem em4_spec (w : World) (news) (x y c d : Str) (t1 t2 : Tok) (hx : x.length ≤ 100) (hy : y.length ≤ 101) (hc : (Builtin.Str.occurrences x (Str.ofString "...") 0 x.length 1).isEmpty = false) (hs : Txt.split x dots = [Str.ofString "", c, d, Str.ofString ""]) (hc1 : c.length ≤ 100) (hd1 : d.length ≤ 100)
   : Ct w 21 [.str x t1, .str y t2] news 5 60 (fun tl r => tl = [] ∧ ∃ b, r = .bool b ∧ em4 y c d = b) := by
  walk_at "ct_fill"
  intro mean mg mb dp un gd cn cs a ccd cl outer A₀ base h₀ L m sh Q E B F X N T hk hdp hun hret
  walk_at "ct_enter"
  k_steps
  all_goals (refine end0 hret (by k_asm) (by k_asm) (by walk_at "led_sub") ⟨rfl, _, rfl, ?_⟩)
  all_goals first
    | exact em4_1 (by with_reducible assumption)
    | exact em4_2 (by with_reducible assumption)
    | exact em4_3 (by with_reducible assumption)
    | exact em4_4 (by with_reducible assumption)
    | exact em4_t (by with_reducible assumption) (by with_reducible assumption) (by with_reducible assumption) (by with_reducible assumption)

theorem emj_rows1 : True := by
  k_with_none
  w_top off
  k_with "led_sub" => first | exact fun p hp => hp | (intro p hp; repeat' (first | exact hp | refine List.Mem.tail _ ?_))
  k_with "led_lt" => first | assumption | exact ktn_ltOf (by assumption) | exact lt1 (by assumption) | exact lt2 (by assumption) | exact lt3 (by assumption) | exact lt4 (by assumption)
  k_with "ct_fill" => (refine fillIt ?_; k_fill; intro _; unfold Ct)
  k_with "ct_enter" => (refine wpAny_call ?_; k_dflt cell_enter)
  k_with "ct_use" => ((case k1 => k_asm); (case k2 => k_asm); (case k3 => k_asm); (case k4 => k_asm); (case k5 => k_asm); (case kK => first | exact rfl | assumption); (case kd => ktr_room); (case ku => ktr_units))
  k_with "subscriptTail" => (k_here; (with_reducible show wpAny _ _ (subscriptTail _ _ (Value.ref _) (Value.int _ _)) _ _ _); (k_dflt (refine' tup_item ?k1 ?k2 ?k3 ?k4 ?k5 ?k6 ?_; (case k1 => k_asm); (case k2 => first | assumption | k_mem); (case k3 => decide); (case k4 => decide); (case k5 => exact rfl); (case k6 => with_unfolding_all rfl); k_whole)))
  k_with "call builtin:max" => ((with_reducible show wpAny _ _ (call _ [Value.float _ _, Value.float _ _, Value.float _ _]) _ _ _); (rename News _ _ _ _ => N'); (rename Fr _ _ _ _ => F'); refine max3_K rfl F' N' ?_; clear N'; intro _ _ _ _ _)
  k_with "call builtin:min" => ((with_reducible show wpAny _ _ (call _ [Value.float _ _, Value.float _ _, Value.float _ _]) _ _ _); (rename News _ _ _ _ => N'); (rename Fr _ _ _ _ => F'); refine min3_K rfl F' N' ?_; clear N'; intro _ _ _ _ _)
  k_with "subscriptTail" => (k_here; (with_reducible show wpAny _ _ (subscriptTail _ _ (Value.ref _) (Value.int _ _)) _ _ _); (k_dflt (refine' lst_item3 ?k1 ?k2 ?k3 ?k4 ?k6 ?_ ?_ ?_; (case k1 => k_asm); (case k2 => k_mem); (case k3 => omega); (case k4 => omega); (case k6 => with_unfolding_all rfl); all_goals (k_whole; intro hidx))))
  k_with "str_fit" => first | decide +kernel | (simp only [Str.length_append]; omega)
  k_with "binaryOp Add str str" => (k_here; (with_reducible show wpAny _ _ (binaryOp Operator.Add (Value.str _ _) (Value.str _ _)) _ _ _); (refine' add_m ?ksz ?_; (case ksz => walk_at "str_fit")); intro tx' kx' hx'; (try dsimp only at hx'))
  k_with "call builtin:str.replace" => (k_here; (refine' repl_m ?k1 ?k2 ?k3 ?k4 ?k5 ?k6 ?_; (case k1 => (show (0 : Nat) < _); omega); (case k2 => (show (0 : Nat) < _); omega); (case k3 => (show @Ne Nat _ _); omega); (case k4 => decide +kernel); (case k5 => walk_at "str_fit"); (case k6 => walk_at "str_fit")); intro tx' kx' hx'; (try dsimp only at hx'))
  k_with "subscriptTail" => (k_here; (with_reducible show wpAny _ _ (subscriptTail _ _ (Value.str _ _) (Value.int _ _)) _ _ _); (k_dflt (refine' str_item ?k1 ?k2 ?k3 ?k4 ?k5 ?_; (case k1 => omega); (case k2 => first | omega | exact Int.lt_of_lt_of_le (b := 4) (by omega) (by decide +kernel)); (case k3 => first | omega | decide +kernel); (case k4 => with_unfolding_all rfl); (case k5 => (intro _; with_unfolding_all rfl)))); intro hone')
  k_with "subscriptTail Name Slice str ref" => ((with_reducible rename Fr _ _ _ _ => F'); (with_reducible rename News _ _ _ _ => N'); (first
  | ((with_reducible show wpAny _ _ (subscriptTail _ (Expr.Slice (some _) none none _) _ _) _ _ _); (refine' slice_strN_sn_len (s := ⟨_, _, _, _, _⟩) F' N' ?_ (hsz := ?hsz)); (case hsz => walk_at "str_fit"))
  | ((with_reducible show wpAny _ _ (subscriptTail _ (Expr.Slice none (some _) none _) _ _) _ _ _); (refine' slice_strN_ns_len (s := ⟨_, _, _, _, _⟩) F' N' ?_ (hsz := ?hsz)); (case hsz => walk_at "str_fit"))
  | ((with_reducible show wpAny _ _ (subscriptTail _ (Expr.Slice (some _) (some _) none _) _ _) _ _ _); (refine' slice_strN_ss_len (s := ⟨_, _, _, _, _⟩) F' N' ?_ (hsz := ?hsz)); (case hsz => walk_at "str_fit"))); intro _ _ _ _ _ _)
  k_with "call ref" => (k_here; (with_reducible show wpAny _ _ (call (Value.ref 28) _) _ _ _); (k_dflt (refine' Ct.use (rgb_spec _ _ _ _ _ _ _ _ ?p1 ?p2) ?k1 ?k2 ?k3 ?k4 ?k5 ?kK ?kd ?ku ?_; (case p1 => exact RgbOk.h1 (by assumption)); (case p2 => exact RgbOk.h2 (by assumption)); walk_at "ct_use")); intro r' tl' h' tk' F' N' l1 hP'; obtain ⟨D', c', t4', t5', t6', e1', e2', e3'⟩ := hP'; subst e1' e2' e3'; replace l1 := lt_tl1 l1; (try k_lt l1); (simp only [List.cons_append, List.nil_append] at N'); (try k_sweep); (try dsimp only); (try k_fold))
  k_with "call ref" => (k_here; (with_reducible show wpAny _ _ (call (Value.ref 86) _) _ _ _); (k_dflt (refine' Ct.use (p257_spec _ _ _ _ ?p1 ?p2) ?k1 ?k2 ?k3 ?k4 ?k5 ?kK ?kd ?ku ?_; (case p1 => assumption); (case p2 => assumption); walk_at "ct_use")); intro r' tl' h' tk' F' N' l1 hP'; obtain ⟨z', t4', e1', e2', e3'⟩ := hP'; subst e1' e2' e3'; (simp only [List.nil_append] at N'); (try k_sweep); (try dsimp only); (try k_fold))
  k_with "enterS" => (refine' code_defS ?k1 ?k2 ?k3 ?k4 ?k5 ?XB ?TB ?D ?T0 ?kA ?k6 ?k7 ?k8 ?k9 ?kB ?_ ?cK ?c2 ?c3 ?c4 ?c5; (case kA => exact rfl); (case k2 => k_asm); (case k1 => k_asm); (case XB => assumption); (case TB => assumption); (case D => assumption); (case T0 => first | assumption | exact KtsTurn.refl); (case k3 => k_asm); (case k4 => k_asm); (case k5 => k_asm); (case k6 => k_is); (case k7 => k_is); (case k8 => ktr_room); (case k9 => exact BindsTo.of_eq rfl); (case kB => exact locs rfl); (case cK => first | exact rfl | assumption); (case c2 => exact rfl); (case c3 => exact rfl); (case c4 => exact rfl); (case c5 => decide); k_whole; intro g' L' h' FG' F' N' B' X' T' D'; (try dsimp only); (try k_lift B'); (try k_fold))
  k_with "enterS0" => (refine' enter0X ?k1 ?k2 ?k3 ?k4 ?k5 ?kA ?kF ?cK ?k6 ?k7 ?k8 ?k9 ?kB ?_ ?c2 ?c3 ?c4 ?c5; (case kA => exact rfl); (case kF => exact rfl); (case cK => first | exact rfl | assumption); (case k2 => k_asm); (case k1 => k_asm); (case k3 => k_asm); (case k4 => k_asm); (case k5 => k_asm); (case k6 => k_is); (case k7 => k_is); (case k8 => ktr_room); (case k9 => exact BindsTo.of_eq rfl); (case kB => exact locs rfl); (case c2 => exact rfl); (case c3 => exact rfl); (case c4 => exact rfl); (case c5 => decide); k_whole; intro g' L' h' FG' F' N' B' X' T' D'; (try dsimp only); (try k_lift B'); (try k_fold))
  trivial
theorem Ct.mono {w : World} {f : Addr} {vs : List Value} {news : Led} {d u : Nat} {P P' : Led → Value → Prop} (C : Ct w f vs news d u P) (h : ∀ tl r, P tl r → P' tl r) : Ct w f vs news d u P' := by
  unfold Ct at C ⊢
  intro mean mg mb dp un gd cn cs a ccd cl outer A₀ base h₀ L m s Q E B F X N T hk hd hu ret
  exact C mean mg mb dp un gd cn cs a ccd cl outer A₀ base h₀ L m s Q E B F X N T hk hd hu fun r tl h' tk' F' N' lt p => ret r tl h' tk' F' N' lt (h _ _ p)
theorem em_spec (w : World) (news) (x y : Str) (t1 t2 : Tok) (hx : EmOk x) (hy : y.length ≤ 101) : Ct w 21 [.str x t1, .str y t2] news 5 60 (fun tl r => tl = [] ∧ ∃ b, r = .bool b ∧ em x y = b) := by
  have hl := hx.len
  rcases hx.ok with hc | ⟨hc, ⟨p, q, hs, h1, h2, h3, h4⟩ | ⟨p, hs, h1, h2⟩ | ⟨q, hs, h1, h2⟩ | ⟨p, c, q, hs, h1, h2, h3, h4, h5⟩ | ⟨c, d, hs, h1, h2⟩⟩
  · refine (em0_spec w news x y t1 t2 hl hy hc).mono fun tl r ⟨e1, b, e2, e3⟩ => ⟨e1, b, e2, ?_⟩
    unfold em; rw [if_pos hc]; exact e3
  all_goals have hc' : ¬ (Builtin.Str.occurrences x (Str.ofString "...") 0 x.length 1).isEmpty = true := by rw [hc]; decide
  · refine (em2_spec w news x y p q t1 t2 hl hy hc hs h1 h2 h3 h4).mono fun tl r ⟨e1, b, e2, e3⟩ => ⟨e1, b, e2, ?_⟩
    unfold em; rw [if_neg hc', hs]; dsimp only; rw [if_neg (by omega), if_neg (by omega)]; exact e3
  · refine (em2l_spec w news x y p t1 t2 hl hy hc hs h1 h2).mono fun tl r ⟨e1, b, e2, e3⟩ => ⟨e1, b, e2, ?_⟩
    unfold em; rw [if_neg hc', hs]; dsimp only; rw [if_neg (by omega), if_pos (by rfl)]; exact e3
  · refine (em2r_spec w news x y q t1 t2 hl hy hc hs h1 h2).mono fun tl r ⟨e1, b, e2, e3⟩ => ⟨e1, b, e2, ?_⟩
    unfold em; rw [if_neg hc', hs]; dsimp only; rw [if_pos (by rfl)]; exact e3
  · refine (em3_spec w news x y p c q t1 t2 hl hy hc hs h1 h2 h3 h4 h5).mono fun tl r ⟨e1, b, e2, e3⟩ => ⟨e1, b, e2, ?_⟩
    unfold em; rw [if_neg hc', hs]; exact e3
  · refine (em4_spec w news x y c d t1 t2 hl hy hc hs h1 h2).mono fun tl r ⟨e1, b, e2, e3⟩ => ⟨e1, b, e2, ?_⟩
    unfold em; rw [if_neg hc', hs]; exact e3

theorem fll_rows1 : True := by
  k_with_none
  w_top off
  k_with "led_sub" => first | exact fun p hp => hp | (intro p hp; repeat' (first | exact hp | refine List.Mem.tail _ ?_))
  k_with "led_lt" => first | assumption | exact ktn_ltOf (by assumption) | exact lt1 (by assumption) | exact lt2 (by assumption) | exact lt3 (by assumption) | exact lt4 (by assumption)
  k_with "ct_fill" => (refine fillIt ?_; k_fill; intro _; unfold Ct)
  k_with "ct_enter" => (refine wpAny_call ?_; k_dflt cell_enter)
  k_with "ct_use" => ((case k1 => k_asm); (case k2 => k_asm); (case k3 => k_asm); (case k4 => k_asm); (case k5 => k_asm); (case kK => first | exact rfl | assumption); (case kd => ktr_room); (case ku => ktr_units))
  k_with "subscriptTail" => (k_here; (with_reducible show wpAny _ _ (subscriptTail _ _ (Value.ref _) (Value.int _ _)) _ _ _); (k_dflt (refine' tup_item ?k1 ?k2 ?k3 ?k4 ?k5 ?k6 ?_; (case k1 => k_asm); (case k2 => first | assumption | k_mem); (case k3 => decide); (case k4 => decide); (case k5 => exact rfl); (case k6 => with_unfolding_all rfl); k_whole)))
  k_with "call builtin:max" => ((with_reducible show wpAny _ _ (call _ [Value.float _ _, Value.float _ _, Value.float _ _]) _ _ _); (rename News _ _ _ _ => N'); (rename Fr _ _ _ _ => F'); refine max3_K rfl F' N' ?_; clear N'; intro _ _ _ _ _)
  k_with "call builtin:min" => ((with_reducible show wpAny _ _ (call _ [Value.float _ _, Value.float _ _, Value.float _ _]) _ _ _); (rename News _ _ _ _ => N'); (rename Fr _ _ _ _ => F'); refine min3_K rfl F' N' ?_; clear N'; intro _ _ _ _ _)
  k_with "subscriptTail" => (k_here; (with_reducible show wpAny _ _ (subscriptTail _ _ (Value.ref _) (Value.int _ _)) _ _ _); (k_dflt (refine' lst_item3 ?k1 ?k2 ?k3 ?k4 ?k6 ?_ ?_ ?_; (case k1 => k_asm); (case k2 => k_mem); (case k3 => omega); (case k4 => omega); (case k6 => with_unfolding_all rfl); all_goals (k_whole; intro hidx))))
  k_with "str_fit" => first | decide +kernel | (simp only [Str.length_append]; omega)
  k_with "binaryOp Add str str" => (k_here; (with_reducible show wpAny _ _ (binaryOp Operator.Add (Value.str _ _) (Value.str _ _)) _ _ _); (refine' add_m ?ksz ?_; (case ksz => walk_at "str_fit")); intro tx' kx' hx'; (try dsimp only at hx'))
  k_with "call builtin:str.replace" => (k_here; (refine' repl_m ?k1 ?k2 ?k3 ?k4 ?k5 ?k6 ?_; (case k1 => (show (0 : Nat) < _); omega); (case k2 => (show (0 : Nat) < _); omega); (case k3 => (show @Ne Nat _ _); omega); (case k4 => decide +kernel); (case k5 => walk_at "str_fit"); (case k6 => walk_at "str_fit")); intro tx' kx' hx'; (try dsimp only at hx'))
  k_with "subscriptTail" => (k_here; (with_reducible show wpAny _ _ (subscriptTail _ _ (Value.str _ _) (Value.int _ _)) _ _ _); (k_dflt (refine' str_item ?k1 ?k2 ?k3 ?k4 ?k5 ?_; (case k1 => omega); (case k2 => first | omega | exact Int.lt_of_lt_of_le (b := 4) (by omega) (by decide +kernel)); (case k3 => first | omega | decide +kernel); (case k4 => with_unfolding_all rfl); (case k5 => (intro _; with_unfolding_all rfl)))); intro hone')
  k_with "subscriptTail Name Slice str ref" => ((with_reducible rename Fr _ _ _ _ => F'); (with_reducible rename News _ _ _ _ => N'); (first
  | ((with_reducible show wpAny _ _ (subscriptTail _ (Expr.Slice (some _) none none _) _ _) _ _ _); (refine' slice_strN_sn_len (s := ⟨_, _, _, _, _⟩) F' N' ?_ (hsz := ?hsz)); (case hsz => walk_at "str_fit"))
  | ((with_reducible show wpAny _ _ (subscriptTail _ (Expr.Slice none (some _) none _) _ _) _ _ _); (refine' slice_strN_ns_len (s := ⟨_, _, _, _, _⟩) F' N' ?_ (hsz := ?hsz)); (case hsz => walk_at "str_fit"))
  | ((with_reducible show wpAny _ _ (subscriptTail _ (Expr.Slice (some _) (some _) none _) _ _) _ _ _); (refine' slice_strN_ss_len (s := ⟨_, _, _, _, _⟩) F' N' ?_ (hsz := ?hsz)); (case hsz => walk_at "str_fit"))); intro _ _ _ _ _ _)
  k_with "call ref" => (k_here; (with_reducible show wpAny _ _ (call (Value.ref 28) _) _ _ _); (k_dflt (refine' Ct.use (rgb_spec _ _ _ _ _ _ _ _ ?p1 ?p2) ?k1 ?k2 ?k3 ?k4 ?k5 ?kK ?kd ?ku ?_; (case p1 => exact RgbOk.h1 (by assumption)); (case p2 => exact RgbOk.h2 (by assumption)); walk_at "ct_use")); intro r' tl' h' tk' F' N' l1 hP'; obtain ⟨D', c', t4', t5', t6', e1', e2', e3'⟩ := hP'; subst e1' e2' e3'; replace l1 := lt_tl1 l1; (try k_lt l1); (simp only [List.cons_append, List.nil_append] at N'); (try k_sweep); (try dsimp only); (try k_fold))
  k_with "call ref" => (k_here; (with_reducible show wpAny _ _ (call (Value.ref 86) _) _ _ _); (k_dflt (refine' Ct.use (p257_spec _ _ _ _ ?p1 ?p2) ?k1 ?k2 ?k3 ?k4 ?k5 ?kK ?kd ?ku ?_; (case p1 => assumption); (case p2 => assumption); walk_at "ct_use")); intro r' tl' h' tk' F' N' l1 hP'; obtain ⟨z', t4', e1', e2', e3'⟩ := hP'; subst e1' e2' e3'; (simp only [List.nil_append] at N'); (try k_sweep); (try dsimp only); (try k_fold))
  k_with "enterS" => (refine' code_defS ?k1 ?k2 ?k3 ?k4 ?k5 ?XB ?TB ?D ?T0 ?kA ?k6 ?k7 ?k8 ?k9 ?kB ?_ ?cK ?c2 ?c3 ?c4 ?c5; (case kA => exact rfl); (case k2 => k_asm); (case k1 => k_asm); (case XB => assumption); (case TB => assumption); (case D => assumption); (case T0 => first | assumption | exact KtsTurn.refl); (case k3 => k_asm); (case k4 => k_asm); (case k5 => k_asm); (case k6 => k_is); (case k7 => k_is); (case k8 => ktr_room); (case k9 => exact BindsTo.of_eq rfl); (case kB => exact locs rfl); (case cK => first | exact rfl | assumption); (case c2 => exact rfl); (case c3 => exact rfl); (case c4 => exact rfl); (case c5 => decide); k_whole; intro g' L' h' FG' F' N' B' X' T' D'; (try dsimp only); (try k_lift B'); (try k_fold))
  k_with "enterS0" => (refine' enter0X ?k1 ?k2 ?k3 ?k4 ?k5 ?kA ?kF ?cK ?k6 ?k7 ?k8 ?k9 ?kB ?_ ?c2 ?c3 ?c4 ?c5; (case kA => exact rfl); (case kF => exact rfl); (case cK => first | exact rfl | assumption); (case k2 => k_asm); (case k1 => k_asm); (case k3 => k_asm); (case k4 => k_asm); (case k5 => k_asm); (case k6 => k_is); (case k7 => k_is); (case k8 => ktr_room); (case k9 => exact BindsTo.of_eq rfl); (case kB => exact locs rfl); (case c2 => exact rfl); (case c3 => exact rfl); (case c4 => exact rfl); (case c5 => decide); k_whole; intro g' L' h' FG' F' N' B' X' T' D'; (try dsimp only); (try k_lift B'); (try k_fold))
  k_with "call ref" => (k_here; (with_reducible show wpAny _ _ (call (Value.ref 21) _) _ _ _); (k_dflt (refine' Ct.use (em_spec _ _ _ _ _ _ ?p1 ?p2) ?k1 ?k2 ?k3 ?k4 ?k5 ?kK ?kd ?ku ?_; (case p1 => walk_at "em_ok"); (case p2 => walk_at "em_len"); walk_at "ct_use")); intro r' tl' h' tk' F' N' l1 hP'; obtain ⟨e1', b', e2', e3'⟩ := hP'; subst e1' e2'; (simp only [List.nil_append] at N'); (try k_sweep); (try dsimp only); (try k_fold))
  k_with "em_len" => omega
  k_with "em_ok" => assumption
  trivial
def fll (x n : Str) : Int := (if em (x ++ dots) n = true then 1 else 0) - (if em (dots ++ x) n = true then 1 else 0)
def duel (x y n : Str) : Int := if em (dots ++ x ++ dots ++ y ++ dots) n = true then 1 else 0
set_option maxHeartbeats 4000000 in
theorem fll_spec (w : World) (news) (x n : Str) (t1 t2 : Tok) (hx : x.length ≤ 10) (hn : n.length ≤ 10) (o1 : EmOk (x ++ dots)) (o2 : EmOk (dots ++ x))
   : Ct w 133 [.str x t1, .str n t2] news 7 90 (fun tl r => tl = [] ∧ ∃ i t, r = .int i t ∧ fll x n = i) := by
  walk_at "ct_fill"
  intro mean mg mb dp un gd cn cs a ccd cl outer A₀ base h₀ L m sh Q E B F X N T hk hdp hun hret
  walk_at "ct_enter"
  k_steps
  all_goals (refine end0 hret (by k_asm) (by k_asm) (by walk_at "led_sub") ⟨rfl, _, _, rfl, ?_⟩)
  all_goals (clear hret; subst_vars; unfold fll)
  all_goals (simp_all)
set_option maxHeartbeats 4000000 in
theorem duel_spec (w : World) (news) (x y n : Str) (t1 t2 t3 : Tok) (hx : x.length ≤ 10) (hy : y.length ≤ 10) (hn : n.length ≤ 10) (o1 : EmOk (dots ++ x ++ dots ++ y ++ dots))
   : Ct w 126 [.str x t1, .str y t2, .str n t3] news 7 90 (fun tl r => tl = [] ∧ ∃ i t, r = .int i t ∧ duel x y n = i) := by
  walk_at "ct_fill"
  intro mean mg mb dp un gd cn cs a ccd cl outer A₀ base h₀ L m sh Q E B F X N T hk hdp hun hret
  walk_at "ct_enter"
  k_steps
  all_goals (refine end0 hret (by k_asm) (by k_asm) (by walk_at "led_sub") ⟨rfl, _, _, rfl, ?_⟩)
  all_goals (clear hret; subst_vars; unfold duel)
  all_goals (simp_all)

theorem loop_rows1 : True := by
  k_with_none
  w_top off
  k_with "led_sub" => first | exact fun p hp => hp | (intro p hp; repeat' (first | exact hp | refine List.Mem.tail _ ?_))
  k_with "led_lt" => first | assumption | exact ktn_ltOf (by assumption) | exact lt1 (by assumption) | exact lt2 (by assumption) | exact lt3 (by assumption) | exact lt4 (by assumption)
  k_with "ct_fill" => (refine fillIt ?_; k_fill; intro _; unfold Ct)
  k_with "ct_enter" => (refine wpAny_call ?_; k_dflt cell_enter)
  k_with "ct_use" => ((case k1 => k_asm); (case k2 => k_asm); (case k3 => k_asm); (case k4 => k_asm); (case k5 => k_asm); (case kK => first | exact rfl | assumption); (case kd => ktr_room); (case ku => ktr_units))
  k_with "subscriptTail" => (k_here; (with_reducible show wpAny _ _ (subscriptTail _ _ (Value.ref _) (Value.int _ _)) _ _ _); (k_dflt (refine' tup_item ?k1 ?k2 ?k3 ?k4 ?k5 ?k6 ?_; (case k1 => k_asm); (case k2 => first | assumption | k_mem); (case k3 => decide); (case k4 => decide); (case k5 => exact rfl); (case k6 => with_unfolding_all rfl); k_whole)))
  k_with "call builtin:max" => ((with_reducible show wpAny _ _ (call _ [Value.float _ _, Value.float _ _, Value.float _ _]) _ _ _); (rename News _ _ _ _ => N'); (rename Fr _ _ _ _ => F'); refine max3_K rfl F' N' ?_; clear N'; intro _ _ _ _ _)
  k_with "call builtin:min" => ((with_reducible show wpAny _ _ (call _ [Value.float _ _, Value.float _ _, Value.float _ _]) _ _ _); (rename News _ _ _ _ => N'); (rename Fr _ _ _ _ => F'); refine min3_K rfl F' N' ?_; clear N'; intro _ _ _ _ _)
  k_with "subscriptTail" => (k_here; (with_reducible show wpAny _ _ (subscriptTail _ _ (Value.ref _) (Value.int _ _)) _ _ _); (k_dflt (refine' lst_item3 ?k1 ?k2 ?k3 ?k4 ?k6 ?_ ?_ ?_; (case k1 => k_asm); (case k2 => k_mem); (case k3 => omega); (case k4 => omega); (case k6 => with_unfolding_all rfl); all_goals (k_whole; intro hidx))))
  k_with "str_fit" => first | decide +kernel | (simp only [Str.length_append]; omega)
  k_with "binaryOp Add str str" => (k_here; (with_reducible show wpAny _ _ (binaryOp Operator.Add (Value.str _ _) (Value.str _ _)) _ _ _); (refine' add_m ?ksz ?_; (case ksz => walk_at "str_fit")); intro tx' kx' hx'; (try dsimp only at hx'))
  k_with "call builtin:str.replace" => (k_here; (refine' repl_m ?k1 ?k2 ?k3 ?k4 ?k5 ?k6 ?_; (case k1 => (show (0 : Nat) < _); omega); (case k2 => (show (0 : Nat) < _); omega); (case k3 => (show @Ne Nat _ _); omega); (case k4 => decide +kernel); (case k5 => walk_at "str_fit"); (case k6 => walk_at "str_fit")); intro tx' kx' hx'; (try dsimp only at hx'))
  k_with "subscriptTail" => (k_here; (with_reducible show wpAny _ _ (subscriptTail _ _ (Value.str _ _) (Value.int _ _)) _ _ _); (k_dflt (refine' str_item ?k1 ?k2 ?k3 ?k4 ?k5 ?_; (case k1 => omega); (case k2 => first | omega | exact Int.lt_of_lt_of_le (b := 4) (by omega) (by decide +kernel)); (case k3 => first | omega | decide +kernel); (case k4 => with_unfolding_all rfl); (case k5 => (intro _; with_unfolding_all rfl)))); intro hone')
  k_with "subscriptTail Name Slice str ref" => ((with_reducible rename Fr _ _ _ _ => F'); (with_reducible rename News _ _ _ _ => N'); (first
  | ((with_reducible show wpAny _ _ (subscriptTail _ (Expr.Slice (some _) none none _) _ _) _ _ _); (refine' slice_strN_sn_len (s := ⟨_, _, _, _, _⟩) F' N' ?_ (hsz := ?hsz)); (case hsz => walk_at "str_fit"))
  | ((with_reducible show wpAny _ _ (subscriptTail _ (Expr.Slice none (some _) none _) _ _) _ _ _); (refine' slice_strN_ns_len (s := ⟨_, _, _, _, _⟩) F' N' ?_ (hsz := ?hsz)); (case hsz => walk_at "str_fit"))
  | ((with_reducible show wpAny _ _ (subscriptTail _ (Expr.Slice (some _) (some _) none _) _ _) _ _ _); (refine' slice_strN_ss_len (s := ⟨_, _, _, _, _⟩) F' N' ?_ (hsz := ?hsz)); (case hsz => walk_at "str_fit"))); intro _ _ _ _ _ _)
  k_with "call ref" => (k_here; (with_reducible show wpAny _ _ (call (Value.ref 28) _) _ _ _); (k_dflt (refine' Ct.use (rgb_spec _ _ _ _ _ _ _ _ ?p1 ?p2) ?k1 ?k2 ?k3 ?k4 ?k5 ?kK ?kd ?ku ?_; (case p1 => exact RgbOk.h1 (by assumption)); (case p2 => exact RgbOk.h2 (by assumption)); walk_at "ct_use")); intro r' tl' h' tk' F' N' l1 hP'; obtain ⟨D', c', t4', t5', t6', e1', e2', e3'⟩ := hP'; subst e1' e2' e3'; replace l1 := lt_tl1 l1; (try k_lt l1); (simp only [List.cons_append, List.nil_append] at N'); (try k_sweep); (try dsimp only); (try k_fold))
  k_with "call ref" => (k_here; (with_reducible show wpAny _ _ (call (Value.ref 86) _) _ _ _); (k_dflt (refine' Ct.use (p257_spec _ _ _ _ ?p1 ?p2) ?k1 ?k2 ?k3 ?k4 ?k5 ?kK ?kd ?ku ?_; (case p1 => assumption); (case p2 => assumption); walk_at "ct_use")); intro r' tl' h' tk' F' N' l1 hP'; obtain ⟨z', t4', e1', e2', e3'⟩ := hP'; subst e1' e2' e3'; (simp only [List.nil_append] at N'); (try k_sweep); (try dsimp only); (try k_fold))
  k_with "enterS" => (refine' code_defS ?k1 ?k2 ?k3 ?k4 ?k5 ?XB ?TB ?D ?T0 ?kA ?k6 ?k7 ?k8 ?k9 ?kB ?_ ?cK ?c2 ?c3 ?c4 ?c5; (case kA => exact rfl); (case k2 => k_asm); (case k1 => k_asm); (case XB => assumption); (case TB => assumption); (case D => assumption); (case T0 => first | assumption | exact KtsTurn.refl); (case k3 => k_asm); (case k4 => k_asm); (case k5 => k_asm); (case k6 => k_is); (case k7 => k_is); (case k8 => ktr_room); (case k9 => exact BindsTo.of_eq rfl); (case kB => exact locs rfl); (case cK => first | exact rfl | assumption); (case c2 => exact rfl); (case c3 => exact rfl); (case c4 => exact rfl); (case c5 => decide); k_whole; intro g' L' h' FG' F' N' B' X' T' D'; (try dsimp only); (try k_lift B'); (try k_fold))
  k_with "enterS0" => (refine' enter0X ?k1 ?k2 ?k3 ?k4 ?k5 ?kA ?kF ?cK ?k6 ?k7 ?k8 ?k9 ?kB ?_ ?c2 ?c3 ?c4 ?c5; (case kA => exact rfl); (case kF => exact rfl); (case cK => first | exact rfl | assumption); (case k2 => k_asm); (case k1 => k_asm); (case k3 => k_asm); (case k4 => k_asm); (case k5 => k_asm); (case k6 => k_is); (case k7 => k_is); (case k8 => ktr_room); (case k9 => exact BindsTo.of_eq rfl); (case kB => exact locs rfl); (case c2 => exact rfl); (case c3 => exact rfl); (case c4 => exact rfl); (case c5 => decide); k_whole; intro g' L' h' FG' F' N' B' X' T' D'; (try dsimp only); (try k_lift B'); (try k_fold))
  k_with "call ref" => (k_here; (with_reducible show wpAny _ _ (call (Value.ref 21) _) _ _ _); (k_dflt (refine' Ct.use (em_spec _ _ _ _ _ _ ?p1 ?p2) ?k1 ?k2 ?k3 ?k4 ?k5 ?kK ?kd ?ku ?_; (case p1 => walk_at "em_ok"); (case p2 => walk_at "em_len"); walk_at "ct_use")); intro r' tl' h' tk' F' N' l1 hP'; obtain ⟨e1', b', e2', e3'⟩ := hP'; subst e1' e2'; (simp only [List.nil_append] at N'); (try k_sweep); (try dsimp only); (try k_fold))
  k_with "em_len" => omega
  k_with "em_ok" => assumption
  trivial
section
variable {prog : Program} {w : World} {A : Around} {E : Value → Shared → Prop} {s : Shared} {g : Heap} {L D : Addr} {m : Str → Option Value} {rest : Led} {vs : List Value} {v : Value} {n : Nat} {Q : Value → Shared → Prop}
/-- append to a list that stands first in the ledger -/
theorem app_led (F : Fr g L s.heap m) (N : News g L s.heap ((D, listOf vs.toArray n) :: rest)) (hne : ∀ p ∈ rest, p.1 ≠ D) (hsz : vs.length ≤ 1000)
    (h : ∀ h', Fr g L h' m → News g L h' ((D, listOf (vs ++ [v]).toArray (n + 1)) :: rest) → Q .none { s with heap := h' }) : wpAny (model prog w) A (call (.builtin "list.append") [.ref D, v]) Q E s := by
  have hD := N _ (.head _)
  have hl : s.heap.IsList D vs.toArray := ⟨_, hD.1, rfl, n, rfl⟩
  refine wpAny_call_entry slot_list_append hl.typeIs entry_list_append ?_ (args_list_append _ _)
  show wpAny _ _ (updateSeq D (·.push v) >>= fun _ => ret .none) _ _ s
  refine wpAny_bind ?_
  refine wpAny_updateSeq (hz := by rw [List.size_toArray, sizeLine_eq]; omega) hD.1 rfl (wpAny_pure ⟨.none, rfl, h _ ?_ ?_⟩)
  · have sb : Heap.SameBut D s.heap (s.heap.update D (Obj.mapSeq (·.push v))) := Heap.SameBut.update ..
    exact F.change sb hD.2.1 hD.2.2
  · intro p hp
    rcases List.mem_cons.mp hp with rfl | hp
    · refine ⟨?_, hD.2⟩
      refine (Heap.get?_update_self _ hD.1 rfl).trans ?_
      simp [W.listOf, Obj.mapSeq]
    · exact ⟨(Heap.get?_update_other _ _ (Ne.symm (hne p hp))).trans (N p (.tail _ hp)).1, (N p (.tail _ hp)).2⟩
end
section
variable (g : Heap) (env : Env) (I : Addr) (Q : Flow → Shared → Prop) (s : Shared)
def TurnEnd (o : Obj) (J : (Str → Option Value) → Led → Prop) (f : Flow) (s' : Shared) : Prop := match f with
  | .ret v => Q (.ret v) s'
  | .brk => Q .next s'
  | _ => ∃ m' h' tk' news', s' = { s with heap := h', toks := tk' } ∧ Fr g env.locals h' m' ∧ News g env.locals h' ((I, o) :: news') ∧ (∀ q ∈ news', q.1 ≠ I) ∧ J m' news'
end
section
variable {prog : Program} {w : World} {A : Around} {E : Value → Shared → Prop} {s : Shared} {env : Env} {g : Heap} {m : Str → Option Value} {news : Led} {D : Addr} {n : Nat} {target : Expr} {body : List Stmt} {Q : Flow → Shared → Prop} {vs : List Value}
/-- a for over a made list, by an invariant over the turn's number, the frame and the ledger -/
theorem iterC (hh : A.handled = none) (F : Fr g env.locals s.heap m) (N : News g env.locals s.heap news) (hD : (D, listOf vs.toArray n) ∈ news) (ht : ∀ it v, letOwnedTupleGo target it v = pure ())
    (J : Nat → (Str → Option Value) → Led → Prop) (J0 : J 0 m news) (hk : ∀ i m' news', J i m' news' → (D, listOf vs.toArray n) ∈ news')
    (turn : ∀ i v m₁ news₁ I o h tk, vs[i]? = some v → J i m₁ news₁ → Fr g env.locals h m₁ → News g env.locals h ((I, o) :: news₁) → (∀ q ∈ news₁, q.1 ≠ I) →
      wpAny (model prog w) A (assign target env v) (fun _ s₂ => wpC (model prog w) A (execs body env) (TurnEnd g env I Q s o (J (i + 1))) NoE s₂) NoE { s with heap := h, toks := tk })
    (fin : ∀ h tk m' news', J vs.length m' news' → Fr g env.locals h m' → News g env.locals h news' → Q .next { s with heap := h, toks := tk }) :
    wpAny (model prog w) A (pyIter (.ref D)) (fun it s₂ => codeC (model prog w) A (.forLoop target it body [] env) (fun r s' => match r with | .ok f => Q f s' | .error _ => False) s₂) E s := by
  have hl : s.heap.IsList D vs.toArray := lstN (vs := vs) N hD
  have hDlt : D < s.heap.objs.size := Heap.lt_size (N _ hD).1
  have hL : env.locals < s.heap.objs.size := F.ns.lt
  refine wpAny_pyIter_list hl ?_
  have F1 := F.push ({ cls := .type "list_iterator", data := .fields #[.ref D, .int 0 0] } : Obj)
  have hnew : g.get? s.heap.objs.size = none := next_is_new F
  refine codeC.forLoop (fun k s' => ∃ i m₁ news₁ o h' tk, k = vs.length - i ∧ i ≤ vs.length ∧ s' = { s with heap := h', toks := tk } ∧ Fr g env.locals h' m₁ ∧ News g env.locals h' ((s.heap.objs.size, o) :: news₁) ∧ (∀ q ∈ news₁, q.1 ≠ s.heap.objs.size) ∧
    o.cls = .type "list_iterator" ∧ o.data = .fields #[.ref D, .int i 0] ∧ J i m₁ news₁) (fun k s' hI => ?_) vs.length
    ⟨0, m, news, { cls := .type "list_iterator", data := .fields #[.ref D, .int 0 0] }, _, s.toks, rfl, Nat.zero_le _, rfl, F1, fun q hq => ?_, fun q hq => Nat.ne_of_lt (Heap.lt_size (N q hq).1), rfl, rfl, J0⟩ (ht _)
  · obtain ⟨i, m₁, news₁, o, h', tk, rfl, hi, rfl, F₁, N₁, hne, oc, od, hJ⟩ := hI
    have hit : h'.IsListIter s.heap.objs.size D i := ⟨o, (N₁ _ (.head _)).1, oc, od⟩
    have hl' : h'.IsList D vs.toArray := lstN (vs := vs) (a := D) N₁ (.tail _ (hk i _ _ hJ))
    by_cases hlt : i < vs.length
    · have hx' : vs.toArray[i]? = some vs[i] := by simp [hlt]
      refine wpAny_pyNext_list_item hit hl' hx' fun h₁ hit₁ hs₁ => ?_
      have F₂ : Fr g env.locals h₁ m₁ := ⟨F₁.ns.sameBut hs₁ (Nat.ne_of_lt hL), fun b o e => (hs₁.2 b (fun eb => by rw [eb, hnew] at e; cases e)).trans (F₁.keep b o e), F₁.above⟩
      obtain ⟨o₁, ho₁, oc₁, od₁⟩ := hit₁
      have N₂ : News g env.locals h₁ ((s.heap.objs.size, o₁) :: news₁) := fun q hq => by
        rcases List.mem_cons.mp hq with rfl | hq
        · exact ⟨ho₁, (N₁ _ (.head _)).2⟩
        · exact ⟨(hs₁.2 _ (hne q hq)).trans (N₁ q (.tail _ hq)).1, (N₁ q (.tail _ hq)).2⟩
      refine wpAny_mono (turn i vs[i] m₁ news₁ _ o₁ h₁ _ (List.getElem?_eq_getElem hlt) hJ F₂ N₂ hne) (fun _ s₂ h₂ => h₂.mono (fun f s₃ h₃ => ?_) fun _ _ e => e) fun _ _ e => e
      cases f with
      | next =>
        obtain ⟨m', h'', tk'', news', e, F', N', ne', r⟩ := h₃
        exact ⟨vs.length - (i + 1), by omega, i + 1, m', news', o₁, h'', tk'', rfl, hlt, e, F', N', ne', oc₁, od₁, r⟩
      | cont =>
        obtain ⟨m', h'', tk'', news', e, F', N', ne', r⟩ := h₃
        exact ⟨vs.length - (i + 1), by omega, i + 1, m', news', o₁, h'', tk'', rfl, hlt, e, F', N', ne', oc₁, od₁, r⟩
      | brk => exact h₃
      | ret v => exact h₃
    · have hin : i = vs.length := by omega
      subst hin
      refine wpAny_pyNext_list_end hh hit hl' (by simp) fun h₁ he => ?_
      exact fin _ _ _ _ hJ ⟨F₁.ns.extBut he (Nat.ne_of_lt hL), fun b o e => he b o (fun eb => by rw [eb, hnew] at e; cases e) (F₁.keep b o e), F₁.above⟩ fun q hq => ⟨he _ _ (hne q hq) (N₁ q (.tail _ hq)).1, (N₁ q (.tail _ hq)).2⟩
  · rcases List.mem_cons.mp hq with rfl | hq
    · exact ⟨Heap.get?_push_size _ rfl, Nat.ne_of_gt hL, hnew⟩
    · exact ⟨Heap.get?_push_of_some _ (N q hq).1, (N q hq).2⟩
end
theorem ints_get : ∀ {vs : List Value} {ns : List Int} {i : Nat} {v : Value}, IntsAre vs ns → vs[i]? = some v → ∃ y t, v = .int y t ∧ ns[i]? = some y
  | _, _, 0, v, .cons n t r, h => ⟨n, t, (Option.some.inj h).symm, rfl⟩
  | _, _, i + 1, v, .cons n t r, h => ints_get (i := i) r h
  | _, _, 0, v, .nil, h => nomatch h
  | _, _, i + 1, v, .nil, h => nomatch h
theorem take_snoc {α : Type} {l : List α} {i : Nat} {y : α} (h : l[i]? = some y) : l.take (i + 1) = l.take i ++ [y] := by
  rw [List.take_add_one, h]; rfl
theorem AllLt.all {D : Addr} {news : Led} (h : AllLt D news) : ∀ p ∈ news, p.1 < D := ktn_ltOf h
theorem newTuple_led {prog : Program} {w : World} {A : Around} {E : Value → Shared → Prop} {s : Shared} {g : Heap} {L : Addr} {m : Str → Option Value} {news : Led} {vs : List Value} {Q : Value → Shared → Prop} (F : Fr g L s.heap m) (N : News g L s.heap news)
    (hsz : vs.length ≤ 1000) (h : ∀ D h', Fr g L h' m → News g L h' ((D, tupO vs) :: news) → (∀ p ∈ news, p.1 < D) → Q (.ref D) { s with heap := h' }) : wpAny (model prog w) A (newTuple vs) Q E s := by
  unfold newTuple
  refine wpAny_newObj_type (h _ _ (F.push _) (fun p hp => ?_) fun p hp => Heap.lt_size (N p hp).1) (hd := by unfold sizeOk; simp [sizeLine_eq]; omega)
  rcases List.mem_cons.mp hp with rfl | hp
  · exact ⟨Heap.get?_push_size _ rfl, Nat.ne_of_gt F.ns.lt, next_is_new F⟩
  · exact ⟨Heap.get?_push_of_some _ (N p hp).1, (N p hp).2⟩
theorem app_third {prog : Program} {w : World} {A : Around} {E : Value → Shared → Prop} {s : Shared} {g : Heap} {L D : Addr} {m : Str → Option Value} {t i : Addr × Obj} {rest : Led} {vs : List Value} {v : Value} {n : Nat} {Q : Value → Shared → Prop}
    (F : Fr g L s.heap m) (N : News g L s.heap (t :: i :: (D, listOf vs.toArray n) :: rest)) (h1 : t.1 ≠ D) (h2 : i.1 ≠ D) (hne : ∀ p ∈ rest, p.1 ≠ D) (hsz : vs.length ≤ 1000)
    (h : ∀ h', Fr g L h' m → News g L h' ((D, listOf (vs ++ [v]).toArray (n + 1)) :: t :: i :: rest) → Q .none { s with heap := h' }) : wpAny (model prog w) A (call (.builtin "list.append") [.ref D, v]) Q E s := by
  refine app_led (rest := t :: i :: rest) F (fun p hp => N p ?_) (fun p hp => ?_) hsz h
  · rcases List.mem_cons.mp hp with rfl | hp
    · exact .tail _ (.tail _ (.head _))
    · rcases List.mem_cons.mp hp with rfl | hp
      · exact .head _
      · rcases List.mem_cons.mp hp with rfl | hp
        · exact .tail _ (.head _)
        · exact .tail _ (.tail _ (.tail _ hp))
  · rcases List.mem_cons.mp hp with rfl | hp
    · exact h1
    · rcases List.mem_cons.mp hp with rfl | hp
      · exact h2
      · exact hne p hp
def AllEnd (g : Heap) (env : Env) (m : Str → Option Value) (x : Str) (I : Addr) (o : Obj) (news : Led) (Q : Flow → Shared → Prop) (s : Shared) (f : Flow) (s' : Shared) : Prop := match f with
  | .ret v => Q (.ret v) s'
  | .brk => Q .next s'
  | _ => ∃ yv h' tk', s' = { s with heap := h', toks := tk' } ∧ Fr g env.locals h' (fun y => if y = x then yv else m y) ∧ News g env.locals h' ((I, o) :: news)
theorem AllEnd.next {g : Heap} {env : Env} {m m1 : Str → Option Value} {x : Str} {I : Addr} {o : Obj} {news all : Led} {Q : Flow → Shared → Prop} {s : Shared} {h' : Heap} {tk' : Nat} {yv : Option Value} (F : Fr g env.locals h' m1) (e : ∀ y, m1 y = if y = x then yv else m y) (N : News g env.locals h' all) (hs : ∀ p ∈ (I, o) :: news, p ∈ all) :
    AllEnd g env m x I o news Q s .next { s with heap := h', toks := tk' } := ⟨yv, h', tk', rfl, fr_c F e, fun p hp => N p (hs p hp)⟩
section
variable {prog : Program} {w : World} {A : Around} {E : Value → Shared → Prop} {s : Shared} {env : Env} {g : Heap} {m : Str → Option Value} {news : Led} {x : Str} {D : Addr} {n : Nat} {body : List Stmt} {p : Pos} {Q : Flow → Shared → Prop} {vs : List Value}
/-- a for over a made list whose turns change nothing but the loop's name -/
theorem for_all (P : Value → Prop) (hh : A.handled = none) (hx : env.kindOf x = some .local) (hp : (env.scope.kind == .class || (env.scope.kind == .module && env.locals != env.globals)) = false)
    (F : Fr g env.locals s.heap m) (N : News g env.locals s.heap news) (hD : (D, listOf vs.toArray n) ∈ news) (hP : ∀ v ∈ vs, P v) (hx0 : m x = none)
    (turn : ∀ v I o h tk yv, P v → (∀ q ∈ news, q.1 < I) → Fr g env.locals h (fun y => if y = x then some v else if y = x then yv else m y) → News g env.locals h ((I, o) :: news) →
      wpAny (model prog w) A (execs body env) (AllEnd g env m x I o news Q s) NoE { s with heap := h, toks := tk })
    (fin : ∀ h tk yv, Fr g env.locals h (fun y => if y = x then yv else m y) → News g env.locals h news → Q .next { s with heap := h, toks := tk }) :
    wpAny (model prog w) A (pyIter (.ref D)) (fun it s₂ => codeAny (model prog w) A (.forLoop (.Name x p) it body [] env) (fun r s' => match r with | .ok f => Q f s' | .error e => cameBackBy (model prog w) A env E e s') s₂) E s := by
  have hl : s.heap.IsList D vs.toArray := lstN (vs := vs) N hD
  have hL : env.locals < s.heap.objs.size := F.ns.lt
  have em : m = fun y => if y = x then none else m y := funext fun y => by
    by_cases e : y = x
    · rw [if_pos e, e, hx0]
    · rw [if_neg e]
  refine wpAny_pyIter_list hl ?_
  have F1 := F.push ({ cls := .type "list_iterator", data := .fields #[.ref D, .int 0 0] } : Obj)
  have hnew : g.get? s.heap.objs.size = none := next_is_new F
  rw [em] at F1
  refine codeAny_forLoop (fun k s' => ∃ i yv o h' tk, k = vs.length - i ∧ i ≤ vs.length ∧ s' = { s with heap := h', toks := tk } ∧ Fr g env.locals h' (fun y => if y = x then yv else m y) ∧ News g env.locals h' ((s.heap.objs.size, o) :: news) ∧
    o.cls = .type "list_iterator" ∧ o.data = .fields #[.ref D, .int i 0]) (fun k s' hI => ?_) vs.length
    ⟨0, none, { cls := .type "list_iterator", data := .fields #[.ref D, .int 0 0] }, _, s.toks, rfl, Nat.zero_le _, rfl, F1, fun q hq => ?_, rfl, rfl⟩ (fun _ => rfl)
  · obtain ⟨i, yv, o, h', tk, rfl, hi, rfl, F₁, N₁, oc, od⟩ := hI
    have hit : h'.IsListIter s.heap.objs.size D i := ⟨o, (N₁ _ (.head _)).1, oc, od⟩
    have hl' : h'.IsList D vs.toArray := lstN (vs := vs) (a := D) N₁ (.tail _ hD)
    have lt : ∀ q ∈ news, q.1 < s.heap.objs.size := fun q hq => Heap.lt_size (N q hq).1
    by_cases hlt : i < vs.length
    · have hx' : vs.toArray[i]? = some vs[i] := by simp [hlt]
      refine wpAny_pyNext_list_item hit hl' hx' fun h₁ hit₁ hs₁ => ?_
      have F₂ : Fr g env.locals h₁ (fun y => if y = x then yv else m y) := ⟨F₁.ns.sameBut hs₁ (Nat.ne_of_lt hL), fun b o e => (hs₁.2 b (fun eb => by rw [eb, hnew] at e; cases e)).trans (F₁.keep b o e), F₁.above⟩
      obtain ⟨o₁, ho₁, oc₁, od₁⟩ := hit₁
      have N₂ : News g env.locals h₁ ((s.heap.objs.size, o₁) :: news) := fun q hq => by
        rcases List.mem_cons.mp hq with rfl | hq
        · exact ⟨ho₁, (N₁ _ (.head _)).2⟩
        · exact ⟨(hs₁.2 _ (Nat.ne_of_lt (lt q hq))).trans (N₁ q (.tail _ hq)).1, (N q hq).2⟩
      refine wpAny_assign_Name (wpAny_storeName_local hx F₂.ns (fun h₂ hn₂ hs₂ => ?_) hp)
      have F₃ := F₂.set hn₂ hs₂
      have N₃ : News g env.locals h₂ ((s.heap.objs.size, o₁) :: news) := fun q hq => ⟨(hs₂.2 _ (N₂ q hq).2.1).trans (N₂ q hq).1, (N₂ q hq).2⟩
      refine wpAny_mono (turn vs[i] _ o₁ h₂ _ yv (hP _ (List.getElem_mem _)) lt F₃ N₃) (fun f s₃ h₃ => ?_) fun _ _ e => e.elim
      cases f with
      | next =>
        obtain ⟨yv', h'', tk', e, F', N'⟩ := h₃
        exact ⟨vs.length - (i + 1), by omega, i + 1, yv', o₁, h'', tk', rfl, hlt, e, F', N', oc₁, od₁⟩
      | cont =>
        obtain ⟨yv', h'', tk', e, F', N'⟩ := h₃
        exact ⟨vs.length - (i + 1), by omega, i + 1, yv', o₁, h'', tk', rfl, hlt, e, F', N', oc₁, od₁⟩
      | brk => exact h₃
      | ret v => exact h₃
    · have hin : i = vs.length := by omega
      subst hin
      refine wpAny_pyNext_list_end hh hit hl' (by simp) fun h₁ he => ?_
      rw [execs]
      exact wpAny_pure (fin _ _ _ ⟨F₁.ns.extBut he (Nat.ne_of_lt hL), fun b o e => he b o (fun eb => by rw [eb, hnew] at e; cases e) (F₁.keep b o e), F₁.above⟩ fun q hq => ⟨he _ _ (Nat.ne_of_lt (lt q hq)) (N₁ q (.tail _ hq)).1, (N q hq).2⟩)
  · rcases List.mem_cons.mp hq with rfl | hq
    · exact ⟨Heap.get?_push_size _ rfl, Nat.ne_of_gt hL, hnew⟩
    · exact ⟨Heap.get?_push_of_some _ (N q hq).1, (N q hq).2⟩
end
theorem add_l {prog : Program} {w : World} {A : Around} {E : Value → Shared → Prop} {s : Shared} {g : Heap} {L D1 D2 : Addr} {m : Str → Option Value} {news : Led} {vs ws : List Value} {n1 n2 : Nat} {Q : Value → Shared → Prop} (F : Fr g L s.heap m) (N : News g L s.heap news)
    (h1 : (D1, listOf vs.toArray n1) ∈ news) (h2 : (D2, listOf ws.toArray n2) ∈ news) (hsz : vs.length + ws.length ≤ 1000)
    (h : ∀ D h', Fr g L h' m → News g L h' ((D, listOf (vs ++ ws).toArray 0) :: news) → (∀ p ∈ news, p.1 < D) → Q (.ref D) { s with heap := h' }) : wpAny (model prog w) A (binaryOp .Add (.ref D1) (.ref D2)) Q E s := by
  refine PyProof.Rows.add_arrays F N (lstN N h1) (lstN N h2) (fun h' F' N' => h _ h' F' (fun p hp => N' p ?_) fun p hp => Heap.lt_size (N p hp).1) (hsz := by simp [sizeLine_eq]; omega)
  simpa using hp

theorem voters_rows1 : True := by
  k_with_none
  w_top off
  k_with "led_sub" => first | exact fun p hp => hp | (intro p hp; repeat' (first | exact hp | refine List.Mem.tail _ ?_))
  k_with "led_lt" => first | assumption | exact ktn_ltOf (by assumption) | exact lt1 (by assumption) | exact lt2 (by assumption) | exact lt3 (by assumption) | exact lt4 (by assumption)
  k_with "ct_fill" => (refine fillIt ?_; k_fill; intro _; unfold Ct)
  k_with "ct_enter" => (refine wpAny_call ?_; k_dflt cell_enter)
  k_with "ct_use" => ((case k1 => k_asm); (case k2 => k_asm); (case k3 => k_asm); (case k4 => k_asm); (case k5 => k_asm); (case kK => first | exact rfl | assumption); (case kd => ktr_room); (case ku => ktr_units))
  k_with "subscriptTail" => (k_here; (with_reducible show wpAny _ _ (subscriptTail _ _ (Value.ref _) (Value.int _ _)) _ _ _); (k_dflt (refine' tup_item ?k1 ?k2 ?k3 ?k4 ?k5 ?k6 ?_; (case k1 => k_asm); (case k2 => first | assumption | k_mem); (case k3 => decide); (case k4 => decide); (case k5 => exact rfl); (case k6 => with_unfolding_all rfl); k_whole)))
  k_with "call builtin:max" => ((with_reducible show wpAny _ _ (call _ [Value.float _ _, Value.float _ _, Value.float _ _]) _ _ _); (rename News _ _ _ _ => N'); (rename Fr _ _ _ _ => F'); refine max3_K rfl F' N' ?_; clear N'; intro _ _ _ _ _)
  k_with "call builtin:min" => ((with_reducible show wpAny _ _ (call _ [Value.float _ _, Value.float _ _, Value.float _ _]) _ _ _); (rename News _ _ _ _ => N'); (rename Fr _ _ _ _ => F'); refine min3_K rfl F' N' ?_; clear N'; intro _ _ _ _ _)
  k_with "subscriptTail" => (k_here; (with_reducible show wpAny _ _ (subscriptTail _ _ (Value.ref _) (Value.int _ _)) _ _ _); (k_dflt (refine' lst_item3 ?k1 ?k2 ?k3 ?k4 ?k6 ?_ ?_ ?_; (case k1 => k_asm); (case k2 => k_mem); (case k3 => omega); (case k4 => omega); (case k6 => with_unfolding_all rfl); all_goals (k_whole; intro hidx))))
  k_with "str_fit" => first | decide +kernel | (simp only [Str.length_append]; omega)
  k_with "binaryOp Add str str" => (k_here; (with_reducible show wpAny _ _ (binaryOp Operator.Add (Value.str _ _) (Value.str _ _)) _ _ _); (refine' add_m ?ksz ?_; (case ksz => walk_at "str_fit")); intro tx' kx' hx'; (try dsimp only at hx'))
  k_with "call builtin:str.replace" => (k_here; (refine' repl_m ?k1 ?k2 ?k3 ?k4 ?k5 ?k6 ?_; (case k1 => (show (0 : Nat) < _); omega); (case k2 => (show (0 : Nat) < _); omega); (case k3 => (show @Ne Nat _ _); omega); (case k4 => decide +kernel); (case k5 => walk_at "str_fit"); (case k6 => walk_at "str_fit")); intro tx' kx' hx'; (try dsimp only at hx'))
  k_with "subscriptTail" => (k_here; (with_reducible show wpAny _ _ (subscriptTail _ _ (Value.str _ _) (Value.int _ _)) _ _ _); (k_dflt (refine' str_item ?k1 ?k2 ?k3 ?k4 ?k5 ?_; (case k1 => omega); (case k2 => first | omega | exact Int.lt_of_lt_of_le (b := 4) (by omega) (by decide +kernel)); (case k3 => first | omega | decide +kernel); (case k4 => with_unfolding_all rfl); (case k5 => (intro _; with_unfolding_all rfl)))); intro hone')
  k_with "subscriptTail Name Slice str ref" => ((with_reducible rename Fr _ _ _ _ => F'); (with_reducible rename News _ _ _ _ => N'); (first
  | ((with_reducible show wpAny _ _ (subscriptTail _ (Expr.Slice (some _) none none _) _ _) _ _ _); (refine' slice_strN_sn_len (s := ⟨_, _, _, _, _⟩) F' N' ?_ (hsz := ?hsz)); (case hsz => walk_at "str_fit"))
  | ((with_reducible show wpAny _ _ (subscriptTail _ (Expr.Slice none (some _) none _) _ _) _ _ _); (refine' slice_strN_ns_len (s := ⟨_, _, _, _, _⟩) F' N' ?_ (hsz := ?hsz)); (case hsz => walk_at "str_fit"))
  | ((with_reducible show wpAny _ _ (subscriptTail _ (Expr.Slice (some _) (some _) none _) _ _) _ _ _); (refine' slice_strN_ss_len (s := ⟨_, _, _, _, _⟩) F' N' ?_ (hsz := ?hsz)); (case hsz => walk_at "str_fit"))); intro _ _ _ _ _ _)
  k_with "call ref" => (k_here; (with_reducible show wpAny _ _ (call (Value.ref 28) _) _ _ _); (k_dflt (refine' Ct.use (rgb_spec _ _ _ _ _ _ _ _ ?p1 ?p2) ?k1 ?k2 ?k3 ?k4 ?k5 ?kK ?kd ?ku ?_; (case p1 => exact RgbOk.h1 (by assumption)); (case p2 => exact RgbOk.h2 (by assumption)); walk_at "ct_use")); intro r' tl' h' tk' F' N' l1 hP'; obtain ⟨D', c', t4', t5', t6', e1', e2', e3'⟩ := hP'; subst e1' e2' e3'; replace l1 := lt_tl1 l1; (try k_lt l1); (simp only [List.cons_append, List.nil_append] at N'); (try k_sweep); (try dsimp only); (try k_fold))
  k_with "call ref" => (k_here; (with_reducible show wpAny _ _ (call (Value.ref 86) _) _ _ _); (k_dflt (refine' Ct.use (p257_spec _ _ _ _ ?p1 ?p2) ?k1 ?k2 ?k3 ?k4 ?k5 ?kK ?kd ?ku ?_; (case p1 => assumption); (case p2 => assumption); walk_at "ct_use")); intro r' tl' h' tk' F' N' l1 hP'; obtain ⟨z', t4', e1', e2', e3'⟩ := hP'; subst e1' e2' e3'; (simp only [List.nil_append] at N'); (try k_sweep); (try dsimp only); (try k_fold))
  k_with "enterS" => (refine' code_defS ?k1 ?k2 ?k3 ?k4 ?k5 ?XB ?TB ?D ?T0 ?kA ?k6 ?k7 ?k8 ?k9 ?kB ?_ ?cK ?c2 ?c3 ?c4 ?c5; (case kA => exact rfl); (case k2 => k_asm); (case k1 => k_asm); (case XB => assumption); (case TB => assumption); (case D => assumption); (case T0 => first | assumption | exact KtsTurn.refl); (case k3 => k_asm); (case k4 => k_asm); (case k5 => k_asm); (case k6 => k_is); (case k7 => k_is); (case k8 => ktr_room); (case k9 => exact BindsTo.of_eq rfl); (case kB => exact locs rfl); (case cK => first | exact rfl | assumption); (case c2 => exact rfl); (case c3 => exact rfl); (case c4 => exact rfl); (case c5 => decide); k_whole; intro g' L' h' FG' F' N' B' X' T' D'; (try dsimp only); (try k_lift B'); (try k_fold))
  k_with "enterS0" => (refine' enter0X ?k1 ?k2 ?k3 ?k4 ?k5 ?kA ?kF ?cK ?k6 ?k7 ?k8 ?k9 ?kB ?_ ?c2 ?c3 ?c4 ?c5; (case kA => exact rfl); (case kF => exact rfl); (case cK => first | exact rfl | assumption); (case k2 => k_asm); (case k1 => k_asm); (case k3 => k_asm); (case k4 => k_asm); (case k5 => k_asm); (case k6 => k_is); (case k7 => k_is); (case k8 => ktr_room); (case k9 => exact BindsTo.of_eq rfl); (case kB => exact locs rfl); (case c2 => exact rfl); (case c3 => exact rfl); (case c4 => exact rfl); (case c5 => decide); k_whole; intro g' L' h' FG' F' N' B' X' T' D'; (try dsimp only); (try k_lift B'); (try k_fold))
  k_with "call ref" => (k_here; (with_reducible show wpAny _ _ (call (Value.ref 21) _) _ _ _); (k_dflt (refine' Ct.use (em_spec _ _ _ _ _ _ ?p1 ?p2) ?k1 ?k2 ?k3 ?k4 ?k5 ?kK ?kd ?ku ?_; (case p1 => walk_at "em_ok"); (case p2 => walk_at "em_len"); walk_at "ct_use")); intro r' tl' h' tk' F' N' l1 hP'; obtain ⟨e1', b', e2', e3'⟩ := hP'; subst e1' e2'; (simp only [List.nil_append] at N'); (try k_sweep); (try dsimp only); (try k_fold))
  k_with "em_len" => omega
  k_with "em_ok" => assumption
  trivial
abbrev yK (y : Int) : Int := Int.fmod y 12
abbrev yF (y : Int) : Int := 1 + Int.fmod (Int.fdiv y 12) 7
abbrev yC (y : Int) : Int := Int.fmod (Int.fdiv y 84) 5
abbrev yW (y : Int) : Int := Int.fmod (Int.fdiv y 420) 16
abbrev yKind (y : Int) : Int := Int.fmod (Int.fdiv y 6720) 9
abbrev yMark (y : Int) : Int := Int.fmod (Int.fdiv y 60480) 4
abbrev yTail (y : Int) : Int := Int.fmod (Int.fdiv y 241920) 3
def VO (o : Obj) (y : Int) : Prop := ∃ t1 t2 t3 t4 t5 t6 t7, o = tupO [.int (yK y) t1, .int (yF y) t2, .int (yC y) t3, .int (yW y) t4, .int (yKind y) t5, .int (yMark y) t6, .int (yTail y) t7]
inductive VL : Led → List Int → Prop
  | nil : VL [] []
  | snoc {acc : Led} {ys : List Int} {a : Addr} {o : Obj} {y : Int} : VL acc ys → VO o y → VL (acc ++ [(a, o)]) (ys ++ [y])
def votersOf (ns : List Int) : List Int := [4896, 413876, 548092, 2525] ++ (ns.take 4).map fun x => Int.fmod x 1000000
def VotP (ns : List Int) (tl : Led) (r : Value) : Prop := ∃ D n acc, r = .ref D ∧ tl = (D, listOf (acc.map fun p => Value.ref p.1).toArray n) :: acc ∧ VL acc (votersOf ns)
abbrev refs (acc : Led) : List Value := acc.map fun p => Value.ref p.1
def VTurn (g : Heap) (env : Env) (m : Str → Option Value) (s : Shared) (Dv I : Addr) (o : Obj) (acc rest : Led) (y : Int) (f : Flow) (s' : Shared) : Prop :=
  f = .next ∧ ∃ yv' h' tk' n' a o', s' = { s with heap := h', toks := tk' } ∧ VO o' y ∧ Dv < a ∧ a ≠ I ∧
    Fr g env.locals h' (fun x => if x = Str.ofString "y" then yv' else m x) ∧ News g env.locals h' ((I, o) :: (Dv, listOf (refs (acc ++ [(a, o')])).toArray n') :: ((acc ++ [(a, o')]) ++ rest))
theorem VTurn.mk {g : Heap} {env : Env} {m m1 : Str → Option Value} {s : Shared} {Dv I T : Addr} {o o' : Obj} {acc rest : Led} {y : Int} {h' : Heap} {tk' n' : Nat} {yv' : Option Value} (F : Fr g env.locals h' m1) (em : ∀ x, m1 x = if x = Str.ofString "y" then yv' else m x)
    (N : News g env.locals h' ((Dv, listOf (refs acc ++ [Value.ref T]).toArray n') :: (T, o') :: (I, o) :: (acc ++ rest))) (hO : VO o' y) (h1 : Dv < T) (h2 : T ≠ I) : VTurn g env m s Dv I o acc rest y .next { s with heap := h', toks := tk' } := by
  refine ⟨rfl, yv', h', tk', n', T, o', rfl, hO, h1, h2, fr_c F em, fun p hp => N p ?_⟩
  rcases List.mem_cons.mp hp with rfl | hp
  · exact .tail _ (.tail _ (.head _))
  · rcases List.mem_cons.mp hp with rfl | hp
    · simp only [refs, List.map_append, List.map_cons, List.map_nil]; exact .head _
    · rw [List.append_assoc] at hp
      rcases List.mem_append.mp hp with hp | hp
      · exact .tail _ (.tail _ (.tail _ (List.mem_append_left _ hp)))
      · rcases List.mem_cons.mp hp with rfl | hp
        · exact .tail _ (.head _)
        · exact .tail _ (.tail _ (.tail _ (List.mem_append_right _ hp)))
theorem voters_loop {prog : Program} {w : World} {A : Around} {E : Value → Shared → Prop} {s : Shared} {env : Env} {g : Heap} {m : Str → Option Value} {news : Led} {D Dv : Addr} {r1 r2 : Addr × Obj} {target : Expr} {body : List Stmt} {Q : Flow → Shared → Prop} {vs : List Value} {ys : List Int}
    (hh : A.handled = none) (F : Fr g env.locals s.heap m) (N : News g env.locals s.heap ((D, listOf vs.toArray 0) :: r1 :: r2 :: (Dv, listOf #[] 0) :: news)) (hI : IntsAre vs ys) (ht : ∀ it v, letOwnedTupleGo target it v = pure ())
    (h0 : Dv ≠ D) (h1 : r1.1 ≠ Dv) (h2 : r2.1 ≠ Dv) (h3 : ∀ p ∈ news, p.1 < Dv) (hy : m (Str.ofString "y") = none)
    (turn : ∀ y t yv n acc I o h tk, acc.length ≤ ys.length → (∀ p ∈ acc, Dv < p.1) → Dv ≠ I → (∀ p ∈ acc ++ (D, listOf vs.toArray 0) :: r1 :: r2 :: news, p.1 ≠ I) → (∀ p ∈ acc ++ (D, listOf vs.toArray 0) :: r1 :: r2 :: news, p.1 ≠ Dv) →
      Fr g env.locals h (fun x => if x = Str.ofString "y" then yv else m x) → News g env.locals h ((I, o) :: (Dv, listOf (refs acc).toArray n) :: (acc ++ (D, listOf vs.toArray 0) :: r1 :: r2 :: news)) →
      wpAny (model prog w) A (assign target env (.int y t)) (fun _ s₂ => wpC (model prog w) A (execs body env) (VTurn g env m s Dv I o acc ((D, listOf vs.toArray 0) :: r1 :: r2 :: news) y) NoE s₂) NoE { s with heap := h, toks := tk })
    (fin : ∀ h tk yv n acc, VL acc ys → (∀ p ∈ acc, Dv < p.1) → Fr g env.locals h (fun x => if x = Str.ofString "y" then yv else m x) → News g env.locals h ((Dv, listOf (refs acc).toArray n) :: (acc ++ news)) → Q .next { s with heap := h, toks := tk }) :
    wpAny (model prog w) A (pyIter (.ref D)) (fun it s₂ => codeC (model prog w) A (.forLoop target it body [] env) (fun r s' => match r with | .ok f => Q f s' | .error _ => False) s₂) E s := by
  have N0 : News g env.locals s.heap ((Dv, listOf (refs []).toArray 0) :: ([] ++ (D, listOf vs.toArray 0) :: r1 :: r2 :: news)) := fun p hp => N p (by
    rcases List.mem_cons.mp hp with rfl | hp
    · exact .tail _ (.tail _ (.tail _ (.head _)))
    · rcases List.mem_cons.mp hp with rfl | hp
      · exact .head _
      · rcases List.mem_cons.mp hp with rfl | hp
        · exact .tail _ (.head _)
        · rcases List.mem_cons.mp hp with rfl | hp
          · exact .tail _ (.tail _ (.head _))
          · exact .tail _ (.tail _ (.tail _ (.tail _ hp))))
  have hne0 : ∀ p ∈ (D, listOf vs.toArray 0) :: r1 :: r2 :: news, p.1 ≠ Dv := fun p hp => by
    rcases List.mem_cons.mp hp with rfl | hp
    · exact fun e => h0 e.symm
    · rcases List.mem_cons.mp hp with rfl | hp
      · exact h1
      · rcases List.mem_cons.mp hp with rfl | hp
        · exact h2
        · exact Nat.ne_of_lt (h3 p hp)
  have em : m = fun x => if x = Str.ofString "y" then none else m x := funext fun x => by
    by_cases e : x = Str.ofString "y"
    · rw [if_pos e, e, hy]
    · rw [if_neg e]
  refine iterC hh F N0 (.tail _ (.head _)) ht (fun i m' news' => ∃ yv n acc, m' = (fun x => if x = Str.ofString "y" then yv else m x) ∧ news' = (Dv, listOf (refs acc).toArray n) :: (acc ++ (D, listOf vs.toArray 0) :: r1 :: r2 :: news) ∧ VL acc (ys.take i) ∧ (∀ p ∈ acc, Dv < p.1) ∧ acc.length ≤ i)
    ⟨none, 0, [], em, rfl, by rw [List.take_zero]; exact .nil, (fun p hp => nomatch hp), Nat.le_refl _⟩ (fun i m' news' ⟨yv, n, acc, e1, e2, _⟩ => by rw [e2]; exact .tail _ (List.mem_append_right _ (.head _))) ?_ ?_
  · rintro i v m₁ news₁ I o h tk hv ⟨yv, n, acc, rfl, rfl, hVL, hlt, hlen⟩ F1 N1 hneI
    obtain ⟨y, t, rfl, hy'⟩ := ints_get hI hv
    have hi : i < ys.length := by
      cases Nat.lt_or_ge i ys.length with
      | inl h => exact h
      | inr h => rw [List.getElem?_eq_none h] at hy'; cases hy'
    have hneV : ∀ p ∈ acc ++ (D, listOf vs.toArray 0) :: r1 :: r2 :: news, p.1 ≠ Dv := fun p hp => (List.mem_append.mp hp).elim (fun hp => Nat.ne_of_gt (hlt p hp)) (hne0 p)
    refine wpAny_mono (turn y t yv n acc I o h tk (by omega) hlt (hneI _ (.head _)) (fun p hp => hneI p (.tail _ hp)) hneV F1 N1) (fun _ s₂ k => k.mono (fun f s₃ k => ?_) fun _ _ e => e) fun _ _ e => e
    obtain ⟨rfl, yv', h', tk', n', a, o', rfl, hO, ha, haI, F', N'⟩ := k
    refine ⟨_, _, _, _, rfl, F', N', fun q hq => ?_, yv', n', acc ++ [(a, o')], rfl, rfl, ?_, fun p hp => ?_, by rw [List.length_append]; simp; omega⟩
    · rcases List.mem_cons.mp hq with rfl | hq
      · exact (show Dv ≠ I from hneI (Dv, listOf (refs acc).toArray n) (.head _))
      · rw [List.append_assoc] at hq
        rcases List.mem_append.mp hq with hq | hq
        · exact hneI q (.tail _ (List.mem_append_left _ hq))
        · rcases List.mem_cons.mp hq with rfl | hq
          · exact haI
          · exact hneI q (.tail _ (List.mem_append_right _ hq))
    · rw [take_snoc hy']; exact .snoc hVL hO
    · rcases List.mem_append.mp hp with hp | hp
      · exact hlt p hp
      · rw [List.mem_singleton.mp hp]; exact ha
  · rintro h tk m' news' ⟨yv, n, acc, rfl, rfl, hVL, hlt, hlen⟩ F1 N1
    have hl : vs.length = ys.length := IntsAre.length hI
    rw [hl, List.take_length] at hVL
    refine fin h tk yv n acc hVL hlt F1 fun p hp => N1 p ?_
    rcases List.mem_cons.mp hp with rfl | hp
    · exact .head _
    · refine .tail _ ?_
      rcases List.mem_append.mp hp with hp | hp
      · exact List.mem_append_left _ hp
      · exact List.mem_append_right _ (.tail _ (.tail _ (.tail _ hp)))
section
theorem voters_rows2 : True := by
  k_with "enterV" => (refine' enter1C ?k1 ?k2 ?k3 ?k4 ?k5 ?kD ?kA ?kF ?cK ?k6 ?k7 ?k8 ?k9 ?kB ?_ ?c2 ?c3 ?c4 ?c5; (case kA => exact rfl); (case kF => exact rfl); (case cK => first | exact rfl | assumption); (case k2 => k_asm); (case k1 => k_asm); (case k3 => k_asm); (case k4 => k_asm); (case k5 => k_asm); (case kD => exact ktsDicts_nil); (case k6 => k_is); (case k7 => k_is); (case k8 => ktr_room); (case k9 => exact BindsTo.of_eq rfl); (case kB => exact locs rfl); (case c2 => exact rfl); (case c3 => exact rfl); (case c4 => exact rfl); (case c5 => decide); k_whole; intro g' L' h' FG' F' N' B' X' T' D'; (try dsimp only); (try k_lift B'); (try k_fold))
  trivial
theorem voters_rows3 : True := by
  k_with "newTuple" => (k_here; (refine' newTuple_led ?k1 ?k2 ?k3 ?_; (case k1 => k_asm); (case k2 => k_asm); (case k3 => exact Nat.le_of_ble_eq_true rfl)); intro D' h' F' N' l1)
  trivial
theorem voters_rows4 : True := by
  k_with "call builtin:list.append" => (refine Hold.un ?_)
  trivial
def voters_spec_says (w : World) (news : Led) (S : Addr) (vs : List Value) (ns : List Int) (mean : ExcName → Option Value) (mg : Str → Option Value) (mb : Str → Option Value) (dp : Nat) (un : Nat) (gd : Option (List Code)) (cn : Str) (cs : Scope) (a : Addr) (ccd : Value) (cl : List (Str × Addr)) (A₀ : Around) (h₀ : Heap) (L : Addr) (m : Str → Option Value) (sh : Shared) (Q : Value → Shared → Prop) (E : Value → Shared → Prop) : Prop := (Below A₀ h₀ [] h₀) → (Fr h₀ L sh.heap m) → ((hd.heap_1 w.params).In h₀) → (News h₀ L sh.heap news) → (Top hd.view_1 (looseW hd.view_1 []) mean mg mb h₀) → (h₀.IsList S vs.toArray) → (IntsAre vs ns) → (ns.length ≤ 63) → (cs.kind = .function) → (dp + 7 < recursionLimit) → (un + 90 < cLine) → (Ret h₀ L m news sh Q (VotP ns)) → wpC (model PySem.Challenge.pw_rs0085_01 w) (ktrTop dp un gd cn cs L a ccd cl []) (call (.ref 91) [.ref S]) Q E sh
noncomputable def voters_spec_bad : World × Led × Addr × (List Value) × (List Int) × (ExcName → Option Value) × (Str → Option Value) × (Str → Option Value) × Nat × Nat × (Option (List Code)) × Str × Scope × Addr × Value × (List (Str × Addr)) × Around × Heap × Addr × (Str → Option Value) × Shared × (Value → Shared → Prop) × (Value → Shared → Prop) := Classical.choose (ex_eps (dW, default, default, default, default, default, default, default, default, default, default, default, default, default, default, default, dA, default, default, default, dS, default, default) (fun v : World × Led × Addr × (List Value) × (List Int) × (ExcName → Option Value) × (Str → Option Value) × (Str → Option Value) × Nat × Nat × (Option (List Code)) × Str × Scope × Addr × Value × (List (Str × Addr)) × Around × Heap × Addr × (Str → Option Value) × Shared × (Value → Shared → Prop) × (Value → Shared → Prop) => voters_spec_says v.1 v.2.1 v.2.2.1 v.2.2.2.1 v.2.2.2.2.1 v.2.2.2.2.2.1 v.2.2.2.2.2.2.1 v.2.2.2.2.2.2.2.1 v.2.2.2.2.2.2.2.2.1 v.2.2.2.2.2.2.2.2.2.1 v.2.2.2.2.2.2.2.2.2.2.1 v.2.2.2.2.2.2.2.2.2.2.2.1 v.2.2.2.2.2.2.2.2.2.2.2.2.1 v.2.2.2.2.2.2.2.2.2.2.2.2.2.1 v.2.2.2.2.2.2.2.2.2.2.2.2.2.2.1 v.2.2.2.2.2.2.2.2.2.2.2.2.2.2.2.1 v.2.2.2.2.2.2.2.2.2.2.2.2.2.2.2.2.1 v.2.2.2.2.2.2.2.2.2.2.2.2.2.2.2.2.2.1 v.2.2.2.2.2.2.2.2.2.2.2.2.2.2.2.2.2.2.1 v.2.2.2.2.2.2.2.2.2.2.2.2.2.2.2.2.2.2.2.1 v.2.2.2.2.2.2.2.2.2.2.2.2.2.2.2.2.2.2.2.2.1 v.2.2.2.2.2.2.2.2.2.2.2.2.2.2.2.2.2.2.2.2.2.1 v.2.2.2.2.2.2.2.2.2.2.2.2.2.2.2.2.2.2.2.2.2.2))
noncomputable def voters_spec_w : World := voters_spec_bad.1
noncomputable def voters_spec_news : Led := voters_spec_bad.2.1
noncomputable def voters_spec_S : Addr := voters_spec_bad.2.2.1
noncomputable def voters_spec_vs : List Value := voters_spec_bad.2.2.2.1
noncomputable def voters_spec_ns : List Int := voters_spec_bad.2.2.2.2.1
noncomputable def voters_spec_mean : ExcName → Option Value := voters_spec_bad.2.2.2.2.2.1
noncomputable def voters_spec_mg : Str → Option Value := voters_spec_bad.2.2.2.2.2.2.1
noncomputable def voters_spec_mb : Str → Option Value := voters_spec_bad.2.2.2.2.2.2.2.1
noncomputable def voters_spec_dp : Nat := voters_spec_bad.2.2.2.2.2.2.2.2.1
noncomputable def voters_spec_un : Nat := voters_spec_bad.2.2.2.2.2.2.2.2.2.1
noncomputable def voters_spec_gd : Option (List Code) := voters_spec_bad.2.2.2.2.2.2.2.2.2.2.1
noncomputable def voters_spec_cn : Str := voters_spec_bad.2.2.2.2.2.2.2.2.2.2.2.1
noncomputable def voters_spec_cs : Scope := voters_spec_bad.2.2.2.2.2.2.2.2.2.2.2.2.1
noncomputable def voters_spec_a : Addr := voters_spec_bad.2.2.2.2.2.2.2.2.2.2.2.2.2.1
noncomputable def voters_spec_ccd : Value := voters_spec_bad.2.2.2.2.2.2.2.2.2.2.2.2.2.2.1
noncomputable def voters_spec_cl : List (Str × Addr) := voters_spec_bad.2.2.2.2.2.2.2.2.2.2.2.2.2.2.2.1
noncomputable def voters_spec_A₀ : Around := voters_spec_bad.2.2.2.2.2.2.2.2.2.2.2.2.2.2.2.2.1
noncomputable def voters_spec_h₀ : Heap := voters_spec_bad.2.2.2.2.2.2.2.2.2.2.2.2.2.2.2.2.2.1
noncomputable def voters_spec_L : Addr := voters_spec_bad.2.2.2.2.2.2.2.2.2.2.2.2.2.2.2.2.2.2.1
noncomputable def voters_spec_m : Str → Option Value := voters_spec_bad.2.2.2.2.2.2.2.2.2.2.2.2.2.2.2.2.2.2.2.1
noncomputable def voters_spec_sh : Shared := voters_spec_bad.2.2.2.2.2.2.2.2.2.2.2.2.2.2.2.2.2.2.2.2.1
noncomputable def voters_spec_Q : Value → Shared → Prop := voters_spec_bad.2.2.2.2.2.2.2.2.2.2.2.2.2.2.2.2.2.2.2.2.2.1
noncomputable def voters_spec_E : Value → Shared → Prop := voters_spec_bad.2.2.2.2.2.2.2.2.2.2.2.2.2.2.2.2.2.2.2.2.2.2
set_option maxHeartbeats 4000000 in
theorem voters_spec_core : voters_spec_says voters_spec_w voters_spec_news voters_spec_S voters_spec_vs voters_spec_ns voters_spec_mean voters_spec_mg voters_spec_mb voters_spec_dp voters_spec_un voters_spec_gd voters_spec_cn voters_spec_cs voters_spec_a voters_spec_ccd voters_spec_cl voters_spec_A₀ voters_spec_h₀ voters_spec_L voters_spec_m voters_spec_sh voters_spec_Q voters_spec_E := by
  unfold voters_spec_says
  intro B F X N T hS hI hlen hk hdp hun hret
  refine fillIt ?_
  k_fill
  intro _
  refine wpC.runValue ?_
  k_dflt (walk_at "enterV")
  refine wpC.execs_any ?_
  k_steps
  dsimp only
  refine wpC.execs_c ?_
  refine wpC.for_ ?_ (fun _ => rfl)
  k_steps
  rename CarriedAll _ _ => hC
  rw [show List.filter (fun _ : Int => true) (voters_spec_ns.take 4) = voters_spec_ns.take 4 from List.filter_eq_self.mpr fun _ _ => rfl] at hC
  have hC' := CarriedAll.intsOf (f := fun voters_spec_a => Int.fmod voters_spec_a 1000000) hC
  rename News _ _ _ _ => N9
  rename Fr _ _ _ _ => F9
  refine add_arrays_ints F9 N9 (lstN (vs := [_, _, _, _]) N9 (.tail _ (.head _))) (by assumption) (.cons _ _ (.cons _ _ (.cons _ _ (.cons _ _ .nil)))) hC' ?_ (hsz := ?_)
  rotate_left
  · rw [sizeLine_eq]; simp; omega
  intro h2 F2 N2 I2
  refine voters_loop rfl F2 N2 I2 (fun _ _ => rfl) ?_ ?_ ?_ ?_ rfl ?_ ?_
  · exact Nat.ne_of_lt (Heap.lt_size (N9 _ (.tail _ (.tail _ (.head _)))).1)
  · exact Nat.ne_of_gt (by omega)
  · exact Nat.ne_of_gt (by omega)
  · walk_at "led_lt"
  · intro y t yv n acc I o h tk hlen hlt hI1 hI2 hV F3 N3
    clear F9 N9 F2 N2
    k_steps
    refine wpC.of ?_
    k_steps
    unfold Hold
    rename News _ _ _ _ => N4
    rename Fr _ _ _ _ => F4
    rename (∀ p : Addr × Obj, p ∈ (I, o) :: _ → p.1 < _) => l4
    refine app_third F4 N4 (Nat.ne_of_gt (l4 _ (.tail _ (.head _)))) (fun e => hI1 e.symm) hV ?_ ?_
    · rw [List.length_map]; have := IntsAre.length I2; simp at this hlen; omega
    intro h5 F5 N5
    k_steps
    rename Fr _ _ _ _ => F6
    refine VTurn.mk (yv' := some (.int y t)) F6 (fun x => ?_) N5 ⟨_, _, _, _, _, _, _, rfl⟩ (l4 _ (.tail _ (.head _))) (Nat.ne_of_gt (l4 _ (.head _)))
    by_cases e : x = Str.ofString "y"
    · rw [if_pos e, if_pos e]
    · rw [if_neg e, if_neg e, if_neg e]
  · intro h tk yv n acc hVL hlt F3 N3
    clear F9 N9 F2 N2
    dsimp only
    refine wpC.of ?_
    k_steps
    refine hret _ ((_, listOf (refs acc).toArray n) :: acc) _ _ (by k_asm) (fun p hp => ?_) (fun q hq p hp => ?_) ⟨_, n, acc, rfl, rfl, ?_⟩
    · rename News voters_spec_h₀ _ _ _ => N6
      exact N6 p hp
    · rcases List.mem_cons.mp hp with rfl | hp
      · exact (show ∀ p ∈ voters_spec_news, p.1 < _ by walk_at "led_lt") q hq
      · exact Nat.lt_trans ((show ∀ p ∈ voters_spec_news, p.1 < _ by walk_at "led_lt") q hq) (hlt p hp)
    · unfold votersOf; exact hVL
theorem voters_spec (w : World) (news) (S : Addr) (vs : List Value) (ns : List Int)
    (mean : ExcName → Option Value) (mg mb : Str → Option Value) (dp un : Nat) (gd : Option (List Code)) (cn : Str) (cs : Scope) (a : Addr) (ccd : Value) (cl : List (Str × Addr)) (A₀ : Around) (h₀ : Heap) (L : Addr) (m : Str → Option Value) (sh : Shared) (Q E : Value → Shared → Prop)
    (B : Below A₀ h₀ [] h₀) (F : Fr h₀ L sh.heap m) (X : (hd.heap_1 w.params).In h₀) (N : News h₀ L sh.heap news) (T : Top hd.view_1 (looseW hd.view_1 []) mean mg mb h₀) (hS : h₀.IsList S vs.toArray) (hI : IntsAre vs ns) (hlen : ns.length ≤ 63) (hk : cs.kind = .function)
    (hdp : dp + 7 < recursionLimit) (hun : un + 90 < cLine) (hret : Ret h₀ L m news sh Q (VotP ns)) :
      wpC (model PySem.Challenge.pw_rs0085_01 w) (ktrTop dp un gd cn cs L a ccd cl []) (call (.ref 91) [.ref S]) Q E sh :=
  (Classical.choose_spec (ex_eps (dW, default, default, default, default, default, default, default, default, default, default, default, default, default, default, default, dA, default, default, default, dS, default, default) (fun v : World × Led × Addr × (List Value) × (List Int) × (ExcName → Option Value) × (Str → Option Value) × (Str → Option Value) × Nat × Nat × (Option (List Code)) × Str × Scope × Addr × Value × (List (Str × Addr)) × Around × Heap × Addr × (Str → Option Value) × Shared × (Value → Shared → Prop) × (Value → Shared → Prop) => voters_spec_says v.1 v.2.1 v.2.2.1 v.2.2.2.1 v.2.2.2.2.1 v.2.2.2.2.2.1 v.2.2.2.2.2.2.1 v.2.2.2.2.2.2.2.1 v.2.2.2.2.2.2.2.2.1 v.2.2.2.2.2.2.2.2.2.1 v.2.2.2.2.2.2.2.2.2.2.1 v.2.2.2.2.2.2.2.2.2.2.2.1 v.2.2.2.2.2.2.2.2.2.2.2.2.1 v.2.2.2.2.2.2.2.2.2.2.2.2.2.1 v.2.2.2.2.2.2.2.2.2.2.2.2.2.2.1 v.2.2.2.2.2.2.2.2.2.2.2.2.2.2.2.1 v.2.2.2.2.2.2.2.2.2.2.2.2.2.2.2.2.1 v.2.2.2.2.2.2.2.2.2.2.2.2.2.2.2.2.2.1 v.2.2.2.2.2.2.2.2.2.2.2.2.2.2.2.2.2.2.1 v.2.2.2.2.2.2.2.2.2.2.2.2.2.2.2.2.2.2.2.1 v.2.2.2.2.2.2.2.2.2.2.2.2.2.2.2.2.2.2.2.2.1 v.2.2.2.2.2.2.2.2.2.2.2.2.2.2.2.2.2.2.2.2.2.1 v.2.2.2.2.2.2.2.2.2.2.2.2.2.2.2.2.2.2.2.2.2.2)) voters_spec_core (w, news, S, vs, ns, mean, mg, mb, dp, un, gd, cn, cs, a, ccd, cl, A₀, h₀, L, m, sh, Q, E) : voters_spec_says w news S vs ns mean mg mb dp un gd cn cs a ccd cl A₀ h₀ L m sh Q E) B F X N T hS hI hlen hk hdp hun hret
end

theorem once_rows1 : True := by
  k_with_none
  w_top off
  k_with "led_sub" => first | exact fun p hp => hp | (intro p hp; repeat' (first | exact hp | refine List.Mem.tail _ ?_))
  k_with "led_lt" => first | assumption | exact ktn_ltOf (by assumption) | exact lt1 (by assumption) | exact lt2 (by assumption) | exact lt3 (by assumption) | exact lt4 (by assumption)
  k_with "ct_fill" => (refine fillIt ?_; k_fill; intro _; unfold Ct)
  k_with "ct_enter" => (refine wpAny_call ?_; k_dflt cell_enter)
  k_with "ct_use" => ((case k1 => k_asm); (case k2 => k_asm); (case k3 => k_asm); (case k4 => k_asm); (case k5 => k_asm); (case kK => first | exact rfl | assumption); (case kd => ktr_room); (case ku => ktr_units))
  k_with "subscriptTail" => (k_here; (with_reducible show wpAny _ _ (subscriptTail _ _ (Value.ref _) (Value.int _ _)) _ _ _); (k_dflt (refine' tup_item ?k1 ?k2 ?k3 ?k4 ?k5 ?k6 ?_; (case k1 => k_asm); (case k2 => first | assumption | k_mem); (case k3 => decide); (case k4 => decide); (case k5 => exact rfl); (case k6 => with_unfolding_all rfl); k_whole)))
  k_with "call builtin:max" => ((with_reducible show wpAny _ _ (call _ [Value.float _ _, Value.float _ _, Value.float _ _]) _ _ _); (rename News _ _ _ _ => N'); (rename Fr _ _ _ _ => F'); refine max3_K rfl F' N' ?_; clear N'; intro _ _ _ _ _)
  k_with "call builtin:min" => ((with_reducible show wpAny _ _ (call _ [Value.float _ _, Value.float _ _, Value.float _ _]) _ _ _); (rename News _ _ _ _ => N'); (rename Fr _ _ _ _ => F'); refine min3_K rfl F' N' ?_; clear N'; intro _ _ _ _ _)
  k_with "subscriptTail" => (k_here; (with_reducible show wpAny _ _ (subscriptTail _ _ (Value.ref _) (Value.int _ _)) _ _ _); (k_dflt (refine' lst_item3 ?k1 ?k2 ?k3 ?k4 ?k6 ?_ ?_ ?_; (case k1 => k_asm); (case k2 => k_mem); (case k3 => omega); (case k4 => omega); (case k6 => with_unfolding_all rfl); all_goals (k_whole; intro hidx))))
  k_with "str_fit" => first | decide +kernel | (simp only [Str.length_append]; omega)
  k_with "binaryOp Add str str" => (k_here; (with_reducible show wpAny _ _ (binaryOp Operator.Add (Value.str _ _) (Value.str _ _)) _ _ _); (refine' add_m ?ksz ?_; (case ksz => walk_at "str_fit")); intro tx' kx' hx'; (try dsimp only at hx'))
  k_with "call builtin:str.replace" => (k_here; (refine' repl_m ?k1 ?k2 ?k3 ?k4 ?k5 ?k6 ?_; (case k1 => (show (0 : Nat) < _); omega); (case k2 => (show (0 : Nat) < _); omega); (case k3 => (show @Ne Nat _ _); omega); (case k4 => decide +kernel); (case k5 => walk_at "str_fit"); (case k6 => walk_at "str_fit")); intro tx' kx' hx'; (try dsimp only at hx'))
  k_with "subscriptTail" => (k_here; (with_reducible show wpAny _ _ (subscriptTail _ _ (Value.str _ _) (Value.int _ _)) _ _ _); (k_dflt (refine' str_item ?k1 ?k2 ?k3 ?k4 ?k5 ?_; (case k1 => omega); (case k2 => first | omega | exact Int.lt_of_lt_of_le (b := 4) (by omega) (by decide +kernel)); (case k3 => first | omega | decide +kernel); (case k4 => with_unfolding_all rfl); (case k5 => (intro _; with_unfolding_all rfl)))); intro hone')
  k_with "subscriptTail Name Slice str ref" => ((with_reducible rename Fr _ _ _ _ => F'); (with_reducible rename News _ _ _ _ => N'); (first
  | ((with_reducible show wpAny _ _ (subscriptTail _ (Expr.Slice (some _) none none _) _ _) _ _ _); (refine' slice_strN_sn_len (s := ⟨_, _, _, _, _⟩) F' N' ?_ (hsz := ?hsz)); (case hsz => walk_at "str_fit"))
  | ((with_reducible show wpAny _ _ (subscriptTail _ (Expr.Slice none (some _) none _) _ _) _ _ _); (refine' slice_strN_ns_len (s := ⟨_, _, _, _, _⟩) F' N' ?_ (hsz := ?hsz)); (case hsz => walk_at "str_fit"))
  | ((with_reducible show wpAny _ _ (subscriptTail _ (Expr.Slice (some _) (some _) none _) _ _) _ _ _); (refine' slice_strN_ss_len (s := ⟨_, _, _, _, _⟩) F' N' ?_ (hsz := ?hsz)); (case hsz => walk_at "str_fit"))); intro _ _ _ _ _ _)
  k_with "call ref" => (k_here; (with_reducible show wpAny _ _ (call (Value.ref 28) _) _ _ _); (k_dflt (refine' Ct.use (rgb_spec _ _ _ _ _ _ _ _ ?p1 ?p2) ?k1 ?k2 ?k3 ?k4 ?k5 ?kK ?kd ?ku ?_; (case p1 => exact RgbOk.h1 (by assumption)); (case p2 => exact RgbOk.h2 (by assumption)); walk_at "ct_use")); intro r' tl' h' tk' F' N' l1 hP'; obtain ⟨D', c', t4', t5', t6', e1', e2', e3'⟩ := hP'; subst e1' e2' e3'; replace l1 := lt_tl1 l1; (try k_lt l1); (simp only [List.cons_append, List.nil_append] at N'); (try k_sweep); (try dsimp only); (try k_fold))
  k_with "call ref" => (k_here; (with_reducible show wpAny _ _ (call (Value.ref 86) _) _ _ _); (k_dflt (refine' Ct.use (p257_spec _ _ _ _ ?p1 ?p2) ?k1 ?k2 ?k3 ?k4 ?k5 ?kK ?kd ?ku ?_; (case p1 => assumption); (case p2 => assumption); walk_at "ct_use")); intro r' tl' h' tk' F' N' l1 hP'; obtain ⟨z', t4', e1', e2', e3'⟩ := hP'; subst e1' e2' e3'; (simp only [List.nil_append] at N'); (try k_sweep); (try dsimp only); (try k_fold))
  k_with "enterS" => (refine' code_defS ?k1 ?k2 ?k3 ?k4 ?k5 ?XB ?TB ?D ?T0 ?kA ?k6 ?k7 ?k8 ?k9 ?kB ?_ ?cK ?c2 ?c3 ?c4 ?c5; (case kA => exact rfl); (case k2 => k_asm); (case k1 => k_asm); (case XB => assumption); (case TB => assumption); (case D => assumption); (case T0 => first | assumption | exact KtsTurn.refl); (case k3 => k_asm); (case k4 => k_asm); (case k5 => k_asm); (case k6 => k_is); (case k7 => k_is); (case k8 => ktr_room); (case k9 => exact BindsTo.of_eq rfl); (case kB => exact locs rfl); (case cK => first | exact rfl | assumption); (case c2 => exact rfl); (case c3 => exact rfl); (case c4 => exact rfl); (case c5 => decide); k_whole; intro g' L' h' FG' F' N' B' X' T' D'; (try dsimp only); (try k_lift B'); (try k_fold))
  k_with "enterS0" => (refine' enter0X ?k1 ?k2 ?k3 ?k4 ?k5 ?kA ?kF ?cK ?k6 ?k7 ?k8 ?k9 ?kB ?_ ?c2 ?c3 ?c4 ?c5; (case kA => exact rfl); (case kF => exact rfl); (case cK => first | exact rfl | assumption); (case k2 => k_asm); (case k1 => k_asm); (case k3 => k_asm); (case k4 => k_asm); (case k5 => k_asm); (case k6 => k_is); (case k7 => k_is); (case k8 => ktr_room); (case k9 => exact BindsTo.of_eq rfl); (case kB => exact locs rfl); (case c2 => exact rfl); (case c3 => exact rfl); (case c4 => exact rfl); (case c5 => decide); k_whole; intro g' L' h' FG' F' N' B' X' T' D'; (try dsimp only); (try k_lift B'); (try k_fold))
  k_with "call ref" => (k_here; (with_reducible show wpAny _ _ (call (Value.ref 21) _) _ _ _); (k_dflt (refine' Ct.use (em_spec _ _ _ _ _ _ ?p1 ?p2) ?k1 ?k2 ?k3 ?k4 ?k5 ?kK ?kd ?ku ?_; (case p1 => walk_at "em_ok"); (case p2 => walk_at "em_len"); walk_at "ct_use")); intro r' tl' h' tk' F' N' l1 hP'; obtain ⟨e1', b', e2', e3'⟩ := hP'; subst e1' e2'; (simp only [List.nil_append] at N'); (try k_sweep); (try dsimp only); (try k_fold))
  k_with "em_len" => omega
  k_with "em_ok" => assumption
  trivial
abbrev nA (n : Str) : Str := Txt.slice n none (some 1)
abbrev nM (n : Str) : Str := Txt.slice n (some 1) (some 2)
abbrev nL (n : Str) : Str := Txt.slice n (some 2) none
def EmT (x n : Str) : Prop := EmOk x ∧ em x n = true
def EmF (x n : Str) : Prop := EmOk x ∧ em x n = false
structure OnceF (n : Str) : Prop where
  len : n.length ≤ 3
  t1 : EmT n n
  t2 : EmT (nA n ++ dots ++ nM n ++ nL n) n
  f1 : EmF (nA n ++ nM n) n
  f2 : EmF (nA n ++ nM n ++ dots ++ nM n ++ nL n) n
  f3 : EmF (nA n ++ dots ++ nA n ++ dots ++ nL n) n
  f4 : EmF (nM n ++ nL n) n
  f5 : EmF (n ++ nA n) n
  f6 : EmF (nL n ++ nM n ++ nA n) n
  f7 : EmF (nA n ++ dots ++ nL n ++ dots ++ nL n) n
  f8 : EmF (dots ++ nM n ++ dots ++ nM n ++ dots) n
theorem em_t (w : World) (news) (x y : Str) (t1 t2 : Tok) (hx : EmT x y) (hy : y.length ≤ 101) : Ct w 21 [.str x t1, .str y t2] news 5 60 (fun tl r => tl = [] ∧ r = .bool true) :=
  (em_spec w news x y t1 t2 hx.1 hy).mono fun tl r ⟨e1, b, e2, e3⟩ => ⟨e1, by rw [e2, ← e3, hx.2]⟩
theorem em_f (w : World) (news) (x y : Str) (t1 t2 : Tok) (hx : EmF x y) (hy : y.length ≤ 101) : Ct w 21 [.str x t1, .str y t2] news 5 60 (fun tl r => tl = [] ∧ r = .bool false) :=
  (em_spec w news x y t1 t2 hx.1 hy).mono fun tl r ⟨e1, b, e2, e3⟩ => ⟨e1, by rw [e2, ← e3, hx.2]⟩
section
variable {prog : Program} {w : World} {A : Around} {E : Value → Shared → Prop} {s : Shared} {Q : Value → Shared → Prop} {x : Str} {t : Tok} {value slice : Expr} {h₀ : Heap} {L : Addr} {m : Str → Option Value} {news : Led} {i j : Int} {ui uj : Tok}
theorem cut_ns (hx : x.length ≤ 3) (hF : Fr h₀ L s.heap m) (hN : News h₀ L s.heap news)
    (hs : subscripted slice false (.str x t) (.ref s.heap.objs.size) = operate [.ref s.heap.objs.size, .str x t] (getItem (.str x t) (.ref s.heap.objs.size))) (ht : ∀ r, letTemporaryGo value (.str x t) r = pure ())
    (h : ∀ z, z = Txt.slice x none (some j) → z.length ≤ 3 → ∀ h' t' k, Fr h₀ L h' m → News h₀ L h' news → Q (.str z t') { s with heap := h', toks := k }) :
    wpAny (model prog w) A (subscriptTail value slice (.str x t) (.ref s.heap.objs.size)) Q E { s with heap := s.heap.push { cls := .type "slice", data := .fields #[.none, .int j uj, .none] } } :=
  slice_strN_ns_len hF hN (fun h' t' k F' N' l => h _ rfl (Nat.le_trans l hx) h' t' k F' N') hs ht (by rw [sizeLine_eq]; omega)
theorem cut_ss (hx : x.length ≤ 3) (hF : Fr h₀ L s.heap m) (hN : News h₀ L s.heap news)
    (hs : subscripted slice false (.str x t) (.ref s.heap.objs.size) = operate [.ref s.heap.objs.size, .str x t] (getItem (.str x t) (.ref s.heap.objs.size))) (ht : ∀ r, letTemporaryGo value (.str x t) r = pure ())
    (h : ∀ z, z = Txt.slice x (some i) (some j) → z.length ≤ 3 → ∀ h' t' k, Fr h₀ L h' m → News h₀ L h' news → Q (.str z t') { s with heap := h', toks := k }) :
    wpAny (model prog w) A (subscriptTail value slice (.str x t) (.ref s.heap.objs.size)) Q E { s with heap := s.heap.push { cls := .type "slice", data := .fields #[.int i ui, .int j uj, .none] } } :=
  slice_strN_ss_len hF hN (fun h' t' k F' N' l => h _ rfl (Nat.le_trans l hx) h' t' k F' N') hs ht (by rw [sizeLine_eq]; omega)
theorem cut_sn (hx : x.length ≤ 3) (hF : Fr h₀ L s.heap m) (hN : News h₀ L s.heap news)
    (hs : subscripted slice false (.str x t) (.ref s.heap.objs.size) = operate [.ref s.heap.objs.size, .str x t] (getItem (.str x t) (.ref s.heap.objs.size))) (ht : ∀ r, letTemporaryGo value (.str x t) r = pure ())
    (h : ∀ z, z = Txt.slice x (some i) none → z.length ≤ 3 → ∀ h' t' k, Fr h₀ L h' m → News h₀ L h' news → Q (.str z t') { s with heap := h', toks := k }) :
    wpAny (model prog w) A (subscriptTail value slice (.str x t) (.ref s.heap.objs.size)) Q E { s with heap := s.heap.push { cls := .type "slice", data := .fields #[.int i ui, .none, .none] } } :=
  slice_strN_sn_len hF hN (fun h' t' k F' N' l => h _ rfl (Nat.le_trans l hx) h' t' k F' N') hs ht (by rw [sizeLine_eq]; omega)
end
section
theorem once_rows2 : True := by
  k_with "len_le" => first | assumption | exact Nat.le_refl _
  k_with "binaryOp Add str str" => (k_here; (with_reducible show wpAny _ _ (binaryOp Operator.Add (Value.str _ _) (Value.str _ _)) _ _ _); (refine' add_g ?ka ?kb ?kc ?_; (case ka => walk_at "len_le"); (case kb => walk_at "len_le"); (case kc => decide +kernel)); intro z' ez' lz' tx' kx' hx'; (try dsimp only at hx'))
  k_with "binaryOp Mult str int" => (k_here; (refine' mul_g ?ka ?kb ?kc ?kd ?_; (case ka => walk_at "len_le"); (case kb => decide +kernel); (case kc => decide); (case kd => decide)); intro z' ez' lz' tx' kx' hx'; (try dsimp only at hx'))
  k_with "call type:str" => (k_here; (refine' strint_g ?ka ?kb ?_; (case ka => omega); (case kb => omega)); intro z' ez' lz')
  k_with "subscriptTail Name Slice str ref" => ((with_reducible rename Fr _ _ _ _ => F'); (with_reducible rename News _ _ _ _ => N'); (with_reducible show wpAny _ _ (subscriptTail _ (Expr.Slice (some _) none none _) _ _) _ _ _); (refine' cut_g (s := ⟨_, _, _, _, _⟩) ?ka ?kb F' N' ?kc ?kd ?_; (case ka => walk_at "len_le"); (case kb => decide +kernel); (case kc => with_unfolding_all rfl); (case kd => (intro _; with_unfolding_all rfl))); intro z' ez' lz' h' tx' kx' F2' N2' hx'; (try dsimp only at hx'))
  k_with "subscriptTail" => (k_here; (with_reducible show wpAny _ _ (subscriptTail _ _ (Value.str _ _) (Value.int _ _)) _ _ _); (k_dflt (refine' item_g ?k1 ?k2 ?k3 ?k4 ?k5 ?_; (case k1 => omega); (case k2 => first | omega | exact Int.lt_of_lt_of_le (b := 4) (by omega) (by decide +kernel)); (case k3 => first | omega | decide +kernel); (case k4 => with_unfolding_all rfl); (case k5 => (intro _; with_unfolding_all rfl)))); intro z' ez' lz')
  trivial
theorem once_rows3 : True := by
  k_with "subscriptTail Name Slice str ref" => ((with_reducible rename Fr _ _ _ _ => F'); (with_reducible rename News _ _ _ _ => N'); (first | ((with_reducible show wpAny _ _ (subscriptTail _ (Expr.Slice (some _) none none _) _ _) _ _ _); (refine' cut_sn (s := ⟨_, _, _, _, _⟩) hn F' N' ?kc ?kd ?_)) | ((with_reducible show wpAny _ _ (subscriptTail _ (Expr.Slice none (some _) none _) _ _) _ _ _); (refine' cut_ns (s := ⟨_, _, _, _, _⟩) hn F' N' ?kc ?kd ?_)) | ((with_reducible show wpAny _ _ (subscriptTail _ (Expr.Slice (some _) (some _) none _) _ _) _ _ _); (refine' cut_ss (s := ⟨_, _, _, _, _⟩) hn F' N' ?kc ?kd ?_))); (case kc => with_unfolding_all rfl); (case kd => (intro _; with_unfolding_all rfl)); intro z' ez' lz' h' tx' kx' F2' N2')
  trivial
theorem once_rows4 : True := by
  k_with "call ref" => (k_here; (with_reducible show wpAny _ _ (call (Value.ref 21) _) _ _ _); (k_dflt (first | (refine' Ct.use (em_t _ _ _ _ _ _ ?p1 ?p2) ?k1 ?k2 ?k3 ?k4 ?k5 ?kK ?kd ?ku ?_; (case p1 => (clear hret; subst_vars; first | with_reducible exact hf.t1 | with_reducible exact hf.t2))) | (refine' Ct.use (em_f _ _ _ _ _ _ ?p1 ?p2) ?k1 ?k2 ?k3 ?k4 ?k5 ?kK ?kd ?ku ?_; (case p1 => (with_reducible assumption)))); (case p2 => omega); walk_at "ct_use"); intro r' tl' h' tk' F' N' l1 hP'; obtain ⟨e1', e2'⟩ := hP'; subst e1' e2'; (simp only [List.nil_append] at N'); (try k_sweep); (try dsimp only); (try k_fold))
  trivial
theorem once_rows5 : True := by
  k_with "exec For Name BinOp cons nil" => (k_here; refine wpAny_For ?_ (fun _ => rfl))
  trivial
theorem once_rows6 : True := by
  k_with "pyIter ref" => (refine Hold.un ?_)
  trivial
theorem once_rows7 : True := by
  k_with "binaryOp Add ref ref" => (k_here; (refine' add_l ?k1 ?k2 ?k3 ?k4 ?k5 ?_; (case k1 => k_asm); (case k2 => k_asm); (case k3 => k_mem); (case k4 => k_mem); (case k5 => exact Nat.le_of_ble_eq_true rfl)); intro D' h' F' N' l1; (try k_lt l1); (simp only [List.cons_append, List.nil_append] at N'))
  trivial
def once_spec_says (w : World) (news : Led) (t1 : Tok) (mean : ExcName → Option Value) (mg : Str → Option Value) (mb : Str → Option Value) (dp : Nat) (un : Nat) (gd : Option (List Code)) (cn : Str) (cs : Scope) (a : Addr) (ccd : Value) (cl : List (Str × Addr)) (outer : List Env) (A₀ : Around) (base : Heap) (h₀ : Heap) (L : Addr) (m : Str → Option Value) (s : Shared) (Q : Value → Shared → Prop) (E : Value → Shared → Prop) : Prop := ∀ (n : Str), (OnceF n) → CtB w 119 [.str n t1] news 7 90 (fun tl r => tl = [] ∧ r = .bool true) mean mg mb dp un gd cn cs a ccd cl outer A₀ base h₀ L m s Q E
noncomputable def once_spec_bad : World × Led × Tok × (ExcName → Option Value) × (Str → Option Value) × (Str → Option Value) × Nat × Nat × (Option (List Code)) × Str × Scope × Addr × Value × (List (Str × Addr)) × (List Env) × Around × Heap × Heap × Addr × (Str → Option Value) × Shared × (Value → Shared → Prop) × (Value → Shared → Prop) := Classical.choose (ex_eps (dW, default, default, default, default, default, default, default, default, default, default, default, default, default, default, dA, default, default, default, default, dS, default, default) (fun v : World × Led × Tok × (ExcName → Option Value) × (Str → Option Value) × (Str → Option Value) × Nat × Nat × (Option (List Code)) × Str × Scope × Addr × Value × (List (Str × Addr)) × (List Env) × Around × Heap × Heap × Addr × (Str → Option Value) × Shared × (Value → Shared → Prop) × (Value → Shared → Prop) => once_spec_says v.1 v.2.1 v.2.2.1 v.2.2.2.1 v.2.2.2.2.1 v.2.2.2.2.2.1 v.2.2.2.2.2.2.1 v.2.2.2.2.2.2.2.1 v.2.2.2.2.2.2.2.2.1 v.2.2.2.2.2.2.2.2.2.1 v.2.2.2.2.2.2.2.2.2.2.1 v.2.2.2.2.2.2.2.2.2.2.2.1 v.2.2.2.2.2.2.2.2.2.2.2.2.1 v.2.2.2.2.2.2.2.2.2.2.2.2.2.1 v.2.2.2.2.2.2.2.2.2.2.2.2.2.2.1 v.2.2.2.2.2.2.2.2.2.2.2.2.2.2.2.1 v.2.2.2.2.2.2.2.2.2.2.2.2.2.2.2.2.1 v.2.2.2.2.2.2.2.2.2.2.2.2.2.2.2.2.2.1 v.2.2.2.2.2.2.2.2.2.2.2.2.2.2.2.2.2.2.1 v.2.2.2.2.2.2.2.2.2.2.2.2.2.2.2.2.2.2.2.1 v.2.2.2.2.2.2.2.2.2.2.2.2.2.2.2.2.2.2.2.2.1 v.2.2.2.2.2.2.2.2.2.2.2.2.2.2.2.2.2.2.2.2.2.1 v.2.2.2.2.2.2.2.2.2.2.2.2.2.2.2.2.2.2.2.2.2.2))
noncomputable def once_spec_w : World := once_spec_bad.1
noncomputable def once_spec_news : Led := once_spec_bad.2.1
noncomputable def once_spec_t1 : Tok := once_spec_bad.2.2.1
noncomputable def once_spec_mean : ExcName → Option Value := once_spec_bad.2.2.2.1
noncomputable def once_spec_mg : Str → Option Value := once_spec_bad.2.2.2.2.1
noncomputable def once_spec_mb : Str → Option Value := once_spec_bad.2.2.2.2.2.1
noncomputable def once_spec_dp : Nat := once_spec_bad.2.2.2.2.2.2.1
noncomputable def once_spec_un : Nat := once_spec_bad.2.2.2.2.2.2.2.1
noncomputable def once_spec_gd : Option (List Code) := once_spec_bad.2.2.2.2.2.2.2.2.1
noncomputable def once_spec_cn : Str := once_spec_bad.2.2.2.2.2.2.2.2.2.1
noncomputable def once_spec_cs : Scope := once_spec_bad.2.2.2.2.2.2.2.2.2.2.1
noncomputable def once_spec_a : Addr := once_spec_bad.2.2.2.2.2.2.2.2.2.2.2.1
noncomputable def once_spec_ccd : Value := once_spec_bad.2.2.2.2.2.2.2.2.2.2.2.2.1
noncomputable def once_spec_cl : List (Str × Addr) := once_spec_bad.2.2.2.2.2.2.2.2.2.2.2.2.2.1
noncomputable def once_spec_outer : List Env := once_spec_bad.2.2.2.2.2.2.2.2.2.2.2.2.2.2.1
noncomputable def once_spec_A₀ : Around := once_spec_bad.2.2.2.2.2.2.2.2.2.2.2.2.2.2.2.1
noncomputable def once_spec_base : Heap := once_spec_bad.2.2.2.2.2.2.2.2.2.2.2.2.2.2.2.2.1
noncomputable def once_spec_h₀ : Heap := once_spec_bad.2.2.2.2.2.2.2.2.2.2.2.2.2.2.2.2.2.1
noncomputable def once_spec_L : Addr := once_spec_bad.2.2.2.2.2.2.2.2.2.2.2.2.2.2.2.2.2.2.1
noncomputable def once_spec_m : Str → Option Value := once_spec_bad.2.2.2.2.2.2.2.2.2.2.2.2.2.2.2.2.2.2.2.1
noncomputable def once_spec_s : Shared := once_spec_bad.2.2.2.2.2.2.2.2.2.2.2.2.2.2.2.2.2.2.2.2.1
noncomputable def once_spec_Q : Value → Shared → Prop := once_spec_bad.2.2.2.2.2.2.2.2.2.2.2.2.2.2.2.2.2.2.2.2.2.1
noncomputable def once_spec_E : Value → Shared → Prop := once_spec_bad.2.2.2.2.2.2.2.2.2.2.2.2.2.2.2.2.2.2.2.2.2.2
set_option maxHeartbeats 3000000 in
theorem once_spec_core : once_spec_says once_spec_w once_spec_news once_spec_t1 once_spec_mean once_spec_mg once_spec_mb once_spec_dp once_spec_un once_spec_gd once_spec_cn once_spec_cs once_spec_a once_spec_ccd once_spec_cl once_spec_outer once_spec_A₀ once_spec_base once_spec_h₀ once_spec_L once_spec_m once_spec_s once_spec_Q once_spec_E := by
  unfold once_spec_says
  intro n hf
  (refine fillIt ?_; k_fill; intro _; unfold CtB)
  have hn := hf.len
  intro B F X N T hk hdp hun hret
  walk_at "ct_enter"
  k_steps
  unfold Hold
  rename News _ _ _ _ => N9
  rename Fr _ _ _ _ => F9
  refine for_all (fun v => ∃ x t, v = .str x t ∧ EmF x n) rfl rfl rfl F9 N9 (.head _) ?_ rfl ?_ ?_
  · intro v hv
    clear hret F9 N9
    simp only [List.mem_cons, List.not_mem_nil, or_false] at hv
    rcases hv with rfl | rfl | rfl | rfl | rfl | rfl | rfl | rfl
    · exact ⟨_, _, rfl, by subst_vars; with_reducible exact hf.f1⟩
    · exact ⟨_, _, rfl, by subst_vars; with_reducible exact hf.f2⟩
    · exact ⟨_, _, rfl, by subst_vars; with_reducible exact hf.f3⟩
    · exact ⟨_, _, rfl, by subst_vars; with_reducible exact hf.f4⟩
    · exact ⟨_, _, rfl, by subst_vars; with_reducible exact hf.f5⟩
    · exact ⟨_, _, rfl, by subst_vars; with_reducible exact hf.f6⟩
    · exact ⟨_, _, rfl, by subst_vars; with_reducible exact hf.f7⟩
    · exact ⟨_, _, rfl, by subst_vars; with_reducible exact hf.f8⟩
  · rintro v I o h tk yv ⟨x, t, rfl, hxF⟩ hI F3 N3
    clear F9 N9
    k_steps
    rename News _ _ _ _ => N4
    rename Fr _ _ _ _ => F4
    refine AllEnd.next (yv := some (.str x t)) F4 (fun y => ?_) N4 (by walk_at "led_sub")
    by_cases e : y = Str.ofString "want"
    · rw [if_pos e, if_pos e]
    · rw [if_neg e, if_neg e, if_neg e]
  · intro h tk yv F3 N3
    clear F9 N9
    k_steps
    refine end0 hret (by k_asm) (by k_asm) (by walk_at "led_sub") ⟨rfl, rfl⟩
theorem once_spec (w : World) (news) (n : Str) (t1 : Tok) (hf : OnceF n)
   : Ct w 119 [.str n t1] news 7 90 (fun tl r => tl = [] ∧ r = .bool true) :=
  Ct.of fun mean mg mb dp un gd cn cs a ccd cl outer A₀ base h₀ L m s Q E => (Classical.choose_spec (ex_eps (dW, default, default, default, default, default, default, default, default, default, default, default, default, default, default, dA, default, default, default, default, dS, default, default) (fun v : World × Led × Tok × (ExcName → Option Value) × (Str → Option Value) × (Str → Option Value) × Nat × Nat × (Option (List Code)) × Str × Scope × Addr × Value × (List (Str × Addr)) × (List Env) × Around × Heap × Heap × Addr × (Str → Option Value) × Shared × (Value → Shared → Prop) × (Value → Shared → Prop) => once_spec_says v.1 v.2.1 v.2.2.1 v.2.2.2.1 v.2.2.2.2.1 v.2.2.2.2.2.1 v.2.2.2.2.2.2.1 v.2.2.2.2.2.2.2.1 v.2.2.2.2.2.2.2.2.1 v.2.2.2.2.2.2.2.2.2.1 v.2.2.2.2.2.2.2.2.2.2.1 v.2.2.2.2.2.2.2.2.2.2.2.1 v.2.2.2.2.2.2.2.2.2.2.2.2.1 v.2.2.2.2.2.2.2.2.2.2.2.2.2.1 v.2.2.2.2.2.2.2.2.2.2.2.2.2.2.1 v.2.2.2.2.2.2.2.2.2.2.2.2.2.2.2.1 v.2.2.2.2.2.2.2.2.2.2.2.2.2.2.2.2.1 v.2.2.2.2.2.2.2.2.2.2.2.2.2.2.2.2.2.1 v.2.2.2.2.2.2.2.2.2.2.2.2.2.2.2.2.2.2.1 v.2.2.2.2.2.2.2.2.2.2.2.2.2.2.2.2.2.2.2.1 v.2.2.2.2.2.2.2.2.2.2.2.2.2.2.2.2.2.2.2.2.1 v.2.2.2.2.2.2.2.2.2.2.2.2.2.2.2.2.2.2.2.2.2.1 v.2.2.2.2.2.2.2.2.2.2.2.2.2.2.2.2.2.2.2.2.2.2)) once_spec_core (w, news, t1, mean, mg, mb, dp, un, gd, cn, cs, a, ccd, cl, outer, A₀, base, h₀, L, m, s, Q, E) : once_spec_says w news t1 mean mg mb dp un gd cn cs a ccd cl outer A₀ base h₀ L m s Q E) n hf
end

theorem tabt_rows1 : True := by
  k_with_none
  w_top off
  k_with "led_sub" => first | exact fun p hp => hp | (intro p hp; repeat' (first | exact hp | refine List.Mem.tail _ ?_))
  k_with "led_lt" => first | assumption | exact ktn_ltOf (by assumption) | exact lt1 (by assumption) | exact lt2 (by assumption) | exact lt3 (by assumption) | exact lt4 (by assumption)
  k_with "ct_fill" => (refine fillIt ?_; k_fill; intro _; unfold Ct)
  k_with "ct_enter" => (refine wpAny_call ?_; k_dflt cell_enter)
  k_with "ct_use" => ((case k1 => k_asm); (case k2 => k_asm); (case k3 => k_asm); (case k4 => k_asm); (case k5 => k_asm); (case kK => first | exact rfl | assumption); (case kd => ktr_room); (case ku => ktr_units))
  k_with "subscriptTail" => (k_here; (with_reducible show wpAny _ _ (subscriptTail _ _ (Value.ref _) (Value.int _ _)) _ _ _); (k_dflt (refine' tup_item ?k1 ?k2 ?k3 ?k4 ?k5 ?k6 ?_; (case k1 => k_asm); (case k2 => first | assumption | k_mem); (case k3 => decide); (case k4 => decide); (case k5 => exact rfl); (case k6 => with_unfolding_all rfl); k_whole)))
  k_with "call builtin:max" => ((with_reducible show wpAny _ _ (call _ [Value.float _ _, Value.float _ _, Value.float _ _]) _ _ _); (rename News _ _ _ _ => N'); (rename Fr _ _ _ _ => F'); refine max3_K rfl F' N' ?_; clear N'; intro _ _ _ _ _)
  k_with "call builtin:min" => ((with_reducible show wpAny _ _ (call _ [Value.float _ _, Value.float _ _, Value.float _ _]) _ _ _); (rename News _ _ _ _ => N'); (rename Fr _ _ _ _ => F'); refine min3_K rfl F' N' ?_; clear N'; intro _ _ _ _ _)
  k_with "subscriptTail" => (k_here; (with_reducible show wpAny _ _ (subscriptTail _ _ (Value.ref _) (Value.int _ _)) _ _ _); (k_dflt (refine' lst_item3 ?k1 ?k2 ?k3 ?k4 ?k6 ?_ ?_ ?_; (case k1 => k_asm); (case k2 => k_mem); (case k3 => omega); (case k4 => omega); (case k6 => with_unfolding_all rfl); all_goals (k_whole; intro hidx))))
  k_with "str_fit" => first | decide +kernel | (simp only [Str.length_append]; omega)
  k_with "binaryOp Add str str" => (k_here; (with_reducible show wpAny _ _ (binaryOp Operator.Add (Value.str _ _) (Value.str _ _)) _ _ _); (refine' add_m ?ksz ?_; (case ksz => walk_at "str_fit")); intro tx' kx' hx'; (try dsimp only at hx'))
  k_with "call builtin:str.replace" => (k_here; (refine' repl_m ?k1 ?k2 ?k3 ?k4 ?k5 ?k6 ?_; (case k1 => (show (0 : Nat) < _); omega); (case k2 => (show (0 : Nat) < _); omega); (case k3 => (show @Ne Nat _ _); omega); (case k4 => decide +kernel); (case k5 => walk_at "str_fit"); (case k6 => walk_at "str_fit")); intro tx' kx' hx'; (try dsimp only at hx'))
  k_with "subscriptTail" => (k_here; (with_reducible show wpAny _ _ (subscriptTail _ _ (Value.str _ _) (Value.int _ _)) _ _ _); (k_dflt (refine' str_item ?k1 ?k2 ?k3 ?k4 ?k5 ?_; (case k1 => omega); (case k2 => first | omega | exact Int.lt_of_lt_of_le (b := 4) (by omega) (by decide +kernel)); (case k3 => first | omega | decide +kernel); (case k4 => with_unfolding_all rfl); (case k5 => (intro _; with_unfolding_all rfl)))); intro hone')
  k_with "subscriptTail Name Slice str ref" => ((with_reducible rename Fr _ _ _ _ => F'); (with_reducible rename News _ _ _ _ => N'); (first
  | ((with_reducible show wpAny _ _ (subscriptTail _ (Expr.Slice (some _) none none _) _ _) _ _ _); (refine' slice_strN_sn_len (s := ⟨_, _, _, _, _⟩) F' N' ?_ (hsz := ?hsz)); (case hsz => walk_at "str_fit"))
  | ((with_reducible show wpAny _ _ (subscriptTail _ (Expr.Slice none (some _) none _) _ _) _ _ _); (refine' slice_strN_ns_len (s := ⟨_, _, _, _, _⟩) F' N' ?_ (hsz := ?hsz)); (case hsz => walk_at "str_fit"))
  | ((with_reducible show wpAny _ _ (subscriptTail _ (Expr.Slice (some _) (some _) none _) _ _) _ _ _); (refine' slice_strN_ss_len (s := ⟨_, _, _, _, _⟩) F' N' ?_ (hsz := ?hsz)); (case hsz => walk_at "str_fit"))); intro _ _ _ _ _ _)
  k_with "call ref" => (k_here; (with_reducible show wpAny _ _ (call (Value.ref 28) _) _ _ _); (k_dflt (refine' Ct.use (rgb_spec _ _ _ _ _ _ _ _ ?p1 ?p2) ?k1 ?k2 ?k3 ?k4 ?k5 ?kK ?kd ?ku ?_; (case p1 => exact RgbOk.h1 (by assumption)); (case p2 => exact RgbOk.h2 (by assumption)); walk_at "ct_use")); intro r' tl' h' tk' F' N' l1 hP'; obtain ⟨D', c', t4', t5', t6', e1', e2', e3'⟩ := hP'; subst e1' e2' e3'; replace l1 := lt_tl1 l1; (try k_lt l1); (simp only [List.cons_append, List.nil_append] at N'); (try k_sweep); (try dsimp only); (try k_fold))
  k_with "call ref" => (k_here; (with_reducible show wpAny _ _ (call (Value.ref 86) _) _ _ _); (k_dflt (refine' Ct.use (p257_spec _ _ _ _ ?p1 ?p2) ?k1 ?k2 ?k3 ?k4 ?k5 ?kK ?kd ?ku ?_; (case p1 => assumption); (case p2 => assumption); walk_at "ct_use")); intro r' tl' h' tk' F' N' l1 hP'; obtain ⟨z', t4', e1', e2', e3'⟩ := hP'; subst e1' e2' e3'; (simp only [List.nil_append] at N'); (try k_sweep); (try dsimp only); (try k_fold))
  k_with "enterS" => (refine' code_defS ?k1 ?k2 ?k3 ?k4 ?k5 ?XB ?TB ?D ?T0 ?kA ?k6 ?k7 ?k8 ?k9 ?kB ?_ ?cK ?c2 ?c3 ?c4 ?c5; (case kA => exact rfl); (case k2 => k_asm); (case k1 => k_asm); (case XB => assumption); (case TB => assumption); (case D => assumption); (case T0 => first | assumption | exact KtsTurn.refl); (case k3 => k_asm); (case k4 => k_asm); (case k5 => k_asm); (case k6 => k_is); (case k7 => k_is); (case k8 => ktr_room); (case k9 => exact BindsTo.of_eq rfl); (case kB => exact locs rfl); (case cK => first | exact rfl | assumption); (case c2 => exact rfl); (case c3 => exact rfl); (case c4 => exact rfl); (case c5 => decide); k_whole; intro g' L' h' FG' F' N' B' X' T' D'; (try dsimp only); (try k_lift B'); (try k_fold))
  k_with "enterS0" => (refine' enter0X ?k1 ?k2 ?k3 ?k4 ?k5 ?kA ?kF ?cK ?k6 ?k7 ?k8 ?k9 ?kB ?_ ?c2 ?c3 ?c4 ?c5; (case kA => exact rfl); (case kF => exact rfl); (case cK => first | exact rfl | assumption); (case k2 => k_asm); (case k1 => k_asm); (case k3 => k_asm); (case k4 => k_asm); (case k5 => k_asm); (case k6 => k_is); (case k7 => k_is); (case k8 => ktr_room); (case k9 => exact BindsTo.of_eq rfl); (case kB => exact locs rfl); (case c2 => exact rfl); (case c3 => exact rfl); (case c4 => exact rfl); (case c5 => decide); k_whole; intro g' L' h' FG' F' N' B' X' T' D'; (try dsimp only); (try k_lift B'); (try k_fold))
  k_with "call ref" => (k_here; (with_reducible show wpAny _ _ (call (Value.ref 21) _) _ _ _); (k_dflt (refine' Ct.use (em_spec _ _ _ _ _ _ ?p1 ?p2) ?k1 ?k2 ?k3 ?k4 ?k5 ?kK ?kd ?ku ?_; (case p1 => walk_at "em_ok"); (case p2 => walk_at "em_len"); walk_at "ct_use")); intro r' tl' h' tk' F' N' l1 hP'; obtain ⟨e1', b', e2', e3'⟩ := hP'; subst e1' e2'; (simp only [List.nil_append] at N'); (try k_sweep); (try dsimp only); (try k_fold))
  k_with "em_len" => omega
  k_with "em_ok" => assumption
  trivial
def emOkB (x : Str) : Bool := decide (x.length ≤ 100) && ((Builtin.Str.occurrences x (Str.ofString "...") 0 x.length 1).isEmpty || match Txt.split x dots with
  | [p, q] => (decide (0 < p.length) && decide (0 < q.length) && decide (p.length ≤ 100) && decide (q.length ≤ 100)) || (decide (0 < p.length) && (q == Str.ofString "") && decide (p.length ≤ 100)) || ((p == Str.ofString "") && decide (0 < q.length) && decide (q.length ≤ 100))
  | [p, c, q] => decide (0 < p.length) && decide (0 < q.length) && decide (p.length ≤ 100) && decide (c.length ≤ 100) && decide (q.length ≤ 100)
  | [p, c, d, q] => (p == Str.ofString "") && (q == Str.ofString "") && decide (c.length ≤ 100) && decide (d.length ≤ 100)
  | _ => false)
theorem emOk_of {x : Str} (h : emOkB x = true) : EmOk x := by
  unfold emOkB at h
  rw [Bool.and_eq_true, decide_eq_true_eq] at h
  refine ⟨h.1, ?_⟩
  have h2 := h.2
  cases hc : (Builtin.Str.occurrences x (Str.ofString "...") 0 x.length 1).isEmpty with
  | true => exact .inl rfl
  | false =>
    refine .inr ⟨rfl, ?_⟩
    rw [hc, Bool.false_or] at h2
    match hs : Txt.split x dots, h2 with
    | [p, q], h2 =>
      simp only [Bool.or_eq_true, Bool.and_eq_true, decide_eq_true_eq, beq_iff_eq] at h2
      rcases h2 with (⟨⟨⟨a, b⟩, c⟩, d⟩ | ⟨⟨a, b⟩, c⟩) | ⟨⟨a, b⟩, c⟩
      · exact .inl ⟨p, q, rfl, a, b, c, d⟩
      · subst b; exact .inr (.inl ⟨p, rfl, a, c⟩)
      · subst a; exact .inr (.inr (.inl ⟨q, rfl, b, c⟩))
    | [p, c, q], h2 =>
      simp only [Bool.and_eq_true, decide_eq_true_eq] at h2
      obtain ⟨⟨⟨⟨a, b⟩, c1⟩, d⟩, e⟩ := h2
      exact .inr (.inr (.inr (.inl ⟨p, c, q, rfl, a, b, c1, d, e⟩)))
    | [p, c, d, q], h2 =>
      simp only [Bool.and_eq_true, decide_eq_true_eq, beq_iff_eq] at h2
      obtain ⟨⟨⟨a, b⟩, c1⟩, d1⟩ := h2
      subst a b
      exact .inr (.inr (.inr (.inr ⟨c, d, rfl, c1, d1⟩)))
def names6 : List Str := [Str.ofString "r\"b", Str.ofString "\"rb", Str.ofString "\"br", Str.ofString "b\"r", Str.ofString "br\"", Str.ofString "rb\""]

theorem tabo_rows1 : True := by
  k_with_none
  w_top off
  k_with "led_sub" => first | exact fun p hp => hp | (intro p hp; repeat' (first | exact hp | refine List.Mem.tail _ ?_))
  k_with "led_lt" => first | assumption | exact ktn_ltOf (by assumption) | exact lt1 (by assumption) | exact lt2 (by assumption) | exact lt3 (by assumption) | exact lt4 (by assumption)
  k_with "ct_fill" => (refine fillIt ?_; k_fill; intro _; unfold Ct)
  k_with "ct_enter" => (refine wpAny_call ?_; k_dflt cell_enter)
  k_with "ct_use" => ((case k1 => k_asm); (case k2 => k_asm); (case k3 => k_asm); (case k4 => k_asm); (case k5 => k_asm); (case kK => first | exact rfl | assumption); (case kd => ktr_room); (case ku => ktr_units))
  k_with "subscriptTail" => (k_here; (with_reducible show wpAny _ _ (subscriptTail _ _ (Value.ref _) (Value.int _ _)) _ _ _); (k_dflt (refine' tup_item ?k1 ?k2 ?k3 ?k4 ?k5 ?k6 ?_; (case k1 => k_asm); (case k2 => first | assumption | k_mem); (case k3 => decide); (case k4 => decide); (case k5 => exact rfl); (case k6 => with_unfolding_all rfl); k_whole)))
  k_with "call builtin:max" => ((with_reducible show wpAny _ _ (call _ [Value.float _ _, Value.float _ _, Value.float _ _]) _ _ _); (rename News _ _ _ _ => N'); (rename Fr _ _ _ _ => F'); refine max3_K rfl F' N' ?_; clear N'; intro _ _ _ _ _)
  k_with "call builtin:min" => ((with_reducible show wpAny _ _ (call _ [Value.float _ _, Value.float _ _, Value.float _ _]) _ _ _); (rename News _ _ _ _ => N'); (rename Fr _ _ _ _ => F'); refine min3_K rfl F' N' ?_; clear N'; intro _ _ _ _ _)
  k_with "subscriptTail" => (k_here; (with_reducible show wpAny _ _ (subscriptTail _ _ (Value.ref _) (Value.int _ _)) _ _ _); (k_dflt (refine' lst_item3 ?k1 ?k2 ?k3 ?k4 ?k6 ?_ ?_ ?_; (case k1 => k_asm); (case k2 => k_mem); (case k3 => omega); (case k4 => omega); (case k6 => with_unfolding_all rfl); all_goals (k_whole; intro hidx))))
  k_with "str_fit" => first | decide +kernel | (simp only [Str.length_append]; omega)
  k_with "binaryOp Add str str" => (k_here; (with_reducible show wpAny _ _ (binaryOp Operator.Add (Value.str _ _) (Value.str _ _)) _ _ _); (refine' add_m ?ksz ?_; (case ksz => walk_at "str_fit")); intro tx' kx' hx'; (try dsimp only at hx'))
  k_with "call builtin:str.replace" => (k_here; (refine' repl_m ?k1 ?k2 ?k3 ?k4 ?k5 ?k6 ?_; (case k1 => (show (0 : Nat) < _); omega); (case k2 => (show (0 : Nat) < _); omega); (case k3 => (show @Ne Nat _ _); omega); (case k4 => decide +kernel); (case k5 => walk_at "str_fit"); (case k6 => walk_at "str_fit")); intro tx' kx' hx'; (try dsimp only at hx'))
  k_with "subscriptTail" => (k_here; (with_reducible show wpAny _ _ (subscriptTail _ _ (Value.str _ _) (Value.int _ _)) _ _ _); (k_dflt (refine' str_item ?k1 ?k2 ?k3 ?k4 ?k5 ?_; (case k1 => omega); (case k2 => first | omega | exact Int.lt_of_lt_of_le (b := 4) (by omega) (by decide +kernel)); (case k3 => first | omega | decide +kernel); (case k4 => with_unfolding_all rfl); (case k5 => (intro _; with_unfolding_all rfl)))); intro hone')
  k_with "subscriptTail Name Slice str ref" => ((with_reducible rename Fr _ _ _ _ => F'); (with_reducible rename News _ _ _ _ => N'); (first
  | ((with_reducible show wpAny _ _ (subscriptTail _ (Expr.Slice (some _) none none _) _ _) _ _ _); (refine' slice_strN_sn_len (s := ⟨_, _, _, _, _⟩) F' N' ?_ (hsz := ?hsz)); (case hsz => walk_at "str_fit"))
  | ((with_reducible show wpAny _ _ (subscriptTail _ (Expr.Slice none (some _) none _) _ _) _ _ _); (refine' slice_strN_ns_len (s := ⟨_, _, _, _, _⟩) F' N' ?_ (hsz := ?hsz)); (case hsz => walk_at "str_fit"))
  | ((with_reducible show wpAny _ _ (subscriptTail _ (Expr.Slice (some _) (some _) none _) _ _) _ _ _); (refine' slice_strN_ss_len (s := ⟨_, _, _, _, _⟩) F' N' ?_ (hsz := ?hsz)); (case hsz => walk_at "str_fit"))); intro _ _ _ _ _ _)
  k_with "call ref" => (k_here; (with_reducible show wpAny _ _ (call (Value.ref 28) _) _ _ _); (k_dflt (refine' Ct.use (rgb_spec _ _ _ _ _ _ _ _ ?p1 ?p2) ?k1 ?k2 ?k3 ?k4 ?k5 ?kK ?kd ?ku ?_; (case p1 => exact RgbOk.h1 (by assumption)); (case p2 => exact RgbOk.h2 (by assumption)); walk_at "ct_use")); intro r' tl' h' tk' F' N' l1 hP'; obtain ⟨D', c', t4', t5', t6', e1', e2', e3'⟩ := hP'; subst e1' e2' e3'; replace l1 := lt_tl1 l1; (try k_lt l1); (simp only [List.cons_append, List.nil_append] at N'); (try k_sweep); (try dsimp only); (try k_fold))
  k_with "call ref" => (k_here; (with_reducible show wpAny _ _ (call (Value.ref 86) _) _ _ _); (k_dflt (refine' Ct.use (p257_spec _ _ _ _ ?p1 ?p2) ?k1 ?k2 ?k3 ?k4 ?k5 ?kK ?kd ?ku ?_; (case p1 => assumption); (case p2 => assumption); walk_at "ct_use")); intro r' tl' h' tk' F' N' l1 hP'; obtain ⟨z', t4', e1', e2', e3'⟩ := hP'; subst e1' e2' e3'; (simp only [List.nil_append] at N'); (try k_sweep); (try dsimp only); (try k_fold))
  k_with "enterS" => (refine' code_defS ?k1 ?k2 ?k3 ?k4 ?k5 ?XB ?TB ?D ?T0 ?kA ?k6 ?k7 ?k8 ?k9 ?kB ?_ ?cK ?c2 ?c3 ?c4 ?c5; (case kA => exact rfl); (case k2 => k_asm); (case k1 => k_asm); (case XB => assumption); (case TB => assumption); (case D => assumption); (case T0 => first | assumption | exact KtsTurn.refl); (case k3 => k_asm); (case k4 => k_asm); (case k5 => k_asm); (case k6 => k_is); (case k7 => k_is); (case k8 => ktr_room); (case k9 => exact BindsTo.of_eq rfl); (case kB => exact locs rfl); (case cK => first | exact rfl | assumption); (case c2 => exact rfl); (case c3 => exact rfl); (case c4 => exact rfl); (case c5 => decide); k_whole; intro g' L' h' FG' F' N' B' X' T' D'; (try dsimp only); (try k_lift B'); (try k_fold))
  k_with "enterS0" => (refine' enter0X ?k1 ?k2 ?k3 ?k4 ?k5 ?kA ?kF ?cK ?k6 ?k7 ?k8 ?k9 ?kB ?_ ?c2 ?c3 ?c4 ?c5; (case kA => exact rfl); (case kF => exact rfl); (case cK => first | exact rfl | assumption); (case k2 => k_asm); (case k1 => k_asm); (case k3 => k_asm); (case k4 => k_asm); (case k5 => k_asm); (case k6 => k_is); (case k7 => k_is); (case k8 => ktr_room); (case k9 => exact BindsTo.of_eq rfl); (case kB => exact locs rfl); (case c2 => exact rfl); (case c3 => exact rfl); (case c4 => exact rfl); (case c5 => decide); k_whole; intro g' L' h' FG' F' N' B' X' T' D'; (try dsimp only); (try k_lift B'); (try k_fold))
  k_with "call ref" => (k_here; (with_reducible show wpAny _ _ (call (Value.ref 21) _) _ _ _); (k_dflt (refine' Ct.use (em_spec _ _ _ _ _ _ ?p1 ?p2) ?k1 ?k2 ?k3 ?k4 ?k5 ?kK ?kd ?ku ?_; (case p1 => walk_at "em_ok"); (case p2 => walk_at "em_len"); walk_at "ct_use")); intro r' tl' h' tk' F' N' l1 hP'; obtain ⟨e1', b', e2', e3'⟩ := hP'; subst e1' e2'; (simp only [List.nil_append] at N'); (try k_sweep); (try dsimp only); (try k_fold))
  k_with "em_len" => omega
  k_with "em_ok" => assumption
  trivial
def emTB (x n : Str) : Bool := emOkB x && em x n
def emFB (x n : Str) : Bool := emOkB x && !em x n
def onceB (n : Str) : Bool := decide (n.length ≤ 3) && emTB n n && emTB (nA n ++ dots ++ nM n ++ nL n) n && emFB (nA n ++ nM n) n && emFB (nA n ++ nM n ++ dots ++ nM n ++ nL n) n && emFB (nA n ++ dots ++ nA n ++ dots ++ nL n) n && emFB (nM n ++ nL n) n
  && emFB (n ++ nA n) n && emFB (nL n ++ nM n ++ nA n) n && emFB (nA n ++ dots ++ nL n ++ dots ++ nL n) n && emFB (dots ++ nM n ++ dots ++ nM n ++ dots) n
theorem emT_of {x n : Str} (h : emTB x n = true) : EmT x n := ⟨emOk_of (and2 h).1, (and2 h).2⟩
theorem emF_of {x n : Str} (h : emFB x n = true) : EmF x n := ⟨emOk_of (and2 h).1, by have := (and2 h).2; rwa [Bool.not_eq_true'] at this⟩
theorem onceF_of {n : Str} (h : onceB n = true) : OnceF n := by
  unfold onceB at h
  obtain ⟨h, a10⟩ := and2 h
  obtain ⟨h, a9⟩ := and2 h
  obtain ⟨h, a8⟩ := and2 h
  obtain ⟨h, a7⟩ := and2 h
  obtain ⟨h, a6⟩ := and2 h
  obtain ⟨h, a5⟩ := and2 h
  obtain ⟨h, a4⟩ := and2 h
  obtain ⟨h, a3⟩ := and2 h
  obtain ⟨h, a2⟩ := and2 h
  obtain ⟨h, a1⟩ := and2 h
  exact ⟨of_decide_eq_true h, emT_of a1, emT_of a2, emF_of a3, emF_of a4, emF_of a5, emF_of a6, emF_of a7, emF_of a8, emF_of a9, emF_of a10⟩

theorem t_once : names6.all onceB = true := by decide +kernel

theorem tabp_rows1 : True := by
  k_with_none
  w_top off
  k_with "led_sub" => first | exact fun p hp => hp | (intro p hp; repeat' (first | exact hp | refine List.Mem.tail _ ?_))
  k_with "led_lt" => first | assumption | exact ktn_ltOf (by assumption) | exact lt1 (by assumption) | exact lt2 (by assumption) | exact lt3 (by assumption) | exact lt4 (by assumption)
  k_with "ct_fill" => (refine fillIt ?_; k_fill; intro _; unfold Ct)
  k_with "ct_enter" => (refine wpAny_call ?_; k_dflt cell_enter)
  k_with "ct_use" => ((case k1 => k_asm); (case k2 => k_asm); (case k3 => k_asm); (case k4 => k_asm); (case k5 => k_asm); (case kK => first | exact rfl | assumption); (case kd => ktr_room); (case ku => ktr_units))
  k_with "subscriptTail" => (k_here; (with_reducible show wpAny _ _ (subscriptTail _ _ (Value.ref _) (Value.int _ _)) _ _ _); (k_dflt (refine' tup_item ?k1 ?k2 ?k3 ?k4 ?k5 ?k6 ?_; (case k1 => k_asm); (case k2 => first | assumption | k_mem); (case k3 => decide); (case k4 => decide); (case k5 => exact rfl); (case k6 => with_unfolding_all rfl); k_whole)))
  k_with "call builtin:max" => ((with_reducible show wpAny _ _ (call _ [Value.float _ _, Value.float _ _, Value.float _ _]) _ _ _); (rename News _ _ _ _ => N'); (rename Fr _ _ _ _ => F'); refine max3_K rfl F' N' ?_; clear N'; intro _ _ _ _ _)
  k_with "call builtin:min" => ((with_reducible show wpAny _ _ (call _ [Value.float _ _, Value.float _ _, Value.float _ _]) _ _ _); (rename News _ _ _ _ => N'); (rename Fr _ _ _ _ => F'); refine min3_K rfl F' N' ?_; clear N'; intro _ _ _ _ _)
  k_with "subscriptTail" => (k_here; (with_reducible show wpAny _ _ (subscriptTail _ _ (Value.ref _) (Value.int _ _)) _ _ _); (k_dflt (refine' lst_item3 ?k1 ?k2 ?k3 ?k4 ?k6 ?_ ?_ ?_; (case k1 => k_asm); (case k2 => k_mem); (case k3 => omega); (case k4 => omega); (case k6 => with_unfolding_all rfl); all_goals (k_whole; intro hidx))))
  k_with "str_fit" => first | decide +kernel | (simp only [Str.length_append]; omega)
  k_with "binaryOp Add str str" => (k_here; (with_reducible show wpAny _ _ (binaryOp Operator.Add (Value.str _ _) (Value.str _ _)) _ _ _); (refine' add_m ?ksz ?_; (case ksz => walk_at "str_fit")); intro tx' kx' hx'; (try dsimp only at hx'))
  k_with "call builtin:str.replace" => (k_here; (refine' repl_m ?k1 ?k2 ?k3 ?k4 ?k5 ?k6 ?_; (case k1 => (show (0 : Nat) < _); omega); (case k2 => (show (0 : Nat) < _); omega); (case k3 => (show @Ne Nat _ _); omega); (case k4 => decide +kernel); (case k5 => walk_at "str_fit"); (case k6 => walk_at "str_fit")); intro tx' kx' hx'; (try dsimp only at hx'))
  k_with "subscriptTail" => (k_here; (with_reducible show wpAny _ _ (subscriptTail _ _ (Value.str _ _) (Value.int _ _)) _ _ _); (k_dflt (refine' str_item ?k1 ?k2 ?k3 ?k4 ?k5 ?_; (case k1 => omega); (case k2 => first | omega | exact Int.lt_of_lt_of_le (b := 4) (by omega) (by decide +kernel)); (case k3 => first | omega | decide +kernel); (case k4 => with_unfolding_all rfl); (case k5 => (intro _; with_unfolding_all rfl)))); intro hone')
  k_with "subscriptTail Name Slice str ref" => ((with_reducible rename Fr _ _ _ _ => F'); (with_reducible rename News _ _ _ _ => N'); (first
  | ((with_reducible show wpAny _ _ (subscriptTail _ (Expr.Slice (some _) none none _) _ _) _ _ _); (refine' slice_strN_sn_len (s := ⟨_, _, _, _, _⟩) F' N' ?_ (hsz := ?hsz)); (case hsz => walk_at "str_fit"))
  | ((with_reducible show wpAny _ _ (subscriptTail _ (Expr.Slice none (some _) none _) _ _) _ _ _); (refine' slice_strN_ns_len (s := ⟨_, _, _, _, _⟩) F' N' ?_ (hsz := ?hsz)); (case hsz => walk_at "str_fit"))
  | ((with_reducible show wpAny _ _ (subscriptTail _ (Expr.Slice (some _) (some _) none _) _ _) _ _ _); (refine' slice_strN_ss_len (s := ⟨_, _, _, _, _⟩) F' N' ?_ (hsz := ?hsz)); (case hsz => walk_at "str_fit"))); intro _ _ _ _ _ _)
  k_with "call ref" => (k_here; (with_reducible show wpAny _ _ (call (Value.ref 28) _) _ _ _); (k_dflt (refine' Ct.use (rgb_spec _ _ _ _ _ _ _ _ ?p1 ?p2) ?k1 ?k2 ?k3 ?k4 ?k5 ?kK ?kd ?ku ?_; (case p1 => exact RgbOk.h1 (by assumption)); (case p2 => exact RgbOk.h2 (by assumption)); walk_at "ct_use")); intro r' tl' h' tk' F' N' l1 hP'; obtain ⟨D', c', t4', t5', t6', e1', e2', e3'⟩ := hP'; subst e1' e2' e3'; replace l1 := lt_tl1 l1; (try k_lt l1); (simp only [List.cons_append, List.nil_append] at N'); (try k_sweep); (try dsimp only); (try k_fold))
  k_with "call ref" => (k_here; (with_reducible show wpAny _ _ (call (Value.ref 86) _) _ _ _); (k_dflt (refine' Ct.use (p257_spec _ _ _ _ ?p1 ?p2) ?k1 ?k2 ?k3 ?k4 ?k5 ?kK ?kd ?ku ?_; (case p1 => assumption); (case p2 => assumption); walk_at "ct_use")); intro r' tl' h' tk' F' N' l1 hP'; obtain ⟨z', t4', e1', e2', e3'⟩ := hP'; subst e1' e2' e3'; (simp only [List.nil_append] at N'); (try k_sweep); (try dsimp only); (try k_fold))
  k_with "enterS" => (refine' code_defS ?k1 ?k2 ?k3 ?k4 ?k5 ?XB ?TB ?D ?T0 ?kA ?k6 ?k7 ?k8 ?k9 ?kB ?_ ?cK ?c2 ?c3 ?c4 ?c5; (case kA => exact rfl); (case k2 => k_asm); (case k1 => k_asm); (case XB => assumption); (case TB => assumption); (case D => assumption); (case T0 => first | assumption | exact KtsTurn.refl); (case k3 => k_asm); (case k4 => k_asm); (case k5 => k_asm); (case k6 => k_is); (case k7 => k_is); (case k8 => ktr_room); (case k9 => exact BindsTo.of_eq rfl); (case kB => exact locs rfl); (case cK => first | exact rfl | assumption); (case c2 => exact rfl); (case c3 => exact rfl); (case c4 => exact rfl); (case c5 => decide); k_whole; intro g' L' h' FG' F' N' B' X' T' D'; (try dsimp only); (try k_lift B'); (try k_fold))
  k_with "enterS0" => (refine' enter0X ?k1 ?k2 ?k3 ?k4 ?k5 ?kA ?kF ?cK ?k6 ?k7 ?k8 ?k9 ?kB ?_ ?c2 ?c3 ?c4 ?c5; (case kA => exact rfl); (case kF => exact rfl); (case cK => first | exact rfl | assumption); (case k2 => k_asm); (case k1 => k_asm); (case k3 => k_asm); (case k4 => k_asm); (case k5 => k_asm); (case k6 => k_is); (case k7 => k_is); (case k8 => ktr_room); (case k9 => exact BindsTo.of_eq rfl); (case kB => exact locs rfl); (case c2 => exact rfl); (case c3 => exact rfl); (case c4 => exact rfl); (case c5 => decide); k_whole; intro g' L' h' FG' F' N' B' X' T' D'; (try dsimp only); (try k_lift B'); (try k_fold))
  k_with "call ref" => (k_here; (with_reducible show wpAny _ _ (call (Value.ref 21) _) _ _ _); (k_dflt (refine' Ct.use (em_spec _ _ _ _ _ _ ?p1 ?p2) ?k1 ?k2 ?k3 ?k4 ?k5 ?kK ?kd ?ku ?_; (case p1 => walk_at "em_ok"); (case p2 => walk_at "em_len"); walk_at "ct_use")); intro r' tl' h' tk' F' N' l1 hP'; obtain ⟨e1', b', e2', e3'⟩ := hP'; subst e1' e2'; (simp only [List.nil_append] at N'); (try k_sweep); (try dsimp only); (try k_fold))
  k_with "em_len" => omega
  k_with "em_ok" => assumption
  trivial
def sp5B : List Str → Bool
  | [_, _, _] => true
  | [_, _, _, _] => true
  | [_, _, _, _, _, _] => true
  | [_, _, _, d, _] => (d == Str.ofString "") || ((PySem.intText? d).isSome && decide (d.length ≤ 640))
  | _ => false
theorem sp5_of : ∀ {l : List Str}, sp5B l = true → Sp5 l
  | [a, b, c], _ => .inl ⟨a, b, c, rfl⟩
  | [a, b, c, d], _ => .inr (.inl ⟨a, b, c, d, rfl⟩)
  | [a, b, c, d, e, f], _ => .inr (.inr (.inl ⟨a, b, c, d, e, f, rfl⟩))
  | [a, b, c, d, e], h => by
    unfold sp5B at h
    rw [Bool.or_eq_true, Bool.and_eq_true, beq_iff_eq, decide_eq_true_eq, Option.isSome_iff_exists] at h
    rcases h with h | ⟨⟨n, h⟩, h2⟩
    · exact .inr (.inr (.inr (.inl ⟨a, b, c, d, e, rfl, h⟩)))
    · exact .inr (.inr (.inr (.inr ⟨a, b, c, d, e, n, rfl, h, h2⟩)))
  | [], h => nomatch h
  | [_], h => nomatch h
  | [_, _], h => nomatch h
  | _ :: _ :: _ :: _ :: _ :: _ :: _ :: _, h => nomatch h
def y229B (y : Str) : Bool := decide (y.length ≤ 100) && (decide (f229 y < 0) || decide (g229 y < 0) || (decide (f229 y + 1 < y.length) && decide (1 ≤ g229 y) && decide (g229 y ≤ y.length) && sp5B (parts229 y)))
theorem y229_of {y : Str} (h : y229B y = true) : Y229 y := by
  unfold y229B at h
  rw [Bool.and_eq_true, decide_eq_true_eq] at h
  have h2 := h.2
  rw [Bool.or_eq_true, Bool.or_eq_true, Bool.and_eq_true, Bool.and_eq_true, Bool.and_eq_true, decide_eq_true_eq, decide_eq_true_eq, decide_eq_true_eq, decide_eq_true_eq, decide_eq_true_eq] at h2
  unfold f229 g229 at h2
  refine ⟨h.1, fun a b => ?_, fun a b => ?_⟩
  · rcases h2 with (c | c) | ⟨⟨⟨c, d⟩, e⟩, f⟩
    · omega
    · omega
    · exact ⟨c, d, e⟩
  · rcases h2 with (c | c) | ⟨⟨⟨c, d⟩, e⟩, f⟩
    · omega
    · omega
    · exact sp5_of f
def T229.is : T229 → T229 → Bool
  | .ok a, .ok b => a == b
  | .reply, .reply => true
  | .proto, .proto => true
  | .value, .value => true
  | _, _ => false
theorem T229.is_eq : ∀ {a b : T229}, T229.is a b = true → a = b
  | .ok a, .ok b, h => by rw [eq_of_beq (show (a == b) = true from h)]
  | .reply, .reply, _ => rfl
  | .proto, .proto, _ => rfl
  | .value, .value, _ => rfl
def due229 (kind : Nat) (n : Int) : T229 := match kind with
  | 1 => .reply
  | 2 => .proto
  | 3 => .proto
  | 4 => .proto
  | 5 => .value
  | 8 => .proto
  | _ => .ok n
def pB (kind mark tail : Nat) (n : Int) : Bool := let y := portReply kind mark tail n; y229B y && T229.is (p229 y) (due229 kind n)
def wts : List Int := [0, 1, 2, 3, 4, 5, 6, 7, 8, 9, 10, 11, 12, 13, 14, 15, 16, 18, 20, 21, 22, 24, 26, 27, 28, 30, 32, 33, 36, 39, 40, 42, 44, 45, 48, 52, 56, 60]
theorem wts_all : (List.range 5).all (fun c => (List.range 16).all fun w => wts.contains ((c * w : Nat) : Int)) = true := by decide +kernel


theorem body_rows1 : True := by
  k_with_none
  w_top off
  k_with "led_sub" => first | exact fun p hp => hp | (intro p hp; repeat' (first | exact hp | refine List.Mem.tail _ ?_))
  k_with "led_lt" => first | assumption | exact ktn_ltOf (by assumption) | exact lt1 (by assumption) | exact lt2 (by assumption) | exact lt3 (by assumption) | exact lt4 (by assumption)
  k_with "ct_fill" => (refine fillIt ?_; k_fill; intro _; unfold Ct)
  k_with "ct_enter" => (refine wpAny_call ?_; k_dflt cell_enter)
  k_with "ct_use" => ((case k1 => k_asm); (case k2 => k_asm); (case k3 => k_asm); (case k4 => k_asm); (case k5 => k_asm); (case kK => first | exact rfl | assumption); (case kd => ktr_room); (case ku => ktr_units))
  k_with "subscriptTail" => (k_here; (with_reducible show wpAny _ _ (subscriptTail _ _ (Value.ref _) (Value.int _ _)) _ _ _); (k_dflt (refine' tup_item ?k1 ?k2 ?k3 ?k4 ?k5 ?k6 ?_; (case k1 => k_asm); (case k2 => first | assumption | k_mem); (case k3 => decide); (case k4 => decide); (case k5 => exact rfl); (case k6 => with_unfolding_all rfl); k_whole)))
  k_with "call builtin:max" => ((with_reducible show wpAny _ _ (call _ [Value.float _ _, Value.float _ _, Value.float _ _]) _ _ _); (rename News _ _ _ _ => N'); (rename Fr _ _ _ _ => F'); refine max3_K rfl F' N' ?_; clear N'; intro _ _ _ _ _)
  k_with "call builtin:min" => ((with_reducible show wpAny _ _ (call _ [Value.float _ _, Value.float _ _, Value.float _ _]) _ _ _); (rename News _ _ _ _ => N'); (rename Fr _ _ _ _ => F'); refine min3_K rfl F' N' ?_; clear N'; intro _ _ _ _ _)
  k_with "subscriptTail" => (k_here; (with_reducible show wpAny _ _ (subscriptTail _ _ (Value.ref _) (Value.int _ _)) _ _ _); (k_dflt (refine' lst_item3 ?k1 ?k2 ?k3 ?k4 ?k6 ?_ ?_ ?_; (case k1 => k_asm); (case k2 => k_mem); (case k3 => omega); (case k4 => omega); (case k6 => with_unfolding_all rfl); all_goals (k_whole; intro hidx))))
  k_with "str_fit" => first | decide +kernel | (simp only [Str.length_append]; omega)
  k_with "binaryOp Add str str" => (k_here; (with_reducible show wpAny _ _ (binaryOp Operator.Add (Value.str _ _) (Value.str _ _)) _ _ _); (refine' add_m ?ksz ?_; (case ksz => walk_at "str_fit")); intro tx' kx' hx'; (try dsimp only at hx'))
  k_with "call builtin:str.replace" => (k_here; (refine' repl_m ?k1 ?k2 ?k3 ?k4 ?k5 ?k6 ?_; (case k1 => (show (0 : Nat) < _); omega); (case k2 => (show (0 : Nat) < _); omega); (case k3 => (show @Ne Nat _ _); omega); (case k4 => decide +kernel); (case k5 => walk_at "str_fit"); (case k6 => walk_at "str_fit")); intro tx' kx' hx'; (try dsimp only at hx'))
  k_with "subscriptTail" => (k_here; (with_reducible show wpAny _ _ (subscriptTail _ _ (Value.str _ _) (Value.int _ _)) _ _ _); (k_dflt (refine' str_item ?k1 ?k2 ?k3 ?k4 ?k5 ?_; (case k1 => omega); (case k2 => first | omega | exact Int.lt_of_lt_of_le (b := 4) (by omega) (by decide +kernel)); (case k3 => first | omega | decide +kernel); (case k4 => with_unfolding_all rfl); (case k5 => (intro _; with_unfolding_all rfl)))); intro hone')
  k_with "subscriptTail Name Slice str ref" => ((with_reducible rename Fr _ _ _ _ => F'); (with_reducible rename News _ _ _ _ => N'); (first
  | ((with_reducible show wpAny _ _ (subscriptTail _ (Expr.Slice (some _) none none _) _ _) _ _ _); (refine' slice_strN_sn_len (s := ⟨_, _, _, _, _⟩) F' N' ?_ (hsz := ?hsz)); (case hsz => walk_at "str_fit"))
  | ((with_reducible show wpAny _ _ (subscriptTail _ (Expr.Slice none (some _) none _) _ _) _ _ _); (refine' slice_strN_ns_len (s := ⟨_, _, _, _, _⟩) F' N' ?_ (hsz := ?hsz)); (case hsz => walk_at "str_fit"))
  | ((with_reducible show wpAny _ _ (subscriptTail _ (Expr.Slice (some _) (some _) none _) _ _) _ _ _); (refine' slice_strN_ss_len (s := ⟨_, _, _, _, _⟩) F' N' ?_ (hsz := ?hsz)); (case hsz => walk_at "str_fit"))); intro _ _ _ _ _ _)
  k_with "call ref" => (k_here; (with_reducible show wpAny _ _ (call (Value.ref 28) _) _ _ _); (k_dflt (refine' Ct.use (rgb_spec _ _ _ _ _ _ _ _ ?p1 ?p2) ?k1 ?k2 ?k3 ?k4 ?k5 ?kK ?kd ?ku ?_; (case p1 => exact RgbOk.h1 (by assumption)); (case p2 => exact RgbOk.h2 (by assumption)); walk_at "ct_use")); intro r' tl' h' tk' F' N' l1 hP'; obtain ⟨D', c', t4', t5', t6', e1', e2', e3'⟩ := hP'; subst e1' e2' e3'; replace l1 := lt_tl1 l1; (try k_lt l1); (simp only [List.cons_append, List.nil_append] at N'); (try k_sweep); (try dsimp only); (try k_fold))
  k_with "call ref" => (k_here; (with_reducible show wpAny _ _ (call (Value.ref 86) _) _ _ _); (k_dflt (refine' Ct.use (p257_spec _ _ _ _ ?p1 ?p2) ?k1 ?k2 ?k3 ?k4 ?k5 ?kK ?kd ?ku ?_; (case p1 => assumption); (case p2 => assumption); walk_at "ct_use")); intro r' tl' h' tk' F' N' l1 hP'; obtain ⟨z', t4', e1', e2', e3'⟩ := hP'; subst e1' e2' e3'; (simp only [List.nil_append] at N'); (try k_sweep); (try dsimp only); (try k_fold))
  k_with "enterS" => (refine' code_defS ?k1 ?k2 ?k3 ?k4 ?k5 ?XB ?TB ?D ?T0 ?kA ?k6 ?k7 ?k8 ?k9 ?kB ?_ ?cK ?c2 ?c3 ?c4 ?c5; (case kA => exact rfl); (case k2 => k_asm); (case k1 => k_asm); (case XB => assumption); (case TB => assumption); (case D => assumption); (case T0 => first | assumption | exact KtsTurn.refl); (case k3 => k_asm); (case k4 => k_asm); (case k5 => k_asm); (case k6 => k_is); (case k7 => k_is); (case k8 => ktr_room); (case k9 => exact BindsTo.of_eq rfl); (case kB => exact locs rfl); (case cK => first | exact rfl | assumption); (case c2 => exact rfl); (case c3 => exact rfl); (case c4 => exact rfl); (case c5 => decide); k_whole; intro g' L' h' FG' F' N' B' X' T' D'; (try dsimp only); (try k_lift B'); (try k_fold))
  k_with "enterS0" => (refine' enter0X ?k1 ?k2 ?k3 ?k4 ?k5 ?kA ?kF ?cK ?k6 ?k7 ?k8 ?k9 ?kB ?_ ?c2 ?c3 ?c4 ?c5; (case kA => exact rfl); (case kF => exact rfl); (case cK => first | exact rfl | assumption); (case k2 => k_asm); (case k1 => k_asm); (case k3 => k_asm); (case k4 => k_asm); (case k5 => k_asm); (case k6 => k_is); (case k7 => k_is); (case k8 => ktr_room); (case k9 => exact BindsTo.of_eq rfl); (case kB => exact locs rfl); (case c2 => exact rfl); (case c3 => exact rfl); (case c4 => exact rfl); (case c5 => decide); k_whole; intro g' L' h' FG' F' N' B' X' T' D'; (try dsimp only); (try k_lift B'); (try k_fold))
  k_with "call ref" => (k_here; (with_reducible show wpAny _ _ (call (Value.ref 21) _) _ _ _); (k_dflt (refine' Ct.use (em_spec _ _ _ _ _ _ ?p1 ?p2) ?k1 ?k2 ?k3 ?k4 ?k5 ?kK ?kd ?ku ?_; (case p1 => walk_at "em_ok"); (case p2 => walk_at "em_len"); walk_at "ct_use")); intro r' tl' h' tk' F' N' l1 hP'; obtain ⟨e1', b', e2', e3'⟩ := hP'; subst e1' e2'; (simp only [List.nil_append] at N'); (try k_sweep); (try dsimp only); (try k_fold))
  k_with "em_len" => omega
  k_with "em_ok" => assumption
  trivial
def fnAt (K : Frag) (a : Addr) : Option FuncData := match K.lookup a with
  | some o => match o.data with | .func fd => some fd | _ => none
  | none => none
def stmtsOf (fd : Option FuncData) : List Stmt := match fd with
  | some fd => match fd.body with | .stmts b => b | _ => []
  | none => []
def scopeOf (fd : Option FuncData) : Scope := match fd with
  | some fd => fd.scope
  | none => { kind := .function, names := [], isGenerator := false, isCoroutine := false }
def forBody (b : List Stmt) : List Stmt := match b with | _ :: _ :: .For _ _ body _ _ :: _ => body | _ => []
/-- the statements of the law's loop, read off the head's own part -/
noncomputable def lawBody (w : World) : List Stmt := forBody (stmtsOf (fnAt (hd.heap_1 w.params) 152))
noncomputable def lawScope (w : World) : Scope := scopeOf (fnAt (hd.heap_1 w.params) 152)
def forTarget (b : List Stmt) : Expr := match b with | _ :: _ :: .For t _ _ _ _ :: _ => t | _ => .Name (Str.ofString "") default
noncomputable def lawTarget (w : World) : Expr := forTarget (stmtsOf (fnAt (hd.heap_1 w.params) 152))

theorem fast_rows1 : True := by
  k_with_none
  w_top off
  k_with "led_sub" => first | exact fun p hp => hp | (intro p hp; repeat' (first | exact hp | refine List.Mem.tail _ ?_))
  k_with "led_lt" => first | assumption | exact ktn_ltOf (by assumption) | exact lt1 (by assumption) | exact lt2 (by assumption) | exact lt3 (by assumption) | exact lt4 (by assumption)
  k_with "ct_fill" => (refine fillIt ?_; k_fill; intro _; unfold Ct)
  k_with "ct_enter" => (refine wpAny_call ?_; k_dflt cell_enter)
  k_with "ct_use" => ((case k1 => k_asm); (case k2 => k_asm); (case k3 => k_asm); (case k4 => k_asm); (case k5 => k_asm); (case kK => first | exact rfl | assumption); (case kd => ktr_room); (case ku => ktr_units))
  k_with "subscriptTail" => (k_here; (with_reducible show wpAny _ _ (subscriptTail _ _ (Value.ref _) (Value.int _ _)) _ _ _); (k_dflt (refine' tup_item ?k1 ?k2 ?k3 ?k4 ?k5 ?k6 ?_; (case k1 => k_asm); (case k2 => first | assumption | k_mem); (case k3 => decide); (case k4 => decide); (case k5 => exact rfl); (case k6 => with_unfolding_all rfl); k_whole)))
  k_with "call builtin:max" => ((with_reducible show wpAny _ _ (call _ [Value.float _ _, Value.float _ _, Value.float _ _]) _ _ _); (rename News _ _ _ _ => N'); (rename Fr _ _ _ _ => F'); refine max3_K rfl F' N' ?_; clear N'; intro _ _ _ _ _)
  k_with "call builtin:min" => ((with_reducible show wpAny _ _ (call _ [Value.float _ _, Value.float _ _, Value.float _ _]) _ _ _); (rename News _ _ _ _ => N'); (rename Fr _ _ _ _ => F'); refine min3_K rfl F' N' ?_; clear N'; intro _ _ _ _ _)
  k_with "subscriptTail" => (k_here; (with_reducible show wpAny _ _ (subscriptTail _ _ (Value.ref _) (Value.int _ _)) _ _ _); (k_dflt (refine' lst_item3 ?k1 ?k2 ?k3 ?k4 ?k6 ?_ ?_ ?_; (case k1 => k_asm); (case k2 => k_mem); (case k3 => omega); (case k4 => omega); (case k6 => with_unfolding_all rfl); all_goals (k_whole; intro hidx))))
  k_with "str_fit" => first | decide +kernel | (simp only [Str.length_append]; omega)
  k_with "binaryOp Add str str" => (k_here; (with_reducible show wpAny _ _ (binaryOp Operator.Add (Value.str _ _) (Value.str _ _)) _ _ _); (refine' add_m ?ksz ?_; (case ksz => walk_at "str_fit")); intro tx' kx' hx'; (try dsimp only at hx'))
  k_with "call builtin:str.replace" => (k_here; (refine' repl_m ?k1 ?k2 ?k3 ?k4 ?k5 ?k6 ?_; (case k1 => (show (0 : Nat) < _); omega); (case k2 => (show (0 : Nat) < _); omega); (case k3 => (show @Ne Nat _ _); omega); (case k4 => decide +kernel); (case k5 => walk_at "str_fit"); (case k6 => walk_at "str_fit")); intro tx' kx' hx'; (try dsimp only at hx'))
  k_with "subscriptTail" => (k_here; (with_reducible show wpAny _ _ (subscriptTail _ _ (Value.str _ _) (Value.int _ _)) _ _ _); (k_dflt (refine' str_item ?k1 ?k2 ?k3 ?k4 ?k5 ?_; (case k1 => omega); (case k2 => first | omega | exact Int.lt_of_lt_of_le (b := 4) (by omega) (by decide +kernel)); (case k3 => first | omega | decide +kernel); (case k4 => with_unfolding_all rfl); (case k5 => (intro _; with_unfolding_all rfl)))); intro hone')
  k_with "subscriptTail Name Slice str ref" => ((with_reducible rename Fr _ _ _ _ => F'); (with_reducible rename News _ _ _ _ => N'); (first
  | ((with_reducible show wpAny _ _ (subscriptTail _ (Expr.Slice (some _) none none _) _ _) _ _ _); (refine' slice_strN_sn_len (s := ⟨_, _, _, _, _⟩) F' N' ?_ (hsz := ?hsz)); (case hsz => walk_at "str_fit"))
  | ((with_reducible show wpAny _ _ (subscriptTail _ (Expr.Slice none (some _) none _) _ _) _ _ _); (refine' slice_strN_ns_len (s := ⟨_, _, _, _, _⟩) F' N' ?_ (hsz := ?hsz)); (case hsz => walk_at "str_fit"))
  | ((with_reducible show wpAny _ _ (subscriptTail _ (Expr.Slice (some _) (some _) none _) _ _) _ _ _); (refine' slice_strN_ss_len (s := ⟨_, _, _, _, _⟩) F' N' ?_ (hsz := ?hsz)); (case hsz => walk_at "str_fit"))); intro _ _ _ _ _ _)
  k_with "call ref" => (k_here; (with_reducible show wpAny _ _ (call (Value.ref 28) _) _ _ _); (k_dflt (refine' Ct.use (rgb_spec _ _ _ _ _ _ _ _ ?p1 ?p2) ?k1 ?k2 ?k3 ?k4 ?k5 ?kK ?kd ?ku ?_; (case p1 => exact RgbOk.h1 (by assumption)); (case p2 => exact RgbOk.h2 (by assumption)); walk_at "ct_use")); intro r' tl' h' tk' F' N' l1 hP'; obtain ⟨D', c', t4', t5', t6', e1', e2', e3'⟩ := hP'; subst e1' e2' e3'; replace l1 := lt_tl1 l1; (try k_lt l1); (simp only [List.cons_append, List.nil_append] at N'); (try k_sweep); (try dsimp only); (try k_fold))
  k_with "call ref" => (k_here; (with_reducible show wpAny _ _ (call (Value.ref 86) _) _ _ _); (k_dflt (refine' Ct.use (p257_spec _ _ _ _ ?p1 ?p2) ?k1 ?k2 ?k3 ?k4 ?k5 ?kK ?kd ?ku ?_; (case p1 => assumption); (case p2 => assumption); walk_at "ct_use")); intro r' tl' h' tk' F' N' l1 hP'; obtain ⟨z', t4', e1', e2', e3'⟩ := hP'; subst e1' e2' e3'; (simp only [List.nil_append] at N'); (try k_sweep); (try dsimp only); (try k_fold))
  k_with "enterS" => (refine' code_defS ?k1 ?k2 ?k3 ?k4 ?k5 ?XB ?TB ?D ?T0 ?kA ?k6 ?k7 ?k8 ?k9 ?kB ?_ ?cK ?c2 ?c3 ?c4 ?c5; (case kA => exact rfl); (case k2 => k_asm); (case k1 => k_asm); (case XB => assumption); (case TB => assumption); (case D => assumption); (case T0 => first | assumption | exact KtsTurn.refl); (case k3 => k_asm); (case k4 => k_asm); (case k5 => k_asm); (case k6 => k_is); (case k7 => k_is); (case k8 => ktr_room); (case k9 => exact BindsTo.of_eq rfl); (case kB => exact locs rfl); (case cK => first | exact rfl | assumption); (case c2 => exact rfl); (case c3 => exact rfl); (case c4 => exact rfl); (case c5 => decide); k_whole; intro g' L' h' FG' F' N' B' X' T' D'; (try dsimp only); (try k_lift B'); (try k_fold))
  k_with "enterS0" => (refine' enter0X ?k1 ?k2 ?k3 ?k4 ?k5 ?kA ?kF ?cK ?k6 ?k7 ?k8 ?k9 ?kB ?_ ?c2 ?c3 ?c4 ?c5; (case kA => exact rfl); (case kF => exact rfl); (case cK => first | exact rfl | assumption); (case k2 => k_asm); (case k1 => k_asm); (case k3 => k_asm); (case k4 => k_asm); (case k5 => k_asm); (case k6 => k_is); (case k7 => k_is); (case k8 => ktr_room); (case k9 => exact BindsTo.of_eq rfl); (case kB => exact locs rfl); (case c2 => exact rfl); (case c3 => exact rfl); (case c4 => exact rfl); (case c5 => decide); k_whole; intro g' L' h' FG' F' N' B' X' T' D'; (try dsimp only); (try k_lift B'); (try k_fold))
  k_with "call ref" => (k_here; (with_reducible show wpAny _ _ (call (Value.ref 21) _) _ _ _); (k_dflt (refine' Ct.use (em_spec _ _ _ _ _ _ ?p1 ?p2) ?k1 ?k2 ?k3 ?k4 ?k5 ?kK ?kd ?ku ?_; (case p1 => walk_at "em_ok"); (case p2 => walk_at "em_len"); walk_at "ct_use")); intro r' tl' h' tk' F' N' l1 hP'; obtain ⟨e1', b', e2', e3'⟩ := hP'; subst e1' e2'; (simp only [List.nil_append] at N'); (try k_sweep); (try dsimp only); (try k_fold))
  k_with "em_len" => omega
  k_with "em_ok" => assumption
  trivial
def posL (c : Nat) : List Nat → Nat → List Nat
  | [], _ => []
  | a :: l, i => if a = c then i :: posL c l (i + 1) else posL c l (i + 1)
open PySem.StrLaws PySem.Builtin.Str in
theorem occ_pos (s : Str) (c limit : Nat) : ∀ (n lo : Nat) (st : Array Nat × Nat), st.2 ≤ lo → lo + n = s.length + 1 →
    (forIn (List.range' lo n) st (occBody s ⟨#[c]⟩ s.length limit)).run.fst.toList = st.1.toList ++ (posL c (s.cps.toList.drop lo) lo).take (limit - st.1.size)
  | 0, lo, st, h1, h2 => by
    have : s.cps.toList.drop lo = [] := List.drop_eq_nil_of_le (by have : s.cps.toList.length = s.length := rfl; omega)
    rw [this]
    simp [posL]
  | n + 1, lo, st, h1, h2 => by
    have hlen : s.cps.toList.length = s.length := rfl
    rw [List.range'_succ, List.forIn_cons]
    by_cases hlt : lo < s.length
    · have hl2 : lo < s.cps.toList.length := by omega
      have hd : s.cps.toList.drop lo = s.cps.toList[lo] :: s.cps.toList.drop (lo + 1) := List.drop_eq_getElem_cons hl2
      have hs : (lo + (⟨#[c]⟩ : Str).length ≤ s.length ∧ subAt s ⟨#[c]⟩ lo = true) ↔ s.cps.toList[lo] = c := by
        rw [subAt_one, List.getElem?_eq_getElem hl2]
        simp
      rw [hd]
      unfold occBody
      by_cases hc : s.cps.toList[lo] = c
      · by_cases hsz : st.1.size < limit
        · rw [if_pos ⟨⟨⟨hsz, h1⟩, (hs.mpr hc).1⟩, (hs.mpr hc).2⟩]
          refine (occ_pos s c limit n (lo + 1) _ (by show lo + 1 ≤ lo + 1; omega) (by omega)).trans ?_
          rw [posL, if_pos hc, Array.toList_push, List.append_assoc, Array.size_push]
          rw [show limit - st.1.size = (limit - (st.1.size + 1)) + 1 by omega, List.take_succ_cons]
          rfl
        · rw [if_neg (fun k => hsz k.1.1.1)]
          refine (occ_pos s c limit n (lo + 1) _ (by show st.2 ≤ lo + 1; omega) (by omega)).trans ?_
          rw [show limit - st.1.size = 0 by omega, List.take_zero, List.take_zero]
      · rw [if_neg (fun k => hc (hs.mp ⟨k.1.2, k.2⟩))]
        refine (occ_pos s c limit n (lo + 1) _ (by show st.2 ≤ lo + 1; omega) (by omega)).trans ?_
        rw [posL, if_neg hc]
    · have hd : s.cps.toList.drop lo = [] := List.drop_eq_nil_of_le (by omega)
      have hd2 : s.cps.toList.drop (lo + 1) = [] := List.drop_eq_nil_of_le (by omega)
      unfold occBody
      rw [if_neg (fun k => hlt (by have := k.1.2; have e : (⟨#[c]⟩ : Str).length = 1 := rfl; omega))]
      refine (occ_pos s c limit n (lo + 1) _ (by show st.2 ≤ lo + 1; omega) (by omega)).trans ?_
      rw [hd, hd2]
      simp [posL]
open PySem.StrLaws PySem.Builtin.Str in
theorem occ1 (s : Str) (c lo limit : Nat) : occurrences s ⟨#[c]⟩ lo s.length limit = (posL c (s.cps.toList.drop lo) lo).take limit := by
  rw [occ_eq]
  by_cases h : lo ≤ s.length + 1
  · exact (occ_pos s c limit (s.length + 1 - lo) lo (#[], lo) (Nat.le_refl _) (by omega)).trans (by simp)
  · have hlen : s.cps.toList.length = s.length := rfl
    rw [show s.length + 1 - lo = 0 by omega, List.drop_eq_nil_of_le (by omega)]
    simp [posL]
def headI : List Nat → Int
  | k :: _ => k
  | [] => -1
theorem find_fast (x : Str) (c : Nat) : Txt.find x ⟨#[c]⟩ = headI ((posL c x.cps.toList 0).take 1) := by
  unfold Txt.find; rw [occ1, List.drop_zero]
  cases (posL c x.cps.toList 0).take 1 <;> rfl
theorem find3_fast (x : Str) (c : Nat) (i : Int) : Txt.find3 x ⟨#[c]⟩ i = headI ((posL c (x.cps.toList.drop (fromIndex x.length i)) (fromIndex x.length i)).take 1) := by
  unfold Txt.find3; rw [occ1]
  cases (posL c (x.cps.toList.drop (fromIndex x.length i)) (fromIndex x.length i)).take 1 <;> rfl
def splitF (x : Str) (c : Nat) : List Str :=
  if (decide (x.length < 1) || decide (Builtin.Str.strKind x < Builtin.Str.strKind ⟨#[c]⟩)) = true then [x] else
  if ((posL c x.cps.toList 0).take (x.length + 1)).isEmpty = true then [x] else Builtin.Str.partsBetween x ((posL c x.cps.toList 0).take (x.length + 1)) 1
theorem split_fast (x : Str) (c : Nat) : Txt.split x ⟨#[c]⟩ = splitF x c := by
  unfold Txt.split splitF
  rw [occ1, List.drop_zero]
  rfl
theorem sO : Str.ofString "(" = ⟨#[40]⟩ := by decide +kernel
theorem sC : Str.ofString ")" = ⟨#[41]⟩ := by decide +kernel
def fF (y : Str) : Int := headI ((posL 40 y.cps.toList 0).take 1)
open PySem.Builtin.Str in
def gF (y : Str) : Int := headI ((posL 41 (y.cps.toList.drop (fromIndex y.length (fF y + 1))) (fromIndex y.length (fF y + 1))).take 1)
def partsF (y : Str) : List Str := splitF (Txt.slice y (some (fF y + 1)) (some (gF y))) ((Txt.charAt y (fF y + 1)).getD 0)
theorem fF_eq (y : Str) : Txt.find y (Str.ofString "(") = fF y := by rw [sO]; exact find_fast y 40
theorem gF_eq (y : Str) : Txt.find3 y (Str.ofString ")") (fF y + 1) = gF y := by rw [sC]; exact find3_fast y 41 _
theorem partsF_eq (y : Str) : parts229 y = partsF y := by
  unfold parts229 partsF
  rw [fF_eq, gF_eq]
  exact split_fast _ _
def y229F (y : Str) : Bool := decide (y.length ≤ 100) && (decide (fF y < 0) || decide (gF y < 0) || (decide (fF y + 1 < y.length) && decide (1 ≤ gF y) && decide (gF y ≤ y.length) && sp5B (partsF y)))
def p229F (y : Str) : T229 :=
  if (Txt.slice y none (some 3) != Str.ofString "229") = true then .reply
  else if fF y < 0 then .proto
  else if gF y < 0 then .proto
  else if (Txt.item y (fF y + 1) != Txt.item y (gF y - 1)) = true then .proto
  else last229 (partsF y)
theorem y229F_eq (y : Str) : y229B y = y229F y := by
  unfold y229B y229F f229 g229
  rw [fF_eq, gF_eq, partsF_eq]
theorem p229F_eq (y : Str) : p229 y = p229F y := by
  unfold p229 p229F
  rw [fF_eq, gF_eq, partsF_eq]
def pBF (kind mark tail : Nat) (n : Int) : Bool := let y := portReply kind mark tail n; y229F y && T229.is (p229F y) (due229 kind n)
theorem pBF_eq (kind mark tail : Nat) (n : Int) : pB kind mark tail n = pBF kind mark tail n := by
  unfold pB pBF
  dsimp only
  rw [y229F_eq, p229F_eq]

theorem tabq_rows1 : True := by
  k_with_none
  w_top off
  k_with "led_sub" => first | exact fun p hp => hp | (intro p hp; repeat' (first | exact hp | refine List.Mem.tail _ ?_))
  k_with "led_lt" => first | assumption | exact ktn_ltOf (by assumption) | exact lt1 (by assumption) | exact lt2 (by assumption) | exact lt3 (by assumption) | exact lt4 (by assumption)
  k_with "ct_fill" => (refine fillIt ?_; k_fill; intro _; unfold Ct)
  k_with "ct_enter" => (refine wpAny_call ?_; k_dflt cell_enter)
  k_with "ct_use" => ((case k1 => k_asm); (case k2 => k_asm); (case k3 => k_asm); (case k4 => k_asm); (case k5 => k_asm); (case kK => first | exact rfl | assumption); (case kd => ktr_room); (case ku => ktr_units))
  k_with "subscriptTail" => (k_here; (with_reducible show wpAny _ _ (subscriptTail _ _ (Value.ref _) (Value.int _ _)) _ _ _); (k_dflt (refine' tup_item ?k1 ?k2 ?k3 ?k4 ?k5 ?k6 ?_; (case k1 => k_asm); (case k2 => first | assumption | k_mem); (case k3 => decide); (case k4 => decide); (case k5 => exact rfl); (case k6 => with_unfolding_all rfl); k_whole)))
  k_with "call builtin:max" => ((with_reducible show wpAny _ _ (call _ [Value.float _ _, Value.float _ _, Value.float _ _]) _ _ _); (rename News _ _ _ _ => N'); (rename Fr _ _ _ _ => F'); refine max3_K rfl F' N' ?_; clear N'; intro _ _ _ _ _)
  k_with "call builtin:min" => ((with_reducible show wpAny _ _ (call _ [Value.float _ _, Value.float _ _, Value.float _ _]) _ _ _); (rename News _ _ _ _ => N'); (rename Fr _ _ _ _ => F'); refine min3_K rfl F' N' ?_; clear N'; intro _ _ _ _ _)
  k_with "subscriptTail" => (k_here; (with_reducible show wpAny _ _ (subscriptTail _ _ (Value.ref _) (Value.int _ _)) _ _ _); (k_dflt (refine' lst_item3 ?k1 ?k2 ?k3 ?k4 ?k6 ?_ ?_ ?_; (case k1 => k_asm); (case k2 => k_mem); (case k3 => omega); (case k4 => omega); (case k6 => with_unfolding_all rfl); all_goals (k_whole; intro hidx))))
  k_with "str_fit" => first | decide +kernel | (simp only [Str.length_append]; omega)
  k_with "binaryOp Add str str" => (k_here; (with_reducible show wpAny _ _ (binaryOp Operator.Add (Value.str _ _) (Value.str _ _)) _ _ _); (refine' add_m ?ksz ?_; (case ksz => walk_at "str_fit")); intro tx' kx' hx'; (try dsimp only at hx'))
  k_with "call builtin:str.replace" => (k_here; (refine' repl_m ?k1 ?k2 ?k3 ?k4 ?k5 ?k6 ?_; (case k1 => (show (0 : Nat) < _); omega); (case k2 => (show (0 : Nat) < _); omega); (case k3 => (show @Ne Nat _ _); omega); (case k4 => decide +kernel); (case k5 => walk_at "str_fit"); (case k6 => walk_at "str_fit")); intro tx' kx' hx'; (try dsimp only at hx'))
  k_with "subscriptTail" => (k_here; (with_reducible show wpAny _ _ (subscriptTail _ _ (Value.str _ _) (Value.int _ _)) _ _ _); (k_dflt (refine' str_item ?k1 ?k2 ?k3 ?k4 ?k5 ?_; (case k1 => omega); (case k2 => first | omega | exact Int.lt_of_lt_of_le (b := 4) (by omega) (by decide +kernel)); (case k3 => first | omega | decide +kernel); (case k4 => with_unfolding_all rfl); (case k5 => (intro _; with_unfolding_all rfl)))); intro hone')
  k_with "subscriptTail Name Slice str ref" => ((with_reducible rename Fr _ _ _ _ => F'); (with_reducible rename News _ _ _ _ => N'); (first
  | ((with_reducible show wpAny _ _ (subscriptTail _ (Expr.Slice (some _) none none _) _ _) _ _ _); (refine' slice_strN_sn_len (s := ⟨_, _, _, _, _⟩) F' N' ?_ (hsz := ?hsz)); (case hsz => walk_at "str_fit"))
  | ((with_reducible show wpAny _ _ (subscriptTail _ (Expr.Slice none (some _) none _) _ _) _ _ _); (refine' slice_strN_ns_len (s := ⟨_, _, _, _, _⟩) F' N' ?_ (hsz := ?hsz)); (case hsz => walk_at "str_fit"))
  | ((with_reducible show wpAny _ _ (subscriptTail _ (Expr.Slice (some _) (some _) none _) _ _) _ _ _); (refine' slice_strN_ss_len (s := ⟨_, _, _, _, _⟩) F' N' ?_ (hsz := ?hsz)); (case hsz => walk_at "str_fit"))); intro _ _ _ _ _ _)
  k_with "call ref" => (k_here; (with_reducible show wpAny _ _ (call (Value.ref 28) _) _ _ _); (k_dflt (refine' Ct.use (rgb_spec _ _ _ _ _ _ _ _ ?p1 ?p2) ?k1 ?k2 ?k3 ?k4 ?k5 ?kK ?kd ?ku ?_; (case p1 => exact RgbOk.h1 (by assumption)); (case p2 => exact RgbOk.h2 (by assumption)); walk_at "ct_use")); intro r' tl' h' tk' F' N' l1 hP'; obtain ⟨D', c', t4', t5', t6', e1', e2', e3'⟩ := hP'; subst e1' e2' e3'; replace l1 := lt_tl1 l1; (try k_lt l1); (simp only [List.cons_append, List.nil_append] at N'); (try k_sweep); (try dsimp only); (try k_fold))
  k_with "call ref" => (k_here; (with_reducible show wpAny _ _ (call (Value.ref 86) _) _ _ _); (k_dflt (refine' Ct.use (p257_spec _ _ _ _ ?p1 ?p2) ?k1 ?k2 ?k3 ?k4 ?k5 ?kK ?kd ?ku ?_; (case p1 => assumption); (case p2 => assumption); walk_at "ct_use")); intro r' tl' h' tk' F' N' l1 hP'; obtain ⟨z', t4', e1', e2', e3'⟩ := hP'; subst e1' e2' e3'; (simp only [List.nil_append] at N'); (try k_sweep); (try dsimp only); (try k_fold))
  k_with "enterS" => (refine' code_defS ?k1 ?k2 ?k3 ?k4 ?k5 ?XB ?TB ?D ?T0 ?kA ?k6 ?k7 ?k8 ?k9 ?kB ?_ ?cK ?c2 ?c3 ?c4 ?c5; (case kA => exact rfl); (case k2 => k_asm); (case k1 => k_asm); (case XB => assumption); (case TB => assumption); (case D => assumption); (case T0 => first | assumption | exact KtsTurn.refl); (case k3 => k_asm); (case k4 => k_asm); (case k5 => k_asm); (case k6 => k_is); (case k7 => k_is); (case k8 => ktr_room); (case k9 => exact BindsTo.of_eq rfl); (case kB => exact locs rfl); (case cK => first | exact rfl | assumption); (case c2 => exact rfl); (case c3 => exact rfl); (case c4 => exact rfl); (case c5 => decide); k_whole; intro g' L' h' FG' F' N' B' X' T' D'; (try dsimp only); (try k_lift B'); (try k_fold))
  k_with "enterS0" => (refine' enter0X ?k1 ?k2 ?k3 ?k4 ?k5 ?kA ?kF ?cK ?k6 ?k7 ?k8 ?k9 ?kB ?_ ?c2 ?c3 ?c4 ?c5; (case kA => exact rfl); (case kF => exact rfl); (case cK => first | exact rfl | assumption); (case k2 => k_asm); (case k1 => k_asm); (case k3 => k_asm); (case k4 => k_asm); (case k5 => k_asm); (case k6 => k_is); (case k7 => k_is); (case k8 => ktr_room); (case k9 => exact BindsTo.of_eq rfl); (case kB => exact locs rfl); (case c2 => exact rfl); (case c3 => exact rfl); (case c4 => exact rfl); (case c5 => decide); k_whole; intro g' L' h' FG' F' N' B' X' T' D'; (try dsimp only); (try k_lift B'); (try k_fold))
  k_with "call ref" => (k_here; (with_reducible show wpAny _ _ (call (Value.ref 21) _) _ _ _); (k_dflt (refine' Ct.use (em_spec _ _ _ _ _ _ ?p1 ?p2) ?k1 ?k2 ?k3 ?k4 ?k5 ?kK ?kd ?ku ?_; (case p1 => walk_at "em_ok"); (case p2 => walk_at "em_len"); walk_at "ct_use")); intro r' tl' h' tk' F' N' l1 hP'; obtain ⟨e1', b', e2', e3'⟩ := hP'; subst e1' e2'; (simp only [List.nil_append] at N'); (try k_sweep); (try dsimp only); (try k_fold))
  k_with "em_len" => omega
  k_with "em_ok" => assumption
  trivial
theorem tq_0_0 : (wts.all fun n => pBF 0 0 0 n) = true := by decide +kernel
theorem tq_0_1 : (wts.all fun n => pBF 0 1 0 n) = true := by decide +kernel
theorem tq_0_2 : (wts.all fun n => pBF 0 2 0 n) = true := by decide +kernel
theorem tq_0_3 : (wts.all fun n => pBF 0 3 0 n) = true := by decide +kernel
theorem tq_1_0 : (wts.all fun n => pBF 1 0 0 n) = true := by decide +kernel
theorem tq_1_1 : (wts.all fun n => pBF 1 1 0 n) = true := by decide +kernel
theorem tq_1_2 : (wts.all fun n => pBF 1 2 0 n) = true := by decide +kernel
theorem tq_1_3 : (wts.all fun n => pBF 1 3 0 n) = true := by decide +kernel
theorem tq_2_0 : (wts.all fun n => pBF 2 0 0 n) = true := by decide +kernel
theorem tq_2_1 : (wts.all fun n => pBF 2 1 0 n) = true := by decide +kernel
theorem tq_2_2 : (wts.all fun n => pBF 2 2 0 n) = true := by decide +kernel
theorem tq_2_3 : (wts.all fun n => pBF 2 3 0 n) = true := by decide +kernel
theorem tq_3_0 : (wts.all fun n => pBF 3 0 0 n) = true := by decide +kernel
theorem tq_3_1 : (wts.all fun n => pBF 3 1 0 n) = true := by decide +kernel
theorem tq_3_2 : (wts.all fun n => pBF 3 2 0 n) = true := by decide +kernel
theorem tq_3_3 : (wts.all fun n => pBF 3 3 0 n) = true := by decide +kernel
theorem tq_7_0 : (wts.all fun n => pBF 7 0 0 n) = true := by decide +kernel
theorem tq_7_1 : (wts.all fun n => pBF 7 1 0 n) = true := by decide +kernel
theorem tq_7_2 : (wts.all fun n => pBF 7 2 0 n) = true := by decide +kernel
theorem tq_7_3 : (wts.all fun n => pBF 7 3 0 n) = true := by decide +kernel
theorem tq_4_0_0 : (wts.all fun n => pBF 4 0 0 n) = true := by decide +kernel
theorem tq_4_0_1 : (wts.all fun n => pBF 4 0 1 n) = true := by decide +kernel
theorem tq_4_0_2 : (wts.all fun n => pBF 4 0 2 n) = true := by decide +kernel
theorem tq_4_1_0 : (wts.all fun n => pBF 4 1 0 n) = true := by decide +kernel
theorem tq_4_1_1 : (wts.all fun n => pBF 4 1 1 n) = true := by decide +kernel
theorem tq_4_1_2 : (wts.all fun n => pBF 4 1 2 n) = true := by decide +kernel
theorem tq_4_2_0 : (wts.all fun n => pBF 4 2 0 n) = true := by decide +kernel
theorem tq_4_2_1 : (wts.all fun n => pBF 4 2 1 n) = true := by decide +kernel
theorem tq_4_2_2 : (wts.all fun n => pBF 4 2 2 n) = true := by decide +kernel
theorem tq_4_3_0 : (wts.all fun n => pBF 4 3 0 n) = true := by decide +kernel
theorem tq_4_3_1 : (wts.all fun n => pBF 4 3 1 n) = true := by decide +kernel
theorem tq_4_3_2 : (wts.all fun n => pBF 4 3 2 n) = true := by decide +kernel
theorem tq_5_0 : pBF 5 0 0 0 = true := by decide +kernel
theorem tq_5_1 : pBF 5 1 0 0 = true := by decide +kernel
theorem tq_5_2 : pBF 5 2 0 0 = true := by decide +kernel
theorem tq_5_3 : pBF 5 3 0 0 = true := by decide +kernel
theorem tq_8 : pBF 8 0 0 0 = true := by decide +kernel

theorem law0_rows1 : True := by
  k_with_none
  w_top off
  k_with "led_sub" => first | exact fun p hp => hp | (intro p hp; repeat' (first | exact hp | refine List.Mem.tail _ ?_))
  k_with "led_lt" => first | assumption | exact ktn_ltOf (by assumption) | exact lt1 (by assumption) | exact lt2 (by assumption) | exact lt3 (by assumption) | exact lt4 (by assumption)
  k_with "ct_fill" => (refine fillIt ?_; k_fill; intro _; unfold Ct)
  k_with "ct_enter" => (refine wpAny_call ?_; k_dflt cell_enter)
  k_with "ct_use" => ((case k1 => k_asm); (case k2 => k_asm); (case k3 => k_asm); (case k4 => k_asm); (case k5 => k_asm); (case kK => first | exact rfl | assumption); (case kd => ktr_room); (case ku => ktr_units))
  k_with "subscriptTail" => (k_here; (with_reducible show wpAny _ _ (subscriptTail _ _ (Value.ref _) (Value.int _ _)) _ _ _); (k_dflt (refine' tup_item ?k1 ?k2 ?k3 ?k4 ?k5 ?k6 ?_; (case k1 => k_asm); (case k2 => first | assumption | k_mem); (case k3 => decide); (case k4 => decide); (case k5 => exact rfl); (case k6 => with_unfolding_all rfl); k_whole)))
  k_with "call builtin:max" => ((with_reducible show wpAny _ _ (call _ [Value.float _ _, Value.float _ _, Value.float _ _]) _ _ _); (rename News _ _ _ _ => N'); (rename Fr _ _ _ _ => F'); refine max3_K rfl F' N' ?_; clear N'; intro _ _ _ _ _)
  k_with "call builtin:min" => ((with_reducible show wpAny _ _ (call _ [Value.float _ _, Value.float _ _, Value.float _ _]) _ _ _); (rename News _ _ _ _ => N'); (rename Fr _ _ _ _ => F'); refine min3_K rfl F' N' ?_; clear N'; intro _ _ _ _ _)
  k_with "subscriptTail" => (k_here; (with_reducible show wpAny _ _ (subscriptTail _ _ (Value.ref _) (Value.int _ _)) _ _ _); (k_dflt (refine' lst_item3 ?k1 ?k2 ?k3 ?k4 ?k6 ?_ ?_ ?_; (case k1 => k_asm); (case k2 => k_mem); (case k3 => omega); (case k4 => omega); (case k6 => with_unfolding_all rfl); all_goals (k_whole; intro hidx))))
  k_with "str_fit" => first | decide +kernel | (simp only [Str.length_append]; omega)
  k_with "binaryOp Add str str" => (k_here; (with_reducible show wpAny _ _ (binaryOp Operator.Add (Value.str _ _) (Value.str _ _)) _ _ _); (refine' add_m ?ksz ?_; (case ksz => walk_at "str_fit")); intro tx' kx' hx'; (try dsimp only at hx'))
  k_with "call builtin:str.replace" => (k_here; (refine' repl_m ?k1 ?k2 ?k3 ?k4 ?k5 ?k6 ?_; (case k1 => (show (0 : Nat) < _); omega); (case k2 => (show (0 : Nat) < _); omega); (case k3 => (show @Ne Nat _ _); omega); (case k4 => decide +kernel); (case k5 => walk_at "str_fit"); (case k6 => walk_at "str_fit")); intro tx' kx' hx'; (try dsimp only at hx'))
  k_with "subscriptTail" => (k_here; (with_reducible show wpAny _ _ (subscriptTail _ _ (Value.str _ _) (Value.int _ _)) _ _ _); (k_dflt (refine' str_item ?k1 ?k2 ?k3 ?k4 ?k5 ?_; (case k1 => omega); (case k2 => first | omega | exact Int.lt_of_lt_of_le (b := 4) (by omega) (by decide +kernel)); (case k3 => first | omega | decide +kernel); (case k4 => with_unfolding_all rfl); (case k5 => (intro _; with_unfolding_all rfl)))); intro hone')
  k_with "subscriptTail Name Slice str ref" => ((with_reducible rename Fr _ _ _ _ => F'); (with_reducible rename News _ _ _ _ => N'); (first
  | ((with_reducible show wpAny _ _ (subscriptTail _ (Expr.Slice (some _) none none _) _ _) _ _ _); (refine' slice_strN_sn_len (s := ⟨_, _, _, _, _⟩) F' N' ?_ (hsz := ?hsz)); (case hsz => walk_at "str_fit"))
  | ((with_reducible show wpAny _ _ (subscriptTail _ (Expr.Slice none (some _) none _) _ _) _ _ _); (refine' slice_strN_ns_len (s := ⟨_, _, _, _, _⟩) F' N' ?_ (hsz := ?hsz)); (case hsz => walk_at "str_fit"))
  | ((with_reducible show wpAny _ _ (subscriptTail _ (Expr.Slice (some _) (some _) none _) _ _) _ _ _); (refine' slice_strN_ss_len (s := ⟨_, _, _, _, _⟩) F' N' ?_ (hsz := ?hsz)); (case hsz => walk_at "str_fit"))); intro _ _ _ _ _ _)
  k_with "call ref" => (k_here; (with_reducible show wpAny _ _ (call (Value.ref 28) _) _ _ _); (k_dflt (refine' Ct.use (rgb_spec _ _ _ _ _ _ _ _ ?p1 ?p2) ?k1 ?k2 ?k3 ?k4 ?k5 ?kK ?kd ?ku ?_; (case p1 => exact RgbOk.h1 (by assumption)); (case p2 => exact RgbOk.h2 (by assumption)); walk_at "ct_use")); intro r' tl' h' tk' F' N' l1 hP'; obtain ⟨D', c', t4', t5', t6', e1', e2', e3'⟩ := hP'; subst e1' e2' e3'; replace l1 := lt_tl1 l1; (try k_lt l1); (simp only [List.cons_append, List.nil_append] at N'); (try k_sweep); (try dsimp only); (try k_fold))
  k_with "call ref" => (k_here; (with_reducible show wpAny _ _ (call (Value.ref 86) _) _ _ _); (k_dflt (refine' Ct.use (p257_spec _ _ _ _ ?p1 ?p2) ?k1 ?k2 ?k3 ?k4 ?k5 ?kK ?kd ?ku ?_; (case p1 => assumption); (case p2 => assumption); walk_at "ct_use")); intro r' tl' h' tk' F' N' l1 hP'; obtain ⟨z', t4', e1', e2', e3'⟩ := hP'; subst e1' e2' e3'; (simp only [List.nil_append] at N'); (try k_sweep); (try dsimp only); (try k_fold))
  k_with "enterS" => (refine' code_defS ?k1 ?k2 ?k3 ?k4 ?k5 ?XB ?TB ?D ?T0 ?kA ?k6 ?k7 ?k8 ?k9 ?kB ?_ ?cK ?c2 ?c3 ?c4 ?c5; (case kA => exact rfl); (case k2 => k_asm); (case k1 => k_asm); (case XB => assumption); (case TB => assumption); (case D => assumption); (case T0 => first | assumption | exact KtsTurn.refl); (case k3 => k_asm); (case k4 => k_asm); (case k5 => k_asm); (case k6 => k_is); (case k7 => k_is); (case k8 => ktr_room); (case k9 => exact BindsTo.of_eq rfl); (case kB => exact locs rfl); (case cK => first | exact rfl | assumption); (case c2 => exact rfl); (case c3 => exact rfl); (case c4 => exact rfl); (case c5 => decide); k_whole; intro g' L' h' FG' F' N' B' X' T' D'; (try dsimp only); (try k_lift B'); (try k_fold))
  k_with "enterS0" => (refine' enter0X ?k1 ?k2 ?k3 ?k4 ?k5 ?kA ?kF ?cK ?k6 ?k7 ?k8 ?k9 ?kB ?_ ?c2 ?c3 ?c4 ?c5; (case kA => exact rfl); (case kF => exact rfl); (case cK => first | exact rfl | assumption); (case k2 => k_asm); (case k1 => k_asm); (case k3 => k_asm); (case k4 => k_asm); (case k5 => k_asm); (case k6 => k_is); (case k7 => k_is); (case k8 => ktr_room); (case k9 => exact BindsTo.of_eq rfl); (case kB => exact locs rfl); (case c2 => exact rfl); (case c3 => exact rfl); (case c4 => exact rfl); (case c5 => decide); k_whole; intro g' L' h' FG' F' N' B' X' T' D'; (try dsimp only); (try k_lift B'); (try k_fold))
  k_with "call ref" => (k_here; (with_reducible show wpAny _ _ (call (Value.ref 21) _) _ _ _); (k_dflt (refine' Ct.use (em_spec _ _ _ _ _ _ ?p1 ?p2) ?k1 ?k2 ?k3 ?k4 ?k5 ?kK ?kd ?ku ?_; (case p1 => walk_at "em_ok"); (case p2 => walk_at "em_len"); walk_at "ct_use")); intro r' tl' h' tk' F' N' l1 hP'; obtain ⟨e1', b', e2', e3'⟩ := hP'; subst e1' e2'; (simp only [List.nil_append] at N'); (try k_sweep); (try dsimp only); (try k_fold))
  k_with "em_len" => omega
  k_with "em_ok" => assumption
  trivial
/-- a colour on the ledger -/
abbrev Xo (X : T3) (t1 t2 t3 : Tok) : Obj := tupO [.float (D 512 X.a) t1, .float (D 512 X.b) t2, .float (D 512 X.c) t3]
def huI (k f c w : Nat) : Int := if c * w = 0 then 0 else ((8 * (k % 6) + f : Nat) : Int)
def saI (c w : Nat) : Int := if c * w = 0 then 0 else (c : Int)
/-- what the law's turn needs to know of a voter -/
structure TF (k f c w kind mark tail : Nat) (X1 X2 : T3) (Y1 Y2 : C3) (x y : Str) (z : TR) : Prop where
  hk : k < 12
  f1 : 1 ≤ f
  f7 : f ≤ 7
  hc : c < 5
  hw : w < 16
  hkind : kind < 9
  hmark : mark < 4
  htail : tail < 3
  q1 : hsvToRgb (D 48 (8 * k + f)) (D 4 c) (D 16 w) = c3 X1
  q2 : hsvToRgb (D 48 (8 * k + 8 - f)) (D 4 c) (D 16 w) = c3 X2
  r1 : rgbToHsv (D 512 X1.a) (D 512 X1.b) (D 512 X1.c) = Y1
  r2 : rgbToHsv (D 512 X2.a) (D 512 X2.b) (D 512 X2.c) = Y2
  o1 : RgbOk (D 512 X1.a) (D 512 X1.b) (D 512 X1.c)
  o2 : RgbOk (D 512 X2.a) (D 512 X2.b) (D 512 X2.c)
  i1 : HsvIs k f c w Y1
  i2 : HsvIs k (8 - f) c w Y2
  nx : nameReply kind (feq Y1.b 0) (toI (sixth Y1)) tail = x
  lx : x.length ≤ 1000
  py : portReply kind mark tail (toI (wt Y2)) = y
  ly : Y229 y
  td : told x y = z
  x1 : X1 = colOf k f c w
  x2 : X2 = colOf k (8 - f) c w
section
variable {k f c w kind mark tail : Nat} {X1 X2 : T3} {Y1 Y2 : C3} {x y : Str} {z : TR}
theorem Ct.mono' {w : World} {f : Addr} {vs : List Value} {news : Led} {d u : Nat} {P P' : Led → Value → Prop} (C : Ct w f vs news d u P) (h : ∀ tl r, P tl r → P' tl r) : Ct w f vs news d u P' := C.mono h
theorem s_hsv1 (hf : TF k f c w kind mark tail X1 X2 Y1 Y2 x y z) (W : World) (news) (t1 t2 t3 : Tok) :
    Ct W 35 [.float (D 48 (8 * k + f)) t1, .float (D 4 c) t2, .float (D 16 w) t3] news 4 40 (fun tl r => ∃ a t4 t5 t6, r = .ref a ∧ tl = [(a, Xo X1 t4 t5 t6)]) := by
  have e := hsv_fin hf.hk hf.f1 hf.f7
  refine (hsv_spec W news _ _ _ t1 t2 t3 e.1 e.2.1 e.2.2).mono fun tl r ⟨a, C, t4, t5, t6, e1, e2, e3⟩ => ⟨a, t4, t5, t6, e1, ?_⟩
  rw [hf.q1] at e3
  subst e3
  exact e2
theorem s_hsv2 (hf : TF k f c w kind mark tail X1 X2 Y1 Y2 x y z) (W : World) (news) (t1 t2 t3 : Tok) :
    Ct W 35 [.float (D 48 (8 * k + 8 - f)) t1, .float (D 4 c) t2, .float (D 16 w) t3] news 4 40 (fun tl r => ∃ a t4 t5 t6, r = .ref a ∧ tl = [(a, Xo X2 t4 t5 t6)]) := by
  have g1 := hf.f1
  have g7 := hf.f7
  have e := hsv_fin hf.hk (f := 8 - f) (by omega) (by omega)
  rw [show 8 * k + (8 - f) = 8 * k + 8 - f by omega] at e
  refine (hsv_spec W news _ _ _ t1 t2 t3 e.1 e.2.1 e.2.2).mono fun tl r ⟨a, C, t4, t5, t6, e1, e2, e3⟩ => ⟨a, t4, t5, t6, e1, ?_⟩
  rw [hf.q2] at e3
  subst e3
  exact e2
theorem read_of {k f c w : Nat} {X : T3} {Y : C3} (hr : rgbToHsv (D 512 X.a) (D 512 X.b) (D 512 X.c) = Y) (ho : RgbOk (D 512 X.a) (D 512 X.b) (D 512 X.c)) (hi : HsvIs k f c w Y) (W : World) (news) (q : Addr) (t1 t2 t3 : Tok) (hm : (q, Xo X t1 t2 t3) ∈ news) :
    Ct W 140 [.ref q] news 5 60 (fun tl r' => ∃ a t4 t5 t6, r' = .ref a ∧ tl = [(a, tupO [.int (huI k f c w) t4, .int (saI c w) t5, .int w t6])]) := by
  refine (read_spec W news q _ _ _ t1 t2 t3 hm ho (by rw [hr]; exact hi.rd)).mono fun tl r' ⟨a, t4, t5, t6, e1, e2⟩ => ⟨a, t4, t5, t6, e1, ?_⟩
  rw [hr, hi.r1, hi.r2, hi.r3] at e2
  exact e2
theorem s_read1 (hf : TF k f c w kind mark tail X1 X2 Y1 Y2 x y z) (W : World) (news) (q : Addr) (t1 t2 t3 : Tok) (hm : (q, Xo X1 t1 t2 t3) ∈ news) :
    Ct W 140 [.ref q] news 5 60 (fun tl r' => ∃ a t4 t5 t6, r' = .ref a ∧ tl = [(a, tupO [.int (huI k f c w) t4, .int (saI c w) t5, .int w t6])]) := read_of hf.r1 hf.o1 hf.i1 W news q t1 t2 t3 hm
theorem s_read2 (hf : TF k f c w kind mark tail X1 X2 Y1 Y2 x y z) (W : World) (news) (q : Addr) (t1 t2 t3 : Tok) (hm : (q, Xo X2 t1 t2 t3) ∈ news) :
    Ct W 140 [.ref q] news 5 60 (fun tl r' => ∃ a t4 t5 t6, r' = .ref a ∧ tl = [(a, tupO [.int (huI k (8 - f) c w) t4, .int (saI c w) t5, .int w t6])]) := read_of hf.r2 hf.o2 hf.i2 W news q t1 t2 t3 hm
theorem due_of {k f c w : Nat} (hc : c < 5) (hw : w < 16) {v : Int} (hv : v = ((8 * (k % 6) + f : Nat) : Int)) (W : World) (news) (t1 t2 t3 : Tok) :
    Ct W 147 [.int v t1, .int c t2, .int w t3] news 4 40 (fun tl r' => ∃ a t4 t5 t6, r' = .ref a ∧ tl = [(a, tupO [.int (huI k f c w) t4, .int (saI c w) t5, .int w t6])]) := by
  subst hv
  refine (due_spec W news _ c w t1 t2 t3 (by omega) (by omega) (by omega) (by omega)).mono fun tl r' ⟨a, i, j, t4, t5, t6, e1, e2, e3, e4⟩ => ⟨a, t4, t5, t6, e1, ?_⟩
  have q : ((c : Int) * w = 0) = (c * w = 0) := by
    rw [← Int.natCast_mul]
    exact propext ⟨fun h => by omega, fun h => by omega⟩
  simp only [q] at e3 e4
  subst e3 e4
  exact e2
theorem fm6 (k : Nat) : Int.fmod k 6 = ((k % 6 : Nat) : Int) := by rw [Int.fmod_eq_emod_of_nonneg _ (by decide)]; omega
theorem fm2 (k : Nat) : Int.fmod k 2 = ((k % 2 : Nat) : Int) := by rw [Int.fmod_eq_emod_of_nonneg _ (by decide)]; omega
theorem s_due1 (hf : TF k f c w kind mark tail X1 X2 Y1 Y2 x y z) (W : World) (news) (t1 t2 t3 : Tok) :
    Ct W 147 [.int (8 * Int.fmod k 6 + f) t1, .int c t2, .int w t3] news 4 40 (fun tl r' => ∃ a t4 t5 t6, r' = .ref a ∧ tl = [(a, tupO [.int (huI k f c w) t4, .int (saI c w) t5, .int w t6])]) :=
  due_of hf.hc hf.hw (by rw [fm6]; omega) W news t1 t2 t3
theorem s_due2 (hf : TF k f c w kind mark tail X1 X2 Y1 Y2 x y z) (W : World) (news) (t1 t2 t3 : Tok) :
    Ct W 147 [.int (8 * Int.fmod k 6 + 8 - f) t1, .int c t2, .int w t3] news 4 40 (fun tl r' => ∃ a t4 t5 t6, r' = .ref a ∧ tl = [(a, tupO [.int (huI k (8 - f) c w) t4, .int (saI c w) t5, .int w t6])]) :=
  due_of hf.hc hf.hw (by have := hf.f7; rw [fm6]; omega) W news t1 t2 t3
theorem s_name (hf : TF k f c w kind mark tail X1 X2 Y1 Y2 x y z) (W : World) (news) (q : Addr) (t1 t2 t3 t4 t5 : Tok) (hm : (q, Xo X1 t1 t2 t3) ∈ news) :
    Ct W 98 [.ref q, .int kind t4, .int tail t5] news 5 60 (fun tl r' => ∃ t, r' = .str x t ∧ tl = []) := by
  have a1 := hf.hkind
  have a2 := hf.htail
  have hr := hf.r1
  refine (name_spec W news q _ _ _ t1 t2 t3 t4 t5 kind tail (by omega) (by omega) (by omega) (by omega) hm hf.o1 (by rw [hr]; exact hf.i1.s1) (by rw [hr]; exact hf.i1.s2) (by rw [hr]; exact hf.i1.s3)).mono fun tl r' ⟨v, t, e1, e2, e3⟩ => ⟨t, ?_, e2⟩
  rw [hr, hf.nx] at e3
  rw [e1, e3]
theorem s_port (hf : TF k f c w kind mark tail X1 X2 Y1 Y2 x y z) (W : World) (news) (q : Addr) (t1 t2 t3 t4 t5 t6 : Tok) (hm : (q, Xo X2 t1 t2 t3) ∈ news) :
    Ct W 105 [.ref q, .int kind t4, .int mark t5, .int tail t6] news 5 60 (fun tl r' => ∃ t, r' = .str y t ∧ tl = []) := by
  have a1 := hf.hkind
  have a2 := hf.htail
  have a3 := hf.hmark
  have hr := hf.r2
  have hn : toI (wt Y2) = ((c * w : Nat) : Int) := hf.i2.w2
  have hb : c * w ≤ 60 := Nat.le_trans (Nat.mul_le_mul (show c ≤ 4 by have := hf.hc; omega) (show w ≤ 15 by have := hf.hw; omega)) (by decide)
  refine (port_spec W news q _ _ _ t1 t2 t3 t4 t5 t6 kind mark tail (by omega) (by omega) (by omega) (by omega) (by omega) (by omega) hm hf.o2 (by rw [hr]; exact hf.i2.w1) (by rw [hr, hn]; omega) (by rw [hr, hn]; omega)).mono fun tl r' ⟨v, t, e1, e2, e3⟩ => ⟨t, ?_, e2⟩
  rw [hr, hf.py] at e3
  rw [e1, e3]
end
/-- a vote on the ledger -/
structure Vt where
  T : Addr
  O : Addr
  W : Addr
  t1 : Tok
  t2 : Tok
  t3 : Tok
  t4 : Tok
  t5 : Tok
  t6 : Tok
  t7 : Tok
  t8 : Tok
  one : T3
  two : T3
  name : Str
  n : Int
def Vt.led (v : Vt) : Led := [(v.T, tupO [.ref v.O, .ref v.W, .str v.name v.t7, .int v.n v.t8]), (v.O, Xo v.one v.t1 v.t2 v.t3), (v.W, Xo v.two v.t4 v.t5 v.t6)]
def nameAt (i : Nat) : Str := names6.getD i (Str.ofString "")
/-- a vote and its part of the cycle -/
def VoteOk (v : Vt) (cy : Int) : Prop := ∃ k f c w : Nat, k < 12 ∧ 1 ≤ f ∧ f ≤ 7 ∧ c < 5 ∧ w < 16 ∧ v.one = colOf k f c w ∧ v.two = colOf k (8 - f) c w ∧ v.n = ((c * w : Nat) : Int) ∧ v.name = (if c * w = 0 then Str.ofString "" else nameAt (k % 6)) ∧ cy = ((c * w : Nat) : Int) * (1 - 2 * ((k % 2 : Nat) : Int))
/-- the frame of the law's loop: the twelve names that a turn stores -/
def lawNames : List Str := [Str.ofString "k", Str.ofString "f", Str.ofString "c", Str.ofString "w", Str.ofString "kind", Str.ofString "mark", Str.ofString "tail", Str.ofString "one", Str.ofString "two", Str.ofString "name", Str.ofString "port", Str.ofString "error"]
def lawM (m : Str → Option Value) (a : Nat → Option Value) : Str → Option Value := fun x =>
  if x = Str.ofString "k" then a 0 else if x = Str.ofString "f" then a 1 else if x = Str.ofString "c" then a 2 else if x = Str.ofString "w" then a 3 else if x = Str.ofString "kind" then a 4 else if x = Str.ofString "mark" then a 5 else if x = Str.ofString "tail" then a 6
  else if x = Str.ofString "one" then a 7 else if x = Str.ofString "two" then a 8 else if x = Str.ofString "name" then a 9 else if x = Str.ofString "port" then a 10 else if x = Str.ofString "error" then a 11 else m x
theorem lawM_of {m m1 : Str → Option Value} (h : ∀ x, x ≠ Str.ofString "k" → x ≠ Str.ofString "f" → x ≠ Str.ofString "c" → x ≠ Str.ofString "w" → x ≠ Str.ofString "kind" → x ≠ Str.ofString "mark" → x ≠ Str.ofString "tail" → x ≠ Str.ofString "one" → x ≠ Str.ofString "two" →
    x ≠ Str.ofString "name" → x ≠ Str.ofString "port" → x ≠ Str.ofString "error" → m1 x = m x) : ∃ a, m1 = lawM m a := by
  refine ⟨fun i => m1 (lawNames.getD i (Str.ofString "")), funext fun x => ?_⟩
  unfold lawM
  by_cases e1 : x = Str.ofString "k"
  · subst e1; rw [if_pos rfl]; rfl
  rw [if_neg e1]
  by_cases e2 : x = Str.ofString "f"
  · subst e2; rw [if_pos rfl]; rfl
  rw [if_neg e2]
  by_cases e3 : x = Str.ofString "c"
  · subst e3; rw [if_pos rfl]; rfl
  rw [if_neg e3]
  by_cases e4 : x = Str.ofString "w"
  · subst e4; rw [if_pos rfl]; rfl
  rw [if_neg e4]
  by_cases e5 : x = Str.ofString "kind"
  · subst e5; rw [if_pos rfl]; rfl
  rw [if_neg e5]
  by_cases e6 : x = Str.ofString "mark"
  · subst e6; rw [if_pos rfl]; rfl
  rw [if_neg e6]
  by_cases e7 : x = Str.ofString "tail"
  · subst e7; rw [if_pos rfl]; rfl
  rw [if_neg e7]
  by_cases e8 : x = Str.ofString "one"
  · subst e8; rw [if_pos rfl]; rfl
  rw [if_neg e8]
  by_cases e9 : x = Str.ofString "two"
  · subst e9; rw [if_pos rfl]; rfl
  rw [if_neg e9]
  by_cases e10 : x = Str.ofString "name"
  · subst e10; rw [if_pos rfl]; rfl
  rw [if_neg e10]
  by_cases e11 : x = Str.ofString "port"
  · subst e11; rw [if_pos rfl]; rfl
  rw [if_neg e11]
  by_cases e12 : x = Str.ofString "error"
  · subst e12; rw [if_pos rfl]; rfl
  rw [if_neg e12]
  exact h x e1 e2 e3 e4 e5 e6 e7 e8 e9 e10 e11 e12
/-- how a turn ends: with a vote more, or with none -/
def TurnOk (g : Heap) (L Dv Dc I : Addr) (o : Obj) (vr cvs : List Value) (rest : Led) (m : Str → Option Value) (s : Shared) (f : Flow) (s' : Shared) : Prop :=
  f = .next ∧ ∃ a h' tk', s' = { s with heap := h', toks := tk' } ∧ Fr g L h' (lawM m a) ∧
    ((∃ n1 n2, News g L h' ((I, o) :: (Dv, listOf vr.toArray n1) :: (Dc, listOf cvs.toArray n2) :: rest)) ∨
     (∃ v cy t n1 n2, VoteOk v cy ∧ (∀ p ∈ v.led, p.1 ≠ Dv ∧ p.1 ≠ Dc ∧ p.1 ≠ I) ∧ News g L h' ((I, o) :: (Dv, listOf (vr ++ [Value.ref v.T]).toArray n1) :: (Dc, listOf (cvs ++ [Value.int cy t]).toArray n2) :: (v.led ++ rest))))
theorem TurnOk.skip {g : Heap} {L Dv Dc I : Addr} {o : Obj} {vr cvs : List Value} {rest : Led} {m m1 : Str → Option Value} {s : Shared} {h' : Heap} {tk' n1 n2 : Nat} {all : Led} (F : Fr g L h' m1)
    (hm : ∀ x, x ≠ Str.ofString "k" → x ≠ Str.ofString "f" → x ≠ Str.ofString "c" → x ≠ Str.ofString "w" → x ≠ Str.ofString "kind" → x ≠ Str.ofString "mark" → x ≠ Str.ofString "tail" → x ≠ Str.ofString "one" → x ≠ Str.ofString "two" →
      x ≠ Str.ofString "name" → x ≠ Str.ofString "port" → x ≠ Str.ofString "error" → m1 x = m x) (N : News g L h' all) (hs : ∀ p ∈ (I, o) :: (Dv, listOf vr.toArray n1) :: (Dc, listOf cvs.toArray n2) :: rest, p ∈ all) :
    TurnOk g L Dv Dc I o vr cvs rest m s .next { s with heap := h', toks := tk' } := by
  obtain ⟨a, e⟩ := lawM_of hm
  exact ⟨rfl, a, h', tk', rfl, e ▸ F, .inl ⟨n1, n2, fun p hp => N p (hs p hp)⟩⟩
theorem TurnOk.vote {g : Heap} {L Dv Dc I : Addr} {o : Obj} {vr cvs : List Value} {rest : Led} {m m1 : Str → Option Value} {s : Shared} {h' : Heap} {tk' n1 n2 : Nat} {all : Led} {cy : Int} {t : Tok} (v : Vt) (F : Fr g L h' m1)
    (hm : ∀ x, x ≠ Str.ofString "k" → x ≠ Str.ofString "f" → x ≠ Str.ofString "c" → x ≠ Str.ofString "w" → x ≠ Str.ofString "kind" → x ≠ Str.ofString "mark" → x ≠ Str.ofString "tail" → x ≠ Str.ofString "one" → x ≠ Str.ofString "two" →
      x ≠ Str.ofString "name" → x ≠ Str.ofString "port" → x ≠ Str.ofString "error" → m1 x = m x) (N : News g L h' all) (hv : VoteOk v cy) (hne : ∀ p ∈ v.led, p.1 ≠ Dv ∧ p.1 ≠ Dc ∧ p.1 ≠ I)
    (hI : (I, o) ∈ all) (hV : (Dv, listOf (vr ++ [Value.ref v.T]).toArray n1) ∈ all) (hC : (Dc, listOf (cvs ++ [Value.int cy t]).toArray n2) ∈ all) (hl : ∀ p ∈ v.led, p ∈ all) (hr : ∀ p ∈ rest, p ∈ all) :
    TurnOk g L Dv Dc I o vr cvs rest m s .next { s with heap := h', toks := tk' } := by
  obtain ⟨a, e⟩ := lawM_of hm
  refine ⟨rfl, a, h', tk', rfl, e ▸ F, .inr ⟨v, cy, t, n1, n2, hv, hne, fun p hp => N p ?_⟩⟩
  rcases List.mem_cons.mp hp with rfl | hp
  · exact hI
  rcases List.mem_cons.mp hp with rfl | hp
  · exact hV
  rcases List.mem_cons.mp hp with rfl | hp
  · exact hC
  rcases List.mem_append.mp hp with hp | hp
  · exact hl p hp
  · exact hr p hp
section
variable {prog : Program} {w : World} {A : Around} {E : Value → Shared → Prop} {s : Shared} {Q : Value → Shared → Prop} {t u : Tok}
theorem div_nat {n d : Nat} {x y : Int} (hA : A.handled = none) (hx : x = n) (hy : y = d) (hd : d ≠ 0) (hn : n < 1000) (h : ∀ t k, Q (.float (D d n) t) { s with toks := k }) :
    wpAny (model prog w) A (binaryOp .Div (.int x t) (.int y u)) Q E s := by
  subst hx hy
  refine Flt.div_ii_fits hA (by rw [Int.natAbs_natCast]; exact Nat.lt_trans hn (by decide)) (fun e => absurd e (by omega)) fun _ _ => ?_
  have e1 : (decide ((n : Int) < 0) != decide ((d : Int) < 0)) = false := by simp; omega
  rw [e1, Int.natAbs_natCast, Int.natAbs_natCast]
  exact h _ _
end

theorem law1_rows1 : True := by
  k_with_none
  w_top off
  k_with "led_sub" => first | exact fun p hp => hp | (intro p hp; repeat' (first | exact hp | refine List.Mem.tail _ ?_))
  k_with "led_lt" => first | assumption | exact ktn_ltOf (by assumption) | exact lt1 (by assumption) | exact lt2 (by assumption) | exact lt3 (by assumption) | exact lt4 (by assumption)
  k_with "ct_fill" => (refine fillIt ?_; k_fill; intro _; unfold Ct)
  k_with "ct_enter" => (refine wpAny_call ?_; k_dflt cell_enter)
  k_with "ct_use" => ((case k1 => k_asm); (case k2 => k_asm); (case k3 => k_asm); (case k4 => k_asm); (case k5 => k_asm); (case kK => first | exact rfl | assumption); (case kd => ktr_room); (case ku => ktr_units))
  k_with "subscriptTail" => (k_here; (with_reducible show wpAny _ _ (subscriptTail _ _ (Value.ref _) (Value.int _ _)) _ _ _); (k_dflt (refine' tup_item ?k1 ?k2 ?k3 ?k4 ?k5 ?k6 ?_; (case k1 => k_asm); (case k2 => first | assumption | k_mem); (case k3 => decide); (case k4 => decide); (case k5 => exact rfl); (case k6 => with_unfolding_all rfl); k_whole)))
  k_with "call builtin:max" => ((with_reducible show wpAny _ _ (call _ [Value.float _ _, Value.float _ _, Value.float _ _]) _ _ _); (rename News _ _ _ _ => N'); (rename Fr _ _ _ _ => F'); refine max3_K rfl F' N' ?_; clear N'; intro _ _ _ _ _)
  k_with "call builtin:min" => ((with_reducible show wpAny _ _ (call _ [Value.float _ _, Value.float _ _, Value.float _ _]) _ _ _); (rename News _ _ _ _ => N'); (rename Fr _ _ _ _ => F'); refine min3_K rfl F' N' ?_; clear N'; intro _ _ _ _ _)
  k_with "subscriptTail" => (k_here; (with_reducible show wpAny _ _ (subscriptTail _ _ (Value.ref _) (Value.int _ _)) _ _ _); (k_dflt (refine' lst_item3 ?k1 ?k2 ?k3 ?k4 ?k6 ?_ ?_ ?_; (case k1 => k_asm); (case k2 => k_mem); (case k3 => omega); (case k4 => omega); (case k6 => with_unfolding_all rfl); all_goals (k_whole; intro hidx))))
  k_with "str_fit" => first | decide +kernel | (simp only [Str.length_append]; omega)
  k_with "binaryOp Add str str" => (k_here; (with_reducible show wpAny _ _ (binaryOp Operator.Add (Value.str _ _) (Value.str _ _)) _ _ _); (refine' add_m ?ksz ?_; (case ksz => walk_at "str_fit")); intro tx' kx' hx'; (try dsimp only at hx'))
  k_with "call builtin:str.replace" => (k_here; (refine' repl_m ?k1 ?k2 ?k3 ?k4 ?k5 ?k6 ?_; (case k1 => (show (0 : Nat) < _); omega); (case k2 => (show (0 : Nat) < _); omega); (case k3 => (show @Ne Nat _ _); omega); (case k4 => decide +kernel); (case k5 => walk_at "str_fit"); (case k6 => walk_at "str_fit")); intro tx' kx' hx'; (try dsimp only at hx'))
  k_with "subscriptTail" => (k_here; (with_reducible show wpAny _ _ (subscriptTail _ _ (Value.str _ _) (Value.int _ _)) _ _ _); (k_dflt (refine' str_item ?k1 ?k2 ?k3 ?k4 ?k5 ?_; (case k1 => omega); (case k2 => first | omega | exact Int.lt_of_lt_of_le (b := 4) (by omega) (by decide +kernel)); (case k3 => first | omega | decide +kernel); (case k4 => with_unfolding_all rfl); (case k5 => (intro _; with_unfolding_all rfl)))); intro hone')
  k_with "subscriptTail Name Slice str ref" => ((with_reducible rename Fr _ _ _ _ => F'); (with_reducible rename News _ _ _ _ => N'); (first
  | ((with_reducible show wpAny _ _ (subscriptTail _ (Expr.Slice (some _) none none _) _ _) _ _ _); (refine' slice_strN_sn_len (s := ⟨_, _, _, _, _⟩) F' N' ?_ (hsz := ?hsz)); (case hsz => walk_at "str_fit"))
  | ((with_reducible show wpAny _ _ (subscriptTail _ (Expr.Slice none (some _) none _) _ _) _ _ _); (refine' slice_strN_ns_len (s := ⟨_, _, _, _, _⟩) F' N' ?_ (hsz := ?hsz)); (case hsz => walk_at "str_fit"))
  | ((with_reducible show wpAny _ _ (subscriptTail _ (Expr.Slice (some _) (some _) none _) _ _) _ _ _); (refine' slice_strN_ss_len (s := ⟨_, _, _, _, _⟩) F' N' ?_ (hsz := ?hsz)); (case hsz => walk_at "str_fit"))); intro _ _ _ _ _ _)
  k_with "call ref" => (k_here; (with_reducible show wpAny _ _ (call (Value.ref 28) _) _ _ _); (k_dflt (refine' Ct.use (rgb_spec _ _ _ _ _ _ _ _ ?p1 ?p2) ?k1 ?k2 ?k3 ?k4 ?k5 ?kK ?kd ?ku ?_; (case p1 => exact RgbOk.h1 (by assumption)); (case p2 => exact RgbOk.h2 (by assumption)); walk_at "ct_use")); intro r' tl' h' tk' F' N' l1 hP'; obtain ⟨D', c', t4', t5', t6', e1', e2', e3'⟩ := hP'; subst e1' e2' e3'; replace l1 := lt_tl1 l1; (try k_lt l1); (simp only [List.cons_append, List.nil_append] at N'); (try k_sweep); (try dsimp only); (try k_fold))
  k_with "call ref" => (k_here; (with_reducible show wpAny _ _ (call (Value.ref 86) _) _ _ _); (k_dflt (refine' Ct.use (p257_spec _ _ _ _ ?p1 ?p2) ?k1 ?k2 ?k3 ?k4 ?k5 ?kK ?kd ?ku ?_; (case p1 => assumption); (case p2 => assumption); walk_at "ct_use")); intro r' tl' h' tk' F' N' l1 hP'; obtain ⟨z', t4', e1', e2', e3'⟩ := hP'; subst e1' e2' e3'; (simp only [List.nil_append] at N'); (try k_sweep); (try dsimp only); (try k_fold))
  k_with "enterS" => (refine' code_defS ?k1 ?k2 ?k3 ?k4 ?k5 ?XB ?TB ?D ?T0 ?kA ?k6 ?k7 ?k8 ?k9 ?kB ?_ ?cK ?c2 ?c3 ?c4 ?c5; (case kA => exact rfl); (case k2 => k_asm); (case k1 => k_asm); (case XB => assumption); (case TB => assumption); (case D => assumption); (case T0 => first | assumption | exact KtsTurn.refl); (case k3 => k_asm); (case k4 => k_asm); (case k5 => k_asm); (case k6 => k_is); (case k7 => k_is); (case k8 => ktr_room); (case k9 => exact BindsTo.of_eq rfl); (case kB => exact locs rfl); (case cK => first | exact rfl | assumption); (case c2 => exact rfl); (case c3 => exact rfl); (case c4 => exact rfl); (case c5 => decide); k_whole; intro g' L' h' FG' F' N' B' X' T' D'; (try dsimp only); (try k_lift B'); (try k_fold))
  k_with "enterS0" => (refine' enter0X ?k1 ?k2 ?k3 ?k4 ?k5 ?kA ?kF ?cK ?k6 ?k7 ?k8 ?k9 ?kB ?_ ?c2 ?c3 ?c4 ?c5; (case kA => exact rfl); (case kF => exact rfl); (case cK => first | exact rfl | assumption); (case k2 => k_asm); (case k1 => k_asm); (case k3 => k_asm); (case k4 => k_asm); (case k5 => k_asm); (case k6 => k_is); (case k7 => k_is); (case k8 => ktr_room); (case k9 => exact BindsTo.of_eq rfl); (case kB => exact locs rfl); (case c2 => exact rfl); (case c3 => exact rfl); (case c4 => exact rfl); (case c5 => decide); k_whole; intro g' L' h' FG' F' N' B' X' T' D'; (try dsimp only); (try k_lift B'); (try k_fold))
  k_with "call ref" => (k_here; (with_reducible show wpAny _ _ (call (Value.ref 21) _) _ _ _); (k_dflt (refine' Ct.use (em_spec _ _ _ _ _ _ ?p1 ?p2) ?k1 ?k2 ?k3 ?k4 ?k5 ?kK ?kd ?ku ?_; (case p1 => walk_at "em_ok"); (case p2 => walk_at "em_len"); walk_at "ct_use")); intro r' tl' h' tk' F' N' l1 hP'; obtain ⟨e1', b', e2', e3'⟩ := hP'; subst e1' e2'; (simp only [List.nil_append] at N'); (try k_sweep); (try dsimp only); (try k_fold))
  k_with "em_len" => omega
  k_with "em_ok" => assumption
  trivial
abbrev sQ : Str := Str.ofString "\""
abbrev sB : Str := Str.ofString "b"
abbrev sR : Str := Str.ofString "r"
theorem mem3 {x : Str} (h : x ∈ [sQ, sB, sR]) : x = sQ ∨ x = sB ∨ x = sR := by
  rcases List.mem_cons.mp h with h | h
  · exact .inl h
  rcases List.mem_cons.mp h with h | h
  · exact .inr (.inl h)
  · exact .inr (.inr (List.mem_singleton.mp h))
theorem sorted3 {ss : List Str} (hp : ss.Perm [sQ, sB, sR]) (hs : sortedS ss = true) : ss = [sQ, sB, sR] := by
  have hl := hp.length_eq
  match ss, hl with
  | [x, y, z], _ =>
    have hb := List.isPerm_iff.mpr hp
    have hx := mem3 (hp.subset (.head _))
    have hy := mem3 (hp.subset (.tail _ (.head _)))
    have hz := mem3 (hp.subset (.tail _ (.tail _ (.head _))))
    clear hp hl
    rcases hx with rfl | rfl | rfl <;> rcases hy with rfl | rfl | rfl <;> rcases hz with rfl | rfl | rfl <;>
      first
        | rfl
        | exact absurd hs (by decide +kernel)
        | exact absurd hb (by decide +kernel)
def charsOf (x : Str) : List Str := x.cps.toList.map fun c => ⟨#[c]⟩
theorem strs_of_signs {x : Str} {acc : Array Value} (h : ItemsOf (SignAt x) acc x.cps.size) : StrsAre acc.toList (charsOf x) := by
  obtain ⟨hsz, hi⟩ := h
  have key : ∀ (l : List Value) (cs : List Nat), l.length = cs.length → (∀ (j : Nat) (v : Value), l[j]? = some v → ∃ c u, cs[j]? = some c ∧ v = Value.str ⟨#[c]⟩ u) → StrsAre l (cs.map fun c => (⟨#[c]⟩ : Str)) := by
    intro l
    induction l with
    | nil => intro cs hl _; cases cs with
      | nil => exact .nil
      | cons => cases hl
    | cons v l ih => intro cs hl h; cases cs with
      | nil => cases hl
      | cons c cs =>
        obtain ⟨c', u, e1, e2⟩ := h 0 v rfl
        cases e1
        subst e2
        exact .cons _ u (ih cs (by simpa using hl) fun j v hj => h (j + 1) v hj)
  refine key acc.toList x.cps.toList (by simpa using hsz) fun j v hj => ?_
  have hj' : acc[j]? = some v := by simpa using hj
  obtain ⟨c, u, e1, e2⟩ := hi j v hj'
  exact ⟨c, u, by simpa using e1, e2⟩
section
variable {prog : Program} {w : World} {A : Around} {E : Value → Shared → Prop} {s : Shared} {Q : Value → Shared → Prop} {x : Str} {t : Tok} {h₀ : Heap} {L : Addr} {m : Str → Option Value} {news : Led}
/-- sorted of a short text -/
theorem sorted_str (hh : A.handled = none) (F : Fr h₀ L s.heap m) (N : News h₀ L s.heap news) (hx : x.cps.size < 64)
    (h : ∀ D h' k vs' ss' e, Fr h₀ L h' m → News h₀ L h' ((D, listOf vs'.toArray e) :: news) → (∀ p ∈ news, p.1 < D) → StrsAre vs' ss' → ss'.Perm (charsOf x) → sortedS ss' = true → Q (.ref D) { s with heap := h', toks := k }) :
    wpAny (model prog w) A (call (.builtin "sorted") [.str x t]) Q E s := by
  refine Calls.call_function_entry kind_sorted plain_sorted entry_sorted (args_sorted1 _) ?_
  unfold Builtin.«sorted»
  refine wpAny_bind (m := checkCount "sorted" 1 1 _) (wpAny_pure ?_)
  refine wpAny_bind (wpAny_collect_str (by first | exact hh | rfl) x t (fun s' acc hk hg hd ho hacc => ?_) (by rw [sizeLine_eq]; omega))
  have hS := strs_of_signs hacc
  have hlen : acc.toList.length = x.cps.size := by simpa using hacc.1
  refine wpAny_bind (wpAny_newList ?_)
  have hoL : (s'.heap.push (seqObj "list" acc.toList.toArray 0)).get? s'.heap.objs.size = some (seqObj "list" acc.toList.toArray 0) := Heap.get?_push_size _ rfl
  refine wpAny_bind (wpAny_holding (wpAny_call_entry slot_list_sort ⟨_, hoL, rfl⟩ entry_list_sort
    (list_sort_treeK strKind_oneLt hoL hS.keysOf (fun v₁ v₂ rest e => keyKind_strs (by rw [← e]; exact hS)) (by omega) fun st' a1 a2 => ⟨_, rfl, ?_⟩) (args_list_sort _)))
  obtain ⟨ss', b1, b2, b3⟩ := sorted_out_str hS a1 a2
  obtain ⟨e, he⟩ := sortedHeap_at (out := (arrOf st').map (·.2)) hoL
  have keep : ∀ b o, s.heap.get? b = some o → (sortedHeap (s'.heap.push (seqObj "list" acc.toList.toArray 0)) s'.heap.objs.size acc.toList ((arrOf st').map (·.2))).get? b = some o := fun b o eb => by
    have hlt := Heap.lt_size (hk b o eb)
    rw [sortedHeap_old (Nat.ne_of_lt hlt) (by rw [Heap.size_push]; exact Nat.lt_succ_of_lt hlt), Heap.get?_push_ne _ _ _ (Nat.ne_of_lt hlt)]
    exact hk b o eb
  obtain ⟨oL, es, ep, hLg, _⟩ := F.ns
  have hL : L < s'.heap.objs.size := Heap.lt_size (hk L oL hLg)
  have hnew : h₀.get? s'.heap.objs.size = none := by
    cases e' : h₀.get? s'.heap.objs.size with
    | none => rfl
    | some o => exact absurd (Heap.lt_size (hk _ _ (F.keep _ _ e'))) (Nat.lt_irrefl _)
  have hlt : ∀ p ∈ news, p.1 < s'.heap.objs.size := fun p hp => Heap.lt_size (hk _ _ (N p hp).1)
  obtain ⟨hp', gn', dr', tk', os'⟩ := s'
  dsimp only at hg hd ho
  subst hg hd ho
  refine wpAny_pure ⟨_, rfl, h hp'.objs.size _ _ _ ss' e (F.kept keep) (fun p hp => ?_) hlt b1 b2 b3⟩
  rcases List.mem_cons.mp hp with rfl | hp
  · exact ⟨he, Nat.ne_of_gt hL, hnew⟩
  · exact ⟨keep _ _ (N p hp).1, (N p hp).2⟩
end
section
variable {prog : Program} {w : World} {A : Around} {E : Value → Shared → Prop} {s : Shared} {Q : Value → Shared → Prop} {x : Str} {t : Tok} {h₀ : Heap} {L : Addr} {m : Str → Option Value} {news : Led}
theorem strs_three {vs : List Value} {a b c : Str} (h : StrsAre vs [a, b, c]) : ∃ t1 t2 t3, vs = [.str a t1, .str b t2, .str c t3] := by
  cases h with | cons _ t1 h => cases h with | cons _ t2 h => cases h with | cons _ t3 h => cases h; exact ⟨t1, t2, t3, rfl⟩
theorem sorted_q (hp : (charsOf x).isPerm [sQ, sB, sR] = true) (hx : x.length ≤ 3) (hh : A.handled = none) (F : Fr h₀ L s.heap m) (N : News h₀ L s.heap news)
    (h : ∀ D h' k t1 t2 t3 e, Fr h₀ L h' m → News h₀ L h' ((D, listOf [Value.str sQ t1, .str sB t2, .str sR t3].toArray e) :: news) → (∀ p ∈ news, p.1 < D) → Q (.ref D) { s with heap := h', toks := k }) :
    wpAny (model prog w) A (call (.builtin "sorted") [.str x t]) Q E s := by
  refine sorted_str hh F N (Nat.lt_of_le_of_lt (show x.cps.size ≤ 3 from hx) (by decide)) fun D h' k vs' ss' e F' N' lt hS hP hs => ?_
  have e3 := sorted3 (hP.trans (List.isPerm_iff.mp hp)) hs
  subst e3
  obtain ⟨t1, t2, t3, rfl⟩ := strs_three hS
  exact h D h' k t1 t2 t3 e F' N' lt
end

theorem law2_rows1 : True := by
  k_with_none
  w_top off
  k_with "led_sub" => first | exact fun p hp => hp | (intro p hp; repeat' (first | exact hp | refine List.Mem.tail _ ?_))
  k_with "led_lt" => first | assumption | exact ktn_ltOf (by assumption) | exact lt1 (by assumption) | exact lt2 (by assumption) | exact lt3 (by assumption) | exact lt4 (by assumption)
  k_with "ct_fill" => (refine fillIt ?_; k_fill; intro _; unfold Ct)
  k_with "ct_enter" => (refine wpAny_call ?_; k_dflt cell_enter)
  k_with "ct_use" => ((case k1 => k_asm); (case k2 => k_asm); (case k3 => k_asm); (case k4 => k_asm); (case k5 => k_asm); (case kK => first | exact rfl | assumption); (case kd => ktr_room); (case ku => ktr_units))
  k_with "subscriptTail" => (k_here; (with_reducible show wpAny _ _ (subscriptTail _ _ (Value.ref _) (Value.int _ _)) _ _ _); (k_dflt (refine' tup_item ?k1 ?k2 ?k3 ?k4 ?k5 ?k6 ?_; (case k1 => k_asm); (case k2 => first | assumption | k_mem); (case k3 => decide); (case k4 => decide); (case k5 => exact rfl); (case k6 => with_unfolding_all rfl); k_whole)))
  k_with "call builtin:max" => ((with_reducible show wpAny _ _ (call _ [Value.float _ _, Value.float _ _, Value.float _ _]) _ _ _); (rename News _ _ _ _ => N'); (rename Fr _ _ _ _ => F'); refine max3_K rfl F' N' ?_; clear N'; intro _ _ _ _ _)
  k_with "call builtin:min" => ((with_reducible show wpAny _ _ (call _ [Value.float _ _, Value.float _ _, Value.float _ _]) _ _ _); (rename News _ _ _ _ => N'); (rename Fr _ _ _ _ => F'); refine min3_K rfl F' N' ?_; clear N'; intro _ _ _ _ _)
  k_with "subscriptTail" => (k_here; (with_reducible show wpAny _ _ (subscriptTail _ _ (Value.ref _) (Value.int _ _)) _ _ _); (k_dflt (refine' lst_item3 ?k1 ?k2 ?k3 ?k4 ?k6 ?_ ?_ ?_; (case k1 => k_asm); (case k2 => k_mem); (case k3 => omega); (case k4 => omega); (case k6 => with_unfolding_all rfl); all_goals (k_whole; intro hidx))))
  k_with "str_fit" => first | decide +kernel | (simp only [Str.length_append]; omega)
  k_with "binaryOp Add str str" => (k_here; (with_reducible show wpAny _ _ (binaryOp Operator.Add (Value.str _ _) (Value.str _ _)) _ _ _); (refine' add_m ?ksz ?_; (case ksz => walk_at "str_fit")); intro tx' kx' hx'; (try dsimp only at hx'))
  k_with "call builtin:str.replace" => (k_here; (refine' repl_m ?k1 ?k2 ?k3 ?k4 ?k5 ?k6 ?_; (case k1 => (show (0 : Nat) < _); omega); (case k2 => (show (0 : Nat) < _); omega); (case k3 => (show @Ne Nat _ _); omega); (case k4 => decide +kernel); (case k5 => walk_at "str_fit"); (case k6 => walk_at "str_fit")); intro tx' kx' hx'; (try dsimp only at hx'))
  k_with "subscriptTail" => (k_here; (with_reducible show wpAny _ _ (subscriptTail _ _ (Value.str _ _) (Value.int _ _)) _ _ _); (k_dflt (refine' str_item ?k1 ?k2 ?k3 ?k4 ?k5 ?_; (case k1 => omega); (case k2 => first | omega | exact Int.lt_of_lt_of_le (b := 4) (by omega) (by decide +kernel)); (case k3 => first | omega | decide +kernel); (case k4 => with_unfolding_all rfl); (case k5 => (intro _; with_unfolding_all rfl)))); intro hone')
  k_with "subscriptTail Name Slice str ref" => ((with_reducible rename Fr _ _ _ _ => F'); (with_reducible rename News _ _ _ _ => N'); (first
  | ((with_reducible show wpAny _ _ (subscriptTail _ (Expr.Slice (some _) none none _) _ _) _ _ _); (refine' slice_strN_sn_len (s := ⟨_, _, _, _, _⟩) F' N' ?_ (hsz := ?hsz)); (case hsz => walk_at "str_fit"))
  | ((with_reducible show wpAny _ _ (subscriptTail _ (Expr.Slice none (some _) none _) _ _) _ _ _); (refine' slice_strN_ns_len (s := ⟨_, _, _, _, _⟩) F' N' ?_ (hsz := ?hsz)); (case hsz => walk_at "str_fit"))
  | ((with_reducible show wpAny _ _ (subscriptTail _ (Expr.Slice (some _) (some _) none _) _ _) _ _ _); (refine' slice_strN_ss_len (s := ⟨_, _, _, _, _⟩) F' N' ?_ (hsz := ?hsz)); (case hsz => walk_at "str_fit"))); intro _ _ _ _ _ _)
  k_with "call ref" => (k_here; (with_reducible show wpAny _ _ (call (Value.ref 28) _) _ _ _); (k_dflt (refine' Ct.use (rgb_spec _ _ _ _ _ _ _ _ ?p1 ?p2) ?k1 ?k2 ?k3 ?k4 ?k5 ?kK ?kd ?ku ?_; (case p1 => exact RgbOk.h1 (by assumption)); (case p2 => exact RgbOk.h2 (by assumption)); walk_at "ct_use")); intro r' tl' h' tk' F' N' l1 hP'; obtain ⟨D', c', t4', t5', t6', e1', e2', e3'⟩ := hP'; subst e1' e2' e3'; replace l1 := lt_tl1 l1; (try k_lt l1); (simp only [List.cons_append, List.nil_append] at N'); (try k_sweep); (try dsimp only); (try k_fold))
  k_with "call ref" => (k_here; (with_reducible show wpAny _ _ (call (Value.ref 86) _) _ _ _); (k_dflt (refine' Ct.use (p257_spec _ _ _ _ ?p1 ?p2) ?k1 ?k2 ?k3 ?k4 ?k5 ?kK ?kd ?ku ?_; (case p1 => assumption); (case p2 => assumption); walk_at "ct_use")); intro r' tl' h' tk' F' N' l1 hP'; obtain ⟨z', t4', e1', e2', e3'⟩ := hP'; subst e1' e2' e3'; (simp only [List.nil_append] at N'); (try k_sweep); (try dsimp only); (try k_fold))
  k_with "enterS" => (refine' code_defS ?k1 ?k2 ?k3 ?k4 ?k5 ?XB ?TB ?D ?T0 ?kA ?k6 ?k7 ?k8 ?k9 ?kB ?_ ?cK ?c2 ?c3 ?c4 ?c5; (case kA => exact rfl); (case k2 => k_asm); (case k1 => k_asm); (case XB => assumption); (case TB => assumption); (case D => assumption); (case T0 => first | assumption | exact KtsTurn.refl); (case k3 => k_asm); (case k4 => k_asm); (case k5 => k_asm); (case k6 => k_is); (case k7 => k_is); (case k8 => ktr_room); (case k9 => exact BindsTo.of_eq rfl); (case kB => exact locs rfl); (case cK => first | exact rfl | assumption); (case c2 => exact rfl); (case c3 => exact rfl); (case c4 => exact rfl); (case c5 => decide); k_whole; intro g' L' h' FG' F' N' B' X' T' D'; (try dsimp only); (try k_lift B'); (try k_fold))
  k_with "enterS0" => (refine' enter0X ?k1 ?k2 ?k3 ?k4 ?k5 ?kA ?kF ?cK ?k6 ?k7 ?k8 ?k9 ?kB ?_ ?c2 ?c3 ?c4 ?c5; (case kA => exact rfl); (case kF => exact rfl); (case cK => first | exact rfl | assumption); (case k2 => k_asm); (case k1 => k_asm); (case k3 => k_asm); (case k4 => k_asm); (case k5 => k_asm); (case k6 => k_is); (case k7 => k_is); (case k8 => ktr_room); (case k9 => exact BindsTo.of_eq rfl); (case kB => exact locs rfl); (case c2 => exact rfl); (case c3 => exact rfl); (case c4 => exact rfl); (case c5 => decide); k_whole; intro g' L' h' FG' F' N' B' X' T' D'; (try dsimp only); (try k_lift B'); (try k_fold))
  k_with "call ref" => (k_here; (with_reducible show wpAny _ _ (call (Value.ref 21) _) _ _ _); (k_dflt (refine' Ct.use (em_spec _ _ _ _ _ _ ?p1 ?p2) ?k1 ?k2 ?k3 ?k4 ?k5 ?kK ?kd ?ku ?_; (case p1 => walk_at "em_ok"); (case p2 => walk_at "em_len"); walk_at "ct_use")); intro r' tl' h' tk' F' N' l1 hP'; obtain ⟨e1', b', e2', e3'⟩ := hP'; subst e1' e2'; (simp only [List.nil_append] at N'); (try k_sweep); (try dsimp only); (try k_fold))
  k_with "em_len" => omega
  k_with "em_ok" => assumption
  trivial
def errS (i : Nat) : Str := ([Str.ofString "", Str.ofString "reply", Str.ofString "proto", Str.ofString "proto", Str.ofString "proto", Str.ofString "value", Str.ofString "reply", Str.ofString "", Str.ofString "proto"] : List Str).getD i (Str.ofString "")
/-- what the replies tell -/
inductive TOut (k c w kind : Nat) (z : TR) : Prop
  | bad (nm host : Str) (port : Int) (er : Str) (he : errS kind = er) (hz : z = ⟨nm, host, port, er⟩) (hb : (er == Str.ofString "") = false)
  | grey (he : errS kind = Str.ofString "") (hz : z = ⟨Str.ofString "", Str.ofString "there", (c : Int) * (w : Int), Str.ofString ""⟩) (h0 : (c : Int) * (w : Int) = 0)
  | col (nm : Str) (he : errS kind = Str.ofString "") (hz : z = ⟨nm, Str.ofString "there", (c : Int) * (w : Int), Str.ofString ""⟩) (h0 : (c : Int) * (w : Int) ≠ 0) (hn : nm = nameAt (k % 6)) (hne : (nm == Str.ofString "") = false) (hp : (charsOf nm).isPerm [sQ, sB, sR] = true) (ho : OnceF nm)
theorem Ct0.use {w : World} {f : Addr} {vs : List Value} {news : Led} {d u : Nat} {P : Led → Value → Prop} (C : Ct0 w f vs news d u P)
    {mean : ExcName → Option Value} {mg mb : Str → Option Value} {dp un : Nat} {gd : Option (List Code)} {cn : Str} {cs : Scope} {a : Addr} {ccd : Value} {cl : List (Str × Addr)} {A₀ : Around} {h₀ : Heap} {L : Addr} {m : Str → Option Value} {s : Shared} {Q E : Value → Shared → Prop}
    (B : Below A₀ h₀ [] h₀) (F : Fr h₀ L s.heap m) (X : (hd.heap_1 w.params).In h₀) (N : News h₀ L s.heap news) (T : Top hd.view_1 (looseW hd.view_1 []) mean mg mb h₀) (hk : cs.kind = .function)
    (hd : dp + d < recursionLimit) (hu : un + u < cLine) (ret : Ret h₀ L m news s Q P) :
    wpC (model PySem.Challenge.pw_rs0085_01 w) (ktrTop dp un gd cn cs L a ccd cl []) (call (.ref f) vs) Q E s := C _ _ _ _ _ _ _ _ _ _ _ _ _ _ _ _ _ _ B F X N T hk hd hu ret
section
variable {k f c w kind mark tail : Nat} {X1 X2 : T3} {Y1 Y2 : C3} {x y : Str} {z : TR}
theorem voteOk_grey (hf : TF k f c w kind mark tail X1 X2 Y1 Y2 x y z) {v : Vt} {cy : Int} (a1 : v.one = X1) (a2 : v.two = X2) (a3 : v.name = Str.ofString "") (a4 : v.n = (c : Int) * (w : Int)) (h0 : (c : Int) * (w : Int) = 0) (hc : cy = (c : Int) * (w : Int) * (1 - 2 * Int.fmod k 2)) : VoteOk v cy := by
  refine ⟨k, f, c, w, hf.hk, hf.f1, hf.f7, hf.hc, hf.hw, a1.trans hf.x1, a2.trans hf.x2, by rw [a4, Int.natCast_mul], ?_, by rw [hc, fm2, Int.natCast_mul]⟩
  rw [if_pos (by rw [← Int.natCast_mul] at h0; omega)]
  exact a3
theorem voteOk_col (hf : TF k f c w kind mark tail X1 X2 Y1 Y2 x y z) {v : Vt} {cy : Int} (a1 : v.one = X1) (a2 : v.two = X2) (a3 : v.name = nameAt (k % 6)) (a4 : v.n = (c : Int) * (w : Int)) (h0 : (c : Int) * (w : Int) ≠ 0) (hc : cy = (c : Int) * (w : Int) * (1 - 2 * Int.fmod k 2)) : VoteOk v cy := by
  refine ⟨k, f, c, w, hf.hk, hf.f1, hf.f7, hf.hc, hf.hw, a1.trans hf.x1, a2.trans hf.x2, by rw [a4, Int.natCast_mul], ?_, by rw [hc, fm2, Int.natCast_mul]⟩
  rw [if_neg (by intro e; apply h0; rw [← Int.natCast_mul, e]; rfl)]
  exact a3
end
section
variable {prog : Program} {w : World} {A : Around} {E : Value → Shared → Prop} {s : Shared} {h₀ : Heap} {L : Addr} {news : Led} {Q : Value → Shared → Prop} {value slice : Expr}
theorem lst_err {ad : Addr} {n : Nat} {k : Nat} {u : Tok} {t0 t1 t2 t3 t4 t5 t6 t7 t8 : Tok} (N : News h₀ L s.heap news)
    (hm : (ad, W.listOf #[Value.str (Str.ofString "") t0, .str (Str.ofString "reply") t1, .str (Str.ofString "proto") t2, .str (Str.ofString "proto") t3, .str (Str.ofString "proto") t4, .str (Str.ofString "value") t5, .str (Str.ofString "reply") t6, .str (Str.ofString "") t7, .str (Str.ofString "proto") t8] n) ∈ news) (hk : k < 9) {er : Str} (he : errS k = er)
    (hs : subscripted slice false (.ref ad) (.int k u) = operate [.ref ad, .int k u] (getItem (.ref ad) (.int k u))) (q : ∀ t, Q (.str er t) s) :
    wpAny (model prog w) A (subscriptTail value slice (.ref ad) (.int k u)) Q E s := by
  refine pick_item (b := 10) (vs := [_, _, _, _, _, _, _, _, _]) N hm (.cons _ _ (.cons _ _ (.cons _ _ (.cons _ _ (.cons _ _ (.cons _ _ (.cons _ _ (.cons _ _ (.cons _ _ .nil))))))))) (by omega) (by simp; omega) (Nat.le_of_ble_eq_true rfl) (by decide +kernel) hs fun z t e _ => ?_
  have e' : z = errS k := e
  rw [e', he]
  exact q t
end
section
variable {prog : Program} {w : World} {A : Around} {E : Value → Shared → Prop} {s : Shared} {Q : Value → Shared → Prop} {x y : Str} {t u : Tok}
theorem ne_same (h : Q (.bool false) s) : wpAny (model prog w) A (compareOp .NotEq (.str x t) (.str x u)) Q E s := ne_str (by rw [show (x != x) = false by simp]; exact h)
theorem eq_no (hxy : (x == y) = false) (h : Q (.bool false) s) : wpAny (model prog w) A (compareOp .Eq (.str x t) (.str y u)) Q E s := eq_str (by rw [hxy]; exact h)
theorem ne_no (hxy : (x == y) = false) (h : Q (.bool true) s) : wpAny (model prog w) A (compareOp .NotEq (.str x t) (.str y u)) Q E s := ne_str (by rw [show (x != y) = true by rw [bne, hxy]; rfl]; exact h)
theorem eqi_yes {a b : Int} (hab : a = b) (h : Q (.bool true) s) : wpAny (model prog w) A (compareOp .Eq (.int a t) (.int b u)) Q E s := eq_int (by rw [show (a == b) = true by simp [hab]]; exact h)
theorem eqi_no {a b : Int} (hab : a ≠ b) (h : Q (.bool false) s) : wpAny (model prog w) A (compareOp .Eq (.int a t) (.int b u)) Q E s := eq_int (by rw [show (a == b) = false by simp [hab]]; exact h)
end
section
variable {prog : Program} {w : World} {A : Around} {E : Value → Shared → Prop} {s : Shared} {g : Heap} {L : Addr} {m : Str → Option Value} {all rest : Led} {Q : Value → Shared → Prop}
theorem app_in {D : Addr} {vs : List Value} {v : Value} {n : Nat} (keep : Led) (F : Fr g L s.heap m) (N : News g L s.heap all) (hm : (D, listOf vs.toArray n) ∈ all) (hk : ∀ p ∈ keep, p ∈ all ∧ p.1 ≠ D) (hsz : vs.length ≤ 1000)
    (h : ∀ h', Fr g L h' m → News g L h' ((D, listOf (vs ++ [v]).toArray (n + 1)) :: keep) → Q .none { s with heap := h' }) : wpAny (model prog w) A (call (.builtin "list.append") [.ref D, v]) Q E s :=
  app_led F (fun p hp => (List.mem_cons.mp hp).elim (fun e => e ▸ N _ hm) fun hp => N p (hk p hp).1) (fun p hp => (hk p hp).2) hsz h
theorem app_vote {Dv Dc T O W I : Addr} {oI : Obj} {X1 X2 : T3} {nm : Str} {n : Int} {t1 t2 t3 t4 t5 t6 t7 t8 : Tok} {vr cvs : List Value} {n1 n2 : Nat} (F : Fr g L s.heap m) (N : News g L s.heap all) (hT : (T, tupO [.ref O, .ref W, .str nm t7, .int n t8]) ∈ all) (hO : (O, Xo X1 t1 t2 t3) ∈ all) (hW : (W, Xo X2 t4 t5 t6) ∈ all) (hI : (I, oI) ∈ all) (hV : (Dv, listOf vr.toArray n1) ∈ all) (hC : (Dc, listOf cvs.toArray n2) ∈ all) (hr : ∀ p ∈ rest, p ∈ all)
    (lT : Dv < T) (lO : Dv < O) (lW : Dv < W) (dI : Dv ≠ I) (dC : Dv ≠ Dc) (dr : ∀ p ∈ rest, p.1 ≠ Dv) (hsz : vr.length ≤ 1000)
    (h : ∀ h', Fr g L h' m → News g L h' ((Dv, listOf (vr ++ [Value.ref T]).toArray (n1 + 1)) :: (T, tupO [.ref O, .ref W, .str nm t7, .int n t8]) :: (O, Xo X1 t1 t2 t3) :: (W, Xo X2 t4 t5 t6) :: (I, oI) :: (Dc, listOf cvs.toArray n2) :: rest) → Q .none { s with heap := h' }) :
    wpAny (model prog w) A (call (.builtin "list.append") [.ref Dv, .ref T]) Q E s := by
  refine app_in ((T, tupO [.ref O, .ref W, .str nm t7, .int n t8]) :: (O, Xo X1 t1 t2 t3) :: (W, Xo X2 t4 t5 t6) :: (I, oI) :: (Dc, listOf cvs.toArray n2) :: rest) F N hV (fun p hp => ?_) hsz h
  rcases List.mem_cons.mp hp with rfl | hp
  · exact ⟨hT, Nat.ne_of_gt lT⟩
  rcases List.mem_cons.mp hp with rfl | hp
  · exact ⟨hO, Nat.ne_of_gt lO⟩
  rcases List.mem_cons.mp hp with rfl | hp
  · exact ⟨hW, Nat.ne_of_gt lW⟩
  rcases List.mem_cons.mp hp with rfl | hp
  · exact ⟨hI, fun e => dI e.symm⟩
  rcases List.mem_cons.mp hp with rfl | hp
  · exact ⟨hC, fun e => dC e.symm⟩
  · exact ⟨hr p hp, dr p hp⟩
theorem app_cyc {Dv Dc T O W I : Addr} {oV oT oO oW oI : Obj} {cvs : List Value} {v : Value} {n2 : Nat} (F : Fr g L s.heap m) (N : News g L s.heap ((Dv, oV) :: (T, oT) :: (O, oO) :: (W, oW) :: (I, oI) :: (Dc, listOf cvs.toArray n2) :: rest))
    (lT : Dc < T) (lO : Dc < O) (lW : Dc < W) (dI : Dc ≠ I) (dC : Dv ≠ Dc) (dr : ∀ p ∈ rest, p.1 ≠ Dc) (hsz : cvs.length ≤ 1000)
    (h : ∀ h', Fr g L h' m → News g L h' ((Dc, listOf (cvs ++ [v]).toArray (n2 + 1)) :: (Dv, oV) :: (T, oT) :: (O, oO) :: (W, oW) :: (I, oI) :: rest) → Q .none { s with heap := h' }) :
    wpAny (model prog w) A (call (.builtin "list.append") [.ref Dc, v]) Q E s := by
  refine app_in ((Dv, oV) :: (T, oT) :: (O, oO) :: (W, oW) :: (I, oI) :: rest) F N (.tail _ (.tail _ (.tail _ (.tail _ (.tail _ (.head _)))))) (fun p hp => ?_) hsz h
  rcases List.mem_cons.mp hp with rfl | hp
  · exact ⟨.head _, dC⟩
  rcases List.mem_cons.mp hp with rfl | hp
  · exact ⟨.tail _ (.head _), Nat.ne_of_gt lT⟩
  rcases List.mem_cons.mp hp with rfl | hp
  · exact ⟨.tail _ (.tail _ (.head _)), Nat.ne_of_gt lO⟩
  rcases List.mem_cons.mp hp with rfl | hp
  · exact ⟨.tail _ (.tail _ (.tail _ (.head _))), Nat.ne_of_gt lW⟩
  rcases List.mem_cons.mp hp with rfl | hp
  · exact ⟨.tail _ (.tail _ (.tail _ (.tail _ (.head _)))), fun e => dI e.symm⟩
  · exact ⟨.tail _ (.tail _ (.tail _ (.tail _ (.tail _ (.tail _ hp))))), dr p hp⟩
theorem TurnOk.skip2 {Dv Dc I : Addr} {oI : Obj} {vr cvs : List Value} {n1 n2 : Nat} {m1 : Str → Option Value} {s : Shared} {h' : Heap} {tk' : Nat} {all : Led} (F : Fr g L h' m1)
    (hm : ∀ x, x ≠ Str.ofString "k" → x ≠ Str.ofString "f" → x ≠ Str.ofString "c" → x ≠ Str.ofString "w" → x ≠ Str.ofString "kind" → x ≠ Str.ofString "mark" → x ≠ Str.ofString "tail" → x ≠ Str.ofString "one" → x ≠ Str.ofString "two" →
      x ≠ Str.ofString "name" → x ≠ Str.ofString "port" → x ≠ Str.ofString "error" → m1 x = m x) (N : News g L h' all) (hI : (I, oI) ∈ all) (hV : (Dv, listOf vr.toArray n1) ∈ all) (hC : (Dc, listOf cvs.toArray n2) ∈ all) (hr : ∀ p ∈ rest, p ∈ all) :
    TurnOk g L Dv Dc I oI vr cvs rest m s .next { s with heap := h', toks := tk' } := by
  refine TurnOk.skip (n1 := n1) (n2 := n2) F hm N fun p hp => ?_
  rcases List.mem_cons.mp hp with rfl | hp
  · exact hI
  rcases List.mem_cons.mp hp with rfl | hp
  · exact hV
  rcases List.mem_cons.mp hp with rfl | hp
  · exact hC
  · exact hr p hp
theorem TurnOk.vote2 {Dv Dc T O W I : Addr} {oI : Obj} {vr cvs : List Value} {n1 n2 : Nat} {t1 t2 t3 t4 t5 t6 t7 t8 t : Tok} {X1 X2 : T3} {nm : Str} {n cy : Int} {m1 : Str → Option Value} {s : Shared} {h' : Heap} {tk' : Nat} (F : Fr g L h' m1)
    (hm : ∀ x, x ≠ Str.ofString "k" → x ≠ Str.ofString "f" → x ≠ Str.ofString "c" → x ≠ Str.ofString "w" → x ≠ Str.ofString "kind" → x ≠ Str.ofString "mark" → x ≠ Str.ofString "tail" → x ≠ Str.ofString "one" → x ≠ Str.ofString "two" →
      x ≠ Str.ofString "name" → x ≠ Str.ofString "port" → x ≠ Str.ofString "error" → m1 x = m x)
    (N : News g L h' ((Dc, listOf (cvs ++ [Value.int cy t]).toArray n2) :: (Dv, listOf (vr ++ [Value.ref T]).toArray n1) :: (T, tupO [.ref O, .ref W, .str nm t7, .int n t8]) :: (O, Xo X1 t1 t2 t3) :: (W, Xo X2 t4 t5 t6) :: (I, oI) :: rest))
    (hv : VoteOk ⟨T, O, W, t1, t2, t3, t4, t5, t6, t7, t8, X1, X2, nm, n⟩ cy) (a1 : Dv < T) (a2 : Dv < O) (a3 : Dv < W) (a4 : Dc < T) (a5 : Dc < O) (a6 : Dc < W) (a7 : I < T) (a8 : I < O) (a9 : I < W) :
    TurnOk g L Dv Dc I oI vr cvs rest m s .next { s with heap := h', toks := tk' } := by
  refine TurnOk.vote ⟨T, O, W, t1, t2, t3, t4, t5, t6, t7, t8, X1, X2, nm, n⟩ F hm N hv ?_ (.tail _ (.tail _ (.tail _ (.tail _ (.tail _ (.head _)))))) (.tail _ (.head _)) (.head _) ?_ fun p hp => .tail _ (.tail _ (.tail _ (.tail _ (.tail _ (.tail _ hp)))))
  · intro p hp
    rcases List.mem_cons.mp hp with rfl | hp
    · exact ⟨Nat.ne_of_gt a1, Nat.ne_of_gt a4, Nat.ne_of_gt a7⟩
    rcases List.mem_cons.mp hp with rfl | hp
    · exact ⟨Nat.ne_of_gt a2, Nat.ne_of_gt a5, Nat.ne_of_gt a8⟩
    · rw [List.mem_singleton.mp hp]; exact ⟨Nat.ne_of_gt a3, Nat.ne_of_gt a6, Nat.ne_of_gt a9⟩
  · intro p hp
    rcases List.mem_cons.mp hp with rfl | hp
    · exact .tail _ (.tail _ (.head _))
    rcases List.mem_cons.mp hp with rfl | hp
    · exact .tail _ (.tail _ (.tail _ (.head _)))
    · rw [List.mem_singleton.mp hp]; exact .tail _ (.tail _ (.tail _ (.tail _ (.head _))))
end
theorem sh_tup {x : Str} {i : Int} (h : PyData.strOk x = true) : SeqAt.shaped (.tuple [.str x, .int i]) = true := by
  simp [SeqAt.shaped, PyData.canLay0, PyData.canLayAll0, PyData.depth, PyData.depthAll, h]
theorem sh_lst {x y z : Str} (h1 : PyData.strOk x = true) (h2 : PyData.strOk y = true) (h3 : PyData.strOk z = true) : SeqAt.shaped (.list [.str x, .str y, .str z]) = true := by
  simp [SeqAt.shaped, PyData.canLay0, PyData.canLayAll0, PyData.depth, PyData.depthAll, h1, h2, h3]
section
variable {prog : Program} {w : World} {A : Around} {E : Value → Shared → Prop} {s : Shared} {h₀ : Heap} {L a b : Addr} {news : Led} {Q : Value → Shared → Prop}
theorem ne_tup_same {x : Str} {i : Int} {t1 t2 u1 u2 : Tok} (N : News h₀ L s.heap news) (ha : (a, tupO [.str x t1, .int i t2]) ∈ news) (hb : (b, tupO [.str x u1, .int i u2]) ∈ news) (hx : PyData.strOk x = true) (hu : A.units + 64 < cLine)
    (h : Q (.bool false) s) : wpAny (model prog w) A (compareOp .NotEq (.ref a) (.ref b)) Q E s :=
  ne_dataH (reads_tuple_at (N.get ha) rfl rfl (.cons (Reads.str _ _) (.cons (Reads.int _ _) .nil))) (reads_tuple_at (N.get hb) rfl rfl (.cons (Reads.str _ _) (.cons (Reads.int _ _) .nil))) (sh_tup hx) (sh_tup hx) hu
    (by rw [show PyData.eqv (.tuple [.str x, .int i]) (.tuple [.str x, .int i]) = true by simp [PyData.eqv, PyData.eqvAll]]; exact h)
theorem ne_lst_same {x y z : Str} {t1 t2 t3 u1 u2 u3 : Tok} {n1 n2 : Nat} (N : News h₀ L s.heap news) (ha : (a, listOf #[.str x t1, .str y t2, .str z t3] n1) ∈ news) (hb : (b, listOf #[.str x u1, .str y u2, .str z u3] n2) ∈ news) (hx : PyData.strOk x = true) (hy : PyData.strOk y = true) (hz : PyData.strOk z = true) (hu : A.units + 64 < cLine)
    (h : Q (.bool false) s) : wpAny (model prog w) A (compareOp .NotEq (.ref a) (.ref b)) Q E s :=
  ne_dataH (reads_list_at (N.get ha) rfl rfl (.cons (Reads.str _ _) (.cons (Reads.str _ _) (.cons (Reads.str _ _) .nil)))) (reads_list_at (N.get hb) rfl rfl (.cons (Reads.str _ _) (.cons (Reads.str _ _) (.cons (Reads.str _ _) .nil)))) (sh_lst hx hy hz) (sh_lst hx hy hz) hu
    (by rw [show PyData.eqv (.list [.str x, .str y, .str z]) (.list [.str x, .str y, .str z]) = true by simp [PyData.eqv, PyData.eqvAll]]; exact h)
end
section
theorem law2_rows2 : True := by
  k_with "compareOp NotEq ref ref" => (k_here; (with_reducible show wpAny _ _ (compareOp CmpOp.NotEq (Value.ref _) (Value.ref _)) _ _ _); (k_dflt (first | (refine' ne_tup_same ?qN ?qa ?qb ?qx ?qu ?_; (case qN => k_asm); (case qa => k_mem); (case qb => k_mem); (case qx => decide +kernel); (case qu => ke_room)) | (refine' ne_lst_same ?qN ?qa ?qb ?qx ?qy ?qz ?qu ?_; (case qN => k_asm); (case qa => k_mem); (case qb => k_mem); (case qx => decide +kernel); (case qy => decide +kernel); (case qz => decide +kernel); (case qu => ke_room)))))
  trivial
theorem law2_rows3 : True := by
  k_with "subscriptTail" => (k_here; (with_reducible show wpAny _ _ (subscriptTail _ _ (Value.ref _) (Value.int _ _)) _ _ _); (k_dflt (refine' lst_err ?k1 ?k2 ?k3 ?kE ?k6 ?_; (case k1 => k_asm); (case k2 => exact List.Mem.head _); (case k3 => assumption); (case kE => with_reducible assumption); (case k6 => with_unfolding_all rfl))); intro t')
  trivial
theorem law2_rows4 : True := by
  k_with "compareOp NotEq str str" => (k_here; first | (with_reducible refine' ne_same ?_) | ((with_reducible refine' ne_no ?hE ?_); (case hE => with_reducible assumption)))
  trivial
theorem law2_rows5 : True := by
  k_with "compareOp Eq int int" => (k_here; first | ((with_reducible refine' eqi_yes ?hE ?_); (case hE => with_reducible assumption)) | ((with_reducible refine' eqi_no ?hE ?_); (case hE => with_reducible assumption)))
  trivial
theorem law2_rows6 : True := by
  k_with "call builtin:sorted" => (k_here; (with_reducible show wpAny _ _ (call (Value.builtin "sorted") [Value.str _ _]) _ _ _); (refine' sorted_q ?h1 ?h2 ?h3 ?h4 ?h5 ?_; (case h1 => assumption); (case h2 => exact ho.len); (case h3 => exact rfl); (case h4 => k_asm); (case h5 => k_asm)); intro D' h' k' t1' t2' t3' e' F' N' l1; (try k_lt l1); (try k_sweep); (try dsimp only); (try k_fold))
  trivial
theorem law2_rows7 : True := by
  k_with "call ref" => (k_here; (with_reducible show wpAny _ _ (call (Value.ref 119) _) _ _ _); (k_dflt (refine' Ct.use (once_spec _ _ _ _ ho) ?k1 ?k2 ?k3 ?k4 ?k5 ?kK ?kd ?ku ?_; walk_at "ct_use")); intro r' tl' h' tk' F' N' l1 hP'; obtain ⟨e1', e2'⟩ := hP'; subst e1' e2'; (simp only [List.nil_append] at N'); (try k_sweep); (try dsimp only); (try k_fold))
  trivial
theorem law2_rows8 : True := by
  k_with "call builtin:list.append" => (refine Hold.un ?_)
  trivial
theorem law2_rows9 : True := by
  k_with "compareOp Eq str str" => (k_here; (with_reducible refine' eq_no ?hE ?_); (case hE => with_reducible assumption))
  trivial
theorem law2_rows10 : True := by
  k_with "mem_up" => repeat (first | with_reducible exact List.Mem.head _ | refine List.Mem.tail _ ?_)
  trivial
theorem law2_rows11 : True := by
  k_with "call ref" => (k_here; (with_reducible show wpAny _ _ (call (Value.ref 35) _) _ _ _); (k_dflt (first | refine' Ct.use (s_hsv1 hf _ _ _ _ _) ?k1 ?k2 ?k3 ?k4 ?k5 ?kK ?kd ?ku ?_ | refine' Ct.use (s_hsv2 hf _ _ _ _ _) ?k1 ?k2 ?k3 ?k4 ?k5 ?kK ?kd ?ku ?_); walk_at "ct_use"); intro r' tl' h' tk' F' N' l1 hP'; obtain ⟨D', t4', t5', t6', e1', e2'⟩ := hP'; subst e1' e2'; replace l1 := lt_tl1 l1; (try k_lt l1); (simp only [List.cons_append, List.nil_append] at N'); (try k_sweep); (try dsimp only); (try k_fold))
  trivial
theorem law2_rows12 : True := by
  k_with "call ref" => (k_here; (with_reducible show wpAny _ _ (call (Value.ref 140) _) _ _ _); (k_dflt (first | (refine' Ct.use (s_read1 hf _ _ _ _ _ _ ?pm) ?k1 ?k2 ?k3 ?k4 ?k5 ?kK ?kd ?ku ?_; walk_at "ct_use"; (case pm => walk_at "mem_up")) | (refine' Ct.use (s_read2 hf _ _ _ _ _ _ ?pm) ?k1 ?k2 ?k3 ?k4 ?k5 ?kK ?kd ?ku ?_; walk_at "ct_use"; (case pm => walk_at "mem_up")))); intro r' tl' h' tk' F' N' l1 hP'; obtain ⟨D', t4', t5', t6', e1', e2'⟩ := hP'; subst e1' e2'; replace l1 := lt_tl1 l1; (try k_lt l1); (simp only [List.cons_append, List.nil_append] at N'); (try k_sweep); (try dsimp only); (try k_fold))
  trivial
theorem law2_rows13 : True := by
  k_with "call ref" => (k_here; (with_reducible show wpAny _ _ (call (Value.ref 147) _) _ _ _); (k_dflt (first | refine' Ct.use (s_due1 hf _ _ _ _ _) ?k1 ?k2 ?k3 ?k4 ?k5 ?kK ?kd ?ku ?_ | refine' Ct.use (s_due2 hf _ _ _ _ _) ?k1 ?k2 ?k3 ?k4 ?k5 ?kK ?kd ?ku ?_); walk_at "ct_use"); intro r' tl' h' tk' F' N' l1 hP'; obtain ⟨D', t4', t5', t6', e1', e2'⟩ := hP'; subst e1' e2'; replace l1 := lt_tl1 l1; (try k_lt l1); (simp only [List.cons_append, List.nil_append] at N'); (try k_sweep); (try dsimp only); (try k_fold))
  trivial
theorem law2_rows14 : True := by
  k_with "call ref" => (k_here; (with_reducible show wpAny _ _ (call (Value.ref 98) _) _ _ _); (k_dflt (refine' Ct.use (s_name hf _ _ _ _ _ _ _ _ ?pm) ?k1 ?k2 ?k3 ?k4 ?k5 ?kK ?kd ?ku ?_; walk_at "ct_use"; (case pm => walk_at "mem_up"))); intro r' tl' h' tk' F' N' l1 hP'; obtain ⟨t4', e1', e2'⟩ := hP'; subst e1' e2'; (simp only [List.nil_append] at N'); (try k_sweep); (try dsimp only); (try k_fold))
  trivial
theorem law2_rows15 : True := by
  k_with "call ref" => (k_here; (with_reducible show wpAny _ _ (call (Value.ref 105) _) _ _ _); (k_dflt (refine' Ct.use (s_port hf _ _ _ _ _ _ _ _ _ ?pm) ?k1 ?k2 ?k3 ?k4 ?k5 ?kK ?kd ?ku ?_; walk_at "ct_use"; (case pm => walk_at "mem_up"))); intro r' tl' h' tk' F' N' l1 hP'; obtain ⟨t4', e1', e2'⟩ := hP'; subst e1' e2'; (simp only [List.nil_append] at N'); (try k_sweep); (try dsimp only); (try k_fold))
  trivial
theorem law2_rows16 : True := by
  k_with "binaryOp Div int int" => (k_here; (first | (refine' div_nat (n := 8 * turn_spec_k + turn_spec_f) (d := 48) rfl ?e1 ?e2 ?e3 ?e4 ?_; (case e1 => omega); (case e2 => omega)) | (refine' div_nat (n := 8 * turn_spec_k + 8 - turn_spec_f) (d := 48) rfl ?e1 ?e2 ?e3 ?e4 ?_; (case e1 => omega); (case e2 => omega)) | (refine' div_nat (n := turn_spec_c) (d := 4) rfl ?e1 ?e2 ?e3 ?e4 ?_; (case e1 => omega); (case e2 => omega)) | (refine' div_nat (n := turn_spec_wv) (d := 16) rfl ?e1 ?e2 ?e3 ?e4 ?_; (case e1 => omega); (case e2 => omega))); (case e3 => decide); (case e4 => omega); intro t' k')
  trivial
def turn_spec_says (w : World) (k : Nat) (f : Nat) (c : Nat) (wv : Nat) (kind : Nat) (mark : Nat) (tail : Nat) (X1 : T3) (X2 : T3) (Y1 : C3) (Y2 : C3) (x : Str) (y : Str) (mean : ExcName → Option Value) (mg : Str → Option Value) (mb : Str → Option Value) (dp : Nat) (un : Nat) (gd : Option (List Code)) (cn : Str) (ccd : Value) (A₀ : Around) (h₀ : Heap) (L : Addr) (m : Str → Option Value) (s : Shared) (h : Heap) (tk : Nat) (cV : Addr) (cH : Addr) (cT : Addr) (Dv : Addr) (Dc : Addr) (I : Addr) (av : Addr) (oV : Obj) (oI : Obj) (av' : Nat → Option Value) (vr : List Value) (cvs : List Value) (n1 : Nat) (n2 : Nat) (rest : Led) (t1 : Tok) (t2 : Tok) (t3 : Tok) (t4 : Tok) (t5 : Tok) (t6 : Tok) (t7 : Tok) : Prop := ∀ (z : TR), (TF k f c wv kind mark tail X1 X2 Y1 Y2 x y z) → (TOut k c wv kind z) → (Below A₀ h₀ [] h₀) → ((hd.heap_1 w.params).In h₀) → (Top hd.view_1 (looseW hd.view_1 []) mean mg mb h₀) → (dp + 12 < recursionLimit) → (un + 200 < cLine) → (oV.data = .cell (some (.ref Dv))) → (vr.length ≤ 100) → (cvs.length ≤ 100) → (Fr h₀ L h (lawM (fun x => if x = Str.ofString "cyclic" then some (.ref Dc) else m x) av')) → (News h₀ L h ((I, oI) :: (av, tupO [.int k t1, .int f t2, .int c t3, .int wv t4, .int kind t5, .int mark t6, .int tail t7]) :: (cV, oV) :: (Dv, listOf vr.toArray n1) :: (Dc, listOf cvs.toArray n2) :: rest)) → (Dv ≠ Dc) → (Dv ≠ I) → (Dc ≠ I) → (∀ p ∈ (cV, oV) :: rest, p.1 ≠ Dv ∧ p.1 ≠ Dc ∧ p.1 ≠ I) → wpAny (model PySem.Challenge.pw_rs0085_01 w) (ktrTop dp un gd cn (lawScope w) L 152 ccd [(Str.ofString "there", cT), (Str.ofString "here", cH), (Str.ofString "votes", cV)] []) (PySem.assign (lawTarget w) (envX cn (lawScope w) L 152 ccd [(Str.ofString "there", cT), (Str.ofString "here", cH), (Str.ofString "votes", cV)]) (.ref av))
      (fun _ s₂ => wpC (model PySem.Challenge.pw_rs0085_01 w) (ktrTop dp un gd cn (lawScope w) L 152 ccd [(Str.ofString "there", cT), (Str.ofString "here", cH), (Str.ofString "votes", cV)] []) (execs (lawBody w) (envX cn (lawScope w) L 152 ccd [(Str.ofString "there", cT), (Str.ofString "here", cH), (Str.ofString "votes", cV)]))
        (TurnOk h₀ L Dv Dc I oI vr cvs rest (fun x => if x = Str.ofString "cyclic" then some (.ref Dc) else m x) s) NoE s₂) NoE { s with heap := h, toks := tk }
noncomputable def turn_spec_bad : World × Nat × Nat × Nat × Nat × Nat × Nat × Nat × T3 × T3 × C3 × C3 × Str × Str × (ExcName → Option Value) × (Str → Option Value) × (Str → Option Value) × Nat × Nat × (Option (List Code)) × Str × Value × Around × Heap × Addr × (Str → Option Value) × Shared × Heap × Nat × Addr × Addr × Addr × Addr × Addr × Addr × Addr × Obj × Obj × (Nat → Option Value) × (List Value) × (List Value) × Nat × Nat × Led × Tok × Tok × Tok × Tok × Tok × Tok × Tok := Classical.choose (ex_eps (dW, default, default, default, default, default, default, default, ⟨0, 0, 0⟩, ⟨0, 0, 0⟩, ⟨0, 0, 0⟩, ⟨0, 0, 0⟩, default, default, default, default, default, default, default, default, default, default, dA, default, default, default, dS, default, default, default, default, default, default, default, default, default, default, default, default, default, default, default, default, default, default, default, default, default, default, default, default) (fun v : World × Nat × Nat × Nat × Nat × Nat × Nat × Nat × T3 × T3 × C3 × C3 × Str × Str × (ExcName → Option Value) × (Str → Option Value) × (Str → Option Value) × Nat × Nat × (Option (List Code)) × Str × Value × Around × Heap × Addr × (Str → Option Value) × Shared × Heap × Nat × Addr × Addr × Addr × Addr × Addr × Addr × Addr × Obj × Obj × (Nat → Option Value) × (List Value) × (List Value) × Nat × Nat × Led × Tok × Tok × Tok × Tok × Tok × Tok × Tok => turn_spec_says v.1 v.2.1 v.2.2.1 v.2.2.2.1 v.2.2.2.2.1 v.2.2.2.2.2.1 v.2.2.2.2.2.2.1 v.2.2.2.2.2.2.2.1 v.2.2.2.2.2.2.2.2.1 v.2.2.2.2.2.2.2.2.2.1 v.2.2.2.2.2.2.2.2.2.2.1 v.2.2.2.2.2.2.2.2.2.2.2.1 v.2.2.2.2.2.2.2.2.2.2.2.2.1 v.2.2.2.2.2.2.2.2.2.2.2.2.2.1 v.2.2.2.2.2.2.2.2.2.2.2.2.2.2.1 v.2.2.2.2.2.2.2.2.2.2.2.2.2.2.2.1 v.2.2.2.2.2.2.2.2.2.2.2.2.2.2.2.2.1 v.2.2.2.2.2.2.2.2.2.2.2.2.2.2.2.2.2.1 v.2.2.2.2.2.2.2.2.2.2.2.2.2.2.2.2.2.2.1 v.2.2.2.2.2.2.2.2.2.2.2.2.2.2.2.2.2.2.2.1 v.2.2.2.2.2.2.2.2.2.2.2.2.2.2.2.2.2.2.2.2.1 v.2.2.2.2.2.2.2.2.2.2.2.2.2.2.2.2.2.2.2.2.2.1 v.2.2.2.2.2.2.2.2.2.2.2.2.2.2.2.2.2.2.2.2.2.2.1 v.2.2.2.2.2.2.2.2.2.2.2.2.2.2.2.2.2.2.2.2.2.2.2.1 v.2.2.2.2.2.2.2.2.2.2.2.2.2.2.2.2.2.2.2.2.2.2.2.2.1 v.2.2.2.2.2.2.2.2.2.2.2.2.2.2.2.2.2.2.2.2.2.2.2.2.2.1 v.2.2.2.2.2.2.2.2.2.2.2.2.2.2.2.2.2.2.2.2.2.2.2.2.2.2.1 v.2.2.2.2.2.2.2.2.2.2.2.2.2.2.2.2.2.2.2.2.2.2.2.2.2.2.2.1 v.2.2.2.2.2.2.2.2.2.2.2.2.2.2.2.2.2.2.2.2.2.2.2.2.2.2.2.2.1 v.2.2.2.2.2.2.2.2.2.2.2.2.2.2.2.2.2.2.2.2.2.2.2.2.2.2.2.2.2.1 v.2.2.2.2.2.2.2.2.2.2.2.2.2.2.2.2.2.2.2.2.2.2.2.2.2.2.2.2.2.2.1 v.2.2.2.2.2.2.2.2.2.2.2.2.2.2.2.2.2.2.2.2.2.2.2.2.2.2.2.2.2.2.2.1 v.2.2.2.2.2.2.2.2.2.2.2.2.2.2.2.2.2.2.2.2.2.2.2.2.2.2.2.2.2.2.2.2.1 v.2.2.2.2.2.2.2.2.2.2.2.2.2.2.2.2.2.2.2.2.2.2.2.2.2.2.2.2.2.2.2.2.2.1 v.2.2.2.2.2.2.2.2.2.2.2.2.2.2.2.2.2.2.2.2.2.2.2.2.2.2.2.2.2.2.2.2.2.2.1 v.2.2.2.2.2.2.2.2.2.2.2.2.2.2.2.2.2.2.2.2.2.2.2.2.2.2.2.2.2.2.2.2.2.2.2.1 v.2.2.2.2.2.2.2.2.2.2.2.2.2.2.2.2.2.2.2.2.2.2.2.2.2.2.2.2.2.2.2.2.2.2.2.2.1 v.2.2.2.2.2.2.2.2.2.2.2.2.2.2.2.2.2.2.2.2.2.2.2.2.2.2.2.2.2.2.2.2.2.2.2.2.2.1 v.2.2.2.2.2.2.2.2.2.2.2.2.2.2.2.2.2.2.2.2.2.2.2.2.2.2.2.2.2.2.2.2.2.2.2.2.2.2.1 v.2.2.2.2.2.2.2.2.2.2.2.2.2.2.2.2.2.2.2.2.2.2.2.2.2.2.2.2.2.2.2.2.2.2.2.2.2.2.2.1 v.2.2.2.2.2.2.2.2.2.2.2.2.2.2.2.2.2.2.2.2.2.2.2.2.2.2.2.2.2.2.2.2.2.2.2.2.2.2.2.2.1 v.2.2.2.2.2.2.2.2.2.2.2.2.2.2.2.2.2.2.2.2.2.2.2.2.2.2.2.2.2.2.2.2.2.2.2.2.2.2.2.2.2.1 v.2.2.2.2.2.2.2.2.2.2.2.2.2.2.2.2.2.2.2.2.2.2.2.2.2.2.2.2.2.2.2.2.2.2.2.2.2.2.2.2.2.2.1 v.2.2.2.2.2.2.2.2.2.2.2.2.2.2.2.2.2.2.2.2.2.2.2.2.2.2.2.2.2.2.2.2.2.2.2.2.2.2.2.2.2.2.2.1 v.2.2.2.2.2.2.2.2.2.2.2.2.2.2.2.2.2.2.2.2.2.2.2.2.2.2.2.2.2.2.2.2.2.2.2.2.2.2.2.2.2.2.2.2.1 v.2.2.2.2.2.2.2.2.2.2.2.2.2.2.2.2.2.2.2.2.2.2.2.2.2.2.2.2.2.2.2.2.2.2.2.2.2.2.2.2.2.2.2.2.2.1 v.2.2.2.2.2.2.2.2.2.2.2.2.2.2.2.2.2.2.2.2.2.2.2.2.2.2.2.2.2.2.2.2.2.2.2.2.2.2.2.2.2.2.2.2.2.2.1 v.2.2.2.2.2.2.2.2.2.2.2.2.2.2.2.2.2.2.2.2.2.2.2.2.2.2.2.2.2.2.2.2.2.2.2.2.2.2.2.2.2.2.2.2.2.2.2.1 v.2.2.2.2.2.2.2.2.2.2.2.2.2.2.2.2.2.2.2.2.2.2.2.2.2.2.2.2.2.2.2.2.2.2.2.2.2.2.2.2.2.2.2.2.2.2.2.2.1 v.2.2.2.2.2.2.2.2.2.2.2.2.2.2.2.2.2.2.2.2.2.2.2.2.2.2.2.2.2.2.2.2.2.2.2.2.2.2.2.2.2.2.2.2.2.2.2.2.2.1 v.2.2.2.2.2.2.2.2.2.2.2.2.2.2.2.2.2.2.2.2.2.2.2.2.2.2.2.2.2.2.2.2.2.2.2.2.2.2.2.2.2.2.2.2.2.2.2.2.2.2))
noncomputable def turn_spec_w : World := turn_spec_bad.1
noncomputable def turn_spec_k : Nat := turn_spec_bad.2.1
noncomputable def turn_spec_f : Nat := turn_spec_bad.2.2.1
noncomputable def turn_spec_c : Nat := turn_spec_bad.2.2.2.1
noncomputable def turn_spec_wv : Nat := turn_spec_bad.2.2.2.2.1
noncomputable def turn_spec_kind : Nat := turn_spec_bad.2.2.2.2.2.1
noncomputable def turn_spec_mark : Nat := turn_spec_bad.2.2.2.2.2.2.1
noncomputable def turn_spec_tail : Nat := turn_spec_bad.2.2.2.2.2.2.2.1
noncomputable def turn_spec_X1 : T3 := turn_spec_bad.2.2.2.2.2.2.2.2.1
noncomputable def turn_spec_X2 : T3 := turn_spec_bad.2.2.2.2.2.2.2.2.2.1
noncomputable def turn_spec_Y1 : C3 := turn_spec_bad.2.2.2.2.2.2.2.2.2.2.1
noncomputable def turn_spec_Y2 : C3 := turn_spec_bad.2.2.2.2.2.2.2.2.2.2.2.1
noncomputable def turn_spec_x : Str := turn_spec_bad.2.2.2.2.2.2.2.2.2.2.2.2.1
noncomputable def turn_spec_y : Str := turn_spec_bad.2.2.2.2.2.2.2.2.2.2.2.2.2.1
noncomputable def turn_spec_mean : ExcName → Option Value := turn_spec_bad.2.2.2.2.2.2.2.2.2.2.2.2.2.2.1
noncomputable def turn_spec_mg : Str → Option Value := turn_spec_bad.2.2.2.2.2.2.2.2.2.2.2.2.2.2.2.1
noncomputable def turn_spec_mb : Str → Option Value := turn_spec_bad.2.2.2.2.2.2.2.2.2.2.2.2.2.2.2.2.1
noncomputable def turn_spec_dp : Nat := turn_spec_bad.2.2.2.2.2.2.2.2.2.2.2.2.2.2.2.2.2.1
noncomputable def turn_spec_un : Nat := turn_spec_bad.2.2.2.2.2.2.2.2.2.2.2.2.2.2.2.2.2.2.1
noncomputable def turn_spec_gd : Option (List Code) := turn_spec_bad.2.2.2.2.2.2.2.2.2.2.2.2.2.2.2.2.2.2.2.1
noncomputable def turn_spec_cn : Str := turn_spec_bad.2.2.2.2.2.2.2.2.2.2.2.2.2.2.2.2.2.2.2.2.1
noncomputable def turn_spec_ccd : Value := turn_spec_bad.2.2.2.2.2.2.2.2.2.2.2.2.2.2.2.2.2.2.2.2.2.1
noncomputable def turn_spec_A₀ : Around := turn_spec_bad.2.2.2.2.2.2.2.2.2.2.2.2.2.2.2.2.2.2.2.2.2.2.1
noncomputable def turn_spec_h₀ : Heap := turn_spec_bad.2.2.2.2.2.2.2.2.2.2.2.2.2.2.2.2.2.2.2.2.2.2.2.1
noncomputable def turn_spec_L : Addr := turn_spec_bad.2.2.2.2.2.2.2.2.2.2.2.2.2.2.2.2.2.2.2.2.2.2.2.2.1
noncomputable def turn_spec_m : Str → Option Value := turn_spec_bad.2.2.2.2.2.2.2.2.2.2.2.2.2.2.2.2.2.2.2.2.2.2.2.2.2.1
noncomputable def turn_spec_s : Shared := turn_spec_bad.2.2.2.2.2.2.2.2.2.2.2.2.2.2.2.2.2.2.2.2.2.2.2.2.2.2.1
noncomputable def turn_spec_h : Heap := turn_spec_bad.2.2.2.2.2.2.2.2.2.2.2.2.2.2.2.2.2.2.2.2.2.2.2.2.2.2.2.1
noncomputable def turn_spec_tk : Nat := turn_spec_bad.2.2.2.2.2.2.2.2.2.2.2.2.2.2.2.2.2.2.2.2.2.2.2.2.2.2.2.2.1
noncomputable def turn_spec_cV : Addr := turn_spec_bad.2.2.2.2.2.2.2.2.2.2.2.2.2.2.2.2.2.2.2.2.2.2.2.2.2.2.2.2.2.1
noncomputable def turn_spec_cH : Addr := turn_spec_bad.2.2.2.2.2.2.2.2.2.2.2.2.2.2.2.2.2.2.2.2.2.2.2.2.2.2.2.2.2.2.1
noncomputable def turn_spec_cT : Addr := turn_spec_bad.2.2.2.2.2.2.2.2.2.2.2.2.2.2.2.2.2.2.2.2.2.2.2.2.2.2.2.2.2.2.2.1
noncomputable def turn_spec_Dv : Addr := turn_spec_bad.2.2.2.2.2.2.2.2.2.2.2.2.2.2.2.2.2.2.2.2.2.2.2.2.2.2.2.2.2.2.2.2.1
noncomputable def turn_spec_Dc : Addr := turn_spec_bad.2.2.2.2.2.2.2.2.2.2.2.2.2.2.2.2.2.2.2.2.2.2.2.2.2.2.2.2.2.2.2.2.2.1
noncomputable def turn_spec_I : Addr := turn_spec_bad.2.2.2.2.2.2.2.2.2.2.2.2.2.2.2.2.2.2.2.2.2.2.2.2.2.2.2.2.2.2.2.2.2.2.1
noncomputable def turn_spec_av : Addr := turn_spec_bad.2.2.2.2.2.2.2.2.2.2.2.2.2.2.2.2.2.2.2.2.2.2.2.2.2.2.2.2.2.2.2.2.2.2.2.1
noncomputable def turn_spec_oV : Obj := turn_spec_bad.2.2.2.2.2.2.2.2.2.2.2.2.2.2.2.2.2.2.2.2.2.2.2.2.2.2.2.2.2.2.2.2.2.2.2.2.1
noncomputable def turn_spec_oI : Obj := turn_spec_bad.2.2.2.2.2.2.2.2.2.2.2.2.2.2.2.2.2.2.2.2.2.2.2.2.2.2.2.2.2.2.2.2.2.2.2.2.2.1
noncomputable def turn_spec_av' : Nat → Option Value := turn_spec_bad.2.2.2.2.2.2.2.2.2.2.2.2.2.2.2.2.2.2.2.2.2.2.2.2.2.2.2.2.2.2.2.2.2.2.2.2.2.2.1
noncomputable def turn_spec_vr : List Value := turn_spec_bad.2.2.2.2.2.2.2.2.2.2.2.2.2.2.2.2.2.2.2.2.2.2.2.2.2.2.2.2.2.2.2.2.2.2.2.2.2.2.2.1
noncomputable def turn_spec_cvs : List Value := turn_spec_bad.2.2.2.2.2.2.2.2.2.2.2.2.2.2.2.2.2.2.2.2.2.2.2.2.2.2.2.2.2.2.2.2.2.2.2.2.2.2.2.2.1
noncomputable def turn_spec_n1 : Nat := turn_spec_bad.2.2.2.2.2.2.2.2.2.2.2.2.2.2.2.2.2.2.2.2.2.2.2.2.2.2.2.2.2.2.2.2.2.2.2.2.2.2.2.2.2.1
noncomputable def turn_spec_n2 : Nat := turn_spec_bad.2.2.2.2.2.2.2.2.2.2.2.2.2.2.2.2.2.2.2.2.2.2.2.2.2.2.2.2.2.2.2.2.2.2.2.2.2.2.2.2.2.2.1
noncomputable def turn_spec_rest : Led := turn_spec_bad.2.2.2.2.2.2.2.2.2.2.2.2.2.2.2.2.2.2.2.2.2.2.2.2.2.2.2.2.2.2.2.2.2.2.2.2.2.2.2.2.2.2.2.1
noncomputable def turn_spec_t1 : Tok := turn_spec_bad.2.2.2.2.2.2.2.2.2.2.2.2.2.2.2.2.2.2.2.2.2.2.2.2.2.2.2.2.2.2.2.2.2.2.2.2.2.2.2.2.2.2.2.2.1
noncomputable def turn_spec_t2 : Tok := turn_spec_bad.2.2.2.2.2.2.2.2.2.2.2.2.2.2.2.2.2.2.2.2.2.2.2.2.2.2.2.2.2.2.2.2.2.2.2.2.2.2.2.2.2.2.2.2.2.1
noncomputable def turn_spec_t3 : Tok := turn_spec_bad.2.2.2.2.2.2.2.2.2.2.2.2.2.2.2.2.2.2.2.2.2.2.2.2.2.2.2.2.2.2.2.2.2.2.2.2.2.2.2.2.2.2.2.2.2.2.1
noncomputable def turn_spec_t4 : Tok := turn_spec_bad.2.2.2.2.2.2.2.2.2.2.2.2.2.2.2.2.2.2.2.2.2.2.2.2.2.2.2.2.2.2.2.2.2.2.2.2.2.2.2.2.2.2.2.2.2.2.2.1
noncomputable def turn_spec_t5 : Tok := turn_spec_bad.2.2.2.2.2.2.2.2.2.2.2.2.2.2.2.2.2.2.2.2.2.2.2.2.2.2.2.2.2.2.2.2.2.2.2.2.2.2.2.2.2.2.2.2.2.2.2.2.1
noncomputable def turn_spec_t6 : Tok := turn_spec_bad.2.2.2.2.2.2.2.2.2.2.2.2.2.2.2.2.2.2.2.2.2.2.2.2.2.2.2.2.2.2.2.2.2.2.2.2.2.2.2.2.2.2.2.2.2.2.2.2.2.1
noncomputable def turn_spec_t7 : Tok := turn_spec_bad.2.2.2.2.2.2.2.2.2.2.2.2.2.2.2.2.2.2.2.2.2.2.2.2.2.2.2.2.2.2.2.2.2.2.2.2.2.2.2.2.2.2.2.2.2.2.2.2.2.2
set_option maxHeartbeats 4000000 in
theorem turn_spec_core : turn_spec_says turn_spec_w turn_spec_k turn_spec_f turn_spec_c turn_spec_wv turn_spec_kind turn_spec_mark turn_spec_tail turn_spec_X1 turn_spec_X2 turn_spec_Y1 turn_spec_Y2 turn_spec_x turn_spec_y turn_spec_mean turn_spec_mg turn_spec_mb turn_spec_dp turn_spec_un turn_spec_gd turn_spec_cn turn_spec_ccd turn_spec_A₀ turn_spec_h₀ turn_spec_L turn_spec_m turn_spec_s turn_spec_h turn_spec_tk turn_spec_cV turn_spec_cH turn_spec_cT turn_spec_Dv turn_spec_Dc turn_spec_I turn_spec_av turn_spec_oV turn_spec_oI turn_spec_av' turn_spec_vr turn_spec_cvs turn_spec_n1 turn_spec_n2 turn_spec_rest turn_spec_t1 turn_spec_t2 turn_spec_t3 turn_spec_t4 turn_spec_t5 turn_spec_t6 turn_spec_t7 := by
  unfold turn_spec_says
  intro z hf hz B X T hdp hun hV hl1 hl2 F N hd1 hd2 hd3 hr
  refine fillIt ?_
  k_fill
  intro _
  have g1 := hf.hk
  have g2 := hf.f1
  have g3 := hf.f7
  have g4 := hf.hc
  have g5 := hf.hw
  have g6 := hf.hkind
  have g7 := hf.hmark
  have g8 := hf.htail
  change wpAny _ _ (PySem.assign (Expr.Tuple (_ :: _) _ _) (envX turn_spec_cn (lawScope turn_spec_w) turn_spec_L 152 turn_spec_ccd _) _) _ _ _
  k_steps
  change wpC _ _ (execs (_ :: _ :: _ :: _ :: _ :: _ :: []) _) _ _ _
  refine wpC.execs_take 3 ?_
  dsimp only [List.take, List.drop]
  k_steps
  dsimp only
  refine wpC.execs_c ?_
  refine wpC.assign ?_ rfl rfl rfl
  refine wpC.call_name ?_
  k_steps
  refine callWithC rfl rfl (Nat.le_of_ble_eq_true rfl) ?_
  k_steps
  · exact isFn_of (by k_asm) (by k_asm) (by k_is)
  refine' Ct0.use (told_spec turn_spec_w _ turn_spec_x turn_spec_y _ _ hf.lx hf.ly) ?k1 ?k2 ?k3 ?k4 ?k5 ?kK ?kd ?ku ?_
  walk_at "ct_use"
  intro r tl h5 tk5 F5 N5 l5 hP
  obtain ⟨D1, D2, t1', t2', t3', t4', z', e1, e2, e3⟩ := hP
  rw [hf.td] at e3
  subst e1 e2 e3
  have lD1 := fun q hq => l5 q hq _ (.tail _ (.head _))
  have lD2 := fun q hq => l5 q hq _ (.head _)
  clear l5
  simp only [List.cons_append, List.nil_append] at N5
  k_lt lD1
  k_lt lD2
  k_steps
  dsimp only
  rcases hz with ⟨nm, host, port, er, he, hz, hb⟩ | ⟨he, hz, h0⟩ | ⟨nm, he, hz, h0, hn, hne, hp, ho⟩
  · subst hz
    dsimp only at *
    refine wpC.of ?_
    k_steps
    rename News _ _ _ _ => N6
    rename Fr _ _ _ _ => F6
    refine TurnOk.skip2 (I := turn_spec_I) (oI := turn_spec_oI) (rest := turn_spec_rest) (vr := turn_spec_vr) (cvs := turn_spec_cvs) (n1 := turn_spec_n1) (n2 := turn_spec_n2) F6 ?_ N6 (by walk_at "mem_up") (by walk_at "mem_up") (by walk_at "mem_up") (by walk_at "led_sub")
    intro turn_spec_x e1 e2 e3 e4 e5 e6 e7 e8 e9 e10 e11 e12
    simp only [lawM, if_neg e1, if_neg e2, if_neg e3, if_neg e4, if_neg e5, if_neg e6, if_neg e7, if_neg e8, if_neg e9, if_neg e10, if_neg e11, if_neg e12]
  all_goals subst hz
  all_goals dsimp only at *
  all_goals refine wpC.of ?_
  all_goals k_steps
  all_goals unfold Hold
  all_goals rename News _ _ _ _ => N6
  all_goals rename Fr _ _ _ _ => F6
  all_goals (refine' app_vote (X1 := turn_spec_X1) (X2 := turn_spec_X2) (I := turn_spec_I) (oI := turn_spec_oI) (rest := turn_spec_rest) (vr := turn_spec_vr) (cvs := turn_spec_cvs) (n1 := turn_spec_n1) (n2 := turn_spec_n2) (Dc := turn_spec_Dc) F6 N6 ?hT ?hO ?hW ?hI ?hV ?hC ?hr ?l1 ?l2 ?l3 hd2 hd1 ?dr ?hz ?_; (case hT => exact List.Mem.head _); (case hO => walk_at "mem_up"); (case hW => walk_at "mem_up"); (case hI => walk_at "mem_up"); (case hV => walk_at "mem_up"); (case hC => walk_at "mem_up"); (case hr => (walk_at "led_sub")); (case l1 => (show @LT.lt Nat _ _ _; omega)); (case l2 => (show @LT.lt Nat _ _ _; omega)); (case l3 => (show @LT.lt Nat _ _ _; omega)); (case dr => exact fun p hp => (hr p (.tail _ hp)).1); (case hz => omega))
  all_goals clear F6 N6
  all_goals intro h7 F7 N7
  all_goals k_steps
  all_goals unfold Hold
  all_goals rename News _ _ _ _ => N8
  all_goals rename Fr _ _ _ _ => F8
  all_goals (refine' app_cyc F8 N8 ?l1 ?l2 ?l3 hd3 hd1 ?dr ?hz ?_; (case l1 => (show @LT.lt Nat _ _ _; omega)); (case l2 => (show @LT.lt Nat _ _ _; omega)); (case l3 => (show @LT.lt Nat _ _ _; omega)); (case dr => exact fun p hp => (hr p (.tail _ hp)).2.1); (case hz => omega))
  all_goals clear F8 N8
  all_goals intro h9 F9 N9
  all_goals k_steps
  all_goals rename News _ _ _ _ => N10
  all_goals rename Fr _ _ _ _ => F10
  all_goals (refine TurnOk.vote2 F10 ?_ N10 ?_ (by show @LT.lt Nat _ _ _; omega) (by show @LT.lt Nat _ _ _; omega) (by show @LT.lt Nat _ _ _; omega) (by show @LT.lt Nat _ _ _; omega) (by show @LT.lt Nat _ _ _; omega) (by show @LT.lt Nat _ _ _; omega) (by show @LT.lt Nat _ _ _; omega) (by show @LT.lt Nat _ _ _; omega) (by show @LT.lt Nat _ _ _; omega))
  · intro turn_spec_x e1 e2 e3 e4 e5 e6 e7 e8 e9 e10 e11 e12
    simp only [lawM, if_neg e1, if_neg e2, if_neg e3, if_neg e4, if_neg e5, if_neg e6, if_neg e7, if_neg e8, if_neg e9, if_neg e10, if_neg e11, if_neg e12]
  · exact voteOk_grey hf rfl rfl rfl rfl (by assumption) rfl
  · intro turn_spec_x e1 e2 e3 e4 e5 e6 e7 e8 e9 e10 e11 e12
    simp only [lawM, if_neg e1, if_neg e2, if_neg e3, if_neg e4, if_neg e5, if_neg e6, if_neg e7, if_neg e8, if_neg e9, if_neg e10, if_neg e11, if_neg e12]
  · exact voteOk_col hf rfl rfl (by assumption) rfl (by first | assumption | exact Int.mul_ne_zero (by assumption) (by assumption)) rfl
theorem turn_spec (w : World) (k f c wv kind mark tail : Nat) (X1 X2 : T3) (Y1 Y2 : C3) (x y : Str) (z : TR) (hf : TF k f c wv kind mark tail X1 X2 Y1 Y2 x y z) (hz : TOut k c wv kind z)
    (mean : ExcName → Option Value) (mg mb : Str → Option Value) (dp un : Nat) (gd : Option (List Code)) (cn : Str) (ccd : Value) (A₀ : Around) (h₀ : Heap) (L : Addr) (m : Str → Option Value) (s : Shared) (h : Heap) (tk : Nat)
    (cV cH cT Dv Dc I av : Addr) (oV oI : Obj) (av' : Nat → Option Value) (vr cvs : List Value) (n1 n2 : Nat) (rest : Led) (t1 t2 t3 t4 t5 t6 t7 : Tok)
    (B : Below A₀ h₀ [] h₀) (X : (hd.heap_1 w.params).In h₀) (T : Top hd.view_1 (looseW hd.view_1 []) mean mg mb h₀)
    (hdp : dp + 12 < recursionLimit) (hun : un + 200 < cLine) (hV : oV.data = .cell (some (.ref Dv))) (hl1 : vr.length ≤ 100) (hl2 : cvs.length ≤ 100)
    (F : Fr h₀ L h (lawM (fun x => if x = Str.ofString "cyclic" then some (.ref Dc) else m x) av'))
    (N : News h₀ L h ((I, oI) :: (av, tupO [.int k t1, .int f t2, .int c t3, .int wv t4, .int kind t5, .int mark t6, .int tail t7]) :: (cV, oV) :: (Dv, listOf vr.toArray n1) :: (Dc, listOf cvs.toArray n2) :: rest))
    (hd1 : Dv ≠ Dc) (hd2 : Dv ≠ I) (hd3 : Dc ≠ I) (hr : ∀ p ∈ (cV, oV) :: rest, p.1 ≠ Dv ∧ p.1 ≠ Dc ∧ p.1 ≠ I) :
    wpAny (model PySem.Challenge.pw_rs0085_01 w) (ktrTop dp un gd cn (lawScope w) L 152 ccd [(Str.ofString "there", cT), (Str.ofString "here", cH), (Str.ofString "votes", cV)] []) (PySem.assign (lawTarget w) (envX cn (lawScope w) L 152 ccd [(Str.ofString "there", cT), (Str.ofString "here", cH), (Str.ofString "votes", cV)]) (.ref av))
      (fun _ s₂ => wpC (model PySem.Challenge.pw_rs0085_01 w) (ktrTop dp un gd cn (lawScope w) L 152 ccd [(Str.ofString "there", cT), (Str.ofString "here", cH), (Str.ofString "votes", cV)] []) (execs (lawBody w) (envX cn (lawScope w) L 152 ccd [(Str.ofString "there", cT), (Str.ofString "here", cH), (Str.ofString "votes", cV)]))
        (TurnOk h₀ L Dv Dc I oI vr cvs rest (fun x => if x = Str.ofString "cyclic" then some (.ref Dc) else m x) s) NoE s₂) NoE { s with heap := h, toks := tk } :=
  (Classical.choose_spec (ex_eps (dW, default, default, default, default, default, default, default, ⟨0, 0, 0⟩, ⟨0, 0, 0⟩, ⟨0, 0, 0⟩, ⟨0, 0, 0⟩, default, default, default, default, default, default, default, default, default, default, dA, default, default, default, dS, default, default, default, default, default, default, default, default, default, default, default, default, default, default, default, default, default, default, default, default, default, default, default, default) (fun v : World × Nat × Nat × Nat × Nat × Nat × Nat × Nat × T3 × T3 × C3 × C3 × Str × Str × (ExcName → Option Value) × (Str → Option Value) × (Str → Option Value) × Nat × Nat × (Option (List Code)) × Str × Value × Around × Heap × Addr × (Str → Option Value) × Shared × Heap × Nat × Addr × Addr × Addr × Addr × Addr × Addr × Addr × Obj × Obj × (Nat → Option Value) × (List Value) × (List Value) × Nat × Nat × Led × Tok × Tok × Tok × Tok × Tok × Tok × Tok => turn_spec_says v.1 v.2.1 v.2.2.1 v.2.2.2.1 v.2.2.2.2.1 v.2.2.2.2.2.1 v.2.2.2.2.2.2.1 v.2.2.2.2.2.2.2.1 v.2.2.2.2.2.2.2.2.1 v.2.2.2.2.2.2.2.2.2.1 v.2.2.2.2.2.2.2.2.2.2.1 v.2.2.2.2.2.2.2.2.2.2.2.1 v.2.2.2.2.2.2.2.2.2.2.2.2.1 v.2.2.2.2.2.2.2.2.2.2.2.2.2.1 v.2.2.2.2.2.2.2.2.2.2.2.2.2.2.1 v.2.2.2.2.2.2.2.2.2.2.2.2.2.2.2.1 v.2.2.2.2.2.2.2.2.2.2.2.2.2.2.2.2.1 v.2.2.2.2.2.2.2.2.2.2.2.2.2.2.2.2.2.1 v.2.2.2.2.2.2.2.2.2.2.2.2.2.2.2.2.2.2.1 v.2.2.2.2.2.2.2.2.2.2.2.2.2.2.2.2.2.2.2.1 v.2.2.2.2.2.2.2.2.2.2.2.2.2.2.2.2.2.2.2.2.1 v.2.2.2.2.2.2.2.2.2.2.2.2.2.2.2.2.2.2.2.2.2.1 v.2.2.2.2.2.2.2.2.2.2.2.2.2.2.2.2.2.2.2.2.2.2.1 v.2.2.2.2.2.2.2.2.2.2.2.2.2.2.2.2.2.2.2.2.2.2.2.1 v.2.2.2.2.2.2.2.2.2.2.2.2.2.2.2.2.2.2.2.2.2.2.2.2.1 v.2.2.2.2.2.2.2.2.2.2.2.2.2.2.2.2.2.2.2.2.2.2.2.2.2.1 v.2.2.2.2.2.2.2.2.2.2.2.2.2.2.2.2.2.2.2.2.2.2.2.2.2.2.1 v.2.2.2.2.2.2.2.2.2.2.2.2.2.2.2.2.2.2.2.2.2.2.2.2.2.2.2.1 v.2.2.2.2.2.2.2.2.2.2.2.2.2.2.2.2.2.2.2.2.2.2.2.2.2.2.2.2.1 v.2.2.2.2.2.2.2.2.2.2.2.2.2.2.2.2.2.2.2.2.2.2.2.2.2.2.2.2.2.1 v.2.2.2.2.2.2.2.2.2.2.2.2.2.2.2.2.2.2.2.2.2.2.2.2.2.2.2.2.2.2.1 v.2.2.2.2.2.2.2.2.2.2.2.2.2.2.2.2.2.2.2.2.2.2.2.2.2.2.2.2.2.2.2.1 v.2.2.2.2.2.2.2.2.2.2.2.2.2.2.2.2.2.2.2.2.2.2.2.2.2.2.2.2.2.2.2.2.1 v.2.2.2.2.2.2.2.2.2.2.2.2.2.2.2.2.2.2.2.2.2.2.2.2.2.2.2.2.2.2.2.2.2.1 v.2.2.2.2.2.2.2.2.2.2.2.2.2.2.2.2.2.2.2.2.2.2.2.2.2.2.2.2.2.2.2.2.2.2.1 v.2.2.2.2.2.2.2.2.2.2.2.2.2.2.2.2.2.2.2.2.2.2.2.2.2.2.2.2.2.2.2.2.2.2.2.1 v.2.2.2.2.2.2.2.2.2.2.2.2.2.2.2.2.2.2.2.2.2.2.2.2.2.2.2.2.2.2.2.2.2.2.2.2.1 v.2.2.2.2.2.2.2.2.2.2.2.2.2.2.2.2.2.2.2.2.2.2.2.2.2.2.2.2.2.2.2.2.2.2.2.2.2.1 v.2.2.2.2.2.2.2.2.2.2.2.2.2.2.2.2.2.2.2.2.2.2.2.2.2.2.2.2.2.2.2.2.2.2.2.2.2.2.1 v.2.2.2.2.2.2.2.2.2.2.2.2.2.2.2.2.2.2.2.2.2.2.2.2.2.2.2.2.2.2.2.2.2.2.2.2.2.2.2.1 v.2.2.2.2.2.2.2.2.2.2.2.2.2.2.2.2.2.2.2.2.2.2.2.2.2.2.2.2.2.2.2.2.2.2.2.2.2.2.2.2.1 v.2.2.2.2.2.2.2.2.2.2.2.2.2.2.2.2.2.2.2.2.2.2.2.2.2.2.2.2.2.2.2.2.2.2.2.2.2.2.2.2.2.1 v.2.2.2.2.2.2.2.2.2.2.2.2.2.2.2.2.2.2.2.2.2.2.2.2.2.2.2.2.2.2.2.2.2.2.2.2.2.2.2.2.2.2.1 v.2.2.2.2.2.2.2.2.2.2.2.2.2.2.2.2.2.2.2.2.2.2.2.2.2.2.2.2.2.2.2.2.2.2.2.2.2.2.2.2.2.2.2.1 v.2.2.2.2.2.2.2.2.2.2.2.2.2.2.2.2.2.2.2.2.2.2.2.2.2.2.2.2.2.2.2.2.2.2.2.2.2.2.2.2.2.2.2.2.1 v.2.2.2.2.2.2.2.2.2.2.2.2.2.2.2.2.2.2.2.2.2.2.2.2.2.2.2.2.2.2.2.2.2.2.2.2.2.2.2.2.2.2.2.2.2.1 v.2.2.2.2.2.2.2.2.2.2.2.2.2.2.2.2.2.2.2.2.2.2.2.2.2.2.2.2.2.2.2.2.2.2.2.2.2.2.2.2.2.2.2.2.2.2.1 v.2.2.2.2.2.2.2.2.2.2.2.2.2.2.2.2.2.2.2.2.2.2.2.2.2.2.2.2.2.2.2.2.2.2.2.2.2.2.2.2.2.2.2.2.2.2.2.1 v.2.2.2.2.2.2.2.2.2.2.2.2.2.2.2.2.2.2.2.2.2.2.2.2.2.2.2.2.2.2.2.2.2.2.2.2.2.2.2.2.2.2.2.2.2.2.2.2.1 v.2.2.2.2.2.2.2.2.2.2.2.2.2.2.2.2.2.2.2.2.2.2.2.2.2.2.2.2.2.2.2.2.2.2.2.2.2.2.2.2.2.2.2.2.2.2.2.2.2.1 v.2.2.2.2.2.2.2.2.2.2.2.2.2.2.2.2.2.2.2.2.2.2.2.2.2.2.2.2.2.2.2.2.2.2.2.2.2.2.2.2.2.2.2.2.2.2.2.2.2.2)) turn_spec_core (w, k, f, c, wv, kind, mark, tail, X1, X2, Y1, Y2, x, y, mean, mg, mb, dp, un, gd, cn, ccd, A₀, h₀, L, m, s, h, tk, cV, cH, cT, Dv, Dc, I, av, oV, oI, av', vr, cvs, n1, n2, rest, t1, t2, t3, t4, t5, t6, t7) : turn_spec_says w k f c wv kind mark tail X1 X2 Y1 Y2 x y mean mg mb dp un gd cn ccd A₀ h₀ L m s h tk cV cH cT Dv Dc I av oV oI av' vr cvs n1 n2 rest t1 t2 t3 t4 t5 t6 t7) z hf hz B X T hdp hun hV hl1 hl2 F N hd1 hd2 hd3 hr
end

theorem law3_rows1 : True := by
  k_with_none
  w_top off
  k_with "led_sub" => first | exact fun p hp => hp | (intro p hp; repeat' (first | exact hp | refine List.Mem.tail _ ?_))
  k_with "led_lt" => first | assumption | exact ktn_ltOf (by assumption) | exact lt1 (by assumption) | exact lt2 (by assumption) | exact lt3 (by assumption) | exact lt4 (by assumption)
  k_with "ct_fill" => (refine fillIt ?_; k_fill; intro _; unfold Ct)
  k_with "ct_enter" => (refine wpAny_call ?_; k_dflt cell_enter)
  k_with "ct_use" => ((case k1 => k_asm); (case k2 => k_asm); (case k3 => k_asm); (case k4 => k_asm); (case k5 => k_asm); (case kK => first | exact rfl | assumption); (case kd => ktr_room); (case ku => ktr_units))
  k_with "subscriptTail" => (k_here; (with_reducible show wpAny _ _ (subscriptTail _ _ (Value.ref _) (Value.int _ _)) _ _ _); (k_dflt (refine' tup_item ?k1 ?k2 ?k3 ?k4 ?k5 ?k6 ?_; (case k1 => k_asm); (case k2 => first | assumption | k_mem); (case k3 => decide); (case k4 => decide); (case k5 => exact rfl); (case k6 => with_unfolding_all rfl); k_whole)))
  k_with "call builtin:max" => ((with_reducible show wpAny _ _ (call _ [Value.float _ _, Value.float _ _, Value.float _ _]) _ _ _); (rename News _ _ _ _ => N'); (rename Fr _ _ _ _ => F'); refine max3_K rfl F' N' ?_; clear N'; intro _ _ _ _ _)
  k_with "call builtin:min" => ((with_reducible show wpAny _ _ (call _ [Value.float _ _, Value.float _ _, Value.float _ _]) _ _ _); (rename News _ _ _ _ => N'); (rename Fr _ _ _ _ => F'); refine min3_K rfl F' N' ?_; clear N'; intro _ _ _ _ _)
  k_with "subscriptTail" => (k_here; (with_reducible show wpAny _ _ (subscriptTail _ _ (Value.ref _) (Value.int _ _)) _ _ _); (k_dflt (refine' lst_item3 ?k1 ?k2 ?k3 ?k4 ?k6 ?_ ?_ ?_; (case k1 => k_asm); (case k2 => k_mem); (case k3 => omega); (case k4 => omega); (case k6 => with_unfolding_all rfl); all_goals (k_whole; intro hidx))))
  k_with "str_fit" => first | decide +kernel | (simp only [Str.length_append]; omega)
  k_with "binaryOp Add str str" => (k_here; (with_reducible show wpAny _ _ (binaryOp Operator.Add (Value.str _ _) (Value.str _ _)) _ _ _); (refine' add_m ?ksz ?_; (case ksz => walk_at "str_fit")); intro tx' kx' hx'; (try dsimp only at hx'))
  k_with "call builtin:str.replace" => (k_here; (refine' repl_m ?k1 ?k2 ?k3 ?k4 ?k5 ?k6 ?_; (case k1 => (show (0 : Nat) < _); omega); (case k2 => (show (0 : Nat) < _); omega); (case k3 => (show @Ne Nat _ _); omega); (case k4 => decide +kernel); (case k5 => walk_at "str_fit"); (case k6 => walk_at "str_fit")); intro tx' kx' hx'; (try dsimp only at hx'))
  k_with "subscriptTail" => (k_here; (with_reducible show wpAny _ _ (subscriptTail _ _ (Value.str _ _) (Value.int _ _)) _ _ _); (k_dflt (refine' str_item ?k1 ?k2 ?k3 ?k4 ?k5 ?_; (case k1 => omega); (case k2 => first | omega | exact Int.lt_of_lt_of_le (b := 4) (by omega) (by decide +kernel)); (case k3 => first | omega | decide +kernel); (case k4 => with_unfolding_all rfl); (case k5 => (intro _; with_unfolding_all rfl)))); intro hone')
  k_with "subscriptTail Name Slice str ref" => ((with_reducible rename Fr _ _ _ _ => F'); (with_reducible rename News _ _ _ _ => N'); (first
  | ((with_reducible show wpAny _ _ (subscriptTail _ (Expr.Slice (some _) none none _) _ _) _ _ _); (refine' slice_strN_sn_len (s := ⟨_, _, _, _, _⟩) F' N' ?_ (hsz := ?hsz)); (case hsz => walk_at "str_fit"))
  | ((with_reducible show wpAny _ _ (subscriptTail _ (Expr.Slice none (some _) none _) _ _) _ _ _); (refine' slice_strN_ns_len (s := ⟨_, _, _, _, _⟩) F' N' ?_ (hsz := ?hsz)); (case hsz => walk_at "str_fit"))
  | ((with_reducible show wpAny _ _ (subscriptTail _ (Expr.Slice (some _) (some _) none _) _ _) _ _ _); (refine' slice_strN_ss_len (s := ⟨_, _, _, _, _⟩) F' N' ?_ (hsz := ?hsz)); (case hsz => walk_at "str_fit"))); intro _ _ _ _ _ _)
  k_with "call ref" => (k_here; (with_reducible show wpAny _ _ (call (Value.ref 28) _) _ _ _); (k_dflt (refine' Ct.use (rgb_spec _ _ _ _ _ _ _ _ ?p1 ?p2) ?k1 ?k2 ?k3 ?k4 ?k5 ?kK ?kd ?ku ?_; (case p1 => exact RgbOk.h1 (by assumption)); (case p2 => exact RgbOk.h2 (by assumption)); walk_at "ct_use")); intro r' tl' h' tk' F' N' l1 hP'; obtain ⟨D', c', t4', t5', t6', e1', e2', e3'⟩ := hP'; subst e1' e2' e3'; replace l1 := lt_tl1 l1; (try k_lt l1); (simp only [List.cons_append, List.nil_append] at N'); (try k_sweep); (try dsimp only); (try k_fold))
  k_with "call ref" => (k_here; (with_reducible show wpAny _ _ (call (Value.ref 86) _) _ _ _); (k_dflt (refine' Ct.use (p257_spec _ _ _ _ ?p1 ?p2) ?k1 ?k2 ?k3 ?k4 ?k5 ?kK ?kd ?ku ?_; (case p1 => assumption); (case p2 => assumption); walk_at "ct_use")); intro r' tl' h' tk' F' N' l1 hP'; obtain ⟨z', t4', e1', e2', e3'⟩ := hP'; subst e1' e2' e3'; (simp only [List.nil_append] at N'); (try k_sweep); (try dsimp only); (try k_fold))
  k_with "enterS" => (refine' code_defS ?k1 ?k2 ?k3 ?k4 ?k5 ?XB ?TB ?D ?T0 ?kA ?k6 ?k7 ?k8 ?k9 ?kB ?_ ?cK ?c2 ?c3 ?c4 ?c5; (case kA => exact rfl); (case k2 => k_asm); (case k1 => k_asm); (case XB => assumption); (case TB => assumption); (case D => assumption); (case T0 => first | assumption | exact KtsTurn.refl); (case k3 => k_asm); (case k4 => k_asm); (case k5 => k_asm); (case k6 => k_is); (case k7 => k_is); (case k8 => ktr_room); (case k9 => exact BindsTo.of_eq rfl); (case kB => exact locs rfl); (case cK => first | exact rfl | assumption); (case c2 => exact rfl); (case c3 => exact rfl); (case c4 => exact rfl); (case c5 => decide); k_whole; intro g' L' h' FG' F' N' B' X' T' D'; (try dsimp only); (try k_lift B'); (try k_fold))
  k_with "enterS0" => (refine' enter0X ?k1 ?k2 ?k3 ?k4 ?k5 ?kA ?kF ?cK ?k6 ?k7 ?k8 ?k9 ?kB ?_ ?c2 ?c3 ?c4 ?c5; (case kA => exact rfl); (case kF => exact rfl); (case cK => first | exact rfl | assumption); (case k2 => k_asm); (case k1 => k_asm); (case k3 => k_asm); (case k4 => k_asm); (case k5 => k_asm); (case k6 => k_is); (case k7 => k_is); (case k8 => ktr_room); (case k9 => exact BindsTo.of_eq rfl); (case kB => exact locs rfl); (case c2 => exact rfl); (case c3 => exact rfl); (case c4 => exact rfl); (case c5 => decide); k_whole; intro g' L' h' FG' F' N' B' X' T' D'; (try dsimp only); (try k_lift B'); (try k_fold))
  k_with "call ref" => (k_here; (with_reducible show wpAny _ _ (call (Value.ref 21) _) _ _ _); (k_dflt (refine' Ct.use (em_spec _ _ _ _ _ _ ?p1 ?p2) ?k1 ?k2 ?k3 ?k4 ?k5 ?kK ?kd ?ku ?_; (case p1 => walk_at "em_ok"); (case p2 => walk_at "em_len"); walk_at "ct_use")); intro r' tl' h' tk' F' N' l1 hP'; obtain ⟨e1', b', e2', e3'⟩ := hP'; subst e1' e2'; (simp only [List.nil_append] at N'); (try k_sweep); (try dsimp only); (try k_fold))
  k_with "em_len" => omega
  k_with "em_ok" => assumption
  trivial
/-- the votes with their parts of the cycle -/
inductive VC : List Vt → List Int → Prop
  | nil : VC [] []
  | snoc {vts : List Vt} {cs : List Int} {v : Vt} {cy : Int} : VC vts cs → VoteOk v cy → VC (vts ++ [v]) (cs ++ [cy])
abbrev vrefs (vts : List Vt) : List Value := vts.map fun v => Value.ref v.T
theorem VC.len {vts : List Vt} {cs : List Int} (h : VC vts cs) : vts.length = cs.length := by
  induction h with
  | nil => rfl
  | snoc _ _ ih => simp [ih]
theorem VL.len {acc : Led} {ys : List Int} (h : VL acc ys) : acc.length = ys.length := by
  induction h with
  | nil => rfl
  | snoc _ _ ih => simp [ih]
theorem VL.get {acc : Led} {ys : List Int} (h : VL acc ys) : ∀ {i : Nat} {v : Value}, (refs acc)[i]? = some v → ∃ p y, p ∈ acc ∧ v = .ref p.1 ∧ y ∈ ys ∧ VO p.2 y := by
  induction h with
  | nil => intro i v e; simp at e
  | @snoc acc ys a o y h0 hO ih =>
    intro i v e
    simp only [refs, List.map_append, List.map_cons, List.map_nil] at e
    rcases Nat.lt_or_ge i acc.length with hi | hi
    · rw [List.getElem?_append_left (by simpa using hi)] at e
      obtain ⟨p, y', h1, h2, h3, h4⟩ := ih e
      exact ⟨p, y', List.mem_append_left _ h1, h2, List.mem_append_left _ h3, h4⟩
    · rw [List.getElem?_append_right (by simpa using hi)] at e
      simp only [List.length_map] at e
      cases hj : i - acc.length with
      | zero =>
        rw [hj] at e
        cases e
        exact ⟨(a, o), y, List.mem_append_right _ (.head _), rfl, List.mem_append_right _ (.head _), hO⟩
      | succ j => rw [hj] at e; cases e
theorem intsAre_snoc {vs : List Value} {ns : List Int} (h : IntsAre vs ns) (n : Int) (t : Tok) : IntsAre (vs ++ [.int n t]) (ns ++ [n]) := by
  induction h with
  | nil => exact .cons n t .nil
  | cons n' t' _ ih => exact .cons n' t' ih
section
variable {prog : Program} {w : World} {A : Around} {s : Shared} {R : Result → Shared → Prop} {E : Value → Shared → Prop} {env : Env}
/-- a for whose turns raise nothing -/
theorem codeC.forLoopT {target : Expr} {it : Value} {body : List Stmt} (I : Nat → Shared → Prop)
    (turn : ∀ n s, I n s → wpAny (model prog w) A (pyNext it) (fun r s₁ => match r with
      | none => R (.ok .next) s₁
      | some v => wpAny (model prog w) A (letOwnedTupleGo target it v) (fun _ s₁' => wpAny (model prog w) A (assign target env v) (fun _ s₂ => wpC (model prog w) A (execs body env) (fun f s₃ => match f with
          | .next | .cont => ∃ m, m < n ∧ I m s₃
          | .brk => R (.ok .next) s₃
          | .ret v => R (.ok (.ret v)) s₃) NoE s₂) NoE s₁') NoE s₁) NoE s)
    (n : Nat) (h : I n s) : codeC (model prog w) A (.forLoop target it body [] env) R s := by
  induction n using Nat.strongRecOn generalizing s with
  | ind n ih =>
    refine .of_tree ?_
    show wpC _ A ((forTurn target it body [] env).onRaise (fun x => do noteFrame x env; theTreesLotGoes x)) _ _ s
    refine .onRaise (E := _) (wpC.mono (E' := _) (E := NoE) ?_ (fun _ _ k => k) fun _ _ k => k.elim)
    simp only [forTurn]
    refine .bind (wpAny_standAt (.bind (wpAny_onRaise (wpAny_mono (turn n s h) (fun r s₁ k => ?_) fun _ _ k => k.elim))))
    cases r with
    | none => exact .of (wpAny_pure ⟨rfl, .of (codeAny_block (by rw [execs]; exact wpAny_pure k))⟩)
    | some v =>
      refine .bind (wpAny_mono k (fun _ s₁' k => ?_) fun _ _ k => k)
      refine .bind (wpAny_mono k (fun _ s₂ k => ?_) fun _ _ k => k)
      refine .bindC (k.mono (fun f s₃ k => ?_) fun _ _ k => k)
      cases f with
      | next => obtain ⟨m, hm, hI⟩ := k; exact .of (wpAny_pure ⟨rfl, ih m hm hI⟩)
      | cont => obtain ⟨m, hm, hI⟩ := k; exact .of (wpAny_pure ⟨rfl, ih m hm hI⟩)
      | brk => exact .of (wpAny_pure k)
      | ret v => exact .of (wpAny_pure k)
end
section
variable {prog : Program} {w : World} {A : Around} {E : Value → Shared → Prop} {s : Shared} {env : Env} {g : Heap} {m : Str → Option Value} {news : Led} {D : Addr} {n : Nat} {body : List Stmt} {Q : Flow → Shared → Prop} {vs : List Value}
theorem iterT {elts : List Expr} {tx1} {tpos : Pos} (hh : A.handled = none) (F : Fr g env.locals s.heap m) (N : News g env.locals s.heap news) (hD : (D, listOf vs.toArray n) ∈ news) (hvr : ∀ v ∈ vs, ∃ T, v = Value.ref T)
    (J : Nat → (Str → Option Value) → Led → Prop) (J0 : J 0 m news) (hk : ∀ i m' news', J i m' news' → (D, listOf vs.toArray n) ∈ news')
    (turn : ∀ i v m₁ news₁ I o h tk, vs[i]? = some v → J i m₁ news₁ → Fr g env.locals h m₁ → News g env.locals h ((I, o) :: news₁) → (∀ q ∈ news₁, q.1 ≠ I) →
      wpAny (model prog w) A (assign (.Tuple elts tx1 tpos) env v) (fun _ s₂ => wpC (model prog w) A (execs body env) (TurnEnd g env I Q s o (J (i + 1))) NoE s₂) NoE { s with heap := h, toks := tk })
    (fin : ∀ h tk m' news', J vs.length m' news' → Fr g env.locals h m' → News g env.locals h news' → Q .next { s with heap := h, toks := tk }) :
    wpAny (model prog w) A (pyIter (.ref D)) (fun it s₂ => codeC (model prog w) A (.forLoop (.Tuple elts tx1 tpos) it body [] env) (fun r s' => match r with | .ok f => Q f s' | .error _ => False) s₂) E s := by
  have hl : s.heap.IsList D vs.toArray := lstN (vs := vs) N hD
  have hDlt : D < s.heap.objs.size := Heap.lt_size (N _ hD).1
  have hL : env.locals < s.heap.objs.size := F.ns.lt
  refine wpAny_pyIter_list hl ?_
  have F1 := F.push ({ cls := .type "list_iterator", data := .fields #[.ref D, .int 0 0] } : Obj)
  have hnew : g.get? s.heap.objs.size = none := next_is_new F
  refine codeC.forLoopT (fun k s' => ∃ i m₁ news₁ o h' tk, k = vs.length - i ∧ i ≤ vs.length ∧ s' = { s with heap := h', toks := tk } ∧ Fr g env.locals h' m₁ ∧ News g env.locals h' ((s.heap.objs.size, o) :: news₁) ∧ (∀ q ∈ news₁, q.1 ≠ s.heap.objs.size) ∧
    o.cls = .type "list_iterator" ∧ o.data = .fields #[.ref D, .int i 0] ∧ J i m₁ news₁) (fun k s' hI => ?_) vs.length
    ⟨0, m, news, { cls := .type "list_iterator", data := .fields #[.ref D, .int 0 0] }, _, s.toks, rfl, Nat.zero_le _, rfl, F1, fun q hq => ?_, fun q hq => Nat.ne_of_lt (Heap.lt_size (N q hq).1), rfl, rfl, J0⟩
  · obtain ⟨i, m₁, news₁, o, h', tk, rfl, hi, rfl, F₁, N₁, hne, oc, od, hJ⟩ := hI
    have hit : h'.IsListIter s.heap.objs.size D i := ⟨o, (N₁ _ (.head _)).1, oc, od⟩
    have hl' : h'.IsList D vs.toArray := lstN (vs := vs) (a := D) N₁ (.tail _ (hk i _ _ hJ))
    by_cases hlt : i < vs.length
    · have hx' : vs.toArray[i]? = some vs[i] := by simp [hlt]
      refine wpAny_pyNext_list_item hit hl' hx' fun h₁ hit₁ hs₁ => ?_
      have F₂ : Fr g env.locals h₁ m₁ := ⟨F₁.ns.sameBut hs₁ (Nat.ne_of_lt hL), fun b o e => (hs₁.2 b (fun eb => by rw [eb, hnew] at e; cases e)).trans (F₁.keep b o e), F₁.above⟩
      obtain ⟨o₁, ho₁, oc₁, od₁⟩ := id hit₁
      have N₂ : News g env.locals h₁ ((s.heap.objs.size, o₁) :: news₁) := fun q hq => by
        rcases List.mem_cons.mp hq with rfl | hq
        · exact ⟨ho₁, (N₁ _ (.head _)).2⟩
        · exact ⟨(hs₁.2 _ (hne q hq)).trans (N₁ q (.tail _ hq)).1, (N₁ q (.tail _ hq)).2⟩
      obtain ⟨Tv, hTv⟩ := hvr vs[i] (List.getElem_mem _)
      have tn := turn i vs[i] m₁ news₁ _ o₁ h₁ tk (List.getElem?_eq_getElem hlt) hJ F₂ N₂ hne
      rw [hTv] at tn ⊢
      refine wpAny_letOwnedTupleGo_listiter hit₁ ?_
      refine wpAny_mono tn (fun _ s₂ h₂ => h₂.mono (fun f s₃ h₃ => ?_) fun _ _ e => e) fun _ _ e => e
      cases f with
      | next =>
        obtain ⟨m', h'', tk'', news', e, F', N', ne', r⟩ := h₃
        exact ⟨vs.length - (i + 1), by omega, i + 1, m', news', o₁, h'', tk'', rfl, hlt, e, F', N', ne', oc₁, od₁, r⟩
      | cont =>
        obtain ⟨m', h'', tk'', news', e, F', N', ne', r⟩ := h₃
        exact ⟨vs.length - (i + 1), by omega, i + 1, m', news', o₁, h'', tk'', rfl, hlt, e, F', N', ne', oc₁, od₁, r⟩
      | brk => exact h₃
      | ret v => exact h₃
    · have hin : i = vs.length := by omega
      subst hin
      refine wpAny_pyNext_list_end hh hit hl' (by simp) fun h₁ he => ?_
      exact fin _ _ _ _ hJ ⟨F₁.ns.extBut he (Nat.ne_of_lt hL), fun b o e => he b o (fun eb => by rw [eb, hnew] at e; cases e) (F₁.keep b o e), F₁.above⟩ fun q hq => ⟨he _ _ (hne q hq) (N₁ q (.tail _ hq)).1, (N₁ q (.tail _ hq)).2⟩
  · rcases List.mem_cons.mp hq with rfl | hq
    · exact ⟨Heap.get?_push_size _ rfl, Nat.ne_of_gt hL, hnew⟩
    · exact ⟨Heap.get?_push_of_some _ (N q hq).1, (N q hq).2⟩
end
section
variable {prog : Program} {w : World} {A : Around} {E : Value → Shared → Prop} {s : Shared} {env : Env} {g : Heap} {m : Str → Option Value} {news acc : Led} {D Dv Dc cV : Addr} {oV : Obj} {n nv nc : Nat} {elts : List Expr} {tx1} {tpos : Pos} {body : List Stmt} {Q : Flow → Shared → Prop} {ys : List Int}
theorem law_loop (hh : A.handled = none) (F : Fr g env.locals s.heap m)
    (N : News g env.locals s.heap ((Dv, listOf (vrefs []).toArray nv) :: (Dc, listOf ([] : List Value).toArray nc) :: (D, listOf (refs acc).toArray n) :: (acc ++ news)))
    (hVL : VL acc ys) (hys : ys.length ≤ 8) (hcV : (cV, oV) ∈ news) (hd : Dv ≠ Dc)
    (hne : ∀ p ∈ (D, listOf (refs acc).toArray n) :: (acc ++ news), p.1 ≠ Dv ∧ p.1 ≠ Dc)
    (turn : ∀ y ∈ ys, ∀ (I av : Addr) (oI ov : Obj) (a : Nat → Option Value) (vr cvs : List Value) (n1 n2 : Nat) (rest : Led) (h : Heap) (tk : Nat), VO ov y → vr.length ≤ 100 → cvs.length ≤ 100 → Fr g env.locals h (lawM m a) →
      News g env.locals h ((I, oI) :: (av, ov) :: (cV, oV) :: (Dv, listOf vr.toArray n1) :: (Dc, listOf cvs.toArray n2) :: rest) → Dv ≠ I → Dc ≠ I → (∀ p ∈ (cV, oV) :: rest, p.1 ≠ Dv ∧ p.1 ≠ Dc ∧ p.1 ≠ I) →
      wpAny (model prog w) A (assign (.Tuple elts tx1 tpos) env (.ref av)) (fun _ s₂ => wpC (model prog w) A (execs body env) (TurnOk g env.locals Dv Dc I oI vr cvs rest m s) NoE s₂) NoE { s with heap := h, toks := tk })
    (fin : ∀ h tk a vts cvs cs n1 n2, vts.length ≤ 8 → IntsAre cvs cs → VC vts cs → (∀ v ∈ vts, ∀ p ∈ v.led, p.1 ≠ Dv ∧ p.1 ≠ Dc) → Fr g env.locals h (lawM m a) →
      News g env.locals h ((Dv, listOf (vrefs vts).toArray n1) :: (Dc, listOf cvs.toArray n2) :: (vts.flatMap Vt.led ++ (D, listOf (refs acc).toArray n) :: (acc ++ news))) → Q .next { s with heap := h, toks := tk }) :
    wpAny (model prog w) A (pyIter (.ref D)) (fun it s₂ => codeC (model prog w) A (.forLoop (.Tuple elts tx1 tpos) it body [] env) (fun r s' => match r with | .ok f => Q f s' | .error _ => False) s₂) E s := by
  obtain ⟨a0, e0⟩ := lawM_of (m := m) (m1 := m) fun x _ _ _ _ _ _ _ _ _ _ _ _ => rfl
  have hlen : acc.length = ys.length := hVL.len
  refine iterT hh F N (.tail _ (.tail _ (.head _))) (fun v hv => by obtain ⟨p, _, rfl⟩ := List.mem_map.mp hv; exact ⟨_, rfl⟩) (fun i m' news' => ∃ a vts cvs cs n1 n2, m' = lawM m a ∧ news' = (Dv, listOf (vrefs vts).toArray n1) :: (Dc, listOf cvs.toArray n2) :: (vts.flatMap Vt.led ++ (D, listOf (refs acc).toArray n) :: (acc ++ news)) ∧ IntsAre cvs cs ∧ VC vts cs ∧ vts.length ≤ i ∧
    (∀ v ∈ vts, ∀ p ∈ v.led, p.1 ≠ Dv ∧ p.1 ≠ Dc) ∧ i ≤ ys.length)
    ⟨a0, [], [], [], nv, nc, e0, rfl, .nil, .nil, Nat.le_refl _, (fun v hv => nomatch hv), Nat.zero_le _⟩ (fun i m' news' ⟨a, vts, cvs, cs, n1, n2, e1, e2, _⟩ => by rw [e2]; exact .tail _ (.tail _ (List.mem_append_right _ (.head _)))) ?_ ?_
  · rintro i v m₁ news₁ I o h tk hv ⟨a, vts, cvs, cs, n1, n2, rfl, rfl, hI, hVC, hl, hadr, hi⟩ F1 N1 hneI
    obtain ⟨p, y, hp, rfl, hy, hO⟩ := hVL.get hv
    have hi' : i < ys.length := by
      have : i < (refs acc).length := by
        cases Nat.lt_or_ge i (refs acc).length with
        | inl h => exact h
        | inr h => rw [List.getElem?_eq_none h] at hv; cases hv
      rw [List.length_map, hlen] at this
      exact this
    have lv : vts.length = cs.length := hVC.len
    have lc : cvs.length = cs.length := IntsAre.length hI
    have nb : ∀ q ∈ vts.flatMap Vt.led ++ (D, listOf (refs acc).toArray n) :: (acc ++ news), q.1 ≠ Dv ∧ q.1 ≠ Dc := fun q hq => by
      rcases List.mem_append.mp hq with hq | hq
      · obtain ⟨u, hu, hq⟩ := List.mem_flatMap.mp hq
        exact hadr u hu q hq
      · exact hne q hq
    have hcV' : (cV, oV) ∈ vts.flatMap Vt.led ++ (D, listOf (refs acc).toArray n) :: (acc ++ news) := List.mem_append_right _ (.tail _ (List.mem_append_right _ hcV))
    have hp' : p ∈ vts.flatMap Vt.led ++ (D, listOf (refs acc).toArray n) :: (acc ++ news) := List.mem_append_right _ (.tail _ (List.mem_append_left _ hp))
    have dI : Dv ≠ I := hneI _ (.head _)
    have dC : Dc ≠ I := hneI _ (.tail _ (.head _))
    refine wpAny_mono (turn y hy I p.1 o p.2 a (vrefs vts) cvs n1 n2 (vts.flatMap Vt.led ++ (D, listOf (refs acc).toArray n) :: (acc ++ news)) h tk hO (by rw [List.length_map]; omega) (by omega) F1 (fun q hq => ?_) dI dC fun q hq => ?_) (fun _ s₂ k => k.mono (fun f s₃ k => ?_) fun _ _ e => e) fun _ _ e => e
    · rcases List.mem_cons.mp hq with rfl | hq
      · exact N1 _ (.head _)
      rcases List.mem_cons.mp hq with rfl | hq
      · exact N1 _ (.tail _ (.tail _ (.tail _ hp')))
      rcases List.mem_cons.mp hq with rfl | hq
      · exact N1 _ (.tail _ (.tail _ (.tail _ hcV')))
      · exact N1 _ (.tail _ hq)
    · have hq' : q ∈ vts.flatMap Vt.led ++ (D, listOf (refs acc).toArray n) :: (acc ++ news) := by
        rcases List.mem_cons.mp hq with rfl | hq
        · exact hcV'
        · exact hq
      exact ⟨(nb q hq').1, (nb q hq').2, hneI q (.tail _ (.tail _ hq'))⟩
    obtain ⟨rfl, a', h', tk', rfl, F2, k⟩ := k
    rcases k with ⟨n1', n2', N2⟩ | ⟨v, cy, t, n1', n2', hv', hnv, N2⟩
    · refine ⟨_, h', tk', _, rfl, F2, N2, fun q hq => ?_, a', vts, cvs, cs, n1', n2', rfl, rfl, hI, hVC, by omega, hadr, hi'⟩
      rcases List.mem_cons.mp hq with rfl | hq
      · exact dI
      rcases List.mem_cons.mp hq with rfl | hq
      · exact dC
      · exact hneI q (.tail _ (.tail _ hq))
    · refine ⟨_, h', tk', (Dv, listOf (vrefs (vts ++ [v])).toArray n1') :: (Dc, listOf (cvs ++ [Value.int cy t]).toArray n2') :: ((vts ++ [v]).flatMap Vt.led ++ (D, listOf (refs acc).toArray n) :: (acc ++ news)), rfl, F2, fun q hq => N2 q ?_, fun q hq => ?_, a', vts ++ [v], cvs ++ [Value.int cy t], cs ++ [cy], n1', n2', rfl, rfl, intsAre_snoc hI cy t, .snoc hVC hv', by simp; omega, fun u hu q hq => ?_, hi'⟩
      · simp only [vrefs, List.map_append, List.map_cons, List.map_nil, List.flatMap_append, List.flatMap_cons, List.flatMap_nil, List.append_nil, List.append_assoc, List.mem_cons, List.mem_append] at hq ⊢
        rcases hq with h | h | h | h | h | h
        · exact .inl h
        · exact .inr (.inl h)
        · exact .inr (.inr (.inl h))
        · exact .inr (.inr (.inr (.inr (.inl h))))
        · exact .inr (.inr (.inr (.inl h)))
        · exact .inr (.inr (.inr (.inr (.inr h))))
      · simp only [List.flatMap_append, List.flatMap_cons, List.flatMap_nil, List.append_nil, List.append_assoc] at hq
        rcases List.mem_cons.mp hq with rfl | hq
        · exact dI
        rcases List.mem_cons.mp hq with rfl | hq
        · exact dC
        rcases List.mem_append.mp hq with hq | hq
        · exact hneI q (.tail _ (.tail _ (List.mem_append_left _ hq)))
        rcases List.mem_append.mp hq with hq | hq
        · exact (hnv q hq).2.2
        · exact hneI q (.tail _ (.tail _ (List.mem_append_right _ hq)))
      · rcases List.mem_append.mp hu with hu | hu
        · exact hadr u hu q hq
        · rw [List.mem_singleton.mp hu] at hq
          exact ⟨(hnv q hq).1, (hnv q hq).2.1⟩
  · rintro h tk m' news' ⟨a, vts, cvs, cs, n1, n2, rfl, rfl, hI, hVC, hl, hadr, hi⟩ F1 N1
    exact fin h tk a vts cvs cs n1 n2 (by simp only [List.length_map] at hl; omega) hI hVC hadr F1 N1
end

theorem law4_rows1 : True := by
  k_with_none
  w_top off
  k_with "led_sub" => first | exact fun p hp => hp | (intro p hp; repeat' (first | exact hp | refine List.Mem.tail _ ?_))
  k_with "led_lt" => first | assumption | exact ktn_ltOf (by assumption) | exact lt1 (by assumption) | exact lt2 (by assumption) | exact lt3 (by assumption) | exact lt4 (by assumption)
  k_with "ct_fill" => (refine fillIt ?_; k_fill; intro _; unfold Ct)
  k_with "ct_enter" => (refine wpAny_call ?_; k_dflt cell_enter)
  k_with "ct_use" => ((case k1 => k_asm); (case k2 => k_asm); (case k3 => k_asm); (case k4 => k_asm); (case k5 => k_asm); (case kK => first | exact rfl | assumption); (case kd => ktr_room); (case ku => ktr_units))
  k_with "subscriptTail" => (k_here; (with_reducible show wpAny _ _ (subscriptTail _ _ (Value.ref _) (Value.int _ _)) _ _ _); (k_dflt (refine' tup_item ?k1 ?k2 ?k3 ?k4 ?k5 ?k6 ?_; (case k1 => k_asm); (case k2 => first | assumption | k_mem); (case k3 => decide); (case k4 => decide); (case k5 => exact rfl); (case k6 => with_unfolding_all rfl); k_whole)))
  k_with "call builtin:max" => ((with_reducible show wpAny _ _ (call _ [Value.float _ _, Value.float _ _, Value.float _ _]) _ _ _); (rename News _ _ _ _ => N'); (rename Fr _ _ _ _ => F'); refine max3_K rfl F' N' ?_; clear N'; intro _ _ _ _ _)
  k_with "call builtin:min" => ((with_reducible show wpAny _ _ (call _ [Value.float _ _, Value.float _ _, Value.float _ _]) _ _ _); (rename News _ _ _ _ => N'); (rename Fr _ _ _ _ => F'); refine min3_K rfl F' N' ?_; clear N'; intro _ _ _ _ _)
  k_with "subscriptTail" => (k_here; (with_reducible show wpAny _ _ (subscriptTail _ _ (Value.ref _) (Value.int _ _)) _ _ _); (k_dflt (refine' lst_item3 ?k1 ?k2 ?k3 ?k4 ?k6 ?_ ?_ ?_; (case k1 => k_asm); (case k2 => k_mem); (case k3 => omega); (case k4 => omega); (case k6 => with_unfolding_all rfl); all_goals (k_whole; intro hidx))))
  k_with "str_fit" => first | decide +kernel | (simp only [Str.length_append]; omega)
  k_with "binaryOp Add str str" => (k_here; (with_reducible show wpAny _ _ (binaryOp Operator.Add (Value.str _ _) (Value.str _ _)) _ _ _); (refine' add_m ?ksz ?_; (case ksz => walk_at "str_fit")); intro tx' kx' hx'; (try dsimp only at hx'))
  k_with "call builtin:str.replace" => (k_here; (refine' repl_m ?k1 ?k2 ?k3 ?k4 ?k5 ?k6 ?_; (case k1 => (show (0 : Nat) < _); omega); (case k2 => (show (0 : Nat) < _); omega); (case k3 => (show @Ne Nat _ _); omega); (case k4 => decide +kernel); (case k5 => walk_at "str_fit"); (case k6 => walk_at "str_fit")); intro tx' kx' hx'; (try dsimp only at hx'))
  k_with "subscriptTail" => (k_here; (with_reducible show wpAny _ _ (subscriptTail _ _ (Value.str _ _) (Value.int _ _)) _ _ _); (k_dflt (refine' str_item ?k1 ?k2 ?k3 ?k4 ?k5 ?_; (case k1 => omega); (case k2 => first | omega | exact Int.lt_of_lt_of_le (b := 4) (by omega) (by decide +kernel)); (case k3 => first | omega | decide +kernel); (case k4 => with_unfolding_all rfl); (case k5 => (intro _; with_unfolding_all rfl)))); intro hone')
  k_with "subscriptTail Name Slice str ref" => ((with_reducible rename Fr _ _ _ _ => F'); (with_reducible rename News _ _ _ _ => N'); (first
  | ((with_reducible show wpAny _ _ (subscriptTail _ (Expr.Slice (some _) none none _) _ _) _ _ _); (refine' slice_strN_sn_len (s := ⟨_, _, _, _, _⟩) F' N' ?_ (hsz := ?hsz)); (case hsz => walk_at "str_fit"))
  | ((with_reducible show wpAny _ _ (subscriptTail _ (Expr.Slice none (some _) none _) _ _) _ _ _); (refine' slice_strN_ns_len (s := ⟨_, _, _, _, _⟩) F' N' ?_ (hsz := ?hsz)); (case hsz => walk_at "str_fit"))
  | ((with_reducible show wpAny _ _ (subscriptTail _ (Expr.Slice (some _) (some _) none _) _ _) _ _ _); (refine' slice_strN_ss_len (s := ⟨_, _, _, _, _⟩) F' N' ?_ (hsz := ?hsz)); (case hsz => walk_at "str_fit"))); intro _ _ _ _ _ _)
  k_with "call ref" => (k_here; (with_reducible show wpAny _ _ (call (Value.ref 28) _) _ _ _); (k_dflt (refine' Ct.use (rgb_spec _ _ _ _ _ _ _ _ ?p1 ?p2) ?k1 ?k2 ?k3 ?k4 ?k5 ?kK ?kd ?ku ?_; (case p1 => exact RgbOk.h1 (by assumption)); (case p2 => exact RgbOk.h2 (by assumption)); walk_at "ct_use")); intro r' tl' h' tk' F' N' l1 hP'; obtain ⟨D', c', t4', t5', t6', e1', e2', e3'⟩ := hP'; subst e1' e2' e3'; replace l1 := lt_tl1 l1; (try k_lt l1); (simp only [List.cons_append, List.nil_append] at N'); (try k_sweep); (try dsimp only); (try k_fold))
  k_with "call ref" => (k_here; (with_reducible show wpAny _ _ (call (Value.ref 86) _) _ _ _); (k_dflt (refine' Ct.use (p257_spec _ _ _ _ ?p1 ?p2) ?k1 ?k2 ?k3 ?k4 ?k5 ?kK ?kd ?ku ?_; (case p1 => assumption); (case p2 => assumption); walk_at "ct_use")); intro r' tl' h' tk' F' N' l1 hP'; obtain ⟨z', t4', e1', e2', e3'⟩ := hP'; subst e1' e2' e3'; (simp only [List.nil_append] at N'); (try k_sweep); (try dsimp only); (try k_fold))
  k_with "enterS" => (refine' code_defS ?k1 ?k2 ?k3 ?k4 ?k5 ?XB ?TB ?D ?T0 ?kA ?k6 ?k7 ?k8 ?k9 ?kB ?_ ?cK ?c2 ?c3 ?c4 ?c5; (case kA => exact rfl); (case k2 => k_asm); (case k1 => k_asm); (case XB => assumption); (case TB => assumption); (case D => assumption); (case T0 => first | assumption | exact KtsTurn.refl); (case k3 => k_asm); (case k4 => k_asm); (case k5 => k_asm); (case k6 => k_is); (case k7 => k_is); (case k8 => ktr_room); (case k9 => exact BindsTo.of_eq rfl); (case kB => exact locs rfl); (case cK => first | exact rfl | assumption); (case c2 => exact rfl); (case c3 => exact rfl); (case c4 => exact rfl); (case c5 => decide); k_whole; intro g' L' h' FG' F' N' B' X' T' D'; (try dsimp only); (try k_lift B'); (try k_fold))
  k_with "enterS0" => (refine' enter0X ?k1 ?k2 ?k3 ?k4 ?k5 ?kA ?kF ?cK ?k6 ?k7 ?k8 ?k9 ?kB ?_ ?c2 ?c3 ?c4 ?c5; (case kA => exact rfl); (case kF => exact rfl); (case cK => first | exact rfl | assumption); (case k2 => k_asm); (case k1 => k_asm); (case k3 => k_asm); (case k4 => k_asm); (case k5 => k_asm); (case k6 => k_is); (case k7 => k_is); (case k8 => ktr_room); (case k9 => exact BindsTo.of_eq rfl); (case kB => exact locs rfl); (case c2 => exact rfl); (case c3 => exact rfl); (case c4 => exact rfl); (case c5 => decide); k_whole; intro g' L' h' FG' F' N' B' X' T' D'; (try dsimp only); (try k_lift B'); (try k_fold))
  k_with "call ref" => (k_here; (with_reducible show wpAny _ _ (call (Value.ref 21) _) _ _ _); (k_dflt (refine' Ct.use (em_spec _ _ _ _ _ _ ?p1 ?p2) ?k1 ?k2 ?k3 ?k4 ?k5 ?kK ?kd ?ku ?_; (case p1 => walk_at "em_ok"); (case p2 => walk_at "em_len"); walk_at "ct_use")); intro r' tl' h' tk' F' N' l1 hP'; obtain ⟨e1', b', e2', e3'⟩ := hP'; subst e1' e2'; (simp only [List.nil_append] at N'); (try k_sweep); (try dsimp only); (try k_fold))
  k_with "em_len" => omega
  k_with "em_ok" => assumption
  trivial
section
variable {prog : Program} {w : World} {A : Around} {E : Value → Shared → Prop} {s : Shared} {h₀ : Heap} {L : Addr} {m : Str → Option Value} {env : Env} {news : Led}
/-- how a turn of a comprehension ends: an int, the ledger as it stood -/
def CEnd (h₀ : Heap) (L : Addr) (m : Str → Option Value) (all : Led) (s : Shared) (y : Int) (r : Value) (s₂ : Shared) : Prop :=
  ∃ t h' tk', r = .int y t ∧ s₂ = { s with heap := h', toks := tk' } ∧ Fr h₀ L h' m ∧ News h₀ L h' all
theorem CEnd.intro {all all' : Led} {y y' : Int} {t : Tok} {h' : Heap} {tk' : Nat} (e : y' = y) (F : Fr h₀ L h' m) (N : News h₀ L h' all') (hs : ∀ p ∈ all, p ∈ all') : CEnd h₀ L m all s y (.int y' t) { s with heap := h', toks := tk' } :=
  ⟨t, h', tk', by rw [e], rfl, F, fun p hp => N p (hs p hp)⟩
theorem News.but {h h' : Heap} {X : Addr} {all : Led} (N : News h₀ L h all) (hk : ∀ b o, b ≠ X → h.get? b = some o → h'.get? b = some o) (hne : ∀ p ∈ all, p.1 ≠ X) : News h₀ L h' all :=
  fun p hp => ⟨hk _ _ (hne p hp) (N p hp).1, (N p hp).2⟩
theorem take_snoc' {α : Type} {l : List α} {i : Nat} {y : α} (h : l[i]? = some y) : l.take (i + 1) = l.take i ++ [y] := take_snoc h
/-- the loop of a comprehension over a made list of tuples of four -/
theorem comp_loop {elt iter : Expr} {x1 x2 x3 x4 : Str} {p1 p2 p3 p4 tp : Pos} {tk} {scope : Scope} {cl : List (Str × Addr)} {pos : Pos} {RR : Result → Shared → Prop} {I C D Dv : Addr} {vs : List Value} {n : Nat} {gs : List Int} {oI oC : Obj} {mC : Str → Option Value}
    (hkind : scope.kind = .function) (hx1 : scope.names.lookup x1 = some .local) (hx2 : scope.names.lookup x2 = some .local) (hx3 : scope.names.lookup x3 = some .local) (hx4 : scope.names.lookup x4 = some .local)
    (d12 : x1 ≠ x2) (d13 : x1 ≠ x3) (d14 : x1 ≠ x4) (d23 : x2 ≠ x3) (d24 : x2 ≠ x4) (d34 : x3 ≠ x4) (hh : A.handled = none)
    (F : Fr h₀ L s.heap m) (N : News h₀ L s.heap ((C, oC) :: (I, oI) :: (D, LCg.lst []) :: news)) (hC : LCg.NsObj oC mC) (oc : oI.cls = .type "list_iterator") (od : oI.data = .fields #[.ref Dv, .int 0 0])
    (hIC : I ≠ C) (hID : I ≠ D) (hCD : C ≠ D) (off : ∀ p ∈ news, p.1 ≠ C ∧ p.1 ≠ I ∧ p.1 ≠ D) (hD : (Dv, listOf vs.toArray n) ∈ news) (hsz : vs.length ≤ 100) (hg : gs.length = vs.length)
    (turn : ∀ (i : Nat) (v : Value), vs[i]? = some v → ∃ (t : Addr) (a1 a2 a3 a4 : Value) (y : Int), v = Value.ref t ∧ (t, tupO [a1, a2, a3, a4]) ∈ news ∧ gs[i]? = some y ∧ ∀ (I : Addr) (oI : Obj) (C : Addr) (oC : Obj) (D : Addr) (ys : List Value) (mC : Str → Option Value) (h : Heap) (tk : Nat) (E' : Value → Shared → Prop),
      LCg.NsObj oC mC → mC x1 = some a1 → mC x2 = some a2 → mC x3 = some a3 → mC x4 = some a4 → Fr h₀ L h m → News h₀ L h ((C, oC) :: (I, oI) :: (D, LCg.lst ys) :: news) →
      wpAny (model prog w) A (eval elt (compEnvC scope cl C env)) (CEnd h₀ L m ((C, oC) :: (I, oI) :: (D, LCg.lst ys) :: news) { s with heap := h, toks := tk } y) E' { s with heap := h, toks := tk })
    (fin : ∀ h tk ys oC' mC', IntsAre ys gs → LCg.NsObj oC' mC' → Fr h₀ L h m → News h₀ L h ((C, oC') :: (D, LCg.lst ys) :: news) → RR (.ok .next) { s with heap := h, toks := tk }) :
    codeAny (model prog w) A (.compLoop (.ListComp elt [⟨.Tuple [.Name x1 p1, .Name x2 p2, .Name x3 p3, .Name x4 p4] tk tp, iter, [], 0⟩] scope pos) 0 (.ref I) (.ref D) (compEnvC scope cl C env)) RR s := by
  have hI0 := (N (I, oI) (.tail _ (.head _))).2
  have hC0 := (N (C, oC) (.head _)).2
  have hD0 := (N (D, LCg.lst []) (.tail _ (.tail _ (.head _)))).2
  refine LCp.codeAny_compLoop_pair (fun k s' => ∃ i ys oC' oI' mC' h' tk', k = vs.length - i ∧ i ≤ vs.length ∧ s' = { s with heap := h', toks := tk' } ∧ Fr h₀ L h' m ∧ News h₀ L h' ((C, oC') :: (I, oI') :: (D, LCg.lst ys) :: news) ∧ LCg.NsObj oC' mC' ∧ oI'.cls = .type "list_iterator" ∧
    oI'.data = .fields #[.ref Dv, .int i 0] ∧ IntsAre ys (gs.take i)) ?_ vs.length ⟨0, [], oC, oI, mC, s.heap, s.toks, rfl, Nat.zero_le _, rfl, F, N, hC, oc, od, by rw [List.take_zero]; exact .nil⟩
  rintro k s' ⟨i, ys, oC', oI', mC', h', tk', rfl, hi, rfl, F1, N1, hC1, oc1, od1, hys⟩
  have hit : h'.IsListIter I Dv i := ⟨oI', (N1 _ (.tail _ (.head _))).1, oc1, od1⟩
  have hl : h'.IsList Dv vs.toArray := lstN (vs := vs) (a := Dv) N1 (.tail _ (.tail _ (.tail _ hD)))
  have ylen : ys.length = i := by have := IntsAre.length hys; rw [List.length_take] at this; omega
  by_cases hlt : i < vs.length
  · have hx' : vs.toArray[i]? = some vs[i] := by simp [hlt]
    refine wpAny_pyNext_list_item hit hl hx' fun h₂ hit₂ hs₂ => ?_
    obtain ⟨t, a1, a2, a3, a4, y, ev, hm, hgi, body⟩ := turn i vs[i] (List.getElem?_eq_getElem hlt)
    obtain ⟨oI2, hoI2, oc2, od2⟩ := id hit₂
    have F2 : Fr h₀ L h₂ m := F1.change hs₂ hI0.1 hI0.2
    have N2 : News h₀ L h₂ ((C, oC') :: (D, LCg.lst ys) :: news) := fun p hp => by
      have hne : p.1 ≠ I := by
        rcases List.mem_cons.mp hp with rfl | hp
        · exact Ne.symm hIC
        rcases List.mem_cons.mp hp with rfl | hp
        · exact Ne.symm hID
        · exact (off p hp).2.1
      have hp1 : p ∈ (C, oC') :: (I, oI') :: (D, LCg.lst ys) :: news := by
        rcases List.mem_cons.mp hp with rfl | hp
        · exact .head _
        · exact .tail _ (.tail _ hp)
      exact ⟨(hs₂.2 _ hne).trans (N1 p hp1).1, (N1 p hp1).2⟩
    rw [ev]
    refine wpAny_letOwnedTupleGo_listiter hit₂ ?_
    have ht : IsTup h₂ t #[a1, a2, a3, a4] := ⟨_, (N2 _ (.tail _ (.tail _ hm))).1, rfl, 0, rfl⟩
    refine assign_Tuple_tuple hh ht rfl rfl fun h₃ he₃ => ?_
    have ke : ∀ b o, h₂.get? b = some o → h₃.get? b = some o := fun b o e => he₃ b o (Nat.ne_of_lt (Heap.lt_size e)) e
    have hp' : ((compEnvC scope cl C env).scope.kind == .class || ((compEnvC scope cl C env).scope.kind == .module && (compEnvC scope cl C env).locals != (compEnvC scope cl C env).globals)) = false := by simp [compEnvC, relabel, hkind]
    have ns3 : h₃.Ns C mC' := hC1.ns (ke _ _ (N2 _ (.head _)).1)
    refine assignInOrder_cons (wpAny_assign_Name (wpAny_storeName_local (lookup_relabel_local hx1) ns3 (fun h₄ hn₄ hs₄ => ?_) hp'))
    refine assignInOrder_cons (wpAny_assign_Name (wpAny_storeName_local (lookup_relabel_local hx2) hn₄ (fun h₅ hn₅ hs₅ => ?_) hp'))
    refine assignInOrder_cons (wpAny_assign_Name (wpAny_storeName_local (lookup_relabel_local hx3) hn₅ (fun h₆ hn₆ hs₆ => ?_) hp'))
    refine assignInOrder_cons (wpAny_assign_Name (wpAny_storeName_local (lookup_relabel_local hx4) hn₆ (fun h₇ hn₇ hs₇ => ?_) hp'))
    refine assignInOrder_nil ?_
    have kb : ∀ b o, b ≠ C → h₂.get? b = some o → h₇.get? b = some o := fun b o hb e => (hs₇.2 b hb).trans ((hs₆.2 b hb).trans ((hs₅.2 b hb).trans ((hs₄.2 b hb).trans (ke b o e))))
    obtain ⟨oC7, hoC7, hC7⟩ := LCg.ns_obj hn₇
    have F7 : Fr h₀ L h₇ m := ((((F2.keeps ke).change hs₄ hC0.1 hC0.2).change hs₅ hC0.1 hC0.2).change hs₆ hC0.1 hC0.2).change hs₇ hC0.1 hC0.2
    have N7 : News h₀ L h₇ ((C, oC7) :: (I, oI2) :: (D, LCg.lst ys) :: news) := fun p hp => by
      rcases List.mem_cons.mp hp with rfl | hp
      · exact ⟨hoC7, hC0⟩
      rcases List.mem_cons.mp hp with rfl | hp
      · exact ⟨kb _ _ hIC hoI2, hI0⟩
      · have hne : p.1 ≠ C := by
          rcases List.mem_cons.mp hp with rfl | hp
          · exact Ne.symm hCD
          · exact (off p hp).1
        exact ⟨kb _ _ hne (N2 p (.tail _ hp)).1, (N2 p (.tail _ hp)).2⟩
    refine wpAny_mono (body I oI2 C oC7 D ys _ h₇ _ _ hC7 (by simp [d12, d13, d14]) (by simp [d23, d24]) (by simp [d34]) (by simp) F7 N7) (fun r s₄ h₄ => ?_) fun _ _ e => e
    obtain ⟨tv, h8, tk8, rfl, rfl, F8, N8⟩ := h₄
    refine append_at (hsz := by rw [List.size_toArray, ylen, sizeLine_eq]; omega) (N8 (D, LCg.lst ys) (.tail _ (.tail _ (.head _)))).1 fun h9 hs9 hD9 => ?_
    refine ⟨vs.length - (i + 1), by omega, i + 1, ys ++ [.int y tv], oC7, oI2, _, h9, tk8, rfl, hlt, rfl, F8.change hs9 hD0.1 hD0.2, fun p hp => ?_, hC7, oc2, od2, ?_⟩
    · rcases List.mem_cons.mp hp with rfl | hp
      · exact ⟨(hs9.2 _ hCD).trans (N8 _ (.head _)).1, hC0⟩
      rcases List.mem_cons.mp hp with rfl | hp
      · exact ⟨(hs9.2 _ hID).trans (N8 _ (.tail _ (.head _))).1, hI0⟩
      rcases List.mem_cons.mp hp with rfl | hp
      · exact ⟨hD9.trans (congrArg some (LCg.lst_snoc ys _)), hD0⟩
      · exact ⟨(hs9.2 _ (off p hp).2.2).trans (N8 _ (.tail _ (.tail _ (.tail _ hp)))).1, (N8 _ (.tail _ (.tail _ (.tail _ hp)))).2⟩
    · rw [take_snoc' hgi]; exact intsAre_snoc hys y tv
  · have hin : i = vs.length := by omega
    subst hin
    refine wpAny_pyNext_list_end hh hit hl (by simp) fun h₂ he₂ => ?_
    have kb : ∀ b o, b ≠ I → h'.get? b = some o → h₂.get? b = some o := fun b o hb e => he₂ b o hb e
    rw [← hg, List.take_length] at hys
    refine fin h₂ tk' ys oC' mC' hys hC1 ⟨F1.ns.extBut he₂ (Ne.symm hI0.1), fun b o e => kb b o (fun q => by rw [q, hI0.2] at e; cases e) (F1.keep b o e), F1.above⟩ fun p hp => ?_
    have hne : p.1 ≠ I := by
      rcases List.mem_cons.mp hp with rfl | hp
      · exact Ne.symm hIC
      rcases List.mem_cons.mp hp with rfl | hp
      · exact Ne.symm hID
      · exact (off p hp).2.1
    have hp1 : p ∈ (C, oC') :: (I, oI') :: (D, LCg.lst ys) :: news := by
      rcases List.mem_cons.mp hp with rfl | hp
      · exact .head _
      · exact .tail _ (.tail _ hp)
    exact ⟨kb _ _ hne (N1 p hp1).1, (N1 p hp1).2⟩
theorem comp_votes {elt iter : Expr} {x1 x2 x3 x4 : Str} {p1 p2 p3 p4 tp : Pos} {tk} {scope : Scope} {cl : List (Str × Addr)} {pos : Pos} {Q : Value → Shared → Prop} {Dv : Addr} {vs : List Value} {n : Nat} {gs : List Int}
    (hclos : closureFor scope env = pure cl) (hcell : ∀ y ∈ scope.names, y.2 ≠ .cell) (hkind : scope.kind = .function) (hnames : ∀ y ∈ scope.names, y.2 = .local → scope.names.lookup y.1 = some .local)
    (hx1 : scope.names.lookup x1 = some .local) (hx2 : scope.names.lookup x2 = some .local) (hx3 : scope.names.lookup x3 = some .local) (hx4 : scope.names.lookup x4 = some .local)
    (d12 : x1 ≠ x2) (d13 : x1 ≠ x3) (d14 : x1 ≠ x4) (d23 : x2 ≠ x3) (d24 : x2 ≠ x4) (d34 : x3 ≠ x4) (hh : A.handled = none) (hs : ∀ x, foldedSetIterable iter env x = pure x)
    (F : Fr h₀ L s.heap m) (N : News h₀ L s.heap news) (hD : (Dv, listOf vs.toArray n) ∈ news) (hsz : vs.length ≤ 100) (hg : gs.length = vs.length)
    (hit : ∀ K : Value → Shared → Prop, K (.ref Dv) s → wpAny (model prog w) A (eval iter env) K E s)
    (turn : ∀ (s' : Shared), s'.gens = s.gens → s'.drawn = s.drawn → s'.os = s.os → ∀ (i : Nat) (v : Value), vs[i]? = some v → ∃ (t : Addr) (a1 a2 a3 a4 : Value) (y : Int), v = Value.ref t ∧ (t, tupO [a1, a2, a3, a4]) ∈ news ∧ gs[i]? = some y ∧ ∀ (I : Addr) (oI : Obj) (C : Addr) (oC : Obj) (D : Addr) (ys : List Value) (mC : Str → Option Value) (h : Heap) (tk : Nat) (E' : Value → Shared → Prop),
      LCg.NsObj oC mC → mC x1 = some a1 → mC x2 = some a2 → mC x3 = some a3 → mC x4 = some a4 → Fr h₀ L h m → News h₀ L h ((C, oC) :: (I, oI) :: (D, LCg.lst ys) :: news) →
      wpAny (model prog w) A (eval elt (compEnvC scope cl C env)) (CEnd h₀ L m ((C, oC) :: (I, oI) :: (D, LCg.lst ys) :: news) { s' with heap := h, toks := tk } y) E' { s' with heap := h, toks := tk })
    (fin : ∀ D h tk ys, IntsAre ys gs → Fr h₀ L h m → News h₀ L h ((D, LCg.lst ys) :: news) → (∀ p ∈ news, p.1 < D) → Q (.ref D) { s with heap := h, toks := tk }) :
    wpAny (model prog w) A (eval (.ListComp elt [⟨.Tuple [.Name x1 p1, .Name x2 p2, .Name x3 p3, .Name x4 p4] tk tp, iter, [], 0⟩] scope pos) env) Q E s := by
  rw [eval_ListComp]
  refine wpAny_comprehension_free (use := none) rfl hs hclos hkind hnames (hit _ ?_)
  have hl : s.heap.IsList Dv vs.toArray := lstN (vs := vs) N hD
  refine wpAny_pyIter_list hl ?_
  refine wpAny_newObj_type (wpAny_newFunctionEnv hcell (by intro y hy; simp at hy) (fun h₁ hns₁ hsb₁ => ?_) hkind)
  dsimp only at hns₁ hsb₁ ⊢
  generalize hH1 : s.heap.push { cls := .type "list_iterator", data := .fields #[.ref Dv, .int 0 0] } = H1 at hns₁ hsb₁ ⊢
  have z1 : H1.objs.size = s.heap.objs.size + 1 := by rw [← hH1, Heap.size_push]
  generalize hH2 : H1.push { cls := .type "list", dict := none, data := .seq ([] : List Value).toArray } = H2 at hns₁ hsb₁ ⊢
  have z2 : H2.objs.size = s.heap.objs.size + 1 + 1 := by rw [← hH2, Heap.size_push, z1]
  have up : ∀ b o, s.heap.get? b = some o → H2.get? b = some o := fun b o e => hH2 ▸ Heap.get?_push_of_some _ (hH1 ▸ Heap.get?_push_of_some _ e)
  have lt2 : ∀ b o, s.heap.get? b = some o → b < s.heap.objs.size := fun b o e => Heap.lt_size e
  have old : ∀ b o, s.heap.get? b = some o → h₁.get? b = some o := fun b o e => hsb₁.extBut b o (by rw [z2]; exact Nat.ne_of_lt (Nat.lt_succ_of_lt (Nat.lt_succ_of_lt (lt2 b o e)))) (Heap.get?_push_of_some _ (up b o e))
  have gI : h₁.get? s.heap.objs.size = some { cls := .type "list_iterator", data := .fields #[.ref Dv, .int 0 0] } :=
    hsb₁.extBut _ _ (by rw [z2]; exact Nat.ne_of_lt (Nat.lt_succ_of_lt (Nat.lt_succ_self _))) (Heap.get?_push_of_some _ (hH2 ▸ Heap.get?_push_of_some _ (hH1 ▸ Heap.get?_push_size _ rfl)))
  have gD : h₁.get? H1.objs.size = some (LCg.lst []) := hsb₁.extBut _ _ (by rw [z2, z1]; exact Nat.ne_of_lt (Nat.lt_succ_self _)) (Heap.get?_push_of_some _ (hH2 ▸ Heap.get?_push_size _ rfl))
  obtain ⟨oC, gC, hC⟩ := LCg.ns_obj hns₁
  have hLlt : @LT.lt Nat _ L s.heap.objs.size := F.ns.lt
  have fresh : ∀ a, s.heap.objs.size ≤ a → h₀.get? a = none := fun a ha => by
    cases e : h₀.get? a with
    | none => rfl
    | some o' => exact absurd (Heap.lt_size (F.keep a o' e)) (Nat.not_lt.mpr ha)
  have F1 : Fr h₀ L h₁ m := F.keeps old
  have N1 : News h₀ L h₁ ((H2.objs.size, oC) :: (s.heap.objs.size, ({ cls := .type "list_iterator", data := .fields #[.ref Dv, .int 0 0] } : Obj)) :: (H1.objs.size, LCg.lst []) :: news) := fun p hp => by
    rcases List.mem_cons.mp hp with rfl | hp
    · exact ⟨gC, Nat.ne_of_gt (by show @LT.lt Nat _ L H2.objs.size; omega), fresh _ (by show @LE.le Nat _ s.heap.objs.size H2.objs.size; omega)⟩
    rcases List.mem_cons.mp hp with rfl | hp
    · exact ⟨gI, Nat.ne_of_gt hLlt, fresh _ (Nat.le_refl _)⟩
    rcases List.mem_cons.mp hp with rfl | hp
    · exact ⟨gD, Nat.ne_of_gt (by show @LT.lt Nat _ L H1.objs.size; omega), fresh _ (by show @LE.le Nat _ s.heap.objs.size H1.objs.size; omega)⟩
    · exact ⟨old _ _ (N p hp).1, (N p hp).2⟩
  have off : ∀ p ∈ news, p.1 ≠ H2.objs.size ∧ p.1 ≠ s.heap.objs.size ∧ p.1 ≠ H1.objs.size := fun p hp => by
    have hlt : @LT.lt Nat _ p.1 s.heap.objs.size := Heap.lt_size (N p hp).1
    refine ⟨Nat.ne_of_lt ?_, Nat.ne_of_lt hlt, Nat.ne_of_lt ?_⟩
    · show @LT.lt Nat _ p.1 H2.objs.size; omega
    · show @LT.lt Nat _ p.1 H1.objs.size; omega
  have loop : ∀ s₃ : Shared, s₃ = { s with heap := h₁, toks := s.toks + ([] : List (Str × Value)).length } →
      codeAny (model prog w) A (.compLoop (.ListComp elt [⟨.Tuple [.Name x1 p1, .Name x2 p2, .Name x3 p3, .Name x4 p4] tk tp, iter, [], 0⟩] scope pos) 0 (.ref s.heap.objs.size) (.ref H1.objs.size) (compEnvC scope cl H2.objs.size env))
        (compPost (model prog w) A E none Q (.ref H1.objs.size) H2.objs.size) s₃ := by
    rintro s₃ rfl
    refine comp_loop (n := n) (gs := gs) (oI := { cls := .type "list_iterator", data := .fields #[.ref Dv, .int 0 0] }) hkind hx1 hx2 hx3 hx4 d12 d13 d14 d23 d24 d34 hh F1 N1 hC rfl rfl (by rw [z2]; exact Nat.ne_of_lt (Nat.lt_succ_of_lt (Nat.lt_succ_self _))) (by rw [z1]; exact Nat.ne_of_lt (Nat.lt_succ_self _))
      (by rw [z2, z1]; exact Nat.ne_of_gt (Nat.lt_succ_self _)) off hD hsz hg (turn _ rfl rfl rfl) ?_
    intro h tk' ys oC' mC' hys hC' F2 N2
    refine ⟨mC', hC'.ns (N2 _ (.head _)).1, fun h'' hs'' => ?_⟩
    have hC0 := (N2 _ (.head _)).2
    refine fin H1.objs.size h'' tk' ys hys (F2.change hs'' hC0.1 hC0.2) (fun p hp => ?_) fun p hp => ?_
    · have hne : p.1 ≠ H2.objs.size := by
        rcases List.mem_cons.mp hp with rfl | hp
        · rw [z2]; show H1.objs.size ≠ _; rw [z1]; exact Nat.ne_of_lt (Nat.lt_succ_self _)
        · exact (off p hp).1
      exact ⟨(hs''.2 _ hne).trans (N2 p (.tail _ hp)).1, (N2 p (.tail _ hp)).2⟩
    · have hlt : @LT.lt Nat _ p.1 s.heap.objs.size := Heap.lt_size (N p hp).1
      show @LT.lt Nat _ p.1 H1.objs.size
      omega
  exact codeAny_compStart_list (loop _ rfl) (wpAny_pyIter_listiter (l := Dv) (i := 0) ⟨_, gI, rfl, rfl⟩ (loop _ rfl))
end

theorem law5_rows1 : True := by
  k_with_none
  w_top off
  k_with "led_sub" => first | exact fun p hp => hp | (intro p hp; repeat' (first | exact hp | refine List.Mem.tail _ ?_))
  k_with "led_lt" => first | assumption | exact ktn_ltOf (by assumption) | exact lt1 (by assumption) | exact lt2 (by assumption) | exact lt3 (by assumption) | exact lt4 (by assumption)
  k_with "ct_fill" => (refine fillIt ?_; k_fill; intro _; unfold Ct)
  k_with "ct_enter" => (refine wpAny_call ?_; k_dflt cell_enter)
  k_with "ct_use" => ((case k1 => k_asm); (case k2 => k_asm); (case k3 => k_asm); (case k4 => k_asm); (case k5 => k_asm); (case kK => first | exact rfl | assumption); (case kd => ktr_room); (case ku => ktr_units))
  k_with "subscriptTail" => (k_here; (with_reducible show wpAny _ _ (subscriptTail _ _ (Value.ref _) (Value.int _ _)) _ _ _); (k_dflt (refine' tup_item ?k1 ?k2 ?k3 ?k4 ?k5 ?k6 ?_; (case k1 => k_asm); (case k2 => first | assumption | k_mem); (case k3 => decide); (case k4 => decide); (case k5 => exact rfl); (case k6 => with_unfolding_all rfl); k_whole)))
  k_with "call builtin:max" => ((with_reducible show wpAny _ _ (call _ [Value.float _ _, Value.float _ _, Value.float _ _]) _ _ _); (rename News _ _ _ _ => N'); (rename Fr _ _ _ _ => F'); refine max3_K rfl F' N' ?_; clear N'; intro _ _ _ _ _)
  k_with "call builtin:min" => ((with_reducible show wpAny _ _ (call _ [Value.float _ _, Value.float _ _, Value.float _ _]) _ _ _); (rename News _ _ _ _ => N'); (rename Fr _ _ _ _ => F'); refine min3_K rfl F' N' ?_; clear N'; intro _ _ _ _ _)
  k_with "subscriptTail" => (k_here; (with_reducible show wpAny _ _ (subscriptTail _ _ (Value.ref _) (Value.int _ _)) _ _ _); (k_dflt (refine' lst_item3 ?k1 ?k2 ?k3 ?k4 ?k6 ?_ ?_ ?_; (case k1 => k_asm); (case k2 => k_mem); (case k3 => omega); (case k4 => omega); (case k6 => with_unfolding_all rfl); all_goals (k_whole; intro hidx))))
  k_with "str_fit" => first | decide +kernel | (simp only [Str.length_append]; omega)
  k_with "binaryOp Add str str" => (k_here; (with_reducible show wpAny _ _ (binaryOp Operator.Add (Value.str _ _) (Value.str _ _)) _ _ _); (refine' add_m ?ksz ?_; (case ksz => walk_at "str_fit")); intro tx' kx' hx'; (try dsimp only at hx'))
  k_with "call builtin:str.replace" => (k_here; (refine' repl_m ?k1 ?k2 ?k3 ?k4 ?k5 ?k6 ?_; (case k1 => (show (0 : Nat) < _); omega); (case k2 => (show (0 : Nat) < _); omega); (case k3 => (show @Ne Nat _ _); omega); (case k4 => decide +kernel); (case k5 => walk_at "str_fit"); (case k6 => walk_at "str_fit")); intro tx' kx' hx'; (try dsimp only at hx'))
  k_with "subscriptTail" => (k_here; (with_reducible show wpAny _ _ (subscriptTail _ _ (Value.str _ _) (Value.int _ _)) _ _ _); (k_dflt (refine' str_item ?k1 ?k2 ?k3 ?k4 ?k5 ?_; (case k1 => omega); (case k2 => first | omega | exact Int.lt_of_lt_of_le (b := 4) (by omega) (by decide +kernel)); (case k3 => first | omega | decide +kernel); (case k4 => with_unfolding_all rfl); (case k5 => (intro _; with_unfolding_all rfl)))); intro hone')
  k_with "subscriptTail Name Slice str ref" => ((with_reducible rename Fr _ _ _ _ => F'); (with_reducible rename News _ _ _ _ => N'); (first
  | ((with_reducible show wpAny _ _ (subscriptTail _ (Expr.Slice (some _) none none _) _ _) _ _ _); (refine' slice_strN_sn_len (s := ⟨_, _, _, _, _⟩) F' N' ?_ (hsz := ?hsz)); (case hsz => walk_at "str_fit"))
  | ((with_reducible show wpAny _ _ (subscriptTail _ (Expr.Slice none (some _) none _) _ _) _ _ _); (refine' slice_strN_ns_len (s := ⟨_, _, _, _, _⟩) F' N' ?_ (hsz := ?hsz)); (case hsz => walk_at "str_fit"))
  | ((with_reducible show wpAny _ _ (subscriptTail _ (Expr.Slice (some _) (some _) none _) _ _) _ _ _); (refine' slice_strN_ss_len (s := ⟨_, _, _, _, _⟩) F' N' ?_ (hsz := ?hsz)); (case hsz => walk_at "str_fit"))); intro _ _ _ _ _ _)
  k_with "call ref" => (k_here; (with_reducible show wpAny _ _ (call (Value.ref 28) _) _ _ _); (k_dflt (refine' Ct.use (rgb_spec _ _ _ _ _ _ _ _ ?p1 ?p2) ?k1 ?k2 ?k3 ?k4 ?k5 ?kK ?kd ?ku ?_; (case p1 => exact RgbOk.h1 (by assumption)); (case p2 => exact RgbOk.h2 (by assumption)); walk_at "ct_use")); intro r' tl' h' tk' F' N' l1 hP'; obtain ⟨D', c', t4', t5', t6', e1', e2', e3'⟩ := hP'; subst e1' e2' e3'; replace l1 := lt_tl1 l1; (try k_lt l1); (simp only [List.cons_append, List.nil_append] at N'); (try k_sweep); (try dsimp only); (try k_fold))
  k_with "call ref" => (k_here; (with_reducible show wpAny _ _ (call (Value.ref 86) _) _ _ _); (k_dflt (refine' Ct.use (p257_spec _ _ _ _ ?p1 ?p2) ?k1 ?k2 ?k3 ?k4 ?k5 ?kK ?kd ?ku ?_; (case p1 => assumption); (case p2 => assumption); walk_at "ct_use")); intro r' tl' h' tk' F' N' l1 hP'; obtain ⟨z', t4', e1', e2', e3'⟩ := hP'; subst e1' e2' e3'; (simp only [List.nil_append] at N'); (try k_sweep); (try dsimp only); (try k_fold))
  k_with "enterS" => (refine' code_defS ?k1 ?k2 ?k3 ?k4 ?k5 ?XB ?TB ?D ?T0 ?kA ?k6 ?k7 ?k8 ?k9 ?kB ?_ ?cK ?c2 ?c3 ?c4 ?c5; (case kA => exact rfl); (case k2 => k_asm); (case k1 => k_asm); (case XB => assumption); (case TB => assumption); (case D => assumption); (case T0 => first | assumption | exact KtsTurn.refl); (case k3 => k_asm); (case k4 => k_asm); (case k5 => k_asm); (case k6 => k_is); (case k7 => k_is); (case k8 => ktr_room); (case k9 => exact BindsTo.of_eq rfl); (case kB => exact locs rfl); (case cK => first | exact rfl | assumption); (case c2 => exact rfl); (case c3 => exact rfl); (case c4 => exact rfl); (case c5 => decide); k_whole; intro g' L' h' FG' F' N' B' X' T' D'; (try dsimp only); (try k_lift B'); (try k_fold))
  k_with "enterS0" => (refine' enter0X ?k1 ?k2 ?k3 ?k4 ?k5 ?kA ?kF ?cK ?k6 ?k7 ?k8 ?k9 ?kB ?_ ?c2 ?c3 ?c4 ?c5; (case kA => exact rfl); (case kF => exact rfl); (case cK => first | exact rfl | assumption); (case k2 => k_asm); (case k1 => k_asm); (case k3 => k_asm); (case k4 => k_asm); (case k5 => k_asm); (case k6 => k_is); (case k7 => k_is); (case k8 => ktr_room); (case k9 => exact BindsTo.of_eq rfl); (case kB => exact locs rfl); (case c2 => exact rfl); (case c3 => exact rfl); (case c4 => exact rfl); (case c5 => decide); k_whole; intro g' L' h' FG' F' N' B' X' T' D'; (try dsimp only); (try k_lift B'); (try k_fold))
  k_with "call ref" => (k_here; (with_reducible show wpAny _ _ (call (Value.ref 21) _) _ _ _); (k_dflt (refine' Ct.use (em_spec _ _ _ _ _ _ ?p1 ?p2) ?k1 ?k2 ?k3 ?k4 ?k5 ?kK ?kd ?ku ?_; (case p1 => walk_at "em_ok"); (case p2 => walk_at "em_len"); walk_at "ct_use")); intro r' tl' h' tk' F' N' l1 hP'; obtain ⟨e1', b', e2', e3'⟩ := hP'; subst e1' e2'; (simp only [List.nil_append] at N'); (try k_sweep); (try dsimp only); (try k_fold))
  k_with "em_len" => omega
  k_with "em_ok" => assumption
  trivial
abbrev rngO (n : Nat) (i : Nat) : Obj := { cls := .type "range_iterator", data := .fields #[rawInt (0 + (i : Nat) * 1), rawInt ((n : Int) - (i : Nat)), rawInt 1] }
section
variable {prog : Program} {w : World} {A : Around} {E : Value → Shared → Prop} {s : Shared} {h₀ : Heap} {L : Addr} {m : Str → Option Value} {env : Env} {news : Led}
/-- the loop of a comprehension over a range, its name a cell -/
theorem mix_loop {elt iter : Expr} {x : Str} {px : Pos} {scope : Scope} {cl : List (Str × Addr)} {pos : Pos} {RR : Result → Shared → Prop} {I C D cA : Addr} {n : Nat} {gs : List Int} {oC oA : Obj} {v₀ : Option Value}
    (hk : (compEnvC scope ((x, cA) :: cl) C env).scope.kind = .function) (hl : (compEnvC scope ((x, cA) :: cl) C env).kindOf x = some .cell) (hh : A.handled = none)
    (F : Fr h₀ L s.heap m) (N : News h₀ L s.heap ((C, oC) :: (cA, oA) :: (I, rngO n 0) :: (D, LCg.lst []) :: news)) (hA : oA.data = .cell v₀)
    (hCA : C ≠ cA) (hCI : C ≠ I) (hCD : C ≠ D) (hAI : cA ≠ I) (hAD : cA ≠ D) (hID : I ≠ D) (off : ∀ p ∈ news, p.1 ≠ cA ∧ p.1 ≠ I ∧ p.1 ≠ D) (hn : n ≤ 100) (hg : gs.length = n)
    (turn : ∀ i, i < n → ∃ y, gs[i]? = some y ∧ ∀ (I : Addr) (oI : Obj) (C : Addr) (oC : Obj) (cA : Addr) (oA : Obj) (D : Addr) (ys : List Value) (t : Tok) (h : Heap) (tk : Nat) (E' : Value → Shared → Prop),
      oA.data = .cell (some (.int (i : Int) t)) → Fr h₀ L h m → News h₀ L h ((C, oC) :: (cA, oA) :: (I, oI) :: (D, LCg.lst ys) :: news) →
      wpAny (model prog w) A (eval elt (compEnvC scope ((x, cA) :: cl) C env)) (CEnd h₀ L m ((C, oC) :: (cA, oA) :: (I, oI) :: (D, LCg.lst ys) :: news) { s with heap := h, toks := tk } y) E' { s with heap := h, toks := tk })
    (fin : ∀ h tk ys, IntsAre ys gs → Fr h₀ L h m → News h₀ L h ((C, oC) :: (D, LCg.lst ys) :: news) → RR (.ok .next) { s with heap := h, toks := tk }) :
    codeAny (model prog w) A (.compLoop (.ListComp elt [⟨.Name x px, iter, [], 0⟩] scope pos) 0 (.ref I) (.ref D) (compEnvC scope ((x, cA) :: cl) C env)) RR s := by
  have hI0 := (N (I, rngO n 0) (.tail _ (.tail _ (.head _)))).2
  have hA0 := (N (cA, oA) (.tail _ (.head _))).2
  have hD0 := (N (D, LCg.lst []) (.tail _ (.tail _ (.tail _ (.head _))))).2
  have W := LCg.range_walks (prog := prog) (w := w) (I := I) hh 0 n
  refine codeAny_compLoop_list (fun k s' => ∃ i ys oA' v' h' tk', k = n - i ∧ i ≤ n ∧ s' = { s with heap := h', toks := tk' } ∧ Fr h₀ L h' m ∧ News h₀ L h' ((C, oC) :: (cA, oA') :: (I, rngO n i) :: (D, LCg.lst ys) :: news) ∧ oA'.data = .cell v' ∧ IntsAre ys (gs.take i))
    ?_ n ⟨0, [], oA, v₀, s.heap, s.toks, rfl, Nat.zero_le _, rfl, F, N, hA, by rw [List.take_zero]; exact .nil⟩ (fun _ => rfl)
  rintro k s' ⟨i, ys, oA', v', h', tk', rfl, hi, rfl, F1, N1, hA1, hys⟩
  have hst : h'.get? I = some (rngO n i) := (N1 _ (.tail _ (.tail _ (.head _)))).1
  have ylen : ys.length = i := by have := IntsAre.length hys; rw [List.length_take] at this; omega
  have sub : ∀ p ∈ (C, oC) :: (cA, oA') :: (D, LCg.lst ys) :: news, p ∈ (C, oC) :: (cA, oA') :: (I, rngO n i) :: (D, LCg.lst ys) :: news ∧ p.1 ≠ I := fun p hp => by
    rcases List.mem_cons.mp hp with rfl | hp
    · exact ⟨.head _, hCI⟩
    rcases List.mem_cons.mp hp with rfl | hp
    · exact ⟨.tail _ (.head _), hAI⟩
    rcases List.mem_cons.mp hp with rfl | hp
    · exact ⟨.tail _ (.tail _ (.tail _ (.head _))), Ne.symm hID⟩
    · exact ⟨.tail _ (.tail _ (.tail _ (.tail _ hp))), (off p hp).2.1⟩
  by_cases hlt : i < n
  · refine W.item i _ _ _ hlt hst fun v h₂ tk₂ hv hst₂ hk₂ => ?_
    obtain ⟨t, rfl⟩ := hv
    obtain ⟨y, hgi, body⟩ := turn i hlt
    have kI : ∀ b o, b ≠ I → h'.get? b = some o → h₂.get? b = some o := fun b o hb e => hk₂ b o (by simpa using hb) e
    have F2 : Fr h₀ L h₂ m := ⟨F1.ns.at' fun o e => kI L o (Ne.symm hI0.1) e, fun b o e => kI b o (fun q => by rw [q, hI0.2] at e; cases e) (F1.keep b o e), F1.above⟩
    have N2 : News h₀ L h₂ ((C, oC) :: (cA, oA') :: (D, LCg.lst ys) :: news) := fun p hp => ⟨kI _ _ (sub p hp).2 (N1 p (sub p hp).1).1, (N1 p (sub p hp).1).2⟩
    refine wpAny_assign_Name (wpAny_storeName_cell hk hl (by simp [compEnvC]) ⟨oA', (N2 _ (.tail _ (.head _))).1, hA1⟩ fun h₃ hc₃ hs₃ => ?_)
    obtain ⟨oA3, gA3, dA3⟩ := hc₃
    have F3 : Fr h₀ L h₃ m := F2.change hs₃ hA0.1 hA0.2
    have hst₃ : h₃.get? I = some (rngO n (i + 1)) := (hs₃.2 _ (Ne.symm hAI)).trans hst₂
    have N3 : News h₀ L h₃ ((C, oC) :: (cA, oA3) :: (I, rngO n (i + 1)) :: (D, LCg.lst ys) :: news) := fun p hp => by
      rcases List.mem_cons.mp hp with rfl | hp
      · exact ⟨(hs₃.2 _ hCA).trans (N2 _ (.head _)).1, (N2 _ (.head _)).2⟩
      rcases List.mem_cons.mp hp with rfl | hp
      · exact ⟨gA3, hA0⟩
      rcases List.mem_cons.mp hp with rfl | hp
      · exact ⟨hst₃, hI0⟩
      rcases List.mem_cons.mp hp with rfl | hp
      · exact ⟨(hs₃.2 _ (Ne.symm hAD)).trans (N2 _ (.tail _ (.tail _ (.head _)))).1, hD0⟩
      · exact ⟨(hs₃.2 _ (off p hp).1).trans (N2 _ (.tail _ (.tail _ (.tail _ hp)))).1, (N2 _ (.tail _ (.tail _ (.tail _ hp)))).2⟩
    rw [show (0 : Int) + (i : Int) = (i : Int) by omega] at dA3
    refine wpAny_mono (body I (rngO n (i + 1)) C oC cA oA3 D ys t h₃ _ _ dA3 F3 N3) (fun r s₄ h₄ => ?_) fun _ _ e => e
    obtain ⟨tv, h8, tk8, rfl, rfl, F8, N8⟩ := h₄
    refine append_at (hsz := by rw [List.size_toArray, ylen, sizeLine_eq]; omega) (N8 (D, LCg.lst ys) (.tail _ (.tail _ (.tail _ (.head _))))).1 fun h9 hs9 hD9 => ?_
    refine ⟨n - (i + 1), by omega, i + 1, ys ++ [.int y tv], oA3, _, h9, tk8, rfl, hlt, rfl, F8.change hs9 hD0.1 hD0.2, fun p hp => ?_, dA3, ?_⟩
    · rcases List.mem_cons.mp hp with rfl | hp
      · exact ⟨(hs9.2 _ hCD).trans (N8 _ (.head _)).1, (N8 _ (.head _)).2⟩
      rcases List.mem_cons.mp hp with rfl | hp
      · exact ⟨(hs9.2 _ hAD).trans (N8 _ (.tail _ (.head _))).1, hA0⟩
      rcases List.mem_cons.mp hp with rfl | hp
      · exact ⟨(hs9.2 _ hID).trans (N8 _ (.tail _ (.tail _ (.head _)))).1, hI0⟩
      rcases List.mem_cons.mp hp with rfl | hp
      · exact ⟨hD9.trans (congrArg some (LCg.lst_snoc ys _)), hD0⟩
      · exact ⟨(hs9.2 _ (off p hp).2.2).trans (N8 _ (.tail _ (.tail _ (.tail _ (.tail _ hp))))).1, (N8 _ (.tail _ (.tail _ (.tail _ (.tail _ hp))))).2⟩
    · rw [take_snoc' hgi]; exact intsAre_snoc hys y tv
  · have hin : i = n := by omega
    subst hin
    refine W.done _ _ _ hst fun h₂ tk₂ hk₂ => ?_
    have kI : ∀ b o, b ≠ I → h'.get? b = some o → h₂.get? b = some o := fun b o hb e => hk₂ b o (by simpa using hb) e
    rw [← hg, List.take_length] at hys
    refine fin h₂ tk₂ ys hys ⟨F1.ns.at' fun o e => kI L o (Ne.symm hI0.1) e, fun b o e => kI b o (fun q => by rw [q, hI0.2] at e; cases e) (F1.keep b o e), F1.above⟩ fun p hp => ?_
    have hp1 : p ∈ (C, oC) :: (cA, oA') :: (D, LCg.lst ys) :: news := by
      rcases List.mem_cons.mp hp with rfl | hp
      · exact .head _
      · exact .tail _ (.tail _ hp)
    exact ⟨kI _ _ (sub p hp1).2 (N1 p (sub p hp1).1).1, (N1 p (sub p hp1).1).2⟩
theorem newEnv_cell {scope : Scope} {globals : Addr} {cl : List (Str × Addr)} {qual : Str} {code : Value} {x : Str} {Q : Env → Shared → Prop} (hcf : ∀ n, cellsFrom n scope.names cl = (x, n) :: cl) (hpc : ∀ h, pushCells h scope.names = h.push { cls := .type "cell", data := .cell none })
    (hQ : Q { scope, locals := s.heap.objs.size, globals, cells := (x, s.heap.objs.size + 1) :: cl, qual, func := none, code := env.code, frame := env.frame, builtins := env.builtins }
      { s with heap := (s.heap.push { cls := .type "dict", data := .dict #[] }).push { cls := .type "cell", data := .cell none } }) :
    wpAny (model prog w) A (newFunctionEnv scope globals cl [] qual none code (some env)) Q E s := by
  simp only [newFunctionEnv, Option.isSome_some, if_true]
  refine wpAny_bind (wpAny_alloc ?_)
  refine wpAny_bind (wpAny_layCells _ (fun name kind cells => by cases hkc : kind == NameKind.cell <;> simp [hkc]) _ _ _ _ ?_)
  rw [hpc, hcf, Heap.size_push]
  exact wpAny_bind (wpAny_pure (wpAny_pure hQ))
/-- what is to be shown behind the range of a comprehension whose name is a cell -/
def MixSrc (prog : Program) (w : World) (A : Around) (h₀ : Heap) (L : Addr) (m : Str → Option Value) (env : Env) (news : Led) (elt : Expr) (x : Str) (scope : Scope) (cl : List (Str × Addr)) (y : Str) (Q : Flow → Shared → Prop) (xv : Value) (s₁ : Shared) : Prop :=
  ∃ (r : Addr) (t u v : Tok) (n : Nat) (gs : List Int), xv = .ref r ∧ A.handled = none ∧ Fr h₀ L s₁.heap m ∧ News h₀ L s₁.heap news ∧ IsRange s₁.heap r 0 n 1 t u v ∧ Builtin.Range.small 0 n 1 = true ∧ Builtin.Range.rangeSize 0 n 1 = n ∧ n ≤ 100 ∧ gs.length = n ∧
    (∀ i, i < n → ∃ y, gs[i]? = some y ∧ ∀ (I : Addr) (oI : Obj) (C : Addr) (oC : Obj) (cA : Addr) (oA : Obj) (D : Addr) (ys : List Value) (t : Tok) (h : Heap) (tk : Nat) (E' : Value → Shared → Prop),
      oA.data = .cell (some (.int (i : Int) t)) → Fr h₀ L h m → News h₀ L h ((C, oC) :: (cA, oA) :: (I, oI) :: (D, LCg.lst ys) :: news) →
      wpAny (model prog w) A (eval elt (compEnvC scope ((x, cA) :: cl) C env)) (CEnd h₀ L m ((C, oC) :: (cA, oA) :: (I, oI) :: (D, LCg.lst ys) :: news) { s₁ with heap := h, toks := tk } y) E' { s₁ with heap := h, toks := tk }) ∧
    ∀ D h tk ys, IntsAre ys gs → Fr h₀ L h (fun z => if z = y then some (.ref D) else m z) → News h₀ L h ((D, LCg.lst ys) :: news) → (∀ p ∈ news, p.1 < D) → Q .next { s₁ with heap := h, toks := tk }
theorem assign_mix {elt iter : Expr} {x y : Str} {px py : Pos} {scope : Scope} {cl : List (Str × Addr)} {pos spos : Pos} {Q : Flow → Shared → Prop} (hLe : env.locals = L)
    (hsw : swapsWith (.ListComp elt [⟨.Name x px, iter, [], 0⟩] scope pos) (some (.Name y py)) spos.line env = pure true)
    (hclos : closureFor scope env = pure cl) (hcf : ∀ n, cellsFrom n scope.names cl = (x, n) :: cl) (hpc : ∀ h, pushCells h scope.names = h.push { cls := .type "cell", data := .cell none }) (hkind : scope.kind = .function)
    (hnames : ∀ z ∈ scope.names, z.2 = .local → scope.names.lookup z.1 = some .local) (hl : ∀ C c, (compEnvC scope ((x, c) :: cl) C env).kindOf x = some .cell)
    (hy : env.kindOf y = some .local) (hp : (env.scope.kind == .class || (env.scope.kind == .module && env.locals != env.globals)) = false) (hs : ∀ x, foldedSetIterable iter env x = pure x)
    (h : wpAny (model prog w) A (eval iter env) (MixSrc prog w A h₀ L m env news elt x scope cl y Q) E s) :
    wpAny (model prog w) A (exec (.Assign [.Name y py] (.ListComp elt [⟨.Name x px, iter, [], 0⟩] scope pos) spos) env) Q E s := by
  subst hLe
  rw [exec_Assign_Name_used _ _ _ _ hsw]
  refine wpAny_bind (wpAny_standAt (wpAny_bind ?_))
  show wpAny _ A (do let _ ← comprehension (.ListComp elt [⟨.Name x px, iter, [], 0⟩] scope pos) scope env _ (newList []) false (eval iter env) (some (assign (.Name y py) env))) _ _ s
  refine wpAny_bind (wpAny_mono (wpAny_comprehension_free (use := some (assign (.Name y py) env)) (Q := fun _ s' => Q .next s') rfl hs hclos hkind hnames (wpAny_mono h (fun xv s₁ h₁ => ?_) fun _ _ e => e)) (fun _ s' hq => wpAny_pure (wpAny_pure hq)) fun _ _ e => e)
  obtain ⟨r, t, u, v, n, gs, rfl, hh, F, N, hr, hsm, hrs, hn, hg, turn, fin⟩ := h₁
  refine wpAny_pyIter_range hr hsm ?_
  rw [hrs]
  refine wpAny_newObj_type (newEnv_cell hcf hpc ?_)
  dsimp only
  generalize hH1 : s₁.heap.push { cls := .type "range_iterator", data := .fields #[rawInt 0, rawInt (n : Int), rawInt 1] } = H1
  have z1 : H1.objs.size = s₁.heap.objs.size + 1 := by rw [← hH1, Heap.size_push]
  generalize hH2 : H1.push { cls := .type "list", dict := none, data := .seq ([] : List Value).toArray } = H2
  have z2 : H2.objs.size = s₁.heap.objs.size + 1 + 1 := by rw [← hH2, Heap.size_push, z1]
  generalize hH3 : H2.push { cls := .type "dict", data := .dict #[] } = H3
  have z3 : H3.objs.size = H2.objs.size + 1 := by rw [← hH3, Heap.size_push]
  rw [← z3]
  have up : ∀ b o, s₁.heap.get? b = some o → (H3.push { cls := .type "cell", data := .cell none }).get? b = some o := fun b o e => Heap.get?_push_of_some _ (hH3 ▸ Heap.get?_push_of_some _ (hH2 ▸ Heap.get?_push_of_some _ (hH1 ▸ Heap.get?_push_of_some _ e)))
  have gI : (H3.push { cls := .type "cell", data := .cell none }).get? s₁.heap.objs.size = some (rngO n 0) := Heap.get?_push_of_some _ (hH3 ▸ Heap.get?_push_of_some _ (hH2 ▸ Heap.get?_push_of_some _ (hH1 ▸ by
    rw [show rngO n 0 = { cls := .type "range_iterator", data := .fields #[rawInt 0, rawInt (n : Int), rawInt 1] } by simp [rngO]]
    exact Heap.get?_push_size _ rfl)))
  have gD : (H3.push { cls := .type "cell", data := .cell none }).get? H1.objs.size = some (LCg.lst []) := Heap.get?_push_of_some _ (hH3 ▸ Heap.get?_push_of_some _ (hH2 ▸ Heap.get?_push_size _ rfl))
  have nsC : (H3.push { cls := .type "cell", data := .cell none }).Ns H2.objs.size (fun _ => none) := (hH3 ▸ Heap.Ns.new H2 (.type "dict") : H3.Ns H2.objs.size (fun _ => none)).keeps fun b o e => Heap.get?_push_of_some _ e
  have gA : (H3.push { cls := .type "cell", data := .cell none }).get? H3.objs.size = some { cls := .type "cell", data := .cell none } := Heap.get?_push_size _ rfl
  obtain ⟨oC, gC, hC⟩ := LCg.ns_obj nsC
  have hLlt : @LT.lt Nat _ env.locals s₁.heap.objs.size := F.ns.lt
  have fresh : ∀ a, s₁.heap.objs.size ≤ a → h₀.get? a = none := fun a ha => by
    cases e : h₀.get? a with
    | none => rfl
    | some o' => exact absurd (Heap.lt_size (F.keep a o' e)) (Nat.not_lt.mpr ha)
  have F1 : Fr h₀ env.locals (H3.push { cls := .type "cell", data := .cell none }) m := F.keeps up
  have N1 : News h₀ env.locals (H3.push { cls := .type "cell", data := .cell none }) ((H2.objs.size, oC) :: (H3.objs.size, ({ cls := .type "cell", data := .cell none } : Obj)) :: (s₁.heap.objs.size, rngO n 0) :: (H1.objs.size, LCg.lst []) :: news) := fun p hp => by
    rcases List.mem_cons.mp hp with rfl | hp
    · exact ⟨gC, Nat.ne_of_gt (by show @LT.lt Nat _ env.locals H2.objs.size; omega), fresh _ (by show @LE.le Nat _ s₁.heap.objs.size H2.objs.size; omega)⟩
    rcases List.mem_cons.mp hp with rfl | hp
    · exact ⟨gA, Nat.ne_of_gt (by show @LT.lt Nat _ env.locals H3.objs.size; omega), fresh _ (by show @LE.le Nat _ s₁.heap.objs.size H3.objs.size; omega)⟩
    rcases List.mem_cons.mp hp with rfl | hp
    · exact ⟨gI, Nat.ne_of_gt hLlt, fresh _ (Nat.le_refl _)⟩
    rcases List.mem_cons.mp hp with rfl | hp
    · exact ⟨gD, Nat.ne_of_gt (by show @LT.lt Nat _ env.locals H1.objs.size; omega), fresh _ (by show @LE.le Nat _ s₁.heap.objs.size H1.objs.size; omega)⟩
    · exact ⟨up _ _ (N p hp).1, (N p hp).2⟩
  have hlt : ∀ p ∈ news, @LT.lt Nat _ p.1 s₁.heap.objs.size := fun p hp => Heap.lt_size (N p hp).1
  have loop : ∀ s₃ : Shared, s₃ = { s₁ with heap := H3.push { cls := .type "cell", data := .cell none } } →
      codeAny (model prog w) A (.compLoop (.ListComp elt [⟨.Name x px, iter, [], 0⟩] scope pos) 0 (.ref s₁.heap.objs.size) (.ref H1.objs.size) (compEnvC scope ((x, H3.objs.size) :: cl) H2.objs.size env))
        (compPost (model prog w) A E (some (assign (.Name y py) env)) (fun _ s' => Q .next s') (.ref H1.objs.size) H2.objs.size) s₃ := by
    rintro s₃ rfl
    refine mix_loop (n := n) (gs := gs) (v₀ := none) (by show (relabel scope env).kind = _; exact hkind) (hl _ _) hh F1 N1 rfl (by show @Ne Nat _ _; omega) (by show @Ne Nat _ _; omega) (by show @Ne Nat _ _; omega) (by show @Ne Nat _ _; omega) (by show @Ne Nat _ _; omega) (by show @Ne Nat _ _; omega)
      (fun p hp => ⟨Nat.ne_of_lt (by have := hlt p hp; show @LT.lt Nat _ p.1 H3.objs.size; omega), Nat.ne_of_lt (hlt p hp), Nat.ne_of_lt (by have := hlt p hp; show @LT.lt Nat _ p.1 H1.objs.size; omega)⟩) hn hg turn ?_
    intro h' tk ys hys F2 N2
    show wpAny _ A (assign (.Name y py) env (.ref H1.objs.size)) _ _ _
    refine wpAny_assign_Name (wpAny_storeName_local hy F2.ns (fun h₂ hn₂ hs₂ => ?_) hp)
    have hL₀ : h₀.get? env.locals = none := Heap.get?_none_of_le F2.above
    have hC0 := (N2 _ (.head _)).2
    have F3 : Fr h₀ env.locals h₂ (fun z => if z = y then some (.ref H1.objs.size) else m z) := ⟨hn₂, fun b o e => hs₂.extBut b o (fun q => by rw [q, hL₀] at e; cases e) (F2.keep b o e), F2.above⟩
    refine ⟨_, (hC.ns (N2 _ (.head _)).1).sameBut hs₂ hC0.1, fun h'' hs'' => ?_⟩
    refine fin H1.objs.size h'' _ ys hys (F3.change hs'' hC0.1 hC0.2) (fun p hp => ?_) fun p hp => ?_
    · have z := N2 p (.tail _ hp)
      have hne : p.1 ≠ H2.objs.size := by
        rcases List.mem_cons.mp hp with rfl | hp
        · show @Ne Nat _ _; omega
        · exact Nat.ne_of_lt (by have := hlt p hp; show @LT.lt Nat _ p.1 H2.objs.size; omega)
      exact ⟨(hs''.2 _ hne).trans ((hs₂.2 _ z.2.1).trans z.1), z.2⟩
    · have := hlt p hp
      show @LT.lt Nat _ p.1 H1.objs.size
      omega
  exact codeAny_compStart_list (loop _ rfl) (wpAny_pyIter_rangeiter gI (loop _ rfl))
end

theorem law6_rows1 : True := by
  k_with_none
  w_top off
  k_with "led_sub" => first | exact fun p hp => hp | (intro p hp; repeat' (first | exact hp | refine List.Mem.tail _ ?_))
  k_with "led_lt" => first | assumption | exact ktn_ltOf (by assumption) | exact lt1 (by assumption) | exact lt2 (by assumption) | exact lt3 (by assumption) | exact lt4 (by assumption)
  k_with "ct_fill" => (refine fillIt ?_; k_fill; intro _; unfold Ct)
  k_with "ct_enter" => (refine wpAny_call ?_; k_dflt cell_enter)
  k_with "ct_use" => ((case k1 => k_asm); (case k2 => k_asm); (case k3 => k_asm); (case k4 => k_asm); (case k5 => k_asm); (case kK => first | exact rfl | assumption); (case kd => ktr_room); (case ku => ktr_units))
  k_with "subscriptTail" => (k_here; (with_reducible show wpAny _ _ (subscriptTail _ _ (Value.ref _) (Value.int _ _)) _ _ _); (k_dflt (refine' tup_item ?k1 ?k2 ?k3 ?k4 ?k5 ?k6 ?_; (case k1 => k_asm); (case k2 => first | assumption | k_mem); (case k3 => decide); (case k4 => decide); (case k5 => exact rfl); (case k6 => with_unfolding_all rfl); k_whole)))
  k_with "call builtin:max" => ((with_reducible show wpAny _ _ (call _ [Value.float _ _, Value.float _ _, Value.float _ _]) _ _ _); (rename News _ _ _ _ => N'); (rename Fr _ _ _ _ => F'); refine max3_K rfl F' N' ?_; clear N'; intro _ _ _ _ _)
  k_with "call builtin:min" => ((with_reducible show wpAny _ _ (call _ [Value.float _ _, Value.float _ _, Value.float _ _]) _ _ _); (rename News _ _ _ _ => N'); (rename Fr _ _ _ _ => F'); refine min3_K rfl F' N' ?_; clear N'; intro _ _ _ _ _)
  k_with "subscriptTail" => (k_here; (with_reducible show wpAny _ _ (subscriptTail _ _ (Value.ref _) (Value.int _ _)) _ _ _); (k_dflt (refine' lst_item3 ?k1 ?k2 ?k3 ?k4 ?k6 ?_ ?_ ?_; (case k1 => k_asm); (case k2 => k_mem); (case k3 => omega); (case k4 => omega); (case k6 => with_unfolding_all rfl); all_goals (k_whole; intro hidx))))
  k_with "str_fit" => first | decide +kernel | (simp only [Str.length_append]; omega)
  k_with "binaryOp Add str str" => (k_here; (with_reducible show wpAny _ _ (binaryOp Operator.Add (Value.str _ _) (Value.str _ _)) _ _ _); (refine' add_m ?ksz ?_; (case ksz => walk_at "str_fit")); intro tx' kx' hx'; (try dsimp only at hx'))
  k_with "call builtin:str.replace" => (k_here; (refine' repl_m ?k1 ?k2 ?k3 ?k4 ?k5 ?k6 ?_; (case k1 => (show (0 : Nat) < _); omega); (case k2 => (show (0 : Nat) < _); omega); (case k3 => (show @Ne Nat _ _); omega); (case k4 => decide +kernel); (case k5 => walk_at "str_fit"); (case k6 => walk_at "str_fit")); intro tx' kx' hx'; (try dsimp only at hx'))
  k_with "subscriptTail" => (k_here; (with_reducible show wpAny _ _ (subscriptTail _ _ (Value.str _ _) (Value.int _ _)) _ _ _); (k_dflt (refine' str_item ?k1 ?k2 ?k3 ?k4 ?k5 ?_; (case k1 => omega); (case k2 => first | omega | exact Int.lt_of_lt_of_le (b := 4) (by omega) (by decide +kernel)); (case k3 => first | omega | decide +kernel); (case k4 => with_unfolding_all rfl); (case k5 => (intro _; with_unfolding_all rfl)))); intro hone')
  k_with "subscriptTail Name Slice str ref" => ((with_reducible rename Fr _ _ _ _ => F'); (with_reducible rename News _ _ _ _ => N'); (first
  | ((with_reducible show wpAny _ _ (subscriptTail _ (Expr.Slice (some _) none none _) _ _) _ _ _); (refine' slice_strN_sn_len (s := ⟨_, _, _, _, _⟩) F' N' ?_ (hsz := ?hsz)); (case hsz => walk_at "str_fit"))
  | ((with_reducible show wpAny _ _ (subscriptTail _ (Expr.Slice none (some _) none _) _ _) _ _ _); (refine' slice_strN_ns_len (s := ⟨_, _, _, _, _⟩) F' N' ?_ (hsz := ?hsz)); (case hsz => walk_at "str_fit"))
  | ((with_reducible show wpAny _ _ (subscriptTail _ (Expr.Slice (some _) (some _) none _) _ _) _ _ _); (refine' slice_strN_ss_len (s := ⟨_, _, _, _, _⟩) F' N' ?_ (hsz := ?hsz)); (case hsz => walk_at "str_fit"))); intro _ _ _ _ _ _)
  k_with "call ref" => (k_here; (with_reducible show wpAny _ _ (call (Value.ref 28) _) _ _ _); (k_dflt (refine' Ct.use (rgb_spec _ _ _ _ _ _ _ _ ?p1 ?p2) ?k1 ?k2 ?k3 ?k4 ?k5 ?kK ?kd ?ku ?_; (case p1 => exact RgbOk.h1 (by assumption)); (case p2 => exact RgbOk.h2 (by assumption)); walk_at "ct_use")); intro r' tl' h' tk' F' N' l1 hP'; obtain ⟨D', c', t4', t5', t6', e1', e2', e3'⟩ := hP'; subst e1' e2' e3'; replace l1 := lt_tl1 l1; (try k_lt l1); (simp only [List.cons_append, List.nil_append] at N'); (try k_sweep); (try dsimp only); (try k_fold))
  k_with "call ref" => (k_here; (with_reducible show wpAny _ _ (call (Value.ref 86) _) _ _ _); (k_dflt (refine' Ct.use (p257_spec _ _ _ _ ?p1 ?p2) ?k1 ?k2 ?k3 ?k4 ?k5 ?kK ?kd ?ku ?_; (case p1 => assumption); (case p2 => assumption); walk_at "ct_use")); intro r' tl' h' tk' F' N' l1 hP'; obtain ⟨z', t4', e1', e2', e3'⟩ := hP'; subst e1' e2' e3'; (simp only [List.nil_append] at N'); (try k_sweep); (try dsimp only); (try k_fold))
  k_with "enterS" => (refine' code_defS ?k1 ?k2 ?k3 ?k4 ?k5 ?XB ?TB ?D ?T0 ?kA ?k6 ?k7 ?k8 ?k9 ?kB ?_ ?cK ?c2 ?c3 ?c4 ?c5; (case kA => exact rfl); (case k2 => k_asm); (case k1 => k_asm); (case XB => assumption); (case TB => assumption); (case D => assumption); (case T0 => first | assumption | exact KtsTurn.refl); (case k3 => k_asm); (case k4 => k_asm); (case k5 => k_asm); (case k6 => k_is); (case k7 => k_is); (case k8 => ktr_room); (case k9 => exact BindsTo.of_eq rfl); (case kB => exact locs rfl); (case cK => first | exact rfl | assumption); (case c2 => exact rfl); (case c3 => exact rfl); (case c4 => exact rfl); (case c5 => decide); k_whole; intro g' L' h' FG' F' N' B' X' T' D'; (try dsimp only); (try k_lift B'); (try k_fold))
  k_with "enterS0" => (refine' enter0X ?k1 ?k2 ?k3 ?k4 ?k5 ?kA ?kF ?cK ?k6 ?k7 ?k8 ?k9 ?kB ?_ ?c2 ?c3 ?c4 ?c5; (case kA => exact rfl); (case kF => exact rfl); (case cK => first | exact rfl | assumption); (case k2 => k_asm); (case k1 => k_asm); (case k3 => k_asm); (case k4 => k_asm); (case k5 => k_asm); (case k6 => k_is); (case k7 => k_is); (case k8 => ktr_room); (case k9 => exact BindsTo.of_eq rfl); (case kB => exact locs rfl); (case c2 => exact rfl); (case c3 => exact rfl); (case c4 => exact rfl); (case c5 => decide); k_whole; intro g' L' h' FG' F' N' B' X' T' D'; (try dsimp only); (try k_lift B'); (try k_fold))
  k_with "call ref" => (k_here; (with_reducible show wpAny _ _ (call (Value.ref 21) _) _ _ _); (k_dflt (refine' Ct.use (em_spec _ _ _ _ _ _ ?p1 ?p2) ?k1 ?k2 ?k3 ?k4 ?k5 ?kK ?kd ?ku ?_; (case p1 => walk_at "em_ok"); (case p2 => walk_at "em_len"); walk_at "ct_use")); intro r' tl' h' tk' F' N' l1 hP'; obtain ⟨e1', b', e2', e3'⟩ := hP'; subst e1' e2'; (simp only [List.nil_append] at N'); (try k_sweep); (try dsimp only); (try k_fold))
  k_with "em_len" => omega
  k_with "em_ok" => assumption
  trivial
def T3.get (x : T3) : Nat → Nat
  | 0 => x.a
  | 1 => x.b
  | _ => x.c
/-- the light that both colours of a vote have of the a-th kind, in 512ths -/
def mixV (a : Nat) (v : Vt) : Int := ((v.one.get a : Nat) : Int) + ((v.two.get a : Nat) : Int)
def hereS (a : Nat) : Str := ([sR, sQ, sB, sR] : List Str).getD a sR
def leadV (a : Nat) (v : Vt) : Int := v.n * fll (hereS a) v.name
def duelV (a : Nat) (v : Vt) : Int := v.n * (duel (hereS a) (hereS (a + 1)) v.name - duel (hereS (a + 1)) (hereS a) v.name)
def sumI (l : List Int) : Int := l.foldr (· + ·) 0
theorem sumI_append (l m : List Int) : sumI (l ++ m) = sumI l + sumI m := by
  induction l with
  | nil => simp [sumI]
  | cons a l ih => simp only [sumI, List.cons_append, List.foldr_cons] at ih ⊢; rw [ih]; omega
theorem sumI_one (a : Int) : sumI [a] = a := by simp [sumI]
theorem mid_int {c w x : Nat} (hc : c < 5) (hx : x ≤ 8) : ((mid c w x : Nat) : Int) = 32 * (w : Int) - (c : Int) * w * x := by
  have h := cj_le hc hx
  unfold mid
  obtain ⟨d, hd⟩ : ∃ d, 32 = c * x + d := ⟨32 - c * x, by omega⟩
  rw [hd, Nat.add_sub_cancel_left]
  have e : (32 : Int) = (c : Int) * x + d := by exact_mod_cast hd
  rw [e, Int.natCast_mul, Int.add_mul]
  rw [show (c : Int) * x * w = c * w * x by rw [Int.mul_assoc, Int.mul_comm (x : Int), ← Int.mul_assoc], show (d : Int) * w = w * d from Int.mul_comm _ _]
  omega
theorem hi_int (w : Nat) : ((hi w : Nat) : Int) = 32 * (w : Int) := by unfold hi; omega
theorem mid_pair {c w f : Nat} (hc : c < 5) (f1 : 1 ≤ f) (f7 : f ≤ 7) : ((mid c w (8 - f) : Nat) : Int) + ((mid c w f : Nat) : Int) = 64 * (w : Int) - 8 * ((c : Int) * w) := by
  rw [mid_int hc (by omega), mid_int hc (by omega)]
  have e : (((8 - f : Nat) : Nat) : Int) = 8 - f := by omega
  rw [e, Int.mul_sub]
  omega
theorem mid_low {c w : Nat} (hc : c < 5) : ((mid c w 8 : Nat) : Int) + ((mid c w 8 : Nat) : Int) = 64 * (w : Int) - 16 * ((c : Int) * w) := by
  rw [mid_int hc (by omega)]
  omega
def fllB (i a : Nat) (v : Int) : Bool := decide (fll (hereS a) (nameAt i) = v)
def duelB (i a : Nat) (v : Int) : Bool := decide (duel (hereS a) (hereS (a + 1)) (nameAt i) - duel (hereS (a + 1)) (hereS a) (nameAt i) = v)
def leadT : List (List Int) := [[1, 0, -1], [0, 1, -1], [-1, 1, 0], [-1, 0, 1], [0, -1, 1], [1, -1, 0]]
def duelT : List (List Int) := [[1, 1, -1], [-1, 1, -1], [-1, 1, 1], [-1, -1, 1], [1, -1, 1], [1, -1, -1]]
theorem t_fll : ((List.range 6).all fun i => (List.range 3).all fun a => fllB i a ((leadT.getD i []).getD a 0)) = true := by decide +kernel
theorem t_duel : ((List.range 6).all fun i => (List.range 3).all fun a => duelB i a ((duelT.getD i []).getD a 0)) = true := by decide +kernel
theorem mixes {v : Vt} {k f c w : Nat} (f1 : 1 ≤ f) (f7 : f ≤ 7) (hc : c < 5) (h1 : v.one = colOf k f c w) (h2 : v.two = colOf k (8 - f) c w) {P : Int} (hP : P = (c : Int) * w) :
    (k % 6 = 0 ∧ mixV 0 v = 64 * w ∧ mixV 1 v = 64 * w - 8 * P ∧ mixV 2 v = 64 * w - 16 * P) ∨ (k % 6 = 1 ∧ mixV 0 v = 64 * w - 8 * P ∧ mixV 1 v = 64 * w ∧ mixV 2 v = 64 * w - 16 * P) ∨
    (k % 6 = 2 ∧ mixV 0 v = 64 * w - 16 * P ∧ mixV 1 v = 64 * w ∧ mixV 2 v = 64 * w - 8 * P) ∨ (k % 6 = 3 ∧ mixV 0 v = 64 * w - 16 * P ∧ mixV 1 v = 64 * w - 8 * P ∧ mixV 2 v = 64 * w) ∨
    (k % 6 = 4 ∧ mixV 0 v = 64 * w - 8 * P ∧ mixV 1 v = 64 * w - 16 * P ∧ mixV 2 v = 64 * w) ∨ (k % 6 = 5 ∧ mixV 0 v = 64 * w ∧ mixV 1 v = 64 * w - 16 * P ∧ mixV 2 v = 64 * w - 8 * P) := by
  have a1 := mid_pair (w := w) hc f1 f7
  have a2 := mid_low (w := w) hc
  have a3 := hi_int w
  have e8 : 8 - (8 - f) = f := by omega
  rw [← hP] at a1 a2
  unfold mixV
  rw [h1, h2]
  have cs : k % 6 = 0 ∨ k % 6 = 1 ∨ k % 6 = 2 ∨ k % 6 = 3 ∨ k % 6 = 4 ∨ k % 6 = 5 := by omega
  rcases cs with h | h | h | h | h | h
  · refine .inl ⟨h, ?_⟩
    simp only [colOf, h, T3.get, e8]
    omega
  · refine .inr (.inl ⟨h, ?_⟩)
    simp only [colOf, h, T3.get, e8]
    omega
  · refine .inr (.inr (.inl ⟨h, ?_⟩))
    simp only [colOf, h, T3.get, e8]
    omega
  · refine .inr (.inr (.inr (.inl ⟨h, ?_⟩)))
    simp only [colOf, h, T3.get, e8]
    omega
  · refine .inr (.inr (.inr (.inr (.inl ⟨h, ?_⟩))))
    simp only [colOf, h, T3.get, e8]
    omega
  · refine .inr (.inr (.inr (.inr (.inr ⟨h, ?_⟩))))
    simp only [colOf, h, T3.get, e8]
    omega
theorem all_range {n : Nat} {p : Nat → Bool} (h : (List.range n).all p = true) {i : Nat} (hi : i < n) : p i = true := List.all_eq_true.mp h i (List.mem_range.mpr hi)
theorem fll_at {i a : Nat} (hi : i < 6) (ha : a < 3) : fll (hereS a) (nameAt i) = (leadT.getD i []).getD a 0 := of_decide_eq_true (all_range (all_range t_fll hi) ha)
theorem duel_at {i a : Nat} (hi : i < 6) (ha : a < 3) : duel (hereS a) (hereS (a + 1)) (nameAt i) - duel (hereS (a + 1)) (hereS a) (nameAt i) = (duelT.getD i []).getD a 0 := of_decide_eq_true (all_range (all_range t_duel hi) ha)
/-- the law of one vote -/
theorem vote_law {v : Vt} {cy : Int} (h : VoteOk v cy) {a : Nat} (ha : a < 3) : 3 * mixV a v - (mixV 0 v + mixV 1 v + mixV 2 v) = 24 * leadV a v ∧ 12 * duelV a v = mixV a v - mixV ((a + 1) % 3) v + 4 * cy := by
  obtain ⟨k, f, c, w, hk, f1, f7, hc, hw, h1, h2, hn, hnm, hcy⟩ := h
  obtain ⟨P, hP⟩ : ∃ P : Int, P = (c : Int) * w := ⟨_, rfl⟩
  have hM := mixes f1 f7 hc h1 h2 hP
  rw [Int.natCast_mul, ← hP] at hn hcy
  unfold leadV duelV
  rw [hn, hcy]
  have ca : a = 0 ∨ a = 1 ∨ a = 2 := by omega
  have hk2 : k % 2 = (k % 6) % 2 := by omega
  by_cases h0 : c * w = 0
  · have P0 : P = 0 := by rw [hP, ← Int.natCast_mul, h0]; rfl
    subst P0
    simp only [Int.zero_mul, Int.mul_zero, Int.sub_zero] at hM ⊢
    rcases ca with rfl | rfl | rfl <;> rcases hM with ⟨_, e0, e1, e2⟩ | ⟨_, e0, e1, e2⟩ | ⟨_, e0, e1, e2⟩ | ⟨_, e0, e1, e2⟩ | ⟨_, e0, e1, e2⟩ | ⟨_, e0, e1, e2⟩ <;> simp only [Nat.zero_add, Nat.reduceAdd, Nat.reduceMod, e0, e1, e2] <;> omega
  · rw [if_neg h0] at hnm
    have hi : k % 6 < 6 := by omega
    rw [hnm, fll_at hi ha, duel_at hi ha, hk2]
    rcases hM with ⟨hj, e0, e1, e2⟩ | ⟨hj, e0, e1, e2⟩ | ⟨hj, e0, e1, e2⟩ | ⟨hj, e0, e1, e2⟩ | ⟨hj, e0, e1, e2⟩ | ⟨hj, e0, e1, e2⟩ <;> rw [hj] <;> rcases ca with rfl | rfl | rfl <;>
      simp only [Nat.zero_add, Nat.reduceAdd, Nat.reduceMod, e0, e1, e2, leadT, duelT, List.getD_cons_zero, List.getD_cons_succ] <;> omega
/-- the law of all votes -/
theorem votes_law {vts : List Vt} {cs : List Int} (h : VC vts cs) {a : Nat} (ha : a < 3) :
    3 * sumI (vts.map (mixV a)) - (sumI (vts.map (mixV 0)) + sumI (vts.map (mixV 1)) + sumI (vts.map (mixV 2))) = 24 * sumI (vts.map (leadV a)) ∧
      12 * sumI (vts.map (duelV a)) = sumI (vts.map (mixV a)) - sumI (vts.map (mixV ((a + 1) % 3))) + 4 * sumI cs := by
  induction h with
  | nil => constructor <;> rfl
  | snoc _ hv ih =>
    have := vote_law hv ha
    simp only [List.map_append, List.map_cons, List.map_nil, sumI_append, sumI_one]
    omega

theorem law7_rows1 : True := by
  k_with_none
  w_top off
  k_with "led_sub" => first | exact fun p hp => hp | (intro p hp; repeat' (first | exact hp | refine List.Mem.tail _ ?_))
  k_with "led_lt" => first | assumption | exact ktn_ltOf (by assumption) | exact lt1 (by assumption) | exact lt2 (by assumption) | exact lt3 (by assumption) | exact lt4 (by assumption)
  k_with "ct_fill" => (refine fillIt ?_; k_fill; intro _; unfold Ct)
  k_with "ct_enter" => (refine wpAny_call ?_; k_dflt cell_enter)
  k_with "ct_use" => ((case k1 => k_asm); (case k2 => k_asm); (case k3 => k_asm); (case k4 => k_asm); (case k5 => k_asm); (case kK => first | exact rfl | assumption); (case kd => ktr_room); (case ku => ktr_units))
  k_with "subscriptTail" => (k_here; (with_reducible show wpAny _ _ (subscriptTail _ _ (Value.ref _) (Value.int _ _)) _ _ _); (k_dflt (refine' tup_item ?k1 ?k2 ?k3 ?k4 ?k5 ?k6 ?_; (case k1 => k_asm); (case k2 => first | assumption | k_mem); (case k3 => decide); (case k4 => decide); (case k5 => exact rfl); (case k6 => with_unfolding_all rfl); k_whole)))
  k_with "call builtin:max" => ((with_reducible show wpAny _ _ (call _ [Value.float _ _, Value.float _ _, Value.float _ _]) _ _ _); (rename News _ _ _ _ => N'); (rename Fr _ _ _ _ => F'); refine max3_K rfl F' N' ?_; clear N'; intro _ _ _ _ _)
  k_with "call builtin:min" => ((with_reducible show wpAny _ _ (call _ [Value.float _ _, Value.float _ _, Value.float _ _]) _ _ _); (rename News _ _ _ _ => N'); (rename Fr _ _ _ _ => F'); refine min3_K rfl F' N' ?_; clear N'; intro _ _ _ _ _)
  k_with "subscriptTail" => (k_here; (with_reducible show wpAny _ _ (subscriptTail _ _ (Value.ref _) (Value.int _ _)) _ _ _); (k_dflt (refine' lst_item3 ?k1 ?k2 ?k3 ?k4 ?k6 ?_ ?_ ?_; (case k1 => k_asm); (case k2 => k_mem); (case k3 => omega); (case k4 => omega); (case k6 => with_unfolding_all rfl); all_goals (k_whole; intro hidx))))
  k_with "str_fit" => first | decide +kernel | (simp only [Str.length_append]; omega)
  k_with "binaryOp Add str str" => (k_here; (with_reducible show wpAny _ _ (binaryOp Operator.Add (Value.str _ _) (Value.str _ _)) _ _ _); (refine' add_m ?ksz ?_; (case ksz => walk_at "str_fit")); intro tx' kx' hx'; (try dsimp only at hx'))
  k_with "call builtin:str.replace" => (k_here; (refine' repl_m ?k1 ?k2 ?k3 ?k4 ?k5 ?k6 ?_; (case k1 => (show (0 : Nat) < _); omega); (case k2 => (show (0 : Nat) < _); omega); (case k3 => (show @Ne Nat _ _); omega); (case k4 => decide +kernel); (case k5 => walk_at "str_fit"); (case k6 => walk_at "str_fit")); intro tx' kx' hx'; (try dsimp only at hx'))
  k_with "subscriptTail" => (k_here; (with_reducible show wpAny _ _ (subscriptTail _ _ (Value.str _ _) (Value.int _ _)) _ _ _); (k_dflt (refine' str_item ?k1 ?k2 ?k3 ?k4 ?k5 ?_; (case k1 => omega); (case k2 => first | omega | exact Int.lt_of_lt_of_le (b := 4) (by omega) (by decide +kernel)); (case k3 => first | omega | decide +kernel); (case k4 => with_unfolding_all rfl); (case k5 => (intro _; with_unfolding_all rfl)))); intro hone')
  k_with "subscriptTail Name Slice str ref" => ((with_reducible rename Fr _ _ _ _ => F'); (with_reducible rename News _ _ _ _ => N'); (first
  | ((with_reducible show wpAny _ _ (subscriptTail _ (Expr.Slice (some _) none none _) _ _) _ _ _); (refine' slice_strN_sn_len (s := ⟨_, _, _, _, _⟩) F' N' ?_ (hsz := ?hsz)); (case hsz => walk_at "str_fit"))
  | ((with_reducible show wpAny _ _ (subscriptTail _ (Expr.Slice none (some _) none _) _ _) _ _ _); (refine' slice_strN_ns_len (s := ⟨_, _, _, _, _⟩) F' N' ?_ (hsz := ?hsz)); (case hsz => walk_at "str_fit"))
  | ((with_reducible show wpAny _ _ (subscriptTail _ (Expr.Slice (some _) (some _) none _) _ _) _ _ _); (refine' slice_strN_ss_len (s := ⟨_, _, _, _, _⟩) F' N' ?_ (hsz := ?hsz)); (case hsz => walk_at "str_fit"))); intro _ _ _ _ _ _)
  k_with "call ref" => (k_here; (with_reducible show wpAny _ _ (call (Value.ref 28) _) _ _ _); (k_dflt (refine' Ct.use (rgb_spec _ _ _ _ _ _ _ _ ?p1 ?p2) ?k1 ?k2 ?k3 ?k4 ?k5 ?kK ?kd ?ku ?_; (case p1 => exact RgbOk.h1 (by assumption)); (case p2 => exact RgbOk.h2 (by assumption)); walk_at "ct_use")); intro r' tl' h' tk' F' N' l1 hP'; obtain ⟨D', c', t4', t5', t6', e1', e2', e3'⟩ := hP'; subst e1' e2' e3'; replace l1 := lt_tl1 l1; (try k_lt l1); (simp only [List.cons_append, List.nil_append] at N'); (try k_sweep); (try dsimp only); (try k_fold))
  k_with "call ref" => (k_here; (with_reducible show wpAny _ _ (call (Value.ref 86) _) _ _ _); (k_dflt (refine' Ct.use (p257_spec _ _ _ _ ?p1 ?p2) ?k1 ?k2 ?k3 ?k4 ?k5 ?kK ?kd ?ku ?_; (case p1 => assumption); (case p2 => assumption); walk_at "ct_use")); intro r' tl' h' tk' F' N' l1 hP'; obtain ⟨z', t4', e1', e2', e3'⟩ := hP'; subst e1' e2' e3'; (simp only [List.nil_append] at N'); (try k_sweep); (try dsimp only); (try k_fold))
  k_with "enterS" => (refine' code_defS ?k1 ?k2 ?k3 ?k4 ?k5 ?XB ?TB ?D ?T0 ?kA ?k6 ?k7 ?k8 ?k9 ?kB ?_ ?cK ?c2 ?c3 ?c4 ?c5; (case kA => exact rfl); (case k2 => k_asm); (case k1 => k_asm); (case XB => assumption); (case TB => assumption); (case D => assumption); (case T0 => first | assumption | exact KtsTurn.refl); (case k3 => k_asm); (case k4 => k_asm); (case k5 => k_asm); (case k6 => k_is); (case k7 => k_is); (case k8 => ktr_room); (case k9 => exact BindsTo.of_eq rfl); (case kB => exact locs rfl); (case cK => first | exact rfl | assumption); (case c2 => exact rfl); (case c3 => exact rfl); (case c4 => exact rfl); (case c5 => decide); k_whole; intro g' L' h' FG' F' N' B' X' T' D'; (try dsimp only); (try k_lift B'); (try k_fold))
  k_with "enterS0" => (refine' enter0X ?k1 ?k2 ?k3 ?k4 ?k5 ?kA ?kF ?cK ?k6 ?k7 ?k8 ?k9 ?kB ?_ ?c2 ?c3 ?c4 ?c5; (case kA => exact rfl); (case kF => exact rfl); (case cK => first | exact rfl | assumption); (case k2 => k_asm); (case k1 => k_asm); (case k3 => k_asm); (case k4 => k_asm); (case k5 => k_asm); (case k6 => k_is); (case k7 => k_is); (case k8 => ktr_room); (case k9 => exact BindsTo.of_eq rfl); (case kB => exact locs rfl); (case c2 => exact rfl); (case c3 => exact rfl); (case c4 => exact rfl); (case c5 => decide); k_whole; intro g' L' h' FG' F' N' B' X' T' D'; (try dsimp only); (try k_lift B'); (try k_fold))
  k_with "call ref" => (k_here; (with_reducible show wpAny _ _ (call (Value.ref 21) _) _ _ _); (k_dflt (refine' Ct.use (em_spec _ _ _ _ _ _ ?p1 ?p2) ?k1 ?k2 ?k3 ?k4 ?k5 ?kK ?kd ?ku ?_; (case p1 => walk_at "em_ok"); (case p2 => walk_at "em_len"); walk_at "ct_use")); intro r' tl' h' tk' F' N' l1 hP'; obtain ⟨e1', b', e2', e3'⟩ := hP'; subst e1' e2'; (simp only [List.nil_append] at N'); (try k_sweep); (try dsimp only); (try k_fold))
  k_with "em_len" => omega
  k_with "em_ok" => assumption
  trivial
theorem pB_use {kind mark tail : Nat} {n : Int} (h : pBF kind mark tail n = true) : Y229 (portReply kind mark tail n) ∧ p229 (portReply kind mark tail n) = due229 kind n := by
  rw [← pBF_eq] at h
  have h2 := and2 h
  exact ⟨y229_of h2.1, T229.is_eq h2.2⟩
theorem wts_mem {c w : Nat} (hc : c < 5) (hw : w < 16) : ((c * w : Nat) : Int) ∈ wts := by
  have h := all_range (all_range wts_all hc) hw
  exact List.contains_iff_mem.mp h
theorem mark4 {mark : Nat} (h : mark < 4) : mark = 0 ∨ mark = 1 ∨ mark = 2 ∨ mark = 3 := by omega
theorem pB_at {kind mark tail : Nat} {n : Int} (hk : kind < 9) (hm : mark < 4) (ht : tail < 3) (hn : n ∈ wts) : Y229 (portReply kind mark tail n) ∧ p229 (portReply kind mark tail n) = due229 kind n := by
  have cs : kind = 0 ∨ kind = 1 ∨ kind = 2 ∨ kind = 3 ∨ kind = 4 ∨ kind = 5 ∨ kind = 6 ∨ kind = 7 ∨ kind = 8 := by omega
  rcases cs with rfl | rfl | rfl | rfl | rfl | rfl | rfl | rfl | rfl
  · rw [show portReply ((0 : Nat) : Int) mark tail n = portReply ((0 : Nat) : Int) mark ((0 : Nat) : Int) n from rfl]
    refine pB_use ?_
    rcases mark4 hm with rfl | rfl | rfl | rfl
    · exact List.all_eq_true.mp tq_0_0 n hn
    · exact List.all_eq_true.mp tq_0_1 n hn
    · exact List.all_eq_true.mp tq_0_2 n hn
    · exact List.all_eq_true.mp tq_0_3 n hn
  · rw [show portReply ((1 : Nat) : Int) mark tail n = portReply ((1 : Nat) : Int) mark ((0 : Nat) : Int) n from rfl]
    refine pB_use ?_
    rcases mark4 hm with rfl | rfl | rfl | rfl
    · exact List.all_eq_true.mp tq_1_0 n hn
    · exact List.all_eq_true.mp tq_1_1 n hn
    · exact List.all_eq_true.mp tq_1_2 n hn
    · exact List.all_eq_true.mp tq_1_3 n hn
  · rw [show portReply ((2 : Nat) : Int) mark tail n = portReply ((2 : Nat) : Int) mark ((0 : Nat) : Int) n from rfl]
    refine pB_use ?_
    rcases mark4 hm with rfl | rfl | rfl | rfl
    · exact List.all_eq_true.mp tq_2_0 n hn
    · exact List.all_eq_true.mp tq_2_1 n hn
    · exact List.all_eq_true.mp tq_2_2 n hn
    · exact List.all_eq_true.mp tq_2_3 n hn
  · rw [show portReply ((3 : Nat) : Int) mark tail n = portReply ((3 : Nat) : Int) mark ((0 : Nat) : Int) n from rfl]
    refine pB_use ?_
    rcases mark4 hm with rfl | rfl | rfl | rfl
    · exact List.all_eq_true.mp tq_3_0 n hn
    · exact List.all_eq_true.mp tq_3_1 n hn
    · exact List.all_eq_true.mp tq_3_2 n hn
    · exact List.all_eq_true.mp tq_3_3 n hn
  · refine pB_use ?_
    have ct : tail = 0 ∨ tail = 1 ∨ tail = 2 := by omega
    rcases mark4 hm with rfl | rfl | rfl | rfl <;> rcases ct with rfl | rfl | rfl
    · exact List.all_eq_true.mp tq_4_0_0 n hn
    · exact List.all_eq_true.mp tq_4_0_1 n hn
    · exact List.all_eq_true.mp tq_4_0_2 n hn
    · exact List.all_eq_true.mp tq_4_1_0 n hn
    · exact List.all_eq_true.mp tq_4_1_1 n hn
    · exact List.all_eq_true.mp tq_4_1_2 n hn
    · exact List.all_eq_true.mp tq_4_2_0 n hn
    · exact List.all_eq_true.mp tq_4_2_1 n hn
    · exact List.all_eq_true.mp tq_4_2_2 n hn
    · exact List.all_eq_true.mp tq_4_3_0 n hn
    · exact List.all_eq_true.mp tq_4_3_1 n hn
    · exact List.all_eq_true.mp tq_4_3_2 n hn
  · rw [show portReply ((5 : Nat) : Int) mark tail n = portReply ((5 : Nat) : Int) mark ((0 : Nat) : Int) 0 from rfl, show due229 5 n = due229 5 0 from rfl]
    refine pB_use ?_
    rcases mark4 hm with rfl | rfl | rfl | rfl
    · exact tq_5_0
    · exact tq_5_1
    · exact tq_5_2
    · exact tq_5_3
  · rw [show portReply ((6 : Nat) : Int) mark tail n = portReply ((0 : Nat) : Int) mark ((0 : Nat) : Int) n from rfl, show due229 6 n = due229 0 n from rfl]
    refine pB_use ?_
    rcases mark4 hm with rfl | rfl | rfl | rfl
    · exact List.all_eq_true.mp tq_0_0 n hn
    · exact List.all_eq_true.mp tq_0_1 n hn
    · exact List.all_eq_true.mp tq_0_2 n hn
    · exact List.all_eq_true.mp tq_0_3 n hn
  · rw [show portReply ((7 : Nat) : Int) mark tail n = portReply ((7 : Nat) : Int) mark ((0 : Nat) : Int) n from rfl]
    refine pB_use ?_
    rcases mark4 hm with rfl | rfl | rfl | rfl
    · exact List.all_eq_true.mp tq_7_0 n hn
    · exact List.all_eq_true.mp tq_7_1 n hn
    · exact List.all_eq_true.mp tq_7_2 n hn
    · exact List.all_eq_true.mp tq_7_3 n hn
  · rw [show portReply ((8 : Nat) : Int) mark tail n = portReply ((8 : Nat) : Int) ((0 : Nat) : Int) ((0 : Nat) : Int) 0 from rfl, show due229 8 n = due229 8 0 from rfl]
    exact pB_use tq_8
/-- what a name reply tells -/
def nB (x want : Str) : Bool := decide (x.length ≤ 1000) && ((Txt.slice x none (some 3) != Str.ofString "257") == false) && (p257 x == want)
theorem t_nameG : ((List.range 3).all fun t => nB (nameReply 0 true 0 (t : Nat)) (Str.ofString "")) = true := by decide +kernel
theorem t_nameC : ((List.range 6).all fun i => (List.range 3).all fun t => nB (nameReply 0 false (i : Nat) (t : Nat)) (nameAt i)) = true := by decide +kernel
def n6B (x : Str) : Bool := decide (x.length ≤ 1000) && (Txt.slice x none (some 3) != Str.ofString "257")
theorem t_name6G : ((List.range 3).all fun t => n6B (nameReply 6 true 0 (t : Nat))) = true := by decide +kernel
theorem t_name6C : ((List.range 6).all fun i => (List.range 3).all fun t => n6B (nameReply 6 false (i : Nat) (t : Nat))) = true := by decide +kernel
theorem name_not6 {kind : Int} (h : kind ≠ 6) (g : Bool) (i t : Int) : nameReply kind g i t = nameReply 0 g i t := by unfold nameReply; rw [if_neg h, if_neg (show ¬ (0 : Int) = 6 by decide)]
theorem name_grey (kind i t : Int) : nameReply kind true i t = nameReply kind true 0 t := by unfold nameReply; simp only [if_true]
structure NameIs (kind i : Nat) (grey : Bool) (x : Str) : Prop where
  len : x.length ≤ 1000
  six : kind = 6 → (Txt.slice x none (some 3) != Str.ofString "257") = true
  ok : kind ≠ 6 → (Txt.slice x none (some 3) != Str.ofString "257") = false
  is : kind ≠ 6 → p257 x = if grey = true then Str.ofString "" else nameAt i
theorem name_is {kind i t : Nat} {grey : Bool} {j : Int} (hi : i < 6) (ht : t < 3) (hj : grey = false → j = (i : Nat)) : NameIs kind i grey (nameReply kind grey j t) := by
  by_cases hk : kind = 6
  · subst hk
    have q : n6B (nameReply ((6 : Nat) : Int) grey j t) = true := by
      cases grey with
      | true => rw [name_grey]; exact all_range t_name6G ht
      | false => rw [hj rfl]; exact all_range (all_range t_name6C hi) ht
    have q2 := and2 q
    exact ⟨of_decide_eq_true q2.1, fun _ => q2.2, fun h => absurd rfl h, fun h => absurd rfl h⟩
  · have q : nB (nameReply kind grey j t) (if grey = true then Str.ofString "" else nameAt i) = true := by
      rw [name_not6 (by omega)]
      cases grey with
      | true => rw [name_grey]; exact all_range t_nameG ht
      | false => rw [hj rfl]; exact all_range (all_range t_nameC hi) ht
    have q2 := and2 q
    have q3 := and2 q2.1
    exact ⟨of_decide_eq_true q3.1, fun h => absurd h hk, fun _ => eq_of_beq q3.2, fun _ => eq_of_beq q2.2⟩
theorem t_names : ((List.range 6).all fun i => ((nameAt i == Str.ofString "") == false) && (charsOf (nameAt i)).isPerm [sQ, sB, sR] && onceB (nameAt i)) = true := by decide +kernel
theorem err_bad {er : Str} (h : (er == Str.ofString "") = false) : (er == Str.ofString "") = false := h
theorem sr_ne : (Str.ofString "reply" == Str.ofString "") = false := by decide +kernel
theorem sp_ne : (Str.ofString "proto" == Str.ofString "") = false := by decide +kernel
theorem sv_ne : (Str.ofString "value" == Str.ofString "") = false := by decide +kernel
/-- what both replies tell of a voter -/
theorem tout {k c w kind : Nat} {x y : Str} (hk : kind < 9) (hx : NameIs kind (k % 6) (c * w == 0) x) (hy : p229 y = due229 kind ((c * w : Nat) : Int)) : TOut k c w kind (told x y) := by
  by_cases h6 : kind = 6
  · subst h6
    exact .bad _ _ _ _ rfl (told_0 (hx.six rfl)) sr_ne
  have hok := hx.ok h6
  have cs : kind = 0 ∨ kind = 1 ∨ kind = 2 ∨ kind = 3 ∨ kind = 4 ∨ kind = 5 ∨ kind = 7 ∨ kind = 8 := by omega
  have good : errS kind = Str.ofString "" → p229 y = .ok ((c * w : Nat) : Int) → TOut k c w kind (told x y) := fun he hp => by
    have hz := told_t hok hp rfl
    rw [show trOf x (.ok ((c * w : Nat) : Int)) = ⟨p257 x, Str.ofString "there", ((c * w : Nat) : Int), Str.ofString ""⟩ from rfl, hx.is h6, Int.natCast_mul] at hz
    by_cases h0 : c * w = 0
    · refine .grey he ?_ (by rw [← Int.natCast_mul, h0]; rfl)
      rw [hz, if_pos (by simp [h0])]
    · have q := all_range t_names (show k % 6 < 6 by omega)
      have q2 := and2 q
      have q3 := and2 q2.1
      refine .col (nameAt (k % 6)) he ?_ (by rw [← Int.natCast_mul]; omega) rfl (eq_of_beq q3.1) q3.2 (onceF_of q2.2)
      rw [hz, if_neg (by simp [h0])]
  rcases cs with rfl | rfl | rfl | rfl | rfl | rfl | rfl | rfl
  · exact good rfl hy
  · exact .bad _ _ _ _ rfl (told_t hok hy rfl) sr_ne
  · exact .bad _ _ _ _ rfl (told_t hok hy rfl) sp_ne
  · exact .bad _ _ _ _ rfl (told_t hok hy rfl) sp_ne
  · exact .bad _ _ _ _ rfl (told_t hok hy rfl) sp_ne
  · exact .bad _ _ _ _ rfl (told_t hok hy rfl) sv_ne
  · exact good rfl hy
  · exact .bad _ _ _ _ rfl (told_t hok hy rfl) sp_ne
theorem tf_of {k f c w kind mark tail : Nat} (hk : k < 12) (f1 : 1 ≤ f) (f7 : f ≤ 7) (hc : c < 5) (hw : w < 16) (hkind : kind < 9) (hmark : mark < 4) (htail : tail < 3) :
    ∃ X1 X2 Y1 Y2 x y z, TF k f c w kind mark tail X1 X2 Y1 Y2 x y z ∧ TOut k c w kind z := by
  have r1 := rgb_col hk f1 f7 hc hw
  have r2 := rgb_col hk (f := 8 - f) (by omega) (by omega) hc hw
  have i1 := hsvIs hk f1 f7 hc hw
  have i2 := hsvIs hk (f := 8 - f) (by omega) (by omega) hc hw
  have q2 := hsv_col hk (f := 8 - f) (by omega) (by omega) hc hw
  rw [show 8 * k + (8 - f) = 8 * k + 8 - f by omega] at q2
  have hn := name_is (kind := kind) (i := k % 6) (t := tail) (grey := feq (hsvOf k f c w).b 0) (j := toI (sixth (hsvOf k f c w))) (by omega) htail (fun g => by
    rw [i1.grey] at g
    exact i1.s4 (by simpa using g))
  rw [i1.grey] at hn
  have hp := pB_at (kind := kind) (mark := mark) (tail := tail) hkind hmark htail (wts_mem hc hw)
  refine ⟨colOf k f c w, colOf k (8 - f) c w, hsvOf k f c w, hsvOf k (8 - f) c w, _, _, _, ⟨hk, f1, f7, hc, hw, hkind, hmark, htail, hsv_col hk f1 f7 hc hw, q2, r1.is, r2.is, r1.ok, r2.ok, i1, i2, rfl, ?_, rfl, ?_, rfl, rfl, rfl⟩, ?_⟩
  · rw [i1.grey]; exact hn.len
  · rw [i2.w2]; exact hp.1
  · rw [i1.grey, i2.w2]; exact tout hkind hn hp.2
/-- a voter's numbers -/
theorem md (a : Int) {m : Int} {n : Nat} (hm : m = (n : Int)) (hn : 0 < n) : (a % m).toNat < n ∧ a % m = ((a % m).toNat : Nat) := by
  subst hm
  have h1 := Int.emod_nonneg a (b := (n : Int)) (by omega)
  have h2 := Int.emod_lt_of_pos a (b := (n : Int)) (by omega)
  omega
theorem md1 (a : Int) : 1 ≤ (1 + a % 7).toNat ∧ (1 + a % 7).toNat ≤ 7 ∧ 1 + a % 7 = ((1 + a % 7).toNat : Nat) := by omega
theorem voter_of {y : Int} (h0 : 0 ≤ y) : ∃ k f c w kind mark tail : Nat, k < 12 ∧ 1 ≤ f ∧ f ≤ 7 ∧ c < 5 ∧ w < 16 ∧ kind < 9 ∧ mark < 4 ∧ tail < 3 ∧ yK y = (k : Nat) ∧ yF y = (f : Nat) ∧ yC y = (c : Nat) ∧ yW y = (w : Nat) ∧ yKind y = (kind : Nat) ∧ yMark y = (mark : Nat) ∧ yTail y = (tail : Nat) := by
  have fm : ∀ (a b : Int), 0 ≤ b → Int.fmod a b = a % b := fun a b hb => Int.fmod_eq_emod_of_nonneg a hb
  have fd : ∀ (a b : Int), 0 ≤ b → Int.fdiv a b = a / b := fun a b hb => Int.fdiv_eq_ediv_of_nonneg a hb
  refine ⟨(y % 12).toNat, (1 + y / 12 % 7).toNat, (y / 84 % 5).toNat, (y / 420 % 16).toNat, (y / 6720 % 9).toNat, (y / 60480 % 4).toNat, (y / 241920 % 3).toNat, ?_⟩
  simp only [yK, yF, yC, yW, yKind, yMark, yTail]
  rw [fm y 12 (by decide), fd y 12 (by decide), fm _ 7 (by decide), fd y 84 (by decide), fm _ 5 (by decide), fd y 420 (by decide), fm _ 16 (by decide), fd y 6720 (by decide), fm _ 9 (by decide), fd y 60480 (by decide), fm _ 4 (by decide), fd y 241920 (by decide), fm _ 3 (by decide)]
  have K := md y (m := 12) (n := 12) rfl (by decide)
  have F := md1 (y / 12)
  have C := md (y / 84) (m := 5) (n := 5) rfl (by decide)
  have W := md (y / 420) (m := 16) (n := 16) rfl (by decide)
  have D := md (y / 6720) (m := 9) (n := 9) rfl (by decide)
  have M := md (y / 60480) (m := 4) (n := 4) rfl (by decide)
  have T := md (y / 241920) (m := 3) (n := 3) rfl (by decide)
  exact ⟨K.1, F.1, F.2.1, C.1, W.1, D.1, M.1, T.1, K.2, F.2.2, C.2, W.2, D.2, M.2, T.2⟩

theorem law8_rows1 : True := by
  k_with_none
  w_top off
  k_with "led_sub" => first | exact fun p hp => hp | (intro p hp; repeat' (first | exact hp | refine List.Mem.tail _ ?_))
  k_with "led_lt" => first | assumption | exact ktn_ltOf (by assumption) | exact lt1 (by assumption) | exact lt2 (by assumption) | exact lt3 (by assumption) | exact lt4 (by assumption)
  k_with "ct_fill" => (refine fillIt ?_; k_fill; intro _; unfold Ct)
  k_with "ct_enter" => (refine wpAny_call ?_; k_dflt cell_enter)
  k_with "ct_use" => ((case k1 => k_asm); (case k2 => k_asm); (case k3 => k_asm); (case k4 => k_asm); (case k5 => k_asm); (case kK => first | exact rfl | assumption); (case kd => ktr_room); (case ku => ktr_units))
  k_with "subscriptTail" => (k_here; (with_reducible show wpAny _ _ (subscriptTail _ _ (Value.ref _) (Value.int _ _)) _ _ _); (k_dflt (refine' tup_item ?k1 ?k2 ?k3 ?k4 ?k5 ?k6 ?_; (case k1 => k_asm); (case k2 => first | assumption | k_mem); (case k3 => decide); (case k4 => decide); (case k5 => exact rfl); (case k6 => with_unfolding_all rfl); k_whole)))
  k_with "call builtin:max" => ((with_reducible show wpAny _ _ (call _ [Value.float _ _, Value.float _ _, Value.float _ _]) _ _ _); (rename News _ _ _ _ => N'); (rename Fr _ _ _ _ => F'); refine max3_K rfl F' N' ?_; clear N'; intro _ _ _ _ _)
  k_with "call builtin:min" => ((with_reducible show wpAny _ _ (call _ [Value.float _ _, Value.float _ _, Value.float _ _]) _ _ _); (rename News _ _ _ _ => N'); (rename Fr _ _ _ _ => F'); refine min3_K rfl F' N' ?_; clear N'; intro _ _ _ _ _)
  k_with "subscriptTail" => (k_here; (with_reducible show wpAny _ _ (subscriptTail _ _ (Value.ref _) (Value.int _ _)) _ _ _); (k_dflt (refine' lst_item3 ?k1 ?k2 ?k3 ?k4 ?k6 ?_ ?_ ?_; (case k1 => k_asm); (case k2 => k_mem); (case k3 => omega); (case k4 => omega); (case k6 => with_unfolding_all rfl); all_goals (k_whole; intro hidx))))
  k_with "str_fit" => first | decide +kernel | (simp only [Str.length_append]; omega)
  k_with "binaryOp Add str str" => (k_here; (with_reducible show wpAny _ _ (binaryOp Operator.Add (Value.str _ _) (Value.str _ _)) _ _ _); (refine' add_m ?ksz ?_; (case ksz => walk_at "str_fit")); intro tx' kx' hx'; (try dsimp only at hx'))
  k_with "call builtin:str.replace" => (k_here; (refine' repl_m ?k1 ?k2 ?k3 ?k4 ?k5 ?k6 ?_; (case k1 => (show (0 : Nat) < _); omega); (case k2 => (show (0 : Nat) < _); omega); (case k3 => (show @Ne Nat _ _); omega); (case k4 => decide +kernel); (case k5 => walk_at "str_fit"); (case k6 => walk_at "str_fit")); intro tx' kx' hx'; (try dsimp only at hx'))
  k_with "subscriptTail" => (k_here; (with_reducible show wpAny _ _ (subscriptTail _ _ (Value.str _ _) (Value.int _ _)) _ _ _); (k_dflt (refine' str_item ?k1 ?k2 ?k3 ?k4 ?k5 ?_; (case k1 => omega); (case k2 => first | omega | exact Int.lt_of_lt_of_le (b := 4) (by omega) (by decide +kernel)); (case k3 => first | omega | decide +kernel); (case k4 => with_unfolding_all rfl); (case k5 => (intro _; with_unfolding_all rfl)))); intro hone')
  k_with "subscriptTail Name Slice str ref" => ((with_reducible rename Fr _ _ _ _ => F'); (with_reducible rename News _ _ _ _ => N'); (first
  | ((with_reducible show wpAny _ _ (subscriptTail _ (Expr.Slice (some _) none none _) _ _) _ _ _); (refine' slice_strN_sn_len (s := ⟨_, _, _, _, _⟩) F' N' ?_ (hsz := ?hsz)); (case hsz => walk_at "str_fit"))
  | ((with_reducible show wpAny _ _ (subscriptTail _ (Expr.Slice none (some _) none _) _ _) _ _ _); (refine' slice_strN_ns_len (s := ⟨_, _, _, _, _⟩) F' N' ?_ (hsz := ?hsz)); (case hsz => walk_at "str_fit"))
  | ((with_reducible show wpAny _ _ (subscriptTail _ (Expr.Slice (some _) (some _) none _) _ _) _ _ _); (refine' slice_strN_ss_len (s := ⟨_, _, _, _, _⟩) F' N' ?_ (hsz := ?hsz)); (case hsz => walk_at "str_fit"))); intro _ _ _ _ _ _)
  k_with "call ref" => (k_here; (with_reducible show wpAny _ _ (call (Value.ref 28) _) _ _ _); (k_dflt (refine' Ct.use (rgb_spec _ _ _ _ _ _ _ _ ?p1 ?p2) ?k1 ?k2 ?k3 ?k4 ?k5 ?kK ?kd ?ku ?_; (case p1 => exact RgbOk.h1 (by assumption)); (case p2 => exact RgbOk.h2 (by assumption)); walk_at "ct_use")); intro r' tl' h' tk' F' N' l1 hP'; obtain ⟨D', c', t4', t5', t6', e1', e2', e3'⟩ := hP'; subst e1' e2' e3'; replace l1 := lt_tl1 l1; (try k_lt l1); (simp only [List.cons_append, List.nil_append] at N'); (try k_sweep); (try dsimp only); (try k_fold))
  k_with "call ref" => (k_here; (with_reducible show wpAny _ _ (call (Value.ref 86) _) _ _ _); (k_dflt (refine' Ct.use (p257_spec _ _ _ _ ?p1 ?p2) ?k1 ?k2 ?k3 ?k4 ?k5 ?kK ?kd ?ku ?_; (case p1 => assumption); (case p2 => assumption); walk_at "ct_use")); intro r' tl' h' tk' F' N' l1 hP'; obtain ⟨z', t4', e1', e2', e3'⟩ := hP'; subst e1' e2' e3'; (simp only [List.nil_append] at N'); (try k_sweep); (try dsimp only); (try k_fold))
  k_with "enterS" => (refine' code_defS ?k1 ?k2 ?k3 ?k4 ?k5 ?XB ?TB ?D ?T0 ?kA ?k6 ?k7 ?k8 ?k9 ?kB ?_ ?cK ?c2 ?c3 ?c4 ?c5; (case kA => exact rfl); (case k2 => k_asm); (case k1 => k_asm); (case XB => assumption); (case TB => assumption); (case D => assumption); (case T0 => first | assumption | exact KtsTurn.refl); (case k3 => k_asm); (case k4 => k_asm); (case k5 => k_asm); (case k6 => k_is); (case k7 => k_is); (case k8 => ktr_room); (case k9 => exact BindsTo.of_eq rfl); (case kB => exact locs rfl); (case cK => first | exact rfl | assumption); (case c2 => exact rfl); (case c3 => exact rfl); (case c4 => exact rfl); (case c5 => decide); k_whole; intro g' L' h' FG' F' N' B' X' T' D'; (try dsimp only); (try k_lift B'); (try k_fold))
  k_with "enterS0" => (refine' enter0X ?k1 ?k2 ?k3 ?k4 ?k5 ?kA ?kF ?cK ?k6 ?k7 ?k8 ?k9 ?kB ?_ ?c2 ?c3 ?c4 ?c5; (case kA => exact rfl); (case kF => exact rfl); (case cK => first | exact rfl | assumption); (case k2 => k_asm); (case k1 => k_asm); (case k3 => k_asm); (case k4 => k_asm); (case k5 => k_asm); (case k6 => k_is); (case k7 => k_is); (case k8 => ktr_room); (case k9 => exact BindsTo.of_eq rfl); (case kB => exact locs rfl); (case c2 => exact rfl); (case c3 => exact rfl); (case c4 => exact rfl); (case c5 => decide); k_whole; intro g' L' h' FG' F' N' B' X' T' D'; (try dsimp only); (try k_lift B'); (try k_fold))
  k_with "call ref" => (k_here; (with_reducible show wpAny _ _ (call (Value.ref 21) _) _ _ _); (k_dflt (refine' Ct.use (em_spec _ _ _ _ _ _ ?p1 ?p2) ?k1 ?k2 ?k3 ?k4 ?k5 ?kK ?kd ?ku ?_; (case p1 => walk_at "em_ok"); (case p2 => walk_at "em_len"); walk_at "ct_use")); intro r' tl' h' tk' F' N' l1 hP'; obtain ⟨e1', b', e2', e3'⟩ := hP'; subst e1' e2'; (simp only [List.nil_append] at N'); (try k_sweep); (try dsimp only); (try k_fold))
  k_with "em_len" => omega
  k_with "em_ok" => assumption
  trivial
noncomputable def lawStmts (w : World) : List Stmt := stmtsOf (fnAt (hd.heap_1 w.params) 152)
def stmt3 (b : List Stmt) : Stmt := match b with | _ :: _ :: _ :: st :: _ => st | _ => .Pass default
def stmt4 (b : List Stmt) : Stmt := match b with | _ :: _ :: _ :: _ :: st :: _ => st | _ => .Pass default
noncomputable def lawMix (w : World) : Stmt := stmt3 (lawStmts w)
noncomputable def lawFor (w : World) : Stmt := stmt4 (lawStmts w)
noncomputable abbrev lawEnv (w : World) (cn : Str) (L : Addr) (ccd : Value) (cT cH cV : Addr) : Env := envX cn (lawScope w) L 152 ccd [(Str.ofString "there", cT), (Str.ofString "here", cH), (Str.ofString "votes", cV)]
noncomputable abbrev lawTop (w : World) (dp un : Nat) (gd : Option (List Code)) (cn : Str) (L : Addr) (ccd : Value) (cT cH cV : Addr) : Around := ktrTop dp un gd cn (lawScope w) L 152 ccd [(Str.ofString "there", cT), (Str.ofString "here", cH), (Str.ofString "votes", cV)] []
def sums3 (vts : List Vt) : List Int := [sumI (vts.map (mixV 0)), sumI (vts.map (mixV 1)), sumI (vts.map (mixV 2))]
theorem sumI_sum (l : List Int) : sumI l = l.sum := by
  induction l with
  | nil => rfl
  | cons a l ih => simp only [sumI, List.foldr_cons, List.sum_cons] at ih ⊢; rw [ih]
theorem VC.mem {vts : List Vt} {cs : List Int} (h : VC vts cs) : ∀ v ∈ vts, ∃ cy, VoteOk v cy := by
  induction h with
  | nil => intro v hv; cases hv
  | snoc _ hv ih =>
    intro u hu
    rcases List.mem_append.mp hu with hu | hu
    · exact ih u hu
    · rw [List.mem_singleton.mp hu]; exact ⟨_, hv⟩
theorem col_lt {k f c w : Nat} (hw : w < 16) : (colOf k f c w).a < 481 ∧ (colOf k f c w).b < 481 ∧ (colOf k f c w).c < 481 := by
  have h1 := hi_lt hw
  have h2 := fun j => mid_lt (c := c) (j := j) hw
  unfold colOf
  split <;> exact ⟨by first | exact h1 | exact h2 _, by first | exact h1 | exact h2 _, by first | exact h1 | exact h2 _⟩
structure VtLt (v : Vt) : Prop where
  a1 : v.one.a < 481
  b1 : v.one.b < 481
  c1 : v.one.c < 481
  a2 : v.two.a < 481
  b2 : v.two.b < 481
  c2 : v.two.c < 481
theorem vt_lt {v : Vt} {cy : Int} (h : VoteOk v cy) : VtLt v := by
  obtain ⟨k, f, c, w, hk, f1, f7, hc, hw, h1, h2, _⟩ := h
  obtain ⟨x1, x2, x3⟩ := col_lt (k := k) (f := f) (c := c) hw
  obtain ⟨y1, y2, y3⟩ := col_lt (k := k) (f := 8 - f) (c := c) hw
  exact ⟨by rw [h1]; exact x1, by rw [h1]; exact x2, by rw [h1]; exact x3, by rw [h2]; exact y1, by rw [h2]; exact y2, by rw [h2]; exact y3⟩
theorem vrefs_get {vts : List Vt} {i : Nat} {x : Value} (h : (vrefs vts)[i]? = some x) : ∃ v, v ∈ vts ∧ vts[i]? = some v ∧ x = .ref v.T := by
  rw [List.getElem?_map] at h
  cases hv : vts[i]? with
  | none => rw [hv] at h; cases h
  | some v => rw [hv] at h; cases h; exact ⟨v, List.mem_of_getElem? hv, rfl, rfl⟩
theorem News.also {h₀ h : Heap} {L : Addr} {all : Led} (N : News h₀ L h all) {p : Addr × Obj} (hp : p ∈ all) : News h₀ L h (p :: all) := fun q hq => (List.mem_cons.mp hq).elim (fun e => e ▸ N p hp) fun hq => N q hq
theorem mix_end {x y : Nat} (hx : x < 481) (hy : y < 481) : Flt.toInt Float64.truncOf (Float64.add (Float64.mul (D 512 x) (Float64.ofInt 512)) 4602678819172646912) + Flt.toInt Float64.truncOf (Float64.add (Float64.mul (D 512 y) (Float64.ofInt 512)) 4602678819172646912) = (x : Int) + (y : Int) := by
  have e1 := d_mix hx
  have e2 := d_mix hy
  unfold nearI near toI at e1 e2
  rw [e1, e2]
def asgVal : Stmt → Expr | .Assign _ v _ => v | _ => .Name (Str.ofString "") default
def compElt : Expr → Expr | .ListComp e _ _ _ => e | e => e
def compScope : Expr → Scope | .ListComp _ _ s _ => s | _ => { kind := .function, names := [], isGenerator := false, isCoroutine := false }
def callArg : Expr → Expr | .Call _ (a :: _) _ _ => a | e => e
noncomputable def mixOuter (w : World) : Expr := asgVal (lawMix w)
noncomputable def mixInner (w : World) : Expr := callArg (compElt (mixOuter w))
section
variable {prog : Program} {w : World} {A : Around} {E : Value → Shared → Prop} {s : Shared} {h₀ : Heap} {L : Addr} {news : Led} {Q : Value → Shared → Prop} {value slice : Expr}
theorem xo_item {ad : Addr} {X : T3} {t1 t2 t3 u : Tok} {i : Nat} (N : News h₀ L s.heap news) (hm : (ad, Xo X t1 t2 t3) ∈ news) (hi : i < 3)
    (hs : subscripted slice false (.ref ad) (.int i u) = operate [.ref ad, .int i u] (getItem (.ref ad) (.int i u))) (q : ∀ t, Q (.float (D 512 (X.get i)) t) s) : wpAny (model prog w) A (subscriptTail value slice (.ref ad) (.int i u)) Q E s := by
  have ci : i = 0 ∨ i = 1 ∨ i = 2 := by omega
  rcases ci with rfl | rfl | rfl
  · exact tup_item N hm (by decide) (by decide) rfl hs (q t1)
  · exact tup_item N hm (by decide) (by decide) rfl hs (q t2)
  · exact tup_item N hm (by decide) (by decide) rfl hs (q t3)
end
section
theorem law8_rows2 : True := by
  k_with "mem_up" => repeat (first | with_reducible exact List.Mem.head _ | refine List.Mem.tail _ ?_)
  trivial
theorem law8_rows3 : True := by
  k_with "subscriptTail" => (k_here; (with_reducible show wpAny _ _ (subscriptTail _ _ (Value.ref _) (Value.int _ _)) _ _ _); (k_dflt (first | (refine' xo_item (X := v.one) (i := i) ?k1 ?k2 ?k3 ?k6 ?_; (case k1 => k_asm); (case k2 => first | (with_reducible exact List.Mem.head _) | exact List.Mem.head _ | exact List.Mem.tail _ (List.Mem.head _)); (case k3 => assumption); (case k6 => with_unfolding_all rfl)) | (refine' xo_item (X := v.two) (i := i) ?k1 ?k2 ?k3 ?k6 ?_; (case k1 => k_asm); (case k2 => first | (with_reducible exact List.Mem.head _) | exact List.Mem.head _ | exact List.Mem.tail _ (List.Mem.head _)); (case k3 => assumption); (case k6 => with_unfolding_all rfl)))); intro t')
  trivial
set_option maxHeartbeats 1000000 in
theorem mix_elt (w : World) (v : Vt) (i : Nat) (hi : i < 3) (hlt : v.one.get i < 481) (hlt2 : v.two.get i < 481)
    (mean : ExcName → Option Value) (mg mb : Str → Option Value) (dp un : Nat) (gd : Option (List Code)) (cn : Str) (ccd : Value) (h₀ : Heap) (L : Addr) (m mC : Str → Option Value) (s : Shared) (E : Value → Shared → Prop)
    (cV cH cT cA I D C I2 D2 C2 : Addr) (oA oI oC oI2 oC2 : Obj) (ys ys2 : List Value) (news : Led) (t : Tok)
    (X : (hd.heap_1 w.params).In h₀) (T : Top hd.view_1 (looseW hd.view_1 []) mean mg mb h₀)
    (hC2 : LCg.NsObj oC2 mC) (x1 : mC (Str.ofString "p") = some (.ref v.O)) (x2 : mC (Str.ofString "q") = some (.ref v.W)) (hA : oA.data = .cell (some (.int (i : Int) t))) (F : Fr h₀ L s.heap m)
    (N : News h₀ L s.heap ((v.O, Xo v.one v.t1 v.t2 v.t3) :: (v.W, Xo v.two v.t4 v.t5 v.t6) :: (C2, oC2) :: (I2, oI2) :: (D2, LCg.lst ys2) :: (C, oC) :: (cA, oA) :: (I, oI) :: (D, LCg.lst ys) :: news)) :
    wpAny (model PySem.Challenge.pw_rs0085_01 w) (lawTop w dp un gd cn L ccd cT cH cV) (eval (compElt (mixInner w)) (compEnvC (compScope (mixInner w)) [(Str.ofString "a", cA)] C2 (compEnvC (compScope (mixOuter w)) [(Str.ofString "a", cA), (Str.ofString "votes", cV)] C (lawEnv w cn L ccd cT cH cV))))
      (CEnd h₀ L m ((C2, oC2) :: (I2, oI2) :: (D2, LCg.lst ys2) :: (C, oC) :: (cA, oA) :: (I, oI) :: (D, LCg.lst ys) :: news) s (mixV i v)) E s := by
  refine fillIt ?_
  k_fill
  intro _
  have f1 := d_mixfin hlt
  have f2 := d_mixfin hlt2
  dsimp only [near] at f1 f2
  change wpAny _ _ (eval (Expr.BinOp _ _ _ _) (compEnvC _ _ _ _)) _ _ _
  k_steps
  exact CEnd.intro (mix_end hlt hlt2) (by k_asm) (by k_asm) (by walk_at "led_sub")
end
section
theorem law8_rows4 : True := by
  k_with "MixSrc" => refine Hold.un ?_
  trivial
theorem law8_rows5 : True := by
  k_with "eval ListComp" => refine Hold.un ?_
  trivial
set_option maxHeartbeats 4000000 in
theorem mix_spec (w : World) (vts : List Vt) (cs : List Int) (hVC : VC vts cs)
    (mean : ExcName → Option Value) (mg mb : Str → Option Value) (dp un : Nat) (gd : Option (List Code)) (cn : Str) (ccd : Value) (A₀ : Around) (h₀ : Heap) (L : Addr) (m : Str → Option Value) (s : Shared) (Q : Flow → Shared → Prop) (E : Value → Shared → Prop)
    (cV cH cT Dv : Addr) (oV : Obj) (n1 : Nat) (news : Led)
    (B : Below A₀ h₀ [] h₀) (X : (hd.heap_1 w.params).In h₀) (T : Top hd.view_1 (looseW hd.view_1 []) mean mg mb h₀) (hdp : dp + 12 < recursionLimit) (hun : un + 200 < cLine) (hV : oV.data = .cell (some (.ref Dv))) (hl : vts.length ≤ 8)
    (F : Fr h₀ L s.heap m) (N : News h₀ L s.heap news) (hcV : (cV, oV) ∈ news) (hDv : (Dv, listOf (vrefs vts).toArray n1) ∈ news) (hvt : ∀ v ∈ vts, ∀ p ∈ v.led, p ∈ news)
    (ret : ∀ D h tk ys, IntsAre ys (sums3 vts) → Fr h₀ L h (fun z => if z = Str.ofString "mix" then some (.ref D) else m z) → News h₀ L h ((D, LCg.lst ys) :: news) → (∀ p ∈ news, p.1 < D) → Q .next { s with heap := h, toks := tk }) :
    wpAny (model PySem.Challenge.pw_rs0085_01 w) (lawTop w dp un gd cn L ccd cT cH cV) (exec (lawMix w) (lawEnv w cn L ccd cT cH cV)) Q E s := by
  refine fillIt ?_
  k_fill
  intro _
  change wpAny _ _ (exec (Stmt.Assign [Expr.Name _ _] (Expr.ListComp _ [⟨Expr.Name _ _, _, _, _⟩] _ _) _) (envX cn (lawScope w) L 152 ccd _)) _ _ _
  refine assign_mix (h₀ := h₀) (L := L) (m := m) (news := news) (cl := [(Str.ofString "votes", cV)]) rfl (by with_unfolding_all rfl) (by with_unfolding_all rfl) (fun n => rfl) (fun h => rfl) rfl (by decide) (fun C c => rfl) rfl rfl (fun _ => rfl) ?_
  k_steps
  unfold Hold
  rename IsRange _ _ _ _ _ _ _ _ => hR
  rename Fr _ _ _ _ => F9
  rename News _ _ _ _ => N9
  have hlen : (vrefs vts).length ≤ 100 := by rw [List.length_map]; omega
  refine ⟨_, _, _, _, 3, sums3 vts, rfl, rfl, F9, N9, hR, by decide, by decide, by decide, rfl, ?_, ?_⟩
  · intro i hi
    have ci : i = 0 ∨ i = 1 ∨ i = 2 := by omega
    refine ⟨sumI (vts.map (mixV i)), by rcases ci with rfl | rfl | rfl <;> rfl, ?_⟩
    intro I oI C oC cA oA D ys t h tk E' hA F1 N1
    clear F9 N9
    k_steps
    unfold Hold
    rename Fr _ _ _ _ => F2
    rename News _ _ _ _ => N2
    refine comp_votes (n := n1) (vs := vrefs vts) (gs := vts.map (mixV i)) (cl := [(Str.ofString "a", cA)]) (by with_unfolding_all rfl) (by decide) rfl (by decide) rfl rfl rfl rfl (by decide) (by decide) (by decide) (by decide) (by decide) (by decide) rfl (fun _ => rfl) F2 N2 (.tail _ (.tail _ (.tail _ (.tail _ hDv)))) hlen (by rw [List.length_map, List.length_map]) ?_ ?_ ?_
    · intro K hK
      exact lcf_cell (c := cV) (o := oV) N2 rfl (.tail _ (.tail _ (.tail _ (.tail _ hcV)))) hV hK rfl rfl
    · intro s' q1 q2 q3 i' v' hv'
      clear F2 N2
      obtain ⟨v, hm, hi', rfl⟩ := vrefs_get hv'
      obtain ⟨cy, hok⟩ := hVC.mem v hm
      have hlt := vt_lt hok
      refine ⟨v.T, .ref v.O, .ref v.W, .str v.name v.t7, .int v.n v.t8, mixV i v, rfl, .tail _ (.tail _ (.tail _ (.tail _ (hvt v hm _ (.head _))))), by rw [List.getElem?_map, hi']; rfl, ?_⟩
      intro I2 oI2 C2 oC2 D2 ys2 mC h2 tk2 E2 hC2 x1 x2 x3 x4 F4 N4
      have N5 := News.also (News.also N4 (p := (v.W, Xo v.two v.t4 v.t5 v.t6)) (.tail _ (.tail _ (.tail _ (.tail _ (.tail _ (.tail _ (.tail _ (hvt v hm _ (.tail _ (.tail _ (.head _)))))))))))) (p := (v.O, Xo v.one v.t1 v.t2 v.t3)) (.tail _ (.tail _ (.tail _ (.tail _ (.tail _ (.tail _ (.tail _ (.tail _ (hvt v hm _ (.tail _ (.head _)))))))))))
      exact mix_elt w v i hi (by rcases ci with rfl | rfl | rfl <;> first | exact hlt.a1 | exact hlt.b1 | exact hlt.c1) (by rcases ci with rfl | rfl | rfl <;> first | exact hlt.a2 | exact hlt.b2 | exact hlt.c2) mean mg mb dp un gd cn ccd h₀ L m mC { s' with heap := h2, toks := tk2 } E2 cV cH cT cA I D C I2 D2 C2 oA oI oC oI2 oC2 ys ys2 news t X T hC2 x1 x2 hA F4 N5
    · intro D' h' tk' ys' hys' F3 N3 l3
      clear F2 N2
      k_steps
      exact CEnd.intro (sumI_sum _).symm (by k_asm) (by k_asm) (by walk_at "led_sub")
  · intro D h tk ys hys F1 N1 l1
    exact ret D h tk ys hys F1 N1 l1
end

theorem law9_rows1 : True := by
  k_with_none
  w_top off
  k_with "led_sub" => first | exact fun p hp => hp | (intro p hp; repeat' (first | exact hp | refine List.Mem.tail _ ?_))
  k_with "led_lt" => first | assumption | exact ktn_ltOf (by assumption) | exact lt1 (by assumption) | exact lt2 (by assumption) | exact lt3 (by assumption) | exact lt4 (by assumption)
  k_with "ct_fill" => (refine fillIt ?_; k_fill; intro _; unfold Ct)
  k_with "ct_enter" => (refine wpAny_call ?_; k_dflt cell_enter)
  k_with "ct_use" => ((case k1 => k_asm); (case k2 => k_asm); (case k3 => k_asm); (case k4 => k_asm); (case k5 => k_asm); (case kK => first | exact rfl | assumption); (case kd => ktr_room); (case ku => ktr_units))
  k_with "subscriptTail" => (k_here; (with_reducible show wpAny _ _ (subscriptTail _ _ (Value.ref _) (Value.int _ _)) _ _ _); (k_dflt (refine' tup_item ?k1 ?k2 ?k3 ?k4 ?k5 ?k6 ?_; (case k1 => k_asm); (case k2 => first | assumption | k_mem); (case k3 => decide); (case k4 => decide); (case k5 => exact rfl); (case k6 => with_unfolding_all rfl); k_whole)))
  k_with "call builtin:max" => ((with_reducible show wpAny _ _ (call _ [Value.float _ _, Value.float _ _, Value.float _ _]) _ _ _); (rename News _ _ _ _ => N'); (rename Fr _ _ _ _ => F'); refine max3_K rfl F' N' ?_; clear N'; intro _ _ _ _ _)
  k_with "call builtin:min" => ((with_reducible show wpAny _ _ (call _ [Value.float _ _, Value.float _ _, Value.float _ _]) _ _ _); (rename News _ _ _ _ => N'); (rename Fr _ _ _ _ => F'); refine min3_K rfl F' N' ?_; clear N'; intro _ _ _ _ _)
  k_with "subscriptTail" => (k_here; (with_reducible show wpAny _ _ (subscriptTail _ _ (Value.ref _) (Value.int _ _)) _ _ _); (k_dflt (refine' lst_item3 ?k1 ?k2 ?k3 ?k4 ?k6 ?_ ?_ ?_; (case k1 => k_asm); (case k2 => k_mem); (case k3 => omega); (case k4 => omega); (case k6 => with_unfolding_all rfl); all_goals (k_whole; intro hidx))))
  k_with "str_fit" => first | decide +kernel | (simp only [Str.length_append]; omega)
  k_with "binaryOp Add str str" => (k_here; (with_reducible show wpAny _ _ (binaryOp Operator.Add (Value.str _ _) (Value.str _ _)) _ _ _); (refine' add_m ?ksz ?_; (case ksz => walk_at "str_fit")); intro tx' kx' hx'; (try dsimp only at hx'))
  k_with "call builtin:str.replace" => (k_here; (refine' repl_m ?k1 ?k2 ?k3 ?k4 ?k5 ?k6 ?_; (case k1 => (show (0 : Nat) < _); omega); (case k2 => (show (0 : Nat) < _); omega); (case k3 => (show @Ne Nat _ _); omega); (case k4 => decide +kernel); (case k5 => walk_at "str_fit"); (case k6 => walk_at "str_fit")); intro tx' kx' hx'; (try dsimp only at hx'))
  k_with "subscriptTail" => (k_here; (with_reducible show wpAny _ _ (subscriptTail _ _ (Value.str _ _) (Value.int _ _)) _ _ _); (k_dflt (refine' str_item ?k1 ?k2 ?k3 ?k4 ?k5 ?_; (case k1 => omega); (case k2 => first | omega | exact Int.lt_of_lt_of_le (b := 4) (by omega) (by decide +kernel)); (case k3 => first | omega | decide +kernel); (case k4 => with_unfolding_all rfl); (case k5 => (intro _; with_unfolding_all rfl)))); intro hone')
  k_with "subscriptTail Name Slice str ref" => ((with_reducible rename Fr _ _ _ _ => F'); (with_reducible rename News _ _ _ _ => N'); (first
  | ((with_reducible show wpAny _ _ (subscriptTail _ (Expr.Slice (some _) none none _) _ _) _ _ _); (refine' slice_strN_sn_len (s := ⟨_, _, _, _, _⟩) F' N' ?_ (hsz := ?hsz)); (case hsz => walk_at "str_fit"))
  | ((with_reducible show wpAny _ _ (subscriptTail _ (Expr.Slice none (some _) none _) _ _) _ _ _); (refine' slice_strN_ns_len (s := ⟨_, _, _, _, _⟩) F' N' ?_ (hsz := ?hsz)); (case hsz => walk_at "str_fit"))
  | ((with_reducible show wpAny _ _ (subscriptTail _ (Expr.Slice (some _) (some _) none _) _ _) _ _ _); (refine' slice_strN_ss_len (s := ⟨_, _, _, _, _⟩) F' N' ?_ (hsz := ?hsz)); (case hsz => walk_at "str_fit"))); intro _ _ _ _ _ _)
  k_with "call ref" => (k_here; (with_reducible show wpAny _ _ (call (Value.ref 28) _) _ _ _); (k_dflt (refine' Ct.use (rgb_spec _ _ _ _ _ _ _ _ ?p1 ?p2) ?k1 ?k2 ?k3 ?k4 ?k5 ?kK ?kd ?ku ?_; (case p1 => exact RgbOk.h1 (by assumption)); (case p2 => exact RgbOk.h2 (by assumption)); walk_at "ct_use")); intro r' tl' h' tk' F' N' l1 hP'; obtain ⟨D', c', t4', t5', t6', e1', e2', e3'⟩ := hP'; subst e1' e2' e3'; replace l1 := lt_tl1 l1; (try k_lt l1); (simp only [List.cons_append, List.nil_append] at N'); (try k_sweep); (try dsimp only); (try k_fold))
  k_with "call ref" => (k_here; (with_reducible show wpAny _ _ (call (Value.ref 86) _) _ _ _); (k_dflt (refine' Ct.use (p257_spec _ _ _ _ ?p1 ?p2) ?k1 ?k2 ?k3 ?k4 ?k5 ?kK ?kd ?ku ?_; (case p1 => assumption); (case p2 => assumption); walk_at "ct_use")); intro r' tl' h' tk' F' N' l1 hP'; obtain ⟨z', t4', e1', e2', e3'⟩ := hP'; subst e1' e2' e3'; (simp only [List.nil_append] at N'); (try k_sweep); (try dsimp only); (try k_fold))
  k_with "enterS" => (refine' code_defS ?k1 ?k2 ?k3 ?k4 ?k5 ?XB ?TB ?D ?T0 ?kA ?k6 ?k7 ?k8 ?k9 ?kB ?_ ?cK ?c2 ?c3 ?c4 ?c5; (case kA => exact rfl); (case k2 => k_asm); (case k1 => k_asm); (case XB => assumption); (case TB => assumption); (case D => assumption); (case T0 => first | assumption | exact KtsTurn.refl); (case k3 => k_asm); (case k4 => k_asm); (case k5 => k_asm); (case k6 => k_is); (case k7 => k_is); (case k8 => ktr_room); (case k9 => exact BindsTo.of_eq rfl); (case kB => exact locs rfl); (case cK => first | exact rfl | assumption); (case c2 => exact rfl); (case c3 => exact rfl); (case c4 => exact rfl); (case c5 => decide); k_whole; intro g' L' h' FG' F' N' B' X' T' D'; (try dsimp only); (try k_lift B'); (try k_fold))
  k_with "enterS0" => (refine' enter0X ?k1 ?k2 ?k3 ?k4 ?k5 ?kA ?kF ?cK ?k6 ?k7 ?k8 ?k9 ?kB ?_ ?c2 ?c3 ?c4 ?c5; (case kA => exact rfl); (case kF => exact rfl); (case cK => first | exact rfl | assumption); (case k2 => k_asm); (case k1 => k_asm); (case k3 => k_asm); (case k4 => k_asm); (case k5 => k_asm); (case k6 => k_is); (case k7 => k_is); (case k8 => ktr_room); (case k9 => exact BindsTo.of_eq rfl); (case kB => exact locs rfl); (case c2 => exact rfl); (case c3 => exact rfl); (case c4 => exact rfl); (case c5 => decide); k_whole; intro g' L' h' FG' F' N' B' X' T' D'; (try dsimp only); (try k_lift B'); (try k_fold))
  k_with "call ref" => (k_here; (with_reducible show wpAny _ _ (call (Value.ref 21) _) _ _ _); (k_dflt (refine' Ct.use (em_spec _ _ _ _ _ _ ?p1 ?p2) ?k1 ?k2 ?k3 ?k4 ?k5 ?kK ?kd ?ku ?_; (case p1 => walk_at "em_ok"); (case p2 => walk_at "em_len"); walk_at "ct_use")); intro r' tl' h' tk' F' N' l1 hP'; obtain ⟨e1', b', e2', e3'⟩ := hP'; subst e1' e2'; (simp only [List.nil_append] at N'); (try k_sweep); (try dsimp only); (try k_fold))
  k_with "em_len" => omega
  k_with "em_ok" => assumption
  trivial
def forBody5 : Stmt → List Stmt | .For _ _ b _ _ => b | _ => []
noncomputable def aBody (w : World) : List Stmt := forBody5 (lawFor w)
def forM (m : Str → Option Value) (a l d : Option Value) : Str → Option Value := fun z => if z = Str.ofString "a" then a else if z = Str.ofString "lead" then l else if z = Str.ofString "duel" then d else m z
def nth1 (b : List Stmt) : Stmt := match b with | _ :: st :: _ => st | _ => .Pass default
def nth2 (b : List Stmt) : Stmt := match b with | _ :: _ :: st :: _ => st | _ => .Pass default
noncomputable def leadE (w : World) : Expr := callArg (asgVal (nth1 (aBody w)))
noncomputable def duelE (w : World) : Expr := callArg (asgVal (nth2 (aBody w)))
def hereB (i : Nat) : Bool := decide ((hereS i).length ≤ 10) && emOkB (hereS i ++ dots) && emOkB (dots ++ hereS i) && emOkB (dots ++ hereS i ++ dots ++ hereS (i + 1) ++ dots) && emOkB (dots ++ hereS (i + 1) ++ dots ++ hereS i ++ dots) && decide ((hereS (i + 1)).length ≤ 10) && (Txt.item (Str.ofString "r\"br") (i : Nat) == hereS i) && (Txt.item (Str.ofString "r\"br") ((i : Nat) + 1) == hereS (i + 1))
theorem t_here : ((List.range 3).all hereB) = true := by decide +kernel
structure HereOk (i : Nat) : Prop where
  l1 : (hereS i).length ≤ 10
  e1 : EmOk (hereS i ++ dots)
  e2 : EmOk (dots ++ hereS i)
  e3 : EmOk (dots ++ hereS i ++ dots ++ hereS (i + 1) ++ dots)
  e4 : EmOk (dots ++ hereS (i + 1) ++ dots ++ hereS i ++ dots)
  l2 : (hereS (i + 1)).length ≤ 10
  i1 : Txt.item (Str.ofString "r\"br") (i : Nat) = hereS i
  i2 : Txt.item (Str.ofString "r\"br") ((i : Nat) + 1) = hereS (i + 1)
theorem hereOk {i : Nat} (hi : i < 3) : HereOk i := by
  have h := all_range t_here hi
  unfold hereB at h
  obtain ⟨h, a8⟩ := and2 h
  obtain ⟨h, a7⟩ := and2 h
  obtain ⟨h, a6⟩ := and2 h
  obtain ⟨h, a5⟩ := and2 h
  obtain ⟨h, a4⟩ := and2 h
  obtain ⟨h, a3⟩ := and2 h
  obtain ⟨a1, a2⟩ := and2 h
  exact ⟨of_decide_eq_true a1, emOk_of a2, emOk_of a3, emOk_of a4, emOk_of a5, of_decide_eq_true a6, eq_of_beq a7, eq_of_beq a8⟩
theorem t_nlen : ((List.range 6).all fun i => decide ((nameAt i).length ≤ 10)) = true := by decide +kernel
theorem name_len {v : Vt} {cy : Int} (h : VoteOk v cy) : v.name.length ≤ 10 := by
  obtain ⟨k, f, c, w, hk, f1, f7, hc, hw, h1, h2, hn, hnm, hcy⟩ := h
  rw [hnm]
  split
  · decide
  · exact of_decide_eq_true (all_range t_nlen (show k % 6 < 6 by omega))
theorem fll_bits (x n : Str) (a : Int) : IntMulOk a (fll x n) := IntMulOk.of_right (by unfold fll; split <;> split <;> decide)
theorem duel_bits (x y n : Str) (a : Int) : IntMulOk a (duel x y n - duel y x n) := IntMulOk.of_right (by unfold duel; split <;> split <;> decide)
section
theorem law9_rows2 : True := by
  k_with "call ref" => (k_here; (with_reducible show wpAny _ _ (call (Value.ref 133) _) _ _ _); (k_dflt (refine' Ct.use (fll_spec _ _ _ _ _ _ ?p1 ?p2 ?p3 ?p4) ?k1 ?k2 ?k3 ?k4 ?k5 ?kK ?kd ?ku ?_; (case p1 => with_reducible assumption); (case p2 => with_reducible assumption); (case p3 => with_reducible assumption); (case p4 => with_reducible assumption); walk_at "ct_use")); intro r' tl' h' tk' F' N' l1 hP'; obtain ⟨e1', j', t4', e2', e3'⟩ := hP'; subst e1' e2' e3'; (simp only [List.nil_append] at N'); (try k_sweep); (try dsimp only); (try k_fold))
  trivial
theorem law9_rows3 : True := by
  k_with "call ref" => (k_here; (with_reducible show wpAny _ _ (call (Value.ref 126) _) _ _ _); (k_dflt (refine' Ct.use (duel_spec _ _ _ _ _ _ _ _ ?p1 ?p2 ?p3 ?p4) ?k1 ?k2 ?k3 ?k4 ?k5 ?kK ?kd ?ku ?_; (case p1 => with_reducible assumption); (case p2 => with_reducible assumption); (case p3 => with_reducible assumption); (case p4 => with_reducible assumption); walk_at "ct_use")); intro r' tl' h' tk' F' N' l1 hP'; obtain ⟨e1', j', t4', e2', e3'⟩ := hP'; subst e1' e2' e3'; (simp only [List.nil_append] at N'); (try k_sweep); (try dsimp only); (try k_fold))
  trivial
set_option maxHeartbeats 1000000 in
theorem lead_elt (w : World) (v : Vt) (i : Nat) (hi : i < 3) (hnl : v.name.length ≤ 10)
    (mean : ExcName → Option Value) (mg mb : Str → Option Value) (dp un : Nat) (gd : Option (List Code)) (cn : Str) (ccd : Value) (A₀ : Around) (h₀ : Heap) (L : Addr) (m mC : Str → Option Value) (s : Shared) (E : Value → Shared → Prop)
    (cV cH cT I2 D2 C2 : Addr) (oH oI2 oC2 : Obj) (ys2 : List Value) (news : Led) (t t7 t8 : Tok)
    (B : Below A₀ h₀ [] h₀) (X : (hd.heap_1 w.params).In h₀) (T : Top hd.view_1 (looseW hd.view_1 []) mean mg mb h₀) (hdp : dp + 12 < recursionLimit) (hun : un + 200 < cLine)
    (hC2 : LCg.NsObj oC2 mC) (x3 : mC (Str.ofString "told") = some (.str v.name t7)) (x4 : mC (Str.ofString "n") = some (.int v.n t8)) (hH : oH.data = .cell (some (.str (hereS i) t))) (F : Fr h₀ L s.heap m)
    (N : News h₀ L s.heap ((cH, oH) :: (C2, oC2) :: (I2, oI2) :: (D2, LCg.lst ys2) :: news)) :
    wpAny (model PySem.Challenge.pw_rs0085_01 w) (lawTop w dp un gd cn L ccd cT cH cV) (eval (compElt (leadE w)) (compEnvC (compScope (leadE w)) [(Str.ofString "here", cH)] C2 (lawEnv w cn L ccd cT cH cV)))
      (CEnd h₀ L m ((C2, oC2) :: (I2, oI2) :: (D2, LCg.lst ys2) :: news) s (leadV i v)) E s := by
  refine fillIt ?_
  k_fill
  intro _
  obtain ⟨g1, g2, g3, g4, g5, g6, g7, g8⟩ := hereOk hi
  have ok1 := fll_bits (hereS i) v.name v.n
  have ok2 := duel_bits (hereS i) (hereS (i + 1)) v.name v.n
  change wpAny _ _ (eval (Expr.BinOp _ _ _ _) (compEnvC _ _ _ _)) _ _ _
  k_steps
  exact CEnd.intro rfl (by k_asm) (by k_asm) (by walk_at "led_sub")
set_option maxHeartbeats 1000000 in
theorem duel_elt (w : World) (v : Vt) (i : Nat) (hi : i < 3) (hnl : v.name.length ≤ 10)
    (mean : ExcName → Option Value) (mg mb : Str → Option Value) (dp un : Nat) (gd : Option (List Code)) (cn : Str) (ccd : Value) (A₀ : Around) (h₀ : Heap) (L : Addr) (m mC : Str → Option Value) (s : Shared) (E : Value → Shared → Prop)
    (cV cH cT I2 D2 C2 : Addr) (oH oT oI2 oC2 : Obj) (ys2 : List Value) (news : Led) (t u t7 t8 : Tok)
    (B : Below A₀ h₀ [] h₀) (X : (hd.heap_1 w.params).In h₀) (T : Top hd.view_1 (looseW hd.view_1 []) mean mg mb h₀) (hdp : dp + 12 < recursionLimit) (hun : un + 200 < cLine)
    (hC2 : LCg.NsObj oC2 mC) (x3 : mC (Str.ofString "told") = some (.str v.name t7)) (x4 : mC (Str.ofString "n") = some (.int v.n t8)) (hH : oH.data = .cell (some (.str (hereS i) t))) (hT : oT.data = .cell (some (.str (hereS (i + 1)) u))) (F : Fr h₀ L s.heap m)
    (N : News h₀ L s.heap ((cT, oT) :: (cH, oH) :: (C2, oC2) :: (I2, oI2) :: (D2, LCg.lst ys2) :: news)) :
    wpAny (model PySem.Challenge.pw_rs0085_01 w) (lawTop w dp un gd cn L ccd cT cH cV) (eval (compElt (duelE w)) (compEnvC (compScope (duelE w)) [(Str.ofString "there", cT), (Str.ofString "here", cH)] C2 (lawEnv w cn L ccd cT cH cV)))
      (CEnd h₀ L m ((C2, oC2) :: (I2, oI2) :: (D2, LCg.lst ys2) :: news) s (duelV i v)) E s := by
  refine fillIt ?_
  k_fill
  intro _
  obtain ⟨g1, g2, g3, g4, g5, g6, g7, g8⟩ := hereOk hi
  have ok1 := fll_bits (hereS i) v.name v.n
  have ok2 := duel_bits (hereS i) (hereS (i + 1)) v.name v.n
  change wpAny _ _ (eval (Expr.BinOp _ _ _ _) (compEnvC _ _ _ _)) _ _ _
  k_steps
  exact CEnd.intro rfl (by k_asm) (by k_asm) (by walk_at "led_sub")
end

theorem law10_rows1 : True := by
  k_with_none
  w_top off
  k_with "led_sub" => first | exact fun p hp => hp | (intro p hp; repeat' (first | exact hp | refine List.Mem.tail _ ?_))
  k_with "led_lt" => first | assumption | exact ktn_ltOf (by assumption) | exact lt1 (by assumption) | exact lt2 (by assumption) | exact lt3 (by assumption) | exact lt4 (by assumption)
  k_with "ct_fill" => (refine fillIt ?_; k_fill; intro _; unfold Ct)
  k_with "ct_enter" => (refine wpAny_call ?_; k_dflt cell_enter)
  k_with "ct_use" => ((case k1 => k_asm); (case k2 => k_asm); (case k3 => k_asm); (case k4 => k_asm); (case k5 => k_asm); (case kK => first | exact rfl | assumption); (case kd => ktr_room); (case ku => ktr_units))
  k_with "subscriptTail" => (k_here; (with_reducible show wpAny _ _ (subscriptTail _ _ (Value.ref _) (Value.int _ _)) _ _ _); (k_dflt (refine' tup_item ?k1 ?k2 ?k3 ?k4 ?k5 ?k6 ?_; (case k1 => k_asm); (case k2 => first | assumption | k_mem); (case k3 => decide); (case k4 => decide); (case k5 => exact rfl); (case k6 => with_unfolding_all rfl); k_whole)))
  k_with "call builtin:max" => ((with_reducible show wpAny _ _ (call _ [Value.float _ _, Value.float _ _, Value.float _ _]) _ _ _); (rename News _ _ _ _ => N'); (rename Fr _ _ _ _ => F'); refine max3_K rfl F' N' ?_; clear N'; intro _ _ _ _ _)
  k_with "call builtin:min" => ((with_reducible show wpAny _ _ (call _ [Value.float _ _, Value.float _ _, Value.float _ _]) _ _ _); (rename News _ _ _ _ => N'); (rename Fr _ _ _ _ => F'); refine min3_K rfl F' N' ?_; clear N'; intro _ _ _ _ _)
  k_with "subscriptTail" => (k_here; (with_reducible show wpAny _ _ (subscriptTail _ _ (Value.ref _) (Value.int _ _)) _ _ _); (k_dflt (refine' lst_item3 ?k1 ?k2 ?k3 ?k4 ?k6 ?_ ?_ ?_; (case k1 => k_asm); (case k2 => k_mem); (case k3 => omega); (case k4 => omega); (case k6 => with_unfolding_all rfl); all_goals (k_whole; intro hidx))))
  k_with "str_fit" => first | decide +kernel | (simp only [Str.length_append]; omega)
  k_with "binaryOp Add str str" => (k_here; (with_reducible show wpAny _ _ (binaryOp Operator.Add (Value.str _ _) (Value.str _ _)) _ _ _); (refine' add_m ?ksz ?_; (case ksz => walk_at "str_fit")); intro tx' kx' hx'; (try dsimp only at hx'))
  k_with "call builtin:str.replace" => (k_here; (refine' repl_m ?k1 ?k2 ?k3 ?k4 ?k5 ?k6 ?_; (case k1 => (show (0 : Nat) < _); omega); (case k2 => (show (0 : Nat) < _); omega); (case k3 => (show @Ne Nat _ _); omega); (case k4 => decide +kernel); (case k5 => walk_at "str_fit"); (case k6 => walk_at "str_fit")); intro tx' kx' hx'; (try dsimp only at hx'))
  k_with "subscriptTail" => (k_here; (with_reducible show wpAny _ _ (subscriptTail _ _ (Value.str _ _) (Value.int _ _)) _ _ _); (k_dflt (refine' str_item ?k1 ?k2 ?k3 ?k4 ?k5 ?_; (case k1 => omega); (case k2 => first | omega | exact Int.lt_of_lt_of_le (b := 4) (by omega) (by decide +kernel)); (case k3 => first | omega | decide +kernel); (case k4 => with_unfolding_all rfl); (case k5 => (intro _; with_unfolding_all rfl)))); intro hone')
  k_with "subscriptTail Name Slice str ref" => ((with_reducible rename Fr _ _ _ _ => F'); (with_reducible rename News _ _ _ _ => N'); (first
  | ((with_reducible show wpAny _ _ (subscriptTail _ (Expr.Slice (some _) none none _) _ _) _ _ _); (refine' slice_strN_sn_len (s := ⟨_, _, _, _, _⟩) F' N' ?_ (hsz := ?hsz)); (case hsz => walk_at "str_fit"))
  | ((with_reducible show wpAny _ _ (subscriptTail _ (Expr.Slice none (some _) none _) _ _) _ _ _); (refine' slice_strN_ns_len (s := ⟨_, _, _, _, _⟩) F' N' ?_ (hsz := ?hsz)); (case hsz => walk_at "str_fit"))
  | ((with_reducible show wpAny _ _ (subscriptTail _ (Expr.Slice (some _) (some _) none _) _ _) _ _ _); (refine' slice_strN_ss_len (s := ⟨_, _, _, _, _⟩) F' N' ?_ (hsz := ?hsz)); (case hsz => walk_at "str_fit"))); intro _ _ _ _ _ _)
  k_with "call ref" => (k_here; (with_reducible show wpAny _ _ (call (Value.ref 28) _) _ _ _); (k_dflt (refine' Ct.use (rgb_spec _ _ _ _ _ _ _ _ ?p1 ?p2) ?k1 ?k2 ?k3 ?k4 ?k5 ?kK ?kd ?ku ?_; (case p1 => exact RgbOk.h1 (by assumption)); (case p2 => exact RgbOk.h2 (by assumption)); walk_at "ct_use")); intro r' tl' h' tk' F' N' l1 hP'; obtain ⟨D', c', t4', t5', t6', e1', e2', e3'⟩ := hP'; subst e1' e2' e3'; replace l1 := lt_tl1 l1; (try k_lt l1); (simp only [List.cons_append, List.nil_append] at N'); (try k_sweep); (try dsimp only); (try k_fold))
  k_with "call ref" => (k_here; (with_reducible show wpAny _ _ (call (Value.ref 86) _) _ _ _); (k_dflt (refine' Ct.use (p257_spec _ _ _ _ ?p1 ?p2) ?k1 ?k2 ?k3 ?k4 ?k5 ?kK ?kd ?ku ?_; (case p1 => assumption); (case p2 => assumption); walk_at "ct_use")); intro r' tl' h' tk' F' N' l1 hP'; obtain ⟨z', t4', e1', e2', e3'⟩ := hP'; subst e1' e2' e3'; (simp only [List.nil_append] at N'); (try k_sweep); (try dsimp only); (try k_fold))
  k_with "enterS" => (refine' code_defS ?k1 ?k2 ?k3 ?k4 ?k5 ?XB ?TB ?D ?T0 ?kA ?k6 ?k7 ?k8 ?k9 ?kB ?_ ?cK ?c2 ?c3 ?c4 ?c5; (case kA => exact rfl); (case k2 => k_asm); (case k1 => k_asm); (case XB => assumption); (case TB => assumption); (case D => assumption); (case T0 => first | assumption | exact KtsTurn.refl); (case k3 => k_asm); (case k4 => k_asm); (case k5 => k_asm); (case k6 => k_is); (case k7 => k_is); (case k8 => ktr_room); (case k9 => exact BindsTo.of_eq rfl); (case kB => exact locs rfl); (case cK => first | exact rfl | assumption); (case c2 => exact rfl); (case c3 => exact rfl); (case c4 => exact rfl); (case c5 => decide); k_whole; intro g' L' h' FG' F' N' B' X' T' D'; (try dsimp only); (try k_lift B'); (try k_fold))
  k_with "enterS0" => (refine' enter0X ?k1 ?k2 ?k3 ?k4 ?k5 ?kA ?kF ?cK ?k6 ?k7 ?k8 ?k9 ?kB ?_ ?c2 ?c3 ?c4 ?c5; (case kA => exact rfl); (case kF => exact rfl); (case cK => first | exact rfl | assumption); (case k2 => k_asm); (case k1 => k_asm); (case k3 => k_asm); (case k4 => k_asm); (case k5 => k_asm); (case k6 => k_is); (case k7 => k_is); (case k8 => ktr_room); (case k9 => exact BindsTo.of_eq rfl); (case kB => exact locs rfl); (case c2 => exact rfl); (case c3 => exact rfl); (case c4 => exact rfl); (case c5 => decide); k_whole; intro g' L' h' FG' F' N' B' X' T' D'; (try dsimp only); (try k_lift B'); (try k_fold))
  k_with "call ref" => (k_here; (with_reducible show wpAny _ _ (call (Value.ref 21) _) _ _ _); (k_dflt (refine' Ct.use (em_spec _ _ _ _ _ _ ?p1 ?p2) ?k1 ?k2 ?k3 ?k4 ?k5 ?kK ?kd ?ku ?_; (case p1 => walk_at "em_ok"); (case p2 => walk_at "em_len"); walk_at "ct_use")); intro r' tl' h' tk' F' N' l1 hP'; obtain ⟨e1', b', e2', e3'⟩ := hP'; subst e1' e2'; (simp only [List.nil_append] at N'); (try k_sweep); (try dsimp only); (try k_fold))
  k_with "em_len" => omega
  k_with "em_ok" => assumption
  trivial
section
variable {prog : Program} {w : World} {A : Around} {E : Value → Shared → Prop} {s : Shared} {h₀ : Heap} {L a : Addr} {m : Str → Option Value} {cn : Str} {cs : Scope} {ccd : Value} {cl : List (Str × Addr)} {all keep : Led}
theorem st_cell {c : Addr} {o : Obj} {v₀ : Option Value} {x : Str} {v : Value} {Q : Unit → Shared → Prop} (keep : Led) (F : Fr h₀ L s.heap m) (N : News h₀ L s.heap all) (hc : cl.lookup x = some c) (hm : (c, o) ∈ all) (hd : o.data = .cell v₀) (hk : ∀ p ∈ keep, p ∈ all ∧ p.1 ≠ c)
    (h : ∀ h' o', Fr h₀ L h' m → News h₀ L h' ((c, o') :: keep) → o'.data = .cell (some v) → Q () { s with heap := h' }) (hkk : cs.kind = .function) (hx : (envX cn cs L a ccd cl).kindOf x = some .cell) :
    wpAny (model prog w) A (storeName (envX cn cs L a ccd cl) x v) Q E s := by
  have hc0 := (N _ hm).2
  refine wpAny_storeName_cell hkk hx hc ⟨o, (N _ hm).1, hd⟩ fun h' hv hs => ?_
  obtain ⟨o', ho', hd'⟩ := hv
  refine h h' o' (F.change hs hc0.1 hc0.2) (fun p hp => ?_) hd'
  rcases List.mem_cons.mp hp with rfl | hp
  · exact ⟨ho', hc0⟩
  · exact ⟨(hs.2 _ (hk p hp).2).trans (N p (hk p hp).1).1, (N p (hk p hp).1).2⟩
theorem mix_item {Q : Value → Shared → Prop} {value slice : Expr} {ad : Addr} {ym : List Value} {gs : List Int} {x y : Int} {j : Nat} {u : Tok} {news : Led} (N : News h₀ L s.heap news) (hm : (ad, LCg.lst ym) ∈ news) (hI : IntsAre ym gs) (hx : x = (j : Int)) (hy : gs[j]? = some y) (hl : gs.length ≤ 100)
    (hs : subscripted slice false (.ref ad) (.int x u) = operate [.ref ad, .int x u] (getItem (.ref ad) (.int x u))) (q : ∀ t, Q (.int y t) s) : wpAny (model prog w) A (subscriptTail value slice (.ref ad) (.int x u)) Q E s := by
  have hlen := IntsAre.length hI
  have hj : j < gs.length := by
    cases Nat.lt_or_ge j gs.length with
    | inl h => exact h
    | inr h => rw [List.getElem?_eq_none h] at hy; cases hy
  refine lst_item (vs := ym) N hm (by omega) (by omega) (by omega) hs fun v hv => ?_
  rw [hx, Int.toNat_natCast] at hv
  obtain ⟨y', t, rfl, hy'⟩ := ints_get hI hv
  rw [hy] at hy'
  cases hy'
  exact q t
end
theorem fr_for {h₀ h : Heap} {L : Addr} {m m1 : Str → Option Value} (F : Fr h₀ L h m1) (hm : ∀ z, z ≠ Str.ofString "a" → z ≠ Str.ofString "lead" → z ≠ Str.ofString "duel" → m1 z = m z) : ∃ a l d, Fr h₀ L h (forM m a l d) := by
  refine ⟨m1 (Str.ofString "a"), m1 (Str.ofString "lead"), m1 (Str.ofString "duel"), fr_c F fun z => ?_⟩
  unfold forM
  by_cases e1 : z = Str.ofString "a"
  · rw [if_pos e1, e1]
  by_cases e2 : z = Str.ofString "lead"
  · rw [if_neg e1, if_pos e2, e2]
  by_cases e3 : z = Str.ofString "duel"
  · rw [if_neg e1, if_neg e2, if_pos e3, e3]
  rw [if_neg e1, if_neg e2, if_neg e3]
  exact hm z e1 e2 e3
theorem sums_get {vts : List Vt} {j : Nat} (hj : j < 3) : (sums3 vts)[j]? = some (sumI (vts.map (mixV j))) := by
  have cj : j = 0 ∨ j = 1 ∨ j = 2 := by omega
  rcases cj with rfl | rfl | rfl <;> rfl
theorem sums_sum (vts : List Vt) : (sums3 vts).sum = sumI (vts.map (mixV 0)) + sumI (vts.map (mixV 1)) + sumI (vts.map (mixV 2)) := by
  simp only [sums3, List.sum_cons, List.sum_nil]; omega
section
theorem law10_rows2 : True := by
  k_with "eval ListComp" => refine Hold.un ?_
  trivial
theorem law10_rows3 : True := by
  k_with "mem_at" => repeat (first | exact List.Mem.head _ | refine List.Mem.tail _ ?_)
  trivial
theorem law10_rows4 : True := by
  k_with "storeName" => ((with_reducible show wpAny _ _ (storeName _ (Str.ofString "here") _) _ _ _); refine Hold.un ?_)
  trivial
theorem law10_rows5 : True := by
  k_with "storeName" => ((with_reducible show wpAny _ _ (storeName _ (Str.ofString "there") _) _ _ _); refine Hold.un ?_)
  trivial
theorem law10_rows6 : True := by
  k_with "subscriptTail Name Name ref int" => (k_here; (with_reducible show wpAny _ _ (subscriptTail _ _ (Value.ref _) (Value.int _ _)) _ _ _); (k_dflt (first | (refine' mix_item (j := aturn_spec_i) (gs := sums3 vts) (ym := ym) ?k1 ?k2 hym ?k3 (sums_get ?k4) (show (3 : Nat) ≤ 100 by decide) ?k6 ?_; (case k3 => rfl); (case k4 => assumption)) | (refine' mix_item (j := (aturn_spec_i + 1) % 3) (gs := sums3 vts) (ym := ym) ?k1 ?k2 hym ?k3 (sums_get ?k4) (show (3 : Nat) ≤ 100 by decide) ?k6 ?_; (case k3 => (rw [Int.fmod_eq_emod_of_nonneg _ (by decide)]; omega)); (case k4 => omega))); (case k1 => k_asm); (case k2 => walk_at "mem_at"); (case k6 => with_unfolding_all rfl)); intro t')
  trivial
theorem law10_rows7 : True := by
  k_with "subscriptTail Name BinOp ref int" => (k_here; (with_reducible show wpAny _ _ (subscriptTail _ _ (Value.ref _) (Value.int _ _)) _ _ _); (k_dflt (first | (refine' mix_item (j := aturn_spec_i) (gs := sums3 vts) (ym := ym) ?k1 ?k2 hym ?k3 (sums_get ?k4) (show (3 : Nat) ≤ 100 by decide) ?k6 ?_; (case k3 => rfl); (case k4 => assumption)) | (refine' mix_item (j := (aturn_spec_i + 1) % 3) (gs := sums3 vts) (ym := ym) ?k1 ?k2 hym ?k3 (sums_get ?k4) (show (3 : Nat) ≤ 100 by decide) ?k6 ?_; (case k3 => (rw [Int.fmod_eq_emod_of_nonneg _ (by decide)]; omega)); (case k4 => omega))); (case k1 => k_asm); (case k2 => walk_at "mem_at"); (case k6 => with_unfolding_all rfl)); intro t')
  trivial
def aturn_spec_says (w : World) (i : Nat) (mean : ExcName → Option Value) (mg : Str → Option Value) (mb : Str → Option Value) (dp : Nat) (un : Nat) (gd : Option (List Code)) (cn : Str) (ccd : Value) (A₀ : Around) (h₀ : Heap) (L : Addr) (m : Str → Option Value) (s : Shared) (Q : Flow → Shared → Prop) (E : Value → Shared → Prop) (cV : Addr) (cH : Addr) (cT : Addr) (Dv : Addr) (oV : Obj) (oH : Obj) (oT : Obj) (vH : Option Value) (vT : Option Value) (n1 : Nat) (n2 : Nat) (rest : Led) (al : Option Value) (ll : Option Value) (dl : Option Value) (t : Tok) : Prop := ∀ (vts : List Vt), ∀ (cs : List Int), (VC vts cs) → (i < 3) → ∀ (Dc : Addr), ∀ (Dm : Addr), ∀ (cvs : List Value), ∀ (ym : List Value), (Below A₀ h₀ [] h₀) → ((hd.heap_1 w.params).In h₀) → (Top hd.view_1 (looseW hd.view_1 []) mean mg mb h₀) → (dp + 12 < recursionLimit) → (un + 200 < cLine) → (oV.data = .cell (some (.ref Dv))) → (oH.data = .cell vH) → (oT.data = .cell vT) → (vts.length ≤ 8) → (IntsAre cvs cs) → (IntsAre ym (sums3 vts)) → (Fr h₀ L s.heap (forM (fun z => if z = Str.ofString "mix" then some (.ref Dm) else if z = Str.ofString "cyclic" then some (.ref Dc) else m z) (some (.int i t)) ll dl)) → (News h₀ L s.heap ((cH, oH) :: (cT, oT) :: (cV, oV) :: (Dm, LCg.lst ym) :: (Dc, listOf cvs.toArray n2) :: (Dv, listOf (vrefs vts).toArray n1) :: rest)) → (∀ p ∈ (cV, oV) :: (Dm, LCg.lst ym) :: (Dc, listOf cvs.toArray n2) :: (Dv, listOf (vrefs vts).toArray n1) :: rest, p.1 ≠ cH ∧ p.1 ≠ cT) → (cH ≠ cT) → (∀ v ∈ vts, ∀ p ∈ v.led, p ∈ rest) → (∀ h tk o1 o2 v1 v2 a' l' d', o1.data = .cell v1 → o2.data = .cell v2 → Fr h₀ L h (forM (fun z => if z = Str.ofString "mix" then some (.ref Dm) else if z = Str.ofString "cyclic" then some (.ref Dc) else m z) a' l' d') →
      News h₀ L h ((cH, o1) :: (cT, o2) :: (cV, oV) :: (Dm, LCg.lst ym) :: (Dc, listOf cvs.toArray n2) :: (Dv, listOf (vrefs vts).toArray n1) :: rest) → Q .next { s with heap := h, toks := tk }) → wpAny (model PySem.Challenge.pw_rs0085_01 w) (lawTop w dp un gd cn L ccd cT cH cV) (execs (aBody w) (lawEnv w cn L ccd cT cH cV)) Q E s
noncomputable def aturn_spec_bad : World × Nat × (ExcName → Option Value) × (Str → Option Value) × (Str → Option Value) × Nat × Nat × (Option (List Code)) × Str × Value × Around × Heap × Addr × (Str → Option Value) × Shared × (Flow → Shared → Prop) × (Value → Shared → Prop) × Addr × Addr × Addr × Addr × Obj × Obj × Obj × (Option Value) × (Option Value) × Nat × Nat × Led × (Option Value) × (Option Value) × (Option Value) × Tok := Classical.choose (ex_eps (dW, default, default, default, default, default, default, default, default, default, dA, default, default, default, dS, default, default, default, default, default, default, default, default, default, default, default, default, default, default, default, default, default, default) (fun v : World × Nat × (ExcName → Option Value) × (Str → Option Value) × (Str → Option Value) × Nat × Nat × (Option (List Code)) × Str × Value × Around × Heap × Addr × (Str → Option Value) × Shared × (Flow → Shared → Prop) × (Value → Shared → Prop) × Addr × Addr × Addr × Addr × Obj × Obj × Obj × (Option Value) × (Option Value) × Nat × Nat × Led × (Option Value) × (Option Value) × (Option Value) × Tok => aturn_spec_says v.1 v.2.1 v.2.2.1 v.2.2.2.1 v.2.2.2.2.1 v.2.2.2.2.2.1 v.2.2.2.2.2.2.1 v.2.2.2.2.2.2.2.1 v.2.2.2.2.2.2.2.2.1 v.2.2.2.2.2.2.2.2.2.1 v.2.2.2.2.2.2.2.2.2.2.1 v.2.2.2.2.2.2.2.2.2.2.2.1 v.2.2.2.2.2.2.2.2.2.2.2.2.1 v.2.2.2.2.2.2.2.2.2.2.2.2.2.1 v.2.2.2.2.2.2.2.2.2.2.2.2.2.2.1 v.2.2.2.2.2.2.2.2.2.2.2.2.2.2.2.1 v.2.2.2.2.2.2.2.2.2.2.2.2.2.2.2.2.1 v.2.2.2.2.2.2.2.2.2.2.2.2.2.2.2.2.2.1 v.2.2.2.2.2.2.2.2.2.2.2.2.2.2.2.2.2.2.1 v.2.2.2.2.2.2.2.2.2.2.2.2.2.2.2.2.2.2.2.1 v.2.2.2.2.2.2.2.2.2.2.2.2.2.2.2.2.2.2.2.2.1 v.2.2.2.2.2.2.2.2.2.2.2.2.2.2.2.2.2.2.2.2.2.1 v.2.2.2.2.2.2.2.2.2.2.2.2.2.2.2.2.2.2.2.2.2.2.1 v.2.2.2.2.2.2.2.2.2.2.2.2.2.2.2.2.2.2.2.2.2.2.2.1 v.2.2.2.2.2.2.2.2.2.2.2.2.2.2.2.2.2.2.2.2.2.2.2.2.1 v.2.2.2.2.2.2.2.2.2.2.2.2.2.2.2.2.2.2.2.2.2.2.2.2.2.1 v.2.2.2.2.2.2.2.2.2.2.2.2.2.2.2.2.2.2.2.2.2.2.2.2.2.2.1 v.2.2.2.2.2.2.2.2.2.2.2.2.2.2.2.2.2.2.2.2.2.2.2.2.2.2.2.1 v.2.2.2.2.2.2.2.2.2.2.2.2.2.2.2.2.2.2.2.2.2.2.2.2.2.2.2.2.1 v.2.2.2.2.2.2.2.2.2.2.2.2.2.2.2.2.2.2.2.2.2.2.2.2.2.2.2.2.2.1 v.2.2.2.2.2.2.2.2.2.2.2.2.2.2.2.2.2.2.2.2.2.2.2.2.2.2.2.2.2.2.1 v.2.2.2.2.2.2.2.2.2.2.2.2.2.2.2.2.2.2.2.2.2.2.2.2.2.2.2.2.2.2.2.1 v.2.2.2.2.2.2.2.2.2.2.2.2.2.2.2.2.2.2.2.2.2.2.2.2.2.2.2.2.2.2.2.2))
noncomputable def aturn_spec_w : World := aturn_spec_bad.1
noncomputable def aturn_spec_i : Nat := aturn_spec_bad.2.1
noncomputable def aturn_spec_mean : ExcName → Option Value := aturn_spec_bad.2.2.1
noncomputable def aturn_spec_mg : Str → Option Value := aturn_spec_bad.2.2.2.1
noncomputable def aturn_spec_mb : Str → Option Value := aturn_spec_bad.2.2.2.2.1
noncomputable def aturn_spec_dp : Nat := aturn_spec_bad.2.2.2.2.2.1
noncomputable def aturn_spec_un : Nat := aturn_spec_bad.2.2.2.2.2.2.1
noncomputable def aturn_spec_gd : Option (List Code) := aturn_spec_bad.2.2.2.2.2.2.2.1
noncomputable def aturn_spec_cn : Str := aturn_spec_bad.2.2.2.2.2.2.2.2.1
noncomputable def aturn_spec_ccd : Value := aturn_spec_bad.2.2.2.2.2.2.2.2.2.1
noncomputable def aturn_spec_A₀ : Around := aturn_spec_bad.2.2.2.2.2.2.2.2.2.2.1
noncomputable def aturn_spec_h₀ : Heap := aturn_spec_bad.2.2.2.2.2.2.2.2.2.2.2.1
noncomputable def aturn_spec_L : Addr := aturn_spec_bad.2.2.2.2.2.2.2.2.2.2.2.2.1
noncomputable def aturn_spec_m : Str → Option Value := aturn_spec_bad.2.2.2.2.2.2.2.2.2.2.2.2.2.1
noncomputable def aturn_spec_s : Shared := aturn_spec_bad.2.2.2.2.2.2.2.2.2.2.2.2.2.2.1
noncomputable def aturn_spec_Q : Flow → Shared → Prop := aturn_spec_bad.2.2.2.2.2.2.2.2.2.2.2.2.2.2.2.1
noncomputable def aturn_spec_E : Value → Shared → Prop := aturn_spec_bad.2.2.2.2.2.2.2.2.2.2.2.2.2.2.2.2.1
noncomputable def aturn_spec_cV : Addr := aturn_spec_bad.2.2.2.2.2.2.2.2.2.2.2.2.2.2.2.2.2.1
noncomputable def aturn_spec_cH : Addr := aturn_spec_bad.2.2.2.2.2.2.2.2.2.2.2.2.2.2.2.2.2.2.1
noncomputable def aturn_spec_cT : Addr := aturn_spec_bad.2.2.2.2.2.2.2.2.2.2.2.2.2.2.2.2.2.2.2.1
noncomputable def aturn_spec_Dv : Addr := aturn_spec_bad.2.2.2.2.2.2.2.2.2.2.2.2.2.2.2.2.2.2.2.2.1
noncomputable def aturn_spec_oV : Obj := aturn_spec_bad.2.2.2.2.2.2.2.2.2.2.2.2.2.2.2.2.2.2.2.2.2.1
noncomputable def aturn_spec_oH : Obj := aturn_spec_bad.2.2.2.2.2.2.2.2.2.2.2.2.2.2.2.2.2.2.2.2.2.2.1
noncomputable def aturn_spec_oT : Obj := aturn_spec_bad.2.2.2.2.2.2.2.2.2.2.2.2.2.2.2.2.2.2.2.2.2.2.2.1
noncomputable def aturn_spec_vH : Option Value := aturn_spec_bad.2.2.2.2.2.2.2.2.2.2.2.2.2.2.2.2.2.2.2.2.2.2.2.2.1
noncomputable def aturn_spec_vT : Option Value := aturn_spec_bad.2.2.2.2.2.2.2.2.2.2.2.2.2.2.2.2.2.2.2.2.2.2.2.2.2.1
noncomputable def aturn_spec_n1 : Nat := aturn_spec_bad.2.2.2.2.2.2.2.2.2.2.2.2.2.2.2.2.2.2.2.2.2.2.2.2.2.2.1
noncomputable def aturn_spec_n2 : Nat := aturn_spec_bad.2.2.2.2.2.2.2.2.2.2.2.2.2.2.2.2.2.2.2.2.2.2.2.2.2.2.2.1
noncomputable def aturn_spec_rest : Led := aturn_spec_bad.2.2.2.2.2.2.2.2.2.2.2.2.2.2.2.2.2.2.2.2.2.2.2.2.2.2.2.2.1
noncomputable def aturn_spec_al : Option Value := aturn_spec_bad.2.2.2.2.2.2.2.2.2.2.2.2.2.2.2.2.2.2.2.2.2.2.2.2.2.2.2.2.2.1
noncomputable def aturn_spec_ll : Option Value := aturn_spec_bad.2.2.2.2.2.2.2.2.2.2.2.2.2.2.2.2.2.2.2.2.2.2.2.2.2.2.2.2.2.2.1
noncomputable def aturn_spec_dl : Option Value := aturn_spec_bad.2.2.2.2.2.2.2.2.2.2.2.2.2.2.2.2.2.2.2.2.2.2.2.2.2.2.2.2.2.2.2.1
noncomputable def aturn_spec_t : Tok := aturn_spec_bad.2.2.2.2.2.2.2.2.2.2.2.2.2.2.2.2.2.2.2.2.2.2.2.2.2.2.2.2.2.2.2.2
set_option maxHeartbeats 2000000 in
theorem aturn_spec_core : aturn_spec_says aturn_spec_w aturn_spec_i aturn_spec_mean aturn_spec_mg aturn_spec_mb aturn_spec_dp aturn_spec_un aturn_spec_gd aturn_spec_cn aturn_spec_ccd aturn_spec_A₀ aturn_spec_h₀ aturn_spec_L aturn_spec_m aturn_spec_s aturn_spec_Q aturn_spec_E aturn_spec_cV aturn_spec_cH aturn_spec_cT aturn_spec_Dv aturn_spec_oV aturn_spec_oH aturn_spec_oT aturn_spec_vH aturn_spec_vT aturn_spec_n1 aturn_spec_n2 aturn_spec_rest aturn_spec_al aturn_spec_ll aturn_spec_dl aturn_spec_t := by
  unfold aturn_spec_says
  intro vts cs hVC hi Dc Dm cvs ym B X T hdp hun hV hH hT hl hcs hym F N hne hHT hvt ret
  refine fillIt ?_
  k_fill
  intro _
  change wpAny _ _ (execs (_ :: _ :: _ :: _ :: _ :: []) (envX aturn_spec_cn (lawScope aturn_spec_w) aturn_spec_L 152 aturn_spec_ccd _)) _ _ _
  have hO := hereOk hi
  k_steps
  unfold Hold
  rename News _ _ _ _ => N1
  rename Fr _ _ _ _ => F1
  refine st_cell (c := aturn_spec_cH) (o := aturn_spec_oH) ((aturn_spec_cT, aturn_spec_oT) :: (aturn_spec_cV, aturn_spec_oV) :: (Dm, LCg.lst ym) :: (Dc, listOf cvs.toArray aturn_spec_n2) :: (aturn_spec_Dv, listOf (vrefs vts).toArray aturn_spec_n1) :: aturn_spec_rest) F1 N1 rfl (.tail _ (.head _)) hH (fun p hp => ⟨.tail _ (.tail _ hp), ?_⟩) ?_ rfl rfl
  · rcases List.mem_cons.mp hp with rfl | hp
    · exact fun e => hHT e.symm
    · exact (hne p hp).1
  clear F1 N1
  intro h1 o1 F2 N2 d1
  k_steps
  unfold Hold
  rename News _ _ _ _ => N3
  rename Fr _ _ _ _ => F3
  refine st_cell (c := aturn_spec_cT) (o := aturn_spec_oT) ((aturn_spec_cH, o1) :: (aturn_spec_cV, aturn_spec_oV) :: (Dm, LCg.lst ym) :: (Dc, listOf cvs.toArray aturn_spec_n2) :: (aturn_spec_Dv, listOf (vrefs vts).toArray aturn_spec_n1) :: aturn_spec_rest) F3 N3 rfl (.tail _ (.head _)) hT (fun p hp => ?_) ?_ rfl rfl
  · rcases List.mem_cons.mp hp with rfl | hp
    · exact ⟨.head _, hHT⟩
    · exact ⟨.tail _ (.tail _ hp), (hne p hp).2⟩
  clear F3 N3
  intro h4 o2 F4 N4 d2
  rw [hO.i1] at d1
  rw [hO.i2] at d2
  have LW := votes_law hVC hi
  have w1 : 3 * sumI (vts.map (mixV aturn_spec_i)) - (sums3 vts).sum = 24 * (vts.map (leadV aturn_spec_i)).sum := by rw [sums_sum, ← sumI_sum]; exact LW.1
  have w2 : 12 * (vts.map (duelV aturn_spec_i)).sum = sumI (vts.map (mixV aturn_spec_i)) - sumI (vts.map (mixV ((aturn_spec_i + 1) % 3))) + 4 * cs.sum := by rw [← sumI_sum, ← sumI_sum]; exact LW.2
  clear LW
  have hlen : (vrefs vts).length ≤ 100 := by rw [List.length_map]; omega
  k_steps
  unfold Hold
  rename News _ _ _ _ => N5
  rename Fr _ _ _ _ => F5
  refine comp_votes (n := aturn_spec_n1) (vs := vrefs vts) (gs := vts.map (leadV aturn_spec_i)) (cl := [(Str.ofString "here", aturn_spec_cH)]) (by with_unfolding_all rfl) (by decide) rfl (by decide) rfl rfl rfl rfl (by decide) (by decide) (by decide) (by decide) (by decide) (by decide) rfl (fun _ => rfl) F5 N5 (by walk_at "mem_at") hlen (by rw [List.length_map, List.length_map]) ?_ ?_ ?_
  · intro K hK
    exact nameX_C (c := aturn_spec_cV) (o := aturn_spec_oV) N5 rfl (by walk_at "mem_at") hV hK
  · intro s' q1 q2 q3 i' v' hv'
    obtain ⟨v, hm, hi', rfl⟩ := vrefs_get hv'
    obtain ⟨cy, hok⟩ := hVC.mem v hm
    refine ⟨v.T, .ref v.O, .ref v.W, .str v.name v.t7, .int v.n v.t8, leadV aturn_spec_i v, rfl, List.mem_of_mem_drop (i := 6) (hvt v hm _ (.head _)), by rw [List.getElem?_map, hi']; rfl, ?_⟩
    intro I2 oI2 C2 oC2 D2 ys2 mC h2 tk2 E2 hC2 x1 x2 x3 x4 F6 N6
    exact lead_elt aturn_spec_w v aturn_spec_i hi (name_len hok) aturn_spec_mean aturn_spec_mg aturn_spec_mb aturn_spec_dp aturn_spec_un aturn_spec_gd aturn_spec_cn aturn_spec_ccd aturn_spec_A₀ aturn_spec_h₀ aturn_spec_L _ mC { s' with heap := h2, toks := tk2 } E2 aturn_spec_cV aturn_spec_cH aturn_spec_cT I2 D2 C2 o1 oI2 oC2 ys2 _ _ v.t7 v.t8 B X T hdp hun hC2 x3 x4 d1 F6 (News.also N6 (.tail _ (.tail _ (.tail _ (by walk_at "mem_at")))))
  intro D7 h7 tk7 ys7 hys7 F7 N7 l7
  clear F5 N5
  k_steps
  unfold Hold
  rename News _ _ _ _ => N8
  rename Fr _ _ _ _ => F8
  refine comp_votes (n := aturn_spec_n1) (vs := vrefs vts) (gs := vts.map (duelV aturn_spec_i)) (cl := [(Str.ofString "there", aturn_spec_cT), (Str.ofString "here", aturn_spec_cH)]) (by with_unfolding_all rfl) (by decide) rfl (by decide) rfl rfl rfl rfl (by decide) (by decide) (by decide) (by decide) (by decide) (by decide) rfl (fun _ => rfl) F8 N8 (by walk_at "mem_at") hlen (by rw [List.length_map, List.length_map]) ?_ ?_ ?_
  · intro K hK
    exact nameX_C (c := aturn_spec_cV) (o := aturn_spec_oV) N8 rfl (by walk_at "mem_at") hV hK
  · intro s' q1 q2 q3 i' v' hv'
    obtain ⟨v, hm, hi', rfl⟩ := vrefs_get hv'
    obtain ⟨cy, hok⟩ := hVC.mem v hm
    refine ⟨v.T, .ref v.O, .ref v.W, .str v.name v.t7, .int v.n v.t8, duelV aturn_spec_i v, rfl, by first | exact List.mem_of_mem_drop (i := 6) (hvt v hm _ (.head _)) | exact List.mem_of_mem_drop (i := 7) (hvt v hm _ (.head _)), by rw [List.getElem?_map, hi']; rfl, ?_⟩
    intro I2 oI2 C2 oC2 D2 ys2 mC h2 tk2 E2 hC2 x1 x2 x3 x4 F6 N6
    exact duel_elt aturn_spec_w v aturn_spec_i hi (name_len hok) aturn_spec_mean aturn_spec_mg aturn_spec_mb aturn_spec_dp aturn_spec_un aturn_spec_gd aturn_spec_cn aturn_spec_ccd aturn_spec_A₀ aturn_spec_h₀ aturn_spec_L _ mC { s' with heap := h2, toks := tk2 } E2 aturn_spec_cV aturn_spec_cH aturn_spec_cT I2 D2 C2 o1 o2 oI2 oC2 ys2 _ _ _ v.t7 v.t8 B X T hdp hun hC2 x3 x4 d1 d2 F6 (News.also (News.also N6 (p := (aturn_spec_cH, o1)) (.tail _ (.tail _ (.tail _ (by walk_at "mem_at"))))) (p := (aturn_spec_cT, o2)) (.tail _ (.tail _ (.tail _ (.tail _ (by walk_at "mem_at"))))))
  intro D9 h9 tk9 ys9 hys9 F9 N9 l9
  clear F8 N8
  k_steps
  all_goals first
    | exact absurd w1 (by assumption)
    | exact absurd w2 (by assumption)
    | skip
  try dsimp only
  rename News _ _ _ _ => N11
  rename Fr _ _ _ _ => F11
  obtain ⟨a', l', d', F12⟩ := fr_for (m := fun z => if z = Str.ofString "mix" then some (.ref Dm) else if z = Str.ofString "cyclic" then some (.ref Dc) else aturn_spec_m z) F11 (fun z e1 e2 e3 => by simp only [forM, if_neg e1, if_neg e2, if_neg e3])
  refine ret _ _ o1 o2 _ _ a' l' d' d1 d2 F12 fun p hp => N11 p ?_
  rcases List.mem_cons.mp hp with rfl | hp
  · exact .tail _ (.tail _ (.tail _ (.head _)))
  rcases List.mem_cons.mp hp with rfl | hp
  · exact .tail _ (.tail _ (.head _))
  · exact .tail _ (.tail _ (.tail _ (.tail _ hp)))
theorem aturn_spec (w : World) (vts : List Vt) (cs : List Int) (hVC : VC vts cs) (i : Nat) (hi : i < 3)
    (mean : ExcName → Option Value) (mg mb : Str → Option Value) (dp un : Nat) (gd : Option (List Code)) (cn : Str) (ccd : Value) (A₀ : Around) (h₀ : Heap) (L : Addr) (m : Str → Option Value) (s : Shared) (Q : Flow → Shared → Prop) (E : Value → Shared → Prop)
    (cV cH cT Dv Dc Dm : Addr) (oV oH oT : Obj) (vH vT : Option Value) (n1 n2 : Nat) (rest : Led) (cvs ym : List Value) (al ll dl : Option Value) (t : Tok)
    (B : Below A₀ h₀ [] h₀) (X : (hd.heap_1 w.params).In h₀) (T : Top hd.view_1 (looseW hd.view_1 []) mean mg mb h₀) (hdp : dp + 12 < recursionLimit) (hun : un + 200 < cLine)
    (hV : oV.data = .cell (some (.ref Dv))) (hH : oH.data = .cell vH) (hT : oT.data = .cell vT) (hl : vts.length ≤ 8) (hcs : IntsAre cvs cs) (hym : IntsAre ym (sums3 vts))
    (F : Fr h₀ L s.heap (forM (fun z => if z = Str.ofString "mix" then some (.ref Dm) else if z = Str.ofString "cyclic" then some (.ref Dc) else m z) (some (.int i t)) ll dl))
    (N : News h₀ L s.heap ((cH, oH) :: (cT, oT) :: (cV, oV) :: (Dm, LCg.lst ym) :: (Dc, listOf cvs.toArray n2) :: (Dv, listOf (vrefs vts).toArray n1) :: rest))
    (hne : ∀ p ∈ (cV, oV) :: (Dm, LCg.lst ym) :: (Dc, listOf cvs.toArray n2) :: (Dv, listOf (vrefs vts).toArray n1) :: rest, p.1 ≠ cH ∧ p.1 ≠ cT) (hHT : cH ≠ cT) (hvt : ∀ v ∈ vts, ∀ p ∈ v.led, p ∈ rest)
    (ret : ∀ h tk o1 o2 v1 v2 a' l' d', o1.data = .cell v1 → o2.data = .cell v2 → Fr h₀ L h (forM (fun z => if z = Str.ofString "mix" then some (.ref Dm) else if z = Str.ofString "cyclic" then some (.ref Dc) else m z) a' l' d') →
      News h₀ L h ((cH, o1) :: (cT, o2) :: (cV, oV) :: (Dm, LCg.lst ym) :: (Dc, listOf cvs.toArray n2) :: (Dv, listOf (vrefs vts).toArray n1) :: rest) → Q .next { s with heap := h, toks := tk }) :
    wpAny (model PySem.Challenge.pw_rs0085_01 w) (lawTop w dp un gd cn L ccd cT cH cV) (execs (aBody w) (lawEnv w cn L ccd cT cH cV)) Q E s :=
  (Classical.choose_spec (ex_eps (dW, default, default, default, default, default, default, default, default, default, dA, default, default, default, dS, default, default, default, default, default, default, default, default, default, default, default, default, default, default, default, default, default, default) (fun v : World × Nat × (ExcName → Option Value) × (Str → Option Value) × (Str → Option Value) × Nat × Nat × (Option (List Code)) × Str × Value × Around × Heap × Addr × (Str → Option Value) × Shared × (Flow → Shared → Prop) × (Value → Shared → Prop) × Addr × Addr × Addr × Addr × Obj × Obj × Obj × (Option Value) × (Option Value) × Nat × Nat × Led × (Option Value) × (Option Value) × (Option Value) × Tok => aturn_spec_says v.1 v.2.1 v.2.2.1 v.2.2.2.1 v.2.2.2.2.1 v.2.2.2.2.2.1 v.2.2.2.2.2.2.1 v.2.2.2.2.2.2.2.1 v.2.2.2.2.2.2.2.2.1 v.2.2.2.2.2.2.2.2.2.1 v.2.2.2.2.2.2.2.2.2.2.1 v.2.2.2.2.2.2.2.2.2.2.2.1 v.2.2.2.2.2.2.2.2.2.2.2.2.1 v.2.2.2.2.2.2.2.2.2.2.2.2.2.1 v.2.2.2.2.2.2.2.2.2.2.2.2.2.2.1 v.2.2.2.2.2.2.2.2.2.2.2.2.2.2.2.1 v.2.2.2.2.2.2.2.2.2.2.2.2.2.2.2.2.1 v.2.2.2.2.2.2.2.2.2.2.2.2.2.2.2.2.2.1 v.2.2.2.2.2.2.2.2.2.2.2.2.2.2.2.2.2.2.1 v.2.2.2.2.2.2.2.2.2.2.2.2.2.2.2.2.2.2.2.1 v.2.2.2.2.2.2.2.2.2.2.2.2.2.2.2.2.2.2.2.2.1 v.2.2.2.2.2.2.2.2.2.2.2.2.2.2.2.2.2.2.2.2.2.1 v.2.2.2.2.2.2.2.2.2.2.2.2.2.2.2.2.2.2.2.2.2.2.1 v.2.2.2.2.2.2.2.2.2.2.2.2.2.2.2.2.2.2.2.2.2.2.2.1 v.2.2.2.2.2.2.2.2.2.2.2.2.2.2.2.2.2.2.2.2.2.2.2.2.1 v.2.2.2.2.2.2.2.2.2.2.2.2.2.2.2.2.2.2.2.2.2.2.2.2.2.1 v.2.2.2.2.2.2.2.2.2.2.2.2.2.2.2.2.2.2.2.2.2.2.2.2.2.2.1 v.2.2.2.2.2.2.2.2.2.2.2.2.2.2.2.2.2.2.2.2.2.2.2.2.2.2.2.1 v.2.2.2.2.2.2.2.2.2.2.2.2.2.2.2.2.2.2.2.2.2.2.2.2.2.2.2.2.1 v.2.2.2.2.2.2.2.2.2.2.2.2.2.2.2.2.2.2.2.2.2.2.2.2.2.2.2.2.2.1 v.2.2.2.2.2.2.2.2.2.2.2.2.2.2.2.2.2.2.2.2.2.2.2.2.2.2.2.2.2.2.1 v.2.2.2.2.2.2.2.2.2.2.2.2.2.2.2.2.2.2.2.2.2.2.2.2.2.2.2.2.2.2.2.1 v.2.2.2.2.2.2.2.2.2.2.2.2.2.2.2.2.2.2.2.2.2.2.2.2.2.2.2.2.2.2.2.2)) aturn_spec_core (w, i, mean, mg, mb, dp, un, gd, cn, ccd, A₀, h₀, L, m, s, Q, E, cV, cH, cT, Dv, oV, oH, oT, vH, vT, n1, n2, rest, al, ll, dl, t) : aturn_spec_says w i mean mg mb dp un gd cn ccd A₀ h₀ L m s Q E cV cH cT Dv oV oH oT vH vT n1 n2 rest al ll dl t) vts cs hVC hi Dc Dm cvs ym B X T hdp hun hV hH hT hl hcs hym F N hne hHT hvt ret
end

theorem law11_rows1 : True := by
  k_with_none
  w_top off
  k_with "led_sub" => first | exact fun p hp => hp | (intro p hp; repeat' (first | exact hp | refine List.Mem.tail _ ?_))
  k_with "led_lt" => first | assumption | exact ktn_ltOf (by assumption) | exact lt1 (by assumption) | exact lt2 (by assumption) | exact lt3 (by assumption) | exact lt4 (by assumption)
  k_with "ct_fill" => (refine fillIt ?_; k_fill; intro _; unfold Ct)
  k_with "ct_enter" => (refine wpAny_call ?_; k_dflt cell_enter)
  k_with "ct_use" => ((case k1 => k_asm); (case k2 => k_asm); (case k3 => k_asm); (case k4 => k_asm); (case k5 => k_asm); (case kK => first | exact rfl | assumption); (case kd => ktr_room); (case ku => ktr_units))
  k_with "subscriptTail" => (k_here; (with_reducible show wpAny _ _ (subscriptTail _ _ (Value.ref _) (Value.int _ _)) _ _ _); (k_dflt (refine' tup_item ?k1 ?k2 ?k3 ?k4 ?k5 ?k6 ?_; (case k1 => k_asm); (case k2 => first | assumption | k_mem); (case k3 => decide); (case k4 => decide); (case k5 => exact rfl); (case k6 => with_unfolding_all rfl); k_whole)))
  k_with "call builtin:max" => ((with_reducible show wpAny _ _ (call _ [Value.float _ _, Value.float _ _, Value.float _ _]) _ _ _); (rename News _ _ _ _ => N'); (rename Fr _ _ _ _ => F'); refine max3_K rfl F' N' ?_; clear N'; intro _ _ _ _ _)
  k_with "call builtin:min" => ((with_reducible show wpAny _ _ (call _ [Value.float _ _, Value.float _ _, Value.float _ _]) _ _ _); (rename News _ _ _ _ => N'); (rename Fr _ _ _ _ => F'); refine min3_K rfl F' N' ?_; clear N'; intro _ _ _ _ _)
  k_with "subscriptTail" => (k_here; (with_reducible show wpAny _ _ (subscriptTail _ _ (Value.ref _) (Value.int _ _)) _ _ _); (k_dflt (refine' lst_item3 ?k1 ?k2 ?k3 ?k4 ?k6 ?_ ?_ ?_; (case k1 => k_asm); (case k2 => k_mem); (case k3 => omega); (case k4 => omega); (case k6 => with_unfolding_all rfl); all_goals (k_whole; intro hidx))))
  k_with "str_fit" => first | decide +kernel | (simp only [Str.length_append]; omega)
  k_with "binaryOp Add str str" => (k_here; (with_reducible show wpAny _ _ (binaryOp Operator.Add (Value.str _ _) (Value.str _ _)) _ _ _); (refine' add_m ?ksz ?_; (case ksz => walk_at "str_fit")); intro tx' kx' hx'; (try dsimp only at hx'))
  k_with "call builtin:str.replace" => (k_here; (refine' repl_m ?k1 ?k2 ?k3 ?k4 ?k5 ?k6 ?_; (case k1 => (show (0 : Nat) < _); omega); (case k2 => (show (0 : Nat) < _); omega); (case k3 => (show @Ne Nat _ _); omega); (case k4 => decide +kernel); (case k5 => walk_at "str_fit"); (case k6 => walk_at "str_fit")); intro tx' kx' hx'; (try dsimp only at hx'))
  k_with "subscriptTail" => (k_here; (with_reducible show wpAny _ _ (subscriptTail _ _ (Value.str _ _) (Value.int _ _)) _ _ _); (k_dflt (refine' str_item ?k1 ?k2 ?k3 ?k4 ?k5 ?_; (case k1 => omega); (case k2 => first | omega | exact Int.lt_of_lt_of_le (b := 4) (by omega) (by decide +kernel)); (case k3 => first | omega | decide +kernel); (case k4 => with_unfolding_all rfl); (case k5 => (intro _; with_unfolding_all rfl)))); intro hone')
  k_with "subscriptTail Name Slice str ref" => ((with_reducible rename Fr _ _ _ _ => F'); (with_reducible rename News _ _ _ _ => N'); (first
  | ((with_reducible show wpAny _ _ (subscriptTail _ (Expr.Slice (some _) none none _) _ _) _ _ _); (refine' slice_strN_sn_len (s := ⟨_, _, _, _, _⟩) F' N' ?_ (hsz := ?hsz)); (case hsz => walk_at "str_fit"))
  | ((with_reducible show wpAny _ _ (subscriptTail _ (Expr.Slice none (some _) none _) _ _) _ _ _); (refine' slice_strN_ns_len (s := ⟨_, _, _, _, _⟩) F' N' ?_ (hsz := ?hsz)); (case hsz => walk_at "str_fit"))
  | ((with_reducible show wpAny _ _ (subscriptTail _ (Expr.Slice (some _) (some _) none _) _ _) _ _ _); (refine' slice_strN_ss_len (s := ⟨_, _, _, _, _⟩) F' N' ?_ (hsz := ?hsz)); (case hsz => walk_at "str_fit"))); intro _ _ _ _ _ _)
  k_with "call ref" => (k_here; (with_reducible show wpAny _ _ (call (Value.ref 28) _) _ _ _); (k_dflt (refine' Ct.use (rgb_spec _ _ _ _ _ _ _ _ ?p1 ?p2) ?k1 ?k2 ?k3 ?k4 ?k5 ?kK ?kd ?ku ?_; (case p1 => exact RgbOk.h1 (by assumption)); (case p2 => exact RgbOk.h2 (by assumption)); walk_at "ct_use")); intro r' tl' h' tk' F' N' l1 hP'; obtain ⟨D', c', t4', t5', t6', e1', e2', e3'⟩ := hP'; subst e1' e2' e3'; replace l1 := lt_tl1 l1; (try k_lt l1); (simp only [List.cons_append, List.nil_append] at N'); (try k_sweep); (try dsimp only); (try k_fold))
  k_with "call ref" => (k_here; (with_reducible show wpAny _ _ (call (Value.ref 86) _) _ _ _); (k_dflt (refine' Ct.use (p257_spec _ _ _ _ ?p1 ?p2) ?k1 ?k2 ?k3 ?k4 ?k5 ?kK ?kd ?ku ?_; (case p1 => assumption); (case p2 => assumption); walk_at "ct_use")); intro r' tl' h' tk' F' N' l1 hP'; obtain ⟨z', t4', e1', e2', e3'⟩ := hP'; subst e1' e2' e3'; (simp only [List.nil_append] at N'); (try k_sweep); (try dsimp only); (try k_fold))
  k_with "enterS" => (refine' code_defS ?k1 ?k2 ?k3 ?k4 ?k5 ?XB ?TB ?D ?T0 ?kA ?k6 ?k7 ?k8 ?k9 ?kB ?_ ?cK ?c2 ?c3 ?c4 ?c5; (case kA => exact rfl); (case k2 => k_asm); (case k1 => k_asm); (case XB => assumption); (case TB => assumption); (case D => assumption); (case T0 => first | assumption | exact KtsTurn.refl); (case k3 => k_asm); (case k4 => k_asm); (case k5 => k_asm); (case k6 => k_is); (case k7 => k_is); (case k8 => ktr_room); (case k9 => exact BindsTo.of_eq rfl); (case kB => exact locs rfl); (case cK => first | exact rfl | assumption); (case c2 => exact rfl); (case c3 => exact rfl); (case c4 => exact rfl); (case c5 => decide); k_whole; intro g' L' h' FG' F' N' B' X' T' D'; (try dsimp only); (try k_lift B'); (try k_fold))
  k_with "enterS0" => (refine' enter0X ?k1 ?k2 ?k3 ?k4 ?k5 ?kA ?kF ?cK ?k6 ?k7 ?k8 ?k9 ?kB ?_ ?c2 ?c3 ?c4 ?c5; (case kA => exact rfl); (case kF => exact rfl); (case cK => first | exact rfl | assumption); (case k2 => k_asm); (case k1 => k_asm); (case k3 => k_asm); (case k4 => k_asm); (case k5 => k_asm); (case k6 => k_is); (case k7 => k_is); (case k8 => ktr_room); (case k9 => exact BindsTo.of_eq rfl); (case kB => exact locs rfl); (case c2 => exact rfl); (case c3 => exact rfl); (case c4 => exact rfl); (case c5 => decide); k_whole; intro g' L' h' FG' F' N' B' X' T' D'; (try dsimp only); (try k_lift B'); (try k_fold))
  k_with "call ref" => (k_here; (with_reducible show wpAny _ _ (call (Value.ref 21) _) _ _ _); (k_dflt (refine' Ct.use (em_spec _ _ _ _ _ _ ?p1 ?p2) ?k1 ?k2 ?k3 ?k4 ?k5 ?kK ?kd ?ku ?_; (case p1 => walk_at "em_ok"); (case p2 => walk_at "em_len"); walk_at "ct_use")); intro r' tl' h' tk' F' N' l1 hP'; obtain ⟨e1', b', e2', e3'⟩ := hP'; subst e1' e2'; (simp only [List.nil_append] at N'); (try k_sweep); (try dsimp only); (try k_fold))
  k_with "em_len" => omega
  k_with "em_ok" => assumption
  trivial
def for_tail_says (w : World) (mean : ExcName → Option Value) (mg : Str → Option Value) (mb : Str → Option Value) (dp : Nat) (un : Nat) (gd : Option (List Code)) (cn : Str) (ccd : Value) (A₀ : Around) (h₀ : Heap) (L : Addr) (m : Str → Option Value) (s : Shared) (Q : Flow → Shared → Prop) (E : Value → Shared → Prop) (cV : Addr) (cH : Addr) (cT : Addr) (Dv : Addr) (Dc : Addr) (Dm : Addr) (oV : Obj) (oH : Obj) (oT : Obj) (vH : Option Value) (vT : Option Value) (n1 : Nat) (n2 : Nat) (rest : Led) (r : Addr) (px : Pos) (tr : Tok) (ur : Tok) (vr : Tok) : Prop := ∀ (vts : List Vt), ∀ (cs : List Int), (VC vts cs) → ∀ (cvs : List Value), ∀ (ym : List Value), (IsRange s.heap r 0 3 1 tr ur vr) → (Below A₀ h₀ [] h₀) → ((hd.heap_1 w.params).In h₀) → (Top hd.view_1 (looseW hd.view_1 []) mean mg mb h₀) → (dp + 12 < recursionLimit) → (un + 200 < cLine) → (oV.data = .cell (some (.ref Dv))) → (oH.data = .cell vH) → (oT.data = .cell vT) → (vts.length ≤ 8) → (IntsAre cvs cs) → (IntsAre ym (sums3 vts)) → (Fr h₀ L s.heap (fun z => if z = Str.ofString "mix" then some (.ref Dm) else if z = Str.ofString "cyclic" then some (.ref Dc) else m z)) → (News h₀ L s.heap ((cH, oH) :: (cT, oT) :: (cV, oV) :: (Dm, LCg.lst ym) :: (Dc, listOf cvs.toArray n2) :: (Dv, listOf (vrefs vts).toArray n1) :: rest)) → (∀ p ∈ (cV, oV) :: (Dm, LCg.lst ym) :: (Dc, listOf cvs.toArray n2) :: (Dv, listOf (vrefs vts).toArray n1) :: rest, p.1 ≠ cH ∧ p.1 ≠ cT) → (cH ≠ cT) → (∀ v ∈ vts, ∀ p ∈ v.led, p ∈ rest) → (∀ h tk m' all, Fr h₀ L h m' → News h₀ L h all → Q .next { s with heap := h, toks := tk }) → wpAny (model PySem.Challenge.pw_rs0085_01 w) (lawTop w dp un gd cn L ccd cT cH cV) (pyIter (.ref r)) (fun it s₂ => codeAny (model PySem.Challenge.pw_rs0085_01 w) (lawTop w dp un gd cn L ccd cT cH cV) (.forLoop (.Name (Str.ofString "a") px) it (aBody w) [] (lawEnv w cn L ccd cT cH cV)) (fun r s' => match r with | .ok f => Q f s' | .error e => cameBackBy (model PySem.Challenge.pw_rs0085_01 w) (lawTop w dp un gd cn L ccd cT cH cV) (lawEnv w cn L ccd cT cH cV) E e s') s₂) E s
noncomputable def for_tail_bad : World × (ExcName → Option Value) × (Str → Option Value) × (Str → Option Value) × Nat × Nat × (Option (List Code)) × Str × Value × Around × Heap × Addr × (Str → Option Value) × Shared × (Flow → Shared → Prop) × (Value → Shared → Prop) × Addr × Addr × Addr × Addr × Addr × Addr × Obj × Obj × Obj × (Option Value) × (Option Value) × Nat × Nat × Led × Addr × Pos × Tok × Tok × Tok := Classical.choose (ex_eps (dW, default, default, default, default, default, default, default, default, dA, default, default, default, dS, default, default, default, default, default, default, default, default, default, default, default, default, default, default, default, default, default, default, default, default, default) (fun v : World × (ExcName → Option Value) × (Str → Option Value) × (Str → Option Value) × Nat × Nat × (Option (List Code)) × Str × Value × Around × Heap × Addr × (Str → Option Value) × Shared × (Flow → Shared → Prop) × (Value → Shared → Prop) × Addr × Addr × Addr × Addr × Addr × Addr × Obj × Obj × Obj × (Option Value) × (Option Value) × Nat × Nat × Led × Addr × Pos × Tok × Tok × Tok => for_tail_says v.1 v.2.1 v.2.2.1 v.2.2.2.1 v.2.2.2.2.1 v.2.2.2.2.2.1 v.2.2.2.2.2.2.1 v.2.2.2.2.2.2.2.1 v.2.2.2.2.2.2.2.2.1 v.2.2.2.2.2.2.2.2.2.1 v.2.2.2.2.2.2.2.2.2.2.1 v.2.2.2.2.2.2.2.2.2.2.2.1 v.2.2.2.2.2.2.2.2.2.2.2.2.1 v.2.2.2.2.2.2.2.2.2.2.2.2.2.1 v.2.2.2.2.2.2.2.2.2.2.2.2.2.2.1 v.2.2.2.2.2.2.2.2.2.2.2.2.2.2.2.1 v.2.2.2.2.2.2.2.2.2.2.2.2.2.2.2.2.1 v.2.2.2.2.2.2.2.2.2.2.2.2.2.2.2.2.2.1 v.2.2.2.2.2.2.2.2.2.2.2.2.2.2.2.2.2.2.1 v.2.2.2.2.2.2.2.2.2.2.2.2.2.2.2.2.2.2.2.1 v.2.2.2.2.2.2.2.2.2.2.2.2.2.2.2.2.2.2.2.2.1 v.2.2.2.2.2.2.2.2.2.2.2.2.2.2.2.2.2.2.2.2.2.1 v.2.2.2.2.2.2.2.2.2.2.2.2.2.2.2.2.2.2.2.2.2.2.1 v.2.2.2.2.2.2.2.2.2.2.2.2.2.2.2.2.2.2.2.2.2.2.2.1 v.2.2.2.2.2.2.2.2.2.2.2.2.2.2.2.2.2.2.2.2.2.2.2.2.1 v.2.2.2.2.2.2.2.2.2.2.2.2.2.2.2.2.2.2.2.2.2.2.2.2.2.1 v.2.2.2.2.2.2.2.2.2.2.2.2.2.2.2.2.2.2.2.2.2.2.2.2.2.2.1 v.2.2.2.2.2.2.2.2.2.2.2.2.2.2.2.2.2.2.2.2.2.2.2.2.2.2.2.1 v.2.2.2.2.2.2.2.2.2.2.2.2.2.2.2.2.2.2.2.2.2.2.2.2.2.2.2.2.1 v.2.2.2.2.2.2.2.2.2.2.2.2.2.2.2.2.2.2.2.2.2.2.2.2.2.2.2.2.2.1 v.2.2.2.2.2.2.2.2.2.2.2.2.2.2.2.2.2.2.2.2.2.2.2.2.2.2.2.2.2.2.1 v.2.2.2.2.2.2.2.2.2.2.2.2.2.2.2.2.2.2.2.2.2.2.2.2.2.2.2.2.2.2.2.1 v.2.2.2.2.2.2.2.2.2.2.2.2.2.2.2.2.2.2.2.2.2.2.2.2.2.2.2.2.2.2.2.2.1 v.2.2.2.2.2.2.2.2.2.2.2.2.2.2.2.2.2.2.2.2.2.2.2.2.2.2.2.2.2.2.2.2.2.1 v.2.2.2.2.2.2.2.2.2.2.2.2.2.2.2.2.2.2.2.2.2.2.2.2.2.2.2.2.2.2.2.2.2.2))
noncomputable def for_tail_w : World := for_tail_bad.1
noncomputable def for_tail_mean : ExcName → Option Value := for_tail_bad.2.1
noncomputable def for_tail_mg : Str → Option Value := for_tail_bad.2.2.1
noncomputable def for_tail_mb : Str → Option Value := for_tail_bad.2.2.2.1
noncomputable def for_tail_dp : Nat := for_tail_bad.2.2.2.2.1
noncomputable def for_tail_un : Nat := for_tail_bad.2.2.2.2.2.1
noncomputable def for_tail_gd : Option (List Code) := for_tail_bad.2.2.2.2.2.2.1
noncomputable def for_tail_cn : Str := for_tail_bad.2.2.2.2.2.2.2.1
noncomputable def for_tail_ccd : Value := for_tail_bad.2.2.2.2.2.2.2.2.1
noncomputable def for_tail_A₀ : Around := for_tail_bad.2.2.2.2.2.2.2.2.2.1
noncomputable def for_tail_h₀ : Heap := for_tail_bad.2.2.2.2.2.2.2.2.2.2.1
noncomputable def for_tail_L : Addr := for_tail_bad.2.2.2.2.2.2.2.2.2.2.2.1
noncomputable def for_tail_m : Str → Option Value := for_tail_bad.2.2.2.2.2.2.2.2.2.2.2.2.1
noncomputable def for_tail_s : Shared := for_tail_bad.2.2.2.2.2.2.2.2.2.2.2.2.2.1
noncomputable def for_tail_Q : Flow → Shared → Prop := for_tail_bad.2.2.2.2.2.2.2.2.2.2.2.2.2.2.1
noncomputable def for_tail_E : Value → Shared → Prop := for_tail_bad.2.2.2.2.2.2.2.2.2.2.2.2.2.2.2.1
noncomputable def for_tail_cV : Addr := for_tail_bad.2.2.2.2.2.2.2.2.2.2.2.2.2.2.2.2.1
noncomputable def for_tail_cH : Addr := for_tail_bad.2.2.2.2.2.2.2.2.2.2.2.2.2.2.2.2.2.1
noncomputable def for_tail_cT : Addr := for_tail_bad.2.2.2.2.2.2.2.2.2.2.2.2.2.2.2.2.2.2.1
noncomputable def for_tail_Dv : Addr := for_tail_bad.2.2.2.2.2.2.2.2.2.2.2.2.2.2.2.2.2.2.2.1
noncomputable def for_tail_Dc : Addr := for_tail_bad.2.2.2.2.2.2.2.2.2.2.2.2.2.2.2.2.2.2.2.2.1
noncomputable def for_tail_Dm : Addr := for_tail_bad.2.2.2.2.2.2.2.2.2.2.2.2.2.2.2.2.2.2.2.2.2.1
noncomputable def for_tail_oV : Obj := for_tail_bad.2.2.2.2.2.2.2.2.2.2.2.2.2.2.2.2.2.2.2.2.2.2.1
noncomputable def for_tail_oH : Obj := for_tail_bad.2.2.2.2.2.2.2.2.2.2.2.2.2.2.2.2.2.2.2.2.2.2.2.1
noncomputable def for_tail_oT : Obj := for_tail_bad.2.2.2.2.2.2.2.2.2.2.2.2.2.2.2.2.2.2.2.2.2.2.2.2.1
noncomputable def for_tail_vH : Option Value := for_tail_bad.2.2.2.2.2.2.2.2.2.2.2.2.2.2.2.2.2.2.2.2.2.2.2.2.2.1
noncomputable def for_tail_vT : Option Value := for_tail_bad.2.2.2.2.2.2.2.2.2.2.2.2.2.2.2.2.2.2.2.2.2.2.2.2.2.2.1
noncomputable def for_tail_n1 : Nat := for_tail_bad.2.2.2.2.2.2.2.2.2.2.2.2.2.2.2.2.2.2.2.2.2.2.2.2.2.2.2.1
noncomputable def for_tail_n2 : Nat := for_tail_bad.2.2.2.2.2.2.2.2.2.2.2.2.2.2.2.2.2.2.2.2.2.2.2.2.2.2.2.2.1
noncomputable def for_tail_rest : Led := for_tail_bad.2.2.2.2.2.2.2.2.2.2.2.2.2.2.2.2.2.2.2.2.2.2.2.2.2.2.2.2.2.1
noncomputable def for_tail_r : Addr := for_tail_bad.2.2.2.2.2.2.2.2.2.2.2.2.2.2.2.2.2.2.2.2.2.2.2.2.2.2.2.2.2.2.1
noncomputable def for_tail_px : Pos := for_tail_bad.2.2.2.2.2.2.2.2.2.2.2.2.2.2.2.2.2.2.2.2.2.2.2.2.2.2.2.2.2.2.2.1
noncomputable def for_tail_tr : Tok := for_tail_bad.2.2.2.2.2.2.2.2.2.2.2.2.2.2.2.2.2.2.2.2.2.2.2.2.2.2.2.2.2.2.2.2.1
noncomputable def for_tail_ur : Tok := for_tail_bad.2.2.2.2.2.2.2.2.2.2.2.2.2.2.2.2.2.2.2.2.2.2.2.2.2.2.2.2.2.2.2.2.2.1
noncomputable def for_tail_vr : Tok := for_tail_bad.2.2.2.2.2.2.2.2.2.2.2.2.2.2.2.2.2.2.2.2.2.2.2.2.2.2.2.2.2.2.2.2.2.2
set_option maxHeartbeats 2000000 in
theorem for_tail_core : for_tail_says for_tail_w for_tail_mean for_tail_mg for_tail_mb for_tail_dp for_tail_un for_tail_gd for_tail_cn for_tail_ccd for_tail_A₀ for_tail_h₀ for_tail_L for_tail_m for_tail_s for_tail_Q for_tail_E for_tail_cV for_tail_cH for_tail_cT for_tail_Dv for_tail_Dc for_tail_Dm for_tail_oV for_tail_oH for_tail_oT for_tail_vH for_tail_vT for_tail_n1 for_tail_n2 for_tail_rest for_tail_r for_tail_px for_tail_tr for_tail_ur for_tail_vr := by
  unfold for_tail_says
  intro vts cs hVC cvs ym hR B X T hdp hun hV hH hT hl hcs hym F9 N9 hne hHT hvt ret
  refine wpAny_pyIter_range hR (by decide) ?_
  try dsimp only
  rw [show Builtin.Range.rangeSize 0 3 1 = 3 by decide]
  have W := LCg.range_walks (prog := PySem.Challenge.pw_rs0085_01) (w := for_tail_w) (A := lawTop for_tail_w for_tail_dp for_tail_un for_tail_gd for_tail_cn for_tail_L for_tail_ccd for_tail_cT for_tail_cH for_tail_cV) (I := for_tail_s.heap.objs.size) rfl 0 3
  have F10 := F9.push ({ cls := .type "range_iterator", data := .fields #[rawInt 0, rawInt 3, rawInt 1] } : Obj)
  obtain ⟨a0, l0, d0, F11⟩ := fr_for (m := fun z => if z = Str.ofString "mix" then some (.ref for_tail_Dm) else if z = Str.ofString "cyclic" then some (.ref for_tail_Dc) else for_tail_m z) F10 (fun _ _ _ _ => rfl)
  have hInew : for_tail_h₀.get? for_tail_s.heap.objs.size = none := next_is_new F9
  have hIL : for_tail_s.heap.objs.size ≠ for_tail_L := Nat.ne_of_gt F9.ns.lt
  have hIlt : ∀ p ∈ (for_tail_cH, for_tail_oH) :: (for_tail_cT, for_tail_oT) :: (for_tail_cV, for_tail_oV) :: (for_tail_Dm, LCg.lst ym) :: (for_tail_Dc, listOf cvs.toArray for_tail_n2) :: (for_tail_Dv, listOf (vrefs vts).toArray for_tail_n1) :: for_tail_rest, p.1 ≠ for_tail_s.heap.objs.size := fun p hp => Nat.ne_of_lt (Heap.lt_size (N9 p hp).1)
  have N10 : News for_tail_h₀ for_tail_L (for_tail_s.heap.push { cls := .type "range_iterator", data := .fields #[rawInt 0, rawInt 3, rawInt 1] }) ((for_tail_s.heap.objs.size, rngO 3 0) :: (for_tail_cH, for_tail_oH) :: (for_tail_cT, for_tail_oT) :: (for_tail_cV, for_tail_oV) :: (for_tail_Dm, LCg.lst ym) :: (for_tail_Dc, listOf cvs.toArray for_tail_n2) :: (for_tail_Dv, listOf (vrefs vts).toArray for_tail_n1) :: for_tail_rest) := fun p hp => by
    rcases List.mem_cons.mp hp with rfl | hp
    · refine ⟨?_, hIL, hInew⟩
      rw [show rngO 3 0 = { cls := .type "range_iterator", data := .fields #[rawInt 0, rawInt 3, rawInt 1] } by simp [rngO]]
      exact Heap.get?_push_size _ rfl
    · exact ⟨Heap.get?_push_of_some _ (N9 p hp).1, (N9 p hp).2⟩
  refine codeAny_forLoop (fun k s' => ∃ i o1 o2 v1 v2 a l d h' tk', k = 3 - i ∧ i ≤ 3 ∧ s' = { for_tail_s with heap := h', toks := tk' } ∧ o1.data = .cell v1 ∧ o2.data = .cell v2 ∧ Fr for_tail_h₀ for_tail_L h' (forM (fun z => if z = Str.ofString "mix" then some (.ref for_tail_Dm) else if z = Str.ofString "cyclic" then some (.ref for_tail_Dc) else for_tail_m z) a l d) ∧
    News for_tail_h₀ for_tail_L h' ((for_tail_s.heap.objs.size, rngO 3 i) :: (for_tail_cH, o1) :: (for_tail_cT, o2) :: (for_tail_cV, for_tail_oV) :: (for_tail_Dm, LCg.lst ym) :: (for_tail_Dc, listOf cvs.toArray for_tail_n2) :: (for_tail_Dv, listOf (vrefs vts).toArray for_tail_n1) :: for_tail_rest)) ?_ 3
    ⟨0, for_tail_oH, for_tail_oT, for_tail_vH, for_tail_vT, a0, l0, d0, _, _, rfl, by decide, rfl, hH, hT, F11, N10⟩ (fun _ => rfl)
  rintro k s' ⟨i, o1, o2, v1, v2, a, l, d, h', tk', rfl, hi, rfl, e1, e2, F1, N1⟩
  have hst : h'.get? for_tail_s.heap.objs.size = some (rngO 3 i) := (N1 _ (.head _)).1
  have hadr : ∀ p ∈ (for_tail_cH, o1) :: (for_tail_cT, o2) :: (for_tail_cV, for_tail_oV) :: (for_tail_Dm, LCg.lst ym) :: (for_tail_Dc, listOf cvs.toArray for_tail_n2) :: (for_tail_Dv, listOf (vrefs vts).toArray for_tail_n1) :: for_tail_rest, p.1 ≠ for_tail_s.heap.objs.size := fun p hp => by
    rcases List.mem_cons.mp hp with rfl | hp
    · exact hIlt (for_tail_cH, for_tail_oH) (.head _)
    rcases List.mem_cons.mp hp with rfl | hp
    · exact hIlt (for_tail_cT, for_tail_oT) (.tail _ (.head _))
    · exact hIlt p (.tail _ (.tail _ hp))
  by_cases hlt : i < 3
  · refine W.item i _ _ _ hlt hst fun v h₂ tk₂ hv hst₂ hk₂ => ?_
    obtain ⟨t, rfl⟩ := hv
    rw [show (0 : Int) + (i : Int) = (i : Int) by omega]
    have kI : ∀ b o, b ≠ for_tail_s.heap.objs.size → h'.get? b = some o → h₂.get? b = some o := fun b o hb e => hk₂ b o (by simpa using hb) e
    have F2 : Fr for_tail_h₀ for_tail_L h₂ (forM (fun z => if z = Str.ofString "mix" then some (.ref for_tail_Dm) else if z = Str.ofString "cyclic" then some (.ref for_tail_Dc) else for_tail_m z) a l d) := ⟨F1.ns.at' fun o e => kI for_tail_L o (Ne.symm hIL) e, fun b o e => kI b o (fun q => by rw [q, hInew] at e; cases e) (F1.keep b o e), F1.above⟩
    refine wpAny_assign_Name (wpAny_storeName_local rfl F2.ns (fun h₃ hn₃ hs₃ => ?_) rfl)
    have F3 := F2.set hn₃ hs₃
    have F4 : Fr for_tail_h₀ for_tail_L h₃ (forM (fun z => if z = Str.ofString "mix" then some (.ref for_tail_Dm) else if z = Str.ofString "cyclic" then some (.ref for_tail_Dc) else for_tail_m z) (some (.int (i : Int) t)) l d) := fr_c F3 fun z => by
      unfold forM
      by_cases q : z = Str.ofString "a"
      · rw [if_pos q, if_pos q]
      · rw [if_neg q, if_neg q, if_neg q]
    have N3 : News for_tail_h₀ for_tail_L h₃ ((for_tail_cH, o1) :: (for_tail_cT, o2) :: (for_tail_cV, for_tail_oV) :: (for_tail_Dm, LCg.lst ym) :: (for_tail_Dc, listOf cvs.toArray for_tail_n2) :: (for_tail_Dv, listOf (vrefs vts).toArray for_tail_n1) :: (for_tail_s.heap.objs.size, rngO 3 (i + 1)) :: for_tail_rest) := fun p hp => by
      have old : ∀ q ∈ (for_tail_cH, o1) :: (for_tail_cT, o2) :: (for_tail_cV, for_tail_oV) :: (for_tail_Dm, LCg.lst ym) :: (for_tail_Dc, listOf cvs.toArray for_tail_n2) :: (for_tail_Dv, listOf (vrefs vts).toArray for_tail_n1) :: for_tail_rest, h₃.get? q.1 = some q.2 ∧ q.1 ≠ for_tail_L ∧ for_tail_h₀.get? q.1 = none := fun q hq =>
        ⟨(hs₃.2 _ (N1 q (.tail _ hq)).2.1).trans (kI _ _ (hadr q hq) (N1 q (.tail _ hq)).1), (N1 q (.tail _ hq)).2⟩
      have hI3 : h₃.get? for_tail_s.heap.objs.size = some (rngO 3 (i + 1)) := (hs₃.2 _ hIL).trans hst₂
      simp only [List.mem_cons] at hp
      rcases hp with rfl | rfl | rfl | rfl | rfl | rfl | rfl | hp
      · exact old _ (.head _)
      · exact old _ (.tail _ (.head _))
      · exact old _ (.tail _ (.tail _ (.head _)))
      · exact old _ (.tail _ (.tail _ (.tail _ (.head _))))
      · exact old _ (.tail _ (.tail _ (.tail _ (.tail _ (.head _)))))
      · exact old _ (.tail _ (.tail _ (.tail _ (.tail _ (.tail _ (.head _))))))
      · exact ⟨hI3, hIL, hInew⟩
      · exact old _ (.tail _ (.tail _ (.tail _ (.tail _ (.tail _ (.tail _ hp))))))
    refine aturn_spec for_tail_w vts cs hVC i hlt for_tail_mean for_tail_mg for_tail_mb for_tail_dp for_tail_un for_tail_gd for_tail_cn for_tail_ccd for_tail_A₀ for_tail_h₀ for_tail_L for_tail_m _ _ _ for_tail_cV for_tail_cH for_tail_cT for_tail_Dv for_tail_Dc for_tail_Dm for_tail_oV o1 o2 v1 v2 for_tail_n1 for_tail_n2 ((for_tail_s.heap.objs.size, rngO 3 (i + 1)) :: for_tail_rest) cvs ym none l d t B X T hdp hun hV e1 e2 hl hcs hym F4 N3 (fun p hp => ?_) hHT (fun v hv p hp => .tail _ (hvt v hv p hp)) ?_
    · simp only [List.mem_cons] at hp
      rcases hp with rfl | rfl | rfl | rfl | rfl | hp
      · exact hne _ (.head _)
      · exact hne _ (.tail _ (.head _))
      · exact hne _ (.tail _ (.tail _ (.head _)))
      · exact hne _ (.tail _ (.tail _ (.tail _ (.head _))))
      · exact ⟨fun e => hIlt (for_tail_cH, for_tail_oH) (.head _) e.symm, fun e => hIlt (for_tail_cT, for_tail_oT) (.tail _ (.head _)) e.symm⟩
      · exact hne _ (.tail _ (.tail _ (.tail _ (.tail _ hp))))
    · intro h5 tk5 p1 p2 u1 u2 a' l' d' g1 g2 F5 N5
      refine ⟨3 - (i + 1), by omega, i + 1, p1, p2, u1, u2, a', l', d', h5, tk5, rfl, hlt, rfl, g1, g2, F5, fun p hp => N5 p ?_⟩
      simp only [List.mem_cons] at hp ⊢
      rcases hp with rfl | rfl | rfl | rfl | rfl | rfl | rfl | hp <;> simp_all
  · have hin : i = 3 := by omega
    subst hin
    refine W.done _ _ _ hst fun h₂ tk₂ hk₂ => ?_
    rw [execs]
    have kI : ∀ b o, b ≠ for_tail_s.heap.objs.size → h'.get? b = some o → h₂.get? b = some o := fun b o hb e => hk₂ b o (by simpa using hb) e
    exact wpAny_pure (ret h₂ tk₂ _ [] ⟨F1.ns.at' fun o e => kI for_tail_L o (Ne.symm hIL) e, fun b o e => kI b o (fun q => by rw [q, hInew] at e; cases e) (F1.keep b o e), F1.above⟩ fun p hp => nomatch hp)
theorem for_tail (w : World) (vts : List Vt) (cs : List Int) (hVC : VC vts cs)
    (mean : ExcName → Option Value) (mg mb : Str → Option Value) (dp un : Nat) (gd : Option (List Code)) (cn : Str) (ccd : Value) (A₀ : Around) (h₀ : Heap) (L : Addr) (m : Str → Option Value) (s : Shared) (Q : Flow → Shared → Prop) (E : Value → Shared → Prop)
    (cV cH cT Dv Dc Dm : Addr) (oV oH oT : Obj) (vH vT : Option Value) (n1 n2 : Nat) (rest : Led) (cvs ym : List Value) (r : Addr) (px : Pos) (tr ur vr : Tok) (hR : IsRange s.heap r 0 3 1 tr ur vr)
    (B : Below A₀ h₀ [] h₀) (X : (hd.heap_1 w.params).In h₀) (T : Top hd.view_1 (looseW hd.view_1 []) mean mg mb h₀) (hdp : dp + 12 < recursionLimit) (hun : un + 200 < cLine)
    (hV : oV.data = .cell (some (.ref Dv))) (hH : oH.data = .cell vH) (hT : oT.data = .cell vT) (hl : vts.length ≤ 8) (hcs : IntsAre cvs cs) (hym : IntsAre ym (sums3 vts))
    (F9 : Fr h₀ L s.heap (fun z => if z = Str.ofString "mix" then some (.ref Dm) else if z = Str.ofString "cyclic" then some (.ref Dc) else m z))
    (N9 : News h₀ L s.heap ((cH, oH) :: (cT, oT) :: (cV, oV) :: (Dm, LCg.lst ym) :: (Dc, listOf cvs.toArray n2) :: (Dv, listOf (vrefs vts).toArray n1) :: rest))
    (hne : ∀ p ∈ (cV, oV) :: (Dm, LCg.lst ym) :: (Dc, listOf cvs.toArray n2) :: (Dv, listOf (vrefs vts).toArray n1) :: rest, p.1 ≠ cH ∧ p.1 ≠ cT) (hHT : cH ≠ cT) (hvt : ∀ v ∈ vts, ∀ p ∈ v.led, p ∈ rest)
    (ret : ∀ h tk m' all, Fr h₀ L h m' → News h₀ L h all → Q .next { s with heap := h, toks := tk }) :
    wpAny (model PySem.Challenge.pw_rs0085_01 w) (lawTop w dp un gd cn L ccd cT cH cV) (pyIter (.ref r)) (fun it s₂ => codeAny (model PySem.Challenge.pw_rs0085_01 w) (lawTop w dp un gd cn L ccd cT cH cV) (.forLoop (.Name (Str.ofString "a") px) it (aBody w) [] (lawEnv w cn L ccd cT cH cV)) (fun r s' => match r with | .ok f => Q f s' | .error e => cameBackBy (model PySem.Challenge.pw_rs0085_01 w) (lawTop w dp un gd cn L ccd cT cH cV) (lawEnv w cn L ccd cT cH cV) E e s') s₂) E s :=
  (Classical.choose_spec (ex_eps (dW, default, default, default, default, default, default, default, default, dA, default, default, default, dS, default, default, default, default, default, default, default, default, default, default, default, default, default, default, default, default, default, default, default, default, default) (fun v : World × (ExcName → Option Value) × (Str → Option Value) × (Str → Option Value) × Nat × Nat × (Option (List Code)) × Str × Value × Around × Heap × Addr × (Str → Option Value) × Shared × (Flow → Shared → Prop) × (Value → Shared → Prop) × Addr × Addr × Addr × Addr × Addr × Addr × Obj × Obj × Obj × (Option Value) × (Option Value) × Nat × Nat × Led × Addr × Pos × Tok × Tok × Tok => for_tail_says v.1 v.2.1 v.2.2.1 v.2.2.2.1 v.2.2.2.2.1 v.2.2.2.2.2.1 v.2.2.2.2.2.2.1 v.2.2.2.2.2.2.2.1 v.2.2.2.2.2.2.2.2.1 v.2.2.2.2.2.2.2.2.2.1 v.2.2.2.2.2.2.2.2.2.2.1 v.2.2.2.2.2.2.2.2.2.2.2.1 v.2.2.2.2.2.2.2.2.2.2.2.2.1 v.2.2.2.2.2.2.2.2.2.2.2.2.2.1 v.2.2.2.2.2.2.2.2.2.2.2.2.2.2.1 v.2.2.2.2.2.2.2.2.2.2.2.2.2.2.2.1 v.2.2.2.2.2.2.2.2.2.2.2.2.2.2.2.2.1 v.2.2.2.2.2.2.2.2.2.2.2.2.2.2.2.2.2.1 v.2.2.2.2.2.2.2.2.2.2.2.2.2.2.2.2.2.2.1 v.2.2.2.2.2.2.2.2.2.2.2.2.2.2.2.2.2.2.2.1 v.2.2.2.2.2.2.2.2.2.2.2.2.2.2.2.2.2.2.2.2.1 v.2.2.2.2.2.2.2.2.2.2.2.2.2.2.2.2.2.2.2.2.2.1 v.2.2.2.2.2.2.2.2.2.2.2.2.2.2.2.2.2.2.2.2.2.2.1 v.2.2.2.2.2.2.2.2.2.2.2.2.2.2.2.2.2.2.2.2.2.2.2.1 v.2.2.2.2.2.2.2.2.2.2.2.2.2.2.2.2.2.2.2.2.2.2.2.2.1 v.2.2.2.2.2.2.2.2.2.2.2.2.2.2.2.2.2.2.2.2.2.2.2.2.2.1 v.2.2.2.2.2.2.2.2.2.2.2.2.2.2.2.2.2.2.2.2.2.2.2.2.2.2.1 v.2.2.2.2.2.2.2.2.2.2.2.2.2.2.2.2.2.2.2.2.2.2.2.2.2.2.2.1 v.2.2.2.2.2.2.2.2.2.2.2.2.2.2.2.2.2.2.2.2.2.2.2.2.2.2.2.2.1 v.2.2.2.2.2.2.2.2.2.2.2.2.2.2.2.2.2.2.2.2.2.2.2.2.2.2.2.2.2.1 v.2.2.2.2.2.2.2.2.2.2.2.2.2.2.2.2.2.2.2.2.2.2.2.2.2.2.2.2.2.2.1 v.2.2.2.2.2.2.2.2.2.2.2.2.2.2.2.2.2.2.2.2.2.2.2.2.2.2.2.2.2.2.2.1 v.2.2.2.2.2.2.2.2.2.2.2.2.2.2.2.2.2.2.2.2.2.2.2.2.2.2.2.2.2.2.2.2.1 v.2.2.2.2.2.2.2.2.2.2.2.2.2.2.2.2.2.2.2.2.2.2.2.2.2.2.2.2.2.2.2.2.2.1 v.2.2.2.2.2.2.2.2.2.2.2.2.2.2.2.2.2.2.2.2.2.2.2.2.2.2.2.2.2.2.2.2.2.2)) for_tail_core (w, mean, mg, mb, dp, un, gd, cn, ccd, A₀, h₀, L, m, s, Q, E, cV, cH, cT, Dv, Dc, Dm, oV, oH, oT, vH, vT, n1, n2, rest, r, px, tr, ur, vr) : for_tail_says w mean mg mb dp un gd cn ccd A₀ h₀ L m s Q E cV cH cT Dv Dc Dm oV oH oT vH vT n1 n2 rest r px tr ur vr) vts cs hVC cvs ym hR B X T hdp hun hV hH hT hl hcs hym F9 N9 hne hHT hvt ret
section
theorem law11_rows2 : True := by
  k_with "pyIter ref" => refine Hold.un ?_
  trivial
set_option maxHeartbeats 2000000 in
theorem for_spec (w : World) (vts : List Vt) (cs : List Int) (hVC : VC vts cs)
    (mean : ExcName → Option Value) (mg mb : Str → Option Value) (dp un : Nat) (gd : Option (List Code)) (cn : Str) (ccd : Value) (A₀ : Around) (h₀ : Heap) (L : Addr) (m : Str → Option Value) (s : Shared) (Q : Flow → Shared → Prop) (E : Value → Shared → Prop)
    (cV cH cT Dv Dc Dm : Addr) (oV oH oT : Obj) (vH vT : Option Value) (n1 n2 : Nat) (rest : Led) (cvs ym : List Value)
    (B : Below A₀ h₀ [] h₀) (X : (hd.heap_1 w.params).In h₀) (T : Top hd.view_1 (looseW hd.view_1 []) mean mg mb h₀) (hdp : dp + 12 < recursionLimit) (hun : un + 200 < cLine)
    (hV : oV.data = .cell (some (.ref Dv))) (hH : oH.data = .cell vH) (hT : oT.data = .cell vT) (hl : vts.length ≤ 8) (hcs : IntsAre cvs cs) (hym : IntsAre ym (sums3 vts))
    (F : Fr h₀ L s.heap (fun z => if z = Str.ofString "mix" then some (.ref Dm) else if z = Str.ofString "cyclic" then some (.ref Dc) else m z))
    (N : News h₀ L s.heap ((cH, oH) :: (cT, oT) :: (cV, oV) :: (Dm, LCg.lst ym) :: (Dc, listOf cvs.toArray n2) :: (Dv, listOf (vrefs vts).toArray n1) :: rest))
    (hne : ∀ p ∈ (cV, oV) :: (Dm, LCg.lst ym) :: (Dc, listOf cvs.toArray n2) :: (Dv, listOf (vrefs vts).toArray n1) :: rest, p.1 ≠ cH ∧ p.1 ≠ cT) (hHT : cH ≠ cT) (hvt : ∀ v ∈ vts, ∀ p ∈ v.led, p ∈ rest)
    (ret : ∀ h tk m' all, Fr h₀ L h m' → News h₀ L h all → Q .next { s with heap := h, toks := tk }) :
    wpAny (model PySem.Challenge.pw_rs0085_01 w) (lawTop w dp un gd cn L ccd cT cH cV) (exec (lawFor w) (lawEnv w cn L ccd cT cH cV)) Q E s := by
  refine fillIt ?_
  k_fill
  intro _
  change wpAny _ _ (exec (Stmt.For (Expr.Name _ _) _ (aBody w) [] _) (envX cn (lawScope w) L 152 ccd _)) _ _ _
  refine wpAny_For ?_ (fun _ => rfl)
  k_steps
  unfold Hold
  rename IsRange _ _ _ _ _ _ _ _ => hR
  rename Fr _ _ _ _ => F9
  rename News _ _ _ _ => N9
  exact for_tail w vts cs hVC mean mg mb dp un gd cn ccd A₀ h₀ L m _ _ _ cV cH cT Dv Dc Dm oV oH oT vH vT n1 n2 rest cvs ym _ _ _ _ _ hR B X T hdp hun hV hH hT hl hcs hym F9 N9 hne hHT hvt (fun h tk m' all F' N' => ret h tk m' all F' N')
end

theorem law12_rows1 : True := by
  k_with_none
  w_top off
  k_with "led_sub" => first | exact fun p hp => hp | (intro p hp; repeat' (first | exact hp | refine List.Mem.tail _ ?_))
  k_with "led_lt" => first | assumption | exact ktn_ltOf (by assumption) | exact lt1 (by assumption) | exact lt2 (by assumption) | exact lt3 (by assumption) | exact lt4 (by assumption)
  k_with "ct_fill" => (refine fillIt ?_; k_fill; intro _; unfold Ct)
  k_with "ct_enter" => (refine wpAny_call ?_; k_dflt cell_enter)
  k_with "ct_use" => ((case k1 => k_asm); (case k2 => k_asm); (case k3 => k_asm); (case k4 => k_asm); (case k5 => k_asm); (case kK => first | exact rfl | assumption); (case kd => ktr_room); (case ku => ktr_units))
  k_with "subscriptTail" => (k_here; (with_reducible show wpAny _ _ (subscriptTail _ _ (Value.ref _) (Value.int _ _)) _ _ _); (k_dflt (refine' tup_item ?k1 ?k2 ?k3 ?k4 ?k5 ?k6 ?_; (case k1 => k_asm); (case k2 => first | assumption | k_mem); (case k3 => decide); (case k4 => decide); (case k5 => exact rfl); (case k6 => with_unfolding_all rfl); k_whole)))
  k_with "call builtin:max" => ((with_reducible show wpAny _ _ (call _ [Value.float _ _, Value.float _ _, Value.float _ _]) _ _ _); (rename News _ _ _ _ => N'); (rename Fr _ _ _ _ => F'); refine max3_K rfl F' N' ?_; clear N'; intro _ _ _ _ _)
  k_with "call builtin:min" => ((with_reducible show wpAny _ _ (call _ [Value.float _ _, Value.float _ _, Value.float _ _]) _ _ _); (rename News _ _ _ _ => N'); (rename Fr _ _ _ _ => F'); refine min3_K rfl F' N' ?_; clear N'; intro _ _ _ _ _)
  k_with "subscriptTail" => (k_here; (with_reducible show wpAny _ _ (subscriptTail _ _ (Value.ref _) (Value.int _ _)) _ _ _); (k_dflt (refine' lst_item3 ?k1 ?k2 ?k3 ?k4 ?k6 ?_ ?_ ?_; (case k1 => k_asm); (case k2 => k_mem); (case k3 => omega); (case k4 => omega); (case k6 => with_unfolding_all rfl); all_goals (k_whole; intro hidx))))
  k_with "str_fit" => first | decide +kernel | (simp only [Str.length_append]; omega)
  k_with "binaryOp Add str str" => (k_here; (with_reducible show wpAny _ _ (binaryOp Operator.Add (Value.str _ _) (Value.str _ _)) _ _ _); (refine' add_m ?ksz ?_; (case ksz => walk_at "str_fit")); intro tx' kx' hx'; (try dsimp only at hx'))
  k_with "call builtin:str.replace" => (k_here; (refine' repl_m ?k1 ?k2 ?k3 ?k4 ?k5 ?k6 ?_; (case k1 => (show (0 : Nat) < _); omega); (case k2 => (show (0 : Nat) < _); omega); (case k3 => (show @Ne Nat _ _); omega); (case k4 => decide +kernel); (case k5 => walk_at "str_fit"); (case k6 => walk_at "str_fit")); intro tx' kx' hx'; (try dsimp only at hx'))
  k_with "subscriptTail" => (k_here; (with_reducible show wpAny _ _ (subscriptTail _ _ (Value.str _ _) (Value.int _ _)) _ _ _); (k_dflt (refine' str_item ?k1 ?k2 ?k3 ?k4 ?k5 ?_; (case k1 => omega); (case k2 => first | omega | exact Int.lt_of_lt_of_le (b := 4) (by omega) (by decide +kernel)); (case k3 => first | omega | decide +kernel); (case k4 => with_unfolding_all rfl); (case k5 => (intro _; with_unfolding_all rfl)))); intro hone')
  k_with "subscriptTail Name Slice str ref" => ((with_reducible rename Fr _ _ _ _ => F'); (with_reducible rename News _ _ _ _ => N'); (first
  | ((with_reducible show wpAny _ _ (subscriptTail _ (Expr.Slice (some _) none none _) _ _) _ _ _); (refine' slice_strN_sn_len (s := ⟨_, _, _, _, _⟩) F' N' ?_ (hsz := ?hsz)); (case hsz => walk_at "str_fit"))
  | ((with_reducible show wpAny _ _ (subscriptTail _ (Expr.Slice none (some _) none _) _ _) _ _ _); (refine' slice_strN_ns_len (s := ⟨_, _, _, _, _⟩) F' N' ?_ (hsz := ?hsz)); (case hsz => walk_at "str_fit"))
  | ((with_reducible show wpAny _ _ (subscriptTail _ (Expr.Slice (some _) (some _) none _) _ _) _ _ _); (refine' slice_strN_ss_len (s := ⟨_, _, _, _, _⟩) F' N' ?_ (hsz := ?hsz)); (case hsz => walk_at "str_fit"))); intro _ _ _ _ _ _)
  k_with "call ref" => (k_here; (with_reducible show wpAny _ _ (call (Value.ref 28) _) _ _ _); (k_dflt (refine' Ct.use (rgb_spec _ _ _ _ _ _ _ _ ?p1 ?p2) ?k1 ?k2 ?k3 ?k4 ?k5 ?kK ?kd ?ku ?_; (case p1 => exact RgbOk.h1 (by assumption)); (case p2 => exact RgbOk.h2 (by assumption)); walk_at "ct_use")); intro r' tl' h' tk' F' N' l1 hP'; obtain ⟨D', c', t4', t5', t6', e1', e2', e3'⟩ := hP'; subst e1' e2' e3'; replace l1 := lt_tl1 l1; (try k_lt l1); (simp only [List.cons_append, List.nil_append] at N'); (try k_sweep); (try dsimp only); (try k_fold))
  k_with "call ref" => (k_here; (with_reducible show wpAny _ _ (call (Value.ref 86) _) _ _ _); (k_dflt (refine' Ct.use (p257_spec _ _ _ _ ?p1 ?p2) ?k1 ?k2 ?k3 ?k4 ?k5 ?kK ?kd ?ku ?_; (case p1 => assumption); (case p2 => assumption); walk_at "ct_use")); intro r' tl' h' tk' F' N' l1 hP'; obtain ⟨z', t4', e1', e2', e3'⟩ := hP'; subst e1' e2' e3'; (simp only [List.nil_append] at N'); (try k_sweep); (try dsimp only); (try k_fold))
  k_with "enterS" => (refine' code_defS ?k1 ?k2 ?k3 ?k4 ?k5 ?XB ?TB ?D ?T0 ?kA ?k6 ?k7 ?k8 ?k9 ?kB ?_ ?cK ?c2 ?c3 ?c4 ?c5; (case kA => exact rfl); (case k2 => k_asm); (case k1 => k_asm); (case XB => assumption); (case TB => assumption); (case D => assumption); (case T0 => first | assumption | exact KtsTurn.refl); (case k3 => k_asm); (case k4 => k_asm); (case k5 => k_asm); (case k6 => k_is); (case k7 => k_is); (case k8 => ktr_room); (case k9 => exact BindsTo.of_eq rfl); (case kB => exact locs rfl); (case cK => first | exact rfl | assumption); (case c2 => exact rfl); (case c3 => exact rfl); (case c4 => exact rfl); (case c5 => decide); k_whole; intro g' L' h' FG' F' N' B' X' T' D'; (try dsimp only); (try k_lift B'); (try k_fold))
  k_with "enterS0" => (refine' enter0X ?k1 ?k2 ?k3 ?k4 ?k5 ?kA ?kF ?cK ?k6 ?k7 ?k8 ?k9 ?kB ?_ ?c2 ?c3 ?c4 ?c5; (case kA => exact rfl); (case kF => exact rfl); (case cK => first | exact rfl | assumption); (case k2 => k_asm); (case k1 => k_asm); (case k3 => k_asm); (case k4 => k_asm); (case k5 => k_asm); (case k6 => k_is); (case k7 => k_is); (case k8 => ktr_room); (case k9 => exact BindsTo.of_eq rfl); (case kB => exact locs rfl); (case c2 => exact rfl); (case c3 => exact rfl); (case c4 => exact rfl); (case c5 => decide); k_whole; intro g' L' h' FG' F' N' B' X' T' D'; (try dsimp only); (try k_lift B'); (try k_fold))
  k_with "call ref" => (k_here; (with_reducible show wpAny _ _ (call (Value.ref 21) _) _ _ _); (k_dflt (refine' Ct.use (em_spec _ _ _ _ _ _ ?p1 ?p2) ?k1 ?k2 ?k3 ?k4 ?k5 ?kK ?kd ?ku ?_; (case p1 => walk_at "em_ok"); (case p2 => walk_at "em_len"); walk_at "ct_use")); intro r' tl' h' tk' F' N' l1 hP'; obtain ⟨e1', b', e2', e3'⟩ := hP'; subst e1' e2'; (simp only [List.nil_append] at N'); (try k_sweep); (try dsimp only); (try k_fold))
  k_with "em_len" => omega
  k_with "em_ok" => assumption
  trivial
section
variable {prog : Program} {w : World} {A : Around} {s : Shared} {R : Result → Shared → Prop}
theorem codeC.call_cells {a : Addr} {o : Obj} {fd : FuncData} {body : List Stmt} {args : Args} {binds : List (Str × Value)}
    (hroom : A.depth < recursionLimit) (ho : s.heap.get? a = some o) (hdata : o.data = .func fd) (hlim : s.heap.NoLimit) (hcd : s.heap.CodeRec fd.code fd.qualname)
    (hbody : fd.body = .stmts body) (hbind : BindsTo s fd args binds) (hclo : fd.closure = [])
    (hkind : ∀ x ∈ binds, fd.scope.names.lookup x.1 = some .local ∨ (fd.scope.names.lookup x.1 = some .cell ∧ ((cellsFrom (s.heap.objs.size + 1) fd.scope.names []).lookup x.1).isSome = true))
    (h : ∀ s₁, InCallC s (callEnvC fd s.heap.objs.size a).locals (bindL (callEnvC fd s.heap.objs.size a).kindOf binds fun _ => none) (callEnvC fd s.heap.objs.size a).cells (bindC (callEnvC fd s.heap.objs.size a).kindOf binds fun _ => none) s₁ →
      wpC (model prog w) (A.deeper (callEnvC fd s.heap.objs.size a)) (execs body (callEnvC fd s.heap.objs.size a)) (fun f s' => R (.ok (.ret (match f with | .ret v => v | _ => .none))) s')
        (fun e s' => wpC (model prog w) (A.deeper (callEnvC fd s.heap.objs.size a)) (leaving (callEnvC fd s.heap.objs.size a) e) (fun _ s'' => R (.error e) s'') (fun e' s'' => R (.error e') s'') s') s₁)
    (hco : fd.scope.isCoroutine = false := by rfl) (hgen : fd.scope.isGenerator = false := by rfl) (hk : fd.scope.kind = .function := by rfl) : codeC (model prog w) A (.call (.ref a) args) R s := by
  refine .of_tree ?_
  show wpC _ A.in1 (callAny (.ref a) args) _ _ s
  simp only [callAny]
  refine .bind (wpAny_load ho ?_)
  obtain ⟨c, oc, vs, tq, hc, hoc, hdc, hq⟩ := hcd
  simp only [hdata, callFunction, hco, hgen, hbody, hc, hclo]
  refine .bind (m := field (.ref c) 1) (wpAny_field hoc hdc hq ?_)
  refine .bind (wpAny_pure (.bind (hbind _ _ _ _ (.bind ?_))))
  rw [← hc]
  refine wpAny_newFunctionEnv_cells hk hkind fun env he s' x => ?_
  subst he
  exact .bind (wpAny_enterFrame (hlim.keeps x.toInCall.keep) hroom (.of (wpAny_pure ⟨rfl, .func (h s' x)⟩)))
/-- the law's own call, by the claim's caller -/
theorem enter_law {name : Str} {params : Arguments} {body : List Stmt} {scope : Scope} {pm cd doc : Value} {a : Addr} {o : Obj} {args : List Value} {binds : List (Str × Value)} {Q : Value → Shared → Prop} {E : Value → Shared → Prop}
    (hroom : A.depth < recursionLimit) (ho : s.heap.get? a = some o) (hdata : o.data = .func (Calls.docDef name params body scope pm cd doc)) (hlim : s.heap.NoLimit) (hcd : s.heap.CodeRec cd name)
    (hbind : bindArgs (Calls.docDef name params body scope pm cd doc) ⟨args, []⟩ = pure binds)
    (hkind : ∀ x ∈ binds, scope.names.lookup x.1 = some .local ∨ (scope.names.lookup x.1 = some .cell ∧ ((cellsFrom (s.heap.objs.size + 1) scope.names []).lookup x.1).isSome = true))
    (hnd : ((cellsFrom 0 scope.names []).map (·.1)).Nodup)
    (h : ∀ h₁ tk cells, Fr s.heap s.heap.objs.size h₁ (bindL (envOfC name scope s.heap.objs.size a cd).kindOf binds fun _ => none) → News s.heap s.heap.objs.size h₁ cells →
      CellsAre (bindC (envOfC name scope s.heap.objs.size a cd).kindOf binds fun _ => none) (cellsFrom (s.heap.objs.size + 1) scope.names []) cells →
      wpC (model prog w) (A.deeper (envOfC name scope s.heap.objs.size a cd)) (execs body (envOfC name scope s.heap.objs.size a cd))
        (fun f s' => Q (match f with | .ret v => v | _ => .none) s') NoE { s with heap := h₁, toks := tk })
    (hco : scope.isCoroutine = false := by rfl) (hgen : scope.isGenerator = false := by rfl) (hk : scope.kind = .function := by rfl) :
    wpC (model prog w) A (call (.ref a) args) Q E s := by
  refine .runValue (codeC.call_cells (fd := Calls.docDef name params body scope pm cd doc) hroom ho hdata hlim hcd rfl (BindsTo.of_eq hbind) rfl hkind (fun s₁ x => ?_) hco hgen hk)
  obtain ⟨h₁, tk, rfl, _⟩ := x.done
  obtain ⟨cells, N, Y⟩ := Cl.news (h₀ := s.heap) (Nat.le_refl _) fun n c hm => ⟨x.cell n c (lookup_of_mem_nodup (cellsFrom_names scope.names 0 (s.heap.objs.size + 1) [] [] rfl ▸ hnd) hm), x.above n c hm⟩
  exact (h h₁ tk cells ⟨x.toInCall.ns, x.toInCall.keep, Nat.le_refl _⟩ N Y).mono (fun _ _ k => k) fun _ _ k => k.elim
end

theorem law13_rows1 : True := by
  k_with_none
  w_top off
  k_with "led_sub" => first | exact fun p hp => hp | (intro p hp; repeat' (first | exact hp | refine List.Mem.tail _ ?_))
  k_with "led_lt" => first | assumption | exact ktn_ltOf (by assumption) | exact lt1 (by assumption) | exact lt2 (by assumption) | exact lt3 (by assumption) | exact lt4 (by assumption)
  k_with "ct_fill" => (refine fillIt ?_; k_fill; intro _; unfold Ct)
  k_with "ct_enter" => (refine wpAny_call ?_; k_dflt cell_enter)
  k_with "ct_use" => ((case k1 => k_asm); (case k2 => k_asm); (case k3 => k_asm); (case k4 => k_asm); (case k5 => k_asm); (case kK => first | exact rfl | assumption); (case kd => ktr_room); (case ku => ktr_units))
  k_with "subscriptTail" => (k_here; (with_reducible show wpAny _ _ (subscriptTail _ _ (Value.ref _) (Value.int _ _)) _ _ _); (k_dflt (refine' tup_item ?k1 ?k2 ?k3 ?k4 ?k5 ?k6 ?_; (case k1 => k_asm); (case k2 => first | assumption | k_mem); (case k3 => decide); (case k4 => decide); (case k5 => exact rfl); (case k6 => with_unfolding_all rfl); k_whole)))
  k_with "call builtin:max" => ((with_reducible show wpAny _ _ (call _ [Value.float _ _, Value.float _ _, Value.float _ _]) _ _ _); (rename News _ _ _ _ => N'); (rename Fr _ _ _ _ => F'); refine max3_K rfl F' N' ?_; clear N'; intro _ _ _ _ _)
  k_with "call builtin:min" => ((with_reducible show wpAny _ _ (call _ [Value.float _ _, Value.float _ _, Value.float _ _]) _ _ _); (rename News _ _ _ _ => N'); (rename Fr _ _ _ _ => F'); refine min3_K rfl F' N' ?_; clear N'; intro _ _ _ _ _)
  k_with "subscriptTail" => (k_here; (with_reducible show wpAny _ _ (subscriptTail _ _ (Value.ref _) (Value.int _ _)) _ _ _); (k_dflt (refine' lst_item3 ?k1 ?k2 ?k3 ?k4 ?k6 ?_ ?_ ?_; (case k1 => k_asm); (case k2 => k_mem); (case k3 => omega); (case k4 => omega); (case k6 => with_unfolding_all rfl); all_goals (k_whole; intro hidx))))
  k_with "str_fit" => first | decide +kernel | (simp only [Str.length_append]; omega)
  k_with "binaryOp Add str str" => (k_here; (with_reducible show wpAny _ _ (binaryOp Operator.Add (Value.str _ _) (Value.str _ _)) _ _ _); (refine' add_m ?ksz ?_; (case ksz => walk_at "str_fit")); intro tx' kx' hx'; (try dsimp only at hx'))
  k_with "call builtin:str.replace" => (k_here; (refine' repl_m ?k1 ?k2 ?k3 ?k4 ?k5 ?k6 ?_; (case k1 => (show (0 : Nat) < _); omega); (case k2 => (show (0 : Nat) < _); omega); (case k3 => (show @Ne Nat _ _); omega); (case k4 => decide +kernel); (case k5 => walk_at "str_fit"); (case k6 => walk_at "str_fit")); intro tx' kx' hx'; (try dsimp only at hx'))
  k_with "subscriptTail" => (k_here; (with_reducible show wpAny _ _ (subscriptTail _ _ (Value.str _ _) (Value.int _ _)) _ _ _); (k_dflt (refine' str_item ?k1 ?k2 ?k3 ?k4 ?k5 ?_; (case k1 => omega); (case k2 => first | omega | exact Int.lt_of_lt_of_le (b := 4) (by omega) (by decide +kernel)); (case k3 => first | omega | decide +kernel); (case k4 => with_unfolding_all rfl); (case k5 => (intro _; with_unfolding_all rfl)))); intro hone')
  k_with "subscriptTail Name Slice str ref" => ((with_reducible rename Fr _ _ _ _ => F'); (with_reducible rename News _ _ _ _ => N'); (first
  | ((with_reducible show wpAny _ _ (subscriptTail _ (Expr.Slice (some _) none none _) _ _) _ _ _); (refine' slice_strN_sn_len (s := ⟨_, _, _, _, _⟩) F' N' ?_ (hsz := ?hsz)); (case hsz => walk_at "str_fit"))
  | ((with_reducible show wpAny _ _ (subscriptTail _ (Expr.Slice none (some _) none _) _ _) _ _ _); (refine' slice_strN_ns_len (s := ⟨_, _, _, _, _⟩) F' N' ?_ (hsz := ?hsz)); (case hsz => walk_at "str_fit"))
  | ((with_reducible show wpAny _ _ (subscriptTail _ (Expr.Slice (some _) (some _) none _) _ _) _ _ _); (refine' slice_strN_ss_len (s := ⟨_, _, _, _, _⟩) F' N' ?_ (hsz := ?hsz)); (case hsz => walk_at "str_fit"))); intro _ _ _ _ _ _)
  k_with "call ref" => (k_here; (with_reducible show wpAny _ _ (call (Value.ref 28) _) _ _ _); (k_dflt (refine' Ct.use (rgb_spec _ _ _ _ _ _ _ _ ?p1 ?p2) ?k1 ?k2 ?k3 ?k4 ?k5 ?kK ?kd ?ku ?_; (case p1 => exact RgbOk.h1 (by assumption)); (case p2 => exact RgbOk.h2 (by assumption)); walk_at "ct_use")); intro r' tl' h' tk' F' N' l1 hP'; obtain ⟨D', c', t4', t5', t6', e1', e2', e3'⟩ := hP'; subst e1' e2' e3'; replace l1 := lt_tl1 l1; (try k_lt l1); (simp only [List.cons_append, List.nil_append] at N'); (try k_sweep); (try dsimp only); (try k_fold))
  k_with "call ref" => (k_here; (with_reducible show wpAny _ _ (call (Value.ref 86) _) _ _ _); (k_dflt (refine' Ct.use (p257_spec _ _ _ _ ?p1 ?p2) ?k1 ?k2 ?k3 ?k4 ?k5 ?kK ?kd ?ku ?_; (case p1 => assumption); (case p2 => assumption); walk_at "ct_use")); intro r' tl' h' tk' F' N' l1 hP'; obtain ⟨z', t4', e1', e2', e3'⟩ := hP'; subst e1' e2' e3'; (simp only [List.nil_append] at N'); (try k_sweep); (try dsimp only); (try k_fold))
  k_with "enterS" => (refine' code_defS ?k1 ?k2 ?k3 ?k4 ?k5 ?XB ?TB ?D ?T0 ?kA ?k6 ?k7 ?k8 ?k9 ?kB ?_ ?cK ?c2 ?c3 ?c4 ?c5; (case kA => exact rfl); (case k2 => k_asm); (case k1 => k_asm); (case XB => assumption); (case TB => assumption); (case D => assumption); (case T0 => first | assumption | exact KtsTurn.refl); (case k3 => k_asm); (case k4 => k_asm); (case k5 => k_asm); (case k6 => k_is); (case k7 => k_is); (case k8 => ktr_room); (case k9 => exact BindsTo.of_eq rfl); (case kB => exact locs rfl); (case cK => first | exact rfl | assumption); (case c2 => exact rfl); (case c3 => exact rfl); (case c4 => exact rfl); (case c5 => decide); k_whole; intro g' L' h' FG' F' N' B' X' T' D'; (try dsimp only); (try k_lift B'); (try k_fold))
  k_with "enterS0" => (refine' enter0X ?k1 ?k2 ?k3 ?k4 ?k5 ?kA ?kF ?cK ?k6 ?k7 ?k8 ?k9 ?kB ?_ ?c2 ?c3 ?c4 ?c5; (case kA => exact rfl); (case kF => exact rfl); (case cK => first | exact rfl | assumption); (case k2 => k_asm); (case k1 => k_asm); (case k3 => k_asm); (case k4 => k_asm); (case k5 => k_asm); (case k6 => k_is); (case k7 => k_is); (case k8 => ktr_room); (case k9 => exact BindsTo.of_eq rfl); (case kB => exact locs rfl); (case c2 => exact rfl); (case c3 => exact rfl); (case c4 => exact rfl); (case c5 => decide); k_whole; intro g' L' h' FG' F' N' B' X' T' D'; (try dsimp only); (try k_lift B'); (try k_fold))
  k_with "call ref" => (k_here; (with_reducible show wpAny _ _ (call (Value.ref 21) _) _ _ _); (k_dflt (refine' Ct.use (em_spec _ _ _ _ _ _ ?p1 ?p2) ?k1 ?k2 ?k3 ?k4 ?k5 ?kK ?kd ?ku ?_; (case p1 => walk_at "em_ok"); (case p2 => walk_at "em_len"); walk_at "ct_use")); intro r' tl' h' tk' F' N' l1 hP'; obtain ⟨e1', b', e2', e3'⟩ := hP'; subst e1' e2'; (simp only [List.nil_append] at N'); (try k_sweep); (try dsimp only); (try k_fold))
  k_with "em_len" => omega
  k_with "em_ok" => assumption
  trivial
section
variable {prog : Program} {w : World} {A : Around} {s : Shared} {E : Value → Shared → Prop} {env : Env}
theorem wpC.forC {target iter : Expr} {body : List Stmt} {pos : Pos} {Q : Flow → Shared → Prop}
    (h : wpC (model prog w) A (eval iter env) (fun x s₁ => wpAny (model prog w) A (pyIter x) (fun it s₂ => codeC (model prog w) A (.forLoop target it body [] env) (fun r s' => match r with | .ok f => Q f s' | .error _ => False) s₂) E s₁) E s)
    (hs : ∀ x, foldedSetIterable iter env x = pure x) : wpC (model prog w) A (exec (.For target iter body [] pos) env) Q E s := by
  rw [exec_For]
  refine .bind (wpAny_standAt (.bindC (h.mono (fun x s₁ k => .bind (wpAny_of_eq (hs x) (.bind (wpAny_standAt (.bind (wpAny_holding (wpAny_mono k (fun it s₂ k => ?_) fun _ _ k => k))))))) fun _ _ k => k)))
  unfold runOwn
  exact .onRaise (.run (k.mono fun r s' k => by cases r with | ok f => exact k | error e => exact k.elim))
end
section
variable {prog : Program} {w : World} {A : Around} {E : Value → Shared → Prop} {s : Shared} {h₀ : Heap} {L a : Addr} {m : Str → Option Value} {cn : Str} {cs : Scope} {ccd : Value} {cl : List (Str × Addr)}
theorem st_votes {D cT cH cV : Addr} {oD oT oH oV : Obj} {v₀ : Option Value} {x : Str} {v : Value} {Q : Unit → Shared → Prop} (F : Fr h₀ L s.heap m) (N : News h₀ L s.heap [(D, oD), (cT, oT), (cH, oH), (cV, oV)]) (hc : cl.lookup x = some cV) (hd : oV.data = .cell v₀)
    (dD : @LT.lt Nat _ cV D) (d2 : @Ne Nat cT cV) (d3 : @Ne Nat cH cV) (h : ∀ h' o', Fr h₀ L h' m → News h₀ L h' [(cV, o'), (D, oD), (cT, oT), (cH, oH)] → o'.data = .cell (some v) → Q () { s with heap := h' }) (hkk : cs.kind = .function) (hx : (envX cn cs L a ccd cl).kindOf x = some .cell) :
    wpAny (model prog w) A (storeName (envX cn cs L a ccd cl) x v) Q E s := by
  refine st_cell (c := cV) (o := oV) [(D, oD), (cT, oT), (cH, oH)] F N hc (.tail _ (.tail _ (.tail _ (.head _)))) hd (fun p hp => ?_) h hkk hx
  simp only [List.mem_cons, List.not_mem_nil, or_false] at hp
  rcases hp with rfl | rfl | rfl
  · exact ⟨.head _, Nat.ne_of_gt dD⟩
  · exact ⟨.tail _ (.head _), d2⟩
  · exact ⟨.tail _ (.tail _ (.head _)), d3⟩
end
theorem loop_start {h₀ h4 : Heap} {L D Dc Dv cV cT cH : Addr} {oD oc ov oV oT oH : Obj} {acc : Led} (N4 : News h₀ L h4 (((D, oD) :: acc) ++ [(Dc, oc), (cV, oV), (Dv, ov), (cT, oT), (cH, oH)]))
    (l4 : ∀ q ∈ [(Dc, oc), (cV, oV), (Dv, ov), (cT, oT), (cH, oH)], ∀ p ∈ (D, oD) :: acc, q.1 < p.1) (f1 : @LT.lt Nat _ cV Dv) (f2 : @LT.lt Nat _ cT Dv) (f3 : @LT.lt Nat _ cH Dv) (g : @LT.lt Nat _ Dv Dc) :
    News h₀ L h4 ((Dv, ov) :: (Dc, oc) :: (D, oD) :: (acc ++ [(cV, oV), (cT, oT), (cH, oH)])) ∧ (∀ p ∈ (D, oD) :: (acc ++ [(cV, oV), (cT, oT), (cH, oH)]), p.1 ≠ Dv ∧ p.1 ≠ Dc) ∧ Dv ≠ Dc := by
  refine ⟨fun p hp => N4 p ?_, fun p hp => ?_, Nat.ne_of_lt g⟩
  · simp only [List.mem_cons, List.mem_append, List.not_mem_nil, or_false] at hp ⊢
    rcases hp with h | h | h | h | h | h | h <;> simp [h]
  · have q1 := l4 (Dv, ov) (.tail _ (.tail _ (.head _)))
    have q2 := l4 (Dc, oc) (.head _)
    have big : ∀ p ∈ (D, oD) :: acc, p.1 ≠ Dv ∧ p.1 ≠ Dc := fun p hp => ⟨Nat.ne_of_gt (q1 p hp), Nat.ne_of_gt (q2 p hp)⟩
    have sm : ∀ c : Addr, @LT.lt Nat _ c Dv → c ≠ Dv ∧ c ≠ Dc := fun c hc => ⟨Nat.ne_of_lt hc, Nat.ne_of_lt (Nat.lt_trans hc g)⟩
    rcases List.mem_cons.mp hp with rfl | hp
    · exact big _ (.head _)
    rcases List.mem_append.mp hp with hp | hp
    · exact big _ (.tail _ hp)
    simp only [List.mem_cons, List.not_mem_nil, or_false] at hp
    rcases hp with rfl | rfl | rfl
    · exact sm _ f1
    · exact sm _ f2
    · exact sm _ f3
theorem voters_pos {ns : List Int} : ∀ y ∈ votersOf ns, 0 ≤ y := by
  intro y hy
  unfold votersOf at hy
  rcases List.mem_append.mp hy with hy | hy
  · simp only [List.mem_cons, List.not_mem_nil, or_false] at hy
    omega
  · obtain ⟨x, _, rfl⟩ := List.mem_map.mp hy
    rw [Int.fmod_eq_emod_of_nonneg x (by decide)]
    exact Int.emod_nonneg x (by decide)
theorem voters_len (ns : List Int) : (votersOf ns).length ≤ 8 := by
  unfold votersOf
  rw [List.length_append, List.length_map, List.length_take]
  simp only [List.length_cons, List.length_nil]
  omega
theorem cell_apart {h₀ h : Heap} {L : Addr} {all : Led} {a b : Addr} {o c : Obj} {v : Option Value} (N : News h₀ L h all) (ha : (a, o) ∈ all) (hb : (b, c) ∈ all) (hc : c.data = .cell v) (ho : ∀ v, o.data ≠ .cell v) : a ≠ b := by
  intro e
  subst e
  have h1 := (N _ ha).1
  have h2 := (N _ hb).1
  rw [h1] at h2
  cases h2
  exact ho _ hc
section
set_option maxHeartbeats 1000000 in
theorem law_tail (w : World) (vts : List Vt) (cs : List Int) (hVC : VC vts cs)
    (mean : ExcName → Option Value) (mg mb : Str → Option Value) (dp un : Nat) (gd : Option (List Code)) (cn : Str) (ccd : Value) (A₀ : Around) (h₀ : Heap) (L : Addr) (m0 : Str → Option Value) (a : Nat → Option Value) (s : Shared) (Q : Flow → Shared → Prop)
    (cV cH cT Dv Dc D : Addr) (oV oH oT oD : Obj) (n1 n2 : Nat) (acc : Led) (cvs : List Value)
    (B : Below A₀ h₀ [] h₀) (X : (hd.heap_1 w.params).In h₀) (T : Top hd.view_1 (looseW hd.view_1 []) mean mg mb h₀) (hdp : dp + 12 < recursionLimit) (hun : un + 200 < cLine)
    (hV : oV.data = .cell (some (.ref Dv))) (hH : oH.data = .cell none) (hT : oT.data = .cell none) (hl : vts.length ≤ 8) (hcs : IntsAre cvs cs)
    (F : Fr h₀ L s.heap (lawM (fun x => if x = Str.ofString "cyclic" then some (.ref Dc) else m0 x) a))
    (N : News h₀ L s.heap ((Dv, listOf (vrefs vts).toArray n1) :: (Dc, listOf cvs.toArray n2) :: (vts.flatMap Vt.led ++ (D, oD) :: (acc ++ [(cV, oV), (cT, oT), (cH, oH)]))))
    (d1 : @Ne Nat cT cH) (d2 : @Ne Nat cT cV) (d3 : @Ne Nat cH cV)
    (ret : ∀ h tk m', Fr h₀ L h m' → Q (.ret (.bool true)) { s with heap := h, toks := tk }) :
    wpC (model PySem.Challenge.pw_rs0085_01 w) (lawTop w dp un gd cn L ccd cT cH cV) (execs ((lawStmts w).drop 3) (lawEnv w cn L ccd cT cH cV)) Q NoE s := by
  refine fillIt ?_
  k_fill
  intro _
  change wpC _ _ (execs (lawMix w :: lawFor w :: _ :: []) _) _ _ _
  have mv : ∀ q ∈ [(cV, oV), (cT, oT), (cH, oH)], q ∈ (Dv, listOf (vrefs vts).toArray n1) :: (Dc, listOf cvs.toArray n2) :: (vts.flatMap Vt.led ++ (D, oD) :: (acc ++ [(cV, oV), (cT, oT), (cH, oH)])) := fun q hq => .tail _ (.tail _ (List.mem_append_right _ (.tail _ (List.mem_append_right _ hq))))
  have mled : ∀ v ∈ vts, ∀ p ∈ v.led, p ∈ (Dv, listOf (vrefs vts).toArray n1) :: (Dc, listOf cvs.toArray n2) :: (vts.flatMap Vt.led ++ (D, oD) :: (acc ++ [(cV, oV), (cT, oT), (cH, oH)])) := fun v hv p hp => .tail _ (.tail _ (List.mem_append_left _ (List.mem_flatMap.mpr ⟨v, hv, hp⟩)))
  refine wpC.execs_any ?_
  refine mix_spec w vts cs hVC mean mg mb dp un gd cn ccd A₀ h₀ L _ s _ _ cV cH cT Dv oV n1 _ B X T hdp hun hV hl F N (mv _ (.head _)) (.head _) mled ?_
  intro Dm h5 tk5 ym hym F7 N7 l7
  dsimp only
  refine wpC.execs_any ?_
  have sub : ∀ p ∈ (cH, oH) :: (cT, oT) :: (cV, oV) :: (Dm, LCg.lst ym) :: (Dc, listOf cvs.toArray n2) :: (Dv, listOf (vrefs vts).toArray n1) :: vts.flatMap Vt.led, p ∈ (Dm, LCg.lst ym) :: (Dv, listOf (vrefs vts).toArray n1) :: (Dc, listOf cvs.toArray n2) :: (vts.flatMap Vt.led ++ (D, oD) :: (acc ++ [(cV, oV), (cT, oT), (cH, oH)])) := fun p hp => by
    simp only [List.mem_cons] at hp
    rcases hp with rfl | rfl | rfl | rfl | rfl | rfl | hp
    · exact .tail _ (mv _ (.tail _ (.tail _ (.head _))))
    · exact .tail _ (mv _ (.tail _ (.head _)))
    · exact .tail _ (mv _ (.head _))
    · exact .head _
    · exact .tail _ (.tail _ (.head _))
    · exact .tail _ (.head _)
    · exact .tail _ (.tail _ (.tail _ (List.mem_append_left _ hp)))
  have N8 : News h₀ L h5 ((cH, oH) :: (cT, oT) :: (cV, oV) :: (Dm, LCg.lst ym) :: (Dc, listOf cvs.toArray n2) :: (Dv, listOf (vrefs vts).toArray n1) :: vts.flatMap Vt.led) := fun p hp => N7 p (sub p hp)
  have hmH : (cH, oH) ∈ (cH, oH) :: (cT, oT) :: (cV, oV) :: (Dm, LCg.lst ym) :: (Dc, listOf cvs.toArray n2) :: (Dv, listOf (vrefs vts).toArray n1) :: vts.flatMap Vt.led := .head _
  have hmT : (cT, oT) ∈ (cH, oH) :: (cT, oT) :: (cV, oV) :: (Dm, LCg.lst ym) :: (Dc, listOf cvs.toArray n2) :: (Dv, listOf (vrefs vts).toArray n1) :: vts.flatMap Vt.led := .tail _ (.head _)
  have apart : ∀ p ∈ (Dm, LCg.lst ym) :: (Dc, listOf cvs.toArray n2) :: (Dv, listOf (vrefs vts).toArray n1) :: vts.flatMap Vt.led, (∀ v, p.2.data ≠ .cell v) := fun p hp => by
    simp only [List.mem_cons] at hp
    rcases hp with rfl | rfl | rfl | hp
    · exact fun v e => by cases e
    · exact fun v e => by cases e
    · exact fun v e => by cases e
    · obtain ⟨v, hv, hp⟩ := List.mem_flatMap.mp hp
      unfold Vt.led at hp
      simp only [List.mem_cons, List.not_mem_nil, or_false] at hp
      rcases hp with rfl | rfl | rfl <;> exact fun v e => by cases e
  refine for_spec w vts cs hVC mean mg mb dp un gd cn ccd A₀ h₀ L (lawM (fun x => if x = Str.ofString "cyclic" then some (.ref Dc) else m0 x) a) _ _ _ cV cH cT Dv Dc Dm oV oH oT none none n1 n2 (vts.flatMap Vt.led) cvs ym B X T hdp hun hV hH hT hl hcs hym (fr_c F7 fun z => ?_) N8 (fun p hp => ?_) (fun e => d1 e.symm) (fun v hv p hp => List.mem_flatMap.mpr ⟨v, hv, hp⟩) ?_
  · by_cases q1 : z = Str.ofString "mix"
    · rw [if_pos q1, if_pos q1]
    by_cases q2 : z = Str.ofString "cyclic"
    · subst q2; rfl
    rw [if_neg q1, if_neg q1, if_neg q2]
  · rcases List.mem_cons.mp hp with rfl | hp
    · exact ⟨fun e => d3 e.symm, fun e => d2 e.symm⟩
    · exact ⟨cell_apart N8 (.tail _ (.tail _ (.tail _ hp))) hmH hH (apart p hp), cell_apart N8 (.tail _ (.tail _ (.tail _ hp))) hmT hT (apart p hp)⟩
  · intro h8 tk8 m' all F9 N9
    dsimp only
    refine wpC.of ?_
    clear F F7 N N7 N8
    k_steps
    exact ret _ _ _ (by k_asm)
end
section
theorem law13_rows2 : True := by
  k_with "storeName" => ((with_reducible show wpAny _ _ (storeName _ (Str.ofString "votes") _) _ _ _); refine Hold.un ?_)
  trivial
set_option maxHeartbeats 2000000 in
theorem law_body (w : World) (vs : List Value) (ns : List Int) (S : Addr)
    (mean : ExcName → Option Value) (mg mb : Str → Option Value) (dp un : Nat) (gd : Option (List Code)) (cn : Str) (ccd : Value) (A₀ : Around) (h₀ : Heap) (L : Addr) (s : Shared) (Q : Flow → Shared → Prop)
    (cV cH cT : Addr) (oV oH oT : Obj)
    (B : Below A₀ h₀ [] h₀) (X : (hd.heap_1 w.params).In h₀) (T : Top hd.view_1 (looseW hd.view_1 []) mean mg mb h₀) (hdp : dp + 12 < recursionLimit) (hun : un + 200 < cLine)
    (hS : h₀.IsList S vs.toArray) (hI : IntsAre vs ns) (hns : ns.length ≤ 63)
    (hV : oV.data = .cell none) (hH : oH.data = .cell none) (hT : oT.data = .cell none)
    (F : Fr h₀ L s.heap (fun y => if y = Str.ofString "script" then some (.ref S) else none))
    (N : News h₀ L s.heap [(cT, oT), (cH, oH), (cV, oV)]) (d1 : @Ne Nat cT cH) (d2 : @Ne Nat cT cV) (d3 : @Ne Nat cH cV)
    (ret : ∀ h tk m', Fr h₀ L h m' → Q (.ret (.bool true)) { s with heap := h, toks := tk }) :
    wpC (model PySem.Challenge.pw_rs0085_01 w) (lawTop w dp un gd cn L ccd cT cH cV) (execs (lawStmts w) (lawEnv w cn L ccd cT cH cV)) Q NoE s := by
  refine fillIt ?_
  k_fill
  intro _
  change wpC _ _ (execs (_ :: _ :: _ :: _ :: _ :: _ :: []) (envX cn (lawScope w) L 152 ccd _)) _ _ _
  refine wpC.execs_take 2 ?_
  dsimp only [List.take, List.drop]
  k_steps
  unfold Hold
  rename News _ _ _ _ => N1
  rename Fr _ _ _ _ => F1
  refine st_votes F1 N1 rfl hV (by show @LT.lt Nat _ _ _; omega) d2 d3 ?_ rfl rfl
  clear F1 N1
  intro h2 oV2 F2 N2 dV
  k_steps
  dsimp only
  refine wpC.execs_c ?_
  refine wpC.forC ?_ (fun _ => rfl)
  refine wpC.call_name ?_
  k_steps
  refine callWithC rfl rfl (Nat.le_of_ble_eq_true rfl) ?_
  k_steps
  · exact isFn_of (by k_asm) (by k_asm) (by k_is)
  rename News _ _ _ _ => N3
  rename Fr _ _ _ _ => F3
  refine voters_spec w _ S vs ns mean mg mb dp un gd cn (lawScope w) 152 ccd _ A₀ h₀ L _ _ _ _ B F3 X N3 T hS hI hns rfl (by omega) (by omega) ?_
  clear F3 N3
  intro r tl h4 tk4 F4 N4 l4 hP
  obtain ⟨D, nD, acc, rfl, rfl, hVL⟩ := hP
  obtain ⟨N5, hne, hdd⟩ := loop_start N4 l4 (by omega) (by omega) (by omega) (by omega)
  clear N4 l4
  refine law_loop (nv := 0) (nc := 0) (cV := cV) (oV := oV2) rfl F4 N5 hVL (voters_len ns) (.head _) hdd hne ?_ ?_
  · intro y hy I av oI ov a vr cvs n1 n2 rest h tk hO hl1 hl2 F6 N6 dI dC hr
    obtain ⟨k, f, c, wv, kind, mark, tail, b1, b2, b3, b4, b5, b6, b7, b8, e1, e2, e3, e4, e5, e6, e7⟩ := voter_of (voters_pos y hy)
    obtain ⟨X1, X2, Y1, Y2, x, yy, z, hf, hz⟩ := tf_of b1 b2 b3 b4 b5 b6 b7 b8
    obtain ⟨t1, t2, t3, t4, t5, t6, t7, rfl⟩ := hO
    rw [e1, e2, e3, e4, e5, e6, e7] at N6
    exact turn_spec w k f c wv kind mark tail X1 X2 Y1 Y2 x yy z hf hz mean mg mb dp un gd cn ccd A₀ h₀ L _ _ h tk cV cH cT _ _ I av oV2 oI a vr cvs n1 n2 rest t1 t2 t3 t4 t5 t6 t7 B X T hdp hun dV hl1 hl2 F6 N6 hdd dI dC hr
  · intro h tk a vts cvs cs n1 n2 hl hcv hVC hadr F6 N6
    dsimp only
    exact law_tail w vts cs hVC mean mg mb dp un gd cn ccd A₀ h₀ L _ a _ _ cV cH cT _ _ D oV2 oH oT _ n1 n2 acc cvs B X T hdp hun dV hH hT hl hcv F6 N6 d1 d2 d3 (fun h tk m' F' => ret h tk m' F')
end

theorem lawz_rows1 : True := by
  k_with_none
  w_top off
  k_with "led_sub" => first | exact fun p hp => hp | (intro p hp; repeat' (first | exact hp | refine List.Mem.tail _ ?_))
  k_with "led_lt" => first | assumption | exact ktn_ltOf (by assumption) | exact lt1 (by assumption) | exact lt2 (by assumption) | exact lt3 (by assumption) | exact lt4 (by assumption)
  k_with "ct_fill" => (refine fillIt ?_; k_fill; intro _; unfold Ct)
  k_with "ct_enter" => (refine wpAny_call ?_; k_dflt cell_enter)
  k_with "ct_use" => ((case k1 => k_asm); (case k2 => k_asm); (case k3 => k_asm); (case k4 => k_asm); (case k5 => k_asm); (case kK => first | exact rfl | assumption); (case kd => ktr_room); (case ku => ktr_units))
  k_with "subscriptTail" => (k_here; (with_reducible show wpAny _ _ (subscriptTail _ _ (Value.ref _) (Value.int _ _)) _ _ _); (k_dflt (refine' tup_item ?k1 ?k2 ?k3 ?k4 ?k5 ?k6 ?_; (case k1 => k_asm); (case k2 => first | assumption | k_mem); (case k3 => decide); (case k4 => decide); (case k5 => exact rfl); (case k6 => with_unfolding_all rfl); k_whole)))
  k_with "call builtin:max" => ((with_reducible show wpAny _ _ (call _ [Value.float _ _, Value.float _ _, Value.float _ _]) _ _ _); (rename News _ _ _ _ => N'); (rename Fr _ _ _ _ => F'); refine max3_K rfl F' N' ?_; clear N'; intro _ _ _ _ _)
  k_with "call builtin:min" => ((with_reducible show wpAny _ _ (call _ [Value.float _ _, Value.float _ _, Value.float _ _]) _ _ _); (rename News _ _ _ _ => N'); (rename Fr _ _ _ _ => F'); refine min3_K rfl F' N' ?_; clear N'; intro _ _ _ _ _)
  k_with "subscriptTail" => (k_here; (with_reducible show wpAny _ _ (subscriptTail _ _ (Value.ref _) (Value.int _ _)) _ _ _); (k_dflt (refine' lst_item3 ?k1 ?k2 ?k3 ?k4 ?k6 ?_ ?_ ?_; (case k1 => k_asm); (case k2 => k_mem); (case k3 => omega); (case k4 => omega); (case k6 => with_unfolding_all rfl); all_goals (k_whole; intro hidx))))
  k_with "str_fit" => first | decide +kernel | (simp only [Str.length_append]; omega)
  k_with "binaryOp Add str str" => (k_here; (with_reducible show wpAny _ _ (binaryOp Operator.Add (Value.str _ _) (Value.str _ _)) _ _ _); (refine' add_m ?ksz ?_; (case ksz => walk_at "str_fit")); intro tx' kx' hx'; (try dsimp only at hx'))
  k_with "call builtin:str.replace" => (k_here; (refine' repl_m ?k1 ?k2 ?k3 ?k4 ?k5 ?k6 ?_; (case k1 => (show (0 : Nat) < _); omega); (case k2 => (show (0 : Nat) < _); omega); (case k3 => (show @Ne Nat _ _); omega); (case k4 => decide +kernel); (case k5 => walk_at "str_fit"); (case k6 => walk_at "str_fit")); intro tx' kx' hx'; (try dsimp only at hx'))
  k_with "subscriptTail" => (k_here; (with_reducible show wpAny _ _ (subscriptTail _ _ (Value.str _ _) (Value.int _ _)) _ _ _); (k_dflt (refine' str_item ?k1 ?k2 ?k3 ?k4 ?k5 ?_; (case k1 => omega); (case k2 => first | omega | exact Int.lt_of_lt_of_le (b := 4) (by omega) (by decide +kernel)); (case k3 => first | omega | decide +kernel); (case k4 => with_unfolding_all rfl); (case k5 => (intro _; with_unfolding_all rfl)))); intro hone')
  k_with "subscriptTail Name Slice str ref" => ((with_reducible rename Fr _ _ _ _ => F'); (with_reducible rename News _ _ _ _ => N'); (first
  | ((with_reducible show wpAny _ _ (subscriptTail _ (Expr.Slice (some _) none none _) _ _) _ _ _); (refine' slice_strN_sn_len (s := ⟨_, _, _, _, _⟩) F' N' ?_ (hsz := ?hsz)); (case hsz => walk_at "str_fit"))
  | ((with_reducible show wpAny _ _ (subscriptTail _ (Expr.Slice none (some _) none _) _ _) _ _ _); (refine' slice_strN_ns_len (s := ⟨_, _, _, _, _⟩) F' N' ?_ (hsz := ?hsz)); (case hsz => walk_at "str_fit"))
  | ((with_reducible show wpAny _ _ (subscriptTail _ (Expr.Slice (some _) (some _) none _) _ _) _ _ _); (refine' slice_strN_ss_len (s := ⟨_, _, _, _, _⟩) F' N' ?_ (hsz := ?hsz)); (case hsz => walk_at "str_fit"))); intro _ _ _ _ _ _)
  k_with "call ref" => (k_here; (with_reducible show wpAny _ _ (call (Value.ref 28) _) _ _ _); (k_dflt (refine' Ct.use (rgb_spec _ _ _ _ _ _ _ _ ?p1 ?p2) ?k1 ?k2 ?k3 ?k4 ?k5 ?kK ?kd ?ku ?_; (case p1 => exact RgbOk.h1 (by assumption)); (case p2 => exact RgbOk.h2 (by assumption)); walk_at "ct_use")); intro r' tl' h' tk' F' N' l1 hP'; obtain ⟨D', c', t4', t5', t6', e1', e2', e3'⟩ := hP'; subst e1' e2' e3'; replace l1 := lt_tl1 l1; (try k_lt l1); (simp only [List.cons_append, List.nil_append] at N'); (try k_sweep); (try dsimp only); (try k_fold))
  k_with "call ref" => (k_here; (with_reducible show wpAny _ _ (call (Value.ref 86) _) _ _ _); (k_dflt (refine' Ct.use (p257_spec _ _ _ _ ?p1 ?p2) ?k1 ?k2 ?k3 ?k4 ?k5 ?kK ?kd ?ku ?_; (case p1 => assumption); (case p2 => assumption); walk_at "ct_use")); intro r' tl' h' tk' F' N' l1 hP'; obtain ⟨z', t4', e1', e2', e3'⟩ := hP'; subst e1' e2' e3'; (simp only [List.nil_append] at N'); (try k_sweep); (try dsimp only); (try k_fold))
  k_with "enterS" => (refine' code_defS ?k1 ?k2 ?k3 ?k4 ?k5 ?XB ?TB ?D ?T0 ?kA ?k6 ?k7 ?k8 ?k9 ?kB ?_ ?cK ?c2 ?c3 ?c4 ?c5; (case kA => exact rfl); (case k2 => k_asm); (case k1 => k_asm); (case XB => assumption); (case TB => assumption); (case D => assumption); (case T0 => first | assumption | exact KtsTurn.refl); (case k3 => k_asm); (case k4 => k_asm); (case k5 => k_asm); (case k6 => k_is); (case k7 => k_is); (case k8 => ktr_room); (case k9 => exact BindsTo.of_eq rfl); (case kB => exact locs rfl); (case cK => first | exact rfl | assumption); (case c2 => exact rfl); (case c3 => exact rfl); (case c4 => exact rfl); (case c5 => decide); k_whole; intro g' L' h' FG' F' N' B' X' T' D'; (try dsimp only); (try k_lift B'); (try k_fold))
  k_with "enterS0" => (refine' enter0X ?k1 ?k2 ?k3 ?k4 ?k5 ?kA ?kF ?cK ?k6 ?k7 ?k8 ?k9 ?kB ?_ ?c2 ?c3 ?c4 ?c5; (case kA => exact rfl); (case kF => exact rfl); (case cK => first | exact rfl | assumption); (case k2 => k_asm); (case k1 => k_asm); (case k3 => k_asm); (case k4 => k_asm); (case k5 => k_asm); (case k6 => k_is); (case k7 => k_is); (case k8 => ktr_room); (case k9 => exact BindsTo.of_eq rfl); (case kB => exact locs rfl); (case c2 => exact rfl); (case c3 => exact rfl); (case c4 => exact rfl); (case c5 => decide); k_whole; intro g' L' h' FG' F' N' B' X' T' D'; (try dsimp only); (try k_lift B'); (try k_fold))
  k_with "call ref" => (k_here; (with_reducible show wpAny _ _ (call (Value.ref 21) _) _ _ _); (k_dflt (refine' Ct.use (em_spec _ _ _ _ _ _ ?p1 ?p2) ?k1 ?k2 ?k3 ?k4 ?k5 ?kK ?kd ?ku ?_; (case p1 => walk_at "em_ok"); (case p2 => walk_at "em_len"); walk_at "ct_use")); intro r' tl' h' tk' F' N' l1 hP'; obtain ⟨e1', b', e2', e3'⟩ := hP'; subst e1' e2'; (simp only [List.nil_append] at N'); (try k_sweep); (try dsimp only); (try k_fold))
  k_with "em_len" => omega
  k_with "em_ok" => assumption
  trivial
set_option maxHeartbeats 4000000 in
/-- the row is well said: check by check, so no step is long -/
theorem said : PySem.Challenge.rw_rs0085_01.wellSaid = true := by
  unfold OpenLaw.wellSaid
  repeat' (with_reducible refine look_both ?_ ?_)
  all_goals (try unfold OpenRow.wellSaid)
  repeat' (with_reducible refine look_both ?_ ?_)
  all_goals (try unfold OpenRow.partSaid)
  repeat' (with_reducible refine look_both ?_ ?_)
  all_goals (try unfold looksOpen)
  repeat' (with_reducible refine look_both ?_ ?_)
  all_goals decide +kernel
set_option maxHeartbeats 8000000 in
theorem law_holds : PySem.Challenge.rw_rs0085_01.Holds := by
  refine holds_law said fun _ => hd ?_
  k_fill
  intro w s₀ s₁ mg mb G Y fa o pm cd doc dV kV ho hd hcd hD hmg hg args vals as hpre hlay hrd hwl hlo
  have KX := kIn_of Y
  have X := (Ground.X G).1
  have V := (Ground.X G).2
  refine Ground.open G ?_
  intro T B D TE TW
  try (refine guard_noD D (by decide +kernel) ?_; clear D)
  obtain ⟨_, _, M⟩ := bmod_of_top T
  have TA := at_of_top T
  try (obtain ⟨_, _, he, B0⟩ := based_of_top T rfl hmg ho hd; have he' : cd = _ := he; subst he'; clear he)
  have h152 : mg (Str.ofString "law") = some (Value.ref 152) := mg_of KX (Top.g T) (by kernel_rfl)
  rw [hmg] at h152
  obtain rfl : fa = 152 := by cases h152; rfl
  clear hmg
  wrow_args hpre hlay hrd hwl hlo
  have K0 := below_caller (Top.heap T)
  have he := Dflts.none hD rfl
  subst he
  have he := Dflts.noKw hD
  subst he
  refine enter_law (by decide) ho (fd_plain hd) (Top.nolimit T) hcd rfl (kinds_of (by kinds_ok)) (by decide) fun h₁ tk₁ cells F N0 X0 => ?_
  obtain ⟨oT, oH, oV, rfl, dT, dH, dV⟩ := CellsAre.three X0
  clear hd hcd hD X0
  rename (¬ _ < _) => hc63
  have h63 := hc63
  rename IntsAre _ _ => hIA
  rename Heap.IsList _ _ _ => hSL
  refine (law_body w _ _ _ _ mg mb _ _ _ _ _ callerA s₁.heap _ { s₁ with heap := h₁, toks := tk₁ } _ _ _ _ oV oH oT K0 KX T (by decide) (by decide) hSL hIA (by omega) dV dH dT F N0 (by omega) (by omega) (by omega) ?_)
  intro h tk m' F'
  dsimp only
  refine GoodW.toG (goodW_bool F' hg ?_ ?_)
  · first | exact fun _ => rfl | exact raisesW_false (by wrow_none_raised)
  · first | rfl | exact postW_of (by wrow_shape) (by wtm_val) (by first | rfl | decide | assumption)


end Mine
theorem PySem.Challenge.cw_rs0085_01_holds : PySem.Challenge.rw_rs0085_01.Holds := by
  exact Mine.law_holds
