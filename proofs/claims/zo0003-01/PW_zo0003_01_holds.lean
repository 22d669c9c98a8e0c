import PyProof.Rows.All
import Wide.All
import OpenK.AllK
import Wide.FinOn
import PyProof.ListNew
import KE.BytesMake
import PySem.Sre
import KE.KIntText
import PyProof.Rows.StrJoinRep
import PySem.Challenge.RW_zo0003_01
set_option Elab.async false

section
open PySem PySem.W PyProof.Rows PySem.Calls
set_option maxRecDepth 100000
namespace Mine

def calmIds : List String := ["claim.caller", "type.__call__", "bytearray.__init__", "bytearray.__new__"]
def Calm : Code → Prop
  | .builtin id _ => id ∈ calmIds
  | _ => True
def CalmAll (st : List (Code × Pos)) : Prop := ∀ x ∈ st, Calm x.1
theorem exported_calm {M : Model} {Γ : Ctx} {self : Value} {p : Pos} {s : Shared} (h1 : Calm Γ.code) (h2 : CalmAll Γ.below) {Q : Bool → Pos → Shared → Prop} {E : Value → Pos → Shared → Prop} (q : Q false p s) :
    Sem.wp M Γ (Builtin.Bytes.exported self) Q E p s := by
  unfold Builtin.Bytes.exported
  rw [Sem.wp_bind']
  show Q (((Γ.code, p) :: Γ.below).any _) p s
  have h : CalmAll ((Γ.code, p) :: Γ.below) := fun x hx => by
    rcases List.mem_cons.mp hx with rfl | hx
    · exact h1
    · exact h2 x hx
  generalize ((Γ.code, p) :: Γ.below) = st at h ⊢
  have : ∀ {f : Code × Pos → Bool}, (∀ c p, Calm c → f (c, p) = false) → st.any f = false := fun hf => by
    rw [List.any_eq_false]
    intro x hx
    rw [hf x.1 x.2 (h x hx)]
    decide
  rw [this]
  · exact q
  · intro c p hc
    cases c with
    | builtin id args =>
      obtain ⟨pos, kw⟩ := args
      simp only [Calm, calmIds, List.mem_cons, List.not_mem_nil, or_false] at hc
      rcases hc with rfl | rfl | rfl | rfl <;> (cases pos with
        | nil => rfl
        | cons v r => (try dsimp only); simp [Builtin.Bytes.decodersThatHold])
    | _ => rfl

def wpR {α : Type} (M : Model) (A : Around) (t : Sem α) (Q : α → Shared → Prop) (s : Shared) : Prop :=
  ∀ Γ p, Γ.In A → Calm Γ.code → CalmAll Γ.below → Sem.wp M Γ t (fun a _ s' => Q a s') (fun _ _ _ => False) p s
def codeR (M : Model) (A : Around) (c : Code) (R : Result → Shared → Prop) (s : Shared) : Prop :=
  Calm c ∧ ∀ Γ p, Γ.code = c → Γ.Below A → CalmAll Γ.below → wpCode M Γ R p s

section
variable {α β : Type} {M : Model} {A : Around} {s : Shared}
theorem wpR_of {t : Sem α} {Q : α → Shared → Prop} (h : wpAny M A t Q (fun _ _ => False) s) : wpR M A t Q s := fun Γ p hΓ _ _ => h Γ p hΓ
theorem codeR_of {c : Code} {R : Result → Shared → Prop} (hc : Calm c) (h : codeAny M A c R s) : codeR M A c R s := ⟨hc, fun Γ p e hΓ _ => h Γ p e hΓ⟩
theorem wpR_mono {t : Sem α} {Q Q' : α → Shared → Prop} (h : wpR M A t Q s) (hQ : ∀ a s, Q a s → Q' a s) : wpR M A t Q' s :=
  fun Γ p hΓ h1 h2 => Sem.wp_mono M Γ t (fun a _ s => hQ a s) (fun _ _ _ e => e) p s (h Γ p hΓ h1 h2)
theorem codeR_mono {c : Code} {R R' : Result → Shared → Prop} (h : codeR M A c R s) (hR : ∀ r s, R r s → R' r s) : codeR M A c R' s :=
  ⟨h.1, fun Γ p hc hΓ h2 => wpCode_mono hR (h.2 Γ p hc hΓ h2)⟩
theorem wpR_bind {m : Sem α} {f : α → Sem β} {Q : β → Shared → Prop} (h : wpR M A m (fun a s' => wpR M A (f a) Q s') s) : wpR M A (m >>= f) Q s := fun Γ p hΓ h1 h2 => by
  rw [Sem.wp_bind']
  exact Sem.wp_mono M Γ m (fun a p' s' h' => h' Γ p' hΓ h1 h2) (fun _ _ _ h' => h') p s (h Γ p hΓ h1 h2)
theorem wpR_pure {a : α} {Q : α → Shared → Prop} (h : Q a s) : wpR M A (pure a) Q s := fun _ _ _ _ _ => h
theorem wpR_onRaise {m : Sem α} {k : Value → Sem Unit} {Q : α → Shared → Prop} (h : wpR M A m Q s) : wpR M A (m.onRaise k) Q s := fun Γ p hΓ h1 h2 => by
  rw [Sem.wp_onRaise]
  exact Sem.wp_mono M Γ m (fun _ _ _ h' => h') (fun _ _ _ h' => h'.elim) p s (h Γ p hΓ h1 h2)
theorem wpR_holding {vs : List Value} {m : Sem α} {Q : α → Shared → Prop} (h : wpR M A m Q s) : wpR M A (holding vs m) Q s := fun Γ p hΓ h1 h2 => by
  rw [Sem.wp_holding]; exact h Γ p hΓ h1 h2
theorem wpR_keep {vs : List Value} {m : Sem α} {Q : α → Shared → Prop} (h : wpR M A m Q s) : wpR M A (m.keep vs) Q s := fun Γ p hΓ h1 h2 => by
  rw [Sem.wp_keep]; exact h Γ p hΓ h1 h2
theorem wpR_standAt {pos : Pos} {Q : Unit → Shared → Prop} (h : Q () s) : wpR M A (standAt pos) Q s := fun _ _ _ _ _ => h
theorem wpR_rule {tag : String} {Q : Unit → Shared → Prop} (h : Q () s) : wpR M A (rule tag) Q s := fun _ _ _ _ _ => h
theorem wpR_point {Q : Unit → Shared → Prop} (h : Q () s) : wpR M A point Q s := fun _ _ _ _ _ => h
theorem wpR_of_eq {t u : Sem α} {Q : α → Shared → Prop} (e : t = u) (h : wpR M A u Q s) : wpR M A t Q s := e ▸ h
theorem calm_enter {Γ : Ctx} {p : Pos} (h1 : Calm Γ.code) (h2 : CalmAll Γ.below) : CalmAll ((Γ.code, p) :: Γ.below) := fun x hx => by
  rcases List.mem_cons.mp hx with rfl | hx
  · exact h1
  · exact h2 x hx
theorem wpR_run {c : Code} {Q : Flow → Shared → Prop} (hc : codeR M A c (fun r s' => match r with | .ok f => Q f s' | .error _ => False) s) : wpR M A (run c none) Q s := fun Γ p hΓ h1 h2 => by
  rw [Sem.wp_run]
  refine wpCode_mono (fun r s' h => ?_) (hc.2 _ p rfl (hΓ.enter c none p (by intro x; cases x)) (calm_enter h1 h2))
  cases r with
  | ok f => exact h
  | error e => exact h
theorem wpR_runOwn {c : Code} {env : Env} {Q : Flow → Shared → Prop} (hc : codeR M A c (fun r s' => match r with | .ok f => Q f s' | .error _ => False) s) : wpR M A (runOwn c env none) Q s := by
  unfold runOwn
  exact wpR_onRaise (wpR_run hc)
theorem wpR_call {f : Value} {pos : List Value} {kw : List (Str × Value)} {Q : Value → Shared → Prop}
    (hc : codeR M A (.call f ⟨pos, kw⟩) (fun r s' => match r with | .ok (.ret v) => Q v s' | _ => False) s) : wpR M A (call f pos kw) Q s := fun Γ p hΓ h1 h2 => by
  show Sem.wp M Γ (runValue _) _ _ p s
  rw [Sem.wp_runValue]
  refine wpCode_mono (fun r s' h => ?_) (hc.2 _ p rfl (hΓ.enter _ none p (by intro x; cases x)) (calm_enter h1 h2))
  cases r with
  | ok f => cases f <;> exact h
  | error e => exact h
theorem codeR_of_tree {c : Code} {R : Result → Shared → Prop} (hc : Calm c)
    (h : wpR M (A.under c) (M.den c) (fun fin s' => match fin with | .done f => R (.ok f) s' | .again c' => c'.quiet = true ∧ codeR M A c' R s') s) : codeR M A c R s := ⟨hc, fun Γ p e hΓ h2 => by
  rw [wpCode_iff_wp, e]
  refine Sem.wp_mono M Γ _ (fun fin p' s' h' => ?_) (fun _ _ _ h' => h'.elim) p s (h Γ p (e ▸ hΓ.in) (e ▸ hc) h2)
  cases fin with
  | done f => exact h'
  | again c' => exact ⟨h'.1, h'.2.2 (Γ.goto c') p' rfl (hΓ.goto c') h2⟩⟩
end
section
variable {prog : Program} {w : World} {A : Around} {s : Shared} {env : Env} {R : Result → Shared → Prop}
theorem execsR_nil {Q : Flow → Shared → Prop} (h : Q .next s) : wpR (model prog w) A (execs [] env) Q s := wpR_of (wpAny_execs_nil h)
theorem execsR_cons {st : Stmt} {rest : List Stmt} {Q : Flow → Shared → Prop}
    (h : wpR (model prog w) A (exec st env) (fun f s' => match f with | .next => wpR (model prog w) A (execs rest env) Q s' | f => Q f s') s) : wpR (model prog w) A (execs (st :: rest) env) Q s := fun Γ p hΓ h1 h2 => by
  rw [execs_cons, Sem.wp_bind']
  refine Sem.wp_mono _ Γ _ (fun f p' s' h' => ?_) (fun _ _ _ h' => h') _ _ (h Γ p hΓ h1 h2)
  cases f <;> first | exact h' Γ p' hΓ h1 h2 | exact h'
theorem execR_Assign {x : Str} {pos' : Pos} {value : Expr} {pos : Pos} {Q : Flow → Shared → Prop}
    (h : wpR (model prog w) A (eval value env) (fun v s₁ => wpAny (model prog w) A (storeName env x v) (fun _ => Q .next) (fun _ _ => False) s₁) s)
    (hs : swapsWith value (some (.Name x pos')) pos.line env = pure false := by rfl) :
    wpR (model prog w) A (exec (.Assign [.Name x pos'] value pos) env) Q s := by
  rw [exec_Assign_Name env x pos' value pos hs]
  exact wpR_bind (wpR_standAt (wpR_bind (wpR_mono h fun v s₁ h₁ => wpR_bind (wpR_standAt (wpR_bind (wpR_of (wpAny_bindName (wpAny_mono h₁ (fun _ s₂ q => (wpR_pure q : wpR _ _ _ _ _)) fun _ _ x => x))))))))
theorem splicedR_nil {Q : List Value → Shared → Prop} (h : Q [] s) : wpR (model prog w) A (spliced []) Q s := wpR_pure h
theorem splicedR_cons {x : Sem Value} {rest : List (Bool × Sem Value)} {Q : List Value → Shared → Prop}
    (h : wpR (model prog w) A x (fun v s₁ => wpR (model prog w) A (spliced rest) (fun vs s₂ => Q (v :: vs) s₂) s₁) s) : wpR (model prog w) A (spliced ((false, x) :: rest)) Q s := by
  rw [spliced]
  exact wpR_bind (wpR_mono h fun v s₁ h₁ => wpR_bind (wpR_pure (wpR_bind (wpR_holding (wpR_mono h₁ fun vs s₂ h₂ => wpR_pure h₂)))))
theorem evalArgsR {f : Value} {x : Sem Value} {rest : List (Bool × Sem Value)} {Q : Args → Shared → Prop}
    (h : wpR (model prog w) A (spliced ((false, x) :: rest)) (fun vs s₁ => Q ⟨vs, []⟩ s₁) s) : wpR (model prog w) A (evalArgs f true ((false, x) :: rest) []) Q s := by
  unfold evalArgs
  show wpR _ A (spliced ((false, x) :: rest) >>= _) Q s
  refine wpR_bind (wpR_mono h fun vs s₁ h₁ => ?_)
  refine wpR_bind (wpR_pure (wpR_holding ?_))
  simp only [List.all_nil, if_true]
  exact wpR_bind (wpR_pure (wpR_bind (wpR_pure (wpR_pure h₁))))
theorem callR_fn {pos : Pos} {f : Addr} {o : Obj} {fd : FuncData} {x : Sem Value} {rest : List (Bool × Sem Value)} {Q : Value → Shared → Prop} (hdat : o.data = .func fd)
    (h : wpR (model prog w) A (spliced ((false, x) :: rest)) (fun vs s₁ => s₁.heap.get? f = some o ∧ wpR (model prog w) A (call (.ref f) vs) Q s₁) s) (hst : rest.any (·.1) = false) :
    wpR (model prog w) A (callWith pos (.ref f) [] ((false, x) :: rest) []) Q s := by
  unfold callWith
  refine wpR_bind (wpR_holding (evalArgsR (wpR_mono h fun vs s₁ h₁ => wpR_bind (wpR_standAt ?_))))
  have tail : ∀ {t : Sem Value}, wpR (model prog w) A t Q s₁ → wpR (model prog w) A (t >>= fun r => holding [r] point >>= fun _ => pure r) Q s₁ :=
    fun ht => wpR_bind (wpR_mono ht fun r s₂ hr => wpR_bind (wpR_holding (wpR_point (wpR_pure hr))))
  have hs : List.any ((false, x) :: rest) (fun x => x.1) = false := by rw [List.any_cons, hst]; rfl
  simp only [hs, List.any_nil, Bool.or_false]
  refine wpR_bind (m := keeperOf (.ref f)) ?_
  unfold keeperOf
  refine wpR_bind (wpR_of (wpAny_load h₁.1 ?_))
  rw [hdat]
  refine wpR_pure ?_
  dsimp only
  split
  · exact tail h₁.2
  · exact tail (by unfold callMarked; exact wpR_keep h₁.2)
theorem evalR_Call {func : Expr} {args : List Expr} {pos : Pos} {Q : Value → Shared → Prop}
    (h : wpAny (model prog w) A (eval func env) (fun f s₁ => wpR (model prog w) A (callWith pos f [] (backTo pos (starEach args env)) []) Q s₁) (fun _ _ => False) s)
    (he : eval (.Call func args [] pos) env = (do callWith pos (← eval func env) [] (backTo pos (starEach args env)) (backToKw pos (keywordEach [] env))) := by rfl) :
    wpR (model prog w) A (eval (.Call func args [] pos) env) Q s := by
  rw [he]; exact wpR_bind (wpR_of h)
theorem funcR {body : List Stmt} {R : Result → Shared → Prop} (h : wpR (model prog w) (A.deeper env) (execs body env) (fun f s' => R (.ok (.ret (match f with | .ret v => v | _ => .none))) s') s) :
    codeR (model prog w) A (.func body env) R s := by
  refine codeR_of_tree trivial ?_
  show wpR _ (A.deeper env) (do point; match ← (execs body env).onRaise (leaving env) with | .ret v => ret v | _ => ret .none) _ s
  refine wpR_bind (wpR_point (wpR_bind (wpR_onRaise (wpR_mono h fun f s' h' => ?_))))
  cases f <;> exact wpR_pure h'
theorem codeR_fn {a : Addr} {args : Args} {o : Obj} {fd : FuncData} {body : List Stmt} (hroom : A.depth < recursionLimit) (ho : s.heap.get? a = some o)
    (hd' : o.data = .func fd) (hco : fd.scope.isCoroutine = false) (hgen : fd.scope.isGenerator = false) (hbody : fd.body = .stmts body) (hcd : s.heap.CodeRec fd.code fd.qualname)
    (h : wpAny (model prog w) A.in1 (bindArgs fd args) (fun binds s₁ =>
      wpAny (model prog w) A.in1 (newFunctionEnv fd.scope fd.globals fd.closure binds (fd.qualname ++ ".<locals>.") (some a) fd.code none fd.builtins)
        (fun env s₂ => s₂.heap.NoLimit ∧ codeR (model prog w) A (.func body env) R s₂) (fun _ _ => False) s₁) (fun _ _ => False) s) :
    codeR (model prog w) A (.call (.ref a) args) R s := by
  refine codeR_of_tree trivial (wpR_of ?_)
  show wpAny _ A.in1 (callAny (.ref a) args) _ _ s
  simp only [callAny]
  refine wpAny_bind (wpAny_load ho ?_)
  obtain ⟨c, oc, vs, tq, hc, hoc, hdc, hq⟩ := hcd
  simp only [hd', callFunction, hco, hgen, hbody, hc]
  rw [hc] at h
  refine wpAny_bind (m := field (.ref c) 1) (wpAny_field hoc hdc hq (wpAny_bind (wpAny_pure ?_)))
  exact wpAny_bind (wpAny_mono h (fun binds s₁ h₁ => wpAny_bind (wpAny_mono h₁ (fun env s₂ h₂ => wpAny_bind (wpAny_enterFrame h₂.1 hroom
    (wpAny_pure (And.intro rfl h₂.2)))) fun _ _ h' => h')) fun _ _ h' => h')
theorem codeR_def {a : Addr} {o : Obj} {fd : FuncData} {body : List Stmt} {args : Args} {binds : List (Str × Value)}
    (hroom : A.depth < recursionLimit) (ho : s.heap.get? a = some o) (hdata : o.data = .func fd) (hlim : s.heap.NoLimit) (hcd : s.heap.CodeRec fd.code fd.qualname)
    (hbody : fd.body = .stmts body) (hbind : BindsTo s fd args binds)
    (hcell : ∀ x ∈ fd.scope.names, x.2 ≠ .cell) (hloc : ∀ x ∈ binds, fd.scope.names.lookup x.1 = some .local)
    (h : ∀ h₀, h₀.Ns s.heap.objs.size (fun x => binds.reverse.lookup x) → (∀ b o, s.heap.get? b = some o → h₀.get? b = some o) →
      wpR (model prog w) (A.deeper (callEnv fd s.heap.objs.size a)) (execs body (callEnv fd s.heap.objs.size a)) (fun f s' => R (.ok (.ret (match f with | .ret v => v | _ => .none))) s')
        { s with heap := h₀, toks := s.toks + binds.length })
    (hco : fd.scope.isCoroutine = false := by rfl) (hgen : fd.scope.isGenerator = false := by rfl) (hk : fd.scope.kind = .function := by rfl) :
    codeR (model prog w) A (.call (.ref a) args) R s := by
  refine codeR_fn hroom ho hdata hco hgen hbody hcd (hbind _ _ _ _ ?_)
  refine wpAny_newFunctionEnv hcell hloc (fun h₀ hns₀ hsb₀ => ⟨hlim.fresh _ hsb₀, funcR (h h₀ hns₀ fun b o e => ?_)⟩) hk
  exact hsb₀.extBut b o (Nat.ne_of_lt (Heap.lt_size e)) (Heap.get?_push_of_some _ e)
theorem codeR_builtin {id : String} {args : Args} {b : Builtin} (hc : Calm (.builtin id args)) (hb : entryFor table id = some b)
    (h : wpR (model prog w) (A.under (.builtin id args)) (b args) (fun fin s' => match fin with | .done f => R (.ok f) s' | .again c' => c'.quiet = true ∧ codeR (model prog w) A c' R s') s) :
    codeR (model prog w) A (.builtin id args) R s := by
  refine codeR_of_tree hc ?_
  show wpR _ _ (match entryFor table id with | some b => b args | none => unsupported ((withoutEnding? id "#data").getD id)) _ s
  rw [hb]; exact h
theorem codeR_callBuiltin {id : String} {args : Args} {b : Builtin} (hc : Calm (.builtin id args)) (hq : plainId id = true) (hb : entryFor table id = some b)
    (h : wpAny (model prog w) A.in1 (checkBuiltinCall id args) (fun _ s₁ => wpR (model prog w) A.in1 (b args)
      (fun fin s' => match fin with | .done f => R (.ok f) s' | .again c' => c'.quiet = true ∧ codeR (model prog w) A c' R s') s₁) (fun _ _ => False) s) : codeR (model prog w) A (.call (.builtin id) args) R s := by
  refine codeR_of_tree trivial (wpR_of ?_)
  show wpAny _ A.in1 (do checkBuiltinCall id args; again (.builtin id args)) _ _ s
  refine wpAny_bind (wpAny_mono h (fun _ s₁ h₁ => wpAny_pure (And.intro (plainId_quiet hq args) (codeR_builtin hc hb ?_))) fun _ _ h' => h')
  rw [Around.under_plainId hq args]
  exact h₁
end
end Mine
end

section
open PySem PySem.W PyProof.Rows PySem.Calls
set_option maxRecDepth 100000
namespace Mine
open Classical in
noncomputable def guarded {α : Type} (t : Sem α) (e : Sem α) : Sem α := Sem.stack fun st => if CalmAll st then t else e
open Classical in
theorem guarded_any {α : Type} {M : Model} {A : Around} {t e : Sem α} {Q : α → Shared → Prop} {E : Value → Shared → Prop} {s : Shared} (h1 : ∀ Γ p, Γ.In A → Calm Γ.code → CalmAll Γ.below → Sem.wp M Γ t (fun a _ s' => Q a s') (fun x _ s' => E x s') p s) (h2 : ∀ Γ p, Γ.In A → ¬ CalmAll ((Γ.code, p) :: Γ.below) → Sem.wp M Γ e (fun a _ s' => Q a s') (fun x _ s' => E x s') p s) :
    wpAny M A (guarded t e) Q E s := fun Γ p hΓ => by
  show Sem.wp M Γ (if CalmAll ((Γ.code, p) :: Γ.below) then t else e) _ _ p s
  by_cases hc : CalmAll ((Γ.code, p) :: Γ.below)
  · rw [if_pos hc]
    exact h1 Γ p hΓ (hc _ (List.mem_cons_self ..)) fun x hx => hc x (List.mem_cons_of_mem _ hx)
  · rw [if_neg hc]
    exact h2 Γ p hΓ hc
open Classical in
theorem guarded_no {α : Type} {M : Model} {A : Around} {t e : Sem α} {Q : α → Shared → Prop} {E : Value → Shared → Prop} {s : Shared} (h : wpAny M A (guarded t e) Q E s) (Γ : PySem.Ctx) (p : Pos) (hΓ : Γ.In A) (hc : ¬ CalmAll ((Γ.code, p) :: Γ.below)) :
    Sem.wp M Γ e (fun a _ s' => Q a s') (fun x _ s' => E x s') p s := by
  have := h Γ p hΓ
  have q : Sem.wp M Γ (guarded t e) (fun a _ s' => Q a s') (fun x _ s' => E x s') p s = Sem.wp M Γ e (fun a _ s' => Q a s') (fun x _ s' => E x s') p s := by
    show Sem.wp M Γ (if CalmAll ((Γ.code, p) :: Γ.below) then t else e) _ _ p s = _
    rw [if_neg hc]
  rw [← q]; exact this
open Classical in
theorem guarded_yes {α : Type} {M : Model} {A : Around} {t e : Sem α} {Q : α → Shared → Prop} {E : Value → Shared → Prop} {s : Shared} (h : wpAny M A (guarded t e) Q E s) (Γ : PySem.Ctx) (p : Pos) (hΓ : Γ.In A) (h1 : Calm Γ.code) (h2 : CalmAll Γ.below) :
    Sem.wp M Γ t (fun a _ s' => Q a s') (fun x _ s' => E x s') p s := by
  have := h Γ p hΓ
  have e : Sem.wp M Γ (guarded t e) (fun a _ s' => Q a s') (fun x _ s' => E x s') p s = Sem.wp M Γ t (fun a _ s' => Q a s') (fun x _ s' => E x s') p s := by
    show Sem.wp M Γ (if CalmAll ((Γ.code, p) :: Γ.below) then t else e) _ _ p s = _
    rw [if_pos (calm_enter h1 h2)]
  rw [← e]; exact this
theorem caller_calm : Calm (.builtin "claim.caller" {}) := by simp [Calm, calmIds]
def caller (t : Sem Fin) : Thread := ⟨t, .builtin "claim.caller" {}, default, []⟩
open Classical in
theorem swap_tree {c : ClaimW} {tree other : List Value → Sem Fin} {defs kps : List Str} {writes : Bool} (h : c.HoldsOpenBy (fun vs => caller (guarded (tree vs) (other vs))) defs kps writes) :
    c.HoldsOpenBy (fun vs => caller (tree vs)) defs kps writes := by
  obtain ⟨h1, h2, h3⟩ := h
  refine ⟨h1, h2, fun w => ⟨(h3 w).1, fun s hs => ?_⟩⟩
  obtain ⟨s₀, hf, hg, s₁, hT, a, b, b', hC⟩ := (h3 w).2 s hs
  refine ⟨s₀, hf, hg, s₁, hT, a, b, b', fun args hp hl ord ho => ?_⟩
  obtain ⟨vs, s₂, hlaid, n, o, s', hn, rest⟩ := hC args hp hl ord ho
  have z : s₂.asleep := Shared.asleep_of_life (layAllW_rest _ _ _ hlaid).2.2.2 (Shared.asleep_of_life hT.2.1 (Shared.asleep_of_life (fence_lifeW hf) (AfterImport.life hs)))
  refine ⟨vs, s₂, hlaid, n - 1, o, s', ?_, rest⟩
  cases n with
  | zero => cases hn
  | succ n =>
    have st : step (denote table) c.prog w s₂ (caller (guarded (tree vs) (other vs))) = .go s₂ (caller (tree vs)) := by
      show Step.go s₂ ⟨(if CalmAll [((.builtin "claim.caller" {} : Code), (default : Pos))] then tree vs else other vs), .builtin "claim.caller" {}, default, []⟩ = _
      have hc : CalmAll [((.builtin "claim.caller" {} : Code), (default : Pos))] := fun x hx => by rw [List.mem_singleton.mp hx]; exact caller_calm
      rw [if_pos hc]
      rfl
    simp only [schedN] at hn
    have e := sstep_single (denote table) c.prog w s₂ (caller (guarded (tree vs) (other vs))) rfl z
    rw [st] at e
    rcases e with e | e
    · rw [e] at hn
      exact hn
    · cases e
abbrev WalkR (q : Program) (loose : List Str) (XP : (Str → Option Value) → Heap → Prop) (YP : World → Heap → Prop) (r : RowW) (d : DefRec) (kwd : List (Str × Expr)) (run : Value → List Value → Sem Value) : Prop :=
  ∀ (w : World) (s₀ s₁ : Shared) (mg mb : Str → Option Value), Ground q loose r.records XP w s₀ mg mb s₁.heap → YP w s₁.heap → ∀ (a : Addr) (o : Obj) (pm cd doc dV kV : Value), s₁.heap.get? a = some o →
    o.data = .func { docDef d.name d.params d.body d.scope pm cd doc with defaults := dV, kwdefaults := kV } → s₁.heap.CodeRec cd d.name → Dflts mg s₁.heap d.params kwd dV kV → mg d.name = some (.ref a) → s₁.gens = #[] →
    ∀ (args : List WData) (vals : List Value) (as : List Addr), r.claim.pre args = true → WData.layableAll args = true → ReadsAllW r.records (classAt s₀.heap) s₁.heap vals args as → WellAll w.params s₁.heap vals args → (∀ a ∈ as, (a == sysModules) = false) →
      wpR (model r.prog w) callerA (run (.ref a) vals) (fun v s' => GoodWG r.claim (classAt s₀.heap) (ExcName.means s₀.heap) args s₁ (.ok (.ret v)) s') s₁ ∧
      GoodWG r.claim (classAt s₀.heap) (ExcName.means s₀.heap) args s₁ (.ok (.ret (.bool true))) s₁
theorem PySem.W.holds_open {r : OpenRow} {q : Program} {loose : List Str} {Xt : Shared → Bool} {XP : (Str → Option Value) → Heap → Prop} {α : Type} {Yf : Shared → α} {Ya : World → α} {YP : World → Heap → Prop} {d : DefRec} {kwd : List (Str × Expr)} {N : Nat}
    (left : LeftO r.prog q loose Xt Yf Ya N) (hY : ∀ w s, Yf s = Ya w → YP w s.heap) (hYk : ∀ w h h', YP w h → (∀ b o, h.get? b = some o → h'.get? b = some o) → YP w h')
    (hX : ∀ s, Xt s = true → XP (s.heap.nsMap mainGlobals) s.heap) (hXk : ∀ mg h h', XP mg h → (∀ b o, h.get? b = some o → h'.get? b = some o) → XP mg h')
    (hdef : defOf q r.name = some (d, kwd)) (hp : r.prog.theDef r.name = some (d.params, d.body, d.scope)) (hk : kwWritten? d.params.kwonlyargs d.params.kw_defaults = some kwd) (hRf : ∀ s, Xt s = true → RecFacts r.records s.heap) (hwr : (!r.writes || r.records.isEmpty) = true)
    (k1 : r.wellSaid = true) (ok : (chainsOk q && opensWell r.prog && (frees r.toRowW && r.within.isEmpty)) = true) (hb : r.prog.bare) (hw : r.toRowW.promised)
    (call : WalkR q loose XP YP r.toRowW d kwd fun f vs => PySem.call f vs) : r.Holds := by
  refine ⟨k1, hw, ?_⟩
  show r.toRowW.claim.HoldsOpenBy (fun vs => caller (do match ← nsGet mainNs r.name with
      | some f => do ret (← PySem.call f vs)
      | none => unsupported "claim.caller:no-such-global")) _ _ _
  refine swap_tree (other := fun _ => pure (.done (.ret (.bool true)))) (open_anyG (r := r.toRowW) (run := fun f vs => guarded (PySem.call f vs) (pure (.bool true))) left hY hYk hX hXk hRf hwr ok hb hw ?_ ?_ ?_)
  · intro vs w s mg f Q E hg hf h
    refine guarded_any (fun Γ p hΓ h1 h2 => ?_) ?_
    · rw [Sem.wp_bind']
      refine (Sem.wp_nsGet _ Γ _ p s hg _ _).mpr ?_
      rw [hf]
      rw [Sem.wp_bind']
      exact guarded_yes h Γ p hΓ h1 h2
    · intro Γ p hΓ hc
      exact guarded_no h Γ p hΓ hc
  · intro w s hg G n hn
    obtain rfl : n = r.name := by split at hn <;> simp_all
    exact pinned_of_view hg G hdef hp hk
  · intro w s₀ s₁ mg mb G Y args vs as hpre hlay L low
    obtain ⟨a, o, pm, cd, doc, dV, kV, h1, h2, h3, h4, h5⟩ := G.fn hdef
    obtain ⟨c1, c2⟩ := call w s₀ s₁ mg mb G Y a o pm cd doc dV kV h2 h3 h4 h5 (defOf_name hdef ▸ h1) L.gens args vs as hpre hlay L.reads L.well (L.low low)
    exact ⟨.ref a, h1, guarded_any (fun Γ p hΓ q1 q2 => Sem.wp_mono _ _ _ (fun _ _ _ x => x) (fun _ _ _ x => x.elim) _ _ (c1 Γ p hΓ q1 q2)) (fun _ _ _ _ => c2)⟩
end Mine
end

section
open PySem PySem.W PyProof.Rows
set_option maxRecDepth 100000
set_option maxHeartbeats 8000000
namespace Mine
open_top hd for PySem.Challenge.rw_zo0003_01
end Mine
end

section
open PySem PySem.W PyProof.Rows PySem.Calls PySem.Spec
set_option maxRecDepth 100000
namespace Mine

/-- fills the walk's table of written objects -/
theorem fill : (fun (_ : PySem.Challenge.rw_zo0003_01 = PySem.Challenge.rw_zo0003_01) => hd.heap_39) = fun _ => hd.heap_39 := by
  k_fill
  rfl

abbrev tupOf (vs : List Value) : Obj := { cls := .type "tuple", data := .seq vs.toArray }
abbrev lstOf (vs : List Value) : Obj := { cls := .type "list", data := .seq vs.toArray }

def Fit (n : Int) : Prop := n.natAbs < 10 ^ 4000
theorem Fit.bits {n : Int} (h : Fit n) : Builtin.Int.intBits n ≤ 13300 := by
  unfold Builtin.Int.intBits
  split
  · exact Nat.zero_le _
  · have h1 : n.natAbs < 2 ^ 13300 := Nat.lt_of_lt_of_le h (by decide +kernel)
    rcases Nat.eq_zero_or_pos n.natAbs with h0 | hp
    · rw [h0]; decide
    · have := (Nat.log2_lt (Nat.ne_of_gt hp)).mpr h1
      omega
theorem Fit.mul {a b : Int} (ha : Fit a) (hb : Fit b) : IntMulOk a b := by
  have h1 := ha.bits
  have h2 := hb.bits
  have h : Builtin.Int.intTooBig ((Builtin.Int.intBits a : Int) + Builtin.Int.intBits b) = false := by
    unfold Builtin.Int.intTooBig
    have : bitsLine = 2 ^ 27 := rfl
    simp only [this, decide_eq_false_iff_not]
    omega
  unfold IntMulOk
  rw [h]
  simp

/-- what a call is promised and owes: the return is told of any heap that bears the frame and the ledger grown -/
def Claim (prog : Program) (w : World) (f : Addr) (D U : Nat) (vs : List Value) (news : List (Addr × Obj)) (Rel : Value → List (Addr × Obj) → Prop) : Prop :=
  ∀ (p : Program) (loose : List Str) (mean : ExcName → Option Value) (mg mb : Str → Option Value) (dp un : Nat) (gd : Option (List Code)) (cn : Str) (cs : Scope) (a : Addr) (ccd : Value) (cl : List (Str × Addr)) (outer : List Env) (A₀ : Around) (base h₀ : Heap) (L : Addr) (m : Str → Option Value) (s : Shared) (Q E : Value → Shared → Prop),
    Below A₀ base outer h₀ → Fr h₀ L s.heap m → (hd.heap_39 w.params).In h₀ → News h₀ L s.heap news → Top p loose mean mg mb h₀ → cs.kind = .function →
    dp + D < recursionLimit → un + U < cLine →
    (∀ r adds h' tk', Fr h₀ L h' m → News h₀ L h' (adds ++ news) → (∀ q ∈ news, ∀ p ∈ adds, q.1 < p.1) → Rel r adds → Q r { s with heap := h', toks := tk' }) →
      wpAny (model prog w) (ktrTop dp un gd cn cs L a ccd cl outer) (call (.ref f) vs) Q E s

theorem Claim.use {prog : Program} {w : World} {f : Addr} {D U : Nat} {vs : List Value} {news : List (Addr × Obj)} {Rel : Value → List (Addr × Obj) → Prop}
    {p : Program} {loose : List Str} {mean : ExcName → Option Value} {mg mb : Str → Option Value} {dp un : Nat} {gd : Option (List Code)} {cn : Str} {cs : Scope} {a : Addr} {ccd : Value} {cl : List (Str × Addr)} {outer : List Env} {A₀ : Around} {base h₀ : Heap} {L : Addr} {m : Str → Option Value} {s : Shared} {Q E : Value → Shared → Prop}
    (C : Claim prog w f D U vs news Rel)
    (B : Below A₀ base outer h₀) (F : Fr h₀ L s.heap m) (X : (hd.heap_39 w.params).In h₀) (N : News h₀ L s.heap news) (T : Top p loose mean mg mb h₀) (hk : cs.kind = .function)
    (hd : dp + D < recursionLimit) (hu : un + U < cLine)
    (ret : ∀ r adds h' tk', Fr h₀ L h' m → News h₀ L h' (adds ++ news) → (∀ q ∈ news, ∀ p ∈ adds, q.1 < p.1) → Rel r adds → Q r { s with heap := h', toks := tk' }) :
      wpAny (model prog w) (ktrTop dp un gd cn cs L a ccd cl outer) (call (.ref f) vs) Q E s :=
  C p loose mean mg mb dp un gd cn cs a ccd cl outer A₀ base h₀ L m s Q E B F X N T hk hd hu ret

theorem News.one {news : List (Addr × Obj)} {d : Addr} {o : Obj} (h : ∀ p ∈ news, p.1 < d) : ∀ q ∈ news, ∀ p ∈ [(d, o)], q.1 < p.1 := by
  intro q hq p hp
  rw [List.mem_singleton.mp hp]
  exact h q hq

theorem AllLt.out {d : Addr} : ∀ {l : List (Addr × Obj)}, AllLt d l → ∀ p ∈ l, p.1 < d
  | [], _, _, h => nomatch h
  | _ :: _, h, p, hp => by
    rcases List.mem_cons.mp hp with rfl | hp
    · exact h.1
    · exact AllLt.out h.2 p hp

theorem News.tl {h₀ h : Heap} {L : Addr} {x : Addr × Obj} {news : List (Addr × Obj)} (N : News h₀ L h (x :: news)) : News h₀ L h news := fun p hp => N p (List.mem_cons_of_mem _ hp)
theorem News.pick1 {h₀ h : Heap} {L : Addr} {x y : Addr × Obj} {news : List (Addr × Obj)} (N : News h₀ L h (x :: y :: news)) : News h₀ L h ([x] ++ news) := fun p hp => N p (by
  rcases List.mem_cons.mp hp with rfl | hp
  · exact List.mem_cons_self ..
  · exact List.mem_cons_of_mem _ (List.mem_cons_of_mem _ hp))

theorem News.sub1 {h₀ h : Heap} {L : Addr} {x : Addr × Obj} {news all : List (Addr × Obj)} (N : News h₀ L h (x :: all)) (sub : ∀ p ∈ news, p ∈ all) : News h₀ L h ([x] ++ news) := fun p hp => N p (by
  rcases List.mem_cons.mp hp with rfl | hp
  · exact List.mem_cons_self ..
  · exact List.mem_cons_of_mem _ (sub p hp))
theorem News.sub0 {h₀ h : Heap} {L : Addr} {news all : List (Addr × Obj)} (N : News h₀ L h all) (sub : ∀ p ∈ news, p ∈ all) : News h₀ L h ([] ++ news) := fun p hp => N p (sub p hp)

end Mine
end

section
open PySem PySem.W PyProof.Rows PySem.Calls PySem.Spec PySem.Builtin PySem.Builtin.Str
set_option maxRecDepth 100000
namespace Mine

def upTo (n : Nat) (j : Int) : Nat := min (fromIndex n j) n
def find4 (x y : Str) (i j : Int) : Int := match occurrences x y (fromIndex x.length i) (upTo x.length j) 1 with | k :: _ => (k : Int) | [] => -1
def rfind4 (x y : Str) (i j : Int) : Int := match lastOccurrence x y (fromIndex x.length i) (upTo x.length j) with | some k => (k : Int) | none => -1
theorem gives_find4 (x y : Str) (i j : Int) (t u v w : Tok) : Gives («str.find» ⟨[.str x t, .str y u, .int i v, .int j w], []⟩) (.int (find4 x y i j)) := by
  unfold find4
  show Gives (match occurrences x y (fromIndex x.length i) (upTo x.length j) 1 with | k :: _ => retInt k | [] => (do rule "str.find.not-found"; retInt (-1))) _
  cases occurrences x y (fromIndex x.length i) (upTo x.length j) 1 with
  | nil => exact .rule (.of_eq rfl)
  | cons k _ => exact .of_eq rfl
theorem gives_rfind4 (x y : Str) (i j : Int) (t u v w : Tok) : Gives («str.rfind» ⟨[.str x t, .str y u, .int i v, .int j w], []⟩) (.int (rfind4 x y i j)) := by
  unfold rfind4
  show Gives (match lastOccurrence x y (fromIndex x.length i) (upTo x.length j) with | some k => retInt k | none => (do rule "str.rfind.not-found"; retInt (-1))) _
  cases lastOccurrence x y (fromIndex x.length i) (upTo x.length j) with
  | none => exact .rule (.of_eq rfl)
  | some k => exact .of_eq rfl
section
variable {prog : Program} {w : World} {A : Around} {E : Value → Shared → Prop} {s : Shared} {x y z : Str} {t u v v' : Tok} {i j r : Int} {Q : Value → Shared → Prop} {h₀ : Heap} {L : Addr} {m : Str → Option Value} {news : List (Addr × Obj)} {value slice : PySem.Expr}
theorem find_e (e : Txt.find x y = r) (h : Q (.int r s.toks) { s with toks := s.toks + 1 }) : wpAny (model prog w) A (call (.builtin "str.find") [.str x t, .str y u]) Q E s := SC.find (e ▸ h)
theorem find3_e (e : Txt.find3 x y i = r) (h : Q (.int r s.toks) { s with toks := s.toks + 1 }) : wpAny (model prog w) A (call (.builtin "str.find") [.str x t, .str y u, .int i v]) Q E s := SC.find3 (e ▸ h)
theorem find4_e (e : find4 x y i j = r) (h : Q (.int r s.toks) { s with toks := s.toks + 1 }) : wpAny (model prog w) A (call (.builtin "str.find") [.str x t, .str y u, .int i v, .int j v']) Q E s :=
  call_gives F.slot_str_find (typeIs_str _ _ _) F.entry_str_find (F.args_str_find_4 _ _ _ _) (gives_find4 x y i j t u v v') (e ▸ h)
theorem rfind4_e (e : rfind4 x y i j = r) (h : Q (.int r s.toks) { s with toks := s.toks + 1 }) : wpAny (model prog w) A (call (.builtin "str.rfind") [.str x t, .str y u, .int i v, .int j v']) Q E s :=
  call_gives F.slot_str_rfind (typeIs_str _ _ _) F.entry_str_rfind (F.args_str_rfind_4 _ _ _ _) (gives_rfind4 x y i j t u v v') (e ▸ h)
theorem len_e (hz : x.length ≤ sizeLine) (e : (x.length : Int) = r) (h : Q (.int r (s.toks + 1)) { s with toks := s.toks + 1 + 1 }) : wpAny (model prog w) A (call (.builtin "len") [.str x t]) Q E s :=
  len_str (by have := sizeLine_eq; omega) (e ▸ h)
theorem add_e (hsz : x.length + y.length ≤ sizeLine) (e : x ++ y = z) (h : ∀ t' tk, Q (.str z t') { s with toks := tk }) : wpAny (model prog w) A (binaryOp .Add (.str x t) (.str y u)) Q E s := add_str (e ▸ h) hsz
theorem slice_ns_e (hF : Fr h₀ L s.heap m) (hN : News h₀ L s.heap news) (hsz : x.length ≤ sizeLine) (e : Txt.slice x none (some j) = z) (h : ∀ h' t' k, Fr h₀ L h' m → News h₀ L h' news → Q (.str z t') { s with heap := h', toks := k })
    (hs : subscripted slice false (.str x t) (.ref s.heap.objs.size) = operate [.ref s.heap.objs.size, .str x t] (getItem (.str x t) (.ref s.heap.objs.size)) := by with_unfolding_all rfl)
    (ht : ∀ r, letTemporaryGo value (.str x t) r = pure () := by intro _; with_unfolding_all rfl) :
    wpAny (model prog w) A (subscriptTail value slice (.str x t) (.ref s.heap.objs.size)) Q E { s with heap := s.heap.push { cls := .type "slice", data := .fields #[.none, .int j v, .none] } } := slice_strN_ns hF hN (e ▸ h) hs ht hsz
theorem slice_sn_e (hF : Fr h₀ L s.heap m) (hN : News h₀ L s.heap news) (hsz : x.length ≤ sizeLine) (e : Txt.slice x (some i) none = z) (h : ∀ h' t' k, Fr h₀ L h' m → News h₀ L h' news → Q (.str z t') { s with heap := h', toks := k })
    (hs : subscripted slice false (.str x t) (.ref s.heap.objs.size) = operate [.ref s.heap.objs.size, .str x t] (getItem (.str x t) (.ref s.heap.objs.size)) := by with_unfolding_all rfl)
    (ht : ∀ r, letTemporaryGo value (.str x t) r = pure () := by intro _; with_unfolding_all rfl) :
    wpAny (model prog w) A (subscriptTail value slice (.str x t) (.ref s.heap.objs.size)) Q E { s with heap := s.heap.push { cls := .type "slice", data := .fields #[.int i v, .none, .none] } } := slice_strN_sn hF hN (e ▸ h) hs ht hsz
theorem slice_ss_e (hF : Fr h₀ L s.heap m) (hN : News h₀ L s.heap news) (hsz : x.length ≤ sizeLine) (e : Txt.slice x (some i) (some j) = z) (h : ∀ h' t' k, Fr h₀ L h' m → News h₀ L h' news → Q (.str z t') { s with heap := h', toks := k })
    (hs : subscripted slice false (.str x t) (.ref s.heap.objs.size) = operate [.ref s.heap.objs.size, .str x t] (getItem (.str x t) (.ref s.heap.objs.size)) := by with_unfolding_all rfl)
    (ht : ∀ r, letTemporaryGo value (.str x t) r = pure () := by intro _; with_unfolding_all rfl) :
    wpAny (model prog w) A (subscriptTail value slice (.str x t) (.ref s.heap.objs.size)) Q E { s with heap := s.heap.push { cls := .type "slice", data := .fields #[.int i v, .int j v', .none] } } := slice_strN_ss hF hN (e ▸ h) hs ht hsz
theorem item_e (hsz : x.length ≤ sizeLine) (h1 : -(x.length : Int) ≤ i) (h2 : i < x.length) (e : Txt.item x i = z) (h : Q (.str z s.toks) { s with toks := s.toks + 1 })
    (hs : subscripted slice false (.str x t) (.int i u) = operate [.str x t, .int i u] (getItem (.str x t) (.int i u)) := by with_unfolding_all rfl)
    (ht : ∀ r, letTemporaryGo value (.str x t) r = pure () := by intro _; with_unfolding_all rfl) :
    wpAny (model prog w) A (subscriptTail value slice (.str x t) (.int i u)) Q E s :=
  item_str (fitsSsize_of (N := 9223372036854775808) (by have := sizeLine_eq; omega) (by have := sizeLine_eq; omega) (Int.le_refl _)) h1 h2 (fun _ => e ▸ h) hs ht
theorem int_e (e : PySem.intText? x = some r) (hl : x.length ≤ 640) (h : Q (.int r s.toks) { s with toks := s.toks + 1 }) : wpAny (model prog w) A (call (.type "int") [.str x t]) Q E s := KIN.call_text e hl h
theorem split5_e {a b c d f : Str} (hF : Fr h₀ L s.heap m) (hN : News h₀ L s.heap news) (hsz : x.length + 2 ≤ sizeLine) (hy : (y.length == 0) = false) (e : Txt.split x y = [a, b, c, d, f])
    (h : ∀ D t0 t1 t2 t3 t4 h' k, Fr h₀ L h' m → News h₀ L h' ((D, lstOf [.str a t0, .str b t1, .str c t2, .str d t3, .str f t4]) :: news) → (∀ p ∈ news, p.1 < D) → Q (.ref D) { s with heap := h', toks := k }) :
    wpAny (model prog w) A (call (.builtin "str.split") [.str x t, .str y u]) Q E s := by
  refine splitN1 hF hN hy (fun l h' k e' F N => ?_) hsz
  rw [e] at e'
  match l, e' with
  | [(a', t0), (b', t1), (c', t2), (d', t3), (f', t4)], e' =>
    simp only [List.map_cons, List.map_nil, List.cons.injEq, and_true] at e'
    obtain ⟨rfl, rfl, rfl, rfl, rfl⟩ := e'
    exact h _ t0 t1 t2 t3 t4 h' k F N (fun p hp => Heap.lt_size (hN p hp).1)
end
end Mine
end

section
open PySem PySem.W PyProof.Rows PySem.Calls
set_option maxRecDepth 100000
namespace Mine
theorem slot_ba_init : Slot "bytearray" "__init__" "bytearray.__init__" :=
  .of (owner := "bytearray") (n := "__init__") (by rw [typeLookup_type, builtinLookup_eq_fast]; kernel_rfl) (by decide +kernel) (by decide +kernel) (by decide +kernel)
    (by first | exact .inl (by decide +kernel) | exact .inr (by decide +kernel)) (by rw [isSubtype_type]; kernel_rfl)
theorem ba_lookup_new : typeLookup (.type "bytearray") "__new__" = pure (some (.builtin "bytearray.__new__")) := by rw [typeLookup_type, builtinLookup_eq_fast]; kernel_rfl
theorem ba_mro : mroOf (.type "bytearray") = pure [.type "bytearray", .type "object"] := by rw [mroOf_type]; kernel_rfl
theorem called_ba : TypeCalled "bytearray" "bytearray.__new__" "bytearray.__init__" :=
  ⟨by decide +kernel, by decide +kernel, ⟨_, _, ba_mro⟩, madeBy_type ba_mro ba_lookup_new (by decide +kernel), by decide +kernel, by rw [isSubtype_type]; kernel_rfl, slot_ba_init⟩
theorem ba_typeCall (a : Value) : checkTypeCall "bytearray" ⟨[a], []⟩ = pure () := by kernel_rfl
theorem ba_newCall (a : Value) : checkBuiltinCall "bytearray.__new__" ⟨[.type "bytearray", a], []⟩ = pure () := by kernel_rfl
theorem ba_entry_new : entryFor table "bytearray.__new__" = some Builtin.«list.__new__» := entryFor_alias (id' := "list.__new__") (by kernel_rfl) (by first | rfl | decide +kernel) (by decide +kernel) (by kernel_rfl)
theorem ba_entry_init : entryFor table "bytearray.__init__" = some Builtin.«bytearray.__init__» := entryFor_of_tree (by kernel_rfl)
theorem ba_plain_new : plainId "bytearray.__new__" = true := by decide +kernel
theorem ba_plain_init : plainId "bytearray.__init__" = true := by decide +kernel
theorem ba_args_init (a b : Value) : argsOk "bytearray.__init__" ⟨[a, b], []⟩ := by unfold argsOk; kernel_rfl
theorem ba_sub : isSubtype (.type "bytearray") (.type "bytearray") = pure true := by rw [isSubtype_type]; kernel_rfl
set_option maxRecDepth 1000000 in
set_option maxHeartbeats 4000000 in
theorem ba_rel : typeLookup (.type "bytearray") (Str.ofString "__release_buffer__") = pure (some (.builtin "bytearray.__release_buffer__")) := by rw [typeLookup_type, builtinLookup_eq_fast]; kernel_rfl
theorem int_asStr (i : Int) (t : Tok) : asStr? (.int i t) = pure none := rfl
theorem int_asIndex (i : Int) (t : Tok) : (asIndex (.int i t)).attempt = pure (.ok i) := rfl
theorem int_index : typeLookup (.type "int") (Str.ofString "__index__") = pure (some (.builtin "int.__index__")) := by rw [typeLookup_type, builtinLookup_eq_fast]; kernel_rfl
theorem int_special (i : Int) (t : Tok) : specialOf (.int i t) (Str.ofString "__index__") = pure (some (.builtin "int.__index__")) := by
  have e : specialOf (.int i t) (Str.ofString "__index__") = typeLookup (.type "int") (Str.ofString "__index__") := rfl
  rw [e, int_index]
theorem ba_owner : ("bytearray.__new__".splitOn ".__new__").headD "" = "bytearray" := by simp +decide [String.splitOn, String.splitOnAux]
section
variable {prog : Program} {w : World} {A : Around} {E : Value → Shared → Prop} {s : Shared}
theorem ba_new (a : Value) {Q₁ : Value → Shared → Prop}
    (h : Q₁ (.ref s.heap.objs.size) { s with heap := s.heap.push { cls := .type "bytearray", data := .bytearray #[] } }) :
    codeAny (model prog w) A (.call (.builtin "bytearray.__new__") ⟨[.type "bytearray", a], []⟩) (wants Q₁ E) s := by
  refine codeAny_of_tree ?_
  show wpAny _ A.in1 (do checkBuiltinCall "bytearray.__new__" ⟨[.type "bytearray", a], []⟩; again (.builtin "bytearray.__new__" ⟨[.type "bytearray", a], []⟩)) _ _ s
  refine wpAny_bind (wpAny_of_eq (ba_newCall a) (wpAny_pure ⟨plainId_quiet ba_plain_new _, codeAny_builtin_stack ba_entry_new rfl fun p st => ?_⟩))
  rw [Around.under_plainId ba_plain_new _]
  have hsub := ba_sub
  have hown := ba_owner
  obtain ⟨hp, g, d, tk, os⟩ := s
  simp only [hown]
  wp_walk
  exact h
theorem ba_own {D : Addr} {o : Obj} {Q : Bool → Shared → Prop} (hS : s.heap.get? D = some o) (hc : o.cls = .type "bytearray") (h : Q false s) : wpAny (model prog w) A (Builtin.Bytes.ownRelease (.ref D)) Q E s := by
  have hT : s.TypeIs (.ref D) "bytearray" := ⟨_, hS, hc⟩
  unfold Builtin.Bytes.ownRelease
  refine wpAny_bind ?_
  unfold Builtin.Bytes.slotIsOwn
  refine wpAny_bind (wpAny_specialOf hT ba_rel ?_)
  dsimp only
  rw [if_neg (by decide +kernel)]
  have e : ("bytearray.__release_buffer__".dropRight ("__release_buffer__".length + 1)) = "bytearray" := by decide +kernel
  rw [e]
  exact wpAny_isInstance hT ba_sub (wpAny_pure h)
set_option maxRecDepth 100000 in
set_option maxHeartbeats 4000000 in
theorem ba_init {D : Addr} {n : Nat} {t : Tok} {Q : Shared → Prop} (hS : s.heap.get? D = some { cls := .type "bytearray", data := .bytearray #[] }) (hn : n ≤ 100000)
   (h : ∀ h', h'.get? D = some { cls := .type "bytearray", data := .bytearray (Array.replicate n 0) } → (∀ b o, b ≠ D → s.heap.get? b = some o → h'.get? b = some o) → Q { s with heap := h' }) :
    wpR (model prog w) A (Builtin.«bytearray.__init__» ⟨[.ref D, .int n t], []⟩) (fun fin s' => fin = .done (.ret .none) ∧ Q s') s := by
  unfold Builtin.«bytearray.__init__»
  dsimp only
  refine wpR_bind (wpR_of (ba_own hS rfl ?_))
  rw [if_neg (by decide)]
  refine wpR_bind (wpR_of_eq (u := pure [some (.int n t), none, none]) (by rfl) (wpR_pure ?_))
  dsimp only
  refine wpR_bind (wpR_of_eq (u := pure ()) (by rfl) (wpR_pure ?_))
  refine wpR_bind (wpR_of_eq (u := pure ()) (by rfl) (wpR_pure ?_))
  refine wpR_bind (m := Builtin.Bytes.exported (Value.ref D) <||> _) ?_
  refine wpR_bind (m := Builtin.Bytes.exported (Value.ref D)) (fun Γ p _ h1 h2 => exported_calm h1 h2 ?_)
  refine wpR_of ?_
  show wpAny _ _ (Builtin.Bytes.exportsOf (.ref D) >>= fun k => pure (decide (k > 0))) _ _ _
  refine wpAny_bind ?_
  unfold Builtin.Bytes.exportsOf
  refine wpAny_bind (wpAny_load hS ?_)
  refine wpAny_pure (wpAny_pure ?_)
  rw [if_neg (by decide)]
  refine wpR_bind (wpR_of ?_)
  unfold Builtin.Bytes.write updateBytearray
  refine wpAny_bind (wpAny_load hS ?_)
  dsimp only
  refine wpAny_bind (wpAny_update hS ?_)
  have hS2 := Heap.get?_update_self (Obj.mapBytearray (fun _ => #[])) hS rfl
  refine wpAny_lookBehind hS2 (by rfl) ?_
  refine wpR_bind ?_
  rw [int_asStr]
  refine wpR_pure ?_
  rw [if_neg (by decide), if_neg (by decide), if_neg (by decide)]
  refine wpR_bind ?_
  refine wpR_pure ?_
  refine wpR_bind ?_
  rw [int_special]
  refine wpR_pure ?_
  rw [if_pos (Option.isSome_some)]
  refine wpR_bind ?_
  rw [int_asIndex]
  refine wpR_pure ?_
  dsimp only
  have f1 : Builtin.Bytes.fitsIndex (n : Int) = true := by unfold Builtin.Bytes.fitsIndex; simp; omega
  have f2 : ((n : Int) == 2 ^ 63 - 1) = false := by simp; omega
  have f3 : Builtin.Bytes.tooLong (n : Int).toNat = false := by unfold Builtin.Bytes.tooLong sizeLine; simp; omega
  rw [if_neg (by rw [f1]; decide), if_neg (by omega), if_neg (by rw [f2]; decide), if_neg (by rw [f3]; decide)]
  refine wpR_bind (wpR_rule ?_)
  by_cases h0 : (n : Int) > 0
  · rw [if_pos h0]
    refine wpR_bind (wpR_of ?_)
    refine wpAny_bind (wpAny_load hS2 ?_)
    dsimp only [Obj.mapBytearray]
    refine wpAny_bind (wpAny_update hS2 ?_)
    have hS3 := Heap.get?_update_self (Obj.mapBytearray (fun _ => Array.replicate (n : Int).toNat 0)) hS2 rfl
    refine wpAny_lookBehind hS3 (by
      show (Data.bytearray (Array.replicate (n : Int).toNat 0) 0).pastItsLine = none
      simp only [Data.pastItsLine, Array.size_replicate, sizeLine]
      rw [if_neg (by omega)]) ?_
    refine wpR_pure ⟨rfl, ?_⟩
    refine h _ (hS3.trans ?_) (fun b o hb e => ?_)
    · rw [Int.toNat_natCast]; rfl
    · exact (Heap.get?_update_other _ _ (Ne.symm hb)).trans ((Heap.get?_update_other _ _ (Ne.symm hb)).trans e)
  · rw [if_neg h0]
    have : n = 0 := by omega
    subst this
    refine wpR_pure ⟨rfl, h _ (hS2.trans ?_) fun b o hb e => (Heap.get?_update_other _ _ (Ne.symm hb)).trans e⟩
    have e0 : Array.replicate 0 (0 : UInt8) = #[] := by simp
    rw [e0]; rfl
theorem ba_call {n : Nat} {t : Tok} {Q : Value → Shared → Prop} (hn : n ≤ 100000) (h : ∀ h', h'.get? s.heap.objs.size = some { cls := .type "bytearray", data := .bytearray (Array.replicate n 0) } → (∀ b o, s.heap.get? b = some o → h'.get? b = some o) → Q (.ref s.heap.objs.size) { s with heap := h' }) : wpR (model prog w) A (call (.type "bytearray") [.int n t]) Q s := by
  refine wpR_call (codeR_of_tree trivial ?_)
  show wpR _ _ (callAny (.type "bytearray") _) _ _
  refine wpR_pure ⟨Code.quiet_builtin _ (by decide +kernel), codeR_builtin (by simp [Calm, calmIds]) F.entry_type_call ?_⟩
  rw [Around.under_plain (weight_type_call_type "bytearray" [.int n t] []) rfl]
  unfold Builtin.«type.__call__»
  dsimp only
  rw [if_neg (by decide), if_neg (by rw [called_ba.canCreate]; decide)]
  refine wpR_bind (wpR_of (wpAny_of_eq (ba_typeCall _) ?_))
  refine wpR_bind (wpR_of (wpAny_of_eq ba_mro ?_))
  rw [if_neg (by decide)]
  refine wpR_bind (wpR_of (wpAny_of_eq called_ba.made ?_))
  dsimp only
  refine wpR_bind (wpR_pure ?_)
  refine wpR_bind (wpR_holding (wpR_of (wpAny_call (codeAny_mono (ba_new (.int n t) (Q₁ := fun v s₁ => v = .ref s.heap.objs.size ∧ s₁ = { s with heap := s.heap.push { cls := .type "bytearray", data := .bytearray #[] } }) (E := fun _ _ => False) ⟨rfl, rfl⟩) fun r s₁ hr => ?_))))
  cases r with
  | error e => exact hr.elim
  | ok fl =>
    cases fl with
    | ret obj =>
      obtain ⟨rfl, rfl⟩ := hr
      have hS : (s.heap.push { cls := .type "bytearray", data := .bytearray #[] }).get? s.heap.objs.size = some { cls := .type "bytearray", data := .bytearray #[] } := Heap.get?_push_size _ rfl
      have hT : ({ s with heap := s.heap.push { cls := .type "bytearray", data := .bytearray #[] } } : Shared).TypeIs (.ref s.heap.objs.size) "bytearray" := ⟨_, hS, rfl⟩
      refine wpR_bind (wpR_of (wpAny_isInstance hT ba_sub ?_))
      rw [if_neg (by decide)]
      refine wpR_bind (wpR_holding ?_)
      unfold callSpecial?
      refine wpR_bind (wpR_of (wpAny_specialOf hT slot_ba_init.lookup ?_))
      dsimp only
      refine wpR_holding (wpR_bind (wpR_of (wpAny_of_eq (slot_ba_init.bind _) ?_)))
      dsimp only
      refine wpR_bind (wpR_call (codeR_callBuiltin (by simp [Calm, calmIds]) ba_plain_init ba_entry_init (slot_ba_init.check _ _ _ _ _ _ _ _ hT (ba_args_init _ _) ?_)))
      refine wpR_mono (ba_init hS (Q := fun s' => Q (.ref s.heap.objs.size) s') hn fun h' e1 e2 => h h' e1 fun b o e => e2 b o (Nat.ne_of_lt (Heap.lt_size e)) (Heap.get?_push_of_some _ e)) (fun fin s' hq => ?_)
      obtain ⟨rfl, hq⟩ := hq
      dsimp only
      refine wpR_pure ?_
      dsimp only
      rw [if_neg (by decide)]
      exact wpR_pure hq
    | _ => exact hr.elim
end
end Mine
end

section
open PySem PySem.W PyProof.Rows PySem.Calls
set_option maxRecDepth 100000
namespace Mine
abbrev baObj (b : Array UInt8) : Obj := { cls := .type "bytearray", data := .bytearray b }
theorem slot_ba_set : Slot "bytearray" "__setitem__" "bytearray.__setitem__" :=
  .of (owner := "bytearray") (n := "__setitem__") (by rw [typeLookup_type, builtinLookup_eq_fast]; kernel_rfl) (by decide +kernel) (by decide +kernel) (by decide +kernel)
    (by first | exact .inl (by decide +kernel) | exact .inr (by decide +kernel)) (by rw [isSubtype_type]; kernel_rfl)
theorem entry_ba_set : entryFor table "bytearray.__setitem__" = some Builtin.«bytearray.__setitem__» := entryFor_of_tree (by kernel_rfl)
theorem args_ba_set (a b c : Value) : argsOk "bytearray.__setitem__" ⟨[a, b, c], []⟩ := by unfold argsOk; kernel_rfl
section
variable {prog : Program} {w : World} {A : Around} {E : Value → Shared → Prop} {s : Shared}
theorem int_asIndex0 (i : Int) (t : Tok) : asIndex (.int i t) = pure i := rfl
theorem ba_subscript {k : Int} {t : Tok} (h0 : 0 ≤ k) (h1 : k < 100000) : Builtin.Bytes.subscript? (.int k t) = pure (some k) := by
  unfold Builtin.Bytes.subscript?
  rw [int_special, pure_bind, if_neg (by decide), int_asIndex0, pure_bind]
  have f1 : Builtin.Bytes.fitsIndex k = true := by unfold Builtin.Bytes.fitsIndex; simp; omega
  rw [if_neg (by rw [f1]; decide)]
theorem ba_byte {k : Int} {t : Tok} (h0 : 0 ≤ k) (h1 : k < 256) : Builtin.Bytes.byteValue (.int k t) = pure k.toNat.toUInt8 := by
  unfold Builtin.Bytes.byteValue
  rw [int_asIndex0, pure_bind, if_neg (by simp; omega)]
theorem ba_set {D : Addr} {b : Array UInt8} {k v : Int} {t u : Tok} {Q : Unit → Shared → Prop} (hS : s.heap.get? D = some (baObj b)) (h0 : 0 ≤ k) (h1 : k < b.size) (hb : b.size ≤ 10000) (hv0 : 0 ≤ v) (hv : v < 256)
   (hQ : ∀ h', h'.get? D = some (baObj (b.setIfInBounds k.toNat v.toNat.toUInt8)) → Heap.SameBut D s.heap h' → Q () { s with heap := h' }) : wpAny (model prog w) A (setItem (.ref D) (.int k t) (.int v u)) Q E s := by
  have hT : s.TypeIs (.ref D) "bytearray" := ⟨_, hS, rfl⟩
  unfold setItem
  try with_reducible refine wpAny_holding ?_
  first | refine wpAny_bind (wpAny_pure ?_) | skip
  refine wpAny_bind (wpAny_sequenceKey hT (by decide) ?_)
  refine wpAny_bind (wpAny_callSpecial?_slot (name := Str.ofString "__setitem__") hT slot_ba_set
    (wpAny_call_entry slot_ba_set hT entry_ba_set ?_ (args_ba_set _ _ _)))
  unfold Builtin.«bytearray.__setitem__»
  dsimp only
  rw [if_neg (by decide)]
  refine wpAny_bind (wpAny_of_eq (ba_subscript h0 (by omega)) ?_)
  dsimp only
  refine wpAny_bind (wpAny_of_eq (ba_byte hv0 hv) ?_)
  refine wpAny_bind ?_
  unfold Builtin.Bytes.payload Builtin.Bytes.payload?
  refine wpAny_bind (wpAny_bind (wpAny_load hS (wpAny_pure ?_)))
  refine wpAny_pure ?_
  have e : seqIndex? k b.size = some k.toNat := StrLaws.seqIndex_nonneg h0 h1
  rw [e]
  dsimp only
  unfold Builtin.Bytes.write updateBytearray
  refine wpAny_bind (wpAny_bind (wpAny_load hS ?_))
  dsimp only
  refine wpAny_bind (wpAny_update hS ?_)
  have hS2 := Heap.get?_update_self (Obj.mapBytearray (fun x => x.setIfInBounds k.toNat v.toNat.toUInt8)) hS rfl
  refine wpAny_lookBehind hS2 (by
    show (Data.bytearray (b.setIfInBounds k.toNat v.toNat.toUInt8) 0).pastItsLine = none
    simp only [Data.pastItsLine, Array.size_setIfInBounds, sizeLine]
    rw [if_neg (by omega)]) ?_
  exact wpAny_pure ⟨.none, rfl, wpAny_pure (hQ _ hS2 (Heap.SameBut.update ..))⟩
end
end Mine
end

section
open PySem PySem.W PyProof.Rows PySem.Calls
set_option maxRecDepth 100000
namespace Mine
theorem ba_no_bytes : typeLookup (.type "bytearray") (Str.ofString "__bytes__") = pure none := by rw [typeLookup_type, builtinLookup_eq_fast]; kernel_rfl
theorem ba_no_index : typeLookup (.type "bytearray") (Str.ofString "__index__") = pure none := by rw [typeLookup_type, builtinLookup_eq_fast]; kernel_rfl
theorem ba_buf : typeLookup (.type "bytearray") (Str.ofString "__buffer__") = pure (some (.builtin "bytearray.__buffer__")) := by rw [typeLookup_type, builtinLookup_eq_fast]; kernel_rfl
section
variable {prog : Program} {w : World} {A : Around} {E : Value → Shared → Prop} {s : Shared}
theorem by_new {D : Addr} {b : Array UInt8} {Q : Value → Shared → Prop} (hS : s.heap.get? D = some (baObj b)) (hz : b.size ≤ 100000) (hQ : ∀ t k, Q (.bytes b t) { s with toks := k }) :
    codeAny (model prog w) A (.call (.builtin "bytes.__new__") ⟨[.type "bytes", .ref D], []⟩) (wants Q E) s := by
  refine codeAny_of_tree ?_
  show wpAny _ A.in1 (do checkBuiltinCall "bytes.__new__" ⟨[.type "bytes", .ref D], []⟩; again (.builtin "bytes.__new__" ⟨[.type "bytes", .ref D], []⟩)) _ _ s
  refine wpAny_bind (wpAny_of_eq (F.bm_newCall _) (wpAny_pure ⟨plainId_quiet F.bm_plain _, codeAny_builtin F.bm_entry ?_⟩))
  rw [Around.under_plainId F.bm_plain _]
  have hT : s.TypeIs (.ref D) "bytearray" := ⟨_, hS, rfl⟩
  unfold Builtin.«bytes.__new__»
  refine wpAny_bind (wpAny_of_eq (a := true) rfl ?_)
  refine bm_if_false rfl ?_
  refine wpAny_bind (wpAny_of_eq F.bm_sub ?_)
  refine bm_if_false rfl ?_
  refine wpAny_bind (wpAny_of_eq (F.bm_bind _) ?_)
  refine wpAny_bind (wpAny_of_eq (a := ()) rfl ?_)
  refine wpAny_bind (wpAny_of_eq (a := ()) rfl ?_)
  refine bm_if_false rfl ?_
  refine wpAny_bind (wpAny_specialOf hT ba_no_bytes ?_)
  refine wpAny_bind (wpAny_bind ?_)
  show wpAny _ _ (load D >>= _) _ _ _
  refine wpAny_bind (wpAny_load hS ?_)
  refine wpAny_pure (wpAny_pure ?_)
  refine bm_if_false rfl ?_
  refine wpAny_bind (wpAny_specialOf hT ba_no_index ?_)
  refine bm_if_true rfl ?_
  first
    | show wpAny _ _ (Builtin.Bytes.buffer? "bytes.__new__" (.ref D) true >>= _) _ _ _
    | (refine wpAny_bind ?_; show wpAny _ _ (Builtin.Bytes.buffer? "bytes.__new__" (.ref D) true >>= _) _ _ _)
  refine wpAny_bind ?_
  unfold Builtin.Bytes.buffer?
  refine wpAny_bind (wpAny_specialOf hT ba_buf ?_)
  dsimp only
  refine wpAny_bind ?_
  have eo : "bytearray.__buffer__".endsWith ("." ++ "__buffer__") = true := by decide +kernel
  have ed : ("bytearray.__buffer__".dropRight ("__buffer__".length + 1)) = "bytearray" := by decide +kernel
  unfold Builtin.Bytes.slotIsOwn
  refine wpAny_bind (wpAny_specialOf hT ba_buf ?_)
  dsimp only
  rw [if_neg (by rw [eo]; decide), ed]
  refine wpAny_isInstance hT ba_sub ?_
  rw [if_neg (by decide)]
  refine wpAny_bind (wpAny_specialOf hT ba_buf ?_)
  refine wpAny_bind (ba_own hS rfl ?_)
  rw [if_neg (by decide)]
  refine wpAny_bind ?_
  unfold Builtin.Bytes.payload Builtin.Bytes.payload?
  refine wpAny_bind (wpAny_bind (wpAny_load hS (wpAny_pure ?_)))
  refine wpAny_pure (wpAny_pure ?_)
  dsimp only
  refine wpAny_bind (wpAny_rule ?_)
  refine wpAny_bind (wpAny_mkBytes ?_ (by have : sizeLine = 2 ^ 24 := rfl; omega))
  with_unfolding_all exact wpAny_pure (hQ _ _)
theorem by_call {D : Addr} {b : Array UInt8} {Q : Value → Shared → Prop} (hS : s.heap.get? D = some (baObj b)) (hz : b.size ≤ 100000) (hQ : ∀ t k, Q (.bytes b t) { s with toks := k }) : wpAny (model prog w) A (call (.type "bytes") [.ref D]) Q E s := by
  refine callType_codes (Q₁ := fun obj s₁ => s₁.TypeIs obj "bytes" ∧ Q obj s₁) F.bm_called (F.bm_typeCall _) F.entry_object_init
    (by_new hS hz fun t k => ⟨PySem.W.typeIs_bytes _ _ _, hQ t k⟩) fun obj s₁ h₁ => ?_
  exact ⟨h₁.1, F.args_object_init_2 obj _, object_init_meets F.bm_called.init.lookup F.bm_called.made (by decide) prog w A.in1 _ s₁ ⟨h₁.1, rfl, h₁.2⟩⟩
end
end Mine
end

section
open PySem PySem.W PyProof.Rows PySem.Calls
set_option maxRecDepth 100000
namespace Mine
def Stop (P : Prop) : Prop := P
theorem Stop.enter {P : Prop} (h : Stop P) : P := h
theorem Stop.out {P : Prop} (h : P) : Stop P := h
theorem ne_of_off {stored : List Str} {x y : Str} (hx : stored.contains x = true) (hy : stored.contains y = false) : y ≠ x := by
  rintro rfl
  rw [hx] at hy
  cases hy
section
variable {prog : Program} {w : World} {A : Around} {E : Value → Shared → Prop} {s : Shared} {env : Env} {h₀ : Heap} {x : Str} {body : List Stmt} {Q : Flow → Shared → Prop}
theorem range_invN {r : Addr} {a₀ b₀ c : Int} {t₀ u₀ v₀ : Tok} {n : Nat} {m₀ : Str → Option Value} {news : List (Addr × Obj)} (J : Nat → (Str → Option Value) → List (Addr × Obj) → Prop)
    (hh : A.handled = none) (hr : IsRange s.heap r a₀ b₀ c t₀ u₀ v₀) (hsmall : Builtin.Range.small a₀ b₀ c = true) (hn : Builtin.Range.rangeSize a₀ b₀ c = (n : Int)) (F : Fr h₀ env.locals s.heap m₀) (N : News h₀ env.locals s.heap news) (hj : J 0 m₀ news)
    (turn : ∀ (i : Nat) t m₁ nx h tk own, i < n → OwnOff own (news.map (·.1)) → J i m₁ nx → Fr h₀ env.locals h (fun y => if y = x then some (.int (a₀ + i * c) t) else m₁ y) → News h₀ env.locals h (nx ++ own) →
      wpAny (model prog w) A (execs body env) (InvPostN h₀ env.locals (J (i + 1)) own (news.map (·.1)) { s with heap := h, toks := tk } Q) E { s with heap := h, toks := tk })
    (done : ∀ m₁ nx h tk, J n m₁ nx → Fr h₀ env.locals h m₁ → News h₀ env.locals h nx → Q .next { s with heap := h, toks := tk }) :
    wpAny (model prog w) A (pyIter (.ref r)) (fun it s₂ => LoopAtV prog w A h₀ env x body Q E it s₂) E s := by
  refine wpAny_pyIter_range hr hsmall ?_
  have W := (Walks.range (prog := prog) (w := w) hh s.heap.objs.size a₀ c n)
  refine loop_invN J W ?_ ?_ ?_ ?_ (by show IsRangeIter _ _ _ _ _; rw [hn]; simpa using Heap.get?_push_size _ rfl) (F.push _) (fun p hp => ⟨Heap.get?_push_of_some _ (N p hp).1, (N p hp).2⟩) hj ?_ ?_
  · intro hm
    exact absurd F.ns.lt ((List.mem_singleton.mp hm) ▸ Nat.lt_irrefl _)
  · intro b hb
    rw [List.mem_singleton.mp hb]
    exact next_is_new F
  · intro p hp hI
    exact absurd (Heap.lt_size (N p hp).1) ((List.mem_singleton.mp hI) ▸ Nat.lt_irrefl _)
  · intro p hp hI
    exact absurd (Heap.lt_size (N p hp).1) ((List.mem_singleton.mp hI) ▸ Nat.lt_irrefl _)
  · rintro i v m₁ nx h tk own hi ⟨t, rfl⟩ _ ho hJ F' N'
    exact turn i t m₁ nx h tk own hi ho hJ F' N'
  · intro m₁ nx h tk hJ F₁ N₁
    exact done m₁ nx h tk hJ F₁ N₁
theorem range_ba {r D : Addr} {a₀ b₀ c : Int} {t₀ u₀ v₀ : Tok} {n : Nat} {m₀ : Str → Option Value} {news : List (Addr × Obj)} (stored : List Str) (acc : Nat → Array UInt8)
    (hh : A.handled = none) (hr : IsRange s.heap r a₀ b₀ c t₀ u₀ v₀) (hsmall : Builtin.Range.small a₀ b₀ c = true) (hn : Builtin.Range.rangeSize a₀ b₀ c = (n : Int)) (F : Fr h₀ env.locals s.heap m₀) (N : News h₀ env.locals s.heap ((D, baObj (acc 0)) :: news)) (hx : stored.contains x = true)
    (off : ∀ p ∈ news, p.1 ≠ D)
    (turn : ∀ (i : Nat) t (u : Str → Option Value) h tk rest, i < n → (∀ p ∈ rest, p.1 ≠ D) → Fr h₀ env.locals h (fun y => if y = x then some (.int (a₀ + i * c) t) else if stored.contains y then u y else m₀ y) → News h₀ env.locals h ((D, baObj (acc i)) :: rest) →
      wpAny (model prog w) A (execs body env) (fun f s' => Stop (f = .next ∧ ∃ h' tk' m', s' = { s with heap := h', toks := tk' } ∧ Fr h₀ env.locals h' m' ∧ News h₀ env.locals h' ((D, baObj (acc (i + 1))) :: rest) ∧ ∀ y, stored.contains y = false → m' y = m₀ y)) E { s with heap := h, toks := tk })
    (done : ∀ (u : Str → Option Value) h tk, Fr h₀ env.locals h (fun y => if stored.contains y then u y else m₀ y) → News h₀ env.locals h ((D, baObj (acc n)) :: news) → Q .next { s with heap := h, toks := tk }) :
    wpAny (model prog w) A (pyIter (.ref r)) (fun it s₂ => LoopAtV prog w A h₀ env x body Q E it s₂) E s := by
  have norm : ∀ m : Str → Option Value, (∀ y, stored.contains y = false → m y = m₀ y) → m = fun y => if stored.contains y then m y else m₀ y := fun m hm => by
    funext y
    cases hy : stored.contains y with
    | true => rw [if_pos rfl]
    | false => rw [if_neg (by decide), hm y hy]
  refine range_invN (fun i m nx => nx = (D, baObj (acc i)) :: news ∧ ∀ y, stored.contains y = false → m y = m₀ y) hh hr hsmall hn F N ⟨rfl, fun _ _ => rfl⟩ ?_ ?_
  · rintro i t m₁ nx h tk own hi ho ⟨rfl, hm⟩ F₁ N₁
    rw [norm m₁ hm] at F₁
    have hoff : ∀ p ∈ news ++ own, p.1 ≠ D := fun p hp => by
      rcases List.mem_append.mp hp with h1 | h1
      · exact off p h1
      · exact ho p h1 D (List.mem_cons_self ..)
    refine wpAny_mono (turn i t m₁ h tk (news ++ own) hi hoff F₁ N₁) (fun f s' q => ?_) fun _ _ e => e
    obtain ⟨rfl, h', tk', m', rfl, F', N', hm'⟩ := q
    refine ⟨h', tk', m', _, (D, baObj (acc (i + 1))) :: news, rfl, F', N', fun p hp => ?_, fun p hp => List.mem_cons_of_mem _ (List.mem_append_right _ hp), rfl, rfl, hm'⟩
    rcases List.mem_cons.mp hp with rfl | hp
    · exact List.mem_cons_self ..
    · exact List.mem_cons_of_mem _ (List.mem_append_left _ hp)
  · rintro m₁ nx h tk ⟨rfl, hm⟩ F₁ N₁
    rw [norm m₁ hm] at F₁
    exact done m₁ h tk F₁ N₁
theorem ba_setN {m : Str → Option Value} {L D : Addr} {b : Array UInt8} {k v : Int} {t u : Tok} {rest : List (Addr × Obj)} {Q : Unit → Shared → Prop} (F : Fr h₀ L s.heap m) (N : News h₀ L s.heap ((D, baObj b) :: rest)) (off : ∀ p ∈ rest, p.1 ≠ D)
    (h0 : 0 ≤ k) (h1 : k < b.size) (hb : b.size ≤ 10000) (hv0 : 0 ≤ v) (hv : v < 256)
    (hQ : ∀ h', Fr h₀ L h' m → News h₀ L h' ((D, baObj (b.setIfInBounds k.toNat v.toNat.toUInt8)) :: rest) → Q () { s with heap := h' }) : wpAny (model prog w) A (setItem (.ref D) (.int k t) (.int v u)) Q E s := by
  have hD := N _ (List.mem_cons_self ..)
  refine ba_set hD.1 h0 h1 hb hv0 hv fun h' e hs => hQ h' (F.change hs hD.2.1 hD.2.2) fun p hp => ?_
  rcases List.mem_cons.mp hp with rfl | hp
  · exact ⟨e, hD.2⟩
  · have z := N p (List.mem_cons_of_mem _ hp)
    exact ⟨hs.extBut _ _ (off p hp) z.1, z.2⟩
theorem baN_call {m : Str → Option Value} {L : Addr} {n : Nat} {t : Tok} {news : List (Addr × Obj)} {Q : Value → Shared → Prop} (hn : n ≤ 100000) (F : Fr h₀ L s.heap m) (N : News h₀ L s.heap news)
    (h : ∀ D h', (∀ p ∈ news, p.1 < D) → Fr h₀ L h' m → News h₀ L h' ((D, baObj (Array.replicate n 0)) :: news) → Q (.ref D) { s with heap := h' }) : wpR (model prog w) A (call (.type "bytearray") [.int n t]) Q s := by
  refine ba_call hn fun h' e k => h _ h' (fun p hp => Heap.lt_size (N p hp).1) ⟨F.ns.at' fun o e => k _ o e, fun b o e => k b o (F.keep b o e), F.above⟩ fun p hp => ?_
  rcases List.mem_cons.mp hp with rfl | hp
  · refine ⟨e, Nat.ne_of_gt F.ns.lt, ?_⟩
    exact next_is_new F
  · exact ⟨k _ _ (N p hp).1, (N p hp).2⟩
end
end Mine
end

section
open PySem PySem.W PyProof.Rows PySem.Calls
set_option maxRecDepth 100000
namespace Mine
section
variable {prog : Program} {w : World} {A A₀ : Around} {s : Shared} {K : Frag} {L : Addr} {h₀ base : Heap} {m mg mb : Str → Option Value} {news : List (Addr × Obj)} {p : Program} {loose : List Str} {mean : ExcName → Option Value}
theorem codeR_K {env : Env} {outer : List Env} {R : Result → Shared → Prop} {name qual : Str} {params : Arguments} {body : List Stmt} {scope : Scope} {dV kV doc pm cdv ct oc : Value} {an od : Option Addr} {osl : Array (Option Value)} {f : Addr} {args : Args} {binds : List (Str × Value)}
    (B : Below A₀ base outer h₀) (F : Fr h₀ L s.heap m) (X₀ : K.In h₀) (N : News h₀ L s.heap news) (T : Top p loose mean mg mb h₀) (hA : A.frames = some (env :: outer)) (hf : env.frame = some L) (hke : env.scope.kind = .function)
    (ho : K.lookup f = some ⟨oc, od, .func (fnOf name qual params body scope dV kV doc pm an cdv ct), osl⟩) (hcd : codeIn K cdv qual = true) (hroom : A.depth < recursionLimit)
    (hbind : BindsTo s (fnOf name qual params body scope dV kV doc pm an cdv ct) args binds) (hloc : ∀ y ∈ binds, scope.names.lookup y.1 = some .local)
    (h : ∀ g L' h₁, Fr h₀ L g m → Fr g L' h₁ (fun y => binds.reverse.lookup y) → News g L' h₁ news → Below A base (env :: outer) g → K.In g → Top p loose mean mg mb g → (∀ p ∈ news, p.1 < L') →
      wpR (model prog w) (A.deeper (envOf qual scope L' f cdv)) (execs body (envOf qual scope L' f cdv))
        (fun fl s' => LeaveK h₀ L m g R (match fl with | .ret v => v | _ => .none) s')
        { s with heap := h₁, toks := s.toks + binds.length })
    (hco : scope.isCoroutine = false) (hgen : scope.isGenerator = false) (hk : scope.kind = .function)
    (hcell : ∀ x ∈ scope.names, x.2 ≠ .cell) : codeR (model prog w) A (.call (.ref f) args) R s := by
  obtain ⟨FG, BG, st, lv⟩ := groundX (R := R) B F N hA hf hke
  have X := X₀.keeps F.keep
  refine codeR_def (fd := fnOf name qual params body scope dV kV doc pm an cdv ct) (body := body) (binds := binds) hroom (X _ _ ho) rfl (T.nolimit.keeps F.keep) (codeRec_of X hcd) rfl hbind hcell hloc (fun h₁ hns hk₁ => ?_) hco hgen hk
  exact wpR_mono (h _ s.heap.objs.size h₁ FG ⟨hns, fun b o e => hk₁ b o (of_hideAll _ e), Nat.le_of_eq (hideAll_size _ _)⟩
    (fun p hp => ⟨hk₁ _ _ (N p hp).1, Nat.ne_of_lt (Heap.lt_size (N p hp).1), hideAll_none _ (List.mem_map_of_mem hp)⟩) BG (X₀.keeps st) (T.keeps st) (fun p hp => Heap.lt_size (N p hp).1)) (fun fl s' hl => lv _ _ hl)
end
/-- as Claim, in the restricted logic -/
def ClaimR (prog : Program) (w : World) (f : Addr) (D U : Nat) (vs : List Value) (news : List (Addr × Obj)) (Rel : Value → List (Addr × Obj) → Prop) : Prop :=
  ∀ (p : Program) (loose : List Str) (mean : ExcName → Option Value) (mg mb : Str → Option Value) (dp un : Nat) (gd : Option (List Code)) (cn : Str) (cs : Scope) (a : Addr) (ccd : Value) (cl : List (Str × Addr)) (outer : List Env) (A₀ : Around) (base h₀ : Heap) (L : Addr) (m : Str → Option Value) (s : Shared) (Q : Value → Shared → Prop),
    Below A₀ base outer h₀ → Fr h₀ L s.heap m → (hd.heap_39 w.params).In h₀ → News h₀ L s.heap news → Top p loose mean mg mb h₀ → cs.kind = .function →
    dp + D < recursionLimit → un + U < cLine →
    (∀ r adds h' tk', Fr h₀ L h' m → News h₀ L h' (adds ++ news) → (∀ q ∈ news, ∀ p ∈ adds, q.1 < p.1) → Rel r adds → Q r { s with heap := h', toks := tk' }) →
      wpR (model prog w) (ktrTop dp un gd cn cs L a ccd cl outer) (call (.ref f) vs) Q s
theorem ClaimR.use {prog : Program} {w : World} {f : Addr} {D U : Nat} {vs : List Value} {news : List (Addr × Obj)} {Rel : Value → List (Addr × Obj) → Prop}
    {p : Program} {loose : List Str} {mean : ExcName → Option Value} {mg mb : Str → Option Value} {dp un : Nat} {gd : Option (List Code)} {cn : Str} {cs : Scope} {a : Addr} {ccd : Value} {cl : List (Str × Addr)} {outer : List Env} {A₀ : Around} {base h₀ : Heap} {L : Addr} {m : Str → Option Value} {s : Shared} {Q : Value → Shared → Prop}
    (C : ClaimR prog w f D U vs news Rel)
    (B : Below A₀ base outer h₀) (F : Fr h₀ L s.heap m) (X : (hd.heap_39 w.params).In h₀) (N : News h₀ L s.heap news) (T : Top p loose mean mg mb h₀) (hk : cs.kind = .function)
    (hd : dp + D < recursionLimit) (hu : un + U < cLine)
    (ret : ∀ r adds h' tk', Fr h₀ L h' m → News h₀ L h' (adds ++ news) → (∀ q ∈ news, ∀ p ∈ adds, q.1 < p.1) → Rel r adds → Q r { s with heap := h', toks := tk' }) :
      wpR (model prog w) (ktrTop dp un gd cn cs L a ccd cl outer) (call (.ref f) vs) Q s :=
  C p loose mean mg mb dp un gd cn cs a ccd cl outer A₀ base h₀ L m s Q B F X N T hk hd hu ret
end Mine
end

section
open PySem PySem.W PyProof.Rows PySem.Calls
set_option maxRecDepth 100000
namespace Mine
section
variable {prog : Program} {w : World} {A : Around} {s : Shared} {env : Env}
theorem callR_type {pos : Pos} {T : String} {x : Sem Value} {rest : List (Bool × Sem Value)} {Q : Value → Shared → Prop}
    (h : wpAny (model prog w) A (spliced ((false, x) :: rest)) (fun vs s₁ => wpR (model prog w) A (call (.type T) vs) Q s₁) (fun _ _ => False) s) (hst : rest.any (·.1) = false) :
    wpR (model prog w) A (callWith pos (.type T) [] ((false, x) :: rest) []) Q s := by
  unfold callWith
  refine wpR_bind (wpR_holding (evalArgsR (wpR_mono (wpR_of h) fun vs s₁ h₁ => wpR_bind (wpR_standAt ?_))))
  have hs : List.any ((false, x) :: rest) (fun x => x.1) = false := by rw [List.any_cons, hst]; rfl
  simp only [hs, List.any_nil, Bool.or_false]
  refine wpR_bind (wpR_pure ?_)
  exact wpR_bind (wpR_mono h₁ fun r s₂ hr => wpR_bind (wpR_holding (wpR_point (wpR_pure hr))))
theorem callR_type1 {pos : Pos} {T : String} {e : Expr} {rest : List Expr} {Q : Value → Shared → Prop}
    (h : wpAny (model prog w) A (spliced (backTo pos (starEach (e :: rest) env))) (fun vs s₁ => wpR (model prog w) A (call (.type T) vs) Q s₁) (fun _ _ => False) s)
    (he : starEach (e :: rest) env = (false, eval e env) :: starEach rest env := by rfl)
    (hplain : (backTo pos (starEach rest env)).any (·.1) = false := by rfl) :
    wpR (model prog w) A (callWith pos (.type T) [] (backTo pos (starEach (e :: rest) env)) []) Q s := by
  rw [he] at h ⊢
  exact callR_type h hplain
theorem callR_fnX {pos : Pos} {f : Addr} {x : Sem Value} {rest : List (Bool × Sem Value)} {Q : Value → Shared → Prop}
    (h : wpR (model prog w) A (spliced ((false, x) :: rest)) (fun vs s₁ => Stop ((∃ o fd, s₁.heap.get? f = some o ∧ o.data = .func fd) ∧ wpR (model prog w) A (call (.ref f) vs) Q s₁)) s) (hst : rest.any (·.1) = false) :
    wpR (model prog w) A (callWith pos (.ref f) [] ((false, x) :: rest) []) Q s := by
  unfold callWith
  refine wpR_bind (wpR_holding (evalArgsR (wpR_mono h fun vs s₁ h₁ => wpR_bind (wpR_standAt ?_))))
  have tail : ∀ {t : Sem Value}, wpR (model prog w) A t Q s₁ → wpR (model prog w) A (t >>= fun r => holding [r] point >>= fun _ => pure r) Q s₁ :=
    fun ht => wpR_bind (wpR_mono ht fun r s₂ hr => wpR_bind (wpR_holding (wpR_point (wpR_pure hr))))
  have hs : List.any ((false, x) :: rest) (fun x => x.1) = false := by rw [List.any_cons, hst]; rfl
  obtain ⟨⟨o, fd, ho, hdat⟩, h₂⟩ := h₁
  simp only [hs, List.any_nil, Bool.or_false]
  refine wpR_bind (m := keeperOf (.ref f)) ?_
  unfold keeperOf
  refine wpR_bind (wpR_of (wpAny_load ho ?_))
  rw [hdat]
  refine wpR_pure ?_
  dsimp only
  split
  · exact tail h₂
  · exact tail (by unfold callMarked; exact wpR_keep h₂)
theorem isFn {K : Frag} {h₀ h : Heap} {L : Addr} {m : Str → Option Value} {f : Addr} {o : Obj} {fd : FuncData} (X : K.In h₀) (F : Fr h₀ L h m) (ho : K.lookup f = some o) (hd : o.data = .func fd) : ∃ o fd, h.get? f = some o ∧ o.data = .func fd :=
  ⟨o, fd, F.keep _ _ (X _ _ ho), hd⟩
theorem callR_fn1 {pos : Pos} {f : Addr} {e : Expr} {rest : List Expr} {Q : Value → Shared → Prop}
    (h : wpAny (model prog w) A (spliced (backTo pos (starEach (e :: rest) env))) (fun vs s₁ => Stop ((∃ o fd, s₁.heap.get? f = some o ∧ o.data = .func fd) ∧ wpR (model prog w) A (call (.ref f) vs) Q s₁)) (fun _ _ => False) s)
    (he : starEach (e :: rest) env = (false, eval e env) :: starEach rest env := by rfl)
    (hplain : (backTo pos (starEach rest env)).any (·.1) = false := by rfl) :
    wpR (model prog w) A (callWith pos (.ref f) [] (backTo pos (starEach (e :: rest) env)) []) Q s := by
  rw [he] at h ⊢
  exact callR_fnX (wpR_of h) hplain
theorem splicedRest {e : Expr} {rest : List Expr} {Q : List Value → Shared → Prop} {pos : Pos}
    (h : wpR (model prog w) A (eval e env) (fun v s₁ => wpAny (model prog w) A (spliced (backTo pos (starEach rest env))) (fun vs s₂ => Q (v :: vs) s₂) (fun _ _ => False) s₁) s)
    (he : backTo pos (starEach (e :: rest) env) = (false, eval e env) :: backTo pos (starEach rest env) := by rfl) :
    wpR (model prog w) A (spliced (backTo pos (starEach (e :: rest) env))) Q s := by
  rw [he]
  exact splicedR_cons (wpR_mono h fun v s₁ h₁ => wpR_of h₁)
theorem callR_fnR {pos : Pos} {f : Addr} {e : Expr} {rest : List Expr} {Q : Value → Shared → Prop}
    (h : wpR (model prog w) A (spliced (backTo pos (starEach (e :: rest) env))) (fun vs s₁ => Stop ((∃ o fd, s₁.heap.get? f = some o ∧ o.data = .func fd) ∧ wpR (model prog w) A (call (.ref f) vs) Q s₁)) s)
    (he : starEach (e :: rest) env = (false, eval e env) :: starEach rest env := by rfl)
    (hplain : (backTo pos (starEach rest env)).any (·.1) = false := by rfl) :
    wpR (model prog w) A (callWith pos (.ref f) [] (backTo pos (starEach (e :: rest) env)) []) Q s := by
  rw [he] at h ⊢
  exact callR_fnX h hplain
end
end Mine
end

section
open PySem PySem.W PyProof.Rows PySem.Calls
set_option maxRecDepth 100000
namespace Mine
theorem rangeSize_step {n W : Nat} (h : 1 ≤ W) : Builtin.Range.rangeSize 0 ((n * W : Nat) : Int) (W : Int) = (n : Int) := by
  unfold Builtin.Range.rangeSize
  rw [if_pos (by omega)]
  cases n with
  | zero => simp
  | succ n =>
    have h2 : (0 : Int) < (((n + 1) * W : Nat) : Int) := Int.ofNat_lt.mpr (Nat.mul_pos (Nat.succ_pos n) h)
    rw [if_pos h2]
    have e : (((n + 1) * W : Nat) : Int) - 0 - 1 = (W : Int) * n + ((W : Int) - 1) := by
      rw [Nat.succ_mul, Int.natCast_add, Int.natCast_mul, Int.mul_comm]; omega
    rw [e, Int.add_comm ((W : Int) * n), Int.add_mul_ediv_left _ _ (by omega), Int.ediv_eq_zero_of_lt (by omega) (by omega)]
    omega
theorem small_step {n W : Nat} (h : 1 ≤ W) (hn : n * W ≤ 100000) (hW : W ≤ 100000) : Builtin.Range.small 0 ((n * W : Nat) : Int) (W : Int) = true := by
  unfold Builtin.Range.small
  rw [rangeSize_step h]
  have hm : n ≤ n * W := Nat.le_mul_of_pos_right n h
  simp only [Builtin.Range.rangeFitsLong, Bool.and_eq_true, Bool.or_eq_true, decide_eq_true_eq, beq_iff_eq]
  have hc : ((n * W : Nat) : Int) ≤ 100000 := Int.ofNat_le.mpr hn
  have hm' : (n : Int) ≤ ((n * W : Nat) : Int) := Int.ofNat_le.mpr hm
  have h0' : (0 : Int) ≤ ((n * W : Nat) : Int) := Int.natCast_nonneg _
  generalize ((n * W : Nat) : Int) = X at hc hm' h0' ⊢
  refine ⟨by omega, Or.inr ?_⟩
  rw [if_pos (by omega), Bool.and_eq_true, decide_eq_true_eq, decide_eq_true_eq]
  omega
section
variable {prog : Program} {w : World} {A : Around} {E : Value → Shared → Prop} {s : Shared}
theorem item_A {value slice : Expr} {b : Array UInt8} {i : Int} {t ui : Tok} {k : Nat} {Q : Value → Shared → Prop} (hz : b.size ≤ 10000) (h0 : i = (k : Int)) (h1 : k < b.size) (h : ∀ t' tk, Q (.int (b.getD k 0).toNat t') { s with toks := tk })
    (hs : subscripted slice false (.bytes b t) (.int i ui) = operate [.bytes b t, .int i ui] (getItem (.bytes b t) (.int i ui)) := by with_unfolding_all rfl)
    (ht : ∀ r, letTemporaryGo value (.bytes b t) r = pure () := by intro _; with_unfolding_all rfl) : wpAny (model prog w) A (subscriptTail value slice (.bytes b t) (.int i ui)) Q E s := by
  subst h0
  have e : b.toList.toArray = b := Array.toArray_toList
  have g : wpAny (model prog w) A (getItem (.bytes b.toList.toArray t) (.int (k : Int) ui)) Q E s := by
    refine getItem_bytes (l := b.toList) (by simp; omega) (by omega) (by simpa using by omega) ?_
    have e2 : (b.toList.getD (k : Int).toNat 0) = b.getD k 0 := by simp [List.getD, Array.getD, h1]
    rw [e2]
    exact h _ _
  rw [e] at g
  exact tail_of_ItemOn ⟨"bytes", _, FB.slot_bytes_getitem.lookup, typeIs_bytes _ _ _, g⟩ hs ht
theorem item_B {value slice : Expr} {b : Array UInt8} {i : Int} {t ui : Tok} {Q : Value → Shared → Prop} (hz : b.size ≤ 10000) (h0 : 0 ≤ i) (h1 : i < (b.size : Int)) (h : ∀ t' tk, Q (.int (b.getD i.toNat 0).toNat t') { s with toks := tk })
    (hs : subscripted slice false (.bytes b t) (.int i ui) = operate [.bytes b t, .int i ui] (getItem (.bytes b t) (.int i ui)) := by with_unfolding_all rfl)
    (ht : ∀ r, letTemporaryGo value (.bytes b t) r = pure () := by intro _; with_unfolding_all rfl) : wpAny (model prog w) A (subscriptTail value slice (.bytes b t) (.int i ui)) Q E s :=
  item_A hz (Int.toNat_of_nonneg h0).symm (by omega) h hs ht
end
end Mine
end

section
open PySem PySem.W PyProof.Rows PySem.Calls
set_option maxRecDepth 100000
namespace Mine
section
variable {prog : Program} {w : World} {A : Around} {E : Value → Shared → Prop} {h₀ : Heap} {L : Addr} {m : Str → Option Value} {env : Env} {elt iter : Expr} {x : Str} {scope : Scope} {cl : List (Str × Addr)} {s : Shared} {S : List (Addr × Obj) → Prop} {P : Nat → Value → Prop} {Fin : List Value → List (Addr × Obj) → Prop} {news : List (Addr × Obj)}
/-- each turn gives one item and leaves the ledger -/
def Turns (prog : Program) (w : World) (A : Around) (h₀ : Heap) (L : Addr) (m : Str → Option Value) (env : Env) (elt : Expr) (x : Str) (scope : Scope) (cl : List (Str × Addr)) (s : Shared) (S : List (Addr × Obj) → Prop) (n : Nat) (P R : Nat → Value → Prop) (news : List (Addr × Obj)) : Prop :=
  ∀ i v I oI C oC D m₂ ys h tk (E' : Value → Shared → Prop), i < n → P i v → LCg.NsObj oC m₂ → m₂ x = some v → Fr h₀ L h m → News h₀ L h ((I, oI) :: (C, oC) :: (D, LCg.lst ys) :: news) → LCg.Off3 I C D news → ((@Ne Nat I C) ∧ (@Ne Nat I D) ∧ (@Ne Nat C D)) →
      wpAny (model prog w) A (eval elt (compEnvC scope cl C env)) (fun y s' => Stop (LCg.CompEnd h₀ L m { s with heap := h, toks := tk } I oI C oC D (LCg.lst ys) S (fun y news' => news' = news ∧ R i y) y s')) E' { s with heap := h, toks := tk }
theorem rest_walk {n : Nat} {R : Nat → Value → Prop} (turn : Turns prog w A h₀ L m env elt x scope cl s S n P R news)
    (fin : ∀ ys : List Value, ys.length = n → (∀ i y, ys[i]? = some y → R i y) → Fin ys news) : LCg.CompRest prog w A h₀ L m env elt x scope cl s S P Fin n 0 [] news := by
  have key : ∀ (j i : Nat) (ys : List Value), i + j = n → ys.length = i → (∀ i y, ys[i]? = some y → R i y) → LCg.CompRest prog w A h₀ L m env elt x scope cl s S P Fin j i ys news := by
    intro j
    induction j with
    | zero =>
      intro i ys hi hl hy
      exact LCg.CompRest.zero (fin ys (by omega) hy)
    | succ j ih =>
      intro i ys hi hl hy
      refine LCg.CompRest.succ ?_
      intro v I oI C oC D m₂ h tk E' hv hC hx F N off ne
      refine wpAny_mono (turn i v I oI C oC D m₂ ys h tk E' (by omega) hv hC hx F N off ne) (fun y s₂ hq => ?_) fun _ _ e => e
      obtain ⟨h', tk', nw, e, F', N', off', hS, hn, hR⟩ := hq
      subst hn
      refine ⟨h', tk', nw, e, F', N', off', hS, ?_⟩
      refine ih (i + 1) _ (by omega) (by simp [hl]) fun k z hz => ?_
      by_cases hk : k < ys.length
      · exact hy k z (by rwa [List.getElem?_append_left hk] at hz)
      · rw [List.getElem?_append_right (by omega)] at hz
        have h0 : k - ys.length = 0 := by
          cases hh : k - ys.length with
          | zero => rfl
          | succ q => rw [hh] at hz; simp at hz
        rw [h0] at hz
        simp at hz
        have hki : k = i := by omega
        rw [hki, ← hz]; exact hR
  exact key n 0 [] (by omega) rfl (fun i y h => by simp at h)
def SrcKind (xv : Value) (n : Nat) (P : Nat → Value → Prop) : Prop :=
  (∃ x t, xv = .str x t ∧ x.cps.all (· < 128) = true ∧ n = x.cps.size ∧ P = SignAt x) ∨ (∃ b t, xv = .bytes b t ∧ n = b.size ∧ P = fun i v => ∃ c u, b[i]? = some c ∧ v = .int (c.toNat : Int) u)
theorem SrcKind.str {x : Str} {t : Tok} (h : x.cps.all (· < 128) = true) : SrcKind (.str x t) x.cps.size (SignAt x) := .inl ⟨x, t, rfl, h, rfl, rfl⟩
theorem SrcKind.bytes {b : Array UInt8} {t : Tok} : SrcKind (.bytes b t) b.size (fun i v => ∃ c u, b[i]? = some c ∧ v = .int (c.toNat : Int) u) := .inr ⟨b, t, rfl, rfl, rfl⟩
theorem iter_walk {xv : Value} {n : Nat} {P : Nat → Value → Prop} {Q : Value → Shared → Prop} (hh : A.handled = none) (K : SrcKind xv n P)
    (h : ∀ (I : Addr) (h' : Heap) (St : Nat → Heap → Prop), I = s.heap.objs.size → (∃ o, h' = s.heap.push o) → Walks prog w A I [I] [I] n P St → (∀ i h, St i h → ∃ o, h.get? I = some o) → (∀ i (h h' : Heap) o, St i h → h.get? I = some o → h'.get? I = some o → St i h') → St 0 h' → Q (.ref I) { s with heap := h' }) :
    wpAny (model prog w) A (pyIter xv) Q E s := by
  rcases K with ⟨x, t, rfl, ha, rfl, rfl⟩ | ⟨b, t, rfl, rfl, rfl⟩
  · refine wpAny_pyIter_ascii ha (h _ _ _ rfl ⟨_, rfl⟩ (Walks.strAscii hh _ x t) (fun i h st => ?_) (fun i h h' o st e e' => ?_) ⟨_, Heap.get?_push_size _ rfl, rfl, rfl⟩)
    · obtain ⟨o, e, _⟩ := st; exact ⟨o, e⟩
    · obtain ⟨o', q, r⟩ := st; rw [e] at q; cases q; exact ⟨o, e', r⟩
  · refine KBw.pyIter_bytes (h _ _ _ rfl ⟨_, rfl⟩ (KBw.walks hh _ b t) (fun i h st => ?_) (fun i h h' o st e e' => ?_) ⟨_, Heap.get?_push_size _ rfl, rfl, rfl⟩)
    · obtain ⟨o, e, _⟩ := st; exact ⟨o, e⟩
    · obtain ⟨o', q, r⟩ := st; rw [e] at q; cases q; exact ⟨o, e', r⟩
def SrcX (prog : Program) (w : World) (A : Around) (h₀ : Heap) (L : Addr) (m : Str → Option Value) (env : Env) (elt : Expr) (x : Str) (scope : Scope) (cl : List (Str × Addr)) (Q : Value → Shared → Prop) (xv : Value) (s₁ : Shared) : Prop :=
  ∃ (news : List (Addr × Obj)) (n : Nat) (P R : Nat → Value → Prop), SrcKind xv n P ∧ n ≤ sizeLine ∧ A.handled = none ∧ Fr h₀ L s₁.heap m ∧ News h₀ L s₁.heap news ∧
    (∀ g, Turns prog w A h₀ L m env elt x scope cl { s₁ with heap := g } (fun _ => True) n P R news) ∧
    (∀ (ys : List Value) D h tk, ys.length = n → (∀ i y, ys[i]? = some y → R i y) → Fr h₀ L h m → News h₀ L h ((D, LCg.lst ys) :: news) → LCg.Off1 D news → Q (.ref D) { s₁ with heap := h, toks := tk })
theorem SrcX.mk {Q : Value → Shared → Prop} {xv : Value} {s₁ : Shared} {n : Nat} (P R : Nat → Value → Prop) (K : SrcKind xv n P) (hn : n ≤ sizeLine) (hh : A.handled = none) (F : Fr h₀ L s₁.heap m) (N : News h₀ L s₁.heap news)
   (t : ∀ g, Turns prog w A h₀ L m env elt x scope cl { s₁ with heap := g } (fun _ => True) n P R news)
   (f : ∀ (ys : List Value) D h tk, ys.length = n → (∀ i y, ys[i]? = some y → R i y) → Fr h₀ L h m → News h₀ L h ((D, LCg.lst ys) :: news) → LCg.Off1 D news → Q (.ref D) { s₁ with heap := h, toks := tk }) :
   SrcX prog w A h₀ L m env elt x scope cl Q xv s₁ := ⟨news, n, P, R, K, hn, hh, F, N, t, f⟩
theorem ListComp_X {px : Pos} {pos : Pos} {Q : Value → Shared → Prop} (F₀ : Fr h₀ L s.heap m)
    (hclos : closureFor scope env = pure cl) (hcell : ∀ y ∈ scope.names, y.2 ≠ .cell) (hkind : scope.kind = .function)
    (hnames : ∀ y ∈ scope.names, y.2 = .local → scope.names.lookup y.1 = some .local) (hx : scope.names.lookup x = some .local)
    (h : wpAny (model prog w) A (eval iter env) (fun xv s₁ => Stop (SrcX prog w A h₀ L m env elt x scope cl Q xv s₁)) E s)
    (hs : ∀ x, foldedSetIterable iter env x = pure x := by intro _; rfl) :
    wpAny (model prog w) A (eval (.ListComp elt [⟨.Name x px, iter, [], 0⟩] scope pos) env) Q E s := by
  rw [eval_ListComp]
  refine wpAny_comprehension_free (use := none) rfl hs hclos hkind hnames (wpAny_mono h (fun xv s₁ h₁ => ?_) fun _ _ e => e)
  obtain ⟨news, n, P, R, K, hn, hh, F, N, ht, hf⟩ := h₁
  refine iter_walk hh K ?_
  rintro I _ St rfl ⟨oo, rfl⟩ W hIo hSt h0
  refine LCg.block_U (S := fun _ => True) (Fin := LCg.FinE h₀ L m { s₁ with heap := s₁.heap.push oo } Q) W hn hIo (fun i h h' o nw st e e' _ _ _ => hSt i h h' o st e e') hcell hkind hx h0 (fun b hb => ?_)
    (F.push _) (fun p hp => ⟨Heap.get?_push_of_some _ (N p hp).1, (N p hp).2⟩) (Nat.ne_of_lt F.ns.lt) (next_is_new F) (fun p hp => Nat.ne_of_lt (Heap.lt_size (N p hp).1)) trivial (rest_walk (ht _) fun ys hl hR => ?_) ?_
  · rw [List.mem_singleton.mp hb]
    show s₁.heap.objs.size < (s₁.heap.push _).objs.size
    rw [Heap.size_push]; exact Nat.lt_succ_self _
  · intro D h tk F' N' o1
    exact hf ys D h tk hl hR F' N' o1
  · intro D C h tk m' ys news' F' N' o1 hn hC₀ hD₀ hCL hDL hCD offC fin
    refine ⟨m', hn, fun h'' hs'' => fin D h'' tk (F'.change hs'' hCL hC₀) (fun p hp => ?_) o1⟩
    refine ⟨hs''.extBut _ _ ?_ (N' p hp).1, (N' p hp).2⟩
    rcases List.mem_cons.mp hp with rfl | hp
    · exact Ne.symm hCD
    · exact offC p hp
end
end Mine
end

section
open PySem PySem.Sre
namespace Mine
def codeL : List Nat := [14, 8, 1, 2, 4294967295, 1, 1, 46, 0, 16, 46, 24, 9, 1, 4294967295, 13, 4, 8, 0, 0, 1, 6, 5, 1]
def codeA : Array Nat := codeL.toArray
def Go (m m' : M) (k : Nat) : Prop := ∀ j, M.runFor (k + j) m = M.runFor j m'
theorem Go.refl (m : M) : Go m m 0 := fun j => by rw [Nat.zero_add]
theorem Go.trans {a b c : M} {k l : Nat} (h : Go a b k) (g : Go b c l) : Go a c (k + l) := fun j => by
  rw [Nat.add_assoc, h, g]
theorem Go.one {m m' : M} (h : m.outcome = none) (e : m.step = m') : Go m m' 1 := fun j => by
  rw [Nat.add_comm]
  show (if m.outcome.isSome = true then m else M.runFor j m.step) = _
  rw [h, e]; rfl
abbrev St (T : Array Nat) (start pc pos handed : Nat) (ob : Bool) (frames : List Sre.Frame) (weight : Nat) (answer : Option Bool) (seen : Seen) : M :=
  { code := codeA, text := T, lim := T.size, start, lastStart := T.size, pc, pos, handed, outermost := ob, marks := #[], frames, weight, answer, seen }
abbrev k0 : Sre.Kept := { lastmark := -1, lastindex := -1, whole := false, marks := #[] }
abbrev fr (s : Nat) (b : Bool) : Sre.Frame := { wait := .nextStart, pc := 9, pos := s, outermost := b }
abbrev gb (p : Nat) (b : Bool) (n : Int) : Sre.Frame := { wait := .giveBack, pc := 11, pos := p, outermost := b, count := n, kept := k0 }
abbrev At (T : Array Nat) (s : Nat) (b : Bool) (seen : Seen) : M := St T s 9 s s b [fr s b] 1 none seen

theorem step_exec {m : M} (h1 : m.outcome = none) (h2 : m.answer = none) (h3 : m.pc < m.code.size) : m.step = m.exec := by
  unfold M.step
  rw [h1]
  show (match m.answer, m.frames with | some yes, [] => _ | some yes, f :: rest => _ | none, _ => _) = _
  rw [h2]
  show (if m.pc < m.code.size then _ else _) = _
  rw [if_pos h3]
theorem step_res {m : M} {f : Sre.Frame} {rest : List Sre.Frame} {yes : Bool} (h1 : m.outcome = none) (h2 : m.answer = some yes) (h3 : m.frames = f :: rest) :
    m.step = M.resume { m with answer := none, frames := rest, weight := m.weight - (1 + f.kept.marks.size), pc := f.pc, pos := f.pos, outermost := f.outermost } f yes := by
  unfold M.step
  rw [h1]
  show (match m.answer, m.frames with | some yes, [] => _ | some yes, f :: rest => _ | none, _ => _) = _
  rw [h2, h3]

theorem exec_lit_no {T : Array Nat} {s p hd : Nat} {b : Bool} {f : List Sre.Frame} {wt : Nat} {seen : Seen} (h : p ≥ T.size ∨ T.getD p 0 ≠ 46) :
    ∃ seen', (St T s 9 p hd b f wt none seen).step = St T s 9 p hd b f wt (some false) seen' := by
  refine ⟨seen.add 16, ?_⟩
  rw [step_exec rfl rfl (by first | (show 9 < 24; decide) | (show 11 < 24; decide) | (show 21 < 24; decide) | (show 23 < 24; decide))]
  unfold M.exec
  show (if p ≥ T.size then _ else _) = _
  by_cases h1 : p ≥ T.size
  · rw [if_pos h1]; rfl
  · rw [if_neg h1]
    have h2 : (T.getD p 0 == 46) = false := by simpa using h.resolve_left h1
    show (match (Except.ok (T.getD p 0 == 46, seen.add 16) : Except String (Bool × Seen)) with | .error why => _ | .ok (false, seen) => _ | .ok (true, seen) => _) = _
    rw [h2]; rfl
theorem exec_lit_yes {T : Array Nat} {s p hd : Nat} {b : Bool} {f : List Sre.Frame} {wt : Nat} {seen : Seen} (h : p < T.size) (h' : T.getD p 0 = 46) :
    ∃ seen', (St T s 9 p hd b f wt none seen).step = St T s 11 (p + 1) hd b f wt none seen' := by
  refine ⟨seen.add 16, ?_⟩
  rw [step_exec rfl rfl (by first | (show 9 < 24; decide) | (show 11 < 24; decide) | (show 21 < 24; decide) | (show 23 < 24; decide))]
  unfold M.exec
  show (if p ≥ T.size then _ else _) = _
  rw [if_neg (by omega)]
  have h2 : (T.getD p 0 == 46) = true := by simpa using h'
  show (match (Except.ok (T.getD p 0 == 46, seen.add 16) : Except String (Bool × Seen)) with | .error why => _ | .ok (false, seen) => _ | .ok (true, seen) => _) = _
  rw [h2]; rfl

theorem accepts_dig (c : Nat) (seen : Seen) : ∃ seen', accepts codeA 15 c seen = .ok (isDigit c, seen') := by
  have e : accepts codeA 15 c seen = inSet codeA c 24 17 true seen := rfl
  rw [e]
  have e2 : inSet codeA c 24 17 true seen = (do if ← category 0 c then pure (true, (seen.add 8).add (55 + 0)) else inSet codeA c 23 19 true ((seen.add 8).add (55 + 0)) : Except String (Bool × Seen)) := rfl
  rw [e2]
  have e3 : category 0 c = .ok (isDigit c) := by
    show (Except.ok (isDigit c) : Except String Bool).map (· != (0 % 2 == 1)) = _
    show Except.ok (isDigit c != false) = _
    cases isDigit c <;> rfl
  rw [e3]
  cases isDigit c
  · exact ⟨_, rfl⟩
  · exact ⟨_, rfl⟩

theorem run_dig (T : Array Nat) : ∀ (n p found : Nat) (seen : Seen), ∃ k seen', run codeA T 15 n p found seen = .ok (found + k, seen') ∧ k ≤ n ∧ (∀ i, i < k → isDigit (T.getD (p + i) 0) = true) ∧ (k < n → isDigit (T.getD (p + k) 0) = false)
  | 0, p, found, seen => ⟨0, seen, rfl, Nat.le_refl _, fun _ h => absurd h (Nat.not_lt_zero _), fun h => absurd h (Nat.not_lt_zero _)⟩
  | n + 1, p, found, seen => by
    obtain ⟨s1, e1⟩ := accepts_dig (T.getD p 0) seen
    have e : run codeA T 15 (n + 1) p found seen = (do let (yes, seen) ← accepts codeA 15 (T.getD p 0) seen; if yes then run codeA T 15 n (p + 1) (found + 1) seen else pure (found, seen)) := rfl
    rw [e, e1]
    cases hd : isDigit (T.getD p 0) with
    | false => exact ⟨0, s1, rfl, Nat.zero_le _, fun _ h => absurd h (Nat.not_lt_zero _), fun _ => hd⟩
    | true =>
      obtain ⟨k, s2, e2, h1, h2, h3⟩ := run_dig T n (p + 1) (found + 1) s1
      refine ⟨k + 1, s2, ?_, by omega, fun i hi => ?_, fun hk => ?_⟩
      · show run codeA T 15 n (p + 1) (found + 1) s1 = _
        rw [e2]; congr 2; omega
      · cases i with
        | zero => exact hd
        | succ i => have := h2 i (by omega); rwa [Nat.add_assoc, Nat.add_comm 1 i] at this
      · have := h3 (by omega); rwa [Nat.add_assoc, Nat.add_comm 1 k] at this

theorem exec_rep_no0 {T : Array Nat} {s p hd : Nat} {b : Bool} {f : List Sre.Frame} {wt : Nat} {seen : Seen} (h : p ≥ T.size) :
    ∃ seen', (St T s 11 p hd b f wt none seen).step = St T s 11 p hd b f wt (some false) seen' := by
  refine ⟨seen.add 24, ?_⟩
  rw [step_exec rfl rfl (by first | (show 9 < 24; decide) | (show 11 < 24; decide) | (show 21 < 24; decide) | (show 23 < 24; decide))]
  unfold M.exec
  show (if ((1 : Nat) : Int) > (T.size : Int) - p then _ else _) = _
  rw [if_pos (by omega)]
  rfl
theorem exec_rep {T : Array Nat} {s p hd : Nat} {b : Bool} {f : List Sre.Frame} {wt : Nat} {seen : Seen} (h : p < T.size) (hw : wt ≤ 5) (hs : T.size ≤ 16777216) :
    ∃ k seen', k ≤ T.size - p ∧ (∀ i, i < k → isDigit (T.getD (p + i) 0) = true) ∧ (p + k < T.size → isDigit (T.getD (p + k) 0) = false) ∧
      (St T s 11 p hd b f wt none seen).step = if k = 0 then St T s 11 p hd b f wt (some false) seen' else St T s 21 (p + k) (p + k) b (gb (p + k) b k :: f) (wt + 1) none seen' := by
  obtain ⟨k, s2, e2, h1, h2, h3⟩ := run_dig T (min 4294967295 ((T.size : Int) - p).toNat) p 0 ((seen.add 24).add 13)
  have hmin : min 4294967295 ((T.size : Int) - p).toNat = T.size - p := by omega
  rw [hmin] at h1 h3
  refine ⟨k, s2, h1, h2, fun hk => h3 (by omega), ?_⟩
  rw [step_exec rfl rfl (by first | (show 9 < 24; decide) | (show 11 < 24; decide) | (show 21 < 24; decide) | (show 23 < 24; decide))]
  unfold M.exec
  show (if ((1 : Nat) : Int) > (T.size : Int) - p then _ else _) = _
  rw [if_neg (by omega)]
  rw [Nat.zero_add] at e2
  show (match run codeA T 15 (min 4294967295 ((T.size : Int) - p).toNat) p 0 ((seen.add 24).add 13) with | .error why => _ | .ok (n, seen) => _) = _
  rw [e2]
  show (if k < 1 then _ else _) = _
  by_cases hk : k = 0
  · rw [if_pos (by omega), if_pos hk]; rfl
  · rw [if_neg (by omega), if_neg hk]
    show M.attempt _ _ _ _ _ = _
    unfold M.attempt
    show (if wt + 1 + 0 > 16777216 then _ else _) = _
    rw [if_neg (by omega)]
    rfl
def atEnd (T : Array Nat) (p : Nat) : Bool := p == T.size || (p + 1 == T.size && T.getD p 0 == 10)
theorem exec_at {T : Array Nat} {s p hd : Nat} {b : Bool} {f : List Sre.Frame} {wt : Nat} {seen : Seen} :
    ∃ seen', (St T s 21 p hd b f wt none seen).step = if atEnd T p then St T s 23 p hd b f wt none seen' else St T s 21 p hd b f wt (some false) seen' := by
  refine ⟨(seen.add 6).add 48, ?_⟩
  rw [step_exec rfl rfl (by first | (show 9 < 24; decide) | (show 11 < 24; decide) | (show 21 < 24; decide) | (show 23 < 24; decide))]
  unfold M.exec
  show (if atEnd T p = true then _ else _) = _
  cases atEnd T p <;> rfl
theorem exec_ok {T : Array Nat} {s p hd : Nat} {b : Bool} {f : List Sre.Frame} {wt : Nat} {seen : Seen} :
    ∃ seen', (St T s 23 p hd b f wt none seen).step = St T s 23 p p b f wt (some true) seen' := by
  refine ⟨seen.add 1, ?_⟩
  rw [step_exec rfl rfl (by first | (show 9 < 24; decide) | (show 11 < 24; decide) | (show 21 < 24; decide) | (show 23 < 24; decide))]
  unfold M.exec
  show (if (b && (false || false)) = true then _ else _) = _
  cases b <;> rfl
theorem res_gb_yes {T : Array Nat} {s pc p hd q : Nat} {b b' : Bool} {n : Int} {f : List Sre.Frame} {wt : Nat} {seen : Seen} :
    (St T s pc p hd b (gb q b' n :: f) (wt + 1) (some true) seen).step = St T s 11 q hd b' f wt (some true) seen := by
  rfl
theorem res_gb_no {T : Array Nat} {s pc p hd q : Nat} {b b' : Bool} {n : Int} {f : List Sre.Frame} {wt : Nat} {seen : Seen} (hw : wt ≤ 5) :
    (St T s pc p hd b (gb q b' n :: f) (wt + 1) (some false) seen).step = if n - 1 < 1 then St T s 11 q hd b' f wt (some false) seen else St T s 21 (q - 1) (q - 1) b' (gb (q - 1) b' (n - 1) :: f) (wt + 1) none seen := by
  rw [step_res rfl rfl rfl]
  unfold M.resume
  show (if (n - 1 < ((1 : Nat) : Int)) then _ else _) = _
  by_cases h : n - 1 < 1
  · rw [if_pos (by omega), if_pos h]; rfl
  · rw [if_neg (by omega), if_neg h]
    show M.attempt _ _ _ _ _ = _
    unfold M.attempt
    show (if wt + 1 + 0 > 16777216 then _ else _) = _
    rw [if_neg (by omega)]
    rfl
theorem res_fr_yes {T : Array Nat} {s pc p hd q : Nat} {b b' : Bool} {seen : Seen} :
    (St T s pc p hd b [fr q b'] 1 (some true) seen).step = St T s 9 q hd b' [] 0 (some true) seen := by
  rfl
theorem res_fr_no {T : Array Nat} {s pc p hd q : Nat} {b b' : Bool} {seen : Seen} :
    (St T s pc p hd b [fr q b'] 1 (some false) seen).step = if q < T.size then At T (q + 1) false seen else St T s 9 q hd b' [] 0 (some false) seen := by
  rw [step_res rfl rfl rfl]
  unfold M.resume
  show (if q < T.size then _ else _) = _
  by_cases h : q < T.size
  · rw [if_pos h, if_pos h]; rfl
  · rw [if_neg h, if_neg h]; rfl
theorem start_eq (T : Array Nat) (h : 2 ≤ T.size) : ∃ seen, forSearch codeA T 0 0 T.size false = At T 0 true seen := by
  refine ⟨({} : Seen).add 14, ?_⟩
  unfold forSearch
  show (if (decide (0 > T.size) || decide (T.size - 0 < 2)) = true then _ else _) = _
  rw [if_neg (by simp; omega)]
  rfl
theorem fin_step {T : Array Nat} {s pc p hd : Nat} {b y : Bool} {wt : Nat} {seen : Seen} :
    (St T s pc p hd b [] wt (some y) seen).step = { St T s pc p hd b [] wt (some y) seen with outcome := some (if y then .matched else .failed) } := rfl

theorem miss_lit {T : Array Nat} {s : Nat} {b : Bool} {seen : Seen} (hs : s < T.size) (h : T.getD s 0 ≠ 46) : ∃ seen' k, k ≤ 2 ∧ Go (At T s b seen) (At T (s + 1) false seen') k := by
  obtain ⟨s1, e1⟩ := exec_lit_no (T := T) (s := s) (p := s) (hd := s) (b := b) (f := [fr s b]) (wt := 1) (seen := seen) (.inr h)
  refine ⟨s1, 1 + 1, Nat.le_refl _, (Go.one rfl e1).trans (Go.one rfl ?_)⟩
  rw [res_fr_no, if_pos hs]
theorem giving {T : Array Nat} {s : Nat} {b : Bool} : ∀ (n p : Nat) (seen : Seen) (b' : Bool), (∀ i, i ≤ n → atEnd T (p - i) = false) → s < T.size →
    ∃ seen' k, k ≤ 2 * n + 3 ∧ Go (St T s 21 p p b' (gb p b' ((n + 1 : Nat) : Int) :: [fr s b]) 2 none seen) (At T (s + 1) false seen') k
  | 0, p, seen, b', h, hs => by
    obtain ⟨s1, e1⟩ := exec_at (T := T) (s := s) (p := p) (hd := p) (b := b') (f := gb p b' ((0 + 1 : Nat) : Int) :: [fr s b]) (wt := 2) (seen := seen)
    have h0 := h 0 (Nat.le_refl _)
    rw [Nat.sub_zero] at h0
    rw [h0] at e1
    refine ⟨s1, 1 + (1 + 1), by omega, (Go.one rfl e1).trans (Go.trans (Go.one rfl (res_gb_no (by decide))) ?_)⟩
    rw [if_pos (by decide)]
    refine Go.one rfl ?_
    rw [res_fr_no, if_pos hs]
  | n + 1, p, seen, b', h, hs => by
    obtain ⟨s1, e1⟩ := exec_at (T := T) (s := s) (p := p) (hd := p) (b := b') (f := gb p b' ((n + 1 + 1 : Nat) : Int) :: [fr s b]) (wt := 2) (seen := seen)
    have h0 := h 0 (Nat.zero_le _)
    rw [Nat.sub_zero] at h0
    rw [h0] at e1
    obtain ⟨s2, k, hk, g⟩ := giving (T := T) (s := s) (b := b) n (p - 1) s1 b' (fun i hi => by have := h (i + 1) (by omega); rwa [Nat.add_comm, ← Nat.sub_sub] at this) hs
    refine ⟨s2, 1 + (1 + k), by omega, (Go.one rfl e1).trans (Go.trans (Go.one rfl (res_gb_no (by decide))) ?_)⟩
    rw [if_neg (by omega)]
    have e : (((n + 1 + 1 : Nat) : Int) - 1) = ((n + 1 : Nat) : Int) := by omega
    rw [e]
    exact g
theorem not_end {T : Array Nat} {p : Nat} (h : p < T.size) (h' : T.getD p 0 ≠ 10) : atEnd T p = false := by
  unfold atEnd
  have : (p == T.size) = false := by simp; omega
  rw [this]
  simp
  intro _
  simpa using h'
theorem miss_dot {T : Array Nat} {s q : Nat} {b : Bool} {seen : Seen} (hz : T.size ≤ 16777216) (hq : q < T.size) (hs : s < q) (h : T.getD s 0 = 46) (hr : ∀ i, s < i → i < q → T.getD i 0 ≠ 10) (hq' : T.getD q 0 ≠ 10) (hqd : isDigit (T.getD q 0) = false) : ∃ seen' k, k ≤ 2 * T.size + 6 ∧ Go (At T s b seen) (At T (s + 1) false seen') k := by
  obtain ⟨s1, e1⟩ := exec_lit_yes (T := T) (s := s) (p := s) (hd := s) (b := b) (f := [fr s b]) (wt := 1) (seen := seen) (by omega) h
  obtain ⟨k, s2, hk1, hk2, hk3, e2⟩ := exec_rep (T := T) (s := s) (p := s + 1) (hd := s) (b := b) (f := [fr s b]) (wt := 1) (seen := s1) (by omega) (by decide) hz
  have hkq : s + 1 + k ≤ q := by
    rcases Nat.lt_or_ge q (s + 1 + k) with hlt | hge
    · have := hk2 (q - (s + 1)) (by omega)
      rw [show s + 1 + (q - (s + 1)) = q by omega] at this
      rw [this] at hqd; cases hqd
    · exact hge
  by_cases h0 : k = 0
  · rw [if_pos h0] at e2
    refine ⟨s2, 1 + (1 + 1), by omega, (Go.one rfl e1).trans (Go.trans (Go.one rfl e2) (Go.one rfl ?_))⟩
    rw [res_fr_no, if_pos (by omega)]
  · rw [if_neg h0] at e2
    obtain ⟨n, rfl⟩ := Nat.exists_eq_add_of_lt (Nat.pos_of_ne_zero h0)
    rw [Nat.zero_add] at *
    obtain ⟨s3, k3, hk, g⟩ := giving (T := T) (s := s) (b := b) n (s + 1 + (n + 1)) s2 b (fun i hi => not_end (by omega) (by
      by_cases hh : s + 1 + (n + 1) - i = q
      · rw [hh]; exact hq'
      · exact hr _ (by omega) (by omega))) (by omega)
    exact ⟨s3, 1 + (1 + k3), by omega, (Go.one rfl e1).trans (Go.trans (Go.one rfl e2) g)⟩
def Ends (m m' : M) (n : Nat) : Prop := m.runFor n = m' ∧ m'.outcome.isSome = true
theorem Go.ends {m m' m'' : M} {k : Nat} (g : Go m m' k) (h : m'.outcome = none) (e : m'.step = m'') (h2 : m''.outcome.isSome = true) : Ends m m'' (k + 1) := by
  have := (g.trans (Go.one h e)) 0
  exact ⟨this, h2⟩
theorem hit {T : Array Nat} {s n : Nat} {b : Bool} {seen : Seen} (hz : T.size ≤ 16777216) (h : T.getD s 0 = 46) (hn : 0 < n) (hT : T.size = s + 1 + n + 1) (hd : ∀ i, i < n → isDigit (T.getD (s + 1 + i) 0) = true) (he : T.getD (s + 1 + n) 0 = 10) :
    ∃ m' k, k ≤ 7 ∧ Ends (At T s b seen) m' k ∧ m'.outcome = some .matched ∧ m'.start = s ∧ m'.handed = s + 1 + n ∧ m'.lastindex = -1 := by
  obtain ⟨s1, e1⟩ := exec_lit_yes (T := T) (s := s) (p := s) (hd := s) (b := b) (f := [fr s b]) (wt := 1) (seen := seen) (by omega) h
  obtain ⟨k, s2, hk1, hk2, hk3, e2⟩ := exec_rep (T := T) (s := s) (p := s + 1) (hd := s) (b := b) (f := [fr s b]) (wt := 1) (seen := s1) (by omega) (by decide) hz
  have hk : k = n := by
    rcases Nat.lt_trichotomy k n with hlt | heq | hgt
    · have := hk3 (by omega)
      rw [hd k hlt] at this; cases this
    · exact heq
    · have := hk2 n hgt
      rw [he] at this; exact absurd this (by decide)
  subst hk
  rw [if_neg (by omega)] at e2
  obtain ⟨s3, e3⟩ := exec_at (T := T) (s := s) (p := s + 1 + k) (hd := s + 1 + k) (b := b) (f := gb (s + 1 + k) b (k : Int) :: [fr s b]) (wt := 2) (seen := s2)
  have ha : atEnd T (s + 1 + k) = true := by unfold atEnd; rw [he, hT]; simp
  rw [ha, if_pos rfl] at e3
  obtain ⟨s4, e4⟩ := exec_ok (T := T) (s := s) (p := s + 1 + k) (hd := s + 1 + k) (b := b) (f := gb (s + 1 + k) b (k : Int) :: [fr s b]) (wt := 2) (seen := s3)
  refine ⟨_, (1 + (1 + (1 + (1 + (1 + 1))))) + 1, by omega, Go.ends ((Go.one rfl e1).trans ((Go.one rfl e2).trans ((Go.one rfl e3).trans ((Go.one rfl e4).trans ((Go.one rfl res_gb_yes).trans (Go.one rfl res_fr_yes)))))) rfl fin_step rfl, rfl, rfl, rfl, rfl⟩
theorem last {T : Array Nat} {b : Bool} {seen : Seen} : ∃ m' k, k ≤ 3 ∧ Ends (At T T.size b seen) m' k ∧ m'.outcome = some .failed := by
  obtain ⟨s1, e1⟩ := exec_lit_no (T := T) (s := T.size) (p := T.size) (hd := T.size) (b := b) (f := [fr T.size b]) (wt := 1) (seen := seen) (.inl (Nat.le_refl _))
  have e2 := res_fr_no (T := T) (s := T.size) (pc := 9) (p := T.size) (hd := T.size) (q := T.size) (b := b) (b' := b) (seen := s1)
  rw [if_neg (Nat.lt_irrefl _)] at e2
  exact ⟨_, 1 + 1 + 1, Nat.le_refl _, Go.ends ((Go.one rfl e1).trans (Go.one rfl e2)) rfl fin_step rfl, rfl⟩
theorem Go.endsOf {m m' m'' : M} {k n : Nat} (g : Go m m' k) (e : Ends m' m'' n) : Ends m m'' (k + n) := ⟨(g n).trans e.1, e.2⟩

theorem scan {T : Array Nat} {q : Nat} (hz : T.size ≤ 16777216) (hq : q < T.size) (hr : ∀ i, i < q → T.getD i 0 ≠ 10) (hd : (∃ i, i < q ∧ T.getD i 0 = 46) → T.getD q 0 = 46) : ∀ (d s : Nat) (b : Bool) (seen : Seen), s + d = q → ∃ b' seen' k, k ≤ d * (2 * T.size + 6) ∧ Go (At T s b seen) (At T q b' seen') k
  | 0, s, b, seen, e => by rw [Nat.add_zero] at e; subst e; exact ⟨b, seen, 0, Nat.zero_le _, Go.refl _⟩
  | d + 1, s, b, seen, e => by
    have h1 : ∃ seen' k, k ≤ 2 * T.size + 6 ∧ Go (At T s b seen) (At T (s + 1) false seen') k := by
      by_cases h : T.getD s 0 = 46
      · have := hd ⟨s, by omega, h⟩
        exact miss_dot hz hq (by omega) h (fun i _ hi => hr i hi) (by rw [this]; decide) (by rw [this]; decide)
      · obtain ⟨a, k, hk, g⟩ := miss_lit (T := T) (b := b) (seen := seen) (by omega) h
        exact ⟨a, k, by omega, g⟩
    obtain ⟨s1, k1, hk1, g1⟩ := h1
    obtain ⟨b', s2, k2, hk2, g2⟩ := scan hz hq hr hd d (s + 1) false s1 (by omega)
    refine ⟨b', s2, k1 + k2, ?_, g1.trans g2⟩
    rw [Nat.add_mul, Nat.one_mul]; omega

theorem getD_app (a : List Nat) (i : Nat) : a.toArray.getD i 0 = a.getD i 0 := by
  simp [Array.getD_eq_getD_getElem?]
def Dig (c : Nat) : Prop := 48 ≤ c ∧ c ≤ 57
theorem Dig.is {c : Nat} (h : Dig c) : isDigit c = true := by
  unfold isDigit; simp [h.1, h.2]
theorem search_hit (pre ds : List Nat) (hpre : ∀ c ∈ pre, Dig c ∨ c = 46) (hds : ∀ c ∈ ds, Dig c) (h0 : ds ≠ []) (hz : pre.length + ds.length ≤ 1000) :
    ∃ m' k, k < 2 ^ 64 ∧ Ends (forSearch codeA (pre ++ 46 :: (ds ++ [10])).toArray 0 0 (pre ++ 46 :: (ds ++ [10])).toArray.size false) m' k ∧ m'.outcome = some .matched ∧ m'.start = pre.length ∧ m'.handed = pre.length + 1 + ds.length ∧ m'.lastindex = -1 := by
  have hs : (pre ++ 46 :: (ds ++ [10])).toArray.size = pre.length + 1 + ds.length + 1 := by simp; omega
  have hp : 0 < ds.length := List.length_pos_iff.mpr h0
  generalize hT : (pre ++ 46 :: (ds ++ [10])).toArray = T at *
  obtain ⟨seen, e⟩ := start_eq T (by omega)
  have g1 : ∀ i, i < pre.length → T.getD i 0 = pre.getD i 0 := fun i hi => by
    rw [← hT, getD_app]; simp [List.getD_eq_getElem?_getD, List.getElem?_append_left hi]
  have g2 : T.getD pre.length 0 = 46 := by rw [← hT, getD_app]; simp [List.getD_eq_getElem?_getD]
  have g3 : ∀ i, i < ds.length → T.getD (pre.length + 1 + i) 0 = ds.getD i 0 := fun i hi => by
    rw [← hT, getD_app]
    simp only [List.getD_eq_getElem?_getD]
    rw [List.getElem?_append_right (by omega), show pre.length + 1 + i - pre.length = i + 1 by omega, List.getElem?_cons_succ, List.getElem?_append_left hi]
  have g4 : T.getD (pre.length + 1 + ds.length) 0 = 10 := by
    rw [← hT, getD_app]
    simp only [List.getD_eq_getElem?_getD]
    rw [List.getElem?_append_right (by omega), show pre.length + 1 + ds.length - pre.length = ds.length + 1 by omega, List.getElem?_cons_succ, List.getElem?_append_right (by omega)]
    simp
  obtain ⟨b', s1, k1, hk1, go⟩ := scan (T := T) (q := pre.length) (by omega) (by omega) (fun i hi => by
    rw [g1 i hi]
    have : pre.getD i 0 ∈ pre := by rw [List.getD_eq_getElem?_getD, List.getElem?_eq_getElem hi]; exact List.getElem_mem _
    rcases hpre _ this with h | h
    · have := h.1; omega
    · omega) (fun _ => g2) pre.length 0 true seen (by omega)
  obtain ⟨m', k2, hk2, he, h1, h2, h3, h4⟩ := hit (T := T) (s := pre.length) (n := ds.length) (b := b') (seen := s1) (by omega) g2 hp hs (fun i hi => by
    rw [g3 i hi]
    have : ds.getD i 0 ∈ ds := by rw [List.getD_eq_getElem?_getD, List.getElem?_eq_getElem hi]; exact List.getElem_mem _
    exact (hds _ this).is) g4
  refine ⟨m', k1 + k2, ?_, ?_, h1, h2, h3, h4⟩
  · have : pre.length * (2 * T.size + 6) ≤ 1000 * 3000 := Nat.mul_le_mul (by omega) (by omega)
    omega
  · rw [e]; exact go.endsOf he
theorem search_miss (ds : List Nat) (hds : ∀ c ∈ ds, Dig c) (h0 : ds ≠ []) (hz : ds.length ≤ 1000) :
    ∃ m' k, k < 2 ^ 64 ∧ Ends (forSearch codeA (ds ++ [10]).toArray 0 0 (ds ++ [10]).toArray.size false) m' k ∧ m'.outcome = some .failed := by
  have hs : (ds ++ [10]).toArray.size = ds.length + 1 := by simp
  have hp : 0 < ds.length := List.length_pos_iff.mpr h0
  generalize hT : (ds ++ [10]).toArray = T at *
  obtain ⟨seen, e⟩ := start_eq T (by omega)
  have g1 : ∀ i, i < ds.length → T.getD i 0 = ds.getD i 0 := fun i hi => by
    rw [← hT, getD_app]; simp [List.getD_eq_getElem?_getD, List.getElem?_append_left hi]
  have g2 : T.getD ds.length 0 = 10 := by rw [← hT, getD_app]; simp [List.getD_eq_getElem?_getD]
  have g3 : ∀ i, i < ds.length → Dig (T.getD i 0) := fun i hi => by
    rw [g1 i hi]
    have : ds.getD i 0 ∈ ds := by rw [List.getD_eq_getElem?_getD, List.getElem?_eq_getElem hi]; exact List.getElem_mem _
    exact hds _ this
  obtain ⟨b', s1, k1, hk1, go⟩ := scan (T := T) (q := ds.length) (by omega) (by omega) (fun i hi => by have := (g3 i hi).1; omega) (fun ⟨i, hi, h⟩ => by have := (g3 i hi).1; omega) ds.length 0 true seen (by omega)
  obtain ⟨s2, k2, hk2, go2⟩ := miss_lit (T := T) (s := ds.length) (b := b') (seen := s1) (by omega) (by rw [g2]; decide)
  rw [← hs] at go2
  obtain ⟨m', k3, hk3, he, h1⟩ := last (T := T) (b := false) (seen := s2)
  refine ⟨m', k1 + k2 + k3, ?_, ?_, h1⟩
  · have : ds.length * (2 * T.size + 6) ≤ 1000 * 3000 := Nat.mul_le_mul (by omega) (by omega)
    omega
  · rw [e]; exact (go.trans go2).endsOf he
end Mine
end

section
open PySem PySem.W PyProof.Rows PySem.Calls PySem.Spec PySem.Builtin PySem.Builtin.Str PySem.StrLaws
set_option maxRecDepth 100000
namespace Mine
def S (l : List Nat) : Str := ⟨l.toArray⟩
theorem S_len (l : List Nat) : (S l).length = l.length := by simp [S, Str.length]
theorem S_cps (l : List Nat) : (S l).cps.toList = l := by simp [S]
theorem S_app (a b : List Nat) : S a ++ S b = S (a ++ b) := Str.ext' (by simp [S, Str.cps_append])
theorem S_getD (l : List Nat) (i : Nat) : (S l).cps.getD i 0 = l.getD i 0 := getD_app l i
theorem slice_eq (x : Str) (l u : Option Int) : Txt.slice x l u = sliceText x l u := rfl
theorem slice_to {a b : List Nat} {j : Int} (h : j = a.length) : Txt.slice (S (a ++ b)) none (some j) = S a := by
  rw [slice_eq, sliceText_to ⟨by omega, by rw [S_cps, List.length_append]; omega⟩, S_cps]
  subst h
  simp [S]
theorem slice_from {a b : List Nat} {j : Int} (h : j = a.length) : Txt.slice (S (a ++ b)) (some j) none = S b := by
  rw [slice_eq, sliceText_from ⟨by omega, by rw [S_cps, List.length_append]; omega⟩, S_cps]
  subst h
  have e : (((a ++ b).length : Int) - (a.length : Int)).toNat = b.length := by rw [List.length_append]; omega
  rw [e]
  simp [S]
theorem slice_mid {a b c : List Nat} {i j : Int} (h : i = a.length) (h2 : j = a.length + b.length) : Txt.slice (S (a ++ (b ++ c))) (some i) (some j) = S b := by
  rw [slice_eq, sliceText_plain ⟨by omega, by omega, by rw [S_cps, List.length_append, List.length_append]; omega⟩, S_cps]
  subst h
  have e : (j - (a.length : Int)).toNat = b.length := by omega
  rw [e]
  simp [S]
theorem slice_last {a : List Nat} {c : Nat} : Txt.slice (S (a ++ [c])) none (some (-1)) = S a := by
  rw [slice_eq, sliceText_to_neg (by omega) (by rw [S_len, List.length_append]; simp; omega), S_cps, S_len]
  have e : (-1 + ((a ++ [c]).length : Int) - 0).toNat = a.length := by rw [List.length_append]; simp; omega
  rw [e]
  simp [S]
theorem item_at {a b : List Nat} {c : Nat} {i : Int} (h : i = a.length) : Txt.item (S (a ++ c :: b)) i = S [c] := by
  unfold Txt.item Txt.charAt
  rw [at_nonneg (n := c) (by omega) (by subst h; simp [S])]
  rfl
theorem item_last {a : List Nat} {c : Nat} : Txt.item (S (a ++ [c])) (-1) = S [c] := by
  unfold Txt.item Txt.charAt
  rw [at_neg (n := c) (by omega) (by rw [S_len, List.length_append]; simp; omega) (by
    rw [S_len]
    have e : (-1 + ((a ++ [c]).length : Int)).toNat = a.length := by rw [List.length_append]; simp; omega
    rw [e]; simp [S])]
  rfl
theorem getD_mid (a b : List Nat) (c : Nat) : (a ++ c :: b).getD a.length 0 = c := by simp [List.getD_eq_getElem?_getD]
theorem getD_left {a b : List Nat} {i : Nat} (h : i < a.length) : (a ++ b).getD i 0 = a.getD i 0 := by simp [List.getD_eq_getElem?_getD, List.getElem?_append_left h]
theorem getD_right {a b : List Nat} {i : Nat} (h : a.length ≤ i) : (a ++ b).getD i 0 = b.getD (i - a.length) 0 := by simp [List.getD_eq_getElem?_getD, List.getElem?_append_right h]
theorem getD_mem' {a : List Nat} {i : Nat} (h : i < a.length) : a.getD i 0 ∈ a := by
  rw [List.getD_eq_getElem?_getD, List.getElem?_eq_getElem h]; exact List.getElem_mem _
theorem find3_hit {p a b : List Nat} {c : Nat} {i : Int} (hi : i = p.length) (h : c ∉ a) : Txt.find3 (S (p ++ (a ++ c :: b))) ⟨#[c]⟩ i = ((p.length + a.length : Nat) : Int) := by
  have hf : fromIndex (S (p ++ (a ++ c :: b))).length i = p.length := by
    unfold fromIndex; subst hi; rw [if_neg (by omega)]; omega
  have hm : (S (p ++ (a ++ c :: b))).cps.getD (p.length + a.length) 0 = c := by
    rw [S_getD, getD_right (by omega), show p.length + a.length - p.length = a.length by omega, getD_mid]
  have hl : p.length + a.length < (S (p ++ (a ++ c :: b))).length := by rw [S_len]; simp
  rcases find3_spec (S (p ++ (a ++ c :: b))) c i with ⟨_, h2⟩ | ⟨k, e, h1, h2, h3, h4⟩
  · rw [hf] at h2
    exact absurd hm (h2 _ (by omega) hl)
  · rw [hf] at h1 h4
    rw [e]
    rcases Nat.lt_trichotomy k (p.length + a.length) with hlt | heq | hgt
    · rw [S_getD, getD_right h1, getD_left (by omega)] at h3
      exact absurd (h3 ▸ getD_mem' (by omega)) h
    · rw [heq]
    · exact absurd hm (h4 _ (by omega) hgt)
theorem find3_none {a : List Nat} {c : Nat} {i : Int} (h : c ∉ a) : Txt.find3 (S a) ⟨#[c]⟩ i = -1 := by
  rcases find3_spec (S a) c i with ⟨e, _⟩ | ⟨k, e, h1, h2, h3, h4⟩
  · exact e
  · rw [S_len] at h2
    rw [S_getD] at h3
    exact absurd (h3 ▸ getD_mem' h2) h
theorem find_find3 (x y : Str) : Txt.find x y = Txt.find3 x y 0 := by
  unfold Txt.find Txt.find3
  have : fromIndex x.length 0 = 0 := by unfold fromIndex; rw [if_neg (by omega)]; omega
  rw [this]
  cases occurrences x y 0 x.length 1 <;> rfl
theorem find4_find3 (x y : Str) (i n : Int) (h : n = x.length) : find4 x y i n = Txt.find3 x y i := by
  unfold find4 Txt.find3
  have : upTo x.length n = x.length := by unfold upTo fromIndex; subst h; rw [if_neg (by omega)]; omega
  rw [this]
  cases occurrences x y (fromIndex x.length i) x.length 1 <;> rfl
theorem rfind4_hit {a b r : List Nat} {c : Nat} {e : Int} (he : e = a.length + 1 + b.length) (h : c ∉ b) : rfind4 (S (a ++ c :: (b ++ r))) ⟨#[c]⟩ 0 e = a.length := by
  unfold rfind4
  have h0 : fromIndex (S (a ++ c :: (b ++ r))).length 0 = 0 := by unfold fromIndex; rw [if_neg (by omega)]; omega
  have h1 : upTo (S (a ++ c :: (b ++ r))).length e = a.length + 1 + b.length := by
    unfold upTo fromIndex; subst he; rw [if_neg (by omega), S_len]; simp; omega
  rw [h0, h1, last_eq]
  have key := last_run (S (a ++ c :: (b ++ r))) ⟨#[c]⟩ (a.length + 1 + b.length) (List.range' 0 (a.length + 1 + b.length + 1 - 0)) [] none (fun _ h => nomatch h) (fun _ h => nomatch h) (by simpa using List.pairwise_lt_range' (s := 0) (n := a.length + 1 + b.length + 1 - 0))
  have hat : ∀ k, StrLaws.At (S (a ++ c :: (b ++ r))) ⟨#[c]⟩ (a.length + 1 + b.length) k ↔ k + 1 ≤ a.length + 1 + b.length ∧ (a ++ c :: (b ++ r))[k]? = some c := by
    intro k
    constructor
    · rintro ⟨p, q⟩
      have p' : k + 1 ≤ a.length + 1 + b.length := p
      refine ⟨p', ?_⟩
      have := (subAt_one (S (a ++ c :: (b ++ r))) c k).mp ⟨by rw [S_len]; show k + 1 ≤ _; simp; omega, q⟩
      rwa [S_cps] at this
    · rintro ⟨p, q⟩
      have := (subAt_one (S (a ++ c :: (b ++ r))) c k).mpr (by rwa [S_cps])
      exact ⟨p, this.2⟩
  rw [List.nil_append] at key
  have hself : StrLaws.At (S (a ++ c :: (b ++ r))) ⟨#[c]⟩ (a.length + 1 + b.length) a.length := (hat _).mpr ⟨by omega, by simp⟩
  generalize (forIn (List.range' 0 (a.length + 1 + b.length + 1 - 0)) none (lastBody (S (a ++ c :: (b ++ r))) ⟨#[c]⟩ (a.length + 1 + b.length))).run = res at key ⊢
  cases res with
  | none => exact absurd hself (key a.length (by simp [List.mem_range']; omega))
  | some k =>
    have hk := (hat k).mp key.1
    show (k : Int) = a.length
    rcases Nat.lt_trichotomy k a.length with hlt | heq | hgt
    · exact absurd hself (key.2 a.length (by simp [List.mem_range']; omega) hlt)
    · rw [heq]
    · exfalso
      obtain ⟨d, rfl⟩ := Nat.exists_eq_add_of_lt hgt
      have e2 : (a ++ c :: (b ++ r))[a.length + d + 1]? = b[d]? := by
        rw [List.getElem?_append_right (by omega), show a.length + d + 1 - a.length = d + 1 by omega, List.getElem?_cons_succ, List.getElem?_append_left (by omega)]
      rw [e2] at hk
      exact h (List.mem_of_getElem? hk.2)
end Mine
end

section
open PySem PySem.W PyProof.Rows PySem.Calls PySem.Spec PySem.Builtin PySem.Builtin.Str PySem.StrLaws PySem.NumText
set_option maxRecDepth 100000
namespace Mine
theorem occ_run (l : List Nat) (c limit : Nat) : ∀ (ks : List Nat) (found : Array Nat) (free : Nat), (∀ i ∈ ks, free ≤ i) → ks.Pairwise (· < ·) → found.size + ks.length ≤ limit →
    (forIn ks (found, free) (occBody (S l) ⟨#[c]⟩ l.length limit)).run.fst.toList = found.toList ++ ks.filter (fun i => l[i]? == some c)
  | [], found, free, _, _, _ => by simp
  | k :: ks, found, free, h1, h2, h3 => by
    rw [List.forIn_cons]
    unfold occBody
    have hp := List.pairwise_cons.mp h2
    have hb := subAt_one (S l) c k
    rw [S_cps, S_len] at hb
    have hf := h1 k (List.mem_cons_self ..)
    rw [List.length_cons] at h3
    by_cases hc : l[k]? = some c
    · have hb' := hb.mpr hc
      rw [if_pos ⟨⟨⟨by show found.size < limit; omega, hf⟩, hb'.1⟩, hb'.2⟩]
      have ih := occ_run l c limit ks (found.push k) (k + 1) (fun i hi => hp.1 i hi) hp.2 (by rw [Array.size_push]; omega)
      rw [List.filter_cons, if_pos (by simpa using hc)]
      refine Eq.trans ?_ (ih.trans (by simp))
      rfl
    · rw [if_neg (fun h => hc (hb.mp ⟨h.1.2, h.2⟩))]
      have ih := occ_run l c limit ks found free (fun i hi => h1 i (List.mem_cons_of_mem _ hi)) hp.2 (by omega)
      rw [List.filter_cons, if_neg (by simpa using hc)]
      exact ih
def posOf (c : Nat) : Nat → List Nat → List Nat
  | _, [] => []
  | off, x :: t => if x = c then off :: posOf c (off + 1) t else posOf c (off + 1) t
theorem posOf_app (c : Nat) : ∀ (a b : List Nat) (off : Nat), posOf c off (a ++ b) = posOf c off a ++ posOf c (off + a.length) b
  | [], b, off => by simp [posOf]
  | x :: a, b, off => by
    rw [List.cons_append, posOf, posOf, posOf_app c a b (off + 1), List.length_cons, show off + (a.length + 1) = off + 1 + a.length by omega]
    split <;> simp
theorem posOf_none (c : Nat) : ∀ (a : List Nat) (off : Nat), c ∉ a → posOf c off a = []
  | [], off, _ => rfl
  | x :: a, off, h => by
    rw [posOf, if_neg (fun e => h (by rw [e]; exact List.mem_cons_self ..)), posOf_none c a (off + 1) (fun hm => h (List.mem_cons_of_mem _ hm))]
theorem filter_pos (c : Nat) : ∀ (l pre : List Nat), (List.range' pre.length (l.length + 1)).filter (fun i => (pre ++ l)[i]? == some c) = posOf c pre.length l
  | [], pre => by simp [posOf]
  | x :: l, pre => by
    have ih := filter_pos c l (pre ++ [x])
    rw [List.length_append, List.length_singleton, List.append_assoc, List.singleton_append] at ih
    rw [List.length_cons, List.range'_succ, List.filter_cons, ih, posOf]
    have e : ((pre ++ x :: l)[pre.length]? == some c) = decide (x = c) := by rw [Bool.eq_iff_iff]; simp
    rw [e]
    by_cases hx : x = c <;> simp [hx]
theorem occ_all (l : List Nat) (c : Nat) : occurrences (S l) ⟨#[c]⟩ 0 (S l).length ((S l).length + 1) = posOf c 0 l := by
  rw [occ_eq, S_len]
  have := occ_run l c (l.length + 1) (List.range' 0 (l.length + 1 - 0)) #[] 0 (fun _ _ => Nat.zero_le _) (by simpa using List.pairwise_lt_range' (s := 0) (n := l.length + 1 - 0)) (by simp)
  rw [this]
  simpa using filter_pos c l []
theorem sub_mid {a b r : List Nat} {i j : Nat} (h : i = a.length) (h2 : j = a.length + b.length) : strSub (S (a ++ (b ++ r))) i j = S b := by
  apply Str.ext'
  apply Array.toList_inj.mp
  rw [strSub_toList, S_cps, S_cps, h, h2]
  simp
theorem split5 {a b d : List Nat} (ha : 46 ∉ a) (hb : 46 ∉ b) (hd : 46 ∉ d) : Txt.split (S (46 :: (a ++ 46 :: (b ++ 46 :: (d ++ [46]))))) ⟨#[46]⟩ = [S [], S a, S b, S d, S []] := by
  unfold Txt.split
  have hk : (decide ((S (46 :: (a ++ 46 :: (b ++ 46 :: (d ++ [46]))))).length < (⟨#[46]⟩ : Str).length) || decide (Builtin.Str.strKind (S (46 :: (a ++ 46 :: (b ++ 46 :: (d ++ [46]))))) < Builtin.Str.strKind ⟨#[46]⟩)) = false := by
    have h1 : ¬ ((S (46 :: (a ++ 46 :: (b ++ 46 :: (d ++ [46]))))).length < (⟨#[46]⟩ : Str).length) := by
      rw [S_len]; show ¬ (_ < 1); simp
    have h2 : Builtin.Str.strKind ⟨#[46]⟩ = 1 := by unfold Builtin.Str.strKind; simp
    have h3 : ∀ x : Str, ¬ (Builtin.Str.strKind x < 1) := fun x => by unfold Builtin.Str.strKind; split <;> (try split) <;> omega
    rw [h2]
    simp [h1, h3]
  rw [hk, if_neg (by decide), occ_all]
  have hp : posOf 46 0 (46 :: (a ++ 46 :: (b ++ 46 :: (d ++ [46])))) = [0, 1 + a.length, 2 + a.length + b.length, 3 + a.length + b.length + d.length] := by
    rw [posOf, if_pos rfl, posOf_app, posOf_none _ a _ ha, posOf, if_pos rfl, posOf_app, posOf_none _ b _ hb, posOf, if_pos rfl, posOf_app, posOf_none _ d _ hd, posOf, if_pos rfl, posOf]
    simp
    omega
  rw [hp, if_neg (by simp), partsBetween_eq]
  have e1 : (⟨#[46]⟩ : Str).length = 1 := rfl
  rw [e1]
  simp only [partsFrom]
  have p0 := sub_mid (a := []) (b := []) (r := 46 :: (a ++ 46 :: (b ++ 46 :: (d ++ [46])))) (i := 0) (j := 0) rfl rfl
  have p1 := sub_mid (a := [46]) (b := a) (r := 46 :: (b ++ 46 :: (d ++ [46]))) (i := 0 + 1) (j := 1 + a.length) rfl rfl
  have p2 := sub_mid (a := [46] ++ a ++ [46]) (b := b) (r := 46 :: (d ++ [46])) (i := 1 + a.length + 1) (j := 2 + a.length + b.length) (by simp; omega) (by simp; omega)
  have p3 := sub_mid (a := [46] ++ a ++ [46] ++ b ++ [46]) (b := d) (r := [46]) (i := 2 + a.length + b.length + 1) (j := 3 + a.length + b.length + d.length) (by simp; omega) (by simp; omega)
  have p4 := sub_mid (a := [46] ++ a ++ [46] ++ b ++ [46] ++ d ++ [46]) (b := []) (r := []) (i := 3 + a.length + b.length + d.length + 1) (j := (S (46 :: (a ++ 46 :: (b ++ 46 :: (d ++ [46]))))).length) (by simp; omega) (by rw [S_len]; simp)
  simp only [List.nil_append, List.append_assoc, List.cons_append, List.append_nil] at p0 p1 p2 p3 p4
  rw [p0, p1, p2, p3, p4]
def dgs (n : Nat) : List Nat := (Nat.toDigits 10 n).map Char.toNat
def pad (w n : Nat) : List Nat := List.replicate (w - (dgs n).length) 48 ++ dgs n
theorem digitChar_dig : ∀ d : Nat, d < 10 → Dig (Nat.digitChar d).toNat := by unfold Dig; decide
theorem dgs_dig (n : Nat) : ∀ c ∈ dgs n, Dig c := by
  intro c hc
  obtain ⟨ch, h1, rfl⟩ := List.mem_map.mp hc
  have := Nat.isDigit_of_mem_toDigits (b := 10) (n := n) (c := ch) (by decide) (by decide) h1
  simp only [Char.isDigit, Bool.and_eq_true, decide_eq_true_eq] at this
  exact ⟨this.1, this.2⟩
theorem dgs_ne (n : Nat) : dgs n ≠ [] := by
  unfold dgs
  simp [Nat.toDigits_ne_nil]
theorem pad_len {w n : Nat} (h : (dgs n).length ≤ w) : (pad w n).length = w := by
  unfold pad; simp; omega
theorem pad_dig (w n : Nat) : ∀ c ∈ pad w n, Dig c := by
  intro c hc
  rcases List.mem_append.mp hc with h | h
  · rw [(List.mem_replicate.mp h).2]; exact ⟨by decide, by decide⟩
  · exact dgs_dig n c h
theorem pad_ne (w n : Nat) : pad w n ≠ [] := by
  unfold pad
  intro h
  exact dgs_ne n (List.append_eq_nil_iff.mp h).2
theorem pad_val (w n : Nat) : digitsVal (pad w n) = n := by
  unfold pad
  induction (w - (dgs n).length) with
  | zero => exact KIN.val_back n
  | succ k ih => rw [List.replicate_succ, List.cons_append, digitsVal_zero]; exact ih
theorem pad_read {w n : Nat} (h : (pad w n).length ≤ 4300) : PySem.intText? (S (pad w n)) = some (n : Int) := by
  have := intText_digits (x := S (pad w n)) (by rw [S_cps]; exact pad_dig w n) (by rw [S_cps]; exact pad_ne w n) (by rw [S_len]; exact h)
  rw [this, S_cps, pad_val]
theorem dot_notin {a : List Nat} {c : Nat} (h : ∀ d ∈ a, Dig d) (hc : c < 48 ∨ 57 < c) : c ∉ a := fun hm => by
  have := h _ hm
  unfold Dig at this
  omega
theorem str_dgs (n : Nat) : Str.ofString (toString (n : Int)) = S (dgs n) := by
  apply Str.ext'
  apply Array.toList_inj.mp
  rw [S_cps]
  exact KIN.signs_num n
end Mine
end

section
open PySem PySem.W PyProof.Rows PySem.Calls PySem.Spec PySem.Builtin PySem.Builtin.Str PySem.StrLaws
set_option maxRecDepth 100000
namespace Mine
section
variable {prog : Program} {w : World} {A : Around} {E : Value → Shared → Prop} {s : Shared} {n : Int} {t u : Tok} {l a b : List Nat} {ks : List Int} {Q : Value → Shared → Prop}
theorem dot_eq : Str.ofString "." = S [46] := by decide +kernel
theorem nul_eq : Str.ofString "0" = S [48] := by decide +kernel
theorem str_e (hn : n ∈ ks) (q : ∀ k ∈ ks, 0 ≤ k ∧ k < 10 ^ 500) (h : ∀ t' k, Q (.str (S (dgs n.toNat)) t') { s with toks := k }) :
    wpAny (model prog w) A (call (.type "str") [.int n t]) Q E s := by
  refine P.str_of_int ?_ ?_
  · obtain ⟨q1, q2⟩ := q n hn
    rcases Nat.eq_zero_or_pos n.natAbs with h0 | hp
    · rw [h0]; decide
    · refine (Nat.log2_lt (Nat.ne_of_gt hp)).mpr (Nat.lt_of_lt_of_le (m := 10 ^ 500) ?_ (by decide +kernel))
      omega
  · have e : Str.ofString (toString n) = S (dgs n.toNat) := by
      obtain ⟨k, rfl⟩ := Int.eq_ofNat_of_zero_le (q n hn).1
      exact str_dgs k
    show Q (.str (Str.ofString (toString n)) _) _
    rw [e]
    exact h _ _
theorem len_S (hz : l.length ≤ 16000000) (h : ∀ t' k, Q (.int (l.length : Int) t') { s with toks := k }) : wpAny (model prog w) A (call (.builtin "len") [.str (S l) t]) Q E s :=
  len_e (by rw [S_len]; have : sizeLine = 2 ^ 24 := rfl; omega) (by rw [S_len]) (h _ _)
theorem mul_S {c : Nat} {i : Int} (hz0 : -10000 ≤ i) (hz : i ≤ 10000) (h : ∀ t' k, Q (.str (S (List.replicate i.toNat c)) t') { s with toks := k }) : wpAny (model prog w) A (binaryOp .Mult (.str (S [c]) t) (.int i u)) Q E s := by
  refine KXi.mul (n := 1) (by rw [S_len]; rfl) (by decide) (by omega) (by omega) fun t' k _ _ => ?_
  have e : Txt.mul (S [c]) i = S (List.replicate i.toNat c) := by
    apply Str.ext'
    apply Array.toList_inj.mp
    rw [S_cps]
    exact mul_one_list c i
  rw [e]
  exact h _ _
theorem add_S (hz : a.length + b.length ≤ 16000000) (h : ∀ t' k, Q (.str (S (a ++ b)) t') { s with toks := k }) : wpAny (model prog w) A (binaryOp .Add (.str (S a) t) (.str (S b) u)) Q E s :=
  add_e (by rw [S_len, S_len]; have : sizeLine = 2 ^ 24 := rfl; omega) (S_app a b) h
theorem glued_S {α : Type} (g : α → List Nat) : ∀ ks : List α, Str.join (Str.ofString "") (ks.map fun k => S (g k)) = S (ks.flatMap g)
  | [] => rfl
  | [k] => by show S (g k) = S ([k].flatMap g); simp
  | k :: j :: r => by
    have ih := glued_S g (j :: r)
    show S (g k) ++ Str.ofString "" ++ Str.join (Str.ofString "") ((j :: r).map fun k => S (g k)) = _
    rw [ih]
    have e : Str.ofString "" = S [] := by decide +kernel
    rw [e, S_app, S_app, List.append_nil]; rfl
theorem join_S {α : Type} {g : α → List Nat} {ks : List α} {ys : List Value} {D : Addr} (B : Nat) (hl : s.heap.IsList D ys.toArray) (hc : CarriedAll ys (ks.map fun k => PyData.str (S (g k)))) (hz : ∀ k ∈ ks, (g k).length ≤ B) (hn : ks.length * (B + 1) ≤ 1048576)
    (h : ∀ t' k, Q (.str (S (ks.flatMap g)) t') { s with toks := k }) : wpAny (model prog w) A (call (.builtin "str.join") [.str (Str.ofString "") t, .ref D]) Q E s := by
  refine join_listW hl (hc.strsOf) (by decide) ?_ ?_
  · have : ∀ l : List α, (∀ k ∈ l, (g k).length ≤ B) → ((l.map fun k => S (g k)).map (·.length)).sum + (l.map fun k => S (g k)).length ≤ l.length * (B + 1) := by
      intro l
      induction l with
      | nil => intro _; simp
      | cons k l ih =>
        intro hz
        have h1 := ih fun k hk => hz k (List.mem_cons_of_mem _ hk)
        have h2 := hz k (List.mem_cons_self ..)
        simp only [List.map_cons, List.sum_cons, List.length_cons, S_len] at h1 ⊢
        rw [Nat.add_mul]
        omega
    exact Nat.le_trans (this ks hz) hn
  · intro t' k
    have e : Txt.join (Str.ofString "") (ks.map fun k => S (g k)) = S (ks.flatMap g) := by
      show glued _ _ = _
      rw [glued_eq_join, glued_S]
    rw [e]
    exact h t' k
end
end Mine
end

section
open PySem PySem.W PyProof.Rows PySem.Calls
set_option maxRecDepth 100000
namespace Mine
def BA (l : List Nat) : Array UInt8 := (l.map Nat.toUInt8).toArray
theorem BA_size (l : List Nat) : (BA l).size = l.length := by simp [BA]
theorem byteArr_BA (l : List Nat) : byteArr (l.map fun c : Nat => (c : Int)) = BA l := by simp [byteArr, BA, Function.comp_def, Nat.toUInt8]
theorem ascii_S {l : List Nat} (h : ∀ c ∈ l, c < 128) : (S l).cps.all (· < 128) = true := by
  simp only [S, List.all_toArray, List.all_eq_true, decide_eq_true_eq]
  exact h
theorem intsAre_of : ∀ {l : List Nat} {ys : List Value}, ys.length = l.length → (∀ (i : Nat) y, ys[i]? = some y → ∃ t, y = .int ((l.getD i 0 : Nat) : Int) t) → IntsAre ys (l.map fun c : Nat => (c : Int))
  | [], [], _, _ => .nil
  | c :: l, y :: ys, hl, hR => by
    obtain ⟨t, rfl⟩ := hR 0 y rfl
    exact .cons _ t (intsAre_of (Nat.succ.inj hl) fun i z hz => hR (i + 1) z hz)
theorem strsAre_of : ∀ {l : List Nat} {ys : List Value}, ys.length = l.length → (∀ (i : Nat) y, ys[i]? = some y → ∃ t, y = .str (S [l.getD i 0]) t) → CarriedAll ys (l.map fun c => PyData.str (S [c]))
  | [], [], _, _ => .nil
  | c :: l, y :: ys, hl, hR => by
    obtain ⟨t, rfl⟩ := hR 0 y rfl
    exact .cons (.str _ t) (strsAre_of (Nat.succ.inj hl) fun i z hz => hR (i + 1) z hz)
section
variable {prog : Program} {w : World} {A : Around} {E : Value → Shared → Prop} {s : Shared} {t : Tok} {l : List Nat} {Q : Value → Shared → Prop}
theorem len_BA (hz : l.length ≤ 100000) (h : ∀ t' k, Q (.int (l.length : Int) t') { s with toks := k }) : wpAny (model prog w) A (call (.builtin "len") [.bytes (BA l) t]) Q E s := by
  refine KBw.len_K rfl (by rw [KBw.ints_length, BA_size]; omega) ?_
  rw [KBw.ints_length, BA_size]
  exact h _ _
end
end Mine
end

section
open PySem PySem.W PyProof.Rows PySem.Calls
set_option maxRecDepth 100000
namespace Mine
theorem norm1 {m m₀ : Str → Option Value} {a : Str} {v : Option Value} {stored : List Str} (ha : m a = v) (off : ∀ y, stored.contains y = false → m y = m₀ y) : m = fun y => if y = a then v else if stored.contains y then m y else m₀ y := by
  funext y
  by_cases e : y = a
  · rw [if_pos e, e, ha]
  · rw [if_neg e]
    cases hy : stored.contains y with
    | true => rw [if_pos rfl]
    | false => rw [if_neg (by decide), off y hy]
theorem norm2 {m m₀ : Str → Option Value} {a b : Str} {v w : Option Value} {stored : List Str} (ha : m a = v) (hb : m b = w) (off : ∀ y, stored.contains y = false → m y = m₀ y) : m = fun y => if y = a then v else if y = b then w else if stored.contains y then m y else m₀ y := by
  funext y
  by_cases e : y = a
  · rw [if_pos e, e, ha]
  · rw [if_neg e]
    by_cases e2 : y = b
    · rw [if_pos e2, e2, hb]
    · rw [if_neg e2]
      cases hy : stored.contains y with
      | true => rw [if_pos rfl]
      | false => rw [if_neg (by decide), off y hy]
section
variable {prog : Program} {w : World} {A : Around} {E : Value → Shared → Prop} {s : Shared} {env : Env} {h₀ : Heap} {x : Str} {body : List Stmt} {Q : Flow → Shared → Prop}
theorem walk_loop {I : Addr} {fp : List Addr} {n : Nat} {P : Nat → Value → Prop} {St : Nat → Heap → Prop} {m₀ : Str → Option Value} {news : List (Addr × Obj)} (J : Nat → (Str → Option Value) → List (Addr × Obj) → Prop) (fo : Addr → Obj)
    (W : Walks prog w A I fp [I] n P St) (hIf : I ∈ fp) (hIo : ∀ i h, St i h → ∃ o, h.get? I = some o) (hLf : env.locals ∉ fp) (hI : h₀.get? I = none) (hnw : ∀ p ∈ news, p.1 ≠ I) (hfp : ∀ i m nx, J i m nx → ∀ b ∈ fp, b ≠ I → (b, fo b) ∈ nx) (hst : St 0 s.heap) (F : Fr h₀ env.locals s.heap m₀) (N : News h₀ env.locals s.heap news) (hj : J 0 m₀ news)
    (turn : ∀ i v m₁ nx h tk oI, i < n → P i v → (∀ p ∈ nx, p.1 ≠ I) → J i m₁ nx → Fr h₀ env.locals h (fun y => if y = x then some v else m₁ y) → News h₀ env.locals h ((I, oI) :: nx) →
      wpAny (model prog w) A (execs body env) (fun f s' => Stop (f = .next ∧ ∃ h' tk' m' nx', s' = { s with heap := h', toks := tk' } ∧ Fr h₀ env.locals h' m' ∧ News h₀ env.locals h' ((I, oI) :: nx') ∧ (∀ p ∈ nx', p.1 ≠ I) ∧ J (i + 1) m' nx')) E { s with heap := h, toks := tk })
    (done : ∀ m₁ nx h tk, J n m₁ nx → Fr h₀ env.locals h m₁ → News h₀ env.locals h nx → Q .next { s with heap := h, toks := tk }) :
    LoopAtV prog w A h₀ env x body Q E (.ref I) s := by
  refine ⟨I, fp, [I], n, P, St, m₀, news, J, rfl, W, hLf, fun b hb => by rw [List.mem_singleton.mp hb]; exact hI, fun p hp hq => hnw p hp (List.mem_singleton.mp hq), hst, F, N, hj, ?_, ?_⟩
  · rintro i v m₁ nx s₁ own ⟨h1, tk1, rfl⟩ hi hP hJ hw hown hown2 hown3 hSt F₁ N₁
    obtain ⟨oI, hoI⟩ := hIo _ _ hSt
    have hm : (I, oI) ∈ own := hown3 I hIf hI oI hoI
    have hw' : ∀ p ∈ nx, p.1 ≠ I := fun p hp e => hw p hp (List.mem_singleton.mpr e)
    have N₂ : News h₀ env.locals h1 ((I, oI) :: nx) := fun p hp => by
      rcases List.mem_cons.mp hp with rfl | hp
      · exact N₁ _ (List.mem_append_left _ hm)
      · exact N₁ _ (List.mem_append_right _ hp)
    refine wpAny_mono (turn i v m₁ nx h1 tk1 oI hi hP hw' hJ F₁ N₂) (fun f s' q => ?_) fun _ _ e => e
    obtain ⟨rfl, h', tk', m', nx', rfl, F', N', hn', hJ'⟩ := q
    refine LoopStepV.next (LoopStepU.intro F' (fun p hp => ?_) (fun p hp hq => hn' p hp (List.mem_singleton.mp hq)) hJ')
    rcases List.mem_append.mp hp with hp | hp
    · have g := hown2 p hp
      by_cases e : p.1 = I
      · have : p = (I, oI) := by
          rw [e] at g
          have g2 : h1.get? I = some p.2 := g
          rw [hoI] at g2
          exact Prod.ext e (Option.some.inj g2).symm
        rw [this]
        exact N' _ (List.mem_cons_self ..)
      · have k1 := hfp _ _ _ hJ p.1 (hown p hp) e
        have k2 := hfp _ _ _ hJ' p.1 (hown p hp) e
        have g1 := (N₂ _ (List.mem_cons_of_mem _ k1)).1
        have g2 : h1.get? p.1 = some p.2 := g
        rw [g1] at g2
        have : p = (p.1, fo p.1) := Prod.ext rfl (Option.some.inj g2).symm
        rw [this]
        exact N' _ (List.mem_cons_of_mem _ k2)
    · exact N' p (List.mem_cons_of_mem _ hp)
  · intro h' tk m' nx F' N' _ hJ
    exact done m' nx h' tk hJ F' N'
theorem list_loop {ax : Addr} {its : Array Value} {k : Nat} {m₀ : Str → Option Value} {news : List (Addr × Obj)} (J₀ : (Str → Option Value) → Nat → (Str → Option Value) → List (Addr × Obj) → Prop)
    (hh : A.handled = none) (F : Fr h₀ env.locals s.heap m₀) (N : News h₀ env.locals s.heap news) (hm : (ax, ({ cls := .type "list", data := .seq its k } : Obj)) ∈ news) (hfp : ∀ i m nx, J₀ m₀ i m nx → (ax, ({ cls := .type "list", data := .seq its k } : Obj)) ∈ nx) (hj : J₀ m₀ 0 m₀ news)
    (turn : ∀ I i v m₁ nx h tk oI, i < its.size → its[i]? = some v → (∀ p ∈ nx, p.1 ≠ I) → J₀ m₀ i m₁ nx → Fr h₀ env.locals h (fun y => if y = x then some v else m₁ y) → News h₀ env.locals h ((I, oI) :: nx) →
      wpAny (model prog w) A (execs body env) (fun f s' => Stop (f = .next ∧ ∃ h' tk' m' nx', s' = { s with heap := h', toks := tk' } ∧ Fr h₀ env.locals h' m' ∧ News h₀ env.locals h' ((I, oI) :: nx') ∧ (∀ p ∈ nx', p.1 ≠ I) ∧ J₀ m₀ (i + 1) m' nx')) E { s with heap := h, toks := tk })
    (done : ∀ m₁ nx h tk, J₀ m₀ its.size m₁ nx → Fr h₀ env.locals h m₁ → News h₀ env.locals h nx → Q .next { s with heap := h, toks := tk }) :
    wpAny (model prog w) A (pyIter (.ref ax)) (fun it s₂ => LoopAtV prog w A h₀ env x body Q E it s₂) E s := by
  have hl := News.isList N hm
  have hlt : ax < s.heap.objs.size := Heap.lt_size (N _ hm).1
  refine wpAny_pyIter_list hl ?_
  have hLa : env.locals ≠ ax := Ne.symm (N _ hm).2.1
  refine walk_loop (J₀ m₀) (fun _ => { cls := .type "list", data := .seq its k }) (Walks.list hh s.heap.objs.size ax (Nat.ne_of_lt hlt) its) (List.mem_cons_self ..) (fun i h st => by obtain ⟨o, e, _⟩ := st.1; exact ⟨o, e⟩) ?_ (next_is_new F) (fun p hp => Nat.ne_of_lt (Heap.lt_size (N p hp).1)) (fun i m nx j b hb hbI => ?_) ⟨⟨_, Heap.get?_push_size _ rfl, rfl, rfl⟩, hl.push _⟩ (F.push _) (fun p hp => ⟨Heap.get?_push_of_some _ (N p hp).1, (N p hp).2⟩) hj (fun i v m₁ nx h tk oI => turn s.heap.objs.size i v m₁ nx h tk oI) done
  · intro hc
    rcases List.mem_cons.mp hc with e | hc
    · exact absurd F.ns.lt (e ▸ Nat.lt_irrefl _)
    · exact hLa (List.mem_singleton.mp hc)
  · rcases List.mem_cons.mp hb with e | hb
    · exact absurd e hbI
    · rw [List.mem_singleton.mp hb]; exact hfp _ _ _ j
theorem str_loop {l : List Nat} {t : Tok} {m₀ : Str → Option Value} {news : List (Addr × Obj)} (J₀ : (Str → Option Value) → Nat → (Str → Option Value) → List (Addr × Obj) → Prop)
    (hh : A.handled = none) (hl : ∀ c ∈ l, c < 128) (F : Fr h₀ env.locals s.heap m₀) (N : News h₀ env.locals s.heap news) (hj : J₀ m₀ 0 m₀ news)
    (turn : ∀ I i u m₁ nx h tk oI, i < l.length → (∀ p ∈ nx, p.1 ≠ I) → J₀ m₀ i m₁ nx → Fr h₀ env.locals h (fun y => if y = x then some (.str (S [l.getD i 0]) u) else m₁ y) → News h₀ env.locals h ((I, oI) :: nx) →
      wpAny (model prog w) A (execs body env) (fun f s' => Stop (f = .next ∧ ∃ h' tk' m' nx', s' = { s with heap := h', toks := tk' } ∧ Fr h₀ env.locals h' m' ∧ News h₀ env.locals h' ((I, oI) :: nx') ∧ (∀ p ∈ nx', p.1 ≠ I) ∧ J₀ m₀ (i + 1) m' nx')) E { s with heap := h, toks := tk })
    (done : ∀ m₁ nx h tk, J₀ m₀ l.length m₁ nx → Fr h₀ env.locals h m₁ → News h₀ env.locals h nx → Q .next { s with heap := h, toks := tk }) :
    wpAny (model prog w) A (pyIter (.str (S l) t)) (fun it s₂ => LoopAtV prog w A h₀ env x body Q E it s₂) E s := by
  refine wpAny_pyIter_ascii (ascii_S hl) ?_
  have hz : (S l).cps.size = l.length := by simp [S]
  have W := Walks.strAscii (prog := prog) (w := w) hh s.heap.objs.size (S l) t
  rw [hz] at W
  refine walk_loop (J₀ m₀) (fun _ => lstOf []) W (List.mem_singleton.mpr rfl) (fun i h st => by obtain ⟨o, e, _⟩ := st; exact ⟨o, e⟩) ?_ (next_is_new F) (fun p hp => Nat.ne_of_lt (Heap.lt_size (N p hp).1)) (fun i m nx j b hb hbI => absurd (List.mem_singleton.mp hb) hbI) ⟨_, Heap.get?_push_size _ rfl, rfl, rfl⟩ (F.push _) (fun p hp => ⟨Heap.get?_push_of_some _ (N p hp).1, (N p hp).2⟩) hj ?_ done
  · intro hc
    exact absurd F.ns.lt ((List.mem_singleton.mp hc) ▸ Nat.lt_irrefl _)
  · rintro i v m₁ nx h tk oI hi ⟨c, u, hc, rfl⟩ hn hJ F' N'
    have e : l.getD i 0 = c := by
      have : (S l).cps[i]? = some c := hc
      simp [S] at this
      simp [this]
    refine turn s.heap.objs.size i u m₁ nx h tk oI hi hn hJ ?_ N'
    rw [e]; exact F'
end
end Mine
end

section
open PySem PySem.W PyProof.Rows PySem.Calls
set_option maxRecDepth 100000
namespace Mine
abbrev Q4 := Int × Int × Int × Int
def mulQ (u v : Q4) : Q4 := (u.1*v.1+u.2.1*v.2.2.1, u.1*v.2.1+u.2.1*v.2.2.2, u.2.2.1*v.1+u.2.2.2*v.2.2.1, u.2.2.1*v.2.1+u.2.2.2*v.2.2.2)
def sumsQ (u v : Q4) : Int × Int × Int := (u.1+u.2.2.2, (u.1*v.1+u.2.1*v.2.2.1)+(u.2.2.1*v.2.1+u.2.2.2*v.2.2.2), v.1+v.2.2.2)
def FitQ (q : Q4) : Prop := Fit q.1 ∧ Fit q.2.1 ∧ Fit q.2.2.1 ∧ Fit q.2.2.2
def stQ (s : Q4 × Q4) (c : Nat) : Q4 × Q4 := if c = 116 then (s.2, s.1) else (s.1, mulQ s.1 s.2)
def stAt (s : Q4 × Q4) (l : List Nat) (i : Nat) : Q4 × Q4 := (l.take i).foldl stQ s
theorem stAt_zero (s : Q4 × Q4) (l : List Nat) : stAt s l 0 = s := rfl
theorem stAt_succ (s : Q4 × Q4) {l : List Nat} {i : Nat} (h : i < l.length) : stAt s l (i + 1) = stQ (stAt s l i) (l.getD i 0) := by
  unfold stAt
  rw [List.take_add_one, List.getElem?_eq_getElem h, List.foldl_append, List.getD, List.getElem?_eq_getElem h]
  rfl
def IsL (x : Int × Int × Int) (o : Obj) : Prop := ∃ t1 t2 t3, o = lstOf [.int x.1 t1, .int x.2.1 t2, .int x.2.2 t3]
def IsT (q : Q4) (o : Obj) : Prop := ∃ t1 t2 t3 t4, o = tupOf [.int q.1 t1, .int q.2.1 t2, .int q.2.2.1 t3, .int q.2.2.2 t4]
def tolO (ls : List Addr) (n : Nat) : Obj := { cls := .type "list", data := .seq (ls.map Value.ref).toArray n }
def TolAt (s : Q4 × Q4) (l : List Nat) (n : Nat) (ls : List Addr) (adds : List (Addr × Obj)) : Prop :=
  ls.length = n ∧ ∀ (j : Nat) (a : Addr), ls[j]? = some a → ∃ o, (a, o) ∈ adds ∧ IsL (sumsQ (stAt s l j).1 (stAt s l j).2) o
def TJ (s : Q4 × Q4) (l : List Nat) (news : List (Addr × Obj)) (m₀ : Str → Option Value) (i : Nat) (m : Str → Option Value) (nx : List (Addr × Obj)) : Prop :=
  ∃ U V T oU oV ls adds, m (Str.ofString "u") = some (.ref U) ∧ m (Str.ofString "v") = some (.ref V) ∧ m (Str.ofString "told") = some (.ref T) ∧
    (U, oU) ∈ adds ∧ IsT (stAt s l i).1 oU ∧ (V, oV) ∈ adds ∧ IsT (stAt s l i).2 oV ∧ nx = (T, tolO ls i) :: (adds ++ news) ∧ TolAt s l (i + 1) ls adds ∧
    (∀ p ∈ adds, p.1 ≠ T) ∧ (∀ q ∈ news, q.1 < T ∧ ∀ p ∈ adds, q.1 < p.1) ∧ (∀ y, [Str.ofString "deed", Str.ofString "u", Str.ofString "v", Str.ofString "told"].contains y = false → m y = m₀ y)
theorem norm3 {m m₀ : Str → Option Value} {a b c : Str} {v w x : Option Value} {stored : List Str} (ha : m a = v) (hb : m b = w) (hc : m c = x) (off : ∀ y, stored.contains y = false → m y = m₀ y) : m = fun y => if y = a then v else if y = b then w else if y = c then x else if stored.contains y then m y else m₀ y := by
  funext y
  by_cases e : y = a
  · rw [if_pos e, e, ha]
  · rw [if_neg e]
    by_cases e2 : y = b
    · rw [if_pos e2, e2, hb]
    · rw [if_neg e2]
      by_cases e3 : y = c
      · rw [if_pos e3, e3, hc]
      · rw [if_neg e3]
        cases hy : stored.contains y with
        | true => rw [if_pos rfl]
        | false => rw [if_neg (by decide), off y hy]
theorem News.drop5 {h₀ h : Heap} {L : Addr} {a b c d e f : Addr × Obj} {news : List (Addr × Obj)} (N : News h₀ L h (a :: b :: c :: d :: e :: f :: news)) : News h₀ L h (a :: b :: c :: d :: f :: news) := fun p hp => N p (by
  simp only [List.mem_cons] at hp ⊢
  rcases hp with h | h | h | h | h | h <;> simp [h])
section
variable {h₀ h : Heap} {L k d I T : Addr} {ok od oI oT : Obj} {rest adds news : List (Addr × Obj)} {ls : List Addr} {i : Nat}
theorem one_of (_N : News h₀ L h ((k, ok) :: rest)) (l : ∀ q ∈ rest, ∀ p ∈ [(k, ok)], q.1 < p.1) : ∀ q ∈ rest, q.1 < k := fun q hq => l q hq (k, ok) (List.mem_singleton.mpr rfl)
theorem one_of2 (_N : News h₀ L h ((k, ok) :: (d, od) :: rest)) (l : ∀ q ∈ rest, ∀ p ∈ [(d, od)], q.1 < p.1) : ∀ q ∈ rest, q.1 < d := fun q hq => l q hq (d, od) (List.mem_singleton.mpr rfl)
theorem lt_of2 (_N : News h₀ L h ((k, ok) :: (d, od) :: (I, oI) :: (T, oT) :: rest)) (l : @LT.lt Nat _ I d ∧ @LT.lt Nat _ T d ∧ AllLt d rest) : ∀ q ∈ (I, oI) :: (T, oT) :: rest, q.1 < d := by
  intro q hq
  rcases List.mem_cons.mp hq with rfl | hq
  · exact l.1
  · rcases List.mem_cons.mp hq with rfl | hq
    · exact l.2.1
    · exact AllLt.out l.2.2 q hq
theorem nx_off {oT' : Obj} (hne : ∀ p ∈ (T, oT) :: (adds ++ news), p.1 ≠ I) (la : ∀ q ∈ (d, od) :: (I, oI) :: (T, oT) :: (adds ++ news), q.1 < k) (ld : ∀ q ∈ (I, oI) :: (T, oT) :: (adds ++ news), q.1 < d) :
    ∀ p ∈ (T, oT') :: (k, ok) :: (d, od) :: (adds ++ news), p.1 ≠ I := by
  intro p hp
  rcases List.mem_cons.mp hp with rfl | hp
  · exact hne (T, oT) (List.mem_cons_self ..)
  · rcases List.mem_cons.mp hp with rfl | hp
    · exact Ne.symm (Nat.ne_of_lt (la (I, oI) (by simp)))
    · rcases List.mem_cons.mp hp with rfl | hp
      · exact Ne.symm (Nat.ne_of_lt (ld (I, oI) (by simp)))
      · exact hne p (List.mem_cons_of_mem _ hp)
theorem append_J {prog : Program} {w : World} {A : Around} {E : Value → Shared → Prop} {s : Shared} {m : Str → Option Value} {Q : Value → Shared → Prop} (hz : ls.length ≤ 1000) (F : Fr h₀ L s.heap m)
    (N : News h₀ L s.heap ((k, ok) :: (d, od) :: (I, oI) :: (T, tolO ls i) :: (adds ++ news))) (la : ∀ q ∈ (d, od) :: (I, oI) :: (T, tolO ls i) :: (adds ++ news), q.1 < k) (ld : ∀ q ∈ (I, oI) :: (T, tolO ls i) :: (adds ++ news), q.1 < d)
    (hT : T ≠ I) (ha : ∀ p ∈ adds, p.1 ≠ T) (hn : ∀ q ∈ news, q.1 < T)
    (hq : ∀ h', Fr h₀ L h' m → News h₀ L h' ((I, oI) :: (T, tolO (ls ++ [k]) (i + 1)) :: (k, ok) :: (d, od) :: (adds ++ news)) → Q .none { s with heap := h' }) :
    wpAny (model prog w) A (call (.builtin "list.append") [.ref T, .ref k]) Q E s := by
  have hm := N (T, tolO ls i) (by simp)
  have sl : sizeLine = 2 ^ 24 := rfl
  refine append_at (its := (ls.map Value.ref).toArray) (n := i) (hsz := by simp; omega) hm.1 fun h' hs ho => hq h' (F.change hs hm.2.1 hm.2.2) ?_
  have e : ({ cls := .type "list", data := .seq ((ls.map Value.ref).toArray.push (.ref k)) (i + 1) } : Obj) = tolO (ls ++ [k]) (i + 1) := by simp [tolO]
  rw [e] at ho
  have keep : ∀ p : Addr × Obj, p ∈ (k, ok) :: (d, od) :: (I, oI) :: (T, tolO ls i) :: (adds ++ news) → p.1 ≠ T → h'.get? p.1 = some p.2 ∧ p.1 ≠ L ∧ h₀.get? p.1 = none := fun p hp hne => ⟨(hs.2 _ hne).trans (N p hp).1, (N p hp).2⟩
  intro p hp
  rcases List.mem_cons.mp hp with rfl | hp
  · exact keep _ (by simp) (Ne.symm hT)
  · rcases List.mem_cons.mp hp with rfl | hp
    · exact ⟨ho, hm.2⟩
    · rcases List.mem_cons.mp hp with rfl | hp
      · exact keep _ (by simp) (Ne.symm (Nat.ne_of_lt (la (T, tolO ls i) (by simp))))
      · rcases List.mem_cons.mp hp with rfl | hp
        · exact keep _ (by simp) (Ne.symm (Nat.ne_of_lt (ld (T, tolO ls i) (by simp))))
        · refine keep p (by simp only [List.mem_cons]; exact .inr (.inr (.inr (.inr hp)))) ?_
          rcases List.mem_append.mp hp with h | h
          · exact ha p h
          · exact Nat.ne_of_lt (hn p h)
theorem TJ_next {st : Q4 × Q4} {l : List Nat} {m₀ m : Str → Option Value} {U V : Addr} {oU oV : Obj} (hT : TolAt st l (i + 1) ls adds) (hS : IsL (sumsQ (stAt st l (i + 1)).1 (stAt st l (i + 1)).2) ok)
    (eu : m (Str.ofString "u") = some (.ref U)) (ev : m (Str.ofString "v") = some (.ref V)) (et : m (Str.ofString "told") = some (.ref T))
    (hU : (U, oU) ∈ (k, ok) :: (d, od) :: adds) (qU : IsT (stAt st l (i + 1)).1 oU) (hV : (V, oV) ∈ (k, ok) :: (d, od) :: adds) (qV : IsT (stAt st l (i + 1)).2 oV)
    (la : ∀ q ∈ (d, od) :: (I, oI) :: (T, tolO ls i) :: (adds ++ news), q.1 < k) (ld : ∀ q ∈ (I, oI) :: (T, tolO ls i) :: (adds ++ news), q.1 < d)
    (hoff : ∀ p ∈ adds, p.1 ≠ T) (hlt : ∀ q ∈ news, q.1 < T ∧ ∀ p ∈ adds, q.1 < p.1)
    (off : ∀ y, [Str.ofString "deed", Str.ofString "u", Str.ofString "v", Str.ofString "told"].contains y = false → m y = m₀ y) :
    TJ st l news m₀ (i + 1) m ((T, tolO (ls ++ [k]) (i + 1)) :: (k, ok) :: (d, od) :: (adds ++ news)) := by
  refine ⟨U, V, T, oU, oV, ls ++ [k], (k, ok) :: (d, od) :: adds, eu, ev, et, hU, qU, hV, qV, rfl, ⟨by rw [List.length_append, hT.1]; rfl, fun j a hj => ?_⟩, fun p hp => ?_, fun q hq => ⟨(hlt q hq).1, fun p hp => ?_⟩, off⟩
  · by_cases hj' : j < ls.length
    · rw [List.getElem?_append_left hj'] at hj
      obtain ⟨o, h1, h2⟩ := hT.2 j a hj
      exact ⟨o, List.mem_cons_of_mem _ (List.mem_cons_of_mem _ h1), h2⟩
    · rw [List.getElem?_append_right (by omega)] at hj
      have e0 : j - ls.length = 0 := by
        cases hh : j - ls.length with
        | zero => rfl
        | succ q => rw [hh] at hj; simp at hj
      rw [e0] at hj
      cases hj
      have ej : j = i + 1 := by have := hT.1; omega
      rw [ej]
      exact ⟨ok, List.mem_cons_self .., hS⟩
  · rcases List.mem_cons.mp hp with rfl | hp
    · exact Ne.symm (Nat.ne_of_lt (la (T, tolO ls i) (by simp)))
    · rcases List.mem_cons.mp hp with rfl | hp
      · exact Ne.symm (Nat.ne_of_lt (ld (T, tolO ls i) (by simp)))
      · exact hoff p hp
  · rcases List.mem_cons.mp hp with rfl | hp
    · exact la q (by simp [hq])
    · rcases List.mem_cons.mp hp with rfl | hp
      · exact ld q (by simp [hq])
      · exact (hlt q hq).2 p hp
end
end Mine
end

section
open PySem PySem.W PyProof.Rows PySem.Calls PySem.Spec
set_option maxRecDepth 100000
namespace Mine
set_option maxHeartbeats 8000000

def tOf (x : Int) : List Nat := List.replicate (x.fmod 2).toNat 116
def sOf (x : Int) : List Nat := List.replicate (1 + (x.fdiv 2).fmod 2).toNat 115
def dOf (x : Int) : List Nat := tOf x ++ sOf x
theorem tOf_len (x : Int) : (tOf x).length ≤ 1 := by
  have h1 := Int.fmod_nonneg_of_pos x (b := 2) (by decide)
  have h2 := Int.fmod_lt_of_pos x (b := 2) (by decide)
  simp only [tOf, List.length_replicate]
  omega
theorem sOf_len (x : Int) : (sOf x).length ≤ 2 := by
  have h3 := Int.fmod_nonneg_of_pos (x.fdiv 2) (b := 2) (by decide)
  have h4 := Int.fmod_lt_of_pos (x.fdiv 2) (b := 2) (by decide)
  simp only [sOf, List.length_replicate]
  omega
theorem emp_eq : Str.ofString "" = S [] := by decide +kernel
theorem t_eq : Str.ofString "t" = S [116] := by decide +kernel
theorem s_eq : Str.ofString "s" = S [115] := by decide +kernel
section
variable {prog : Program} {w : World} {A : Around} {E : Value → Shared → Prop} {s : Shared} {t u : Tok} {Q : Value → Shared → Prop}
theorem mul_t {x : Int} (h : ∀ t' k, Q (.str (S (tOf x)) t') { s with toks := k }) : wpAny (model prog w) A (binaryOp .Mult (.str (Str.ofString "t") t) (.int (x.fmod 2) u)) Q E s := by
  have h1 := Int.fmod_nonneg_of_pos x (b := 2) (by decide)
  have h2 := Int.fmod_lt_of_pos x (b := 2) (by decide)
  rw [t_eq]
  exact mul_S (by omega) (by omega) h
theorem add_E {b : List Nat} (hz : b.length ≤ 16000000) (h : ∀ t' k, Q (.str (S b) t') { s with toks := k }) : wpAny (model prog w) A (binaryOp .Add (.str (Str.ofString "") t) (.str (S b) u)) Q E s := by
  rw [emp_eq]
  exact add_S (by simpa using hz) h
theorem mul_s {x : Int} (h : ∀ t' k, Q (.str (S (sOf x)) t') { s with toks := k }) : wpAny (model prog w) A (binaryOp .Mult (.str (Str.ofString "s") t) (.int (1 + (x.fdiv 2).fmod 2) u)) Q E s := by
  have h3 := Int.fmod_nonneg_of_pos (x.fdiv 2) (b := 2) (by decide)
  have h4 := Int.fmod_lt_of_pos (x.fdiv 2) (b := 2) (by decide)
  rw [s_eq]
  exact mul_S (by omega) (by omega) h
end
local macro_rules | `(tactic| k_mem) => `(tactic| assumption)
local macro_rules | `(tactic| walk_at "call builtin:str.find") => `(tactic| (k_here; first | refine find_e (by assumption) ?_ | refine find3_e (by assumption) ?_ | refine find4_e (by assumption) ?_))
local macro_rules | `(tactic| walk_at "call builtin:str.rfind") => `(tactic| (k_here; refine rfind4_e (by assumption) ?_))
local macro_rules | `(tactic| walk_at "call builtin:len") => `(tactic| (k_here; (with_reducible show wpAny _ _ (call (Value.builtin "len") [Value.str _ _]) _ _ _); refine len_e (by assumption) (by assumption) ?_))
local macro_rules | `(tactic| walk_at "binaryOp Add str str") => `(tactic| (k_here; refine add_e (by assumption) (by assumption) ?_; intro _ _))
local macro_rules | `(tactic| walk_at "subscriptTail") => `(tactic| (k_here; (with_reducible show wpAny _ _ (subscriptTail _ (Expr.Slice _ _ none _) (Value.str _ _) (Value.ref _)) _ _ _); (first | refine slice_ss_e (s := ⟨_, _, _, _, _⟩) (by assumption) (by assumption) (by assumption) (by assumption) ?_ | refine slice_ns_e (s := ⟨_, _, _, _, _⟩) (by assumption) (by assumption) (by assumption) (by assumption) ?_ | refine slice_sn_e (s := ⟨_, _, _, _, _⟩) (by assumption) (by assumption) (by assumption) (by assumption) ?_); intro _ _ _ _ _))
local macro_rules | `(tactic| walk_at "subscriptTail Name Slice str ref") => `(tactic| (k_here; (with_reducible show wpAny _ _ (subscriptTail _ (Expr.Slice _ _ none _) (Value.str _ _) (Value.ref _)) _ _ _); (first | refine slice_ss_e (s := ⟨_, _, _, _, _⟩) (by assumption) (by assumption) (by assumption) (by assumption) ?_ | refine slice_ns_e (s := ⟨_, _, _, _, _⟩) (by assumption) (by assumption) (by assumption) (by assumption) ?_ | refine slice_sn_e (s := ⟨_, _, _, _, _⟩) (by assumption) (by assumption) (by assumption) (by assumption) ?_); intro _ _ _ _ _))
local macro_rules | `(tactic| walk_at "subscriptTail") => `(tactic| (k_here; (with_reducible show wpAny _ _ (subscriptTail _ _ (Value.str _ _) (Value.int _ _)) _ _ _); refine item_e (by assumption) (by omega) (by omega) (by assumption) ?_))
local macro_rules | `(tactic| walk_at "subscriptTail Name BinOp str int") => `(tactic| (k_here; refine item_e (by assumption) (by omega) (by omega) (by assumption) ?_))
local macro_rules | `(tactic| walk_at "subscriptTail Name Constant str int") => `(tactic| (k_here; refine item_e (by assumption) (by omega) (by omega) (by assumption) ?_))
local macro_rules | `(tactic| walk_at "subscriptTail Name UnaryOp str int") => `(tactic| (k_here; refine item_e (by assumption) (by omega) (by omega) (by assumption) ?_))
local macro_rules | `(tactic| walk_at "call type:int") => `(tactic| (k_here; refine int_e (by assumption) (by assumption) ?_))
local macro_rules | `(tactic| walk_at "call builtin:str.split") => `(tactic| (k_here; refine split5_e (by assumption) (by assumption) (by assumption) (by assumption) (by assumption) ?_; intro _ _ _ _ _ _ _ _ _ _ l1; (try k_lt l1)))
local macro_rules | `(tactic| walk_at "exec If") => `(tactic| (k_here; refine wpAny_If ?_))
local macro_rules | `(tactic| walk_at "ite") => `(tactic| (k_here; first
  | refine ite_pos (by first | assumption | exact rfl | (simp only [decide_eq_true_eq, ge_iff_le, bne_iff_ne, beq_iff_eq, ne_eq, Bool.not_eq_true, Bool.not_eq_false]; first | omega | assumption)) ?_
  | refine ite_neg (by first | assumption | (simp only [decide_eq_true_eq, ge_iff_le, bne_iff_ne, beq_iff_eq, ne_eq, Bool.not_eq_true, Bool.not_eq_false, not_not]; first | omega | assumption) | (intro hx; exact absurd hx (by decide))) ?_))

local macro_rules | `(tactic| walk_at "binaryOp Mult str int") => `(tactic| (k_here; (first | (with_reducible refine mul_t ?_) | (with_reducible refine mul_s ?_)); intro _ _))
local macro_rules | `(tactic| walk_at "binaryOp Add str str") => `(tactic| (k_here; (first | (with_reducible refine add_E ?kz ?_) | (with_reducible refine add_S ?kz ?_)); (case kz => ((try simp only [List.length_append]); omega)); intro _ _))

theorem deeds_claim (prog : Program) (w : World) (news : List (Addr × Obj)) (l : Addr) (a b c : Int) (ta tb tc : Tok) :
   Claim prog w 129 20 60 [.ref l] ((l, lstOf [.int a ta, .int b tb, .int c tc]) :: news) (fun r adds => ∃ t, r = .str (S ([a, b, c].flatMap dOf)) t ∧ adds = []) := by
  intro p loose mean mg mb dp un gd cn cs aa ccd cl outer A₀ base h₀ L m s Q E hB hF hK hN hT hk hd hun hret
  refine wpAny_call ?_
  k_dflt cell_enter

  have qa := tOf_len a
  have qb := tOf_len b
  have qc := tOf_len c
  have ra := sOf_len a
  have rb := sOf_len b
  have rc := sOf_len c
  k_steps
  have e : tOf a ++ sOf a ++ tOf b ++ sOf b ++ tOf c ++ sOf c = [a, b, c].flatMap dOf := by simp [dOf]
  rw [e]
  exact hret _ [] _ _ (by k_asm) (News.sub0 (by k_asm) (fun p hp => by simp only [List.mem_append, List.mem_cons] at hp ⊢; grind)) (fun _ _ _ h => nomatch h) ⟨_, rfl, rfl⟩

end Mine
end

section
open PySem PySem.W PyProof.Rows PySem.Calls PySem.Spec
set_option maxRecDepth 100000
namespace Mine
set_option maxHeartbeats 4000000
theorem times_claim (prog : Program) (w : World) (news : List (Addr × Obj)) (u v : Addr) (a b c d e f g h : Int) (t1 t2 t3 t4 t5 t6 t7 t8 : Tok)
   (hu : (u, tupOf [.int a t1, .int b t2, .int c t3, .int d t4]) ∈ news) (hv : (v, tupOf [.int e t5, .int f t6, .int g t7, .int h t8]) ∈ news)
   (q1 : Fit a) (q2 : Fit b) (q3 : Fit c) (q4 : Fit d) (q5 : Fit e) (q6 : Fit f) (q7 : Fit g) (q8 : Fit h) :
   Claim prog w 115 4 8 [.ref u, .ref v] news (fun r adds => ∃ k s1 s2 s3 s4, r = .ref k ∧ adds = [(k, tupOf [.int (a*e+b*g) s1, .int (a*f+b*h) s2, .int (c*e+d*g) s3, .int (c*f+d*h) s4])]) := by
  have m1 := q1.mul q5; have m2 := q2.mul q7; have m3 := q1.mul q6; have m4 := q2.mul q8
  have m5 := q3.mul q5; have m6 := q4.mul q7; have m7 := q3.mul q6; have m8 := q4.mul q8
  clear q1 q2 q3 q4 q5 q6 q7 q8
  intro p loose mean mg mb dp un gd cn cs aa ccd cl outer A₀ base h₀ L m s Q E hB hF hK hN hT hk hd hun hret
  refine wpAny_call ?_
  k_dflt cell_enter
  k_steps
  exact hret _ [_] _ _ (by k_asm) (by k_asm) (News.one (by assumption)) ⟨_, _, _, _, _, rfl, rfl⟩

local macro_rules | `(tactic| k_mem) => `(tactic| assumption)
local macro_rules | `(tactic| walk_at "call ref") => `(tactic| (
  k_here; k_dflt (
  refine' Claim.use (times_claim _ _ _ _ _ _ _ _ _ _ _ _ _ _ _ _ _ _ _ _ _ ?hu ?hv ?f1 ?f2 ?f3 ?f4 ?f5 ?f6 ?f7 ?f8) ?k1 ?k2 ?k3 ?k4 ?k5 ?k6 ?k7 ?k8 ?_;
  (case k1 => k_asm); (case k2 => k_asm); (case k3 => k_asm); (case k4 => k_asm); (case k5 => k_asm); (case k6 => first | exact rfl | assumption); (case k7 => ktr_room); (case k8 => ktr_units); (case hu => k_mem); (case hv => k_mem);
  (case f1 => assumption); (case f2 => assumption); (case f3 => assumption); (case f4 => assumption); (case f5 => assumption); (case f6 => assumption); (case f7 => assumption); (case f8 => assumption);
  k_whole); intro r9 adds9 h9 tk9 F9 N9 l9 R9; obtain ⟨k9, s9, u9, x9, y9, e9, E9⟩ := R9; subst e9; subst E9; (try dsimp only [List.cons_append, List.nil_append] at N9); (try k_fold)))

theorem sums_claim (prog : Program) (w : World) (news : List (Addr × Obj)) (u v : Addr) (a b c d e f g h : Int) (t1 t2 t3 t4 t5 t6 t7 t8 : Tok)
   (hu : (u, tupOf [.int a t1, .int b t2, .int c t3, .int d t4]) ∈ news) (hv : (v, tupOf [.int e t5, .int f t6, .int g t7, .int h t8]) ∈ news)
   (q1 : Fit a) (q2 : Fit b) (q3 : Fit c) (q4 : Fit d) (q5 : Fit e) (q6 : Fit f) (q7 : Fit g) (q8 : Fit h) :
   Claim prog w 122 8 16 [.ref u, .ref v] news (fun r adds => ∃ k s1 s2 s3, r = .ref k ∧ adds = [(k, lstOf [.int (a+d) s1, .int ((a*e+b*g)+(c*f+d*h)) s2, .int (e+h) s3])]) := by
  intro p loose mean mg mb dp un gd cn cs aa ccd cl outer A₀ base h₀ L m s Q E hB hF hK hN hT hk hd hun hret
  refine wpAny_call ?_
  k_dflt cell_enter
  k_steps
  exact hret _ [_] _ _ (by k_asm) (News.pick1 (by k_asm)) (News.one (AllLt.out (And.right (by assumption)))) ⟨_, _, _, _, rfl, rfl⟩
end Mine
end

section
open PySem PySem.W PyProof.Rows PySem.Calls PySem.Spec
set_option maxRecDepth 100000
namespace Mine
set_option maxHeartbeats 8000000

theorem ints4 {ys : List Value} {a b c d : Int} (h : IntsAre ys [a, b, c, d]) : ∃ t1 t2 t3 t4, ys = [.int a t1, .int b t2, .int c t3, .int d t4] := by
  cases h with
  | cons _ t1 h => cases h with
    | cons _ t2 h => cases h with
      | cons _ t3 h => cases h with
        | cons _ t4 h => cases h; exact ⟨t1, t2, t3, t4, rfl⟩
def cA (code : Int) : Int := (code.fdiv 1).fmod 4
def cB (code : Int) : Int := (code.fdiv 4).fmod 4
def cC (code : Int) : Int := (code.fdiv 16).fmod 4
def cD (code : Int) : Int := (code.fdiv 64).fmod 4
def q0 (code : Int) : Q4 × Q4 := ((1, cA code, cB code, cA code * cB code + 1), (1, cC code, cD code, cC code * cD code + 1))
theorem code_ks (code : Int) : (rangeKs 0 (4 - 0 : Int).toNat).map (fun k' => (code.fdiv (4 ^ k'.toNat)).fmod 4) = [cA code, cB code, cC code, cD code] := rfl
section
variable {prog : Program} {w : World} {A : Around} {E : Value → Shared → Prop} {s : Shared} {t u : Tok} {Q : Value → Shared → Prop}
theorem pow4 {k : Int} (h0 : 0 ≤ k) (h1 : k < 4) : (4 : Int) ^ k.toNat = 1 ∨ (4 : Int) ^ k.toNat = 4 ∨ (4 : Int) ^ k.toNat = 16 ∨ (4 : Int) ^ k.toNat = 64 := by
  obtain ⟨n, rfl⟩ := Int.eq_ofNat_of_zero_le h0
  have : n < 4 := by omega
  match n, this with
  | 0, _ => decide
  | 1, _ => decide
  | 2, _ => decide
  | 3, _ => decide
theorem fd4 {a k : Int} (h0 : 0 ≤ k) (h1 : k < 4) (h : Q (.int (a.fdiv (4 ^ k.toNat)) s.toks) { s with toks := s.toks + 1 }) : wpAny (model prog w) A (binaryOp .FloorDiv (.int a t) (.int (4 ^ k.toNat) u)) Q E s :=
  floordiv_int (by rcases pow4 h0 h1 with e | e | e | e <;> rw [e] <;> decide) h (Or.inl (PyProof.noPylong_small (by rcases pow4 h0 h1 with e | e | e | e <;> rw [e] <;> decide)))
end
local macro_rules | `(tactic| k_mem) => `(tactic| assumption)
local macro_rules | `(tactic| walk_at "call builtin:str.find") => `(tactic| (k_here; first | refine find_e (by assumption) ?_ | refine find3_e (by assumption) ?_ | refine find4_e (by assumption) ?_))
local macro_rules | `(tactic| walk_at "call builtin:str.rfind") => `(tactic| (k_here; refine rfind4_e (by assumption) ?_))
local macro_rules | `(tactic| walk_at "call builtin:len") => `(tactic| (k_here; (with_reducible show wpAny _ _ (call (Value.builtin "len") [Value.str _ _]) _ _ _); refine len_e (by assumption) (by assumption) ?_))
local macro_rules | `(tactic| walk_at "binaryOp Add str str") => `(tactic| (k_here; refine add_e (by assumption) (by assumption) ?_; intro _ _))
local macro_rules | `(tactic| walk_at "subscriptTail") => `(tactic| (k_here; (with_reducible show wpAny _ _ (subscriptTail _ (Expr.Slice _ _ none _) (Value.str _ _) (Value.ref _)) _ _ _); (first | refine slice_ss_e (s := ⟨_, _, _, _, _⟩) (by assumption) (by assumption) (by assumption) (by assumption) ?_ | refine slice_ns_e (s := ⟨_, _, _, _, _⟩) (by assumption) (by assumption) (by assumption) (by assumption) ?_ | refine slice_sn_e (s := ⟨_, _, _, _, _⟩) (by assumption) (by assumption) (by assumption) (by assumption) ?_); intro _ _ _ _ _))
local macro_rules | `(tactic| walk_at "subscriptTail Name Slice str ref") => `(tactic| (k_here; (with_reducible show wpAny _ _ (subscriptTail _ (Expr.Slice _ _ none _) (Value.str _ _) (Value.ref _)) _ _ _); (first | refine slice_ss_e (s := ⟨_, _, _, _, _⟩) (by assumption) (by assumption) (by assumption) (by assumption) ?_ | refine slice_ns_e (s := ⟨_, _, _, _, _⟩) (by assumption) (by assumption) (by assumption) (by assumption) ?_ | refine slice_sn_e (s := ⟨_, _, _, _, _⟩) (by assumption) (by assumption) (by assumption) (by assumption) ?_); intro _ _ _ _ _))
local macro_rules | `(tactic| walk_at "subscriptTail") => `(tactic| (k_here; (with_reducible show wpAny _ _ (subscriptTail _ _ (Value.str _ _) (Value.int _ _)) _ _ _); refine item_e (by assumption) (by omega) (by omega) (by assumption) ?_))
local macro_rules | `(tactic| walk_at "subscriptTail Name BinOp str int") => `(tactic| (k_here; refine item_e (by assumption) (by omega) (by omega) (by assumption) ?_))
local macro_rules | `(tactic| walk_at "subscriptTail Name Constant str int") => `(tactic| (k_here; refine item_e (by assumption) (by omega) (by omega) (by assumption) ?_))
local macro_rules | `(tactic| walk_at "subscriptTail Name UnaryOp str int") => `(tactic| (k_here; refine item_e (by assumption) (by omega) (by omega) (by assumption) ?_))
local macro_rules | `(tactic| walk_at "call type:int") => `(tactic| (k_here; refine int_e (by assumption) (by assumption) ?_))
local macro_rules | `(tactic| walk_at "call builtin:str.split") => `(tactic| (k_here; refine split5_e (by assumption) (by assumption) (by assumption) (by assumption) (by assumption) ?_; intro _ _ _ _ _ _ _ _ _ _ l1; (try k_lt l1)))
local macro_rules | `(tactic| walk_at "exec If") => `(tactic| (k_here; refine wpAny_If ?_))
local macro_rules | `(tactic| walk_at "ite") => `(tactic| (k_here; first
  | refine ite_pos (by first | assumption | exact rfl | (simp only [decide_eq_true_eq, ge_iff_le, bne_iff_ne, beq_iff_eq, ne_eq, Bool.not_eq_true, Bool.not_eq_false]; first | omega | assumption)) ?_
  | refine ite_neg (by first | assumption | (simp only [decide_eq_true_eq, ge_iff_le, bne_iff_ne, beq_iff_eq, ne_eq, Bool.not_eq_true, Bool.not_eq_false, not_not]; first | omega | assumption) | (intro hx; exact absurd hx (by decide))) ?_))

local macro_rules | `(tactic| walk_at "binaryOp FloorDiv int int") => `(tactic| (k_here; refine fd4 (by omega) (by omega) ?_))
local macro_rules | `(tactic| walk_at "pyIter str") => `(tactic| ((with_reducible show wpAny _ _ (pyIter (Value.str _ _)) _ _ _); refine Stop.enter ?_))
local macro_rules | `(tactic| k_mem) => `(tactic| first | assumption | exact List.mem_cons_self .. | exact List.mem_cons_of_mem _ (by assumption))
local macro_rules | `(tactic| walk_at "call builtin:list.append") => `(tactic| refine Stop.enter ?_)
local macro_rules | `(tactic| walk_at "call ref") => `(tactic| (
  k_here; k_dflt (
  refine' Claim.use (times_claim _ _ _ _ _ _ _ _ _ _ _ _ _ _ _ _ _ _ _ _ _ ?hu ?hv ?f1 ?f2 ?f3 ?f4 ?f5 ?f6 ?f7 ?f8) ?k1 ?k2 ?k3 ?k4 ?k5 ?k6 ?k7 ?k8 ?_;
  (case k1 => k_asm); (case k2 => k_asm); (case k3 => k_asm); (case k4 => k_asm); (case k5 => k_asm); (case k6 => first | exact rfl | assumption); (case k7 => ktr_room); (case k8 => ktr_units); (case hu => k_mem); (case hv => k_mem);
  (case f1 => assumption); (case f2 => assumption); (case f3 => assumption); (case f4 => assumption); (case f5 => assumption); (case f6 => assumption); (case f7 => assumption); (case f8 => assumption);
  k_whole); intro r9 adds9 h9 tk9 F9 N9 l9 R9; obtain ⟨k9, s9, u9, x9, y9, e9, E9⟩ := R9; subst e9; subst E9; (try dsimp only [List.cons_append, List.nil_append] at N9); (try k_fold)))
local macro_rules | `(tactic| walk_at "call ref") => `(tactic| (
  k_here; k_dflt (
  refine' Claim.use (sums_claim _ _ _ _ _ _ _ _ _ _ _ _ _ _ _ _ _ _ _ _ _ ?hu ?hv ?f1 ?f2 ?f3 ?f4 ?f5 ?f6 ?f7 ?f8) ?k1 ?k2 ?k3 ?k4 ?k5 ?k6 ?k7 ?k8 ?_;
  (case k1 => k_asm); (case k2 => k_asm); (case k3 => k_asm); (case k4 => k_asm); (case k5 => k_asm); (case k6 => first | exact rfl | assumption); (case k7 => ktr_room); (case k8 => ktr_units); (case hu => k_mem); (case hv => k_mem);
  (case f1 => assumption); (case f2 => assumption); (case f3 => assumption); (case f4 => assumption); (case f5 => assumption); (case f6 => assumption); (case f7 => assumption); (case f8 => assumption);
  k_whole); intro r9 adds9 h9 tk9 F9 N9 l9 R9; obtain ⟨k9, s9, u9, x9, e9, E9⟩ := R9; subst e9; subst E9; (try dsimp only [List.cons_append, List.nil_append] at N9); (try k_fold)))

theorem told_claim (prog : Program) (w : World) (news : List (Addr × Obj)) (code : Int) (l : List Nat) (tc tl : Tok) (h0 : 0 ≤ code) (h1 : code < 256) (hl : l.length ≤ 9) (hc : ∀ c ∈ l, c = 116 ∨ c = 115) (hf : ∀ i, FitQ (stAt (q0 code) l i).1 ∧ FitQ (stAt (q0 code) l i).2) :
   Claim prog w 134 60 200 [.int code tc, .str (S l) tl] news (fun r adds => ∃ T ls adds0, r = .ref T ∧ adds = (T, tolO ls l.length) :: adds0 ∧ TolAt (q0 code) l (l.length + 1) ls adds0) := by
  intro p loose mean mg mb dp un gd cn cs aa ccd cl outer A₀ base h₀ L m s Q E hB hF hK hN hT hk hd hun hret
  refine wpAny_call ?_
  k_dflt (refine' code_defC ?k1 ?k2 ?k3 ?k4 ?k5 ?kA ?kF ?kK ?k6 ?k7 ?k8 ?k9 ?kB ?kD ?_ ?c2 ?c3 ?c4; (case kA => exact rfl); (case kF => exact rfl); (case kK => assumption); (case k1 => k_asm); (case k2 => k_asm); (case k3 => k_asm); (case k4 => k_asm); (case k5 => k_asm); (case k6 => k_is); (case k7 => k_is); (case k8 => ktr_room); (case k9 => exact BindsTo.of_eq rfl); (case kB => exact rfl); (case kD => decide +kernel); (case c2 => exact rfl); (case c3 => exact rfl); (case c4 => exact rfl); k_whole; intro g' L' h' tk' cells' FG' F' N' Y' B' X' T' l1; (try k_lt l1); k_cells Y'; (try simp only [List.cons_append, List.nil_append] at N'); (try dsimp only); (try k_lift B'); (try k_fold))

  have f0 := hf 0
  rw [stAt_zero] at f0
  obtain ⟨⟨f1, f2, f3, f4⟩, f5, f6, f7, f8⟩ := f0
  have g1 : IntMulOk (cA code) (cB code) := f2.mul f3
  have g2 : IntMulOk (cC code) (cD code) := f6.mul f7
  dsimp only [q0] at f1 f2 f3 f4 f5 f6 f7 f8
  k_steps
  (rename IntsAre _ _ => hI8)
  rw [code_ks] at hI8
  obtain ⟨t1, t2, t3, t4, rfl⟩ := ints4 hI8
  k_steps
  refine Stop.out ?_
  (rename News _ _ _ _ => N5)
  refine' str_loop (TJ (q0 code) l news) ?a1 ?a2 ?a3 ?a4 ?a5 ?a6 ?a7
  (case a3 => k_asm)
  (case a4 => exact News.drop5 N5)
  (case a1 => exact rfl)
  (case a2 => (intro c h; rcases hc c h with rfl | rfl <;> decide))
  · refine ⟨_, _, _, _, _, [_], [_, _, _, _], rfl, rfl, rfl, List.mem_cons_of_mem _ (List.mem_cons_of_mem _ (List.mem_cons_self ..)), ⟨_, _, _, _, rfl⟩, List.mem_cons_of_mem _ (List.mem_cons_self ..), ⟨_, _, _, _, rfl⟩, rfl, ⟨rfl, ?_⟩, ?_, ?_, fun _ _ => rfl⟩
    · intro j a hj
      match j, hj with
      | 0, hj =>
        cases hj
        exact ⟨_, List.mem_cons_self .., _, _, _, rfl⟩
      | n + 1, hj => simp at hj
    · intro p hp
      simp only [List.mem_cons, List.not_mem_nil, or_false] at hp
      rcases hp with rfl | rfl | rfl | rfl <;> exact Nat.ne_of_lt (by dsimp only; omega)
    · intro q hq
      refine ⟨AllLt.out (by first | assumption | exact (show _ ∧ AllLt _ _ from by assumption).2 | exact (show _ ∧ _ ∧ AllLt _ _ from by assumption).2.2 | exact (show _ ∧ _ ∧ _ ∧ AllLt _ _ from by assumption).2.2.2 | exact (show _ ∧ _ ∧ _ ∧ _ ∧ AllLt _ _ from by assumption).2.2.2.2 | exact (show _ ∧ _ ∧ _ ∧ _ ∧ _ ∧ AllLt _ _ from by assumption).2.2.2.2.2) q hq, fun p hp => ?_⟩
      simp only [List.mem_cons, List.not_mem_nil, or_false] at hp
      rcases hp with rfl | rfl | rfl | rfl
      · exact (by assumption : ∀ q ∈ _, ∀ p ∈ [(_, _)], q.1 < p.1) q (by simp [hq]) _ (List.mem_singleton.mpr rfl)
      · exact AllLt.out (by first | assumption | exact (show _ ∧ AllLt _ _ from by assumption).2 | exact (show _ ∧ _ ∧ AllLt _ _ from by assumption).2.2 | exact (show _ ∧ _ ∧ _ ∧ AllLt _ _ from by assumption).2.2.2 | exact (show _ ∧ _ ∧ _ ∧ _ ∧ AllLt _ _ from by assumption).2.2.2.2 | exact (show _ ∧ _ ∧ _ ∧ _ ∧ _ ∧ AllLt _ _ from by assumption).2.2.2.2.2) q hq
      · exact AllLt.out (by first | assumption | exact (show _ ∧ AllLt _ _ from by assumption).2 | exact (show _ ∧ _ ∧ AllLt _ _ from by assumption).2.2 | exact (show _ ∧ _ ∧ _ ∧ AllLt _ _ from by assumption).2.2.2 | exact (show _ ∧ _ ∧ _ ∧ _ ∧ AllLt _ _ from by assumption).2.2.2.2 | exact (show _ ∧ _ ∧ _ ∧ _ ∧ _ ∧ AllLt _ _ from by assumption).2.2.2.2.2) q hq
      · exact Nat.lt_succ_of_lt (l1 q hq)
  · rintro I i u m₁ nx h tk oI hi hne ⟨U, V, T, oU, oV, ls, adds, eu, ev, et, hU, ⟨u1, u2, u3, u4, qU⟩, hV, ⟨v1, v2, v3, v4, qV⟩, rfl, hT, hoff, hlt, off⟩ F4 N4
    rw [norm3 eu ev et off] at F4
    subst qU
    subst qV
    have hU' : (U, tupOf [.int (stAt (q0 code) l i).1.1 u1, .int (stAt (q0 code) l i).1.2.1 u2, .int (stAt (q0 code) l i).1.2.2.1 u3, .int (stAt (q0 code) l i).1.2.2.2 u4]) ∈ (I, oI) :: (T, tolO ls i) :: (adds ++ news) := List.mem_cons_of_mem _ (List.mem_cons_of_mem _ (List.mem_append_left _ hU))
    have hV' : (V, tupOf [.int (stAt (q0 code) l i).2.1 v1, .int (stAt (q0 code) l i).2.2.1 v2, .int (stAt (q0 code) l i).2.2.2.1 v3, .int (stAt (q0 code) l i).2.2.2.2 v4]) ∈ (I, oI) :: (T, tolO ls i) :: (adds ++ news) := List.mem_cons_of_mem _ (List.mem_cons_of_mem _ (List.mem_append_left _ hV))
    have ff := hf (i + 1)
    rw [stAt_succ _ hi] at ff
    have f0 := hf i
    obtain ⟨⟨f1, f2, f3, f4⟩, f5, f6, f7, f8⟩ := f0
    have hcl : l.getD i 0 ∈ l := by rw [List.getD, List.getElem?_eq_getElem hi]; exact List.getElem_mem hi
    have hst := stAt_succ (q0 code) hi
    rcases hc _ hcl with e9 | e9
    · rw [e9] at F4 ff hst
      dsimp only [stQ] at ff hst
      k_steps
      refine Stop.out ?_
      (rename News _ _ _ _ => N7)
      have la := one_of N7 (by assumption)
      have ld := lt_of2 N7 (by assumption)
      refine append_J (by rw [hT.1]; omega) (by k_asm) N7 la ld (hne (T, tolO ls i) (List.mem_cons_self ..)) hoff (fun q hq => (hlt q hq).1) fun h' F6 N6 => ?_
      k_steps
      refine Stop.out ⟨rfl, _, _, _, _, rfl, by k_asm, by k_asm, nx_off hne la ld, TJ_next hT ?_ rfl rfl rfl (List.mem_cons_of_mem _ (List.mem_cons_of_mem _ hV)) (by rw [hst]; exact ⟨v1, v2, v3, v4, rfl⟩) (List.mem_cons_of_mem _ (List.mem_cons_of_mem _ hU)) (by rw [hst]; exact ⟨u1, u2, u3, u4, rfl⟩) la ld hoff hlt ?_⟩
      · rw [hst]; exact ⟨_, _, _, rfl⟩
      · intro y hy
        have e1 := ne_of_off (x := Str.ofString "deed") rfl hy
        have e2 := ne_of_off (x := Str.ofString "u") rfl hy
        have e3 := ne_of_off (x := Str.ofString "v") rfl hy
        have e4 := ne_of_off (x := Str.ofString "told") rfl hy
        simp only [e1, e2, e3, e4, if_false, hy]; rfl
    · rw [e9] at F4 ff hst
      dsimp only [stQ] at ff hst
      rw [if_neg (by decide)] at ff hst
      obtain ⟨_, r1, r2, r3, r4⟩ := ff
      dsimp only [mulQ] at r1 r2 r3 r4
      k_steps
      refine Stop.out ?_
      (rename News _ _ _ _ => N7)
      have la := one_of N7 (by assumption)
      have ld := one_of2 N7 (by assumption)
      refine append_J (by rw [hT.1]; omega) (by k_asm) N7 la ld (hne (T, tolO ls i) (List.mem_cons_self ..)) hoff (fun q hq => (hlt q hq).1) fun h' F6 N6 => ?_
      k_steps
      refine Stop.out ⟨rfl, _, _, _, _, rfl, by k_asm, by k_asm, nx_off hne la ld, TJ_next hT ?_ rfl rfl rfl (List.mem_cons_of_mem _ (List.mem_cons_of_mem _ hU)) (by rw [hst]; exact ⟨u1, u2, u3, u4, rfl⟩) (List.mem_cons_of_mem _ (List.mem_cons_self ..)) (by rw [hst]; exact ⟨_, _, _, _, rfl⟩) la ld hoff hlt ?_⟩
      · rw [hst]; exact ⟨_, _, _, rfl⟩
      · intro y hy
        have e1 := ne_of_off (x := Str.ofString "deed") rfl hy
        have e2 := ne_of_off (x := Str.ofString "u") rfl hy
        have e3 := ne_of_off (x := Str.ofString "v") rfl hy
        have e4 := ne_of_off (x := Str.ofString "told") rfl hy
        simp only [e1, e2, e3, e4, if_false, hy]; rfl
  · rintro m₁ nx h tk ⟨U, V, T, oU, oV, ls, adds, eu, ev, et, hU, qU, hV, qV, rfl, hT, hoff, hlt, off⟩ F4 N4
    rw [norm3 eu ev et off] at F4
    k_steps
    refine hret _ ((T, tolO ls l.length) :: adds) _ _ (by k_asm) ?_ ?_ ⟨_, _, _, rfl, rfl, hT⟩
    · (rename News _ _ _ _ => N7)
      exact N7
    · intro q hq p hp
      rcases List.mem_cons.mp hp with rfl | hp
      · exact (hlt q hq).1
      · exact (hlt q hq).2 p hp

end Mine
end

section
open PySem PySem.W PyProof.Rows PySem.Calls
set_option maxRecDepth 100000
namespace Mine
def det (q : Q4) : Int := q.1 * q.2.2.2 - q.2.1 * q.2.2.1
theorem det_mul (u v : Q4) : det (mulQ u v) = det u * det v := by
  unfold det mulQ
  grind
theorem sums_turn (u v : Q4) : sumsQ v u = ((sumsQ u v).2.2, (sumsQ u v).2.1, (sumsQ u v).1) := by
  unfold sumsQ
  refine Prod.ext rfl (Prod.ext ?_ rfl)
  show (v.1*u.1+v.2.1*u.2.2.1)+(v.2.2.1*u.2.1+v.2.2.2*u.2.2.2) = (u.1*v.1+u.2.1*v.2.2.1)+(u.2.2.1*v.2.1+u.2.2.2*v.2.2.2)
  grind
theorem sums_step (u v : Q4) (h : det u = 1) : sumsQ u (mulQ u v) = ((sumsQ u v).1, (sumsQ u v).1 * (sumsQ u v).2.1 - (sumsQ u v).2.2, (sumsQ u v).2.1) := by
  unfold det at h
  unfold sumsQ mulQ
  refine Prod.ext rfl (Prod.ext ?_ rfl)
  show u.1*(u.1*v.1+u.2.1*v.2.2.1)+u.2.1*(u.2.2.1*v.1+u.2.2.2*v.2.2.1) + (u.2.2.1*(u.1*v.2.1+u.2.1*v.2.2.2)+u.2.2.2*(u.2.2.1*v.2.1+u.2.2.2*v.2.2.2)) = (u.1+u.2.2.2)*((u.1*v.1+u.2.1*v.2.2.1)+(u.2.2.1*v.2.1+u.2.2.2*v.2.2.2)) - (v.1+v.2.2.2)
  grind
def In4 (B : Nat) (q : Q4) : Prop := (0 ≤ q.1 ∧ q.1 ≤ B) ∧ (0 ≤ q.2.1 ∧ q.2.1 ≤ B) ∧ (0 ≤ q.2.2.1 ∧ q.2.2.1 ≤ B) ∧ (0 ≤ q.2.2.2 ∧ q.2.2.2 ≤ B)
theorem mul_le {a b : Int} {B : Nat} (ha : 0 ≤ a ∧ a ≤ B) (hb : 0 ≤ b ∧ b ≤ B) : 0 ≤ a * b ∧ a * b ≤ ((B * B : Nat) : Int) := by
  refine ⟨Int.mul_nonneg ha.1 hb.1, ?_⟩
  rw [Int.natCast_mul]
  exact Int.mul_le_mul ha.2 hb.2 hb.1 (Int.natCast_nonneg _)
theorem In4.mul {B : Nat} {u v : Q4} (hu : In4 B u) (hv : In4 B v) : In4 (2 * (B * B)) (mulQ u v) := by
  obtain ⟨a, b, c, d⟩ := hu
  obtain ⟨e, f, g, h⟩ := hv
  have m1 := mul_le a e; have m2 := mul_le b g; have m3 := mul_le a f; have m4 := mul_le b h
  have m5 := mul_le c e; have m6 := mul_le d g; have m7 := mul_le c f; have m8 := mul_le d h
  unfold In4 mulQ
  dsimp only
  generalize B * B = K at *
  refine ⟨?_, ?_, ?_, ?_⟩ <;> constructor <;> omega
theorem In4.mono {B C : Nat} {u : Q4} (hu : In4 B u) (h : B ≤ C) : In4 C u := by
  unfold In4 at *
  refine ⟨?_, ?_, ?_, ?_⟩ <;> constructor <;> omega
def bnd : Nat → Nat
  | 0 => 10
  | n + 1 => 2 * (bnd n * bnd n)
theorem bnd_pos : ∀ n, 1 ≤ bnd n
  | 0 => by decide
  | n + 1 => by
    have := Nat.mul_le_mul (bnd_pos n) (bnd_pos n)
    rw [bnd]; omega
theorem bnd_up (n : Nat) : bnd n ≤ bnd (n + 1) := by
  have := Nat.mul_le_mul_left (bnd n) (bnd_pos n)
  rw [bnd]; omega
def Good4 (n : Nat) (s : Q4 × Q4) : Prop := In4 (bnd n) s.1 ∧ In4 (bnd n) s.2 ∧ det s.1 = 1 ∧ det s.2 = 1
theorem good_t {n : Nat} {s : Q4 × Q4} (h : Good4 n s) : Good4 n (stQ s 116) := ⟨h.2.1, h.1, h.2.2.2, h.2.2.1⟩
theorem good_s {n : Nat} {s : Q4 × Q4} (h : Good4 n s) : Good4 (n + 1) (stQ s 115) :=
  ⟨h.1.mono (bnd_up n), h.1.mul h.2.1, h.2.2.1, by
    show det (mulQ s.1 s.2) = 1
    rw [det_mul, h.2.2.1, h.2.2.2]; rfl⟩
theorem Good4.up {n k : Nat} {s : Q4 × Q4} (h : Good4 n s) : Good4 (n + k) s := by
  induction k with
  | zero => exact h
  | succ k ih => exact ⟨ih.1.mono (bnd_up _), ih.2.1.mono (bnd_up _), ih.2.2⟩
theorem good_fold : ∀ (l : List Nat) (n : Nat) (s : Q4 × Q4), (∀ c ∈ l, c = 116 ∨ c = 115) → Good4 n s → Good4 (n + l.count 115) (l.foldl stQ s)
  | [], n, s, _, h => h
  | c :: l, n, s, hc, h => by
    have hl : ∀ c ∈ l, c = 116 ∨ c = 115 := fun c h => hc c (List.mem_cons_of_mem _ h)
    rcases hc c (List.mem_cons_self ..) with rfl | rfl
    · have := good_fold l n _ hl (good_t h)
      simpa using this
    · have := good_fold l (n + 1) _ hl (good_s h)
      rw [List.foldl_cons, List.count_cons_self, show n + (l.count 115 + 1) = n + 1 + l.count 115 by omega]
      exact this
theorem q0_good (code : Int) : Good4 0 (((1, cA code, cB code, cA code * cB code + 1), (1, cC code, cD code, cC code * cD code + 1)) : Q4 × Q4) := by
  have key : ∀ x : Int, 0 ≤ x.fmod 4 ∧ x.fmod 4 ≤ ((3 : Nat) : Int) := fun x => by
    have h1 := Int.fmod_nonneg_of_pos x (b := 4) (by decide)
    have h2 := Int.fmod_lt_of_pos x (b := 4) (by decide)
    omega
  have ha : 0 ≤ cA code ∧ cA code ≤ ((3 : Nat) : Int) := key _
  have hb : 0 ≤ cB code ∧ cB code ≤ ((3 : Nat) : Int) := key _
  have hc : 0 ≤ cC code ∧ cC code ≤ ((3 : Nat) : Int) := key _
  have hd : 0 ≤ cD code ∧ cD code ≤ ((3 : Nat) : Int) := key _
  have m1 := mul_le ha hb
  have m2 := mul_le hc hd
  unfold Good4 In4 det
  dsimp only
  generalize cA code * cB code = X at *
  generalize cC code * cD code = Y at *
  have e : bnd 0 = 10 := rfl
  rw [e]
  refine ⟨⟨?_, ?_, ?_, ?_⟩, ⟨?_, ?_, ?_, ?_⟩, ?_, ?_⟩
  all_goals first | (constructor <;> omega) | omega
end Mine
end

section
open PySem PySem.W PyProof.Rows PySem.Calls PyProof.Rows.LCg
set_option maxRecDepth 100000
namespace Mine
abbrev two (elt iter iter2 : Expr) (x y : Str) (px py : Pos) (scope : Scope) (pos : Pos) : Expr := .ListComp elt [⟨.Name x px, iter, [], 0⟩, ⟨.Name y py, iter2, [], 0⟩] scope pos
theorem turn_inner (elt iter iter2 : Expr) (x y : Str) (px py : Pos) (scope : Scope) (pos : Pos) (it acc : Value) (env : Env) :
    compTurn (two elt iter iter2 x y px py scope pos) 1 it acc env = (standAt iter2.pos >>= fun _ => pyNext it >>= fun r => match r with
      | none => pure (.done .next)
      | some v => letOwnedTupleGo (.Name y py) it v >>= fun _ => assign (.Name y py) env v >>= fun _ =>
        (eval elt env >>= fun x => call (.builtin "list.append") [acc, x] >>= fun _ => pure ()) >>= fun _ =>
          again (.compLoop (two elt iter iter2 x y px py scope pos) 1 it acc env)) := by rfl
theorem turn_outer (elt iter iter2 : Expr) (x y : Str) (px py : Pos) (scope : Scope) (pos : Pos) (it acc : Value) (env : Env) :
    compTurn (two elt iter iter2 x y px py scope pos) 0 it acc env = (standAt iter.pos >>= fun _ => pyNext it >>= fun r => match r with
      | none => pure (.done .next)
      | some v => letOwnedTupleGo (.Name x px) it v >>= fun _ => assign (.Name x px) env v >>= fun _ =>
        eval iter2 env >>= fun z => standAt iter2.pos >>= fun _ => foldedSetIterable iter2 env z >>= fun z => holding [z] (pyIter z) >>= fun i2 => runOwn (.compStart (two elt iter iter2 x y px py scope pos) 1 i2 acc env) env >>= fun _ =>
          again (.compLoop (two elt iter iter2 x y px py scope pos) 0 it acc env)) := by rfl
section
variable {prog : Program} {w : World} {A : Around} {E : Value → Shared → Prop} {h₀ : Heap} {L : Addr} {m : Str → Option Value} {env : Env} {elt iter iter2 : Expr} {x y : Str} {px py pos : Pos} {scope : Scope} {cl : List (Str × Addr)} {s : Shared} {news : List (Addr × Obj)}
theorem inner_loop {I C D : Addr} {fp : List Addr} {n : Nat} {P R : Nat → Value → Prop} {St : Nat → Heap → Prop} {ys0 : List Value} {m' : Str → Option Value} {RR : Result → Shared → Prop}
    (W : Walks prog w A I fp [I] n P St) (hsz : ys0.length + n ≤ sizeLine) (hIo : ∀ i h, St i h → ∃ o, h.get? I = some o)
    (hSt : ∀ i (h h' : Heap) o, St i h → h.get? I = some o → h'.get? I = some o → News h₀ L h' news → St i h') (hCf : C ∉ fp) (hDf : D ∉ fp)
    (hkind : scope.kind = .function) (hy : scope.names.lookup y = some .local) (hst : St 0 s.heap) (F : Fr h₀ L s.heap m) (hn : s.heap.Ns C m') (N : News h₀ L s.heap ((D, lst ys0) :: news))
    (hIL : L ≠ I) (hI₀ : h₀.get? I = none) (hC₀ : h₀.get? C = none) (hCL : C ≠ L) (ne : I ≠ C ∧ I ≠ D ∧ C ≠ D) (off : Off3 I C D news)
    (T : Turns prog w A h₀ L m env elt y scope cl s (fun _ => True) n P R news)
    (fin : ∀ h tk m' zs, zs.length = n → (∀ i z, zs[i]? = some z → R i z) → Fr h₀ L h m → h.Ns C m' → News h₀ L h ((D, lst (ys0 ++ zs)) :: news) → RR (.ok .next) { s with heap := h, toks := tk }) :
    codeAny (model prog w) A (.compLoop (two elt iter iter2 x y px py scope pos) 1 (.ref I) (.ref D) (compEnvC scope cl C env)) RR s := by
  obtain ⟨hIC, hID, hCD⟩ := ne
  have hD := N _ (List.mem_cons_self ..)
  have hDL : D ≠ L := hD.2.1
  have hD₀ : h₀.get? D = none := hD.2.2
  refine codeAny_loop rfl (fun k s' => ∃ h' tk i zs m', s' = { s with heap := h', toks := tk } ∧ i ≤ n ∧ k = n + 1 - i ∧ zs.length = i ∧ (∀ i z, zs[i]? = some z → R i z) ∧ St i h' ∧ Fr h₀ L h' m ∧ h'.Ns C m' ∧ News h₀ L h' ((D, lst (ys0 ++ zs)) :: news)) ?_ (n + 1)
    ⟨s.heap, s.toks, 0, [], m', rfl, Nat.zero_le _, rfl, rfl, (fun i z h => by simp at h), hst, F, hn, by rw [List.append_nil]; exact N⟩
  rintro k s' ⟨h', tk, i, zs, m', rfl, hi, rfl, hzl, hzR, hst', F', hn', N'⟩
  show wpAny _ A ((compTurn (two elt iter iter2 x y px py scope pos) 1 (.ref I) (.ref D) (compEnvC scope cl C env)).onRaise (fun x => do noteFrame x (compEnvC scope cl C env); theTreesLotGoes x)) _ _ _
  refine wpAny_noted ?_
  rw [turn_inner]
  refine wpAny_bind (wpAny_standAt (wpAny_bind ?_))
  by_cases hlt : i < n
  · refine W.item i _ _ _ hlt hst' fun v h₂ tk₂ hPv hst₂ hk₂ => ?_
    refine wpAny_bind (wpAny_of_eq (a := ()) (by rfl) ?_)
    refine wpAny_bind (wpAny_assign_Name (wpAny_storeName_local (lookup_relabel_local hy) (hn'.at' fun o e => hk₂ _ o (by simpa using Ne.symm hIC) e) (fun h₃ hn₃ hs₃ => ?_) (by simp [compEnvC, relabel, hkind])))
    have hst₃ : St (i + 1) h₃ := W.frame _ _ _ hst₂ fun b hb o e => hs₃.extBut b o (fun q => hCf (by have q' : b = C := q; rw [← q']; exact hb)) e
    obtain ⟨oI, heI⟩ := hIo _ _ hst₃
    obtain ⟨oC, heC, hoC⟩ := ns_obj hn₃
    have F₃ : Fr h₀ L h₃ m := (fr_but F' hk₂ hIL hI₀).change hs₃ hCL hC₀
    have off3 := off.mem
    have N₂ : News h₀ L h₂ ((D, lst (ys0 ++ zs)) :: news) := news_but N' hk₂ fun p hp => by
      rcases List.mem_cons.mp hp with rfl | hp
      · exact Ne.symm hID
      · exact (off3 p hp).1
    have N₃ : News h₀ L h₃ ((I, oI) :: (C, oC) :: (D, lst (ys0 ++ zs)) :: news) := fun p hp => by
      rcases List.mem_cons.mp hp with rfl | hp
      · exact ⟨heI, Ne.symm hIL, hI₀⟩
      · rcases List.mem_cons.mp hp with rfl | hp
        · exact ⟨heC, hCL, hC₀⟩
        · have z := N₂ p hp
          refine ⟨hs₃.extBut _ _ ?_ z.1, z.2⟩
          rcases List.mem_cons.mp hp with rfl | hp
          · exact Ne.symm hCD
          · exact (off3 p hp).2.1
    refine wpAny_bind (wpAny_bind (wpAny_mono (T i v I oI C oC D _ (ys0 ++ zs) h₃ _ _ hlt hPv hoC (by simp) F₃ N₃ off ⟨hIC, hID, hCD⟩) (fun z s₄ h₄ => ?_) fun _ _ e => e))
    obtain ⟨h₄, tk₄, news₄, rfl, F₄, N₄, off₄, hS₄, rfl, hR₄⟩ := h₄
    have zI := (N₄ (I, oI) List.mem_cons_self).1
    have zC := (N₄ (C, oC) (List.mem_cons_of_mem _ List.mem_cons_self)).1
    have zD := (N₄ (D, lst (ys0 ++ zs)) (List.mem_cons_of_mem _ (List.mem_cons_of_mem _ List.mem_cons_self))).1
    have N₄' : News h₀ L h₄ news₄ := fun p hp => N₄ p (List.mem_cons_of_mem _ (List.mem_cons_of_mem _ (List.mem_cons_of_mem _ hp)))
    have hst₄ : St (i + 1) h₄ := hSt _ _ _ _ hst₃ heI zI N₄'
    refine wpAny_bind (append_at (hsz := by show (ys0 ++ zs).toArray.size ≤ sizeLine; rw [List.size_toArray, List.length_append, hzl]; omega) zD fun h₅ hs₅ hD₅ => ?_)
    refine wpAny_pure (wpAny_pure ⟨rfl, n + 1 - (i + 1), by omega, h₅, tk₄, i + 1, zs ++ [z], _, rfl, hlt, rfl, by rw [List.length_append, List.length_singleton, hzl], fun j q hq => ?_, W.frame _ _ _ hst₄ fun b hb o e => hs₅.extBut b o (fun q => hDf (q ▸ hb)) e, F₄.change hs₅ hDL hD₀, (hoC.ns zC).sameBut hs₅ hCD, fun p hp => ?_⟩)
    · by_cases hj : j < zs.length
      · exact hzR j q (by rwa [List.getElem?_append_left hj] at hq)
      · rw [List.getElem?_append_right (by omega)] at hq
        have h0 : j - zs.length = 0 := by
          cases hh : j - zs.length with
          | zero => rfl
          | succ q => rw [hh] at hq; simp at hq
        rw [h0] at hq
        simp at hq
        have hji : j = i := by omega
        rw [hji, ← hq]; exact hR₄
    · rcases List.mem_cons.mp hp with rfl | hp
      · refine ⟨hD₅.trans (congrArg some ?_), hDL, hD₀⟩
        rw [← List.append_assoc]
        exact lst_snoc (ys0 ++ zs) z
      · exact ⟨hs₅.extBut _ _ (off₄.mem p hp).2.2 (N₄' p hp).1, (N₄' p hp).2⟩
  · obtain rfl : i = n := Nat.le_antisymm hi (Nat.not_lt.mp hlt)
    refine W.done _ _ _ hst' fun h₂ tk₂ hk₂ => ?_
    have off3 := off.mem
    exact wpAny_pure (fin h₂ tk₂ _ zs hzl hzR (fr_but F' hk₂ hIL hI₀) (hn'.at' fun o e => hk₂ _ o (by simpa using Ne.symm hIC) e) (news_but N' hk₂ fun p hp => by
      rcases List.mem_cons.mp hp with rfl | hp
      · exact Ne.symm hID
      · exact (off3 p hp).1))
end
end Mine
end

section
open PySem PySem.W PyProof.Rows PySem.Calls PyProof.Rows.LCg
set_option maxRecDepth 100000
namespace Mine
section
variable {prog : Program} {w : World} {A : Around} {E : Value → Shared → Prop} {h₀ : Heap} {L : Addr} {m : Str → Option Value} {env : Env} {elt iter : Expr} {x y : Str} {px py px2 pos : Pos} {scope : Scope} {cl : List (Str × Addr)} {s : Shared} {news : List (Addr × Obj)}
theorem start_inner {iter2 : Expr} {it acc : Value} {R : Result → Shared → Prop} {cenv : Env}
    (h0 : codeAny (model prog w) A (.compLoop (two elt iter iter2 x y px py scope pos) 1 it acc cenv) R s)
    (h : wpAny (model prog w) A (pyIter it) (fun it' s' => codeAny (model prog w) A (.compLoop (two elt iter iter2 x y px py scope pos) 1 it' acc cenv) R s')
      (notedBy (model prog w) A cenv fun x s' => R (.error x) s') s) :
    codeAny (model prog w) A (.compStart (two elt iter iter2 x y px py scope pos) 1 it acc cenv) R s := by
  refine codeAny_of_tree ?_
  show wpAny _ _ ((compStart (two elt iter iter2 x y px py scope pos) 1 it acc cenv).onRaise (fun x => do noteFrame x cenv; standAt theWindowsPlace)) _ _ s
  refine wpAny_notedAt ?_
  unfold compStart
  show wpAny _ _ (ask >>= _) _ _ s
  refine wpAny_bind (wpAny_askSetting (wpAny_ite ?_))
  split
  · first
      | exact wpAny_bind (wpAny_pure (wpAny_pure (And.intro rfl h0)))
      | exact wpAny_pure (And.intro rfl h0)
  · first
      | exact wpAny_bind (wpAny_rule (wpAny_bind (wpAny_standAt (wpAny_bind (wpAny_mono h (fun it' s' h' => wpAny_pure (And.intro rfl h')) fun _ _ x => x)))))
      | (refine wpAny_bind (wpAny_rule ?_); show wpAny _ _ (standAt iter2.pos >>= _) _ _ s; exact wpAny_bind (wpAny_standAt (wpAny_bind (wpAny_mono h (fun it' s' h' => wpAny_pure (And.intro rfl h')) fun _ _ x => x))))
/-- one inner turn of a comprehension over lists of a list -/
def Turn2 (prog : Program) (w : World) (A : Around) (h₀ : Heap) (L : Addr) (m : Str → Option Value) (env : Env) (elt : Expr) (y : Str) (scope : Scope) (cl : List (Str × Addr)) (s : Shared) (Rel : Value → Value → Prop) (news : List (Addr × Obj)) (v : Value) : Prop :=
  ∀ X I oI C oC D m₂ ys h tk (E' : Value → Shared → Prop), LCg.NsObj oC m₂ → m₂ y = some v → Fr h₀ L h m → News h₀ L h ((I, oI) :: (C, oC) :: (D, LCg.lst ys) :: X :: news) → LCg.Off3 I C D (X :: news) → ((@Ne Nat I C) ∧ (@Ne Nat I D) ∧ (@Ne Nat C D)) →
      wpAny (model prog w) A (eval elt (compEnvC scope cl C env)) (fun z s' => Stop (LCg.CompEnd h₀ L m { s with heap := h, toks := tk } I oI C oC D (LCg.lst ys) (fun _ => True) (fun z news' => news' = X :: news ∧ Rel v z) z s')) E' { s with heap := h, toks := tk }
theorem paired_of {Rel : Value → Value → Prop} : ∀ {vs zs : List Value}, zs.length = vs.length → (∀ (i : Nat) z, zs[i]? = some z → ∃ v, vs[i]? = some v ∧ Rel v z) → Paired Rel vs zs
  | [], [], _, _ => .nil
  | v :: vs, z :: zs, h, k => by
    obtain ⟨v', h1, h2⟩ := k 0 z rfl
    cases h1
    exact .cons h2 (paired_of (by simpa using h) fun i q hq => k (i + 1) q hq)
theorem paired_app {Rel : Value → Value → Prop} : ∀ {a b c d : List Value}, Paired Rel a b → Paired Rel c d → Paired Rel (a ++ c) (b ++ d)
  | _, _, _, _, .nil, h => h
  | _, _, _, _, .cons h t, h' => .cons h (paired_app t h')
theorem outer_loop {I C D ax : Addr} {LL : List (Addr × List Value)} {k : Nat} {Rel : Value → Value → Prop} {m' : Str → Option Value} {RR : Result → Shared → Prop} (hh : A.handled = none)
    (hT : (ax, ({ cls := .type "list", data := .seq (LL.map fun p => Value.ref p.1).toArray k } : Obj)) ∈ news) (hL : ∀ p ∈ LL, (p.1, lstOf p.2) ∈ news) (hsz : (LL.flatMap (·.2)).length ≤ 100000)
    (hkind : scope.kind = .function) (hx : scope.names.lookup x = some .local) (hy : scope.names.lookup y = some .local) (hdx : (x == ("__debug__" : Str)) = false)
    (hst : s.heap.IsListIter I ax 0) (F : Fr h₀ L s.heap m) (hn : s.heap.Ns C m') (N : News h₀ L s.heap ((D, lst []) :: news))
    (hIL : L ≠ I) (hI₀ : h₀.get? I = none) (hC₀ : h₀.get? C = none) (hCL : C ≠ L) (ne : I ≠ C ∧ I ≠ D ∧ C ≠ D) (off : Off3 I C D news)
    (T : ∀ p ∈ LL, ∀ v ∈ p.2, Turn2 prog w A h₀ L m env elt y scope cl s Rel news v)
    (hs : ∀ (cenv : Env) z, foldedSetIterable (.Name x px2) cenv z = pure z)
    (fin : ∀ h tk m' ys, Paired Rel (LL.flatMap (·.2)) ys → Fr h₀ L h m → h.Ns C m' → News h₀ L h ((D, lst ys) :: news) → RR (.ok .next) { s with heap := h, toks := tk }) :
    codeAny (model prog w) A (.compLoop (two elt iter (.Name x px2) x y px py scope pos) 0 (.ref I) (.ref D) (compEnvC scope cl C env)) RR s := by
  obtain ⟨hIC, hID, hCD⟩ := ne
  have off3 := off.mem
  have hD := N _ (List.mem_cons_self ..)
  have hDL : D ≠ L := hD.2.1
  have hD₀ : h₀.get? D = none := hD.2.2
  have hax : ax ≠ I := (off3 _ hT).1
  have isL : ∀ h' ys, News h₀ L h' ((D, lst ys) :: news) → h'.IsList ax (LL.map fun p => Value.ref p.1).toArray := fun h' ys N' => News.isList N' (List.mem_cons_of_mem _ hT)
  have W := Walks.list (prog := prog) (w := w) hh I ax hax (LL.map fun p => Value.ref p.1).toArray
  have hz : (LL.map fun p => Value.ref p.1).toArray.size = LL.length := by simp
  rw [hz] at W
  refine codeAny_loop rfl (fun k s' => ∃ h' tk i ys m', s' = { s with heap := h', toks := tk } ∧ i ≤ LL.length ∧ k = LL.length + 1 - i ∧ Paired Rel ((LL.take i).flatMap (·.2)) ys ∧ h'.IsListIter I ax i ∧ Fr h₀ L h' m ∧ h'.Ns C m' ∧ News h₀ L h' ((D, lst ys) :: news)) ?_ (LL.length + 1)
    ⟨s.heap, s.toks, 0, [], m', rfl, Nat.zero_le _, rfl, .nil, hst, F, hn, N⟩
  rintro k s' ⟨h', tk, i, ys, m', rfl, hi, rfl, hP, hst', F', hn', N'⟩
  show wpAny _ A ((compTurn (two elt iter (.Name x px2) x y px py scope pos) 0 (.ref I) (.ref D) (compEnvC scope cl C env)).onRaise (fun x => do noteFrame x (compEnvC scope cl C env); theTreesLotGoes x)) _ _ _
  refine wpAny_noted ?_
  rw [turn_outer]
  refine wpAny_bind (wpAny_standAt (wpAny_bind ?_))
  have hst2 := And.intro hst' (isL h' ys N')
  by_cases hlt : i < LL.length
  · refine W.item i _ _ _ hlt hst2 fun v h₂ tk₂ hPv hst₂ hk₂ => ?_
    refine wpAny_bind (wpAny_of_eq (a := ()) (by rfl) ?_)
    have hv : v = .ref LL[i].1 := by
      have : (LL.map fun p => Value.ref p.1).toArray[i]? = some v := hPv
      simp [hlt] at this
      exact this.symm
    subst hv
    refine wpAny_bind (wpAny_assign_Name (wpAny_storeName_local (lookup_relabel_local hx) (hn'.at' fun o e => hk₂ _ o (by simpa using Ne.symm hIC) e) (fun h₃ hn₃ hs₃ => ?_) (by simp [compEnvC, relabel, hkind])))
    have F₃ : Fr h₀ L h₃ m := (fr_but F' hk₂ hIL hI₀).change hs₃ hCL hC₀
    have N₂ : News h₀ L h₂ ((D, lst ys) :: news) := news_but N' hk₂ fun p hp => by
      rcases List.mem_cons.mp hp with rfl | hp
      · exact Ne.symm hID
      · exact (off3 p hp).1
    have N₃ : News h₀ L h₃ ((D, lst ys) :: news) := fun p hp => by
      have z := N₂ p hp
      refine ⟨hs₃.extBut _ _ ?_ z.1, z.2⟩
      rcases List.mem_cons.mp hp with rfl | hp
      · exact Ne.symm hCD
      · exact (off3 p hp).2.1
    obtain ⟨oI, heI, hoI⟩ := hst₂.1
    have heI₃ : h₃.get? I = some oI := hs₃.extBut _ _ hIC heI
    have N₄ : News h₀ L h₃ ((D, lst ys) :: (I, oI) :: news) := fun p hp => by
      rcases List.mem_cons.mp hp with rfl | hp
      · exact N₃ _ (List.mem_cons_self ..)
      · rcases List.mem_cons.mp hp with rfl | hp
        · exact ⟨heI₃, Ne.symm hIL, hI₀⟩
        · exact N₃ p (List.mem_cons_of_mem _ hp)
    have hmem : LL[i] ∈ LL := List.getElem_mem hlt
    have hin := hL _ hmem
    have hl3 : h₃.IsList LL[i].1 LL[i].2.toArray := News.isList N₃ (List.mem_cons_of_mem _ hin)
    refine wpAny_bind (wpAny_Name (wpAny_loadName_local (by simp [compEnvC, relabel, hkind]) (lookup_relabel_local hx) hn₃ (v := .ref LL[i].1) (by simp) ?_) hdx)
    refine wpAny_bind (wpAny_standAt (wpAny_bind (wpAny_of_eq (hs _ _) (wpAny_bind (wpAny_holding (wpAny_pyIter_list hl3 ?_))))))
    have hltA : LL[i].1 < h₃.objs.size := Heap.lt_size (N₃ _ (List.mem_cons_of_mem _ hin)).1
    have up : ∀ b o, h₃.get? b = some o → (h₃.push { cls := .type "list_iterator", data := .fields #[.ref LL[i].1, .int 0 0] }).get? b = some o := fun b o e => Heap.get?_push_of_some _ e
    obtain ⟨oC, heC, hoC⟩ := ns_obj hn₃
    have hCs : C ≠ h₃.objs.size := Nat.ne_of_lt (Heap.lt_size heC)
    have hDs : D ≠ h₃.objs.size := Nat.ne_of_lt (Heap.lt_size (N₃ _ (List.mem_cons_self ..)).1)
    have W2 := Walks.list (prog := prog) (w := w) hh h₃.objs.size LL[i].1 (Nat.ne_of_lt hltA) LL[i].2.toArray
    have hz2 : LL[i].2.toArray.size = LL[i].2.length := by simp
    rw [hz2] at W2
    have hsum : ys.length + LL[i].2.length ≤ 100000 := by
      have e1 := hP.length
      have e2 : LL.flatMap (·.2) = (LL.take i).flatMap (·.2) ++ (LL[i].2 ++ (LL.drop (i + 1)).flatMap (·.2)) := by
        conv => lhs; rw [← List.take_append_drop i LL, List.flatMap_append, List.drop_eq_getElem_cons hlt, List.flatMap_cons]
      rw [e2] at hsz
      simp only [List.length_append] at hsz
      omega
    have key : ∀ RR' : Result → Shared → Prop, (∀ h tk m' zs, Paired Rel LL[i].2 zs → Fr h₀ L h m → h.Ns C m' → News h₀ L h ((D, lst (ys ++ zs)) :: (I, oI) :: news) → RR' (.ok .next) { s with heap := h, toks := tk }) →
        codeAny (model prog w) A (.compStart (two elt iter (.Name x px2) x y px py scope pos) 1 (.ref h₃.objs.size) (.ref D) (compEnvC scope cl C env)) RR' { s with heap := h₃.push { cls := .type "list_iterator", data := .fields #[.ref LL[i].1, .int 0 0] }, toks := tk₂ + 1 } := by
      intro RR' hRR
      have loop : codeAny (model prog w) A (.compLoop (two elt iter (.Name x px2) x y px py scope pos) 1 (.ref h₃.objs.size) (.ref D) (compEnvC scope cl C env)) RR' { s with heap := h₃.push { cls := .type "list_iterator", data := .fields #[.ref LL[i].1, .int 0 0] }, toks := tk₂ + 1 } := by
        refine inner_loop (s := { s with heap := h₃.push { cls := .type "list_iterator", data := .fields #[.ref LL[i].1, .int 0 0] }, toks := tk₂ + 1 }) (news := (I, oI) :: news) (ys0 := ys) (R := fun j z => ∃ v, LL[i].2[j]? = some v ∧ Rel v z) W2 (by have : sizeLine = 2 ^ 24 := rfl; omega) (fun i h st => by obtain ⟨o, e, _⟩ := st.1; exact ⟨o, e⟩) ?_ ?_ ?_ hkind hy ⟨⟨_, Heap.get?_push_size _ rfl, rfl, rfl⟩, hl3.push _⟩ (F₃.push _)
          (hn₃.at' fun o e => up _ o e) (fun p hp => ⟨up _ _ (N₄ p hp).1, (N₄ p hp).2⟩) (Nat.ne_of_lt F₃.ns.lt) (next_is_new F₃) hC₀ hCL ⟨Ne.symm hCs, Ne.symm hDs, hCD⟩ ?_ ?_ ?_
        · intro j h h' o st e e' Nn
          exact ⟨by obtain ⟨o', q, r⟩ := st.1; rw [e] at q; cases q; exact ⟨o, e', r⟩, News.isList Nn (List.mem_cons_of_mem _ hin)⟩
        · intro hc
          rcases List.mem_cons.mp hc with h | h
          · exact hCs h
          · exact (off3 _ hin).2.1 (List.mem_singleton.mp h).symm
        · intro hc
          rcases List.mem_cons.mp hc with h | h
          · exact hDs h
          · exact (off3 _ hin).2.2 (List.mem_singleton.mp h).symm
        · refine Off3.of fun p hp => ?_
          have hlt' : p.1 < h₃.objs.size := Heap.lt_size (N₄ p (List.mem_cons_of_mem _ hp)).1
          refine ⟨Nat.ne_of_lt hlt', ?_⟩
          rcases List.mem_cons.mp hp with rfl | hp
          · exact ⟨hIC, hID⟩
          · exact (off3 p hp).2
        · intro j v I' oI' C' oC' D' m₂ ys' h tk E' hj hv hC hx' F' N' off' ne'
          refine wpAny_mono (T _ hmem v (List.mem_of_getElem? (by simpa using hv)) (I, oI) I' oI' C' oC' D' m₂ ys' h tk E' hC hx' F' N' off' ne') (fun z s₂ hq => ?_) fun _ _ e => e
          obtain ⟨h4, tk4, nw, e, F4, N4, off4, hS, hn, hR⟩ := hq
          exact ⟨h4, tk4, nw, e, F4, N4, off4, hS, hn, v, by simpa using hv, hR⟩
        · intro h tk m' zs hl hR F' hn' N'
          exact hRR h tk m' zs (paired_of hl hR) F' hn' N'
      exact start_inner loop (wpAny_pyIter_listiter ⟨_, Heap.get?_push_size _ rfl, rfl, rfl⟩ loop)
    refine wpAny_bind (wpAny_runOwn ?_)
    show codeAny (model prog w) A _ _ _
    refine key _ fun h4 tk4 m4 zs hp F4 hn4 N4' => ?_
    refine wpAny_pure ⟨rfl, LL.length + 1 - (i + 1), by omega, h4, tk4, i + 1, ys ++ zs, m4, rfl, hlt, rfl, ?_, ⟨oI, (N4' _ (List.mem_cons_of_mem _ (List.mem_cons_self ..))).1, hoI⟩, F4, hn4, fun p hp => N4' p ?_⟩
    · have e2 : LL.take (i + 1) = LL.take i ++ [LL[i]] := by rw [List.take_add_one, List.getElem?_eq_getElem hlt]; rfl
      rw [e2, List.flatMap_append]
      refine paired_app hP ?_
      simpa using hp
    · rcases List.mem_cons.mp hp with rfl | hp
      · exact List.mem_cons_self ..
      · exact List.mem_cons_of_mem _ (List.mem_cons_of_mem _ hp)
  · obtain rfl : i = LL.length := Nat.le_antisymm hi (Nat.not_lt.mp hlt)
    refine W.done _ _ _ hst2 fun h₂ tk₂ hk₂ => ?_
    rw [List.take_length] at hP
    exact wpAny_pure (fin h₂ tk₂ _ ys hP (fr_but F' hk₂ hIL hI₀) (hn'.at' fun o e => hk₂ _ o (by simpa using Ne.symm hIC) e) (news_but N' hk₂ fun p hp => by
      rcases List.mem_cons.mp hp with rfl | hp
      · exact Ne.symm hID
      · exact (off3 p hp).1))
def Src2 (prog : Program) (w : World) (A : Around) (h₀ : Heap) (L : Addr) (m : Str → Option Value) (env : Env) (elt : Expr) (y : Str) (scope : Scope) (cl : List (Str × Addr)) (Q : Value → Shared → Prop) (xv : Value) (s₁ : Shared) : Prop :=
  ∃ (news : List (Addr × Obj)) (ax : Addr) (LL : List (Addr × List Value)) (k : Nat) (Rel : Value → Value → Prop), xv = .ref ax ∧ A.handled = none ∧ Fr h₀ L s₁.heap m ∧ News h₀ L s₁.heap news ∧
    (ax, ({ cls := .type "list", data := .seq (LL.map fun p => Value.ref p.1).toArray k } : Obj)) ∈ news ∧ (∀ p ∈ LL, (p.1, lstOf p.2) ∈ news) ∧ (LL.flatMap (·.2)).length ≤ 100000 ∧
    (∀ p ∈ LL, ∀ v ∈ p.2, Turn2 prog w A h₀ L m env elt y scope cl s₁ Rel news v) ∧
    (∀ (ys : List Value) D h tk, Paired Rel (LL.flatMap (·.2)) ys → Fr h₀ L h m → News h₀ L h ((D, lst ys) :: news) → Q (.ref D) { s₁ with heap := h, toks := tk })
theorem Src2.mk {Q : Value → Shared → Prop} {ax : Addr} {s₁ : Shared} (LL : List (Addr × List Value)) (k : Nat) (Rel : Value → Value → Prop) (hh : A.handled = none) (F : Fr h₀ L s₁.heap m) (N : News h₀ L s₁.heap news)
   (hT : (ax, ({ cls := .type "list", data := .seq (LL.map fun p => Value.ref p.1).toArray k } : Obj)) ∈ news) (hL : ∀ p ∈ LL, (p.1, lstOf p.2) ∈ news) (hz : (LL.flatMap (·.2)).length ≤ 100000)
   (t : ∀ p ∈ LL, ∀ v ∈ p.2, Turn2 prog w A h₀ L m env elt y scope cl s₁ Rel news v)
   (f : ∀ (ys : List Value) D h tk, Paired Rel (LL.flatMap (·.2)) ys → Fr h₀ L h m → News h₀ L h ((D, lst ys) :: news) → Q (.ref D) { s₁ with heap := h, toks := tk }) :
   Src2 prog w A h₀ L m env elt y scope cl Q (.ref ax) s₁ := ⟨news, ax, LL, k, Rel, rfl, hh, F, N, hT, hL, hz, t, f⟩
theorem ListComp_two {Q : Value → Shared → Prop} (_F₀ : Fr h₀ L s.heap m)
    (hclos : closureFor scope env = pure cl) (hcell : ∀ y ∈ scope.names, y.2 ≠ .cell) (hkind : scope.kind = .function)
    (hnames : ∀ y ∈ scope.names, y.2 = .local → scope.names.lookup y.1 = some .local) (hx : scope.names.lookup x = some .local) (hy : scope.names.lookup y = some .local) (hdx : (x == ("__debug__" : Str)) = false)
    (h : wpAny (model prog w) A (eval iter env) (fun xv s₁ => Stop (Src2 prog w A h₀ L m env elt y scope cl Q xv s₁)) E s)
    (hs : ∀ x, foldedSetIterable iter env x = pure x := by intro _; rfl) (hs2 : ∀ (cenv : Env) z, foldedSetIterable (.Name x px2) cenv z = pure z := by intro _ _; rfl) :
    wpAny (model prog w) A (eval (.ListComp elt [⟨.Name x px, iter, [], 0⟩, ⟨.Name y py, .Name x px2, [], 0⟩] scope pos) env) Q E s := by
  rw [eval_ListComp]
  refine wpAny_comprehension_free (use := none) rfl hs hclos hkind hnames (wpAny_mono h (fun xv s₁ h₁ => ?_) fun _ _ e => e)
  obtain ⟨news, ax, LL, k, Rel, rfl, hh, F₁, N₁, hT, hL, hz, ht, hf⟩ := h₁
  have hl1 := News.isList N₁ hT
  refine wpAny_pyIter_list hl1 ?_
  have hlt : ax < s₁.heap.objs.size := Heap.lt_size (N₁ _ hT).1
  have F : Fr h₀ L (s₁.heap.push { cls := .type "list_iterator", data := .fields #[.ref ax, .int 0 0] }) m := F₁.push _
  have N : News h₀ L (s₁.heap.push { cls := .type "list_iterator", data := .fields #[.ref ax, .int 0 0] }) news := fun p hp => ⟨Heap.get?_push_of_some _ (N₁ p hp).1, (N₁ p hp).2⟩
  have hit : (s₁.heap.push { cls := .type "list_iterator", data := .fields #[.ref ax, .int 0 0] }).IsListIter s₁.heap.objs.size ax 0 := ⟨_, Heap.get?_push_size _ rfl, rfl, rfl⟩
  have hIlt : s₁.heap.objs.size < (s₁.heap.push { cls := .type "list_iterator", data := .fields #[.ref ax, .int 0 0] }).objs.size := by rw [Heap.size_push]; exact Nat.lt_succ_self _
  have hIL : L ≠ s₁.heap.objs.size := Nat.ne_of_lt F₁.ns.lt
  have hI₀ : h₀.get? s₁.heap.objs.size = none := next_is_new F₁
  have offI : ∀ p ∈ news, p.1 ≠ s₁.heap.objs.size := fun p hp => Nat.ne_of_lt (Heap.lt_size (N₁ p hp).1)
  generalize s₁.heap.objs.size = I at hit hIlt hIL hI₀ offI ⊢
  generalize s₁.heap.push { cls := .type "list_iterator", data := .fields #[.ref ax, .int 0 0] } = H1 at F N hit hIlt ⊢
  refine wpAny_newObj_type (wpAny_newFunctionEnv hcell (by intro y hy; simp at hy) (fun h₁ hns₁ hsb₁ => ?_) hkind)
  dsimp only at hns₁ hsb₁ ⊢
  generalize hH2 : H1.push { cls := .type "list", dict := none, data := .seq ([] : List Value).toArray } = H2 at hns₁ hsb₁ ⊢
  have hC : H2.objs.size = H1.objs.size + 1 := by rw [← hH2, Heap.size_push]
  have below : ∀ b, b < H1.objs.size → b ≠ H2.objs.size ∧ b ≠ H1.objs.size := fun b hb => ⟨by rw [hC]; exact Nat.ne_of_lt (Nat.lt_succ_of_lt hb), Nat.ne_of_lt hb⟩
  have hDC : H1.objs.size ≠ H2.objs.size := by rw [hC]; exact Nat.ne_of_lt (Nat.lt_succ_self _)
  have old : ∀ b o, H1.get? b = some o → h₁.get? b = some o := fun b o e => hsb₁.extBut b o (below b (Heap.lt_size e)).1 (Heap.get?_push_of_some _ (hH2 ▸ Heap.get?_push_of_some _ e))
  have hacc : h₁.get? H1.objs.size = some (lst []) := hsb₁.extBut _ _ hDC (Heap.get?_push_of_some _ (hH2 ▸ Heap.get?_push_size _ rfl))
  have fresh : ∀ a, H1.objs.size ≤ a → H1.get? a = none := fun a ha => by
    cases e : H1.get? a with
    | none => rfl
    | some o' => exact absurd (Heap.lt_size e) (Nat.not_lt.mpr ha)
  have fresh₀ : ∀ a, H1.objs.size ≤ a → h₀.get? a = none := fun a ha => by
    cases e : h₀.get? a with
    | none => rfl
    | some o' => have := F.keep a o' e; rw [fresh a ha] at this; cases this
  have hD₀ : h₀.get? H1.objs.size = none := fresh₀ _ (Nat.le_refl _)
  have hC₀ : h₀.get? H2.objs.size = none := fresh₀ _ (by rw [hC]; exact Nat.le_succ _)
  have hLlt : L < H1.objs.size := F.ns.lt
  have hDL : H1.objs.size ≠ L := Ne.symm (below L hLlt).2
  have hCL : H2.objs.size ≠ L := Ne.symm (below L hLlt).1
  have loop : codeAny (model prog w) A (.compLoop (two elt iter (.Name x px2) x y px py scope pos) 0 (.ref I) (.ref H1.objs.size) (compEnvC scope cl H2.objs.size env)) (compPost (model prog w) A E none Q (.ref H1.objs.size) H2.objs.size) { s₁ with heap := h₁, toks := s₁.toks + ([] : List (Str × Value)).length } := by
    refine outer_loop (s := { s₁ with heap := h₁, toks := s₁.toks + ([] : List (Str × Value)).length }) (news := news) (LL := LL) (k := k) (Rel := Rel) hh hT hL hz hkind hx hy hdx ?_ (F.keeps old) hns₁ ?_ hIL hI₀ hC₀ hCL ⟨(below I hIlt).1, (below I hIlt).2, Ne.symm hDC⟩
      (Off3.of fun p hp => ⟨offI p hp, below _ (Heap.lt_size (N p hp).1)⟩) ht hs2 ?_
    · obtain ⟨o, e, r⟩ := hit
      exact ⟨o, old _ _ e, r⟩
    · intro p hp
      rcases List.mem_cons.mp hp with rfl | hp
      · exact ⟨hacc, hDL, hD₀⟩
      · exact ⟨old _ _ (N p hp).1, (N p hp).2⟩
    · intro h tk m' ys hp F' hn' N'
      refine ⟨m', hn', fun h'' hs'' => hf ys _ h'' tk hp (F'.change hs'' hCL hC₀) (fun p hp => ?_)⟩
      refine ⟨hs''.extBut _ _ ?_ (N' p hp).1, (N' p hp).2⟩
      rcases List.mem_cons.mp hp with rfl | hp
      · exact hDC
      · exact (below _ (Heap.lt_size (N p hp).1)).1
  exact codeAny_compStart_list loop (wpAny_pyIter_listiter (l := ax) (i := 0) (by obtain ⟨o, e, r⟩ := hit; exact ⟨o, old _ _ e, r⟩) loop)
end
end Mine
end

section
open PySem PySem.W PyProof.Rows PySem.Calls PySem.Spec PySem.Builtin PySem.Builtin.Re
set_option maxRecDepth 100000
namespace Mine
theorem plainAttrs_pat : PlainAttrs "re.Pattern" :=
  ⟨⟨"object.__getattribute__", by rw [typeLookup_type, builtinLookup_eq_fast]; kernel_rfl, by decide +kernel⟩, by rw [typeLookup_type, builtinLookup_eq_fast]; kernel_rfl⟩
theorem plainAttrs_mat : PlainAttrs "re.Match" :=
  ⟨⟨"object.__getattribute__", by rw [typeLookup_type, builtinLookup_eq_fast]; kernel_rfl, by decide +kernel⟩, by rw [typeLookup_type, builtinLookup_eq_fast]; kernel_rfl⟩
theorem owner_pat : Manifest.owners.lookup (String.ofList ['n', 'r', 'e', 't', 't', 'a', 'P', '.', 'e', 'r'].reverse) = some Manifest.sig_re_Pattern := by kernel_rfl
theorem owner_mat : Manifest.owners.lookup (String.ofList ['h', 'c', 't', 'a', 'M', '.', 'e', 'r'].reverse) = some Manifest.sig_re_Match := by kernel_rfl
theorem slot_search : Slot "re.Pattern" "search" "re.Pattern.search" :=
  .of (owner := "re.Pattern") (n := "search") (by rw [typeLookup_type, builtinLookup_eq_fast]; kernel_rfl) (by decide +kernel) (by decide +kernel) (by decide +kernel)
    (by first | exact .inl (by decide +kernel) | exact .inr (by decide +kernel)) (by rw [isSubtype_type]; kernel_rfl)
theorem type_search : typeOf (.builtin "re.Pattern.search") = pure (.type "method_descriptor") := by show builtinType _ = _; rw [builtinType_eq_fast]; kernel_rfl
theorem entry_search : entryFor table "re.Pattern.search" = some Builtin.«re.Pattern.search» := entryFor_of_tree (by kernel_rfl)
theorem args_search_2 (a b : Value) : argsOk "re.Pattern.search" ⟨[a, b], []⟩ := by
  unfold argsOk; rw [signature?_of (id := "re.Pattern.search") (n := ['h', 'c', 'r', 'a', 'e', 's']) (o := ['n', 'r', 'e', 't', 't', 'a', 'P', '.', 'e', 'r']) (by kernel_rfl) owner_pat]; kernel_rfl
theorem slot_span : Slot "re.Match" "span" "re.Match.span" :=
  .of (owner := "re.Match") (n := "span") (by rw [typeLookup_type, builtinLookup_eq_fast]; kernel_rfl) (by decide +kernel) (by decide +kernel) (by decide +kernel)
    (by first | exact .inl (by decide +kernel) | exact .inr (by decide +kernel)) (by rw [isSubtype_type]; kernel_rfl)
theorem type_span : typeOf (.builtin "re.Match.span") = pure (.type "method_descriptor") := by show builtinType _ = _; rw [builtinType_eq_fast]; kernel_rfl
theorem entry_span : entryFor table "re.Match.span" = some Builtin.«re.Match.span» := entryFor_of_tree (by kernel_rfl)
theorem args_span_2 (a b : Value) : argsOk "re.Match.span" ⟨[a, b], []⟩ := by
  unfold argsOk; rw [signature?_of (id := "re.Match.span") (n := ['n', 'a', 'p', 's']) (o := ['h', 'c', 't', 'a', 'M', '.', 'e', 'r']) (by kernel_rfl) owner_mat]; kernel_rfl

def patObj : Obj := { cls := .type "re.Pattern", data := .fields #[.str (Str.ofString "\\.\\d+$") 294, .int 256 321, .int 0 0, .none, .none, .ref 42, .int 0 0] }
def codeObj : Obj := { cls := .type "tuple", data := .seq #[.int 14 0, .int 8 0, .int 1 0, .int 2 0, .int 4294967295 0, .int 1 0, .int 1 0, .int 46 0, .int 0 0, .int 16 0, .int 46 0, .int 24 0, .int 9 0, .int 1 0, .int 4294967295 0, .int 13 0, .int 4 0, .int 8 0, .int 0 0, .int 0 0, .int 1 0, .int 6 0, .int 5 0, .int 1 0] }
theorem pat_in (P : Params) : (hd.heap_39 P).lookup 43 = some patObj := by rfl
theorem code_in (P : Params) : (hd.heap_39 P).lookup 42 = some codeObj := by rfl

def tgtOf (x : Str) (t : Tok) : ReTarget := { pattern := .ref 43, string := .str x t, code := codeL.toArray, text := x.cps, kind := 0, groups := 0, pos := 0, lim := x.cps.size }
theorem target_wp {M : Model} {A : Around} {E : Value → Shared → Prop} {s : Shared} {x : Str} {t : Tok} {Q : ReTarget → Shared → Prop} (h1 : s.heap.get? 43 = some patObj) (h2 : s.heap.get? 42 = some codeObj) (hz : x.length ≤ sizeLine)
    (h : Q (tgtOf x t) s) : wpAny M A (reTarget "re.Pattern.search" "search" ⟨[.ref 43, .str x t], []⟩) Q E s := by
  unfold reTarget
  dsimp only
  wp_walk
  have e1 : Min.min ((2 : Int) ^ 63 - 1).toNat (x.cps, 0).fst.size = x.cps.size := by
    have h1 : x.cps.size ≤ 2 ^ 24 := hz
    show Min.min ((2 : Int) ^ 63 - 1).toNat x.cps.size = x.cps.size
    omega
  have e2 : Min.min (Int.toNat 0) (x.cps, 0).fst.size = 0 := Nat.zero_min _
  rw [e1, e2]
  have e3 : Array.map (fun x => x.toNat) (Array.map reRawOf ((some #[Value.int 14 0, .int 8 0, .int 1 0, .int 2 0, .int 4294967295 0, .int 1 0, .int 1 0, .int 46 0, .int 0 0, .int 16 0, .int 46 0, .int 24 0, .int 9 0, .int 1 0, .int 4294967295 0, .int 13 0, .int 4 0, .int 8 0, .int 0 0, .int 0 0, .int 1 0, .int 6 0, .int 5 0, .int 1 0]).getD #[])) = codeL.toArray := by decide +kernel
  rw [e3]
  exact h

section
open PySem.Sre
theorem runFor_done {m : M} (h : m.outcome.isSome = true) : ∀ n, m.runFor n = m
  | 0 => rfl
  | n + 1 => by unfold M.runFor; rw [if_pos h]
theorem runFor_add : ∀ (a b : Nat) (m : M), m.runFor (a + b) = (m.runFor a).runFor b
  | 0, b, m => by rw [Nat.zero_add]; rfl
  | a + 1, b, m => by
    by_cases h : m.outcome.isSome = true
    · rw [runFor_done h, runFor_done h, runFor_done h]
    · rw [Nat.add_right_comm]
      have e : ∀ n, M.runFor (n + 1) m = M.runFor n m.step := fun n => by
        show (if m.outcome.isSome = true then m else M.runFor n m.step) = _
        rw [if_neg h]
      rw [e, e]
      exact runFor_add a b _
theorem Ends.le {m m' : M} {n k : Nat} (h : Ends m m' n) (hk : n ≤ k) : m.runFor k = m' := by
  obtain ⟨d, rfl⟩ := Nat.exists_eq_add_of_le hk
  rw [runFor_add, h.1, runFor_done h.2]
theorem drive_wp {M : Model} {A : Around} {E : Value → Shared → Prop} {s : Shared} {Q : Sre.M → Shared → Prop} {m' : Sre.M} (h : Q m' s) : ∀ (turns n : Nat) (m : Sre.M), n < turns → Ends m m' n → wpAny M A (reDrive turns m) Q E s
  | 0, n, _, hn, _ => absurd hn (Nat.not_lt_zero _)
  | turns + 1, n, m, hn, he => by
    unfold reDrive
    dsimp only
    by_cases hc : (m.runFor reTurnSteps).outcome.isSome = true
    · rw [if_pos hc]
      have : m.runFor reTurnSteps = m' := by
        rcases Nat.le_total n reTurnSteps with h1 | h1
        · exact he.le h1
        · obtain ⟨d, rfl⟩ := Nat.exists_eq_add_of_le h1
          have := he.1
          rw [runFor_add, runFor_done hc] at this
          exact this
      rw [this]
      exact wpAny_pure h
    · rw [if_neg hc]
      refine wpAny_bind (wpAny_rule ?_)
      have h4 : reTurnSteps ≤ n := by
        rcases Nat.le_total reTurnSteps n with h1 | h1
        · exact h1
        · exact absurd (by rw [he.le h1]; exact he.2) hc
      obtain ⟨d, rfl⟩ := Nat.exists_eq_add_of_le h4
      refine drive_wp h turns d _ ?_ ⟨by rw [← he.1, runFor_add], he.2⟩
      have : reTurnSteps = 4 := rfl
      omega
end
theorem rules_wp {M : Model} {A : Around} {E : Value → Shared → Prop} {s : Shared} {c : Nat → Bool} {nm : Nat → String} {Q : PUnit → Shared → Prop} (h : Q ⟨⟩ s) :
    ∀ l : List Nat, wpAny M A (forIn l PUnit.unit fun i _ => if c i = true then (do rule (nm i); pure (ForInStep.yield PUnit.unit)) else (pure (ForInStep.yield PUnit.unit) : Sem (ForInStep PUnit))) Q E s
  | [] => wpAny_pure h
  | i :: l => by
    rw [List.forIn_cons]
    by_cases hc : c i = true
    · rw [if_pos hc]
      exact wpAny_bind (wpAny_bind (wpAny_rule (wpAny_pure (rules_wp h l))))
    · rw [if_neg hc]
      exact wpAny_bind (wpAny_pure (rules_wp h l))
theorem toEnd_wp {M : Model} {A : Around} {E : Value → Shared → Prop} {s : Shared} {Q : Option Sre.M → Shared → Prop} {m m' : Sre.M} {n : Nat} (he : Ends m m' n) (hn : n < 2 ^ 64)
    (h : match m'.outcome with | some .matched => Q (some m') s | some .failed => Q none s | _ => False) : wpAny M A (reRunToEnd m) Q E s := by
  unfold reRunToEnd
  refine wpAny_bind (drive_wp ?_ _ n m hn he)
  refine wpAny_bind ?_
  refine rules_wp ?_ _
  split
  · rename_i e; rw [e] at h; exact wpAny_pure h
  · rename_i e; rw [e] at h; exact wpAny_pure h
  · rename_i e; rw [e] at h; exact h.elim
  · rename_i e; rw [e] at h; exact h.elim
end Mine
end

section
open PySem PySem.W PyProof.Rows PySem.Calls PySem.Spec PySem.Builtin PySem.Builtin.Re
set_option maxRecDepth 100000
namespace Mine
abbrev spanObj (a b : Nat) : Obj := { cls := .type "tuple", data := .seq #[.int a 0, .int b 0] }
abbrev matObj (x : Str) (t : Tok) (lim : Nat) (D : Addr) : Obj := { cls := .type "re.Match", data := .fields #[.str x t, .ref 43, .int 0 0, .int lim 0, .int (-1) 0, .ref D] }
section
variable {prog : Program} {w : World} {A : Around} {E : Value → Shared → Prop} {s : Shared} {h₀ : Heap} {L : Addr} {m : Str → Option Value} {news : List (Addr × Obj)}
theorem pat_at (F : Fr h₀ L s.heap m) (K : (hd.heap_39 w.params).In h₀) : s.heap.get? 43 = some patObj ∧ s.heap.get? 42 = some codeObj :=
  ⟨F.keep _ _ (K _ _ (pat_in _)), F.keep _ _ (K _ _ (code_in _))⟩
theorem newMatch_wp {x : Str} {t : Tok} {mm : Sre.M} {a b : Nat} {lim : Nat} {Q : Value → Shared → Prop} (h1 : mm.start = a) (h2 : mm.handed = b) (h3 : mm.lastindex = -1) (F : Fr h₀ L s.heap m) (N : News h₀ L s.heap news)
    (h : ∀ h' D C, Fr h₀ L h' m → News h₀ L h' ((D, matObj x t lim C) :: (C, spanObj a b) :: news) → (∀ p ∈ news, p.1 < C) → C < D → Q (.ref D) { s with heap := h' }) :
    wpAny (model prog w) A (reNewMatch (.ref 43) (.str x t) 0 0 lim mm) Q E s := by
  unfold reNewMatch
  dsimp only
  show wpAny _ _ (do newFields "re.Match" [.str x t, .ref 43, rawInt 0, rawInt lim, rawInt mm.lastindex, ← newTuple (rawInt mm.start :: rawInt mm.handed :: [])]) _ _ _
  rw [h1, h2, h3]
  refine wpAny_bind (newTuple_N F N (fun h' F' N' => ?_))
  refine wpAny_newObj_type (h _ _ _ (F'.push _) (N'.push F' _) (fun p hp => Heap.lt_size (N p hp).1) (Heap.lt_size (N' _ (List.mem_cons_self ..)).1))
theorem search_hit_wp {x : Str} {t : Tok} {Q : Value → Shared → Prop} (pre ds : List Nat) (F : Fr h₀ L s.heap m) (K : (hd.heap_39 w.params).In h₀) (N : News h₀ L s.heap news)
    (hx : x.cps = (pre ++ 46 :: (ds ++ [10])).toArray) (hpre : ∀ c ∈ pre, Dig c ∨ c = 46) (hds : ∀ c ∈ ds, Dig c) (h0 : ds ≠ []) (hz : pre.length + ds.length ≤ 1000)
    (h : ∀ h' D C, Fr h₀ L h' m → News h₀ L h' ((D, matObj x t x.cps.size C) :: (C, spanObj pre.length (pre.length + 1 + ds.length)) :: news) → (∀ p ∈ news, p.1 < C) → C < D → Q (.ref D) { s with heap := h' }) :
    wpAny (model prog w) A (call (.builtin "re.Pattern.search") [.ref 43, .str x t]) Q E s := by
  obtain ⟨mm, k, hk, he, ho, h1, h2, h3⟩ := search_hit pre ds hpre hds h0 hz
  rw [← hx] at he
  have hl : x.length ≤ sizeLine := by
    show x.cps.size ≤ 2 ^ 24
    rw [hx]; simp; omega
  refine wpAny_call_entry slot_search ⟨_, (pat_at F K).1, rfl⟩ entry_search ?_ (args_search_2 _ _)
  unfold Builtin.«re.Pattern.search»
  refine wpAny_bind (target_wp (pat_at F K).1 (pat_at F K).2 hl ?_)
  unfold reAnswer
  refine wpAny_bind (toEnd_wp (m' := mm) he hk ?_)
  rw [ho]
  refine wpAny_bind (newMatch_wp h1 h2 h3 F N fun h' D C F' N' l1 l2 => ?_)
  exact wpAny_pure ⟨_, rfl, h _ _ _ F' N' l1 l2⟩
theorem search_miss_wp {x : Str} {t : Tok} {Q : Value → Shared → Prop} (ds : List Nat) (F : Fr h₀ L s.heap m) (K : (hd.heap_39 w.params).In h₀)
    (hx : x.cps = (ds ++ [10]).toArray) (hds : ∀ c ∈ ds, Dig c) (h0 : ds ≠ []) (hz : ds.length ≤ 1000) (h : Q .none s) :
    wpAny (model prog w) A (call (.builtin "re.Pattern.search") [.ref 43, .str x t]) Q E s := by
  obtain ⟨mm, k, hk, he, ho⟩ := search_miss ds hds h0 hz
  rw [← hx] at he
  have hl : x.length ≤ sizeLine := by
    show x.cps.size ≤ 2 ^ 24
    rw [hx]; simp; omega
  refine wpAny_call_entry slot_search ⟨_, (pat_at F K).1, rfl⟩ entry_search ?_ (args_search_2 _ _)
  unfold Builtin.«re.Pattern.search»
  refine wpAny_bind (target_wp (pat_at F K).1 (pat_at F K).2 hl ?_)
  unfold reAnswer
  refine wpAny_bind (toEnd_wp (m' := mm) he hk ?_)
  rw [ho]
  exact wpAny_pure ⟨_, rfl, h⟩
theorem getSearch {pl : Sem Bool} {Q : Value × List Value → Shared → Prop} (F : Fr h₀ L s.heap m) (K : (hd.heap_39 w.params).In h₀) (h : Q (.builtin "re.Pattern.search", [.ref 43]) s) :
    wpAny (model prog w) A (getMethod (.ref 43) "search" pl) Q E s :=
  getMethod_builtin (T := "re.Pattern") ⟨_, (pat_at F K).1, rfl⟩ plainAttrs_pat slot_search type_search (fun a e => by cases e; exact ⟨_, (pat_at F K).1, rfl⟩) h
theorem getSpan {pl : Sem Bool} {Q : Value × List Value → Shared → Prop} {D : Addr} {x : Str} {t : Tok} {l : Nat} {C : Addr} (N : News h₀ L s.heap news) (hm : (D, matObj x t l C) ∈ news) (h : Q (.builtin "re.Match.span", [.ref D]) s) :
    wpAny (model prog w) A (getMethod (.ref D) "span" pl) Q E s :=
  getMethod_builtin (T := "re.Match") ⟨_, N.get hm, rfl⟩ plainAttrs_mat slot_span type_span (fun a e => by cases e; exact ⟨_, N.get hm, rfl⟩) h

theorem span1 {D C : Addr} {x : Str} {t u : Tok} {a b l : Nat} {Q : ReFound × Nat → Shared → Prop} (hm : s.heap.get? D = some (matObj x t l C)) (hc : s.heap.get? C = some (spanObj a b))
    (h : ∀ f, Q (⟨f, #[(a : Int), (b : Int)]⟩, 0) s) :
    wpAny (model prog w) A (reOneGroup "Match.span" "span" ⟨[.ref D, .int 0 u], []⟩) Q E s := by
  unfold reOneGroup reFound
  wp_walk
  have e : Array.map reRawOf ((some #[Value.int (↑a) 0, Value.int (↑b) 0]).getD #[]) = #[(a : Int), (b : Int)] := by
    show Array.map reRawOf #[Value.int (↑a) 0, Value.int (↑b) 0] = _
    simp [reRawOf]
  rw [e]
  exact h _
theorem lk_string : typeLookup (.type "re.Match") (Str.ofString "string") = pure (some (.builtin "re.Match.string")) := by rw [typeLookup_type, builtinLookup_eq_fast]; kernel_rfl
theorem lk_ga : typeLookup (.type "re.Match") (Str.ofString "__getattribute__") = pure (some (.builtin "object.__getattribute__")) := by rw [typeLookup_type, builtinLookup_eq_fast]; kernel_rfl
theorem lk_bool : typeLookup (.type "re.Match") (Str.ofString "__bool__") = pure none := by rw [typeLookup_type, builtinLookup_eq_fast]; kernel_rfl
theorem lk_len : typeLookup (.type "re.Match") (Str.ofString "__len__") = pure none := by rw [typeLookup_type, builtinLookup_eq_fast]; kernel_rfl
theorem ty_string : typeOf (.builtin "re.Match.string") = pure (.type "member_descriptor") := by kernel_rfl
theorem truthy_mat {D C : Addr} {x : Str} {t : Tok} {l : Nat} {Q : Bool → Shared → Prop} (hm : s.heap.get? D = some (matObj x t l C)) (h : Q true s) : wpAny (model prog w) A (truthy (.ref D)) Q E s := by
  have hT : s.TypeIs (.ref D) "re.Match" := ⟨_, hm, rfl⟩
  unfold truthy
  have f1 := lk_bool
  have f2 := lk_len
  repeat (any_goals (first | assumption | wp_step))

theorem entry_string : entryFor table "re.Match.string" = some Builtin.«re.Match.string» := entryFor_of_tree (by kernel_rfl)
theorem slot_ms_get : Slot "member_descriptor" "__get__" "member_descriptor.__get__" :=
  .of (owner := "member_descriptor") (n := "__get__") (by rw [typeLookup_type, builtinLookup_eq_fast]; kernel_rfl) (by decide +kernel) (by decide +kernel) (by decide +kernel)
    (by first | exact .inl (by decide +kernel) | exact .inr (by decide +kernel)) (by rw [isSubtype_type]; kernel_rfl)
theorem slot_ms_set : Slot "member_descriptor" "__set__" "member_descriptor.__set__" :=
  .of (owner := "member_descriptor") (n := "__set__") (by rw [typeLookup_type, builtinLookup_eq_fast]; kernel_rfl) (by decide +kernel) (by decide +kernel) (by decide +kernel)
    (by first | exact .inl (by decide +kernel) | exact .inr (by decide +kernel)) (by rw [isSubtype_type]; kernel_rfl)
theorem entry_ms_get : entryFor table "member_descriptor.__get__" = some Builtin.«member_descriptor.__get__» := entryFor_of_tree (by kernel_rfl)
theorem args_ms_get (a b c : Value) : argsOk "member_descriptor.__get__" ⟨[a, b, c], []⟩ := by unfold argsOk; kernel_rfl
theorem slot_ga : Slot "re.Match" "__getattribute__" "object.__getattribute__" :=
  .of (owner := "object") (n := "__getattribute__") (by rw [typeLookup_type, builtinLookup_eq_fast]; kernel_rfl) (by decide +kernel) (by decide +kernel) (by decide +kernel)
    (by first | exact .inl (by decide +kernel) | exact .inr (by decide +kernel)) (by rw [isSubtype_type]; kernel_rfl)

theorem args_ga (a b : Value) : argsOk "object.__getattribute__" ⟨[a, b], []⟩ := by unfold argsOk; kernel_rfl
theorem sub_string_owner : isSubtype (.type "re.Match") (.type (".".intercalate ("re.Match.string".cutAt '.').dropLast)) = pure true := by
  have e0 : "re.Match.string".cutAt '.' = ["re", "Match", "string"] := by first | rfl | decide +kernel
  have e1 : (".".intercalate (["re", "Match", "string"] : List String).dropLast) = "re.Match" := by decide +kernel
  rw [e0, e1, isSubtype_type]; kernel_rfl
theorem string_get {D C : Addr} {x : Str} {t : Tok} {l : Nat} {R : Result → Shared → Prop} (hm : s.heap.get? D = some (matObj x t l C)) (hq : R (.ok (.ret (.str x t))) s) :
    codeAny (model prog w) A (.call (.builtin "member_descriptor.__get__") ⟨[.builtin "re.Match.string", .ref D, .type "re.Match"], []⟩) R s := by
  have hT : s.TypeIs (.ref D) "re.Match" := ⟨_, hm, rfl⟩
  have hT5 : s.TypeIs (.builtin "re.Match.string") "member_descriptor" := ty_string
  have f8 := sub_string_owner
  refine codeAny_call_builtin slot_ms_get.plain entry_ms_get (slot_ms_get.check _ _ _ _ _ _ _ _ hT5 (args_ms_get _ _ _) ?_)
  repeat (any_goals (first | assumption | wp_step))
  refine ⟨Code.quiet_builtin _ (by decide +kernel), codeAny_builtin entry_string ?_⟩
  repeat (any_goals (first | assumption | wp_step))

theorem entry_ga : entryFor table "object.__getattribute__" = some Builtin.«object.__getattribute__» := entryFor_of_tree (by kernel_rfl)
set_option maxHeartbeats 2000000 in
theorem string_entry {D C : Addr} {x : Str} {t tk : Tok} {l : Nat} {Q : Fin → Shared → Prop} (hm : s.heap.get? D = some (matObj x t l C)) (hq : Q (.done (.ret (.str x t))) s) :
    wpAny (model prog w) A (Builtin.«object.__getattribute__» ⟨[.ref D, .str "string" tk], []⟩) Q E s := by
  have hT : s.TypeIs (.ref D) "re.Match" := ⟨_, hm, rfl⟩
  have hT5 : s.TypeIs (.builtin "re.Match.string") "member_descriptor" := ty_string
  have f1 := lk_string
  have f4 := slot_ms_get.lookup
  have f5 := slot_ms_set.lookup
  have f6 := ty_string
  repeat (any_goals (first | assumption | wp_step))
  refine string_get hm ?_
  exact wpAny_pure hq
set_option maxHeartbeats 2000000 in
theorem attr_string {D C : Addr} {x : Str} {t : Tok} {l : Nat} {Q : Value → Shared → Prop} (hm : s.heap.get? D = some (matObj x t l C)) (h : ∀ k, Q (.str x t) { s with toks := k }) : wpAny (model prog w) A (getAttr (.ref D) "string" true) Q E s := by
  have hT : s.TypeIs (.ref D) "re.Match" := ⟨_, hm, rfl⟩
  have f2 := slot_ga.lookup
  have f3 := slot_ga.bind (.ref D)
  unfold getAttr
  repeat (any_goals (first | assumption | wp_step))
  refine codeAny_call_builtin slot_ga.plain entry_ga (slot_ga.check _ _ _ _ _ _ _ _ (show Shared.TypeIs _ (.ref D) "re.Match" from ⟨_, hm, rfl⟩) (args_ga _ _) (string_entry hm ?_))
  repeat (any_goals (first | assumption | wp_step))
  exact h _

theorem span_wp {D C : Addr} {x : Str} {t u : Tok} {a b l : Nat} {Q : Value → Shared → Prop} (F : Fr h₀ L s.heap m) (N : News h₀ L s.heap news) (hm : (D, matObj x t l C) ∈ news) (hc : (C, spanObj a b) ∈ news)
    (h : ∀ h' T t1 t2 k, Fr h₀ L h' m → News h₀ L h' ((T, tupOf [.int a t1, .int b t2]) :: news) → (∀ p ∈ news, p.1 < T) → Q (.ref T) { s with heap := h', toks := k }) :
    wpAny (model prog w) A (call (.builtin "re.Match.span") [.ref D, .int 0 u]) Q E s := by
  refine wpAny_call_entry slot_span ⟨_, N.get hm, rfl⟩ entry_span ?_ (args_span_2 _ _)
  unfold Builtin.«re.Match.span»
  refine wpAny_bind (span1 (N.get hm) (N.get hc) fun f => ?_)
  refine wpAny_bind (wpAny_mkInt (wpAny_bind (wpAny_mkInt ?_)))
  refine wpAny_bind (newTuple_N (s := ⟨_, _, _, _, _⟩) F N fun h' F' N' => ?_)
  exact wpAny_pure ⟨_, rfl, h _ _ _ _ _ F' N' (fun p hp => Heap.lt_size (N p hp).1)⟩
end
end Mine
end

section
open PySem PySem.W PyProof.Rows PySem.Calls PySem.Spec
set_option maxRecDepth 100000
namespace Mine
set_option maxHeartbeats 8000000

theorem hdn_call1 {prog : Program} {w : World} {A : Around} {E : Value → Shared → Prop} {s : Shared} {h₀ : Heap} {L : Addr} {m : Str → Option Value} {news : List (Addr × Obj)} {x : Str} {t : Tok} {Q : Value → Shared → Prop} {pre ds : List Nat}
  (F : Fr h₀ L s.heap m) (K : (hd.heap_39 w.params).In h₀) (N : News h₀ L s.heap news)
    (H : x.cps = (pre ++ 46 :: (ds ++ [10])).toArray ∧ (∀ c ∈ pre, Dig c ∨ c = 46) ∧ (∀ c ∈ ds, Dig c) ∧ ds ≠ [] ∧ pre.length + ds.length ≤ 1000)
    (h : ∀ h' D C, Fr h₀ L h' m → News h₀ L h' ((D, matObj x t x.cps.size C) :: (C, spanObj pre.length (pre.length + 1 + ds.length)) :: news) → (∀ p ∈ news, p.1 < C) → C < D → Q (.ref D) { s with heap := h' }) :
    wpAny (model prog w) A (call (.builtin "re.Pattern.search") [.ref 43, .str x t]) Q E s := search_hit_wp pre ds F K N H.1 H.2.1 H.2.2.1 H.2.2.2.1 H.2.2.2.2 h
theorem hdn_call0 {prog : Program} {w : World} {A : Around} {E : Value → Shared → Prop} {s : Shared} {h₀ : Heap} {L : Addr} {m : Str → Option Value} {x : Str} {t : Tok} {Q : Value → Shared → Prop} {ds : List Nat}
  (F : Fr h₀ L s.heap m) (K : (hd.heap_39 w.params).In h₀) 
    (H : x.cps = (ds ++ [10]).toArray ∧ (∀ c ∈ ds, Dig c) ∧ ds ≠ [] ∧ ds.length ≤ 1000) (h : Q .none s) :
    wpAny (model prog w) A (call (.builtin "re.Pattern.search") [.ref 43, .str x t]) Q E s := search_miss_wp ds F K H.1 H.2.1 H.2.2.1 H.2.2.2 h
theorem two_out {news : List (Addr × Obj)} {C D : Addr} {o o' : Obj} (l1 : ∀ p ∈ news, p.1 < C) (l2 : C < D) : ∀ q ∈ news, ∀ p ∈ [(D, o), (C, o')], q.1 < p.1 := by
  intro q hq p hp
  have := l1 q hq
  rcases List.mem_cons.mp hp with rfl | hp
  · exact Nat.lt_trans this l2
  · rw [List.mem_singleton.mp hp]; exact this
local macro_rules | `(tactic| walk_at "getMethod ref") => `(tactic| (k_here; (with_reducible show wpAny _ _ (getMethod (Value.ref 43) _ _) _ _ _); refine getSearch (by assumption) (by assumption) ?_))
local macro_rules | `(tactic| walk_at "call builtin:re.Pattern.search") => `(tactic| (k_here; first | (refine hdn_call1 (by assumption) (by assumption) (by assumption) (by assumption) ?_; intro _ _ _ _ _ _ _) | refine hdn_call0 (by assumption) (by assumption) (by assumption) ?_))
theorem truthy_mat1 {prog : Program} {w : World} {A : Around} {E : Value → Shared → Prop} {s : Shared} {h₀ : Heap} {L : Addr} {news : List (Addr × Obj)} {D C : Addr} {x : Str} {t : Tok} {l : Nat} {Q : Bool → Shared → Prop} (N : News h₀ L s.heap ((D, matObj x t l C) :: news)) (h : Q true s) : wpAny (model prog w) A (truthy (.ref D)) Q E s :=
  truthy_mat (N _ (List.mem_cons_self ..)).1 h
local macro_rules | `(tactic| walk_at "truthy ref") => `(tactic| (k_here; refine truthy_mat1 (by assumption) ?_))
local macro_rules | `(tactic| k_mem) => `(tactic| assumption)
local macro_rules | `(tactic| walk_at "call builtin:str.find") => `(tactic| (k_here; first | refine find_e (by assumption) ?_ | refine find3_e (by assumption) ?_ | refine find4_e (by assumption) ?_))
local macro_rules | `(tactic| walk_at "call builtin:str.rfind") => `(tactic| (k_here; refine rfind4_e (by assumption) ?_))
local macro_rules | `(tactic| walk_at "call builtin:len") => `(tactic| (k_here; (with_reducible show wpAny _ _ (call (Value.builtin "len") [Value.str _ _]) _ _ _); refine len_e (by assumption) (by assumption) ?_))
local macro_rules | `(tactic| walk_at "binaryOp Add str str") => `(tactic| (k_here; refine add_e (by assumption) (by assumption) ?_; intro _ _))
local macro_rules | `(tactic| walk_at "subscriptTail") => `(tactic| (k_here; (with_reducible show wpAny _ _ (subscriptTail _ (Expr.Slice _ _ none _) (Value.str _ _) (Value.ref _)) _ _ _); (first | refine slice_ss_e (s := ⟨_, _, _, _, _⟩) (by assumption) (by assumption) (by assumption) (by assumption) ?_ | refine slice_ns_e (s := ⟨_, _, _, _, _⟩) (by assumption) (by assumption) (by assumption) (by assumption) ?_ | refine slice_sn_e (s := ⟨_, _, _, _, _⟩) (by assumption) (by assumption) (by assumption) (by assumption) ?_); intro _ _ _ _ _))
local macro_rules | `(tactic| walk_at "subscriptTail Name Slice str ref") => `(tactic| (k_here; (with_reducible show wpAny _ _ (subscriptTail _ (Expr.Slice _ _ none _) (Value.str _ _) (Value.ref _)) _ _ _); (first | refine slice_ss_e (s := ⟨_, _, _, _, _⟩) (by assumption) (by assumption) (by assumption) (by assumption) ?_ | refine slice_ns_e (s := ⟨_, _, _, _, _⟩) (by assumption) (by assumption) (by assumption) (by assumption) ?_ | refine slice_sn_e (s := ⟨_, _, _, _, _⟩) (by assumption) (by assumption) (by assumption) (by assumption) ?_); intro _ _ _ _ _))
local macro_rules | `(tactic| walk_at "subscriptTail") => `(tactic| (k_here; (with_reducible show wpAny _ _ (subscriptTail _ _ (Value.str _ _) (Value.int _ _)) _ _ _); refine item_e (by assumption) (by omega) (by omega) (by assumption) ?_))
local macro_rules | `(tactic| walk_at "subscriptTail Name BinOp str int") => `(tactic| (k_here; refine item_e (by assumption) (by omega) (by omega) (by assumption) ?_))
local macro_rules | `(tactic| walk_at "subscriptTail Name Constant str int") => `(tactic| (k_here; refine item_e (by assumption) (by omega) (by omega) (by assumption) ?_))
local macro_rules | `(tactic| walk_at "subscriptTail Name UnaryOp str int") => `(tactic| (k_here; refine item_e (by assumption) (by omega) (by omega) (by assumption) ?_))
local macro_rules | `(tactic| walk_at "call type:int") => `(tactic| (k_here; refine int_e (by assumption) (by assumption) ?_))
local macro_rules | `(tactic| walk_at "call builtin:str.split") => `(tactic| (k_here; refine split5_e (by assumption) (by assumption) (by assumption) (by assumption) (by assumption) ?_; intro _ _ _ _ _ _ _ _ _ _ l1; (try k_lt l1)))
local macro_rules | `(tactic| walk_at "exec If") => `(tactic| (k_here; refine wpAny_If ?_))
local macro_rules | `(tactic| walk_at "ite") => `(tactic| (k_here; first
  | refine ite_pos (by first | assumption | exact rfl | (simp only [decide_eq_true_eq, ge_iff_le, bne_iff_ne, beq_iff_eq, ne_eq, Bool.not_eq_true, Bool.not_eq_false]; first | omega | assumption)) ?_
  | refine ite_neg (by first | assumption | (simp only [decide_eq_true_eq, ge_iff_le, bne_iff_ne, beq_iff_eq, ne_eq, Bool.not_eq_true, Bool.not_eq_false, not_not]; first | omega | assumption) | (intro hx; exact absurd hx (by decide))) ?_))

theorem hdn_no (prog : Program) (w : World) (news : List (Addr × Obj)) (x : Str) (t1 : Tok) (pre ds : List Nat) (H : x.cps = (pre ++ 46 :: (ds ++ [10])).toArray ∧ (∀ c ∈ pre, Dig c ∨ c = 46) ∧ (∀ c ∈ ds, Dig c) ∧ ds ≠ [] ∧ pre.length + ds.length ≤ 1000) :
   Claim prog w 50 20 60 [.str x t1] news (fun r adds => r = .bool false ∧ adds = []) := by
  intro p loose mean mg mb dp un gd cn cs aa ccd cl outer A₀ base h₀ L m s Q E hB hF hK hN hT hk hd hun hret
  refine wpAny_call ?_
  k_dflt cell_enter
  k_steps
  exact hret _ [] _ _ (by k_asm) (News.tl (News.tl (by k_asm))) (fun _ _ _ h => nomatch h) ⟨rfl, rfl⟩

theorem hdn_yes (prog : Program) (w : World) (news : List (Addr × Obj)) (x : Str) (t1 : Tok) (ds : List Nat) (H : x.cps = (ds ++ [10]).toArray ∧ (∀ c ∈ ds, Dig c) ∧ ds ≠ [] ∧ ds.length ≤ 1000) (c0 c1 : Str) (e1 : Txt.item x 0 = c0) (e2 : Txt.item x (-1) = c1) (e3 : (c0 == Str.ofString ".") = false) (e4 : (c1 == Str.ofString ".") = false) (e5 : (x == Str.ofString "") = false) (z1 : 1 ≤ x.length) (z2 : x.length ≤ sizeLine) :
   Claim prog w 50 20 60 [.str x t1] news (fun r adds => r = .bool true ∧ adds = []) := by
  intro p loose mean mg mb dp un gd cn cs aa ccd cl outer A₀ base h₀ L m s Q E hB hF hK hN hT hk hd hun hret
  refine wpAny_call ?_
  k_dflt cell_enter
  k_steps
  exact hret _ [] _ _ (by k_asm) (by k_asm) (fun _ _ _ h => nomatch h) ⟨rfl, rfl⟩
end Mine
end

section
open PySem PySem.W PyProof.Rows PySem.Calls PySem.Spec
set_option maxRecDepth 100000
namespace Mine
set_option maxHeartbeats 8000000
local macro_rules | `(tactic| k_mem) => `(tactic| assumption)
local macro_rules | `(tactic| walk_at "call builtin:str.find") => `(tactic| (k_here; first | refine find_e (by assumption) ?_ | refine find3_e (by assumption) ?_ | refine find4_e (by assumption) ?_))
local macro_rules | `(tactic| walk_at "call builtin:str.rfind") => `(tactic| (k_here; refine rfind4_e (by assumption) ?_))
local macro_rules | `(tactic| walk_at "call builtin:len") => `(tactic| (k_here; (with_reducible show wpAny _ _ (call (Value.builtin "len") [Value.str _ _]) _ _ _); refine len_e (by assumption) (by assumption) ?_))
local macro_rules | `(tactic| walk_at "binaryOp Add str str") => `(tactic| (k_here; refine add_e (by assumption) (by assumption) ?_; intro _ _))
local macro_rules | `(tactic| walk_at "subscriptTail") => `(tactic| (k_here; (with_reducible show wpAny _ _ (subscriptTail _ (Expr.Slice _ _ none _) (Value.str _ _) (Value.ref _)) _ _ _); (first | refine slice_ss_e (s := ⟨_, _, _, _, _⟩) (by assumption) (by assumption) (by assumption) (by assumption) ?_ | refine slice_ns_e (s := ⟨_, _, _, _, _⟩) (by assumption) (by assumption) (by assumption) (by assumption) ?_ | refine slice_sn_e (s := ⟨_, _, _, _, _⟩) (by assumption) (by assumption) (by assumption) (by assumption) ?_); intro _ _ _ _ _))
local macro_rules | `(tactic| walk_at "subscriptTail Name Slice str ref") => `(tactic| (k_here; (with_reducible show wpAny _ _ (subscriptTail _ (Expr.Slice _ _ none _) (Value.str _ _) (Value.ref _)) _ _ _); (first | refine slice_ss_e (s := ⟨_, _, _, _, _⟩) (by assumption) (by assumption) (by assumption) (by assumption) ?_ | refine slice_ns_e (s := ⟨_, _, _, _, _⟩) (by assumption) (by assumption) (by assumption) (by assumption) ?_ | refine slice_sn_e (s := ⟨_, _, _, _, _⟩) (by assumption) (by assumption) (by assumption) (by assumption) ?_); intro _ _ _ _ _))
local macro_rules | `(tactic| walk_at "subscriptTail") => `(tactic| (k_here; (with_reducible show wpAny _ _ (subscriptTail _ _ (Value.str _ _) (Value.int _ _)) _ _ _); refine item_e (by assumption) (by omega) (by omega) (by assumption) ?_))
local macro_rules | `(tactic| walk_at "subscriptTail Name BinOp str int") => `(tactic| (k_here; refine item_e (by assumption) (by omega) (by omega) (by assumption) ?_))
local macro_rules | `(tactic| walk_at "subscriptTail Name Constant str int") => `(tactic| (k_here; refine item_e (by assumption) (by omega) (by omega) (by assumption) ?_))
local macro_rules | `(tactic| walk_at "subscriptTail Name UnaryOp str int") => `(tactic| (k_here; refine item_e (by assumption) (by omega) (by omega) (by assumption) ?_))
local macro_rules | `(tactic| walk_at "call type:int") => `(tactic| (k_here; refine int_e (by assumption) (by assumption) ?_))
local macro_rules | `(tactic| walk_at "call builtin:str.split") => `(tactic| (k_here; refine split5_e (by assumption) (by assumption) (by assumption) (by assumption) (by assumption) ?_; intro _ _ _ _ _ _ _ _ _ _ l1; (try k_lt l1)))
local macro_rules | `(tactic| walk_at "exec If") => `(tactic| (k_here; refine wpAny_If ?_))
local macro_rules | `(tactic| walk_at "ite") => `(tactic| (k_here; first
  | refine ite_pos (by first | assumption | exact rfl | (simp only [decide_eq_true_eq, ge_iff_le, bne_iff_ne, beq_iff_eq, ne_eq, Bool.not_eq_true, Bool.not_eq_false]; first | omega | assumption)) ?_
  | refine ite_neg (by first | assumption | (simp only [decide_eq_true_eq, ge_iff_le, bne_iff_ne, beq_iff_eq, ne_eq, Bool.not_eq_true, Bool.not_eq_false, not_not]; first | omega | assumption) | (intro hx; exact absurd hx (by decide))) ?_))

theorem strip_claim (prog : Program) (w : World) (news : List (Addr × Obj)) (msg out : Str) (t1 : Tok) (n e j : Int) (hz : msg.length ≤ sizeLine) (g0 : (msg.length : Int) = n) (g1 : Txt.find msg (Str.ofString "\n") = -1) (g2 : find4 msg (Str.ofString ":") 0 n = e) (g3 : 0 ≤ e) (g4 : rfind4 msg (Str.ofString ".") 0 e = j) (g5 : 0 ≤ j) (g6 : Txt.slice msg (some (j + 1)) (some e) = out) :
   Claim prog w 57 20 60 [.str msg t1] news (fun r adds => ∃ t, r = .str out t ∧ adds = []) := by
  intro p loose mean mg mb dp un gd cn cs aa ccd cl outer A₀ base h₀ L m s Q E hB hF hK hN hT hk hd hun hret
  refine wpAny_call ?_
  k_dflt cell_enter
  k_steps
  exact hret _ [] _ _ (by k_asm) (News.tl (by k_asm)) (fun _ _ _ h => nomatch h) ⟨_, rfl, rfl⟩
end Mine
end

section
open PySem PySem.W PyProof.Rows PySem.Calls PySem.Spec
set_option maxRecDepth 100000
namespace Mine
set_option maxHeartbeats 8000000

section
variable {prog : Program} {w : World} {A : Around} {E : Value → Shared → Prop} {s : Shared} {h₀ : Heap} {L : Addr} {m : Str → Option Value} {news all : List (Addr × Obj)}
theorem getSpan1 {pl : Sem Bool} {Q : Value × List Value → Shared → Prop} {D : Addr} {x : Str} {t : Tok} {l : Nat} {C : Addr} (hm : (D, matObj x t l C) ∈ news) (N : News h₀ L s.heap news) (h : Q (.builtin "re.Match.span", [.ref D]) s) :
    wpAny (model prog w) A (getMethod (.ref D) "span" pl) Q E s := getSpan N hm h
theorem span1_wp {D C : Addr} {x : Str} {t u : Tok} {a b l : Nat} {Q : Value → Shared → Prop} (hm : (D, matObj x t l C) ∈ news) (hc : (C, spanObj a b) ∈ news) (F : Fr h₀ L s.heap m) (N : News h₀ L s.heap news) 
    (h : ∀ h' T t1 t2 k, Fr h₀ L h' m → News h₀ L h' ((T, tupOf [.int a t1, .int b t2]) :: news) → (∀ p ∈ news, p.1 < T) → Q (.ref T) { s with heap := h', toks := k }) :
    wpAny (model prog w) A (call (.builtin "re.Match.span") [.ref D, .int 0 u]) Q E s := span_wp F N hm hc h
theorem attr1_string {D C : Addr} {x : Str} {t : Tok} {l : Nat} {Q : Value → Shared → Prop} (hm : (D, matObj x t l C) ∈ news) (N : News h₀ L s.heap ([] ++ news)) (h : ∀ k, Q (.str x t) { s with toks := k }) : wpAny (model prog w) A (getAttr (.ref D) "string" true) Q E s :=
  attr_string (N _ hm).1 h
theorem attr2_string {D C : Addr} {x : Str} {t : Tok} {l : Nat} {o : Addr × Obj} {Q : Value → Shared → Prop} (hm : (D, matObj x t l C) ∈ news) (N : News h₀ L s.heap (o :: news)) (h : ∀ k, Q (.str x t) { s with toks := k }) : wpAny (model prog w) A (getAttr (.ref D) "string" true) Q E s :=
  attr_string (N _ (List.mem_cons_of_mem _ hm)).1 h
end
local macro_rules | `(tactic| walk_at "getMethod ref") => `(tactic| (k_here; (with_reducible show wpAny _ _ (getMethod (Value.ref _) _ _) _ _ _); refine getSpan1 (by assumption) (by assumption) ?_))
local macro_rules | `(tactic| walk_at "call builtin:re.Match.span") => `(tactic| (k_here; refine span1_wp (by assumption) (by assumption) (by assumption) (by assumption) ?_; intro _ _ _ _ _ _ _ l1; (try k_lt l1)))
local macro_rules | `(tactic| walk_at "getAttr ref") => `(tactic| (k_here; first | (refine attr1_string (by assumption) (by assumption) ?_; intro _) | (refine attr2_string (by assumption) (by assumption) ?_; intro _)))
local macro_rules | `(tactic| k_mem) => `(tactic| assumption)
local macro_rules | `(tactic| walk_at "call builtin:str.find") => `(tactic| (k_here; first | refine find_e (by assumption) ?_ | refine find3_e (by assumption) ?_ | refine find4_e (by assumption) ?_))
local macro_rules | `(tactic| walk_at "call builtin:str.rfind") => `(tactic| (k_here; refine rfind4_e (by assumption) ?_))
local macro_rules | `(tactic| walk_at "call builtin:len") => `(tactic| (k_here; (with_reducible show wpAny _ _ (call (Value.builtin "len") [Value.str _ _]) _ _ _); refine len_e (by assumption) (by assumption) ?_))
local macro_rules | `(tactic| walk_at "binaryOp Add str str") => `(tactic| (k_here; refine add_e (by assumption) (by assumption) ?_; intro _ _))
local macro_rules | `(tactic| walk_at "subscriptTail") => `(tactic| (k_here; (with_reducible show wpAny _ _ (subscriptTail _ (Expr.Slice _ _ none _) (Value.str _ _) (Value.ref _)) _ _ _); (first | refine slice_ss_e (s := ⟨_, _, _, _, _⟩) (by assumption) (by assumption) (by assumption) (by assumption) ?_ | refine slice_ns_e (s := ⟨_, _, _, _, _⟩) (by assumption) (by assumption) (by assumption) (by assumption) ?_ | refine slice_sn_e (s := ⟨_, _, _, _, _⟩) (by assumption) (by assumption) (by assumption) (by assumption) ?_); intro _ _ _ _ _))
local macro_rules | `(tactic| walk_at "subscriptTail Name Slice str ref") => `(tactic| (k_here; (with_reducible show wpAny _ _ (subscriptTail _ (Expr.Slice _ _ none _) (Value.str _ _) (Value.ref _)) _ _ _); (first | refine slice_ss_e (s := ⟨_, _, _, _, _⟩) (by assumption) (by assumption) (by assumption) (by assumption) ?_ | refine slice_ns_e (s := ⟨_, _, _, _, _⟩) (by assumption) (by assumption) (by assumption) (by assumption) ?_ | refine slice_sn_e (s := ⟨_, _, _, _, _⟩) (by assumption) (by assumption) (by assumption) (by assumption) ?_); intro _ _ _ _ _))
local macro_rules | `(tactic| walk_at "subscriptTail") => `(tactic| (k_here; (with_reducible show wpAny _ _ (subscriptTail _ _ (Value.str _ _) (Value.int _ _)) _ _ _); refine item_e (by assumption) (by omega) (by omega) (by assumption) ?_))
local macro_rules | `(tactic| walk_at "subscriptTail Name BinOp str int") => `(tactic| (k_here; refine item_e (by assumption) (by omega) (by omega) (by assumption) ?_))
local macro_rules | `(tactic| walk_at "subscriptTail Name Constant str int") => `(tactic| (k_here; refine item_e (by assumption) (by omega) (by omega) (by assumption) ?_))
local macro_rules | `(tactic| walk_at "subscriptTail Name UnaryOp str int") => `(tactic| (k_here; refine item_e (by assumption) (by omega) (by omega) (by assumption) ?_))
local macro_rules | `(tactic| walk_at "call type:int") => `(tactic| (k_here; refine int_e (by assumption) (by assumption) ?_))
local macro_rules | `(tactic| walk_at "call builtin:str.split") => `(tactic| (k_here; refine split5_e (by assumption) (by assumption) (by assumption) (by assumption) (by assumption) ?_; intro _ _ _ _ _ _ _ _ _ _ l1; (try k_lt l1)))
local macro_rules | `(tactic| walk_at "exec If") => `(tactic| (k_here; refine wpAny_If ?_))
local macro_rules | `(tactic| walk_at "ite") => `(tactic| (k_here; first
  | refine ite_pos (by first | assumption | exact rfl | (simp only [decide_eq_true_eq, ge_iff_le, bne_iff_ne, beq_iff_eq, ne_eq, Bool.not_eq_true, Bool.not_eq_false]; first | omega | assumption)) ?_
  | refine ite_neg (by first | assumption | (simp only [decide_eq_true_eq, ge_iff_le, bne_iff_ne, beq_iff_eq, ne_eq, Bool.not_eq_true, Bool.not_eq_false, not_not]; first | omega | assumption) | (intro hx; exact absurd hx (by decide))) ?_))

theorem unm_claim (prog : Program) (w : World) (news : List (Addr × Obj)) (x y z out : Str) (D C : Addr) (t : Tok) (a b l : Nat) (hm : (D, matObj x t l C) ∈ news) (hc : (C, spanObj a b) ∈ news) (z2 : x.length ≤ sizeLine) (e1 : Txt.slice x none (some a) = y) (e2 : Txt.slice x (some b) none = z) (e3 : y.length + z.length ≤ sizeLine) (e4 : y ++ z = out) :
   Claim prog w 38 20 60 [.ref D] news (fun r adds => ∃ t, r = .str out t ∧ adds = []) := by
  intro p loose mean mg mb dp un gd cn cs aa ccd cl outer A₀ base h₀ L m s Q E hB hF hK hN hT hk hd hun hret
  refine wpAny_call ?_
  k_dflt cell_enter
  k_steps
  exact hret _ [] _ _ (by k_asm) (News.tl (by k_asm)) (fun _ _ _ h => nomatch h) ⟨_, rfl, rfl⟩
end Mine
end

section
open PySem PySem.W PyProof.Rows PySem.Calls PySem.Spec
set_option maxRecDepth 100000
namespace Mine
set_option maxHeartbeats 8000000

local macro_rules | `(tactic| walk_at "exec While") => `(tactic| (k_here; k_dflt (refine whl_start 100 ?_)))
local macro_rules | `(tactic| walk_at "exec While UnaryOp") => `(tactic| (k_here; k_dflt (refine whl_start 100 ?_)))
local macro_rules | `(tactic| walk_at "exec While UnaryOp cons nil") => `(tactic| (k_here; k_dflt (refine whl_start 100 ?_)))
local macro_rules | `(tactic| walk_at "getMethod ref") => `(tactic| (k_here; (with_reducible show wpAny _ _ (getMethod (Value.ref 43) _ _) _ _ _); refine getSearch (by assumption) (by assumption) ?_))
local macro_rules | `(tactic| walk_at "call builtin:re.Pattern.search") => `(tactic| (k_here; (refine hdn_call1 (by assumption) (by assumption) (by assumption) (by assumption) ?_; intro _ _ _ _ _ l1 l2)))
local macro_rules | `(tactic| k_mem) => `(tactic| assumption)
local macro_rules | `(tactic| walk_at "call builtin:str.find") => `(tactic| (k_here; first | refine find_e (by assumption) ?_ | refine find3_e (by assumption) ?_ | refine find4_e (by assumption) ?_))
local macro_rules | `(tactic| walk_at "call builtin:str.rfind") => `(tactic| (k_here; refine rfind4_e (by assumption) ?_))
local macro_rules | `(tactic| walk_at "call builtin:len") => `(tactic| (k_here; (with_reducible show wpAny _ _ (call (Value.builtin "len") [Value.str _ _]) _ _ _); refine len_e (by assumption) (by assumption) ?_))
local macro_rules | `(tactic| walk_at "binaryOp Add str str") => `(tactic| (k_here; refine add_e (by assumption) (by assumption) ?_; intro _ _))
local macro_rules | `(tactic| walk_at "subscriptTail") => `(tactic| (k_here; (with_reducible show wpAny _ _ (subscriptTail _ (Expr.Slice _ _ none _) (Value.str _ _) (Value.ref _)) _ _ _); (first | refine slice_ss_e (s := ⟨_, _, _, _, _⟩) (by assumption) (by assumption) (by assumption) (by assumption) ?_ | refine slice_ns_e (s := ⟨_, _, _, _, _⟩) (by assumption) (by assumption) (by assumption) (by assumption) ?_ | refine slice_sn_e (s := ⟨_, _, _, _, _⟩) (by assumption) (by assumption) (by assumption) (by assumption) ?_); intro _ _ _ _ _))
local macro_rules | `(tactic| walk_at "subscriptTail Name Slice str ref") => `(tactic| (k_here; (with_reducible show wpAny _ _ (subscriptTail _ (Expr.Slice _ _ none _) (Value.str _ _) (Value.ref _)) _ _ _); (first | refine slice_ss_e (s := ⟨_, _, _, _, _⟩) (by assumption) (by assumption) (by assumption) (by assumption) ?_ | refine slice_ns_e (s := ⟨_, _, _, _, _⟩) (by assumption) (by assumption) (by assumption) (by assumption) ?_ | refine slice_sn_e (s := ⟨_, _, _, _, _⟩) (by assumption) (by assumption) (by assumption) (by assumption) ?_); intro _ _ _ _ _))
local macro_rules | `(tactic| walk_at "subscriptTail") => `(tactic| (k_here; (with_reducible show wpAny _ _ (subscriptTail _ _ (Value.str _ _) (Value.int _ _)) _ _ _); refine item_e (by assumption) (by omega) (by omega) (by assumption) ?_))
local macro_rules | `(tactic| walk_at "subscriptTail Name BinOp str int") => `(tactic| (k_here; refine item_e (by assumption) (by omega) (by omega) (by assumption) ?_))
local macro_rules | `(tactic| walk_at "subscriptTail Name Constant str int") => `(tactic| (k_here; refine item_e (by assumption) (by omega) (by omega) (by assumption) ?_))
local macro_rules | `(tactic| walk_at "subscriptTail Name UnaryOp str int") => `(tactic| (k_here; refine item_e (by assumption) (by omega) (by omega) (by assumption) ?_))
local macro_rules | `(tactic| walk_at "call type:int") => `(tactic| (k_here; refine int_e (by assumption) (by assumption) ?_))
local macro_rules | `(tactic| walk_at "call builtin:str.split") => `(tactic| (k_here; refine split5_e (by assumption) (by assumption) (by assumption) (by assumption) (by assumption) ?_; intro _ _ _ _ _ _ _ _ _ _ l1; (try k_lt l1)))
local macro_rules | `(tactic| walk_at "exec If") => `(tactic| (k_here; refine wpAny_If ?_))
local macro_rules | `(tactic| walk_at "ite") => `(tactic| (k_here; first
  | refine ite_pos (by first | assumption | exact rfl | (simp only [decide_eq_true_eq, ge_iff_le, bne_iff_ne, beq_iff_eq, ne_eq, Bool.not_eq_true, Bool.not_eq_false]; first | omega | assumption)) ?_
  | refine ite_neg (by first | assumption | (simp only [decide_eq_true_eq, ge_iff_le, bne_iff_ne, beq_iff_eq, ne_eq, Bool.not_eq_true, Bool.not_eq_false, not_not]; first | omega | assumption) | (intro hx; exact absurd hx (by decide))) ?_))

local macro_rules | `(tactic| walk_at "call ref") => `(tactic| (
  k_here; k_dflt (
  refine' Claim.use (hdn_no _ _ _ _ _ _ _ ?f1) ?k1 ?k2 ?k3 ?k4 ?k5 ?k6 ?k7 ?k8 ?_;
  (case k1 => k_asm); (case k2 => k_asm); (case k3 => k_asm); (case k4 => k_asm); (case k5 => k_asm); (case k6 => first | exact rfl | assumption); (case k7 => ktr_room); (case k8 => ktr_units); (case f1 => assumption);
  k_whole); intro r9 adds9 h9 tk9 F9 N9 l9 R9; obtain ⟨e9, E9⟩ := R9; subst e9; subst E9; (try dsimp only [List.cons_append, List.nil_append] at N9); (try k_fold)))
local macro_rules | `(tactic| walk_at "call ref") => `(tactic| (
  k_here; k_dflt (
  refine' Claim.use (hdn_yes _ _ _ _ _ _ ?f1 _ _ ?f2 ?f3 ?f4 ?f5 ?f6 ?f7 ?f8) ?k1 ?k2 ?k3 ?k4 ?k5 ?k6 ?k7 ?k8 ?_;
  (case k1 => k_asm); (case k2 => k_asm); (case k3 => k_asm); (case k4 => k_asm); (case k5 => k_asm); (case k6 => first | exact rfl | assumption); (case k7 => ktr_room); (case k8 => ktr_units); (case f1 => assumption); (case f2 => assumption); (case f3 => assumption); (case f4 => assumption); (case f5 => assumption); (case f6 => assumption); (case f7 => assumption); (case f8 => assumption);
  k_whole); intro r9 adds9 h9 tk9 F9 N9 l9 R9; obtain ⟨e9, E9⟩ := R9; subst e9; subst E9; (try dsimp only [List.cons_append, List.nil_append] at N9); (try k_fold)))
local macro_rules | `(tactic| walk_at "call ref") => `(tactic| (
  k_here; k_dflt (
  refine' Claim.use (strip_claim _ _ _ _ _ _ _ _ _ ?f1 ?f2 ?f3 ?f4 ?f5 ?f6 ?f7 ?f8) ?k1 ?k2 ?k3 ?k4 ?k5 ?k6 ?k7 ?k8 ?_;
  (case k1 => k_asm); (case k2 => k_asm); (case k3 => k_asm); (case k4 => k_asm); (case k5 => k_asm); (case k6 => first | exact rfl | assumption); (case k7 => ktr_room); (case k8 => ktr_units); (case f1 => assumption); (case f2 => assumption); (case f3 => assumption); (case f4 => assumption); (case f5 => assumption); (case f6 => assumption); (case f7 => assumption); (case f8 => assumption);
  k_whole); intro r9 adds9 h9 tk9 F9 N9 l9 R9; obtain ⟨t9, e9, E9⟩ := R9; subst e9; subst E9; (try dsimp only [List.cons_append, List.nil_append] at N9); (try k_fold)))
local macro_rules | `(tactic| walk_at "call ref") => `(tactic| (
  k_here; k_dflt (
  refine' Claim.use (unm_claim _ _ _ _ _ _ _ _ _ _ _ _ _ ?f1 ?f2 ?f3 ?f4 ?f5 ?f6 ?f7) ?k1 ?k2 ?k3 ?k4 ?k5 ?k6 ?k7 ?k8 ?_;
  (case k1 => k_asm); (case k2 => k_asm); (case k3 => k_asm); (case k4 => k_asm); (case k5 => k_asm); (case k6 => first | exact rfl | assumption); (case k7 => ktr_room); (case k8 => ktr_units); (case f1 => k_mem); (case f2 => k_mem); (case f3 => assumption); (case f4 => assumption); (case f5 => assumption); (case f6 => assumption); (case f7 => assumption);
  k_whole); intro r9 adds9 h9 tk9 F9 N9 l9 R9; obtain ⟨t9, e9, E9⟩ := R9; subst e9; subst E9; (try dsimp only [List.cons_append, List.nil_append] at N9); (try k_fold)))

theorem numb_raw (prog : Program) (w : World) (news : List (Addr × Obj)) (row q3 r3 m3 d3 r2 q2 m2 d2 r1 d1 : Str) (t1 : Tok) (n1 n2 n3 : Int) (p3 ds3 p2 ds2 ds1 : List Nat) (c0 c1 : Str)
  (h1 : row.length ≤ sizeLine) (h2 : Txt.slice row none (some (-1)) = q3) (h3 : q3.length + (Str.ofString "\n").length ≤ sizeLine) (h4 : q3 ++ Str.ofString "\n" = r3)
  (H3 : r3.cps = (p3 ++ 46 :: (ds3 ++ [10])).toArray ∧ (∀ c ∈ p3, Dig c ∨ c = 46) ∧ (∀ c ∈ ds3, Dig c) ∧ ds3 ≠ [] ∧ p3.length + ds3.length ≤ 1000)
  (h5 : r3.length ≤ sizeLine) (h6 : Txt.slice r3 none (some (-1)) = q3) (h7 : q3.length + (Str.ofString ": x.9").length ≤ sizeLine) (h8 : q3 ++ Str.ofString ": x.9" = m3)
  (e3 j3 l3 : Int) (s1 : m3.length ≤ sizeLine) (s2 : (m3.length : Int) = l3) (s3 : Txt.find m3 (Str.ofString "\n") = -1) (s4 : find4 m3 (Str.ofString ":") 0 l3 = e3) (s5 : 0 ≤ e3) (s6 : rfind4 m3 (Str.ofString ".") 0 e3 = j3) (s7 : 0 ≤ j3) (s8 : Txt.slice m3 (some (j3 + 1)) (some e3) = d3)
  (i3 : PySem.intText? d3 = some n3) (y3 : d3.length ≤ 640) (z3 : Str) (z3' : Str) (u1 : Txt.slice r3 none (some (p3.length : Nat)) = z3) (u2 : Txt.slice r3 (some ((p3.length + 1 + ds3.length : Nat) : Int)) none = z3') (u3 : z3.length + z3'.length ≤ sizeLine) (u4 : z3 ++ z3' = r2)
  (H2 : r2.cps = (p2 ++ 46 :: (ds2 ++ [10])).toArray ∧ (∀ c ∈ p2, Dig c ∨ c = 46) ∧ (∀ c ∈ ds2, Dig c) ∧ ds2 ≠ [] ∧ p2.length + ds2.length ≤ 1000)
  (h9 : r2.length ≤ sizeLine) (h10 : Txt.slice r2 none (some (-1)) = q2) (h11 : q2.length + (Str.ofString ": x.9").length ≤ sizeLine) (h12 : q2 ++ Str.ofString ": x.9" = m2)
  (e2 j2 l2 : Int) (v1 : m2.length ≤ sizeLine) (v2 : (m2.length : Int) = l2) (v3 : Txt.find m2 (Str.ofString "\n") = -1) (v4 : find4 m2 (Str.ofString ":") 0 l2 = e2) (v5 : 0 ≤ e2) (v6 : rfind4 m2 (Str.ofString ".") 0 e2 = j2) (v7 : 0 ≤ j2) (v8 : Txt.slice m2 (some (j2 + 1)) (some e2) = d2)
  (i2 : PySem.intText? d2 = some n2) (y2 : d2.length ≤ 640) (z2 : Str) (z2' : Str) (w1 : Txt.slice r2 none (some (p2.length : Nat)) = z2) (w2 : Txt.slice r2 (some ((p2.length + 1 + ds2.length : Nat) : Int)) none = z2') (w3 : z2.length + z2'.length ≤ sizeLine) (w4 : z2 ++ z2' = r1)
  (H1 : r1.cps = (ds1 ++ [10]).toArray ∧ (∀ c ∈ ds1, Dig c) ∧ ds1 ≠ [] ∧ ds1.length ≤ 1000) (x1 : Txt.item r1 0 = c0) (x2 : Txt.item r1 (-1) = c1) (x3 : (c0 == Str.ofString ".") = false) (x4 : (c1 == Str.ofString ".") = false) (x5 : (r1 == Str.ofString "") = false) (x6 : 1 ≤ r1.length) (x7 : r1.length ≤ sizeLine)
  (x8 : Txt.slice r1 none (some (-1)) = d1) (i1 : PySem.intText? d1 = some n1) (y1 : d1.length ≤ 640) :
   Claim prog w 151 60 200 [.str row t1] news (fun r adds => ∃ k t1 t2 t3, r = .ref k ∧ adds = [(k, lstOf [.int n1 t1, .int n2 t2, .int n3 t3])]) := by
  intro p loose mean mg mb dp un gd cn cs aa ccd cl outer A₀ base h₀ L m s Q E hB hF hK hN hT hk hd hun hret
  refine wpAny_call ?_
  k_dflt cell_enter
  k_steps
  exact hret _ [_] _ _ (by k_asm) (News.sub1 (by k_asm) (fun p hp => by simp only [List.mem_cons, hp, or_true])) (News.one (AllLt.out (by first | assumption | exact (show AllLt _ _ from by assumption) | exact (show _ ∧ AllLt _ _ from by assumption).2 | exact (show _ ∧ _ ∧ AllLt _ _ from by assumption).2.2 | exact (show _ ∧ _ ∧ _ ∧ AllLt _ _ from by assumption).2.2.2 | exact (show _ ∧ _ ∧ _ ∧ _ ∧ AllLt _ _ from by assumption).2.2.2.2 | exact (show _ ∧ _ ∧ _ ∧ _ ∧ _ ∧ AllLt _ _ from by assumption).2.2.2.2.2 | exact (show _ ∧ _ ∧ _ ∧ _ ∧ _ ∧ _ ∧ AllLt _ _ from by assumption).2.2.2.2.2.2 | exact (show _ ∧ _ ∧ _ ∧ _ ∧ _ ∧ _ ∧ _ ∧ AllLt _ _ from by assumption).2.2.2.2.2.2.2 | exact (show _ ∧ _ ∧ _ ∧ _ ∧ _ ∧ _ ∧ _ ∧ _ ∧ AllLt _ _ from by assumption).2.2.2.2.2.2.2.2 | exact (show _ ∧ _ ∧ _ ∧ _ ∧ _ ∧ _ ∧ _ ∧ _ ∧ _ ∧ AllLt _ _ from by assumption).2.2.2.2.2.2.2.2.2 | exact (show _ ∧ _ ∧ _ ∧ _ ∧ _ ∧ _ ∧ _ ∧ _ ∧ _ ∧ _ ∧ AllLt _ _ from by assumption).2.2.2.2.2.2.2.2.2.2 | exact (show _ ∧ _ ∧ _ ∧ _ ∧ _ ∧ _ ∧ _ ∧ _ ∧ _ ∧ _ ∧ _ ∧ AllLt _ _ from by assumption).2.2.2.2.2.2.2.2.2.2.2 | exact (show _ ∧ _ ∧ _ ∧ _ ∧ _ ∧ _ ∧ _ ∧ _ ∧ _ ∧ _ ∧ _ ∧ _ ∧ AllLt _ _ from by assumption).2.2.2.2.2.2.2.2.2.2.2.2))) ⟨_, _, _, _, rfl, rfl⟩
end Mine
end

section
open PySem PySem.W PyProof.Rows PySem.Calls PySem.Spec PySem.Builtin PySem.Builtin.Str PySem.StrLaws
set_option maxRecDepth 100000
namespace Mine
theorem nl_eq : Str.ofString "\n" = S [10] := by decide +kernel
theorem tail_eq : Str.ofString ": x.9" = S [58, 32, 120, 46, 57] := by decide +kernel
theorem col_eq : Str.ofString ":" = ⟨#[58]⟩ := by decide +kernel
theorem nl_eq' : Str.ofString "\n" = ⟨#[10]⟩ := by decide +kernel
theorem dot_eq' : Str.ofString "." = ⟨#[46]⟩ := by decide +kernel
theorem emp_eq' : Str.ofString "" = S [] := by decide +kernel
theorem slice_last' {l a : List Nat} {c : Nat} (h : l = a ++ [c]) : Txt.slice (S l) none (some (-1)) = S a := by rw [h]; exact slice_last
theorem S_beq {a b : List Nat} (h : a ≠ b) : (S a == S b) = false := by
  rw [beq_eq_false_iff_ne]
  intro e
  have := congrArg (fun x : Str => x.cps.toList) e
  simp only [S_cps] at this
  exact h this
theorem strip_facts {P D : List Nat} (hP : ∀ c ∈ P, Dig c ∨ c = 46) (hD : ∀ c ∈ D, Dig c) :
    Txt.find (S (P ++ 46 :: (D ++ [58, 32, 120, 46, 57]))) (Str.ofString "\n") = -1 ∧
    find4 (S (P ++ 46 :: (D ++ [58, 32, 120, 46, 57]))) (Str.ofString ":") 0 ((S (P ++ 46 :: (D ++ [58, 32, 120, 46, 57]))).length : Int) = ((P.length + 1 + D.length : Nat) : Int) ∧
    rfind4 (S (P ++ 46 :: (D ++ [58, 32, 120, 46, 57]))) (Str.ofString ".") 0 ((P.length + 1 + D.length : Nat) : Int) = ((P.length : Nat) : Int) ∧
    Txt.slice (S (P ++ 46 :: (D ++ [58, 32, 120, 46, 57]))) (some (((P.length : Nat) : Int) + 1)) (some ((P.length + 1 + D.length : Nat) : Int)) = S D := by
  have nP : ∀ c, (c < 48 ∨ 57 < c) → c ≠ 46 → c ∉ P := fun c hc h46 hm => by
    rcases hP c hm with h | h
    · unfold Dig at h; omega
    · exact h46 h
  refine ⟨?_, ?_, ?_, ?_⟩
  · rw [nl_eq', find_find3, find3_none]
    intro hm
    rcases List.mem_append.mp hm with h | h
    · exact nP 10 (by decide) (by decide) h
    · rcases List.mem_cons.mp h with h | h
      · exact absurd h (by decide)
      · rcases List.mem_append.mp h with h | h
        · exact dot_notin hD (by decide) h
        · exact absurd h (by decide)
  · rw [col_eq, find4_find3 _ _ _ _ rfl]
    have e : P ++ 46 :: (D ++ [58, 32, 120, 46, 57]) = [] ++ ((P ++ 46 :: D) ++ 58 :: [32, 120, 46, 57]) := by simp
    rw [e, find3_hit (p := []) (i := 0) rfl]
    · simp; omega
    · intro hm
      rcases List.mem_append.mp hm with h | h
      · exact nP 58 (by decide) (by decide) h
      · rcases List.mem_cons.mp h with h | h
        · exact absurd h (by decide)
        · exact dot_notin hD (by decide) h
  · rw [dot_eq', rfind4_hit (by omega) (dot_notin hD (by decide))]
  · have e : P ++ 46 :: (D ++ [58, 32, 120, 46, 57]) = (P ++ [46]) ++ (D ++ [58, 32, 120, 46, 57]) := by simp
    rw [e, slice_mid (by simp) (by simp)]
theorem cut_facts {P D : List Nat} :
    Txt.slice (S (P ++ 46 :: (D ++ [10]))) none (some ((P.length : Nat) : Int)) = S P ∧ Txt.slice (S (P ++ 46 :: (D ++ [10]))) (some ((P.length + 1 + D.length : Nat) : Int)) none = S [10] := by
  refine ⟨slice_to rfl, ?_⟩
  have e : P ++ 46 :: (D ++ [10]) = (P ++ 46 :: D) ++ [10] := by simp
  rw [e, slice_from (by simp; omega)]
set_option maxHeartbeats 4000000 in
theorem numb_claim (prog : Program) (w : World) (news : List (Addr × Obj)) (A B D : List Nat) (t1 : Tok) (n1 n2 n3 : Int) (hA : ∀ c ∈ A, Dig c) (hB : ∀ c ∈ B, Dig c) (hD : ∀ c ∈ D, Dig c) (eA : A ≠ []) (eB : B ≠ []) (eD : D ≠ [])
   (lA : A.length ≤ 300) (lB : B.length ≤ 300) (lD : D.length ≤ 300) (i1 : PySem.intText? (S A) = some n1) (i2 : PySem.intText? (S B) = some n2) (i3 : PySem.intText? (S D) = some n3) :
   Claim prog w 151 60 200 [.str (S (A ++ 46 :: (B ++ 46 :: (D ++ [46])))) t1] news (fun r adds => ∃ k t1 t2 t3, r = .ref k ∧ adds = [(k, lstOf [.int n1 t1, .int n2 t2, .int n3 t3])]) := by
  have sl : sizeLine = 2 ^ 24 := rfl
  have hP : ∀ c ∈ A ++ 46 :: B, Dig c ∨ c = 46 := fun c hc => by
    rcases List.mem_append.mp hc with h | h
    · exact .inl (hA c h)
    · rcases List.mem_cons.mp h with h | h
      · exact .inr h
      · exact .inl (hB c h)
  obtain ⟨s3, s4, s6, s8⟩ := strip_facts hP hD
  obtain ⟨v3, v4, v6, v8⟩ := strip_facts (fun c hc => .inl (hA c hc)) hB
  obtain ⟨u1, u2⟩ := cut_facts (P := A ++ 46 :: B) (D := D)
  obtain ⟨w1, w2⟩ := cut_facts (P := A) (D := B)
  have sh : ∀ X : List Nat, (A ++ 46 :: B) ++ 46 :: (D ++ X) = A ++ 46 :: (B ++ 46 :: (D ++ X)) := fun X => by simp
  rw [sh] at s3 s4 s6 s8 u1 u2
  obtain ⟨a, A', rfl⟩ := List.exists_cons_of_ne_nil eA
  have ha := hA a (List.mem_cons_self ..)
  refine numb_raw prog w news (S ((a :: A') ++ 46 :: (B ++ 46 :: (D ++ [46])))) (S ((a :: A') ++ 46 :: (B ++ 46 :: D))) (S ((a :: A') ++ 46 :: (B ++ 46 :: (D ++ [10])))) (S ((a :: A') ++ 46 :: (B ++ 46 :: (D ++ [58, 32, 120, 46, 57])))) (S D)
    (S ((a :: A') ++ 46 :: (B ++ [10]))) (S ((a :: A') ++ 46 :: B)) (S ((a :: A') ++ 46 :: (B ++ [58, 32, 120, 46, 57]))) (S B) (S ((a :: A') ++ [10])) (S (a :: A')) t1 n1 n2 n3 ((a :: A') ++ 46 :: B) D (a :: A') B (a :: A') (S [a]) (S [10])
    ?_ ?_ ?_ ?_ ⟨?_, hP, hD, eD, ?_⟩ ?_ ?_ ?_ ?_ _ _ _ ?_ rfl s3 s4 (by omega) s6 (by omega) s8 i3 ?_ (S ((a :: A') ++ 46 :: B)) (S [10]) u1 u2 ?_ ?_
    ⟨?_, fun c hc => .inl (hA c hc), hB, eB, ?_⟩ ?_ ?_ ?_ ?_ _ _ _ ?_ rfl v3 v4 (by omega) v6 (by omega) v8 i2 ?_ (S (a :: A')) (S [10]) w1 w2 ?_ ?_
    ⟨?_, hA, eA, ?_⟩ ?_ ?_ ?_ ?_ ?_ ?_ ?_ ?_ i1 ?_
  all_goals first
    | (rw [S_len]; simp only [List.length_append, List.length_cons, List.length_nil] at *; omega)
    | (rw [nl_eq, S_len, S_len]; simp only [List.length_append, List.length_cons, List.length_nil] at *; omega)
    | (rw [tail_eq, S_len, S_len]; simp only [List.length_append, List.length_cons, List.length_nil] at *; omega)
    | (rw [S_len, S_len]; simp only [List.length_append, List.length_cons, List.length_nil] at *; omega)
    | (simp only [List.length_append, List.length_cons, List.length_nil] at *; omega)
    | skip
  · exact slice_last' (c := 46) (by simp)
  · rw [nl_eq, S_app]; simp
  · exact congrArg List.toArray (by simp)
  · exact slice_last' (c := 10) (by simp)
  · rw [tail_eq, S_app]; simp
  · rw [S_app]; simp
  · exact congrArg List.toArray (by simp)
  · exact slice_last' (c := 10) (by simp)
  · rw [tail_eq, S_app]; simp
  · rw [S_app]
  · exact congrArg List.toArray (by simp)
  · exact item_at (a := []) rfl
  · exact item_last
  · rw [dot_eq]; exact S_beq (by intro h; rw [List.cons.injEq] at h; rw [h.1] at ha; exact absurd ha.1 (by decide))
  · rw [dot_eq]; exact S_beq (by decide)
  · rw [emp_eq']; exact S_beq (by simp)
  · exact slice_last' rfl
end Mine
end

section
open PySem PySem.W PyProof.Rows PySem.Calls
set_option maxRecDepth 100000
namespace Mine
theorem dgs_len {n : Nat} (h : n < 10 ^ 200) : (dgs n).length ≤ 200 := by
  unfold dgs
  rw [List.length_map]
  exact (Nat.length_toDigits_le_iff (by decide) (by decide)).mpr h
theorem dgs_pos (n : Nat) : 1 ≤ (dgs n).length := by
  cases h : dgs n with
  | nil => exact absurd h (dgs_ne n)
  | cons _ _ => simp
theorem bnd6 : 4 * (bnd 6 * bnd 6) < 10 ^ 200 := by decide +kernel
theorem bnd6' : bnd 6 < 10 ^ 4000 := by decide +kernel
theorem Good4.fit {s : Q4 × Q4} (h : Good4 6 s) : FitQ s.1 ∧ FitQ s.2 := by
  have key : ∀ {x : Int}, (0 ≤ x ∧ x ≤ (bnd 6 : Nat)) → Fit x := fun {x} hx => by
    have := bnd6'
    show x.natAbs < 10 ^ 4000
    generalize (10 : Nat) ^ 4000 = K at *
    generalize bnd 6 = b at *
    omega
  obtain ⟨⟨a, b, c, d⟩, ⟨e, f, g, k⟩, _⟩ := h
  exact ⟨⟨key a, key b, key c, key d⟩, ⟨key e, key f, key g, key k⟩⟩
def Ok (n : Int) : Prop := 0 ≤ n ∧ n < ((10 ^ 200 : Nat) : Int)
def Ok3 (x : Int × Int × Int) : Prop := Ok x.1 ∧ Ok x.2.1 ∧ Ok x.2.2
theorem Good4.ok {s : Q4 × Q4} (h : Good4 6 s) : Ok3 (sumsQ s.1 s.2) := by
  obtain ⟨⟨a, b, c, d⟩, ⟨e, f, g, k⟩, _⟩ := h
  have m1 := mul_le a e; have m2 := mul_le b g; have m7 := mul_le c f; have m8 := mul_le d k
  have p := bnd_pos 6
  have q := Nat.mul_le_mul p p
  have q2 := Nat.mul_le_mul_left (bnd 6) p
  have big := bnd6
  unfold Ok3 Ok sumsQ
  dsimp only
  generalize (10 : Nat) ^ 200 = K at *
  generalize bnd 6 * bnd 6 = Z at *
  generalize bnd 6 = B at *
  refine ⟨?_, ?_, ?_⟩ <;> constructor <;> omega
theorem Ok.len {n : Int} (h : Ok n) : (dgs n.toNat).length ≤ 200 := dgs_len (by unfold Ok at h; omega)
theorem deeds_chars (xs : List Int) : ∀ c ∈ xs.flatMap dOf, c = 116 ∨ c = 115 := by
  intro c hc
  obtain ⟨x, _, h⟩ := List.mem_flatMap.mp hc
  rcases List.mem_append.mp h with h | h
  · exact .inl (List.mem_replicate.mp h).2
  · exact .inr (List.mem_replicate.mp h).2
theorem deeds_count : ∀ xs : List Int, (xs.flatMap dOf).count 115 ≤ 2 * xs.length
  | [] => by simp
  | x :: xs => by
    have ih := deeds_count xs
    have h1 : (tOf x).count 115 = 0 := List.count_eq_zero.mpr fun h => by
      have := (List.mem_replicate.mp h).2
      omega
    have h2 : (sOf x).count 115 ≤ 2 := Nat.le_trans List.count_le_length (sOf_len x)
    rw [List.flatMap_cons, List.count_append, dOf, List.count_append, List.length_cons]
    omega
theorem deeds_len : ∀ xs : List Int, (xs.flatMap dOf).length ≤ 3 * xs.length
  | [] => by simp
  | x :: xs => by
    have ih := deeds_len xs
    have h1 := tOf_len x
    have h2 := sOf_len x
    rw [List.flatMap_cons, List.length_append, dOf, List.length_append, List.length_cons]
    omega
theorem st_good (code b c d : Int) (i : Nat) : Good4 6 (stAt (q0 code) ([b, c, d].flatMap dOf) i) := by
  have h := good_fold (([b, c, d].flatMap dOf).take i) 0 (q0 code) (fun x hx => deeds_chars _ x (List.mem_of_mem_take hx)) (q0_good code)
  have hc := deeds_count [b, c, d]
  have ht : (([b, c, d].flatMap dOf).take i).count 115 ≤ ([b, c, d].flatMap dOf).count 115 := List.Sublist.count_le _ (List.take_sublist _ _)
  simp only [List.length_cons, List.length_nil] at hc
  have e : (6 : Nat) = (0 + (([b, c, d].flatMap dOf).take i).count 115) + (6 - (([b, c, d].flatMap dOf).take i).count 115) := by omega
  rw [e]
  exact h.up
/-- what the law's row tells at turn i -/
def tri (code : Int) (l : List Nat) (i : Nat) : Int × Int × Int := sumsQ (stAt (q0 code) l i).1 (stAt (q0 code) l i).2
theorem tri_t {code : Int} {l : List Nat} {i : Nat} (h : i < l.length) (hc : l.getD i 0 = 116) : tri code l (i + 1) = ((tri code l i).2.2, (tri code l i).2.1, (tri code l i).1) := by
  unfold tri
  rw [stAt_succ _ h, hc]
  exact sums_turn _ _
theorem tri_s {code : Int} {l : List Nat} {i : Nat} (h : i < l.length) (hc : l.getD i 0 = 115) (hd : det (stAt (q0 code) l i).1 = 1) : tri code l (i + 1) = ((tri code l i).1, (tri code l i).1 * (tri code l i).2.1 - (tri code l i).2.2, (tri code l i).2.1) := by
  unfold tri
  rw [stAt_succ _ h, hc]
  exact sums_step _ _ hd
def Row (w : Nat) (x : Int × Int × Int) : List Nat := pad w x.1.toNat ++ 46 :: (pad w x.2.1.toNat ++ 46 :: (pad w x.2.2.toNat ++ [46]))
theorem row_eq (W : Nat) (x y z : Int) : ([x, y, z].flatMap fun k => List.replicate ((W : Int) - ((dgs k.toNat).length : Int)).toNat 48 ++ dgs k.toNat ++ [46]) = Row W (x, y, z) := by
  have e : ∀ n : Nat, ((W : Int) - (n : Int)).toNat = W - n := fun n => by omega
  simp [Row, pad, e]
def Wide (W : Nat) (x : Int × Int × Int) : Prop := (dgs x.1.toNat).length ≤ W ∧ (dgs x.2.1.toNat).length ≤ W ∧ (dgs x.2.2.toNat).length ≤ W
theorem Row_len {W : Nat} {x : Int × Int × Int} (h : Wide W x) : (Row W x).length = 3 * (W + 1) := by
  obtain ⟨h1, h2, h3⟩ := h
  simp only [Row, List.length_append, List.length_cons, List.length_nil, pad_len h1, pad_len h2, pad_len h3]
  omega
theorem Row_ascii {W : Nat} {x : Int × Int × Int} : ∀ c ∈ Row W x, c < 128 := by
  intro c hc
  have key : ∀ n, c ∈ pad W n → c < 128 := fun n h => by have := pad_dig W n c h; unfold Dig at this; omega
  simp only [Row, List.mem_append, List.mem_cons, List.not_mem_nil, or_false] at hc
  rcases hc with h | h | h | h | h | h
  · exact key _ h
  · omega
  · exact key _ h
  · omega
  · exact key _ h
  · omega
/-- the lists that have been told, with their values -/
theorem told_lists {code : Int} {l : List Nat} : ∀ {n : Nat} {ls : List Addr} {adds : List (Addr × Obj)}, TolAt (q0 code) l n ls adds →
    ∃ LL : List (Addr × List Value), LL.map (·.1) = ls ∧ (∀ p ∈ LL, (p.1, lstOf p.2) ∈ adds) ∧ (∀ (j : Nat) (p : Addr × List Value), LL[j]? = some p → ∃ t1 t2 t3, p.2 = [.int (tri code l j).1 t1, .int (tri code l j).2.1 t2, .int (tri code l j).2.2 t3]) := by
  intro n ls adds h
  have key : ∀ (ls : List Addr) (k : Nat), (∀ (j : Nat) (a : Addr), ls[j]? = some a → ∃ o, (a, o) ∈ adds ∧ IsL (tri code l (k + j)) o) →
      ∃ LL : List (Addr × List Value), LL.map (·.1) = ls ∧ (∀ p ∈ LL, (p.1, lstOf p.2) ∈ adds) ∧ (∀ (j : Nat) (p : Addr × List Value), LL[j]? = some p → ∃ t1 t2 t3, p.2 = [.int (tri code l (k + j)).1 t1, .int (tri code l (k + j)).2.1 t2, .int (tri code l (k + j)).2.2 t3]) := by
    intro ls
    induction ls with
    | nil => intro k _; exact ⟨[], rfl, (fun _ h => by simp at h), (fun j p h => by simp at h)⟩
    | cons a ls ih =>
      intro k hk
      obtain ⟨LL, h1, h2, h3⟩ := ih (k + 1) fun j b hb => by
        have := hk (j + 1) b hb
        rwa [show k + (j + 1) = k + 1 + j by omega] at this
      obtain ⟨o, hm, t1, t2, t3, ho⟩ := hk 0 a rfl
      subst ho
      refine ⟨(a, [.int (tri code l (k + 0)).1 t1, .int (tri code l (k + 0)).2.1 t2, .int (tri code l (k + 0)).2.2 t3]) :: LL, by rw [List.map_cons, h1], fun p hp => ?_, fun j p hp => ?_⟩
      · rcases List.mem_cons.mp hp with rfl | hp
        · exact hm
        · exact h2 p hp
      · cases j with
        | zero => cases hp; exact ⟨t1, t2, t3, rfl⟩
        | succ j =>
          obtain ⟨u1, u2, u3, e⟩ := h3 j p hp
          exact ⟨u1, u2, u3, by rw [e, show k + (j + 1) = k + 1 + j by omega]⟩
  obtain ⟨LL, h1, h2, h3⟩ := key ls 0 fun j a ha => by
    obtain ⟨o, g1, g2⟩ := h.2 j a ha
    exact ⟨o, g1, by rw [Nat.zero_add]; exact g2⟩
  exact ⟨LL, h1, h2, fun j p hp => by have := h3 j p hp; rwa [Nat.zero_add] at this⟩
def RelLen (v z : Value) : Prop := ∃ (n : Int) (t u : Tok), v = .int n t ∧ z = .int ((dgs n.toNat).length : Int) u
theorem rel_ints : ∀ {vs zs : List Value}, Paired RelLen vs zs → ∃ ks : List Int, IntsAre zs ks ∧ ks.length = vs.length ∧ (∀ k ∈ ks, ∃ n t, .int n t ∈ vs ∧ k = ((dgs n.toNat).length : Int)) ∧ (∀ n t, .int n t ∈ vs → ((dgs n.toNat).length : Int) ∈ ks)
  | _, _, .nil => ⟨[], .nil, rfl, (fun _ h => by simp at h), (fun _ _ h => by simp at h)⟩
  | _, _, .cons h t => by
    obtain ⟨ks, h1, h2, h3, h4⟩ := rel_ints t
    obtain ⟨n, tv, u, rfl, rfl⟩ := h
    refine ⟨((dgs n.toNat).length : Int) :: ks, .cons _ u h1, by rw [List.length_cons, h2, List.length_cons], fun k hk => ?_, fun n' t' hn => ?_⟩
    · rcases List.mem_cons.mp hk with rfl | hk
      · exact ⟨n, tv, List.mem_cons_self .., rfl⟩
      · obtain ⟨n', t', g1, g2⟩ := h3 k hk
        exact ⟨n', t', List.mem_cons_of_mem _ g1, g2⟩
    · rcases List.mem_cons.mp hn with h | h
      · cases h; exact List.mem_cons_self ..
      · exact List.mem_cons_of_mem _ (h4 n' t' h)
end Mine
end

section
open PySem PySem.W PyProof.Rows PySem.Calls PySem.Spec
set_option maxRecDepth 100000
namespace Mine
set_option maxHeartbeats 8000000
local macro_rules | `(tactic| k_mem) => `(tactic| assumption)
local macro_rules | `(tactic| walk_at "call builtin:str.find") => `(tactic| (k_here; first | refine find_e (by assumption) ?_ | refine find3_e (by assumption) ?_ | refine find4_e (by assumption) ?_))
local macro_rules | `(tactic| walk_at "call builtin:str.rfind") => `(tactic| (k_here; refine rfind4_e (by assumption) ?_))
local macro_rules | `(tactic| walk_at "call builtin:len") => `(tactic| (k_here; (with_reducible show wpAny _ _ (call (Value.builtin "len") [Value.str _ _]) _ _ _); refine len_e (by assumption) (by assumption) ?_))
local macro_rules | `(tactic| walk_at "binaryOp Add str str") => `(tactic| (k_here; refine add_e (by assumption) (by assumption) ?_; intro _ _))
local macro_rules | `(tactic| walk_at "subscriptTail") => `(tactic| (k_here; (with_reducible show wpAny _ _ (subscriptTail _ (Expr.Slice _ _ none _) (Value.str _ _) (Value.ref _)) _ _ _); (first | refine slice_ss_e (s := ⟨_, _, _, _, _⟩) (by assumption) (by assumption) (by assumption) (by assumption) ?_ | refine slice_ns_e (s := ⟨_, _, _, _, _⟩) (by assumption) (by assumption) (by assumption) (by assumption) ?_ | refine slice_sn_e (s := ⟨_, _, _, _, _⟩) (by assumption) (by assumption) (by assumption) (by assumption) ?_); intro _ _ _ _ _))
local macro_rules | `(tactic| walk_at "subscriptTail Name Slice str ref") => `(tactic| (k_here; (with_reducible show wpAny _ _ (subscriptTail _ (Expr.Slice _ _ none _) (Value.str _ _) (Value.ref _)) _ _ _); (first | refine slice_ss_e (s := ⟨_, _, _, _, _⟩) (by assumption) (by assumption) (by assumption) (by assumption) ?_ | refine slice_ns_e (s := ⟨_, _, _, _, _⟩) (by assumption) (by assumption) (by assumption) (by assumption) ?_ | refine slice_sn_e (s := ⟨_, _, _, _, _⟩) (by assumption) (by assumption) (by assumption) (by assumption) ?_); intro _ _ _ _ _))
local macro_rules | `(tactic| walk_at "subscriptTail") => `(tactic| (k_here; (with_reducible show wpAny _ _ (subscriptTail _ _ (Value.str _ _) (Value.int _ _)) _ _ _); refine item_e (by assumption) (by omega) (by omega) (by assumption) ?_))
local macro_rules | `(tactic| walk_at "subscriptTail Name BinOp str int") => `(tactic| (k_here; refine item_e (by assumption) (by omega) (by omega) (by assumption) ?_))
local macro_rules | `(tactic| walk_at "subscriptTail Name Constant str int") => `(tactic| (k_here; refine item_e (by assumption) (by omega) (by omega) (by assumption) ?_))
local macro_rules | `(tactic| walk_at "subscriptTail Name UnaryOp str int") => `(tactic| (k_here; refine item_e (by assumption) (by omega) (by omega) (by assumption) ?_))
local macro_rules | `(tactic| walk_at "call type:int") => `(tactic| (k_here; refine int_e (by assumption) (by assumption) ?_))
local macro_rules | `(tactic| walk_at "call builtin:str.split") => `(tactic| (k_here; refine split5_e (by assumption) (by assumption) (by assumption) (by assumption) (by assumption) ?_; intro _ _ _ _ _ _ _ _ _ _ l1; (try k_lt l1)))
local macro_rules | `(tactic| walk_at "exec If") => `(tactic| (k_here; refine wpAny_If ?_))
local macro_rules | `(tactic| walk_at "ite") => `(tactic| (k_here; first
  | refine ite_pos (by first | assumption | exact rfl | (simp only [decide_eq_true_eq, ge_iff_le, bne_iff_ne, beq_iff_eq, ne_eq, Bool.not_eq_true, Bool.not_eq_false]; first | omega | assumption)) ?_
  | refine ite_neg (by first | assumption | (simp only [decide_eq_true_eq, ge_iff_le, bne_iff_ne, beq_iff_eq, ne_eq, Bool.not_eq_true, Bool.not_eq_false, not_not]; first | omega | assumption) | (intro hx; exact absurd hx (by decide))) ?_))

theorem p229_claim (prog : Program) (w : World) (news : List (Addr × Obj)) (resp body host a b c d f : Str) (e port z : Int) (l : Addr) (t1 t2 t3 : Tok) (hl : (l, tupOf [.str host t2, .int z t3]) ∈ news) (hz : resp.length ≤ sizeLine) (hz2 : body.length + 2 ≤ sizeLine) (g1 : Txt.slice resp none (some 3) = Str.ofString "229") (g2 : Txt.find resp (Str.ofString "(") = 7) (g3 : Txt.find3 resp (Str.ofString ")") (7 + 1) = e) (g4 : 9 ≤ e) (g5 : e < resp.length) (g6 : Txt.item resp (7 + 1) = Str.ofString ".") (g7 : Txt.item resp (e - 1) = Str.ofString ".") (g8 : Txt.slice resp (some (7 + 1)) (some e) = body) (g9 : ((Str.ofString ".").length == 0) = false) (g10 : Txt.split body (Str.ofString ".") = [a, b, c, d, f]) (g11 : PySem.intText? d = some port) (g12 : d.length ≤ 640) :
   Claim prog w 101 20 60 [.str resp t1, .ref l] news (fun r adds => ∃ k t t5, r = .ref k ∧ adds = [(k, tupOf [.str host t, .int port t5])]) := by
  intro p loose mean mg mb dp un gd cn cs aa ccd cl outer A₀ base h₀ L m s Q E hB hF hK hN hT hk hd hun hret
  refine wpAny_call ?_
  k_dflt cell_enter
  k_steps
  exact hret _ [_] _ _ (by k_asm) (News.pick1 (by k_asm)) (News.one (AllLt.out (And.right (by assumption)))) ⟨_, _, _, rfl, rfl⟩
end Mine
end

section
open PySem PySem.W PyProof.Rows PySem.Calls PySem.Spec PySem.Builtin PySem.Builtin.Str PySem.StrLaws
set_option maxRecDepth 100000
namespace Mine
def goL : List Nat := [50, 50, 57, 32, 103, 111, 32, 40]
theorem go_eq : Str.ofString "229 go (." = S (goL ++ [46]) := by decide +kernel
theorem cl_eq : Str.ofString ")" = S [41] := by decide +kernel
theorem cl_eq' : Str.ofString ")" = ⟨#[41]⟩ := by decide +kernel
theorem op_eq' : Str.ofString "(" = ⟨#[40]⟩ := by decide +kernel
theorem n229_eq : Str.ofString "229" = S [50, 50, 57] := by decide +kernel
theorem pre3 (Y : List Nat) : Txt.slice (S (goL ++ Y)) none (some 3) = S [50, 50, 57] := by
  have e : goL ++ Y = [50, 50, 57] ++ ([32, 103, 111, 32, 40] ++ Y) := rfl
  rw [e]; exact slice_to rfl
theorem pre7 (Y : List Nat) : Txt.find3 (S (goL ++ Y)) ⟨#[40]⟩ 0 = 7 := by
  have e : goL ++ Y = [] ++ ([50, 50, 57, 32, 103, 111, 32] ++ 40 :: Y) := rfl
  rw [e, find3_hit (p := []) (i := 0) rfl (by decide)]; rfl
theorem pre8 (c : Nat) (Y : List Nat) : Txt.item (S (goL ++ c :: Y)) (7 + 1) = S [c] := item_at rfl
set_option maxHeartbeats 1000000 in
theorem p229_S (prog : Program) (w : World) (news : List (Addr × Obj)) (A B D : List Nat) (t1 t2 t3 : Tok) (host : Str) (z port : Int) (l : Addr) (hl : (l, tupOf [.str host t2, .int z t3]) ∈ news) (hA : ∀ c ∈ A, Dig c) (hB : ∀ c ∈ B, Dig c) (hD : ∀ c ∈ D, Dig c)
   (lA : A.length ≤ 300) (lB : B.length ≤ 300) (lD : D.length ≤ 300) (i3 : PySem.intText? (S D) = some port) :
   Claim prog w 101 20 60 [.str (S ((goL ++ [46]) ++ (A ++ 46 :: (B ++ 46 :: (D ++ [46]))) ++ [41])) t1, .ref l] news (fun r adds => ∃ k t t5, r = .ref k ∧ adds = [(k, tupOf [.str host t, .int port t5])]) := by
  have sl : sizeLine = 2 ^ 24 := rfl
  have nX : ∀ c, (c < 48 ∨ 57 < c) → c ≠ 46 → c ∉ 46 :: (A ++ 46 :: (B ++ 46 :: (D ++ [46]))) := fun c hc h46 hm => by
    simp only [List.mem_cons, List.mem_append, List.not_mem_nil, or_false] at hm
    rcases hm with h | h | h | h | h | h | h
    · exact h46 h
    · exact dot_notin hA hc h
    · exact h46 h
    · exact dot_notin hB hc h
    · exact h46 h
    · exact dot_notin hD hc h
    · exact h46 h
  have E1 : (goL ++ [46]) ++ (A ++ 46 :: (B ++ 46 :: (D ++ [46]))) ++ [41] = goL ++ ((46 :: (A ++ 46 :: (B ++ 46 :: (D ++ [46])))) ++ 41 :: []) := by simp
  rw [E1]
  have hlen : (46 :: (A ++ 46 :: (B ++ 46 :: (D ++ [46])))).length = A.length + B.length + D.length + 4 := by simp; omega
  refine p229_claim prog w news _ (S (46 :: (A ++ 46 :: (B ++ 46 :: (D ++ [46]))))) host (S []) (S A) (S B) (S D) (S []) (((goL.length + (46 :: (A ++ 46 :: (B ++ 46 :: (D ++ [46])))).length : Nat)) : Int) port z l t1 t2 t3 hl ?_ ?_ ?_ ?_ ?_ ?_ ?_ ?_ ?_ ?_ ?_ ?_ i3 ?_
  · rw [S_len]; simp [goL]; omega
  · rw [S_len]; simp; omega
  · rw [n229_eq]
    exact pre3 _
  · rw [op_eq', find_find3]
    exact pre7 _
  · rw [cl_eq']
    exact find3_hit (p := goL) rfl (nX 41 (by decide) (by decide))
  · rw [hlen]; simp [goL]; omega
  · rw [S_len, hlen]; simp [goL]; omega
  · rw [dot_eq]
    exact pre8 _ _
  · rw [dot_eq]
    have e : goL ++ ((46 :: (A ++ 46 :: (B ++ 46 :: (D ++ [46])))) ++ 41 :: []) = (goL ++ 46 :: (A ++ 46 :: (B ++ 46 :: D))) ++ 46 :: [41] := by simp
    rw [e]
    exact item_at (by rw [hlen]; simp [goL]; omega)
  · exact slice_mid (a := goL) (b := 46 :: (A ++ 46 :: (B ++ 46 :: (D ++ [46])))) (c := 41 :: []) rfl (by simp)
  · rw [dot_eq, S_len]; rfl
  · rw [dot_eq']
    exact split5 (dot_notin hA (by decide)) (dot_notin hB (by decide)) (dot_notin hD (by decide))
  · rw [S_len]; omega
end Mine
end

section
open PySem PySem.W PyProof.Rows PySem.Calls PySem.Spec
set_option maxRecDepth 100000
namespace Mine
set_option maxHeartbeats 8000000

def inA (b : Array UInt8) (W base : Nat) (acc : Array UInt8) : Nat → Array UInt8
  | 0 => acc
  | j + 1 => (inA b W base acc j).setIfInBounds (base + W - 1 - j) (b.getD (base + j) 0)
def outA (b : Array UInt8) (W : Nat) : Nat → Array UInt8
  | 0 => Array.replicate b.size 0
  | i + 1 => inA b W (i * W) (outA b W i) W
theorem inA_size (b : Array UInt8) (W base : Nat) (acc : Array UInt8) : ∀ j, (inA b W base acc j).size = acc.size
  | 0 => rfl
  | j + 1 => by rw [inA, Array.size_setIfInBounds, inA_size]
theorem outA_size (b : Array UInt8) (W : Nat) : ∀ i, (outA b W i).size = b.size
  | 0 => by simp [outA]
  | i + 1 => by rw [outA, inA_size, outA_size]
local macro_rules | `(tactic| k_mem) => `(tactic| assumption)
local macro_rules | `(tactic| walk_at "call builtin:str.find") => `(tactic| (k_here; first | refine find_e (by assumption) ?_ | refine find3_e (by assumption) ?_ | refine find4_e (by assumption) ?_))
local macro_rules | `(tactic| walk_at "call builtin:str.rfind") => `(tactic| (k_here; refine rfind4_e (by assumption) ?_))
local macro_rules | `(tactic| walk_at "call builtin:len") => `(tactic| (k_here; (with_reducible show wpAny _ _ (call (Value.builtin "len") [Value.str _ _]) _ _ _); refine len_e (by assumption) (by assumption) ?_))
local macro_rules | `(tactic| walk_at "binaryOp Add str str") => `(tactic| (k_here; refine add_e (by assumption) (by assumption) ?_; intro _ _))
local macro_rules | `(tactic| walk_at "subscriptTail") => `(tactic| (k_here; (with_reducible show wpAny _ _ (subscriptTail _ (Expr.Slice _ _ none _) (Value.str _ _) (Value.ref _)) _ _ _); (first | refine slice_ss_e (s := ⟨_, _, _, _, _⟩) (by assumption) (by assumption) (by assumption) (by assumption) ?_ | refine slice_ns_e (s := ⟨_, _, _, _, _⟩) (by assumption) (by assumption) (by assumption) (by assumption) ?_ | refine slice_sn_e (s := ⟨_, _, _, _, _⟩) (by assumption) (by assumption) (by assumption) (by assumption) ?_); intro _ _ _ _ _))
local macro_rules | `(tactic| walk_at "subscriptTail Name Slice str ref") => `(tactic| (k_here; (with_reducible show wpAny _ _ (subscriptTail _ (Expr.Slice _ _ none _) (Value.str _ _) (Value.ref _)) _ _ _); (first | refine slice_ss_e (s := ⟨_, _, _, _, _⟩) (by assumption) (by assumption) (by assumption) (by assumption) ?_ | refine slice_ns_e (s := ⟨_, _, _, _, _⟩) (by assumption) (by assumption) (by assumption) (by assumption) ?_ | refine slice_sn_e (s := ⟨_, _, _, _, _⟩) (by assumption) (by assumption) (by assumption) (by assumption) ?_); intro _ _ _ _ _))
local macro_rules | `(tactic| walk_at "subscriptTail") => `(tactic| (k_here; (with_reducible show wpAny _ _ (subscriptTail _ _ (Value.str _ _) (Value.int _ _)) _ _ _); refine item_e (by assumption) (by omega) (by omega) (by assumption) ?_))
local macro_rules | `(tactic| walk_at "subscriptTail Name BinOp str int") => `(tactic| (k_here; refine item_e (by assumption) (by omega) (by omega) (by assumption) ?_))
local macro_rules | `(tactic| walk_at "subscriptTail Name Constant str int") => `(tactic| (k_here; refine item_e (by assumption) (by omega) (by omega) (by assumption) ?_))
local macro_rules | `(tactic| walk_at "subscriptTail Name UnaryOp str int") => `(tactic| (k_here; refine item_e (by assumption) (by omega) (by omega) (by assumption) ?_))
local macro_rules | `(tactic| walk_at "call type:int") => `(tactic| (k_here; refine int_e (by assumption) (by assumption) ?_))
local macro_rules | `(tactic| walk_at "call builtin:str.split") => `(tactic| (k_here; refine split5_e (by assumption) (by assumption) (by assumption) (by assumption) (by assumption) ?_; intro _ _ _ _ _ _ _ _ _ _ l1; (try k_lt l1)))
local macro_rules | `(tactic| walk_at "exec If") => `(tactic| (k_here; refine wpAny_If ?_))
local macro_rules | `(tactic| walk_at "ite") => `(tactic| (k_here; first
  | refine ite_pos (by first | assumption | exact rfl | (simp only [decide_eq_true_eq, ge_iff_le, bne_iff_ne, beq_iff_eq, ne_eq, Bool.not_eq_true, Bool.not_eq_false]; first | omega | assumption)) ?_
  | refine ite_neg (by first | assumption | (simp only [decide_eq_true_eq, ge_iff_le, bne_iff_ne, beq_iff_eq, ne_eq, Bool.not_eq_true, Bool.not_eq_false, not_not]; first | omega | assumption) | (intro hx; exact absurd hx (by decide))) ?_))

local macro_rules | `(tactic| walk_at "pyIter ref") => `(tactic| ((with_reducible show wpAny _ _ (pyIter (Value.ref _)) _ _ _); refine Stop.enter ?_))
local macro_rules | `(tactic| walk_at "subscriptTail") => `(tactic| (k_here; (with_reducible show wpAny _ _ (subscriptTail _ _ (Value.bytes _ _) (Value.int _ _)) _ _ _); (refine item_B (by omega) (by omega) (by omega) ?_); intro _ _))

theorem bsw_claim (prog : Program) (w : World) (news : List (Addr × Obj)) (b : Array UInt8) (n W : Nat) (wd : Int) (tb tw : Tok) (hb : b.size ≤ 1000) (h1 : 1 ≤ W) (hWs : W ≤ 10000) (hW : wd = (W : Int)) (hn : b.size = n * W) :
   ClaimR prog w 108 20 60 [.bytes b tb, .int wd tw] (news) (fun r adds => ∃ t, r = .bytes (outA b W n) t ∧ adds = []) := by
  intro p loose mean mg mb dp un gd cn cs aa ccd cl outer A₀ base h₀ L m s Q hB hF hK hN hT hk hd hun hret
  refine wpR_call ?_
  k_dflt (refine' codeR_K ?k1 ?k2 ?k3 ?k4 ?k5 ?kA ?kF ?kK ?k6 ?k7 ?k8 ?k9 ?kB ?_ ?c2 ?c3 ?c4 ?c5; (case kA => exact rfl); (case kF => exact rfl); (case kK => assumption); (case k1 => k_asm); (case k2 => k_asm); (case k3 => k_asm); (case k4 => k_asm); (case k5 => k_asm); (case k6 => k_is); (case k7 => k_is); (case k8 => ktr_room); (case k9 => exact BindsTo.of_eq rfl); (case c5 => decide); (case kB => exact locs rfl); (case c2 => exact rfl); (case c3 => exact rfl); (case c4 => exact rfl); k_whole; intro g' L' h' FG' F' N' B' X' T' l0'; (try dsimp only); (try k_lift B'); (try k_fold))

  refine execsR_cons (execR_Assign (evalR_Call ?_))
  k_steps
  refine callR_type1 ?_
  k_steps
  refine baN_call (by omega) (by k_asm) (by k_asm) ?_
  intro D hD lD FD ND
  k_steps
  refine wpR_of ?_
  k_steps
  subst hW
  have hnW : n * W ≤ 1000 := hn ▸ hb
  have hoff : ∀ p ∈ news, p.1 ≠ D := fun p hp => Nat.ne_of_lt (lD p hp)
  refine Stop.out ?_
  (rename IsRange _ _ _ _ _ _ _ _ => hr3)
  (rename Fr _ _ _ _ => F3)
  (rename News _ _ _ _ => N3)
  rw [hn] at hr3
  refine range_ba (n := n) [Str.ofString "i", Str.ofString "j"] (outA b W) rfl hr3 (small_step h1 (by omega) (by omega)) (rangeSize_step h1) F3 N3 rfl hoff ?_ ?_
  · intro i t u h4 tk4 rest hi hrest F4 N4
    have ei : (0 : Int) + (i : Int) * (W : Int) = ((i * W : Nat) : Int) := by rw [Int.zero_add, Int.natCast_mul]
    have hI : i * W + W ≤ b.size := by
      rw [hn, ← Nat.succ_mul]
      exact Nat.mul_le_mul_right W hi
    rw [ei] at F4
    rw [outA]
    have hz := outA_size b W i
    generalize outA b W i = acc at N4 hz ⊢
    generalize i * W = I at F4 hI ⊢
    k_steps
    refine Stop.out ?_
    (rename IsRange _ _ _ _ _ _ _ _ => hr5)
    (rename Fr _ _ _ _ => F5)
    (rename News _ _ _ _ => N5)
    refine range_ba (n := W) [Str.ofString "j"] (inA b W I acc) rfl hr5 (small_one (by omega) (by omega) (by omega) (by omega)) (rangeSize_nat _ _) F5 N5 rfl hrest ?_ ?_
    · intro j t u h4 tk4 rest hj hrest F4 N4
      have ej : (0 : Int) + (j : Int) * 1 = (j : Int) := by omega
      rw [ej] at F4
      rw [inA]
      have hz2 := inA_size b W I acc j
      generalize inA b W I acc j = acc2 at N4 hz2 ⊢
      k_steps
      have hlt : (b.getD (↑I + ↑j : Int).toNat 0).toNat < 256 := UInt8.toNat_lt _
      refine ba_setN (by k_asm) (by k_asm) hrest (by omega) (by omega) (by omega) (by omega) (by omega) ?_
      intro h5 F6 N6
      have e1 : (↑I + ↑W - 1 - ↑j : Int).toNat = I + W - 1 - j := by omega
      have e2 : (↑I + ↑j : Int).toNat = I + j := by omega
      have e3 : ∀ x : UInt8, (x.toNat : Int).toNat.toUInt8 = x := fun x => by simp
      rw [e1, e2, e3] at N6
      k_steps
      refine Stop.out ⟨rfl, _, _, _, rfl, by k_asm, by k_asm, fun y hy => ?_⟩
      rw [if_neg (ne_of_off rfl hy), hy]; rfl
    · intro u h4 tk4 F4 N4
      k_steps
      refine Stop.out ⟨rfl, _, _, _, rfl, by k_asm, by k_asm, fun y hy => ?_⟩
      have hy2 : [Str.ofString "j"].contains y = false := by
        cases e : [Str.ofString "j"].contains y with
        | false => rfl
        | true =>
          have := ne_of_off (stored := [Str.ofString "i", Str.ofString "j"]) (x := Str.ofString "j") rfl hy
          simp at e
          exact absurd e this
      rw [hy2, if_neg (by decide), if_neg (ne_of_off rfl hy), hy]; rfl
  · intro u h4 tk4 F4 N4
    k_steps
    (rename News _ _ _ _ => N9)
    refine by_call (N9 _ (List.mem_cons_self ..)).1 (by rw [outA_size]; omega) ?_
    intro tr tk5
    refine leaveK_ (by k_asm) (by k_asm) fun FF NN => ?_
    exact hret _ [] _ _ FF (News.sub0 NN fun p hp => List.mem_cons_of_mem _ hp) (fun _ _ _ h => nomatch h) ⟨_, rfl, rfl⟩

end Mine
end

section
open PySem PySem.W PyProof.Rows PySem.Calls
set_option maxRecDepth 100000
namespace Mine
theorem inA_list {bl pre post blk : List UInt8} {W base : Nat} {acc : Array UInt8} (hp : pre.length = base) (hb : blk.length = W) (hget : ∀ j, j < W → bl.toArray.getD (base + j) 0 = blk.getD j 0) (ha : acc.toList = pre ++ (List.replicate W 0 ++ post)) :
    ∀ j, j ≤ W → (inA bl.toArray W base acc j).toList = pre ++ (List.replicate (W - j) 0 ++ ((blk.take j).reverse ++ post))
  | 0, _ => by simpa [inA] using ha
  | j + 1, hj => by
    have ih := inA_list hp hb hget ha j (by omega)
    rw [inA, Array.toList_setIfInBounds, ih, hget j (by omega)]
    have e1 : W - j = (W - (j + 1)) + 1 := by omega
    rw [e1, List.replicate_succ', List.append_assoc, List.singleton_append]
    have e2 : base + W - 1 - j = (pre ++ List.replicate (W - (j + 1)) (0 : UInt8)).length := by rw [List.length_append, List.length_replicate, hp]; omega
    rw [← List.append_assoc, e2, List.set_append_right _ _ (Nat.le_refl _), Nat.sub_self]
    have e3 : blk.take (j + 1) = blk.take j ++ [blk.getD j 0] := by
      rw [List.take_add_one, List.getD, List.getElem?_eq_getElem (by omega)]; rfl
    rw [e3, List.reverse_append]
    simp
def revB (W : Nat) (bl : List UInt8) : Nat → List UInt8
  | 0 => []
  | i + 1 => revB W bl i ++ ((bl.drop (i * W)).take W).reverse
theorem revB_len {W : Nat} {bl : List UInt8} : ∀ i, i * W ≤ bl.length → (revB W bl i).length = i * W
  | 0, _ => by simp [revB]
  | i + 1, h => by
    have h' : i * W + W ≤ bl.length := by rwa [Nat.succ_mul] at h
    rw [revB, List.length_append, revB_len i (by omega), List.length_reverse, List.length_take, List.length_drop, Nat.succ_mul]
    omega
theorem outA_list {W : Nat} {bl : List UInt8} : ∀ i, i * W ≤ bl.length → (outA bl.toArray W i).toList = revB W bl i ++ List.replicate (bl.length - i * W) 0
  | 0, _ => by simp [outA, revB]
  | i + 1, h => by
    have h' : i * W + W ≤ bl.length := by rwa [Nat.succ_mul] at h
    have ih := outA_list (W := W) (bl := bl) i (by omega)
    rw [outA]
    have e : bl.length - i * W = W + (bl.length - (i + 1) * W) := by rw [Nat.succ_mul]; omega
    have key := inA_list (bl := bl) (pre := revB W bl i) (post := List.replicate (bl.length - (i + 1) * W) 0) (blk := (bl.drop (i * W)).take W) (W := W) (base := i * W) (acc := outA bl.toArray W i) (revB_len i (by omega))
      (by rw [List.length_take, List.length_drop]; omega) (fun j hj => by
        simp [Array.getD, List.getD, List.getElem?_take, hj, show i * W + j < bl.length by omega]) (by
        rw [ih, e, List.replicate_append_replicate.symm]) W (Nat.le_refl _)
    rw [key, revB]
    simp [List.take_take]
theorem back_u8 {l : List Nat} (h : ∀ c ∈ l, c < 256) : (l.map Nat.toUInt8).map UInt8.toNat = l := by
  rw [List.map_map]
  conv => rhs; rw [← List.map_id l]
  refine List.map_congr_left fun c hc => ?_
  have := h c hc
  simp [Nat.toUInt8, Nat.mod_eq_of_lt this]
theorem swap_whole (l : List UInt8) : outA l.toArray l.length 1 = l.reverse.toArray := by
  apply Array.toList_inj.mp
  rw [outA_list 1 (by omega)]
  simp [revB]
theorem swap_three {P Q R : List UInt8} {W : Nat} (hP : P.length = W) (hQ : Q.length = W) (hR : R.length = W) : outA (P ++ (Q ++ R)).toArray W 3 = (P.reverse ++ (Q.reverse ++ R.reverse)).toArray := by
  apply Array.toList_inj.mp
  rw [outA_list 3 (by simp; omega)]
  have e0 : 0 * W = 0 := Nat.zero_mul _
  have e1 : 1 * W = P.length := by omega
  have e2 : 2 * W = (P ++ Q).length := by simp; omega
  have e3 : 3 * W = (P ++ (Q ++ R)).length := by simp; omega
  have a0 : ((P ++ (Q ++ R)).drop (0 * W)).take W = P := by rw [e0, List.drop_zero, ← hP, List.take_left]
  have a1 : ((P ++ (Q ++ R)).drop (1 * W)).take W = Q := by rw [e1, List.drop_left, ← hQ, List.take_left]
  have a2 : ((P ++ (Q ++ R)).drop (2 * W)).take W = R := by rw [e2, ← List.append_assoc, List.drop_left, ← hR, List.take_length]
  simp only [revB]
  rw [a0, a1, a2, e3, Nat.sub_self]
  simp
theorem turned_three {P Q R : List Nat} {W : Nat} (hP : P.length = W) (hQ : Q.length = W) (hR : R.length = W) (h : ∀ c ∈ P ++ (Q ++ R), c < 128) :
    ((outA (outA (BA (P ++ (Q ++ R))) (P ++ (Q ++ R)).length 1) W 3).toList.map UInt8.toNat) = R ++ (Q ++ P) := by
  have e1 : BA (P ++ (Q ++ R)) = ((P.map Nat.toUInt8) ++ ((Q.map Nat.toUInt8) ++ (R.map Nat.toUInt8))).toArray := by simp [BA]
  have e2 : (P ++ (Q ++ R)).length = ((P.map Nat.toUInt8) ++ ((Q.map Nat.toUInt8) ++ (R.map Nat.toUInt8))).length := by simp
  rw [e1, e2, swap_whole]
  have e3 : ((P.map Nat.toUInt8) ++ ((Q.map Nat.toUInt8) ++ (R.map Nat.toUInt8))).reverse = (R.map Nat.toUInt8).reverse ++ ((Q.map Nat.toUInt8).reverse ++ (P.map Nat.toUInt8).reverse) := by simp
  rw [e3, swap_three (by simp [hR]) (by simp [hQ]) (by simp [hP])]
  simp only [List.reverse_reverse]
  rw [← List.map_append, ← List.map_append]
  exact back_u8 fun c hc => Nat.lt_trans (h c (by simp only [List.mem_append] at hc ⊢; rcases hc with h | h | h; exact .inr (.inr h); exact .inr (.inl h); exact .inl h)) (by decide)
end Mine
end

section
open PySem PySem.W PyProof.Rows PySem.Calls PySem.Spec
set_option maxRecDepth 100000
namespace Mine
local macro_rules | `(tactic| walk_at "no key") => `(tactic| fail)
set_option maxHeartbeats 8000000
local macro_rules | `(tactic| k_mem) => `(tactic| assumption)
local macro_rules | `(tactic| walk_at "call builtin:str.find") => `(tactic| (k_here; first | refine find_e (by assumption) ?_ | refine find3_e (by assumption) ?_ | refine find4_e (by assumption) ?_))
local macro_rules | `(tactic| walk_at "call builtin:str.rfind") => `(tactic| (k_here; refine rfind4_e (by assumption) ?_))
local macro_rules | `(tactic| walk_at "call builtin:len") => `(tactic| (k_here; (with_reducible show wpAny _ _ (call (Value.builtin "len") [Value.str _ _]) _ _ _); refine len_e (by assumption) (by assumption) ?_))
local macro_rules | `(tactic| walk_at "binaryOp Add str str") => `(tactic| (k_here; refine add_e (by assumption) (by assumption) ?_; intro _ _))
local macro_rules | `(tactic| walk_at "subscriptTail") => `(tactic| (k_here; (with_reducible show wpAny _ _ (subscriptTail _ (Expr.Slice _ _ none _) (Value.str _ _) (Value.ref _)) _ _ _); (first | refine slice_ss_e (s := ⟨_, _, _, _, _⟩) (by assumption) (by assumption) (by assumption) (by assumption) ?_ | refine slice_ns_e (s := ⟨_, _, _, _, _⟩) (by assumption) (by assumption) (by assumption) (by assumption) ?_ | refine slice_sn_e (s := ⟨_, _, _, _, _⟩) (by assumption) (by assumption) (by assumption) (by assumption) ?_); intro _ _ _ _ _))
local macro_rules | `(tactic| walk_at "subscriptTail Name Slice str ref") => `(tactic| (k_here; (with_reducible show wpAny _ _ (subscriptTail _ (Expr.Slice _ _ none _) (Value.str _ _) (Value.ref _)) _ _ _); (first | refine slice_ss_e (s := ⟨_, _, _, _, _⟩) (by assumption) (by assumption) (by assumption) (by assumption) ?_ | refine slice_ns_e (s := ⟨_, _, _, _, _⟩) (by assumption) (by assumption) (by assumption) (by assumption) ?_ | refine slice_sn_e (s := ⟨_, _, _, _, _⟩) (by assumption) (by assumption) (by assumption) (by assumption) ?_); intro _ _ _ _ _))
local macro_rules | `(tactic| walk_at "subscriptTail") => `(tactic| (k_here; (with_reducible show wpAny _ _ (subscriptTail _ _ (Value.str _ _) (Value.int _ _)) _ _ _); refine item_e (by assumption) (by omega) (by omega) (by assumption) ?_))
local macro_rules | `(tactic| walk_at "subscriptTail Name BinOp str int") => `(tactic| (k_here; refine item_e (by assumption) (by omega) (by omega) (by assumption) ?_))
local macro_rules | `(tactic| walk_at "subscriptTail Name Constant str int") => `(tactic| (k_here; refine item_e (by assumption) (by omega) (by omega) (by assumption) ?_))
local macro_rules | `(tactic| walk_at "subscriptTail Name UnaryOp str int") => `(tactic| (k_here; refine item_e (by assumption) (by omega) (by omega) (by assumption) ?_))
local macro_rules | `(tactic| walk_at "call type:int") => `(tactic| (k_here; refine int_e (by assumption) (by assumption) ?_))
local macro_rules | `(tactic| walk_at "call builtin:str.split") => `(tactic| (k_here; refine split5_e (by assumption) (by assumption) (by assumption) (by assumption) (by assumption) ?_; intro _ _ _ _ _ _ _ _ _ _ l1; (try k_lt l1)))
local macro_rules | `(tactic| walk_at "exec If") => `(tactic| (k_here; refine wpAny_If ?_))
local macro_rules | `(tactic| walk_at "ite") => `(tactic| (k_here; first
  | refine ite_pos (by first | assumption | exact rfl | (simp only [decide_eq_true_eq, ge_iff_le, bne_iff_ne, beq_iff_eq, ne_eq, Bool.not_eq_true, Bool.not_eq_false]; first | omega | assumption)) ?_
  | refine ite_neg (by first | assumption | (simp only [decide_eq_true_eq, ge_iff_le, bne_iff_ne, beq_iff_eq, ne_eq, Bool.not_eq_true, Bool.not_eq_false, not_not]; first | omega | assumption) | (intro hx; exact absurd hx (by decide))) ?_))

local macro_rules | `(tactic| walk_at "call builtin:len") => `(tactic| (k_here; (with_reducible show wpAny _ _ (call (Value.builtin "len") [Value.bytes (BA _) _]) _ _ _); refine len_BA (by omega) ?_; intro _ _))
local macro_rules | `(tactic| walk_at "eval ListComp") => `(tactic| (k_here; k_dflt (refine ListComp_X (F₀ := by k_asm) (by with_unfolding_all rfl) (by decide) (by rfl) (by decide) (by rfl) ?_)))

theorem turned_claim (prog : Program) (w : World) (news : List (Addr × Obj)) (l : List Nat) (wide : Nat) (wd : Int) (tb tw : Tok) (hl : l.length ≤ 1000) (hw : wd = (wide : Int)) (hw2 : wide ≤ 900) (n : Nat) (hn : l.length = n * (wide + 1)) (hpos : 0 < l.length) (hc : ∀ c ∈ l, c < 128) :
   ClaimR prog w 144 60 200 [.str (S l) tb, .int wd tw] (news) (fun r adds => ∃ t, r = .str (S ((outA (outA (BA l) l.length 1) (wide + 1) n).toList.map UInt8.toNat)) t ∧ adds = []) := by
  intro p loose mean mg mb dp un gd cn cs aa ccd cl outer A₀ base h₀ L m s Q hB hF hK hN hT hk hd hun hret
  refine wpR_call ?_
  k_dflt (refine' codeR_K ?k1 ?k2 ?k3 ?k4 ?k5 ?kA ?kF ?kK ?k6 ?k7 ?k8 ?k9 ?kB ?_ ?c2 ?c3 ?c4 ?c5; (case kA => exact rfl); (case kF => exact rfl); (case kK => assumption); (case k1 => k_asm); (case k2 => k_asm); (case k3 => k_asm); (case k4 => k_asm); (case k5 => k_asm); (case k6 => k_is); (case k7 => k_is); (case k8 => ktr_room); (case k9 => exact BindsTo.of_eq rfl); (case c5 => decide); (case kB => exact locs rfl); (case c2 => exact rfl); (case c3 => exact rfl); (case c4 => exact rfl); k_whole; intro g' L' h' FG' F' N' B' X' T' l0'; (try dsimp only); (try k_lift B'); (try k_fold))

  have hsz : (S l).cps.size = l.length := by simp [S]
  refine execsR_cons (wpR_of ?_)
  k_steps
  refine Stop.out (SrcX.mk (SignAt (S l)) (fun i y => ∃ t, y = .int ((l.getD i 0 : Nat) : Int) t) (SrcKind.str (ascii_S hc)) (by rw [hsz]; have : sizeLine = 2 ^ 24 := rfl; omega) rfl (by k_asm) (by k_asm) ?_ ?_)
  · intro g i v I oI C oC D m₂ ys h tk E' hi hv hC hx F9 N9 off ne
    obtain ⟨c, u, hc, rfl⟩ := hv
    k_steps
    have e : l.getD i 0 = c := by
      have : (S l).cps[i]? = some c := hc
      simp [S] at this
      simp [this]
    rw [e]
    exact Stop.out (LCg.CompEnd.intro (by assumption) (by assumption) _ (fun _ hp => hp) (by assumption) trivial ⟨rfl, _, rfl⟩)
  · intro ys D h tk hlen hR F9 N9 o9
    rw [hsz] at hlen
    k_steps
    refine KBa.make_K (by k_asm) (by k_asm) rfl (News.isList (by k_asm) (List.mem_cons_self ..)) (intsAre_of hlen hR) ?_ (by rw [List.length_map]; omega) ?_
    · intro n hn
      obtain ⟨c, h1, rfl⟩ := List.mem_map.mp hn
      have := hc c h1
      omega
    intro h' t' k' F9 N9 _
    rw [byteArr_BA]
    k_steps
    refine execsR_cons (execR_Assign (evalR_Call ?_))
    k_steps
    refine callR_fnR (splicedRest (evalR_Call ?_))
    k_steps
    refine callR_fn1 ?_
    k_steps
    refine Stop.out ⟨isFn (by k_asm) (by k_asm) rfl rfl, ?_⟩
    k_dflt (refine' ClaimR.use (bsw_claim prog w _ (BA l) 1 l.length _ _ _ (by rw [BA_size]; omega) hpos (by omega) rfl (by rw [BA_size]; omega)) ?k1 ?k2 ?k3 ?k4 ?k5 ?k6 ?k7 ?k8 ?_; (case k1 => k_asm); (case k2 => k_asm); (case k3 => k_asm); (case k4 => k_asm); (case k5 => k_asm); (case k6 => first | exact rfl | assumption); (case k7 => ktr_room); (case k8 => ktr_units); k_whole)
    rintro r adds h2 tk2 F9 N9 l9 ⟨t9, rfl, rfl⟩
    k_steps
    refine Stop.out ⟨isFn (by k_asm) (by k_asm) rfl rfl, ?_⟩
    k_dflt (refine' ClaimR.use (bsw_claim prog w _ (outA (BA l) l.length 1) n (wide + 1) _ _ _ (by rw [outA_size, BA_size]; omega) (by omega) (by omega) (by omega) (by rw [outA_size, BA_size]; exact hn)) ?k1 ?k2 ?k3 ?k4 ?k5 ?k6 ?k7 ?k8 ?_; (case k1 => k_asm); (case k2 => k_asm); (case k3 => k_asm); (case k4 => k_asm); (case k5 => k_asm); (case k6 => first | exact rfl | assumption); (case k7 => ktr_room); (case k8 => ktr_units); k_whole)
    rintro r adds h2 tk2 F9 N9 l9 ⟨t9, rfl, rfl⟩
    k_steps
    refine wpR_of ?_
    have hz2 : (outA (outA (BA l) l.length 1) (wide + 1) n).size = l.length := by rw [outA_size, outA_size, BA_size]
    k_steps
    refine Stop.out (SrcX.mk _ (fun i y => ∃ t, y = .str (S [((outA (outA (BA l) l.length 1) (wide + 1) n).toList.map UInt8.toNat).getD i 0]) t) SrcKind.bytes (by rw [hz2]; have : sizeLine = 2 ^ 24 := rfl; omega) rfl (by k_asm) (by k_asm) ?_ ?_)
    · intro g i v I oI C oC D m₂ ys h tk E' hi hv hC hx F9 N9 off ne
      obtain ⟨c, u, hc, rfl⟩ := hv
      have e : ((outA (outA (BA l) l.length 1) (wide + 1) n).toList.map UInt8.toNat).getD i 0 = c.toNat := by
        have h1 : (outA (outA (BA l) l.length 1) (wide + 1) n).toList[i]? = some c := by rw [Array.getElem?_toList]; exact hc
        simp only [List.getD, List.getElem?_map, h1, Option.map_some, Option.getD_some]
      have hc9 := UInt8.toNat_lt c
      k_steps
      rw [e]
      exact Stop.out (LCg.CompEnd.intro (by assumption) (by assumption) _ (fun _ hp => hp) (by assumption) trivial ⟨rfl, _, rfl⟩)
    · intro ys D h tk hlen hR F9 N9 o9
      rw [hz2] at hlen
      have hl8 : ((outA (outA (BA l) l.length 1) (wide + 1) n).toList.map UInt8.toNat).length = l.length := by rw [List.length_map, Array.length_toList, hz2]
      k_steps
      have hc8 := strsAre_of (l := (outA (outA (BA l) l.length 1) (wide + 1) n).toList.map UInt8.toNat) (hlen.trans hl8.symm) hR
      refine join_S (ks := (outA (outA (BA l) l.length 1) (wide + 1) n).toList.map UInt8.toNat) (g := fun c => [c]) 1 (News.isList (by k_asm) (List.mem_cons_self ..)) (by assumption) (fun _ _ => Nat.le_refl 1) (by rw [hl8]; omega) ?_
      intro t8 k8
      have e : ∀ l : List Nat, l.flatMap (fun c => [c]) = l := fun l => by simp
      rw [e]
      k_steps
      exact hret _ [] _ _ (by k_asm) (News.sub0 (by k_asm) (fun p hp => by simp [hp])) (fun _ _ _ h => nomatch h) ⟨_, rfl, rfl⟩

end Mine
end

section
open PySem PySem.W PyProof.Rows PySem.Calls PySem.Spec
set_option maxRecDepth 100000
namespace Mine
set_option maxHeartbeats 8000000
local macro_rules | `(tactic| k_mem) => `(tactic| assumption)
local macro_rules | `(tactic| walk_at "call builtin:str.find") => `(tactic| (k_here; first | refine find_e (by assumption) ?_ | refine find3_e (by assumption) ?_ | refine find4_e (by assumption) ?_))
local macro_rules | `(tactic| walk_at "call builtin:str.rfind") => `(tactic| (k_here; refine rfind4_e (by assumption) ?_))
local macro_rules | `(tactic| walk_at "call builtin:len") => `(tactic| (k_here; (with_reducible show wpAny _ _ (call (Value.builtin "len") [Value.str _ _]) _ _ _); refine len_e (by assumption) (by assumption) ?_))
local macro_rules | `(tactic| walk_at "binaryOp Add str str") => `(tactic| (k_here; refine add_e (by assumption) (by assumption) ?_; intro _ _))
local macro_rules | `(tactic| walk_at "subscriptTail") => `(tactic| (k_here; (with_reducible show wpAny _ _ (subscriptTail _ (Expr.Slice _ _ none _) (Value.str _ _) (Value.ref _)) _ _ _); (first | refine slice_ss_e (s := ⟨_, _, _, _, _⟩) (by assumption) (by assumption) (by assumption) (by assumption) ?_ | refine slice_ns_e (s := ⟨_, _, _, _, _⟩) (by assumption) (by assumption) (by assumption) (by assumption) ?_ | refine slice_sn_e (s := ⟨_, _, _, _, _⟩) (by assumption) (by assumption) (by assumption) (by assumption) ?_); intro _ _ _ _ _))
local macro_rules | `(tactic| walk_at "subscriptTail Name Slice str ref") => `(tactic| (k_here; (with_reducible show wpAny _ _ (subscriptTail _ (Expr.Slice _ _ none _) (Value.str _ _) (Value.ref _)) _ _ _); (first | refine slice_ss_e (s := ⟨_, _, _, _, _⟩) (by assumption) (by assumption) (by assumption) (by assumption) ?_ | refine slice_ns_e (s := ⟨_, _, _, _, _⟩) (by assumption) (by assumption) (by assumption) (by assumption) ?_ | refine slice_sn_e (s := ⟨_, _, _, _, _⟩) (by assumption) (by assumption) (by assumption) (by assumption) ?_); intro _ _ _ _ _))
local macro_rules | `(tactic| walk_at "subscriptTail") => `(tactic| (k_here; (with_reducible show wpAny _ _ (subscriptTail _ _ (Value.str _ _) (Value.int _ _)) _ _ _); refine item_e (by assumption) (by omega) (by omega) (by assumption) ?_))
local macro_rules | `(tactic| walk_at "subscriptTail Name BinOp str int") => `(tactic| (k_here; refine item_e (by assumption) (by omega) (by omega) (by assumption) ?_))
local macro_rules | `(tactic| walk_at "subscriptTail Name Constant str int") => `(tactic| (k_here; refine item_e (by assumption) (by omega) (by omega) (by assumption) ?_))
local macro_rules | `(tactic| walk_at "subscriptTail Name UnaryOp str int") => `(tactic| (k_here; refine item_e (by assumption) (by omega) (by omega) (by assumption) ?_))
local macro_rules | `(tactic| walk_at "call type:int") => `(tactic| (k_here; refine int_e (by assumption) (by assumption) ?_))
local macro_rules | `(tactic| walk_at "call builtin:str.split") => `(tactic| (k_here; refine split5_e (by assumption) (by assumption) (by assumption) (by assumption) (by assumption) ?_; intro _ _ _ _ _ _ _ _ _ _ l1; (try k_lt l1)))
local macro_rules | `(tactic| walk_at "exec If") => `(tactic| (k_here; refine wpAny_If ?_))
local macro_rules | `(tactic| walk_at "ite") => `(tactic| (k_here; first
  | refine ite_pos (by first | assumption | exact rfl | (simp only [decide_eq_true_eq, ge_iff_le, bne_iff_ne, beq_iff_eq, ne_eq, Bool.not_eq_true, Bool.not_eq_false]; first | omega | assumption)) ?_
  | refine ite_neg (by first | assumption | (simp only [decide_eq_true_eq, ge_iff_le, bne_iff_ne, beq_iff_eq, ne_eq, Bool.not_eq_true, Bool.not_eq_false, not_not]; first | omega | assumption) | (intro hx; exact absurd hx (by decide))) ?_))

local macro_rules | `(tactic| walk_at "call type:str") => `(tactic| (k_here; refine str_e (by assumption) (by assumption) ?_; intro _ _))
local macro_rules | `(tactic| walk_at "call builtin:len") => `(tactic| (k_here; (with_reducible show wpAny _ _ (call (Value.builtin "len") [Value.str (S _) _]) _ _ _); refine len_S ?kz ?_; (case kz => ((have q9 := (by assumption : ∀ k ∈ [_, _, _], (dgs (Int.toNat k)).length ≤ 600) _ (by assumption)); (try simp only [List.length_append, List.length_replicate, List.length_cons, List.length_nil]); omega)); intro _ _))
local macro_rules | `(tactic| walk_at "binaryOp Mult str int") => `(tactic| (k_here; rw [nul_eq]; refine mul_S ?kz ?ky ?_; (case kz => ((have q9 := (by assumption : ∀ k ∈ [_, _, _], (dgs (Int.toNat k)).length ≤ 600) _ (by assumption)); (try simp only [List.length_append, List.length_replicate, List.length_cons, List.length_nil]); omega)); (case ky => ((have q9 := (by assumption : ∀ k ∈ [_, _, _], (dgs (Int.toNat k)).length ≤ 600) _ (by assumption)); (try simp only [List.length_append, List.length_replicate, List.length_cons, List.length_nil]); omega)); intro _ _))
local macro_rules | `(tactic| walk_at "binaryOp Add str str") => `(tactic| (k_here; (try rw [dot_eq]); refine add_S ?kz ?_; (case kz => ((have q9 := (by assumption : ∀ k ∈ [_, _, _], (dgs (Int.toNat k)).length ≤ 600) _ (by assumption)); (try simp only [List.length_append, List.length_replicate, List.length_cons, List.length_nil]); omega)); intro _ _))
local macro_rules | `(tactic| walk_at "CompSrc") => `(tactic| (k_here; k_dflt (refine LCg.CompSrc.ledger (by rfl) (by k_asm) (by k_asm) (by k_mem) (by kcf_size) ?_; intro g'; (refine' kct_list _ (by first | assumption | l_ints) (fun k' t' I' oI' C' oC' D' m' ys' h' tk' E' hk' hC' hx' F' N' off' ne' => ?_) ?_); (all_goals (try (simp only [LCg.Off3, and_true] at off'))); (all_goals (try ((show KPfMark → _); intro hMark'))); kcf_last)))
local macro_rules | `(tactic| walk_at "CompEnd") => `(tactic| (refine' LCg.CompEnd.intro ?a9 ?b9 _ ?c9 ?d9 ?e9 ?f9; (case c9 => exact fun _ hp => hp); (case a9 => assumption); (case b9 => assumption); (case d9 => first | assumption | (simp only [LCg.Off3]; assumption)); (case e9 => first | lcg_src | assumption)))
local macro_rules | `(tactic| walk_at "call builtin:str.join") => `(tactic| (k_here; refine join_S 1800 (by first | assumption | is_list | exact News.isList (by k_asm) (by k_mem)) (by assumption) ?kz (by simp) ?_; (case kz => (intro k8 hk8; ((have q9 := (by assumption : ∀ k ∈ [_, _, _], (dgs (Int.toNat k)).length ≤ 600) _ (by assumption)); (try simp only [List.length_append, List.length_replicate, List.length_cons, List.length_nil]); omega))); intro _ _))

theorem row_raw (prog : Program) (w : World) (news : List (Addr × Obj)) (l : Addr) (x y z wd : Int) (tx ty tz tw : Tok) (q0 : ∀ k ∈ [x, y, z], 0 ≤ k ∧ k < 10 ^ 500) (q : ∀ k ∈ [x, y, z], (dgs k.toNat).length ≤ 600) (hw0 : 0 ≤ wd) (hw : wd ≤ 600) :
   Claim prog w 139 60 200 [.ref l, .int wd tw] ((l, lstOf [.int x tx, .int y ty, .int z tz]) :: news) (fun r adds => ∃ t, r = .str (S ([x, y, z].flatMap fun k => List.replicate (wd - ((dgs k.toNat).length : Int)).toNat 48 ++ dgs k.toNat ++ [46])) t ∧ adds = []) := by
  intro p loose mean mg mb dp un gd cn cs aa ccd cl outer A₀ base h₀ L m s Q E hB hF hK hN hT hk hd hun hret
  refine wpAny_call ?_
  k_dflt (refine' code_defC ?k1 ?k2 ?k3 ?k4 ?k5 ?kA ?kF ?kK ?k6 ?k7 ?k8 ?k9 ?kB ?kD ?_ ?c2 ?c3 ?c4; (case kA => exact rfl); (case kF => exact rfl); (case kK => assumption); (case k1 => k_asm); (case k2 => k_asm); (case k3 => k_asm); (case k4 => k_asm); (case k5 => k_asm); (case k6 => k_is); (case k7 => k_is); (case k8 => ktr_room); (case k9 => exact BindsTo.of_eq rfl); (case kB => exact rfl); (case kD => decide +kernel); (case c2 => exact rfl); (case c3 => exact rfl); (case c4 => exact rfl); k_whole; intro g' L' h' tk' cells' FG' F' N' Y' B' X' T' l1; (try k_lt l1); k_cells Y'; (try simp only [List.cons_append, List.nil_append] at N'); (try dsimp only); (try k_lift B'); (try k_fold))
  k_steps
  exact hret _ [] _ _ (by k_asm) (News.sub0 (by k_asm) (fun p hp => by simp only [List.mem_cons] at hp ⊢; grind)) (fun _ _ _ h => nomatch h) ⟨_, rfl, rfl⟩
end Mine
end

section
open PySem PySem.W PyProof.Rows PySem.Calls
set_option maxRecDepth 100000
namespace Mine
section
variable {M : Model} {A : Around} {s : Shared}
theorem codeR_loop {c : Code} {R : Result → Shared → Prop} (hc : Calm c) (hq : c.quiet = true) (I : Nat → Shared → Prop)
    (turn : ∀ n s, I n s → wpR M (A.under c) (M.den c)
      (fun fin s' => match fin with | .done f => R (.ok f) s' | .again c' => (c' = c ∧ ∃ m, m < n ∧ I m s') ∨ (c'.quiet = true ∧ codeR M A c' R s')) s)
    (n : Nat) (h : I n s) : codeR M A c R s := by
  induction n using Nat.strongRecOn generalizing s with
  | ind n ih =>
    refine codeR_of_tree hc (wpR_mono (turn n s h) (fun fin s' hf => ?_))
    cases fin with
    | done f => exact hf
    | again c' =>
      rcases hf with ⟨rfl, m, hm, hI⟩ | hf
      · exact ⟨hq, ih m hm hI⟩
      · exact hf
end
section
variable {prog : Program} {w : World} {A : Around} {s : Shared} {env : Env}
theorem execR_For {target iter : Expr} {body orelse : List Stmt} {pos : Pos} {Q : Flow → Shared → Prop}
    (h : wpAny (model prog w) A (eval iter env) (fun x s₁ => wpAny (model prog w) A (pyIter x) (fun it s₂ =>
      codeR (model prog w) A (.forLoop target it body orelse env) (fun r s' => match r with | .ok f => Q f s' | .error _ => False) s₂) (fun _ _ => False) s₁) (fun _ _ => False) s)
    (hs : ∀ x, foldedSetIterable iter env x = pure x := by intro _; rfl) :
    wpR (model prog w) A (exec (.For target iter body orelse pos) env) Q s := by
  rw [exec_For]
  exact wpR_bind (wpR_standAt (wpR_bind (wpR_mono (wpR_of h) (fun x s₁ h₁ => wpR_bind (wpR_of_eq (hs x) (wpR_pure (wpR_bind (wpR_standAt (wpR_bind (wpR_holding
    (wpR_mono (wpR_of h₁) (fun it s₂ h₂ => wpR_runOwn h₂))))))))))))
theorem codeR_forLoop {R : Result → Shared → Prop} {target : Expr} {it : Value} {body : List Stmt} (I : Nat → Shared → Prop)
    (turn : ∀ n s, I n s → wpAny (model prog w) A (pyNext it) (fun r s₁ => match r with
      | none => R (.ok .next) s₁
      | some v => wpAny (model prog w) A (assign target env v) (fun _ s₂ => wpR (model prog w) A (execs body env) (fun f s₃ => match f with
          | .next | .cont => ∃ m, m < n ∧ I m s₃
          | .brk => R (.ok .next) s₃
          | .ret v => R (.ok (.ret v)) s₃) s₂) (fun _ _ => False) s₁) (fun _ _ => False) s)
    (n : Nat) (h : I n s) (ht : ∀ v, letOwnedTupleGo target it v = pure () := by intro _; rfl) : codeR (model prog w) A (.forLoop target it body [] env) R s := by
  refine codeR_loop trivial rfl I (fun n s hI => ?_) n h
  show wpR _ _ ((forTurn target it body [] env).onRaise (fun x => do noteFrame x env; theTreesLotGoes x)) _ s
  refine wpR_onRaise ?_
  simp only [forTurn]
  refine wpR_bind (wpR_standAt (wpR_bind (wpR_onRaise (wpR_mono (wpR_of (turn n s hI)) (fun r s₁ h₁ => ?_)))))
  cases r with
  | none => exact wpR_pure (.inr ⟨rfl, codeR_of trivial (codeAny_block (wpAny_execs_nil h₁))⟩)
  | some v =>
    refine wpR_bind (wpR_of_eq (ht v) (wpR_pure ?_))
    refine wpR_bind (wpR_mono (wpR_of h₁) (fun _ s₂ h₂ => wpR_bind (wpR_mono h₂ (fun f s₃ h₃ => ?_))))
    cases f with
    | next => exact wpR_pure (.inl ⟨rfl, h₃⟩)
    | cont => exact wpR_pure (.inl ⟨rfl, h₃⟩)
    | brk => exact wpR_pure h₃
    | ret v => exact wpR_pure h₃
theorem loopR_range {h₀ : Heap} {x : Str} {px : Pos} {body : List Stmt} {r : Addr} {n : Nat} {t₀ u₀ v₀ : Tok} {m₀ : Str → Option Value} {news : List (Addr × Obj)} {Q : Flow → Shared → Prop} (J : Nat → (Str → Option Value) → List (Addr × Obj) → Prop)
    (hh : A.handled = none) (hr : IsRange s.heap r 0 (n : Int) 1 t₀ u₀ v₀) (hz : n ≤ 100000) (hx : env.kindOf x = some .local) (hp : (env.scope.kind == .class || (env.scope.kind == .module && env.locals != env.globals)) = false)
    (F : Fr h₀ env.locals s.heap m₀) (N : News h₀ env.locals s.heap news) (hj : J 0 m₀ news)
    (turn : ∀ I i t m₁ nx h tk oI, i < n → (∀ p ∈ nx, p.1 ≠ I) → J i m₁ nx → Fr h₀ env.locals h (fun y => if y = x then some (.int (i : Int) t) else m₁ y) → News h₀ env.locals h ((I, oI) :: nx) →
      wpR (model prog w) A (execs body env) (fun f s' => Stop (f = .next ∧ ∃ h' tk' m' nx', s' = { s with heap := h', toks := tk' } ∧ Fr h₀ env.locals h' m' ∧ News h₀ env.locals h' ((I, oI) :: nx') ∧ (∀ p ∈ nx', p.1 ≠ I) ∧ J (i + 1) m' nx')) { s with heap := h, toks := tk })
    (done : ∀ m₁ nx h tk, J n m₁ nx → Fr h₀ env.locals h m₁ → News h₀ env.locals h nx → Q .next { s with heap := h, toks := tk }) :
    wpAny (model prog w) A (pyIter (.ref r)) (fun it s₂ => codeR (model prog w) A (.forLoop (.Name x px) it body [] env) (fun r s' => match r with | .ok f => Q f s' | .error _ => False) s₂) (fun _ _ => False) s := by
  have hn : Builtin.Range.rangeSize 0 (n : Int) 1 = (n : Int) := by rw [rangeSize_one]; split <;> omega
  refine wpAny_pyIter_range hr (small_one (by omega) (by omega) (by omega) (by omega)) ?_
  have W := Walks.range (prog := prog) (w := w) hh s.heap.objs.size 0 1 n
  have hLI : env.locals ≠ s.heap.objs.size := Nat.ne_of_lt F.ns.lt
  have hI₀ := next_is_new F
  refine codeR_forLoop (fun k s' => ∃ h' tk m' nx i, s' = { s with heap := h', toks := tk } ∧ IsRangeIter h' s.heap.objs.size (0 + (i : Nat) * 1) ((n : Int) - (i : Nat)) 1 ∧ Fr h₀ env.locals h' m' ∧ News h₀ env.locals h' nx ∧ (∀ p ∈ nx, p.1 ≠ s.heap.objs.size) ∧ J i m' nx ∧ i ≤ n ∧ k = n + 1 - i) ?_ (n + 1)
    ⟨_, s.toks, m₀, news, 0, rfl, by show IsRangeIter _ _ _ _ _; rw [hn]; simpa using Heap.get?_push_size _ rfl, F.push _, fun p hp => ⟨Heap.get?_push_of_some _ (N p hp).1, (N p hp).2⟩, fun p hp => Nat.ne_of_lt (Heap.lt_size (N p hp).1), hj, Nat.zero_le _, rfl⟩
  generalize s.heap.objs.size = I at W hLI hI₀
  rintro k s' ⟨h', tk, m', nx, i, rfl, hst', F', N', hnw', hJ, hi, rfl⟩
  have next : ∀ h₁ : Heap, (∀ b o, b ∉ [I] → h'.get? b = some o → h₁.get? b = some o) → Fr h₀ env.locals h₁ m' ∧ News h₀ env.locals h₁ nx := fun h₁ hk₁ =>
    ⟨LCg.fr_but F' hk₁ hLI hI₀, LCg.news_but N' hk₁ hnw'⟩
  by_cases hlt : i < n
  · refine W.item i _ _ _ hlt hst' fun v h₁ tk₁ hP hst₁ hk₁ => ?_
    obtain ⟨t, rfl⟩ := hP
    obtain ⟨F₁, N₁⟩ := next h₁ hk₁
    refine wpAny_assign_Name (wpAny_storeName_local hx F₁.ns (fun h₂ hn₂ hs₂ => ?_) hp)
    have F₂ := F₁.set hn₂ hs₂
    have e : (0 : Int) + (i : Nat) * 1 = (i : Int) := by omega
    have F₃ : Fr h₀ env.locals h₂ (fun y => if y = x then some (.int (i : Int) t) else m' y) := by rw [← e]; exact F₂
    have hI2 := (hs₂.2 I (Ne.symm hLI)).trans hst₁
    obtain ⟨oI, hoI⟩ : ∃ oI, h₂.get? I = some oI := ⟨_, hI2⟩
    have N₃ : News h₀ env.locals h₂ ((I, oI) :: nx) := fun p hp => by
      rcases List.mem_cons.mp hp with rfl | hp
      · exact ⟨hoI, Ne.symm hLI, hI₀⟩
      · exact (N₁.set hs₂) p hp
    refine wpR_mono (turn I i t m' nx h₂ _ oI hlt hnw' hJ F₃ N₃) (fun f s₃ h₃ => ?_)
    · obtain ⟨rfl, h₄, tk₄, m₄, nx₄, rfl, F₄, N₄, hn₄, hJ₄⟩ := h₃
      exact ⟨n + 1 - (i + 1), by omega, h₄, tk₄, m₄, nx₄, i + 1, rfl, (N₄ _ (List.mem_cons_self ..)).1.trans (hoI.symm.trans hI2), F₄, fun p hp => N₄ p (List.mem_cons_of_mem _ hp), hn₄, hJ₄, hlt, rfl⟩
  · obtain rfl : i = n := by omega
    refine W.done _ _ _ hst' fun h₁ tk₁ hk₁ => ?_
    obtain ⟨F₁, N₁⟩ := next h₁ hk₁
    exact done m' nx h₁ tk₁ hJ F₁ N₁
theorem call_fullR {R : Result → Shared → Prop} {name : Str} {params : Arguments} {body : List Stmt} {scope : Scope}
    {dV kV pm cd doc : Value} {a : Addr} {o : Obj} {args : Args} {binds : List (Str × Value)}
    (hroom : A.depth < recursionLimit) (ho : s.heap.get? a = some o) (hdata : o.data = .func { docDef name params body scope pm cd doc with defaults := dV, kwdefaults := kV }) (hlim : s.heap.NoLimit) (hcd : s.heap.CodeRec cd name)
    (hbind : BindsTo s { docDef name params body scope pm cd doc with defaults := dV, kwdefaults := kV } args binds)
    (hloc : ∀ x ∈ binds, scope.names.lookup x.1 = some .local)
    (h : ∀ h₁, Fr s.heap s.heap.objs.size h₁ (fun x => binds.reverse.lookup x) →
      wpR (model prog w) (A.deeper (envOf name scope s.heap.objs.size a cd)) (execs body (envOf name scope s.heap.objs.size a cd))
        (fun f s' => R (.ok (.ret (match f with | .ret v => v | _ => .none))) s')
        { s with heap := h₁, toks := s.toks + binds.length })
    (hco : scope.isCoroutine = false := by rfl) (hgen : scope.isGenerator = false := by rfl) (hk : scope.kind = .function := by rfl)
    (hcell : ∀ x ∈ scope.names, x.2 ≠ .cell := by decide) :
    codeR (model prog w) A (.call (.ref a) args) R s :=
  codeR_def hroom ho hdata hlim hcd rfl hbind hcell hloc (fun h₁ hns hkeep => h h₁ ⟨hns, hkeep, Nat.le_refl _⟩) hco hgen hk
end
end Mine
end

section
open PySem PySem.W PyProof.Rows PySem.Calls
set_option maxRecDepth 100000
namespace Mine
section
variable {prog : Program} {w : World} {A : Around} {E : Value → Shared → Prop} {s : Shared} {h₀ : Heap} {L : Addr} {m : Str → Option Value} {news : List (Addr × Obj)}
theorem item_T {value slice : Expr} {T : Addr} {its : Array Value} {k : Nat} {i : Int} {u : Tok} {x : Value} {Q : Value → Shared → Prop} (N : News h₀ L s.heap news) (hm : (T, ({ cls := .type "list", data := .seq its k } : Obj)) ∈ news) (h0 : 0 ≤ i) (hfit : i < 2 ^ 63) (hx : its[i.toNat]? = some x) (h : Q x s)
    (hs : subscripted slice false (.ref T) (.int i u) = operate [.ref T, .int i u] (getItem (.ref T) (.int i u)) := by with_unfolding_all rfl) :
    wpAny (model prog w) A (subscriptTail value slice (.ref T) (.int i u)) Q E s :=
  have hl := News.isList N hm
  tail_any hl.typeIs slot_list_getitem.lookup (wpAny_getItem_list hl h0 hfit hx h) hs
end
theorem Ok.cast {n : Int} (h : Ok n) : ((n.toNat : Nat) : Int) = n := Int.toNat_of_nonneg h.1
theorem row_S (prog : Program) (w : World) (news : List (Addr × Obj)) (l : Addr) (x y z : Int) (W : Nat) (tx ty tz tw : Tok) (hx : Ok x) (hy : Ok y) (hz : Ok z) (hw : W ≤ 200) :
    Claim prog w 139 60 200 [.ref l, .int (W : Int) tw] ((l, lstOf [.int x tx, .int y ty, .int z tz]) :: news) (fun r adds => ∃ t, r = .str (S (Row W (x, y, z))) t ∧ adds = []) := by
  have big : ((10 ^ 200 : Nat) : Int) ≤ 10 ^ 500 := by decide +kernel
  have key : ∀ k ∈ [x, y, z], Ok k := by
    intro k hk
    simp only [List.mem_cons, List.not_mem_nil, or_false] at hk
    rcases hk with rfl | rfl | rfl <;> assumption
  have := row_raw prog w news l x y z (W : Int) tx ty tz tw (fun k hk => ⟨(key k hk).1, Int.lt_of_lt_of_le (key k hk).2 big⟩) (fun k hk => Nat.le_trans (key k hk).len (by omega)) (by omega) (by omega)
  rw [row_eq] at this
  exact this
theorem pad_int {W : Nat} {n : Int} (h : Ok n) (hl : (dgs n.toNat).length ≤ W) (hW : W ≤ 200) : PySem.intText? (S (pad W n.toNat)) = some n := by
  rw [pad_read (by rw [pad_len hl]; omega), h.cast]
theorem numb_S (prog : Program) (w : World) (news : List (Addr × Obj)) (W : Nat) (x : Int × Int × Int) (t1 : Tok) (hx : Ok3 x) (hw : Wide W x) (hW : W ≤ 200) :
    Claim prog w 151 60 200 [.str (S (Row W x)) t1] news (fun r adds => ∃ k t1 t2 t3, r = .ref k ∧ adds = [(k, lstOf [.int x.1 t1, .int x.2.1 t2, .int x.2.2 t3])]) :=
  numb_claim prog w news (pad W x.1.toNat) (pad W x.2.1.toNat) (pad W x.2.2.toNat) t1 x.1 x.2.1 x.2.2 (pad_dig _ _) (pad_dig _ _) (pad_dig _ _) (pad_ne _ _) (pad_ne _ _) (pad_ne _ _)
    (by rw [pad_len hw.1]; omega) (by rw [pad_len hw.2.1]; omega) (by rw [pad_len hw.2.2]; omega) (pad_int hx.1 hw.1 hW) (pad_int hx.2.1 hw.2.1 hW) (pad_int hx.2.2 hw.2.2 hW)
theorem p229_R (prog : Program) (w : World) (news : List (Addr × Obj)) (W : Nat) (x : Int × Int × Int) (t1 t2 t3 : Tok) (host : Str) (z : Int) (l : Addr) (hl : (l, tupOf [.str host t2, .int z t3]) ∈ news) (hx : Ok3 x) (hw : Wide W x) (hW : W ≤ 200) :
    Claim prog w 101 20 60 [.str (S ((goL ++ [46]) ++ Row W x ++ [41])) t1, .ref l] news (fun r adds => ∃ k t t5, r = .ref k ∧ adds = [(k, tupOf [.str host t, .int x.2.2 t5])]) :=
  p229_S prog w news (pad W x.1.toNat) (pad W x.2.1.toNat) (pad W x.2.2.toNat) t1 t2 t3 host z x.2.2 l hl (pad_dig _ _) (pad_dig _ _) (pad_dig _ _)
    (by rw [pad_len hw.1]; omega) (by rw [pad_len hw.2.1]; omega) (by rw [pad_len hw.2.2]; omega) (pad_int hx.2.2 hw.2.2 hW)
def flip (x : Int × Int × Int) : Int × Int × Int := (x.2.2, x.2.1, x.1)
theorem flip_ok {x : Int × Int × Int} (h : Ok3 x) : Ok3 (flip x) := ⟨h.2.2, h.2.1, h.1⟩
theorem flip_wide {W : Nat} {x : Int × Int × Int} (h : Wide W x) : Wide W (flip x) := ⟨h.2.2, h.2.1, h.1⟩
theorem turned_S (prog : Program) (w : World) (news : List (Addr × Obj)) (W : Nat) (x : Int × Int × Int) (tb tw : Tok) (hw : Wide W x) (hW : W ≤ 200) :
    ClaimR prog w 144 60 200 [.str (S (Row W x)) tb, .int (W : Int) tw] news (fun r adds => ∃ t, r = .str (S (Row W (flip x))) t ∧ adds = []) := by
  have hl := Row_len hw
  have := turned_claim prog w news (Row W x) W (W : Int) tb tw (by omega) rfl (by omega) 3 hl (by omega) Row_ascii
  have e : Row W x = (pad W x.1.toNat ++ [46]) ++ ((pad W x.2.1.toNat ++ [46]) ++ (pad W x.2.2.toNat ++ [46])) := by simp [Row]
  have e2 : (pad W x.2.2.toNat ++ [46]) ++ ((pad W x.2.1.toNat ++ [46]) ++ (pad W x.1.toNat ++ [46])) = Row W (flip x) := by simp [Row, flip]
  have key := turned_three (P := pad W x.1.toNat ++ [46]) (Q := pad W x.2.1.toNat ++ [46]) (R := pad W x.2.2.toNat ++ [46]) (W := W + 1) (by rw [List.length_append, pad_len hw.1]; rfl) (by rw [List.length_append, pad_len hw.2.1]; rfl) (by rw [List.length_append, pad_len hw.2.2]; rfl) (by rw [← e]; exact Row_ascii)
  rw [← e, e2] at key
  rw [key] at this
  exact this
end Mine
end

section
open PySem PySem.W PyProof.Rows PySem.Calls
set_option maxRecDepth 100000
namespace Mine
section
variable {code : Int} {ds : List Nat} {LL : List (Addr × List Value)}
theorem LL_vals (hval : ∀ (j : Nat) (p : Addr × List Value), LL[j]? = some p → ∃ t1 t2 t3, p.2 = [.int (tri code ds j).1 t1, .int (tri code ds j).2.1 t2, .int (tri code ds j).2.2 t3]) (hok : ∀ i, Ok3 (tri code ds i)) :
    ∀ p ∈ LL, p.2.length = 3 ∧ ∀ v ∈ p.2, ∃ n t, v = .int n t ∧ Ok n := by
  intro p hp
  obtain ⟨j, hj⟩ := List.mem_iff_getElem?.mp hp
  obtain ⟨t1, t2, t3, e⟩ := hval j p hj
  refine ⟨by rw [e]; rfl, fun v hv => ?_⟩
  rw [e] at hv
  simp only [List.mem_cons, List.not_mem_nil, or_false] at hv
  rcases hv with rfl | rfl | rfl
  · exact ⟨_, _, rfl, (hok j).1⟩
  · exact ⟨_, _, rfl, (hok j).2.1⟩
  · exact ⟨_, _, rfl, (hok j).2.2⟩
theorem flat3 : ∀ {LL : List (Addr × List Value)}, (∀ p ∈ LL, p.2.length = 3) → (LL.flatMap (·.2)).length = 3 * LL.length
  | [], _ => rfl
  | p :: LL, h => by
    rw [List.flatMap_cons, List.length_append, h p (List.mem_cons_self ..), flat3 fun q hq => h q (List.mem_cons_of_mem _ hq), List.length_cons]
    omega
theorem wide_of {ks : List Int} {M : Int} (hval : ∀ (j : Nat) (p : Addr × List Value), LL[j]? = some p → ∃ t1 t2 t3, p.2 = [.int (tri code ds j).1 t1, .int (tri code ds j).2.1 t2, .int (tri code ds j).2.2 t3]) (hok : ∀ i, Ok3 (tri code ds i))
    (hk1 : ∀ k ∈ ks, ∃ n t, .int n t ∈ LL.flatMap (·.2) ∧ k = ((dgs n.toNat).length : Int)) (hk2 : ∀ n t, .int n t ∈ LL.flatMap (·.2) → ((dgs n.toNat).length : Int) ∈ ks) (hM : M ∈ ks) (hmax : ∀ a, a ∈ ks → a ≤ M) :
    ∃ W : Nat, M = (W : Int) ∧ W ≤ 200 ∧ ∀ j, j < LL.length → Wide W (tri code ds j) := by
  obtain ⟨n, t, hn, rfl⟩ := hk1 M hM
  refine ⟨_, rfl, ?_, fun j hj => ?_⟩
  · obtain ⟨p, hp, hv⟩ := List.mem_flatMap.mp hn
    obtain ⟨n', t', e, ho⟩ := (LL_vals hval hok p hp).2 _ hv
    cases e
    exact ho.len
  · have hp : LL[j]? = some LL[j] := List.getElem?_eq_getElem hj
    obtain ⟨t1, t2, t3, e⟩ := hval j _ hp
    have key : ∀ n t, .int n t ∈ LL[j].2 → (dgs n.toNat).length ≤ _ := fun n t h => Int.ofNat_le.mp (hmax _ (hk2 n t (List.mem_flatMap.mpr ⟨_, List.getElem_mem hj, h⟩)))
    rw [e] at key
    exact ⟨key _ t1 (by simp), key _ t2 (by simp), key _ t3 (by simp)⟩
theorem told_at {j : Nat} (hj : j < LL.length) : (LL.map fun p => Value.ref p.1).toArray[j]? = some (.ref LL[j].1) := by simp [hj]
theorem told_eq (n : Nat) : tolO (LL.map (·.1)) n = { cls := .type "list", data := .seq (LL.map fun p => Value.ref p.1).toArray n } := by simp [tolO, Function.comp_def]
theorem told_mem {adds0 : List (Addr × Obj)} (hmem : ∀ p ∈ LL, (p.1, lstOf p.2) ∈ adds0) (hval : ∀ (j : Nat) (p : Addr × List Value), LL[j]? = some p → ∃ t1 t2 t3, p.2 = [.int (tri code ds j).1 t1, .int (tri code ds j).2.1 t2, .int (tri code ds j).2.2 t3]) {j : Nat} (hj : j < LL.length) :
    ∃ t1 t2 t3, (LL[j].1, lstOf [.int (tri code ds j).1 t1, .int (tri code ds j).2.1 t2, .int (tri code ds j).2.2 t3]) ∈ adds0 := by
  obtain ⟨t1, t2, t3, e⟩ := hval j _ (List.getElem?_eq_getElem hj)
  exact ⟨t1, t2, t3, e ▸ hmem _ (List.getElem_mem hj)⟩
theorem News.onto {h₀ h : Heap} {L : Addr} {x : Addr × Obj} {all more : List (Addr × Obj)} (N : News h₀ L h all) (hx : x ∈ all) (sub : ∀ p ∈ more, p ∈ all) : News h₀ L h (x :: more) := fun p hp => by
  rcases List.mem_cons.mp hp with rfl | hp
  · exact N _ hx
  · exact N p (sub p hp)
end
end Mine
end

section
open PySem PySem.W PyProof.Rows PySem.Calls PySem.Spec PySem.Builtin PySem.Builtin.Str PySem.StrLaws
set_option maxRecDepth 100000
namespace Mine
theorem tri_end {code : Int} {ds : List Nat} {i : Nat} (h : ds.length ≤ i) : tri code ds (i + 1) = tri code ds i := by
  unfold tri stAt
  rw [List.take_of_length_le (Nat.le_succ_of_le h), List.take_of_length_le h]
theorem tri_flip {code : Int} {ds : List Nat} {i : Nat} (h : i < ds.length) (hc : ds.getD i 0 = 116) : tri code ds (i + 1) = flip (tri code ds i) := tri_t h hc
theorem deed_at {ds : List Nat} (hch : ∀ c ∈ ds, c = 116 ∨ c = 115) {i : Nat} (hi : i < ds.length + 1) :
    (i < ds.length ∧ ds.getD i 0 = 116 ∧ Txt.slice (S ds) (some (i : Int)) (some ((i : Int) + 1)) = S [116]) ∨ (i < ds.length ∧ ds.getD i 0 = 115 ∧ Txt.slice (S ds) (some (i : Int)) (some ((i : Int) + 1)) = S [115]) ∨
      (ds.length ≤ i ∧ Txt.slice (S ds) (some (i : Int)) (some ((i : Int) + 1)) = S []) := by
  by_cases h : i < ds.length
  · have hm : ds.getD i 0 ∈ ds := getD_mem' h
    have e : ds = ds.take i ++ ([ds.getD i 0] ++ ds.drop (i + 1)) := by
      have := (List.take_append_drop i ds).symm
      rw [List.drop_eq_getElem_cons h] at this
      rw [List.getD, List.getElem?_eq_getElem h]
      exact this
    have hs : Txt.slice (S ds) (some (i : Int)) (some ((i : Int) + 1)) = S [ds.getD i 0] := by
      conv => lhs; rw [e]
      exact slice_mid (by rw [List.length_take]; omega) (by rw [List.length_take]; simp; omega)
    rcases hch _ hm with e9 | e9
    · exact .inl ⟨h, e9, by rw [hs, e9]⟩
    · exact .inr (.inl ⟨h, e9, by rw [hs, e9]⟩)
  · have hl : i = ds.length := by omega
    refine .inr (.inr ⟨by omega, ?_⟩)
    subst hl
    have hn : (S ds).length = ds.length := S_len ds
    have h : Builtin.Str.strSliceIndices (some (ds.length : Int)) (some ((ds.length : Int) + 1)) 1 (S ds).length = Builtin.Str.strSliceIndices (some (ds.length : Int)) (some (ds.length : Int)) 1 (S ds).length := by
      rw [hn]
      unfold Builtin.Str.strSliceIndices
      simp only [show (1 : Int) > 0 by decide, if_true, if_neg (show ¬ ((ds.length : Int) + 1 < 0) by omega), if_neg (show ¬ ((ds.length : Int) < 0) by omega)]
      congr 1
      omega
    have e : sliceText (S ds) (some (ds.length : Int)) (some ((ds.length : Int) + 1)) = sliceText (S ds) (some (ds.length : Int)) (some (ds.length : Int)) := by
      unfold sliceText
      rw [h]
    rw [slice_eq]
    refine e.trans ?_
    rw [sliceText_nat _ (Nat.le_refl _) (by omega), Nat.sub_self]
    rfl
theorem Ok.fit {n : Int} (h : Ok n) : Fit n := by
  have big : (10 : Nat) ^ 200 ≤ 10 ^ 4000 := Nat.pow_le_pow_right (by decide) (by decide)
  obtain ⟨h0, h1⟩ := h
  show n.natAbs < 10 ^ 4000
  generalize (10 : Nat) ^ 4000 = K at *
  generalize (10 : Nat) ^ 200 = B at *
  omega
end Mine
end

section
open PySem PySem.W PyProof.Rows PySem.Calls PySem.Spec
set_option maxRecDepth 100000
set_option maxHeartbeats 20000000
namespace Mine

theorem drawn4 (ns : List Int) : ∃ a b c d, List.take 4 ns ++ List.drop ((ns.length : Nat) : Int).toNat [165, 3, 0, 1] = [a, b, c, d] := by
  rw [Int.toNat_natCast]
  match ns with
  | [] => exact ⟨165, 3, 0, 1, rfl⟩
  | [a] => exact ⟨a, 3, 0, 1, rfl⟩
  | [a, b] => exact ⟨a, b, 0, 1, rfl⟩
  | [a, b, c] => exact ⟨a, b, c, 1, rfl⟩
  | a :: b :: c :: d :: r => exact ⟨a, b, c, d, by simp⟩
theorem p229_F (prog : Program) (w : World) (news : List (Addr × Obj)) (W : Nat) (x : Int × Int × Int) (t1 t2 t3 : Tok) (host : Str) (z : Int) (l : Addr) (hl : (l, tupOf [.str host t2, .int z t3]) ∈ news) (hx : Ok3 x) (hw : Wide W x) (hW : W ≤ 200) :
    Claim prog w 101 20 60 [.str (S ((goL ++ [46]) ++ Row W (flip x) ++ [41])) t1, .ref l] news (fun r adds => ∃ k t t5, r = .ref k ∧ adds = [(k, tupOf [.str host t, .int x.1 t5])]) :=
  p229_R prog w news W (flip x) t1 t2 t3 host z l hl (flip_ok hx) (flip_wide hw) hW
theorem ne_self {x : Str} (h : (x != x) = true) : False := by simp at h
theorem ints3' {ys : List Value} {a b c : Int} (h : IntsAre ys [a, b, c]) : ∃ t1 t2 t3, ys = [.int a t1, .int b t2, .int c t3] := by
  cases h with
  | cons _ t1 h => cases h with
    | cons _ t2 h => cases h with
      | cons _ t3 h => cases h; exact ⟨t1, t2, t3, rfl⟩
section
variable {prog : Program} {w : World} {A : Around} {E : Value → Shared → Prop} {s : Shared} {h₀ : Heap} {L : Addr} {m : Str → Option Value} {news : List (Addr × Obj)}
theorem ledger_turn {h : Heap} {a b c d e f g x : Addr × Obj} {rest : List (Addr × Obj)} (N : News h₀ L h ([a] ++ b :: ([c] ++ d :: ([e] ++ ([] ++ f :: g :: rest))))) (hx : x ∈ rest) : News h₀ L h (x :: a :: c :: e :: f :: g :: rest) := fun p hp => N p (by
  simp only [List.mem_cons, List.cons_append, List.nil_append] at hp ⊢
  rcases hp with h | h | h | h | h | h | h
  · subst h; simp [hx]
  all_goals simp [h])
theorem mulI {a b : Int} {t u : Tok} {Q : Value → Shared → Prop} (hm : IntMulOk a b) (h : Q (.int (a * b) s.toks) { s with toks := s.toks + 1 }) : wpAny (model prog w) A (binaryOp .Mult (.int a t) (.int b u)) Q E s := PySem.AutoIntOps.mul_0 h hm
theorem add_go {b : List Nat} {t u : Tok} {Q : Value → Shared → Prop} (hz : b.length ≤ 1000) (h : ∀ t' k, Q (.str (S ((goL ++ [46]) ++ b)) t') { s with toks := k }) : wpAny (model prog w) A (binaryOp .Add (.str (Str.ofString "229 go (.") t) (.str (S b) u)) Q E s := by
  rw [go_eq]
  exact add_S (by simp [goL]; omega) h
theorem add_cl {b : List Nat} {t u : Tok} {Q : Value → Shared → Prop} (hz : b.length ≤ 1000) (h : ∀ t' k, Q (.str (S ((goL ++ [46]) ++ b ++ [41])) t') { s with toks := k }) : wpAny (model prog w) A (binaryOp .Add (.str (S ((goL ++ [46]) ++ b)) t) (.str (Str.ofString ")") u)) Q E s := by
  rw [cl_eq]
  exact add_S (by simp [goL]; omega) h
theorem len_T {T : Addr} {its : Array Value} {k n : Nat} {Q : Value → Shared → Prop} (N : News h₀ L s.heap news) (hm : (T, ({ cls := .type "list", data := .seq its k } : Obj)) ∈ news) (hn : its.size = n) (hz : n ≤ 1000) (h : ∀ t' tk, Q (.int (n : Int) t') { s with toks := tk }) :
    wpAny (model prog w) A (call (.builtin "len") [.ref T]) Q E s := by
  subst hn
  exact call_len_list (News.isList N hm) (by omega) (h _ _)
end
def LJ (W : Nat) (code : Int) (ds : List Nat) (news0 : List (Addr × Obj)) (m₀ : Str → Option Value) (i : Nat) (m : Str → Option Value) (nx : List (Addr × Obj)) : Prop :=
  (∃ tr, m (Str.ofString "row") = some (.str (S (Row W (tri code ds i))) tr)) ∧ nx = news0 ∧ ∀ y, [Str.ofString "k", Str.ofString "about", Str.ofString "numbers", Str.ofString "first", Str.ofString "last", Str.ofString "row"].contains y = false → m y = m₀ y
theorem LJ.zero {W : Nat} {code : Int} {ds : List Nat} {news0 : List (Addr × Obj)} {m₀ : Str → Option Value} {tr : Tok} (h : m₀ (Str.ofString "row") = some (.str (S (Row W (tri code ds 0))) tr)) : LJ W code ds news0 m₀ 0 m₀ news0 := ⟨⟨tr, h⟩, rfl, fun _ _ => rfl⟩
theorem post_true {c : ClaimW} {cl : Str → Option Addr} {mean : ExcName → Option Value} {args : List WData} {s₁ : Shared} (hraise : ∀ cls, c.raises args cls = false) (hp : c.post args (ofPy (.bool true)) args = true) (hg : s₁.gens = #[]) :
    ∀ h' tk, (∀ b o, s₁.heap.get? b = some o → h'.get? b = some o) → GoodWG c cl mean args s₁ (.ok (.ret (.bool true))) { s₁ with heap := h', toks := tk } := fun h' tk k =>
  ⟨.inl ⟨.bool true, ofPy (.bool true), [], rfl, hraise, readsW_of_reads (Reads.bool _), hp, fun _ => ⟨List.nodup_nil, fun _ h => nomatch h⟩⟩, .of_keep k, rfl, .of_eq hg⟩
theorem and_post {P : Prop} {c : ClaimW} {cl : Str → Option Addr} {mean : ExcName → Option Value} {args : List WData} {s₁ : Shared} (post : ∀ h' tk, (∀ b o, s₁.heap.get? b = some o → h'.get? b = some o) → GoodWG c cl mean args s₁ (.ok (.ret (.bool true))) { s₁ with heap := h', toks := tk })
    (h : (∀ h' tk, (∀ b o, s₁.heap.get? b = some o → h'.get? b = some o) → GoodWG c cl mean args s₁ (.ok (.ret (.bool true))) { s₁ with heap := h', toks := tk }) → P) : P ∧ GoodWG c cl mean args s₁ (.ok (.ret (.bool true))) s₁ := ⟨h post, post s₁.heap s₁.toks fun _ _ e => e⟩
theorem hideR {α : Type} {M : Model} {A : Around} {t : Sem α} {s : Shared} {Q P : α → Shared → Prop} (h0 : ∀ f s', P f s' → Q f s') (h : ∀ Q' : α → Shared → Prop, (∀ f s', P f s' → Q' f s') → wpR M A t Q' s) : wpR M A t Q s := h Q h0
local macro_rules | `(tactic| k_mem) => `(tactic| assumption)
local macro_rules | `(tactic| walk_at "call builtin:str.find") => `(tactic| (k_here; first | refine find_e (by assumption) ?_ | refine find3_e (by assumption) ?_ | refine find4_e (by assumption) ?_))
local macro_rules | `(tactic| walk_at "call builtin:str.rfind") => `(tactic| (k_here; refine rfind4_e (by assumption) ?_))
local macro_rules | `(tactic| walk_at "call builtin:len") => `(tactic| (k_here; (with_reducible show wpAny _ _ (call (Value.builtin "len") [Value.str _ _]) _ _ _); refine len_e (by assumption) (by assumption) ?_))
local macro_rules | `(tactic| walk_at "binaryOp Add str str") => `(tactic| (k_here; refine add_e (by assumption) (by assumption) ?_; intro _ _))
local macro_rules | `(tactic| walk_at "subscriptTail") => `(tactic| (k_here; (with_reducible show wpAny _ _ (subscriptTail _ (Expr.Slice _ _ none _) (Value.str _ _) (Value.ref _)) _ _ _); (first | refine slice_ss_e (s := ⟨_, _, _, _, _⟩) (by assumption) (by assumption) (by assumption) (by assumption) ?_ | refine slice_ns_e (s := ⟨_, _, _, _, _⟩) (by assumption) (by assumption) (by assumption) (by assumption) ?_ | refine slice_sn_e (s := ⟨_, _, _, _, _⟩) (by assumption) (by assumption) (by assumption) (by assumption) ?_); intro _ _ _ _ _))
local macro_rules | `(tactic| walk_at "subscriptTail Name Slice str ref") => `(tactic| (k_here; (with_reducible show wpAny _ _ (subscriptTail _ (Expr.Slice _ _ none _) (Value.str _ _) (Value.ref _)) _ _ _); (first | refine slice_ss_e (s := ⟨_, _, _, _, _⟩) (by assumption) (by assumption) (by assumption) (by assumption) ?_ | refine slice_ns_e (s := ⟨_, _, _, _, _⟩) (by assumption) (by assumption) (by assumption) (by assumption) ?_ | refine slice_sn_e (s := ⟨_, _, _, _, _⟩) (by assumption) (by assumption) (by assumption) (by assumption) ?_); intro _ _ _ _ _))
local macro_rules | `(tactic| walk_at "subscriptTail") => `(tactic| (k_here; (with_reducible show wpAny _ _ (subscriptTail _ _ (Value.str _ _) (Value.int _ _)) _ _ _); refine item_e (by assumption) (by omega) (by omega) (by assumption) ?_))
local macro_rules | `(tactic| walk_at "subscriptTail Name BinOp str int") => `(tactic| (k_here; refine item_e (by assumption) (by omega) (by omega) (by assumption) ?_))
local macro_rules | `(tactic| walk_at "subscriptTail Name Constant str int") => `(tactic| (k_here; refine item_e (by assumption) (by omega) (by omega) (by assumption) ?_))
local macro_rules | `(tactic| walk_at "subscriptTail Name UnaryOp str int") => `(tactic| (k_here; refine item_e (by assumption) (by omega) (by omega) (by assumption) ?_))
local macro_rules | `(tactic| walk_at "call type:int") => `(tactic| (k_here; refine int_e (by assumption) (by assumption) ?_))
local macro_rules | `(tactic| walk_at "call builtin:str.split") => `(tactic| (k_here; refine split5_e (by assumption) (by assumption) (by assumption) (by assumption) (by assumption) ?_; intro _ _ _ _ _ _ _ _ _ _ l1; (try k_lt l1)))
local macro_rules | `(tactic| walk_at "exec If") => `(tactic| (k_here; refine wpAny_If ?_))
local macro_rules | `(tactic| walk_at "ite") => `(tactic| (k_here; first
  | refine ite_pos (by first | assumption | exact rfl | (simp only [decide_eq_true_eq, ge_iff_le, bne_iff_ne, beq_iff_eq, ne_eq, Bool.not_eq_true, Bool.not_eq_false]; first | omega | assumption)) ?_
  | refine ite_neg (by first | assumption | (simp only [decide_eq_true_eq, ge_iff_le, bne_iff_ne, beq_iff_eq, ne_eq, Bool.not_eq_true, Bool.not_eq_false, not_not]; first | omega | assumption) | (intro hx; exact absurd hx (by decide))) ?_))

local macro_rules | `(tactic| walk_at "subscriptTail") => `(tactic| (k_here; (with_reducible show wpAny _ _ (subscriptTail (Expr.Name (Str.ofString "told") _) _ (Value.ref _) (Value.int _ _)) _ _ _); refine Stop.enter ?_))
local macro_rules | `(tactic| walk_at "subscriptTail Name Constant ref int") => `(tactic| (k_here; (with_reducible show wpAny _ _ (subscriptTail (Expr.Name (Str.ofString "told") _) _ (Value.ref _) (Value.int _ _)) _ _ _); refine Stop.enter ?_))
local macro_rules | `(tactic| walk_at "subscriptTail Name Name ref int") => `(tactic| (k_here; (with_reducible show wpAny _ _ (subscriptTail (Expr.Name (Str.ofString "told") _) _ (Value.ref _) (Value.int _ _)) _ _ _); refine Stop.enter ?_))
local macro_rules | `(tactic| walk_at "binaryOp Add str str") => `(tactic| (k_here; (first | (with_reducible refine add_go ?kz ?_) | (with_reducible refine add_cl ?kz ?_)); (case kz => omega); intro _ _))
local macro_rules | `(tactic| kmk_nums) => `(tactic| first
  | ((with_reducible refine' kmk_upto ?gi ?gx); (case gi => l_ints); (case gx => first | kssn_s | kmk_sign))
  | ((with_reducible refine' kmk_from ?gi ?gx); (case gi => l_ints); (case gx => first | kssn_s | kmk_sign)))
local macro_rules | `(tactic| walk_at "call ref") => `(tactic| (k_here; refine Stop.enter ?_))
local macro_rules | `(tactic| walk_at "pyIter ref") => `(tactic| ((with_reducible show wpAny _ _ (pyIter (Value.ref _)) _ _ _); refine Stop.enter ?_))
local macro_rules | `(tactic| walk_at "call builtin:max") => `(tactic| (k_here; refine Stop.enter ?_))
local macro_rules | `(tactic| walk_at "call type:str") => `(tactic| (k_here; refine str_e (by assumption) (by assumption) ?_; intro _ _))
local macro_rules | `(tactic| walk_at "call builtin:len") => `(tactic| (k_here; (with_reducible show wpAny _ _ (call (Value.builtin "len") [Value.str (S _) _]) _ _ _); refine len_S (by omega) ?_; intro _ _))
local macro_rules | `(tactic| walk_at "eval ListComp") => `(tactic| (k_here; k_dflt (refine ListComp_two (by k_asm) (by with_unfolding_all rfl) (by decide) (by rfl) (by decide) (by rfl) (by rfl) (by rfl) ?_)))

theorem law_holds : PySem.Challenge.rw_zo0003_01.Holds := Mine.hd (by
  clear law_holds
  k_fill
  intro w s₀ s₁ mg mb G Y fa o pm cd doc dV kV ho hda hcd hD hmg hg args vals as hpre hlay hrd hwl hlo
  have KX := kIn_of Y
  have X := (Ground.X G).1
  have V := (Ground.X G).2
  refine Ground.open G ?_
  intro T B D TE TW
  try (refine guard_noD D (by decide +kernel) ?_; clear D)
  obtain ⟨_, _, M⟩ := bmod_of_top T
  have TA := at_of_top T
  try (obtain ⟨_, _, he, B0⟩ := based_of_top T rfl hmg ho hda; have he' : cd = _ := he; subst he'; clear he)
  wrow_args hpre hlay hrd hwl hlo
  refine and_post (post_true (raisesW_false (by wrow_none_raised)) (postW_of (by wrow_shape) (by wtm_val) (by str_meet; first | done | w_fin)) hg) fun post => wpR_call ?_
  · have he := Dflts.none hD rfl
    subst he
    refine call_fullR (by decide) ho hda (Top.nolimit T) hcd (BindsTo.of_eq rfl) (locs rfl) fun h₁ F => ?_
    w_binds F
    have N0 := (News.nil : News _ _ _ []).at F
    have K0 := below_caller (Top.heap T)
    dsimp only
    k_drop
    refine hideR (P := fun f s' => ∃ h' tk, f = .ret (.bool true) ∧ s' = { s₁ with heap := h', toks := tk } ∧ ∀ b o, s₁.heap.get? b = some o → h'.get? b = some o) (by rintro f s' ⟨h', tk, rfl, rfl, k⟩; exact post h' tk k) ?_
    intro Q hQ
    clear post
    try clear hmg
    try clear hD
    try clear hda
    try clear hcd
    try clear ho
    try clear TA
    try clear M
    try clear TE
    try clear TW
    try clear B
    try clear V
    try clear X
    try clear Y
    try clear G
    try clear hg
    have K1 : Below callerA s₁.heap [] s₁.heap := K0
    clear K0
    have T1 : Top hd.view_39 (looseW hd.view_39 [Str.ofString "IPV4_RE"]) (ExcName.means s₀.heap) mg mb s₁.heap := T
    clear T
    generalize (looseW hd.view_39 [Str.ofString "IPV4_RE"]) = loose9 at T1
    generalize (ExcName.means s₀.heap) = mean9 at T1
    generalize hd.view_39 = p9 at T1
    generalize Challenge.rw_zo0003_01.row.prog = prog9
    (rename ReadsAllW _ _ _ _ _ _ => hr9); clear hr9
    (rename Well _ _ _ _ => hr9); clear hr9
    (rename Reads _ _ _ _ => hr9); clear hr9
    (rename ReadsAll _ _ _ _ => hr9); clear hr9
    (rename WShape.hasAll _ _ _ = true => hr9); clear hr9
    (rename WData.layableAll _ = true => hr9); clear hr9
    refine execsR_cons (wpR_of ?_)
    k_steps
    (rename IntsAre _ _ => hI8)
    obtain ⟨a, b, c, d, ed⟩ := drawn4 _
    rw [ed] at hI8
    obtain ⟨t1, t2, t3, t4, rfl⟩ := ints4 hI8
    clear ed
    refine execsR_cons (wpR_of ?_)
    k_steps
    refine Stop.out ?_
    k_dflt (refine' Claim.use (deeds_claim _ _ _ _ b c d _ _ _) ?k1 ?k2 ?k3 ?k4 ?k5 ?k6 ?k7 ?k8 ?_; (case k1 => k_asm); (case k2 => k_asm); (case k3 => k_asm); (case k4 => k_asm); (case k5 => k_asm); (case k6 => first | exact rfl | assumption); (case k7 => ktr_room); (case k8 => ktr_units); k_whole)
    rintro r9 adds9 h9 tk9 F9 N9 - ⟨tdd, rfl, rfl⟩
    k_steps
    have hsg := fun i => st_good (a.fmod 256) b c d i
    have hch := deeds_chars [b, c, d]
    have hdl : ([b, c, d].flatMap dOf).length ≤ 9 := deeds_len [b, c, d]
    generalize [b, c, d].flatMap dOf = ds at *
    have c0 := Int.fmod_nonneg_of_pos a (b := 256) (by decide)
    have c1 := Int.fmod_lt_of_pos a (b := 256) (by decide)
    refine execsR_cons (wpR_of ?_)
    k_steps
    refine Stop.out ?_
    k_dflt (refine' Claim.use (told_claim _ _ _ (a.fmod 256) ds _ _ c0 c1 hdl hch (fun i => (hsg i).fit)) ?k1 ?k2 ?k3 ?k4 ?k5 ?k6 ?k7 ?k8 ?_; (case k1 => k_asm); (case k2 => k_asm); (case k3 => k_asm); (case k4 => k_asm); (case k5 => k_asm); (case k6 => first | exact rfl | assumption); (case k7 => ktr_room); (case k8 => ktr_units); k_whole)
    rintro r9 adds9 h9 tk9 F9 N9 - ⟨To, ls, adds0, rfl, rfl, hT⟩
    obtain ⟨LL, hLL, hmem, hval⟩ := told_lists hT
    have hLn : LL.length = ds.length + 1 := by rw [← hT.1, ← hLL, List.length_map]
    subst hLL
    generalize a.fmod 256 = code at *
    k_steps
    refine execsR_cons (wpR_of ?_)
    k_steps
    (rename News _ _ _ _ => N5)
    have hok : ∀ i, Ok3 (tri code ds i) := fun i => (hsg i).ok
    have hvv := LL_vals hval hok
    have N6 := News.onto (more := adds0) N5 (x := (To, tolO (LL.map (·.1)) ds.length)) (by simp) (fun p hp => by simp [hp])
    rw [told_eq] at N6
    refine Stop.out (Src2.mk LL ds.length RelLen rfl (by k_asm) N6 (List.mem_cons_self ..) (fun p hp => List.mem_cons_of_mem _ (hmem p hp)) (by rw [flat3 fun p hp => (hvv p hp).1]; omega) ?_ ?_)
    · intro p hp v hv X I oI C oC D m₂ ys h tk E' hC hx F9 N9 off ne
      obtain ⟨n, t, rfl, hn⟩ := (hvv p hp).2 v hv
      have big : ((10 ^ 200 : Nat) : Int) ≤ 10 ^ 500 := by decide +kernel
      have hn9 : n ∈ [n] := List.mem_singleton.mpr rfl
      have q9 : ∀ k ∈ [n], 0 ≤ k ∧ k < 10 ^ 500 := fun k hk => by rw [List.mem_singleton.mp hk]; exact ⟨hn.1, Int.lt_of_lt_of_le hn.2 big⟩
      clear big
      have hl9 := hn.len
      k_steps
      exact Stop.out (LCg.CompEnd.intro (by assumption) (by assumption) _ (fun _ hp => hp) (by assumption) trivial ⟨rfl, n, t, _, rfl, rfl⟩)
    · intro ys D h tk hp F9 N9
      obtain ⟨ks, hi, hlen, hk1, hk2⟩ := rel_ints hp
      k_steps
      refine Stop.out (max_list_N rfl (by k_asm) (by k_asm) (News.isList (by k_asm) (List.mem_cons_self ..)) hi (by rw [hlen, flat3 fun p hp => (hvv p hp).1]; omega) ?_)
      intro h7 M tM tk7 F7 N7 hM hmax
      obtain ⟨W, rfl, hW, hwide⟩ := wide_of hval hok hk1 hk2 hM hmax
      k_steps
      refine execsR_cons (wpR_of ?_)
      k_steps
      (rename News _ _ _ _ => N8)
      refine Stop.out (item_T N8 (List.mem_cons_of_mem _ (List.mem_cons_self ..)) (by decide) (by decide) (told_at (j := 0) (by omega)) ?_)
      k_steps
      refine Stop.out ?_
      obtain ⟨u1, u2, u3, hm0⟩ := told_mem hmem hval (j := 0) (by omega)
      have N9 := News.onto (News.tl N8) (List.mem_cons_of_mem _ hm0) (fun p hp => hp)
      clear N8
      k_dflt (refine' Claim.use (row_S _ _ _ _ _ _ _ W _ _ _ _ (hok 0).1 (hok 0).2.1 (hok 0).2.2 hW) ?k1 ?k2 ?k3 ?k4 ?k5 ?k6 ?k7 ?k8 ?_; (case k1 => k_asm); (case k2 => k_asm); (case k3 => k_asm); (case k4 => k_asm); (case k5 => k_asm); (case k6 => first | exact rfl | assumption); (case k7 => ktr_room); (case k8 => ktr_units); k_whole)
      rintro r9 adds9 h9 tk9 F9 N10 - ⟨tr, rfl, rfl⟩
      k_steps
      (rename News _ _ _ _ => N11)
      have N12 := News.tl N11
      clear N11
      refine execsR_cons (execR_For ?_)
      k_steps
      clear hp hi hlen hk1 hk2 hM hmax hvv hT hm0
      refine len_T N12 (List.mem_cons_self ..) (by simp; exact hLn) (by omega) ?_
      intro _ _
      k_steps
      (rename Fr _ _ _ _ => F5)

      refine Stop.out (loopR_range (LJ W code ds _ _) rfl (by assumption) (by omega) (by rfl) (by rfl) F5 (by assumption) (LJ.zero (by rfl)) ?_ ?_)
      · rintro I i t m₁ nx h tk oI hi hne ⟨⟨tr, er⟩, rfl, off⟩ F4 N4
        rw [norm1 er off] at F4
        try clear N12
        try clear F5
        change Fr s₁.heap s₁.heap.objs.size _ _ at F4
        change News s₁.heap s₁.heap.objs.size _ _ at N4
        refine execsR_cons (execR_Assign (evalR_Call ?_))
        k_steps
        refine callR_fn1 ?_
        k_steps
        have hwi := hwide i (by omega)
        have hrl := Row_len hwi
        have hfl := Row_len (flip_wide hwi)
        refine Stop.out ⟨isFn (by k_asm) (by k_asm) rfl rfl, ?_⟩
        k_dflt (refine' ClaimR.use (turned_S _ _ _ W (tri code ds i) _ _ hwi hW) ?k1 ?k2 ?k3 ?k4 ?k5 ?k6 ?k7 ?k8 ?_; (case k1 => k_asm); (case k2 => k_asm); (case k3 => k_asm); (case k4 => k_asm); (case k5 => k_asm); (case k6 => first | exact rfl | assumption); (case k7 => ktr_room); (case k8 => ktr_units); k_whole)
        rintro r9 adds9 h9 tk9 F9 N9 - ⟨ta, rfl, rfl⟩
        k_steps
        refine execsR_cons (wpR_of ?_)
        k_steps
        refine Stop.out ?_
        k_dflt (refine' Claim.use (numb_S _ _ _ W (tri code ds i) _ (hok i) hwi hW) ?k1 ?k2 ?k3 ?k4 ?k5 ?k6 ?k7 ?k8 ?_; (case k1 => k_asm); (case k2 => k_asm); (case k3 => k_asm); (case k4 => k_asm); (case k5 => k_asm); (case k6 => first | exact rfl | assumption); (case k7 => ktr_room); (case k8 => ktr_units); k_whole)
        rintro r9 adds9 h9 tk9 F9 N9 - ⟨K, n1, n2, n3, rfl, rfl⟩
        k_steps
        refine execsR_cons (wpR_of ?_)
        k_steps
        refine Stop.out ?_
        k_dflt (refine' Claim.use (p229_F _ _ _ W (tri code ds i) _ _ _ _ _ _ (List.mem_cons_self ..) (hok i) hwi hW) ?k1 ?k2 ?k3 ?k4 ?k5 ?k6 ?k7 ?k8 ?_; (case k1 => k_asm); (case k2 => k_asm); (case k3 => k_asm); (case k4 => k_asm); (case k5 => k_asm); (case k6 => first | exact rfl | assumption); (case k7 => ktr_room); (case k8 => ktr_units); k_whole)
        rintro r9 adds9 h9 tk9 F9 N9 - ⟨K1, th1, tp1, rfl, rfl⟩
        k_steps
        refine execsR_cons (wpR_of ?_)
        k_steps
        refine Stop.out ?_
        k_dflt (refine' Claim.use (p229_R _ _ _ W (tri code ds i) _ _ _ _ _ _ (List.mem_cons_self ..) (hok i) hwi hW) ?k1 ?k2 ?k3 ?k4 ?k5 ?k6 ?k7 ?k8 ?_; (case k1 => k_asm); (case k2 => k_asm); (case k3 => k_asm); (case k4 => k_asm); (case k5 => k_asm); (case k6 => first | exact rfl | assumption); (case k7 => ktr_room); (case k8 => ktr_units); k_whole)
        rintro r9 adds9 h9 tk9 F9 N9 - ⟨K2, th2, tp2, rfl, rfl⟩
        k_steps
        refine execsR_cons (wpR_of ?_)
        k_steps
        obtain ⟨v1, v2, v3, hmi⟩ := told_mem hmem hval (j := i) (by omega)
        (rename News _ _ _ _ => N8)
        have N13 := ledger_turn N8 hmi
        clear N8
        refine Stop.out (item_T N13 (List.mem_cons_of_mem _ (List.mem_cons_of_mem _ (List.mem_cons_of_mem _ (List.mem_cons_of_mem _ (List.mem_cons_of_mem _ (List.mem_cons_self ..)))))) (Int.natCast_nonneg _) (by omega) (told_at (j := i) (by omega)) ?_)
        k_steps
        refine Stop.out ?_
        k_dflt (refine' Claim.use (row_S _ _ _ _ _ _ _ W _ _ _ _ (hok i).1 (hok i).2.1 (hok i).2.2 hW) ?k1 ?k2 ?k3 ?k4 ?k5 ?k6 ?k7 ?k8 ?_; (case k1 => k_asm); (case k2 => k_asm); (case k3 => k_asm); (case k4 => k_asm); (case k5 => k_asm); (case k6 => first | exact rfl | assumption); (case k7 => ktr_room); (case k8 => ktr_units); k_whole)
        rintro r9 adds9 h9 tk9 F9 N9 - ⟨tq, rfl, rfl⟩
        k_steps
        · exact (ne_self (by assumption)).elim
        (rename (_ != _) = false => hx9)
        clear hx9
        rw [List.nil_append] at N9
        refine Stop.out (item_T N9 (List.mem_cons_of_mem _ (List.mem_cons_of_mem _ (List.mem_cons_of_mem _ (List.mem_cons_of_mem _ (List.mem_cons_of_mem _ (List.mem_cons_self ..)))))) (Int.natCast_nonneg _) (by omega) (told_at (j := i) (by omega)) ?_)
        k_steps
        refine execsR_cons (wpR_of ?_)
        k_steps
        refine Stop.out (item_T N9 (List.mem_cons_of_mem _ (List.mem_cons_of_mem _ (List.mem_cons_of_mem _ (List.mem_cons_of_mem _ (List.mem_cons_of_mem _ (List.mem_cons_self ..)))))) (Int.natCast_nonneg _) (by omega) (told_at (j := i) (by omega)) ?_)
        k_steps
        (rename News _ _ _ _ => N8)
        have N15 := News.tl N8
        clear N8
        refine Stop.out (item_T N15 (List.mem_cons_of_mem _ (List.mem_cons_of_mem _ (List.mem_cons_of_mem _ (List.mem_cons_of_mem _ (List.mem_cons_of_mem _ (List.mem_cons_self ..)))))) (Int.natCast_nonneg _) (by omega) (told_at (j := i) (by omega)) ?_)
        k_steps
        (rename News _ _ _ _ => N8)
        have N16 := News.tl (News.tl N8)
        clear N8
        have hz9 : (S ds).length ≤ sizeLine := by rw [S_len]; have : sizeLine = 2 ^ 24 := rfl; omega
        rcases deed_at hch hi with ⟨hlt, e9, hs9⟩ | ⟨hlt, e9, hs9⟩ | ⟨hlt, hs9⟩
        · refine execsR_cons (wpR_of ?_)
          k_steps
          refine execsR_nil (Stop.out ⟨rfl, _, _, _, _, rfl, by k_asm, by (rename News _ _ _ _ => N8); exact News.tl (News.tl (News.tl N8)), hne, ⟨by rw [tri_flip hlt e9]; exact ⟨_, rfl⟩, rfl, ?_⟩⟩)
          intro y hy
          have e1 := ne_of_off (x := Str.ofString "k") rfl hy
          have e2 := ne_of_off (x := Str.ofString "about") rfl hy
          have e3 := ne_of_off (x := Str.ofString "numbers") rfl hy
          have e4 := ne_of_off (x := Str.ofString "first") rfl hy
          have e5 := ne_of_off (x := Str.ofString "last") rfl hy
          have e6 := ne_of_off (x := Str.ofString "row") rfl hy
          simp only [e1, e2, e3, e4, e5, e6, if_false, hy]
          rfl
        · have gg : IntMulOk (tri code ds i).1 (tri code ds i).2.1 := (hok i).1.fit.mul (hok i).2.1.fit
          have et := tri_s hlt e9 (hsg i).2.2.1
          refine execsR_cons (wpR_of ?_)
          k_steps
          refine mulI (a := (tri code ds i).1) (b := (tri code ds i).2.1) gg ?_
          k_steps
          have o1 := hok (i + 1)
          rw [et] at o1
          refine Stop.out ?_
          k_dflt (refine' Claim.use (row_S _ _ _ _ (tri code ds i).1 ((tri code ds i).1 * (tri code ds i).2.1 - (tri code ds i).2.2) (tri code ds i).2.1 W _ _ _ _ o1.1 o1.2.1 o1.2.2 hW) ?k1 ?k2 ?k3 ?k4 ?k5 ?k6 ?k7 ?k8 ?_; (case k1 => k_asm); (case k2 => k_asm); (case k3 => k_asm); (case k4 => k_asm); (case k5 => k_asm); (case k6 => first | exact rfl | assumption); (case k7 => ktr_room); (case k8 => ktr_units); k_whole)
          rintro r9 adds9 h9 tk9 F9 N9 - ⟨tq2, rfl, rfl⟩
          k_steps
          refine execsR_nil (Stop.out ⟨rfl, _, _, _, _, rfl, by k_asm, by (rename News _ _ _ _ => N8); exact News.tl (News.tl (News.tl (News.tl N8))), hne, ⟨by rw [et]; exact ⟨_, rfl⟩, rfl, ?_⟩⟩)
          intro y hy
          have e1 := ne_of_off (x := Str.ofString "k") rfl hy
          have e2 := ne_of_off (x := Str.ofString "about") rfl hy
          have e3 := ne_of_off (x := Str.ofString "numbers") rfl hy
          have e4 := ne_of_off (x := Str.ofString "first") rfl hy
          have e5 := ne_of_off (x := Str.ofString "last") rfl hy
          have e6 := ne_of_off (x := Str.ofString "row") rfl hy
          simp only [e1, e2, e3, e4, e5, e6, if_false, hy]
          rfl
        · refine execsR_cons (wpR_of ?_)
          k_steps
          refine execsR_nil (Stop.out ⟨rfl, _, _, _, _, rfl, by k_asm, by (rename News _ _ _ _ => N8); exact News.tl (News.tl (News.tl N8)), hne, ⟨by rw [tri_end hlt]; exact ⟨_, rfl⟩, rfl, ?_⟩⟩)
          intro y hy
          have e1 := ne_of_off (x := Str.ofString "k") rfl hy
          have e2 := ne_of_off (x := Str.ofString "about") rfl hy
          have e3 := ne_of_off (x := Str.ofString "numbers") rfl hy
          have e4 := ne_of_off (x := Str.ofString "first") rfl hy
          have e5 := ne_of_off (x := Str.ofString "last") rfl hy
          have e6 := ne_of_off (x := Str.ofString "row") rfl hy
          simp only [e1, e2, e3, e4, e5, e6, if_false, hy]
          rfl
      · rintro m₁ nx h tk ⟨⟨tr, er⟩, rfl, off⟩ F4 N4
        refine execsR_cons (wpR_of ?_)
        k_steps
        exact hQ _ _ ⟨_, _, rfl, rfl, F4.keep⟩
  )
end Mine
end

theorem PySem.Challenge.cw_zo0003_01_holds : PySem.Challenge.rw_zo0003_01.Holds :=
  Mine.law_holds
