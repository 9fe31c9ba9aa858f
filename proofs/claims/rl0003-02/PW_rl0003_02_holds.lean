import PyProof.Rows.All
import Wide.All
import OpenK.AllK
import Wide.FinOn
import PySem.Challenge.RW_rl0003_02
open PySem PySem.W PyProof.Rows
set_option Elab.async false
set_option maxRecDepth 100000
set_option maxHeartbeats 8000000
namespace Mine
open Sem (wp)

/-! ## contexts beneath which no decoder holds a bytearray -/
def Dec : Code → Bool
  | .builtin id _ => Builtin.Bytes.decodersThatHold.contains id
  | _ => false
def ClB (Γ : Ctx) : Prop := ∀ x ∈ Γ.below, Dec x.1 = false
def Cl (Γ : Ctx) : Prop := Dec Γ.code = false ∧ ClB Γ

abbrev No : Value → Shared → Prop := fun _ _ => False

def wpC {α : Type} (M : Model) (A : Around) (t : Sem α) (Q : α → Shared → Prop) (s : Shared) : Prop :=
  ∀ Γ p, Γ.In A → Cl Γ → wp M Γ t (fun a _ s' => Q a s') (fun _ _ _ => False) p s
def codeC (M : Model) (A : Around) (c : Code) (R : Result → Shared → Prop) (s : Shared) : Prop :=
  ∀ Γ p, Γ.code = c → Γ.Below A → ClB Γ → wpCode M Γ R p s

section
variable {α β : Type} {M : Model} {A : Around} {s : Shared}
theorem wpC.of {t : Sem α} {Q : α → Shared → Prop} (h : wpAny M A t Q No s) : wpC M A t Q s := fun Γ p hΓ _ => h Γ p hΓ
theorem codeC.of {c : Code} {R : Result → Shared → Prop} (h : codeAny M A c R s) : codeC M A c R s := fun Γ p hc hΓ _ => h Γ p hc hΓ
theorem wpC.mono {t : Sem α} {Q Q' : α → Shared → Prop} (h : wpC M A t Q s) (hQ : ∀ a s, Q a s → Q' a s) : wpC M A t Q' s :=
  fun Γ p hΓ hc => Sem.wp_mono M Γ t (fun a _ s => hQ a s) (fun _ _ _ x => x) p s (h Γ p hΓ hc)
theorem codeC.mono {c : Code} {R R' : Result → Shared → Prop} (h : codeC M A c R s) (hR : ∀ r s, R r s → R' r s) : codeC M A c R' s :=
  fun Γ p hc hΓ hl => wpCode_mono hR (h Γ p hc hΓ hl)
theorem wpC.bind {m : Sem α} {f : α → Sem β} {Q : β → Shared → Prop} (h : wpC M A m (fun a s' => wpC M A (f a) Q s') s) : wpC M A (m >>= f) Q s := fun Γ p hΓ hc => by
  rw [Sem.wp_bind']
  exact Sem.wp_mono M Γ m (fun a p' s' h' => h' Γ p' hΓ hc) (fun _ _ _ h' => h') p s (h Γ p hΓ hc)
/-- a first step without a bytearray, then the rest -/
theorem wpC.bindAny {m : Sem α} {f : α → Sem β} {Q : β → Shared → Prop} (h : wpAny M A m (fun a s' => wpC M A (f a) Q s') No s) : wpC M A (m >>= f) Q s := .bind (.of h)
theorem wpC.pure {a : α} {Q : α → Shared → Prop} (h : Q a s) : wpC M A (Pure.pure a) Q s := .of (wpAny_pure h)
theorem wpC.holding {vs : List Value} {m : Sem α} {Q : α → Shared → Prop} (h : wpC M A m Q s) : wpC M A (holding vs m) Q s :=
  fun Γ p hΓ hc => by rw [Sem.wp_holding]; exact h Γ p hΓ hc
theorem wpC.keep {vs : List Value} {m : Sem α} {Q : α → Shared → Prop} (h : wpC M A m Q s) : wpC M A (m.keep vs) Q s :=
  fun Γ p hΓ hc => by rw [Sem.wp_keep]; exact h Γ p hΓ hc
theorem wpC.operate {vs : List Value} {m : Sem Value} {Q : Value → Shared → Prop} (h : wpC M A m Q s) : wpC M A (operate vs m) Q s :=
  fun Γ p hΓ hc => by rw [Sem.wp_operate]; exact h Γ p hΓ hc
theorem wpC.onRaise {m : Sem α} {k : Value → Sem Unit} {Q : α → Shared → Prop} (h : wpC M A m Q s) : wpC M A (m.onRaise k) Q s := fun Γ p hΓ hc => by
  rw [Sem.wp_onRaise]
  exact Sem.wp_mono M Γ m (fun _ _ _ h' => h') (fun _ _ _ h' => h'.elim) p s (h Γ p hΓ hc)
theorem wpC.standAt {pos : Pos} {f : Unit → Sem β} {Q : β → Shared → Prop} (h : wpC M A (f ()) Q s) : wpC M A (standAt pos >>= f) Q s := .bindAny (wpAny_standAt h)
theorem wpC.units {t : Sem α} {Q : α → Shared → Prop} (h : wpC M A.in1 t Q s) : wpC M A t Q s :=
  fun Γ p hΓ hc => h Γ p ⟨hΓ.1, hΓ.2.1, hΓ.2.2.1, hΓ.2.2.2.1, Nat.le_succ_of_le hΓ.2.2.2.2⟩ hc
theorem wpC.eq {t t' : Sem α} {Q : α → Shared → Prop} (e : t = t') (h : wpC M A t' Q s) : wpC M A t Q s := e ▸ h

theorem ClB.enter {Γ : Ctx} (h : Cl Γ) (c : Code) (hd : Option Value) (p : Pos) : ClB (Γ.enter c hd p) := fun x hx => by
  have hx' : x ∈ (Γ.code, p) :: Γ.below := hx
  rcases List.mem_cons.mp hx' with rfl | hx'
  · exact h.1
  · exact h.2 x hx'
theorem mark_none (A : Around) : A.mark none = A := rfl
theorem wpC.run {c : Code} {Q : Flow → Shared → Prop} (h : codeC M A c (fun r s' => match r with | .ok f => Q f s' | .error _ => False) s) : wpC M A (run c none) Q s := fun Γ p hΓ hc => by
  rw [Sem.wp_run]
  refine wpCode_mono (fun r s' x => ?_) (h _ p rfl (hΓ.enter c none p (by intro x; cases x)) (ClB.enter hc c none p))
  cases r with
  | ok f => exact x
  | error e => exact x
theorem wpC.runOwn {c : Code} {env : Env} {Q : Flow → Shared → Prop} (h : codeC M A c (fun r s' => match r with | .ok f => Q f s' | .error _ => False) s) : wpC M A (runOwn c env) Q s := by
  unfold PySem.runOwn
  exact .onRaise (.run h)
theorem wpC.call {f : Value} {pos : List Value} {kw : List (Str × Value)} {Q : Value → Shared → Prop}
    (h : codeC M A (.call f ⟨pos, kw⟩) (fun r s' => match r with | .ok (.ret v) => Q v s' | _ => False) s) : wpC M A (call f pos kw) Q s := fun Γ p hΓ hc => by
  show wp M Γ (runValue (.call f ⟨pos, kw⟩)) _ _ p s
  rw [Sem.wp_runValue]
  refine wpCode_mono (fun r s' x => ?_) (h _ p rfl (hΓ.enter _ none p (by intro x; cases x)) (ClB.enter hc _ none p))
  cases r with
  | ok f => cases f <;> exact x
  | error e => exact x
theorem codeC.tree {c : Code} {R : Result → Shared → Prop} (hd : Dec c = false)
    (h : wpC M (A.under c) (M.den c) (fun fin s' => match fin with | .done f => R (.ok f) s' | .again c' => c'.quiet = true ∧ codeC M A c' R s') s) : codeC M A c R s := fun Γ p hc hΓ hl => by
  rw [wpCode_iff_wp, hc]
  refine Sem.wp_mono M Γ _ (fun fin p' s' h' => ?_) (fun _ _ _ h' => h'.elim) p s (h Γ p (hc ▸ hΓ.in) ⟨hc ▸ hd, hl⟩)
  cases fin with
  | done f => exact h'
  | again c' => exact ⟨h'.1, h'.2 (Γ.goto c') p' rfl (hΓ.goto c') hl⟩
theorem codeC.loop {c : Code} {R : Result → Shared → Prop} (hd : Dec c = false) (hq : c.quiet = true) (I : Nat → Shared → Prop)
    (turn : ∀ n s, I n s → wpC M (A.under c) (M.den c) (fun fin s' => match fin with | .done f => R (.ok f) s' | .again c' => (c' = c ∧ ∃ m, m < n ∧ I m s') ∨ (c'.quiet = true ∧ codeC M A c' R s')) s)
    (n : Nat) (h : I n s) : codeC M A c R s := by
  induction n using Nat.strongRecOn generalizing s with
  | ind n ih =>
    refine codeC.tree hd (.mono (turn n s h) fun fin s' hf => ?_)
    cases fin with
    | done f => exact hf
    | again c' =>
      rcases hf with ⟨rfl, m, hm, hI⟩ | hf
      · exact ⟨hq, ih m hm hI⟩
      · exact hf
end

section
variable {M : Model} {A : Around} {s : Shared} {env : Env} {Q : Flow → Shared → Prop}
theorem wpC.execs_cons {st : Stmt} {rest : List Stmt} (h : wpC M A (exec st env) (fun f s' => match f with | .next => wpC M A (execs rest env) Q s' | f => Q f s') s) : wpC M A (execs (st :: rest) env) Q s := fun Γ p hΓ hc => by
  rw [PySem.execs_cons, Sem.wp_bind']
  refine Sem.wp_mono M Γ _ (fun f p' s' h' => ?_) (fun _ _ _ h' => h') _ _ (h Γ p hΓ hc)
  cases f <;> first | exact h' Γ p' hΓ hc | exact h'
theorem wpC.execs_any {st : Stmt} {rest : List Stmt} (h : wpAny M A (exec st env) (fun f s' => match f with | .next => wpC M A (execs rest env) Q s' | f => Q f s') No s) : wpC M A (execs (st :: rest) env) Q s := .execs_cons (.of h)
theorem wpC.if_ {test : Expr} {body orelse : List Stmt} {pos : Pos} (h : wpC M A (isTrue test env (eval test env)) (fun b s₂ => if b then wpC M A (execs body env) Q s₂ else wpC M A (execs orelse env) Q s₂) s) :
    wpC M A (exec (.If test body orelse pos) env) Q s := by
  rw [exec_If]
  refine .standAt (.bind (.mono h fun b s₂ h₂ => ?_))
  cases b <;> exact h₂
theorem wpC.assign {x : Str} {pos' pos : Pos} {value : Expr} (h : wpC M A (eval value env) (fun v s₁ => wpAny M A (storeName env x v) (fun _ => Q .next) No s₁) s)
    (hs : swapsWith value (some (.Name x pos')) pos.line env = Pure.pure false := by rfl) : wpC M A (exec (.Assign [.Name x pos'] value pos) env) Q s := fun Γ p hΓ hc => by
  simp only [exec_Assign_Name env x pos' value pos hs, Sem.wp_bind', Sem.wp_cmd_standAt, Sem.wp_bindName, Sem.wp_pure']
  exact Sem.wp_mono M Γ _ (fun v _ s₁ h₁ => h₁ Γ _ hΓ) (fun _ _ _ h' => h') _ _ (h Γ _ hΓ hc)
theorem wpC.while_ {test : Expr} {body orelse : List Stmt} {pos : Pos} (h : codeC M A (.whileLoop test body orelse env) (fun r s' => match r with | .ok f => Q f s' | .error _ => False) s) : wpC M A (exec (.While test body orelse pos) env) Q s := by
  rw [exec_While]
  exact .standAt (.runOwn h)
theorem wpC.for_ {target iter : Expr} {body orelse : List Stmt} {pos : Pos}
    (h : wpAny M A (eval iter env) (fun x s₁ => wpAny M A (pyIter x) (fun it s₂ => codeC M A (.forLoop target it body orelse env) (fun r s' => match r with | .ok f => Q f s' | .error _ => False) s₂) No s₁) No s)
    (hs : ∀ x, foldedSetIterable iter env x = Pure.pure x := by intro _; rfl) : wpC M A (exec (.For target iter body orelse pos) env) Q s := by
  rw [exec_For]
  refine .standAt (.bindAny (wpAny_mono h (fun x s₁ h₁ => ?_) fun _ _ e => e))
  rw [hs x]
  refine .bind (.pure (.standAt (.bindAny (wpAny_holding (wpAny_mono h₁ (fun it s₂ h₂ => .runOwn h₂) fun _ _ e => e)))))
end
end Mine
namespace Mine
open Sem (wp)
section
variable {prog : Program} {w : World} {A : Around} {s : Shared} {R : Result → Shared → Prop} {env : Env}
theorem codeC.while_ {test : Expr} {body : List Stmt} (I : Nat → Shared → Prop)
    (turn : ∀ n s, I n s → wpAny (model prog w) A (isTrue test env (eval test env)) (fun b s₂ =>
      if b = true then wpC (model prog w) A (execs body env) (fun f s₃ => match f with
          | .next | .cont => ∃ m, m < n ∧ I m s₃
          | .brk => R (.ok .next) s₃
          | .ret v => R (.ok (.ret v)) s₃) s₂
      else R (.ok .next) s₂) No s)
    (n : Nat) (h : I n s) : codeC (model prog w) A (.whileLoop test body [] env) R s := by
  refine codeC.loop rfl rfl I (fun n s hI => ?_) n h
  show wpC _ A ((whileTurn test body [] env).onRaise (fun x => do noteFrame x env; theTreesLotGoes x)) _ s
  refine .onRaise ?_
  simp only [whileTurn]
  refine .bindAny (wpAny_mono (turn n s hI) (fun b s₂ h₂ => ?_) fun _ _ h' => h')
  cases b with
  | false =>
    simp only [Bool.false_eq_true, if_false] at h₂ ⊢
    exact .bindAny (wpAny_execs_nil (.pure h₂))
  | true =>
    simp only [if_true] at h₂ ⊢
    refine .bind (.mono h₂ fun f s₃ h₃ => ?_)
    cases f with
    | next => exact .pure (.inl ⟨rfl, h₃⟩)
    | cont => exact .pure (.inl ⟨rfl, h₃⟩)
    | brk => exact .pure h₃
    | ret v => exact .pure h₃
theorem codeC.for_ {target : Expr} {it : Value} {body : List Stmt} (I : Nat → Shared → Prop)
    (turn : ∀ n s, I n s → wpAny (model prog w) A (pyNext it) (fun r s₁ => match r with
      | none => R (.ok .next) s₁
      | some v => wpAny (model prog w) A (assign target env v) (fun _ s₂ => wpC (model prog w) A (execs body env) (fun f s₃ => match f with
          | .next | .cont => ∃ m, m < n ∧ I m s₃
          | .brk => R (.ok .next) s₃
          | .ret v => R (.ok (.ret v)) s₃) s₂) No s₁) No s)
    (n : Nat) (h : I n s) (ht : ∀ v, letOwnedTupleGo target it v = Pure.pure () := by intro _; rfl) : codeC (model prog w) A (.forLoop target it body [] env) R s := by
  refine codeC.loop rfl rfl I (fun n s hI => ?_) n h
  show wpC _ A ((forTurn target it body [] env).onRaise (fun x => do noteFrame x env; theTreesLotGoes x)) _ s
  refine .onRaise ?_
  simp only [forTurn]
  refine .standAt (.bindAny (wpAny_onRaise (wpAny_mono (turn n s hI) (fun r s₁ h₁ => ?_) fun _ _ h' => h'.elim)))
  cases r with
  | none => exact .pure (.inr ⟨rfl, .of (codeAny_block (wpAny_execs_nil h₁))⟩)
  | some v =>
    dsimp only at h₁ ⊢
    rw [ht v]
    refine .bind (.pure (.bindAny (wpAny_mono h₁ (fun _ s₂ h₂ => .bind (.mono h₂ fun f s₃ h₃ => ?_)) fun _ _ h' => h')))
    cases f with
    | next => exact .pure (.inl ⟨rfl, h₃⟩)
    | cont => exact .pure (.inl ⟨rfl, h₃⟩)
    | brk => exact .pure h₃
    | ret v => exact .pure h₃
theorem codeC.func {body : List Stmt}
    (h : wpC (model prog w) (A.deeper env) (execs body env) (fun f s' => R (.ok (.ret (match f with | .ret v => v | _ => .none))) s') s) :
    codeC (model prog w) A (.func body env) R s := by
  refine .tree rfl ?_
  show wpC _ (A.deeper env) (do point; match ← (execs body env).onRaise (leaving env) with | .ret v => ret v | _ => ret .none) _ s
  refine .bindAny (wpAny_point (.bind (.onRaise (.mono h fun f s' h' => ?_))))
  cases f <;> exact .pure h'
theorem codeC.call_function {a : Addr} {args : Args} {o : Obj} {fd : FuncData} {body : List Stmt} (hroom : A.depth < recursionLimit)
    (ho : s.heap.get? a = some o)
    (hd' : o.data = .func fd) (hco : fd.scope.isCoroutine = false) (hgen : fd.scope.isGenerator = false) (hbody : fd.body = .stmts body) (hcd : s.heap.CodeRec fd.code fd.qualname)
    (h : wpAny (model prog w) A.in1 (bindArgs fd args) (fun binds s₁ =>
      wpAny (model prog w) A.in1 (newFunctionEnv fd.scope fd.globals fd.closure binds (fd.qualname ++ ".<locals>.") (some a) fd.code none fd.builtins)
        (fun env s₂ => s₂.heap.NoLimit ∧ codeC (model prog w) A (.func body env) R s₂) No s₁) No s) :
    codeC (model prog w) A (.call (.ref a) args) R s := by
  refine .tree rfl ?_
  show wpC _ A.in1 (callAny (.ref a) args) _ s
  simp only [callAny]
  refine .bindAny (wpAny_load ho ?_)
  obtain ⟨c, oc, vs, tq, hc, hoc, hdc, hq⟩ := hcd
  simp only [hd', callFunction, hco, hgen, hbody, hc]
  rw [hc] at h
  refine .of (wpAny_bind (m := field (.ref c) 1) (wpAny_field hoc hdc hq (wpAny_bind (wpAny_pure ?_))))
  exact wpAny_bind (wpAny_mono h (fun binds s₁ h₁ => wpAny_bind (wpAny_mono h₁ (fun env s₂ h₂ => wpAny_bind (wpAny_enterFrame h₂.1 hroom
    (wpAny_pure (And.intro rfl h₂.2)))) fun _ _ h' => h')) fun _ _ h' => h')
end
section
variable {prog : Program} {w : World} {A : Around} {s : Shared} {K : Frag} {R : Result → Shared → Prop} {name qual : Str} {params : Arguments} {body : List Stmt} {scope : Scope} {dV kV doc pm cdv ct oc : Value} {an od : Option Addr} {osl : Array (Option Value)} {f : Addr} {args : Args} {binds : List (Str × Value)}
/-- a call of a def of the text that raises nothing -/
theorem enter (X : K.In s.heap) (hlim : s.heap.NoLimit)
    (ho : K.lookup f = some ⟨oc, od, .func (fnOf name qual params body scope dV kV doc pm an cdv ct), osl⟩) (hcd : codeIn K cdv qual = true) (hroom : A.depth < recursionLimit)
    (hbind : BindsTo s (fnOf name qual params body scope dV kV doc pm an cdv ct) args binds) (hloc : ∀ y ∈ binds, scope.names.lookup y.1 = some .local)
    (h : ∀ L h₁, Fr s.heap L h₁ (fun y => binds.reverse.lookup y) → News s.heap L h₁ [] →
      wpAny (model prog w) (A.deeper (envOf qual scope L f cdv)) (execs body (envOf qual scope L f cdv))
        (fun fl s' => R (.ok (.ret (match fl with | .ret v => v | _ => .none))) s') (fun _ _ => False)
        { s with heap := h₁, toks := s.toks + binds.length })
    (hco : scope.isCoroutine = false := by rfl) (hgen : scope.isGenerator = false := by rfl) (hk : scope.kind = .function := by rfl)
    (hcell : ∀ x ∈ scope.names, x.2 ≠ .cell := by decide) : codeAny (model prog w) A (.call (.ref f) args) R s :=
  codeAny_call_def (fd := fnOf name qual params body scope dV kV doc pm an cdv ct) (body := body) (binds := binds) hroom (X _ _ ho) rfl hlim (codeRec_of X hcd) rfl hbind hcell hloc
    (fun h₁ hns hk₁ => wpAny_mono (h s.heap.objs.size h₁ ⟨hns, hk₁, Nat.le_refl _⟩ News.nil) (fun _ _ x => x) fun _ _ x => x.elim) hco hgen hk
/-- the same on the spine -/
theorem enterC (X : K.In s.heap) (hlim : s.heap.NoLimit)
    (ho : K.lookup f = some ⟨oc, od, .func (fnOf name qual params body scope dV kV doc pm an cdv ct), osl⟩) (hcd : codeIn K cdv qual = true) (hroom : A.depth < recursionLimit)
    (hbind : BindsTo s (fnOf name qual params body scope dV kV doc pm an cdv ct) args binds) (hloc : ∀ y ∈ binds, scope.names.lookup y.1 = some .local)
    (h : ∀ L h₁, Fr s.heap L h₁ (fun y => binds.reverse.lookup y) → News s.heap L h₁ [] →
      wpC (model prog w) (A.deeper (envOf qual scope L f cdv)) (execs body (envOf qual scope L f cdv))
        (fun fl s' => R (.ok (.ret (match fl with | .ret v => v | _ => .none))) s')
        { s with heap := h₁, toks := s.toks + binds.length })
    (hco : scope.isCoroutine = false := by rfl) (hgen : scope.isGenerator = false := by rfl) (hk : scope.kind = .function := by rfl)
    (hcell : ∀ x ∈ scope.names, x.2 ≠ .cell := by decide) : codeC (model prog w) A (.call (.ref f) args) R s := by
  refine codeC.call_function (fd := fnOf name qual params body scope dV kV doc pm an cdv ct) hroom (X _ _ ho) rfl hco hgen rfl (codeRec_of X hcd) (hbind _ _ _ _ ?_)
  refine wpAny_newFunctionEnv hcell hloc (fun h₀ hns₀ hsb₀ => ⟨hlim.fresh _ hsb₀, codeC.func (h s.heap.objs.size h₀ ⟨hns₀, fun b o e => ?_, Nat.le_refl _⟩ News.nil)⟩) hk
  exact hsb₀.extBut b o (Nat.ne_of_lt (Heap.lt_size e)) (Heap.get?_push_of_some _ e)
end

section
variable {M : Model} {A : Around} {s : Shared} {env : Env}
theorem wpC.spliced_cons {x : Sem Value} {rest : List (Bool × Sem Value)} {Q : List Value → Shared → Prop}
    (h : wpC M A x (fun v s₁ => wpC M A (spliced rest) (fun vs s₂ => Q (v :: vs) s₂) s₁) s) : wpC M A (spliced ((false, x) :: rest)) Q s := by
  rw [spliced]
  refine .bind (.mono h fun v s₁ h₁ => ?_)
  simp only [Bool.false_eq_true, if_false]
  exact .bind (.pure (.bind (.holding (.mono h₁ fun vs s₂ h₂ => .pure h₂))))
theorem wpC.evalArgs {f : Value} {x : Sem Value} {rest : List (Bool × Sem Value)} {Q : Args → Shared → Prop}
    (h : wpC M A (spliced ((false, x) :: rest)) (fun vs s' => Q ⟨vs, []⟩ s') s) : wpC M A (evalArgs f true ((false, x) :: rest) []) Q s := by
  unfold PySem.evalArgs
  show wpC M A (spliced ((false, x) :: rest) >>= _) Q s
  refine .bind (.mono h fun vs s' h' => ?_)
  refine .holding ?_
  exact .bind (.pure (.bind (.pure (.pure h'))))
theorem wpC.callWith {f : Value} {pos : Pos} {Q : Value → Shared → Prop} {P : Heap → Prop} {args : List (Bool × Sem Value)} (hplain : args.any (·.1) = false)
    (hk : ∀ h, P h → ∃ k, (k = Keeper.frame ∨ k = Keeper.machine ∨ k = Keeper.boundFrame) ∧ Looks M h (keeperOf f) k)
    (h : wpC M A (PySem.evalArgs f true args []) (fun a s₁ => P s₁.heap ∧ wpC M A (PySem.call f a.pos a.kw) Q s₁) s) : wpC M A (PySem.callWith pos f [] args []) Q s := by
  unfold PySem.callWith
  refine .bind (.holding (.mono h fun a s₁ h₁ => .standAt ?_))
  obtain ⟨k, hk', L⟩ := hk _ h₁.1
  simp only [hplain, List.any_nil, Bool.or_false, List.nil_append]
  refine .bindAny (L.here ?_)
  have tail : ∀ {t : Sem Value}, wpC M A t Q s₁ → wpC M A (t >>= fun r => PySem.holding [r] point >>= fun _ => Pure.pure r) Q s₁ :=
    fun ht => .bind (.mono ht fun r s₂ hr => .bindAny (wpAny_holding (wpAny_point (.pure hr))))
  have marked (mk : Value) : wpC M A (callMarked mk f a.pos a.kw) Q s₁ := by unfold callMarked; exact .keep h₁.2
  rcases hk' with rfl | rfl | rfl <;> dsimp only <;> first | exact tail h₁.2 | (split <;> first | exact tail h₁.2 | exact tail (marked _))
theorem wpC.callWithT {T : String} {pos : Pos} {Q : Value → Shared → Prop} {args : List (Bool × Sem Value)} (hplain : args.any (·.1) = false)
    (h : wpC M A (PySem.evalArgs (.type T) true args []) (fun a s₁ => wpC M A (PySem.call (.type T) a.pos a.kw) Q s₁) s) : wpC M A (PySem.callWith pos (.type T) [] args []) Q s := by
  unfold PySem.callWith
  refine .bind (.holding (.mono h fun a s₁ h₁ => .standAt ?_))
  simp only [hplain, List.any_nil, Bool.or_false, List.nil_append]
  refine .bind (.pure ?_)
  exact .bind (.mono h₁ fun r s₂ hr => .bindAny (wpAny_holding (wpAny_point (.pure hr))))
theorem wpC.callName {x : Str} {np pos : Pos} {args : List Expr} {trees : List (Bool × Sem Value)} {Q : Value → Shared → Prop} (ht : backTo pos (starEach args env) = trees)
    (h : wpAny M A (eval (.Name x np) env) (fun f s₁ => wpC M A (PySem.callWith pos f [] trees []) Q s₁) No s) : wpC M A (eval (.Call (.Name x np) args [] pos) env) Q s := by
  subst ht
  exact .bindAny h
theorem wpC.isTrueCompare {l r : Expr} {op : CmpOp} {pos : Pos} {whole : Sem Value} {Q : Bool → Shared → Prop}
    (h : wpC M A (eval l env) (fun a s₁ => wpAny M A (eval r env) (fun b s₂ => wpAny M A (compareOp op a b) (fun c s₃ => wpAny M A (truthy c) Q No s₃) No s₂) No s₁) s)
    (hm : behindInMarks op r = false := by with_unfolding_all rfl) : wpC M A (isTrue (.Compare l [op] [r] pos) env whole) Q s := fun Γ p hΓ hc => by
  simp only [isTrue_Compare1, markedBehindIn_of_false hm, Sem.wp_bind', Sem.wp_holding, Sem.wp_cmd_standAt, Sem.wp_operate]
  exact Sem.wp_mono M Γ _ (fun a p₁ s₁ h₁ => Sem.wp_mono M Γ _ (fun b _ s₂ h₂ => Sem.wp_mono M Γ _ (fun c p₃ s₃ h₃ => h₃ Γ p₃ hΓ)
    (fun _ _ _ h' => h') _ _ (h₂ Γ _ hΓ)) (fun _ _ _ h' => h') _ _ (h₁ Γ p₁ hΓ)) (fun _ _ _ h' => h') _ _ (h Γ p hΓ hc)
end
end Mine
namespace Mine
open Sem (wp)
/-! ## bytearray: what the tables say -/
namespace BA
theorem mro : mroOf (.type "bytearray") = Pure.pure [.type "bytearray", .type "object"] := by rw [mroOf_type]; kernel_rfl
theorem look_new : typeLookup (.type "bytearray") "__new__" = Pure.pure (some (.builtin "bytearray.__new__")) := by rw [typeLookup_type, builtinLookup_eq_fast]; kernel_rfl
theorem slot_init : Slot "bytearray" "__init__" "bytearray.__init__" :=
  .of (owner := "bytearray") (n := "__init__") (by rw [typeLookup_type, builtinLookup_eq_fast]; kernel_rfl) (by decide +kernel) (by decide +kernel) (by decide +kernel)
    (by first | exact .inl (by decide +kernel) | exact .inr (by decide +kernel)) (by rw [isSubtype_type]; kernel_rfl)
theorem called : TypeCalled "bytearray" "bytearray.__new__" "bytearray.__init__" :=
  ⟨by decide +kernel, by decide +kernel, ⟨_, _, mro⟩, madeBy_type mro look_new (by decide +kernel), by decide +kernel, by rw [isSubtype_type]; kernel_rfl, slot_init⟩
theorem typeCall (a : Value) : checkTypeCall "bytearray" ⟨[a], []⟩ = Pure.pure () := by kernel_rfl
theorem newCall (a : Value) : checkBuiltinCall "bytearray.__new__" ⟨[.type "bytearray", a], []⟩ = Pure.pure () := by kernel_rfl
theorem plain_new : plainId "bytearray.__new__" = true := by decide +kernel
theorem entry_new : entryFor table "bytearray.__new__" = some Builtin.«list.__new__» := by
  exact entryFor_alias (id' := "list.__new__") (by kernel_rfl) rfl (by decide +kernel) (by kernel_rfl)
theorem entry_init : entryFor table "bytearray.__init__" = some Builtin.«bytearray.__init__» := by first | exact entryFor_of_fast (by kernel_rfl) | exact entryFor_of_tree (by kernel_rfl)
theorem plain_init : plainId "bytearray.__init__" = true := by decide +kernel
theorem args_init (a b : Value) : argsOk "bytearray.__init__" ⟨[a, b], []⟩ := by unfold argsOk; kernel_rfl
theorem no_release : typeLookup (.type "bytearray") "__release_buffer__" = Pure.pure (some (.builtin "bytearray.__release_buffer__")) := by rw [typeLookup_type, builtinLookup_eq_fast]; kernel_rfl
theorem sub_self : isSubtype (.type "bytearray") (.type "bytearray") = Pure.pure true := by rw [isSubtype_type]; kernel_rfl
set_option maxRecDepth 1000000 in
theorem owner_new : ("bytearray.__new__".splitOn ".__new__").headD "" = "bytearray" := by simp +decide [String.splitOn, String.splitOnAux]
theorem bind (v : Value) : Builtin.Bytes.bindOptional "bytearray.__init__" "bytearray" ["source", "encoding", "errors"] [v] [] = Pure.pure [some v, none, none] := by kernel_rfl
end BA
section
variable {prog : Program} {w : World} {A : Around} {s : Shared}
theorem if_no {α : Type} {M : Model} {c : Bool} {a b : Sem α} {Q : α → Shared → Prop} (hc : c = false) (h : wpC M A b Q s) : wpC M A (if c = true then a else b) Q s := by
  subst hc
  exact h
theorem if_yes {α : Type} {M : Model} {c : Bool} {a b : Sem α} {Q : α → Shared → Prop} (hc : c = true) (h : wpC M A a Q s) : wpC M A (if c = true then a else b) Q s := by
  subst hc
  exact h
theorem wpC.ret {α β : Type} {M : Model} {m : Sem α} {a : α} {f : α → Sem β} {Q : β → Shared → Prop} (e : m = Pure.pure a) (h : wpC M A (f a) Q s) : wpC M A (m >>= f) Q s := by
  rw [e]
  exact .bind (.pure h)
theorem dec_of {id : String} {args : Args} (h : Builtin.Bytes.decodersThatHold.contains id = false) : Dec (.builtin id args) = false := h
theorem codeC.builtin {id : String} {args : Args} {b : Builtin} {R : Result → Shared → Prop} (hd : Builtin.Bytes.decodersThatHold.contains id = false) (hb : entryFor table id = some b)
    (h : wpC (model prog w) (A.under (.builtin id args)) (b args)
      (fun fin s' => match fin with | .done f => R (.ok f) s' | .again c' => c'.quiet = true ∧ codeC (model prog w) A c' R s') s) :
    codeC (model prog w) A (.builtin id args) R s := by
  refine .tree (dec_of hd) ?_
  show wpC _ _ (match entryFor table id with | some b => b args | none => unsupported ((withoutEnding? id "#data").getD id)) _ s
  rw [hb]; exact h
/-- a call of a built-in class whose `__init__` stands on the spine -/
theorem callTypeC {T newId initId : String} {args : List Value} {Q Q₁ : Value → Shared → Prop} (ft : TypeCalled T newId initId)
    (hct : checkTypeCall T ⟨args, []⟩ = Pure.pure ())
    (hnew : wpAny (model prog w) A.in1 (call (.builtin newId) (.type T :: args)) Q₁ No s)
    (hnext : ∀ obj s₁, Q₁ obj s₁ → s₁.TypeIs obj T ∧ wpC (model prog w) A.in1 (call (.builtin initId) (obj :: args)) (fun r s₂ => r = .none ∧ Q obj s₂) s₁) :
    wpC (model prog w) A (call (.type T) args) Q s := by
  obtain ⟨c, tl, hmro⟩ := ft.mro
  refine .call (.tree rfl ?_)
  show wpC _ _ (callAny (.type T) _) _ _
  refine .pure ⟨Code.quiet_builtin _ (by decide +kernel), .builtin (by decide +kernel) F.entry_type_call ?_⟩
  rw [Around.under_plain (weight_type_call_type T args []) rfl]
  unfold Builtin.«type.__call__»
  dsimp only
  have h1 := ft.notType
  have h2 := ft.canCreate
  refine if_no h1 ?_
  refine if_no h2 ?_
  refine .ret hct ?_
  refine .ret hmro ?_
  refine if_no rfl ?_
  refine .ret ft.made ?_
  refine .ret rfl ?_
  refine .bindAny (wpAny_holding (wpAny_mono hnew (fun obj s₁ hr => ?_) fun _ _ e => e))
  obtain ⟨hT, hi⟩ := hnext _ _ hr
  refine .bindAny (wpAny_isInstance hT ft.sub ?_)
  refine if_no rfl ?_
  refine .bind (.holding ?_)
  simp only [callSpecial?]
  refine .bindAny (wpAny_specialOf hT ft.init.lookup ?_)
  simp only [ft.init.bind]
  refine .holding (.bind (.pure (.bind (.mono hi fun r s₂ hq => .pure ?_))))
  obtain ⟨rfl, hq⟩ := hq
  exact if_no rfl (.pure hq)
/-- `list.__new__` under bytearray's name -/
theorem ba_new {a : Value} {Q₁ : Value → Shared → Prop}
    (h : Q₁ (.ref s.heap.objs.size) { s with heap := s.heap.push { cls := .type "bytearray", data := .bytearray #[] } }) :
    wpAny (model prog w) A (call (.builtin "bytearray.__new__") [.type "bytearray", a]) Q₁ No s := by
  refine wpAny_call (codeAny_of_tree ?_)
  show wpAny _ A.in1 (do checkBuiltinCall "bytearray.__new__" ⟨[.type "bytearray", a], []⟩; again (.builtin "bytearray.__new__" ⟨[.type "bytearray", a], []⟩)) _ _ s
  refine wpAny_bind (wpAny_of_eq (BA.newCall a) (wpAny_pure ⟨plainId_quiet BA.plain_new _, codeAny_builtin_stack BA.entry_new rfl fun p st => ?_⟩))
  rw [Around.under_plainId BA.plain_new _]
  have hsub := BA.sub_self
  have hown := BA.owner_new
  obtain ⟨hp, g, d, tk, os⟩ := s
  simp only [hown]
  wp_walk
  exact h
end
end Mine
namespace Mine
open Sem (wp)
section
variable {prog : Program} {w : World} {A : Around} {s : Shared}
theorem guards_nil {c : Code} (h : c.guards = []) : c.isGuard = false := by
  cases hg : c.isGuard with
  | false => rfl
  | true => simp [Code.guards, hg] at h
theorem exported_no {M : Model} {self : Value} {Q : Bool → Shared → Prop} (hg : A.guards = some []) (h : Q false s) : wpC M A (Builtin.Bytes.exported self) Q s := fun Γ p hΓ hc => by
  have hall : ∀ x ∈ ((Γ.code, p) :: Γ.below), x.1.isGuard = false ∧ Dec x.1 = false := by
    have hgs := hΓ.2.2.2.1 [] hg
    rw [← guardsOf_cons Γ.code p] at hgs
    intro x hx
    refine ⟨?_, ?_⟩
    · cases hgx : x.1.isGuard with
      | false => rfl
      | true =>
        have : x.1 ∈ guardsOf ((Γ.code, p) :: Γ.below) := by
          unfold guardsOf
          exact List.mem_filter.mpr ⟨List.mem_map_of_mem hx, hgx⟩
        rw [hgs] at this
        cases this
    · rcases List.mem_cons.mp hx with rfl | hx
      · exact hc.1
      · exact hc.2 x hx
  have none : ∀ f : Code × Pos → Bool, (∀ x ∈ ((Γ.code, p) :: Γ.below), x.1.isGuard = false ∧ Dec x.1 = false → f x = false) → ((Γ.code, p) :: Γ.below).any f = false := fun f hf =>
    List.any_eq_false.mpr fun x hx => by rw [hf x hx (hall x hx)]; exact Bool.false_ne_true
  unfold Builtin.Bytes.exported
  show Q (((Γ.code, p) :: Γ.below).any _) s
  rw [none _ ?_]
  · exact h
  rintro ⟨c, q⟩ _ ⟨h1, h2⟩
  dsimp only at h1 h2
  split <;> simp_all [Code.isGuard, guardIds, Dec]
abbrev baObj (b : Array UInt8) : Obj := { cls := .type "bytearray", data := .bytearray b }
theorem ba_typeIs {a : Addr} {b : Array UInt8} (h : s.heap.get? a = some (baObj b)) : s.TypeIs (.ref a) "bytearray" := ⟨_, h, rfl⟩
theorem ba_write {M : Model} {a : Addr} {b : Array UInt8} {f : Array UInt8 → Array UInt8} {Q : Unit → Shared → Prop} {E : Value → Shared → Prop} (h : s.heap.get? a = some (baObj b)) (hz : (f b).size ≤ sizeLine)
    (hQ : Q () { s with heap := s.heap.update a (Obj.mapBytearray f) }) : wpAny M A (Builtin.Bytes.write (.ref a) f) Q E s := by
  show wpAny M A (updateBytearray a f) Q E s
  unfold updateBytearray
  refine wpAny_bind (wpAny_load h ?_)
  show wpAny _ _ (update a (Obj.mapBytearray f) >>= fun _ => lookBehind a) _ _ _
  refine wpAny_bind (wpAny_update h ?_)
  have h2 : (s.heap.update a (Obj.mapBytearray f)).get? a = some (baObj (f b)) := Heap.get?_update_self (Obj.mapBytearray f) h rfl
  refine wpAny_lookBehind h2 ?_ hQ
  show (if (f b).size > sizeLine then some "bytearray:memory" else none) = none
  rw [if_neg (Nat.not_lt.mpr hz)]
theorem ba_release {M : Model} {a : Addr} {b : Array UInt8} {Q : Bool → Shared → Prop} {E : Value → Shared → Prop} (h : s.heap.get? a = some (baObj b)) (hQ : Q false s) : wpAny M A (Builtin.Bytes.ownRelease (.ref a)) Q E s := by
  unfold Builtin.Bytes.ownRelease Builtin.Bytes.slotIsOwn
  refine wpAny_bind (wpAny_bind (wpAny_specialOf (ba_typeIs h) BA.no_release ?_))
  show wpAny M A (if (!"bytearray.__release_buffer__".endsWith ("." ++ "__release_buffer__")) = true then _ else _) _ _ _
  rw [show (!"bytearray.__release_buffer__".endsWith ("." ++ "__release_buffer__")) = false by decide +kernel]
  show wpAny M A (isInstance (.ref a) (.type ("bytearray.__release_buffer__".dropRight ("__release_buffer__".length + 1)))) _ _ _
  rw [show "bytearray.__release_buffer__".dropRight ("__release_buffer__".length + 1) = "bytearray" by decide +kernel]
  refine wpAny_isInstance (ba_typeIs h) BA.sub_self ?_
  exact wpAny_pure hQ
theorem ba_init {a : Addr} {n : Int} {t : Tok} {Q : Value → Shared → Prop} (hg : A.guards = some []) (h : s.heap.get? a = some (baObj #[])) (h0 : 0 ≤ n) (h1 : n ≤ 1048576)
    (hQ : ∀ h', h'.get? a = some (baObj (Array.replicate n.toNat 0)) → Heap.SameBut a s.heap h' → Q .none { s with heap := h' }) :
    wpC (model prog w) A (call (.builtin "bytearray.__init__") [.ref a, .int n t]) Q s := by
  refine .call (.tree rfl ?_)
  show wpC _ A.in1 (do checkBuiltinCall "bytearray.__init__" ⟨[.ref a, .int n t], []⟩; again (.builtin "bytearray.__init__" ⟨[.ref a, .int n t], []⟩)) _ s
  refine .bindAny (BA.slot_init.check _ _ _ _ _ _ _ _ (ba_typeIs h) (BA.args_init _ _) (.pure ⟨plainId_quiet BA.plain_init _, .builtin (by decide +kernel) BA.entry_init ?_⟩))
  rw [Around.under_plainId BA.plain_init _]
  unfold Builtin.«bytearray.__init__»
  dsimp only
  refine .bindAny (ba_release h ?_)
  refine if_no rfl ?_
  refine .ret (BA.bind _) ?_
  dsimp only
  refine .ret (a := ()) rfl ?_
  refine .ret (a := ()) rfl ?_
  refine .bind (.bind (exported_no hg ?_))
  refine .bind (.bindAny (wpAny_load h (.pure (.pure ?_))))
  refine if_no rfl ?_
  have hz0 : (#[] : Array UInt8).size ≤ sizeLine := Nat.zero_le _
  refine .bindAny (ba_write h hz0 ?_)
  have h2 : (s.heap.update a (Obj.mapBytearray fun _ => #[])).get? a = some (baObj #[]) := Heap.get?_update_self (Obj.mapBytearray fun _ => #[]) h rfl
  refine .ret (a := none) rfl ?_
  refine if_no rfl ?_
  refine .bind (if_no rfl (if_no rfl (.pure ?_)))
  refine .bindAny (wpAny_specialOf (typeIs_int _ n t) F.slot_int_index.lookup ?_)
  refine if_yes rfl ?_
  refine .ret (a := .ok n) rfl ?_
  dsimp only
  have hf : (!Builtin.Bytes.fitsIndex n) = false := by
    simp only [Builtin.Bytes.fitsIndex, Bool.not_eq_false', Bool.and_eq_true, decide_eq_true_eq]; omega
  refine if_no hf ?_
  rw [if_neg (by omega : ¬ n < 0)]
  refine if_no (by rw [beq_eq_false_iff_ne]; omega) ?_
  refine if_no (by simp only [Builtin.Bytes.tooLong, decide_eq_false_iff_not, sizeLine_eq]; omega) ?_
  refine .bindAny (wpAny_rule ?_)
  by_cases hn : n > 0
  · rw [if_pos hn]
    have hz : (Array.replicate n.toNat (0 : UInt8)).size ≤ sizeLine := by rw [Array.size_replicate, sizeLine_eq]; omega
    refine .bindAny (ba_write h2 hz (.pure ?_))
    refine hQ _ (Heap.get?_update_self (Obj.mapBytearray fun _ => Array.replicate n.toNat 0) h2 rfl) ?_
    exact (Heap.SameBut.update ..).trans (Heap.SameBut.update ..)
  · rw [if_neg hn]
    refine .pure (hQ _ ?_ (Heap.SameBut.update ..))
    have e : n.toNat = 0 := by omega
    rw [e]
    exact h2
/-- `bytearray(n)` -/
theorem call_bytearray {n : Int} {t : Tok} {Q : Value → Shared → Prop} (hg : A.guards = some []) (h0 : 0 ≤ n) (h1 : n ≤ 1048576)
    (hQ : ∀ h', h'.get? s.heap.objs.size = some (baObj (Array.replicate n.toNat 0)) → (∀ b o, s.heap.get? b = some o → h'.get? b = some o) → Q (.ref s.heap.objs.size) { s with heap := h' }) :
    wpC (model prog w) A (call (.type "bytearray") [.int n t]) Q s := by
  refine callTypeC (Q₁ := fun v s₁ => v = .ref s.heap.objs.size ∧ s₁ = { s with heap := s.heap.push (baObj #[]) }) BA.called (BA.typeCall _) (ba_new ⟨rfl, rfl⟩) ?_
  rintro _ _ ⟨rfl, rfl⟩
  have hp : (s.heap.push (baObj #[])).get? s.heap.objs.size = some (baObj #[]) := Heap.get?_push_size _ rfl
  refine ⟨⟨_, hp, rfl⟩, ba_init hg hp h0 h1 fun h' e1 e2 => ⟨rfl, hQ h' e1 fun b o e => ?_⟩⟩
  exact e2.extBut b o (Nat.ne_of_lt (Heap.lt_size e)) (Heap.get?_push_of_some _ e)
end
end Mine
namespace Mine
open Sem (wp)
namespace BA
theorem slot_set : Slot "bytearray" "__setitem__" "bytearray.__setitem__" :=
  .of (owner := "bytearray") (n := "__setitem__") (by rw [typeLookup_type, builtinLookup_eq_fast]; kernel_rfl) (by decide +kernel) (by decide +kernel) (by decide +kernel)
    (by first | exact .inl (by decide +kernel) | exact .inr (by decide +kernel)) (by rw [isSubtype_type]; kernel_rfl)
theorem entry_set : entryFor table "bytearray.__setitem__" = some Builtin.«bytearray.__setitem__» := entryFor_of_tree (by kernel_rfl)
theorem args_set (a b c : Value) : argsOk "bytearray.__setitem__" ⟨[a, b, c], []⟩ := by unfold argsOk; kernel_rfl
theorem noBytes : typeLookup (.type "bytearray") "__bytes__" = Pure.pure none := by rw [typeLookup_type, builtinLookup_eq_fast]; kernel_rfl
theorem noIndex : typeLookup (.type "bytearray") "__index__" = Pure.pure none := by rw [typeLookup_type, builtinLookup_eq_fast]; kernel_rfl
theorem look_buffer : typeLookup (.type "bytearray") "__buffer__" = Pure.pure (some (.builtin "bytearray.__buffer__")) := by rw [typeLookup_type, builtinLookup_eq_fast]; kernel_rfl
end BA
section
variable {prog : Program} {w : World} {A : Around} {E : Value → Shared → Prop} {s : Shared}
theorem ba_payload {M : Model} {a : Addr} {b : Array UInt8} {Q : Array UInt8 → Shared → Prop} (h : s.heap.get? a = some (baObj b)) (hQ : Q b s) : wpAny M A (Builtin.Bytes.payload (.ref a)) Q E s := by
  unfold Builtin.Bytes.payload Builtin.Bytes.payload?
  exact wpAny_bind (wpAny_bind (wpAny_load h (wpAny_pure (wpAny_pure hQ))))
/-- `b[k] = v` -/
theorem ba_setItem {a : Addr} {b : Array UInt8} {k v : Int} {t u : Tok} {Q : Unit → Shared → Prop} (h : s.heap.get? a = some (baObj b)) (h0 : 0 ≤ k) (h1 : k < b.size) (hz : b.size ≤ 1048576) (v0 : 0 ≤ v) (v1 : v < 256)
    (hQ : Q () { s with heap := s.heap.update a (Obj.mapBytearray (·.setIfInBounds k.toNat v.toNat.toUInt8)) }) :
    wpAny (model prog w) A (setItem (.ref a) (.int k t) (.int v u)) Q E s := by
  unfold setItem
  refine wpAny_holding ?_
  refine wpAny_bind (wpAny_sequenceKey (ba_typeIs h) (by decide) ?_)
  refine wpAny_bind (wpAny_callSpecial?_slot (name := Str.ofString "__setitem__") (ba_typeIs h) BA.slot_set
    (wpAny_call_entry BA.slot_set (ba_typeIs h) BA.entry_set ?_ (BA.args_set _ _ _)))
  unfold Builtin.«bytearray.__setitem__»
  dsimp only
  refine bm_if_false rfl ?_
  refine wpAny_bind ?_
  unfold Builtin.Bytes.subscript?
  refine wpAny_bind (wpAny_specialOf (typeIs_int s k t) F.slot_int_index.lookup ?_)
  have hf : (!Builtin.Bytes.fitsIndex k) = false := by
    simp only [Builtin.Bytes.fitsIndex, Bool.not_eq_false', Bool.and_eq_true, decide_eq_true_eq]; omega
  refine bm_if_false rfl ?_
  refine wpAny_bind (wpAny_of_eq (a := k) rfl ?_)
  refine bm_if_false hf ?_
  refine wpAny_pure ?_
  dsimp only
  have hv : Builtin.Bytes.byteValue (.int v u) = Pure.pure v.toNat.toUInt8 := by
    show (if (decide (v < 0) || decide (v ≥ 256)) = true then _ else _) = _
    rw [if_neg (by simp only [Bool.or_eq_true, decide_eq_true_eq]; omega)]
  refine wpAny_bind (wpAny_of_eq hv ?_)
  refine wpAny_bind (ba_payload h ?_)
  have hk : seqIndex? k b.size = some k.toNat := by
    have hn : ¬ k < 0 := by omega
    simp [seqIndex?, hn, h0, h1]
  rw [hk]
  dsimp only
  have hz2 : (b.setIfInBounds k.toNat v.toNat.toUInt8).size ≤ sizeLine := by rw [Array.size_setIfInBounds, sizeLine_eq]; omega
  refine wpAny_bind (ba_write h hz2 (wpAny_pure ⟨_, rfl, wpAny_pure hQ⟩))
theorem ba_own {M : Model} {a : Addr} {b : Array UInt8} {Q : Bool → Shared → Prop} (h : s.heap.get? a = some (baObj b)) (hQ : Q true s) : wpAny M A (Builtin.Bytes.slotIsOwn (.ref a) "__buffer__") Q E s := by
  unfold Builtin.Bytes.slotIsOwn
  refine wpAny_bind (wpAny_specialOf (ba_typeIs h) BA.look_buffer ?_)
  show wpAny M A (if (!"bytearray.__buffer__".endsWith ("." ++ "__buffer__")) = true then _ else _) _ _ _
  rw [show (!"bytearray.__buffer__".endsWith ("." ++ "__buffer__")) = false by decide +kernel]
  show wpAny M A (isInstance (.ref a) (.type ("bytearray.__buffer__".dropRight ("__buffer__".length + 1)))) _ _ _
  rw [show "bytearray.__buffer__".dropRight ("__buffer__".length + 1) = "bytearray" by decide +kernel]
  exact wpAny_isInstance (ba_typeIs h) BA.sub_self hQ
theorem ba_buffer {M : Model} {a : Addr} {b : Array UInt8} {id : String} {Q : Option (Array UInt8) → Shared → Prop} (h : s.heap.get? a = some (baObj b)) (hQ : Q (some b) s) : wpAny M A (Builtin.Bytes.buffer? id (.ref a) true) Q E s := by
  unfold Builtin.Bytes.buffer?
  refine wpAny_bind (wpAny_specialOf (ba_typeIs h) BA.look_buffer ?_)
  refine wpAny_bind (ba_own h ?_)
  refine bm_if_false rfl ?_
  refine wpAny_bind (wpAny_specialOf (ba_typeIs h) BA.look_buffer ?_)
  dsimp only
  refine wpAny_bind (ba_release h ?_)
  refine bm_if_false rfl ?_
  exact wpAny_bind (ba_payload h (wpAny_pure hQ))
/-- `bytes(b)` of a bytearray -/
theorem ba_bytes {a : Addr} {b : Array UInt8} {Q : Value → Shared → Prop} (h : s.heap.get? a = some (baObj b)) (hz : b.size ≤ 1048576)
    (hQ : ∀ t k, Q (.bytes b t) { s with toks := k }) : wpAny (model prog w) A (call (.type "bytes") [.ref a]) Q E s := by
  refine callType_codes (Q₁ := fun obj s₁ => s₁.TypeIs obj "bytes" ∧ Q obj s₁) F.bm_called (F.bm_typeCall _) F.entry_object_init ?_ fun obj s₁ h₁ =>
    ⟨h₁.1, F.args_object_init_2 obj _, object_init_meets F.bm_called.init.lookup F.bm_called.made (by decide) prog w A.in1 _ s₁ ⟨h₁.1, rfl, h₁.2⟩⟩
  refine codeAny_of_tree ?_
  show wpAny _ A.in1.in1 (do checkBuiltinCall "bytes.__new__" ⟨[.type "bytes", .ref a], []⟩; again (.builtin "bytes.__new__" ⟨[.type "bytes", .ref a], []⟩)) _ _ s
  refine wpAny_bind (wpAny_of_eq (F.bm_newCall _) (wpAny_pure ⟨plainId_quiet F.bm_plain _, codeAny_builtin F.bm_entry ?_⟩))
  rw [Around.under_plainId F.bm_plain _]
  have hT : s.TypeIs (.ref a) "bytearray" := ba_typeIs h
  unfold Builtin.«bytes.__new__»
  refine wpAny_bind (wpAny_of_eq (a := true) rfl ?_)
  refine bm_if_false rfl ?_
  refine wpAny_bind (wpAny_of_eq F.bm_sub ?_)
  refine bm_if_false rfl ?_
  refine wpAny_bind (wpAny_of_eq (F.bm_bind _) ?_)
  refine wpAny_bind (wpAny_of_eq (a := ()) rfl ?_)
  refine wpAny_bind (wpAny_of_eq (a := ()) rfl ?_)
  refine bm_if_false rfl ?_
  refine wpAny_bind (wpAny_specialOf hT BA.noBytes ?_)
  refine wpAny_bind (wpAny_bind ?_)
  show wpAny _ _ (load a >>= _) _ _ _
  refine wpAny_bind (wpAny_load h ?_)
  refine wpAny_pure (wpAny_pure ?_)
  refine bm_if_false rfl ?_
  refine wpAny_bind (wpAny_specialOf hT BA.noIndex ?_)
  refine bm_if_true rfl ?_
  refine wpAny_bind (ba_buffer h ?_)
  dsimp only
  refine wpAny_bind (wpAny_rule ?_)
  refine wpAny_bind (wpAny_mkBytes ?_ (by rw [sizeLine_eq]; omega))
  show wpAny _ _ (if (Value.type "bytes" == Value.type "bytes") = true then _ else _) _ _ _
  refine bm_if_true (by decide) ?_
  first
    | exact wpAny_pure ⟨typeIs_bytes _ _ _, hQ _ _⟩
    | exact wpAny_bind (wpAny_pure (wpAny_pure ⟨typeIs_bytes _ _ _, hQ _ _⟩))
end
end Mine
namespace Mine
open PySem.Spec PySem.Calls
open Sem (wp)
theorem caller_cl : Cl (⟨.builtin "claim.caller" {}, none, none, [], none⟩ : PySem.Ctx) := ⟨dec_of (by decide +kernel), fun _ hx => nomatch hx⟩
theorem thread_endsC {prog : Program} {w : World} {t : Sem Fin} {s : Shared} {R : Result → Shared → Prop} (hreg : s.asleep)
    (h : wpC (model prog w) callerA t (fun fin s' => ∃ f, fin = .done f ∧ (R (.ok f) s' ∧ leftWithCleanup s'.gens = false)) s) :
    ∃ n r s' s'', runN (denote table) prog w n s ⟨t, .builtin "claim.caller" {}, default, []⟩ = .halted (outcomeOf r) s' ∧
      schedN (denote table) prog w n (.single s ⟨t, .builtin "claim.caller" {}, default, []⟩) = .halted (outcomeOf r) s' ∧ s'.forget = s''.forget ∧ R r s'' := by
  have h1 : wp (model prog w) ⟨.builtin "claim.caller" {}, none, none, [], none⟩ t
      (Sem.finPost (model prog w) ⟨.builtin "claim.caller" {}, none, none, [], none⟩ fun r s' => R r s' ∧ leftWithCleanup s'.gens = false) (fun e _ s' => R (.error e) s' ∧ leftWithCleanup s'.gens = false) default s := by
    refine Sem.wp_mono _ _ t (fun fin p' s' h' => ?_) (fun _ _ _ h' => h'.elim) _ s (h _ default caller_in caller_cl)
    obtain ⟨f, rfl, hf⟩ := h'
    exact hf
  obtain ⟨n, r, s₁, s₂, hs, hn, hfo, hR⟩ := wp_halts_full (M := model prog w) (R := R) hreg h1
  exact ⟨n, r, s₂, s₁, hn, hs, hfo, hR⟩
/-- the claim's call, shown at the caller's own context -/
theorem callFromC {c : ClaimW} {tree : List Value → Sem Fin} {w : World} {s : Shared} {free : Addr → Prop} {gens : Prop} {kept : Heap → Prop} (hz : s.asleep) (hgens : s.gens = #[])
    (hspec : ∀ args, c.pre args = true → WData.layableAll args = true → ∀ ord : List DictEntry → List DictEntry, (∀ l, (ord l).Perm l) →
      ∃ vs s₁, layAllW c.records (classAt s.heap) w.params ord args s = some (vs, s₁) ∧
        wpC (model c.prog w) callerA (tree vs) (fun fin s' => ∃ f, fin = .done f ∧ (c.Ends s args vs s₁ (.ok f) s' ∧ s'.os = s.os ∧ AllBare s'.gens ∧ kept s'.heap)) s₁) :
    c.CallFrom (fun vs => ⟨tree vs, .builtin "claim.caller" {}, default, []⟩) w free gens kept s := by
  intro args hpre hlay ord hord
  obtain ⟨vs, s₁, hlaid, hcode⟩ := hspec args hpre hlay ord hord
  have hal := layAllW_rest _ _ _ hlaid
  obtain ⟨k, r, s', s'', hrun, hsched, hfo, hcase, hos, hkp⟩ := thread_endsC (prog := c.prog) (w := w) (t := tree vs) (s := s₁)
    (R := fun r s' => c.Ends s args vs s₁ r s' ∧ s'.os = s.os ∧ kept s'.heap) (Shared.asleep_of_life hal.2.2.2 hz)
    (.mono hcode (by
      rintro fin s' ⟨f, e, h1, h2, h3, h4⟩
      exact ⟨f, e, ⟨h1, h2, h4⟩, leftWithCleanup_false_of_bare h3⟩))
  obtain ⟨eh, _, _, eo, _⟩ := Shared.forget_eq hfo
  have hcase := hcase.congr eh
  have hkp : kept s'.heap := by first | exact eh ▸ hkp | (rw [eh] at hkp; exact hkp) | (rw [← eh] at hkp; exact hkp)
  rw [← eo] at hos
  have hlife : s'.heap.life = s.heap.life := (runN_life _ _ _ hrun).trans hal.2.2.2
  refine ⟨vs, s₁, hlaid, k, _, s', hsched, ?_, (fun _ i x hx => by rw [hgens] at hx; simp at hx), hkp, by rw [hlife], Shared.rest_eq hos⟩
  rcases hcase with ⟨v, rfl, d1, d2, d3, d4, d5⟩ | ⟨e, ob, cls, rfl, d1, d2, d3, d4, d5⟩
  · exact .inl ⟨v, rfl, d1, d2, d3, fun b o y _ => d4 b o y, d5⟩
  · exact .inr ⟨e, ob, cls, rfl, d1, d2, d3, d4, fun b o y _ => d5 b o y⟩
/-- a row over an open top, its call shown at the caller's own context -/
theorem rowC {r : OpenRow} {q : Program} {loose : List Str} {Xt : Shared → Bool} {XP : (Str → Option Value) → Heap → Prop} {α : Type} {Yf : Shared → α} {Ya : World → α} {YP : World → Heap → Prop} {d : DefRec} {kwd : List (Str × Expr)} {N : Nat}
    (left : LeftO r.prog q loose Xt Yf Ya N) (hY : ∀ w s, Yf s = Ya w → YP w s.heap) (hYk : ∀ w h h', YP w h → (∀ b o, h.get? b = some o → h'.get? b = some o) → YP w h')
    (hX : ∀ s, Xt s = true → XP (s.heap.nsMap mainGlobals) s.heap) (hXk : ∀ mg h h', XP mg h → (∀ b o, h.get? b = some o → h'.get? b = some o) → XP mg h')
    (hdef : defOf q r.name = some (d, kwd)) (hp : r.prog.theDef r.name = some (d.params, d.body, d.scope)) (hk : kwWritten? d.params.kwonlyargs d.params.kw_defaults = some kwd) (hRf : ∀ s, Xt s = true → RecFacts r.records s.heap) (hwr : (!r.writes || r.records.isEmpty) = true)
    (k1 : r.wellSaid = true) (ok : (chainsOk q && opensWell r.prog && (frees r.toRowW && r.within.isEmpty)) = true) (hb : r.prog.bare) (hw : r.toRowW.promised)
    (call : ∀ (w : World) (s₀ s₁ : Shared) (mg mb : Str → Option Value), Ground q loose r.records XP w s₀ mg mb s₁.heap → YP w s₁.heap → ∀ (a : Addr), mg d.name = some (.ref a) → s₁.gens = #[] →
      ∀ (args : List WData) (vals : List Value) (as : List Addr), r.claim.pre args = true → WData.layableAll args = true → ReadsAllW r.records (classAt s₀.heap) s₁.heap vals args as → WellAll w.params s₁.heap vals args → (∀ a ∈ as, (a == sysModules) = false) →
        wpC (model r.prog w) callerA (PySem.call (.ref a) vals) (fun v s' => GoodWG r.claim (classAt s₀.heap) (ExcName.means s₀.heap) args s₁ (.ok (.ret v)) s') s₁) : r.Holds := by
  refine ⟨k1, hw, ?_⟩
  obtain ⟨ok, k5⟩ := Bool.and_eq_true_iff.mp ok
  obtain ⟨hch, o1⟩ := Bool.and_eq_true_iff.mp ok
  obtain ⟨k5, k6⟩ := Bool.and_eq_true_iff.mp k5
  obtain ⟨hsame, hu, ha, hap, hm⟩ := frees_parts k5
  refine ⟨⟨hb, o1, by show r.makers.map _ = []; rw [hm]; rfl⟩, hw.witness, fun w => ⟨(left.behind hX hch w).1, fun s' hs' => ?_⟩⟩
  obtain ⟨s₀, hf, hg0, s, hT, hz, hgens, hg, G00, y⟩ := (left.behind (XP := fun mg h => XP mg h ∧ RecFacts r.records h) (fun s hs => ⟨hX s hs, hRf s hs⟩) hch w).2 s' hs'
  have G0 : Ground q loose [] XP w s (s.heap.nsMap mainGlobals) (s.heap.nsMap builtinsNs) s.heap := ⟨G00.T, G00.B, G00.D, G00.TE, G00.TD, G00.W, G00.X.1, G00.cls, G00.has, G00.apart, G00.once, G00.K⟩
  have RF := G00.X.2
  have hT' := hT
  refine ⟨s₀, hf, hg0, s, hT, fun n hn => ?_, RF.1, RF.2.1, ?_⟩
  · obtain rfl : n = r.name := by split at hn <;> simp_all
    exact pinned_of_view hg G0 hdef hp hk
  have hgens : s.gens = #[] := Array.eq_empty_of_size_eq_zero (beq_iff_eq.mp hgens)
  have G : Ground q loose r.records XP w s _ _ s.heap := RF.ground G0
  refine callFromC (c := r.claim) hz hgens fun args hpre hlay ord hord => ?_
  obtain ⟨⟨vs, s₁⟩, hlaid⟩ := Option.isSome_iff_exists.mp (layAllW_isSome (P := w.params) (ord := ord) G.has args r.args s (pre_splitW hpre).1)
  have keeps := layAllW_keeps _ _ _ hlaid
  have hal := layAllW_rest _ _ _ hlaid
  obtain ⟨as, hrd, hin, hold⟩ := reads_layAllW hord _ _ _ hlaid hlay s₁.heap (fun _ _ e => e)
  have L : Laid r.records w s s₁ args vs as := ⟨⟨ord, hord, hlaid⟩, hrd, hin, hold, keeps, hal.1.trans hgens, hal.2.2.1⟩
  have G₁ := G.keeps hXk keeps
  obtain ⟨a, o, pm, cd, doc, dV, kV, h1, h2, h3, h4, h5⟩ := G₁.fn hdef
  have hi := ident_freeW hu ha hap
  have hwi : r.claim.within = [] := List.isEmpty_iff.mp k6
  have low := G.low
  have hc := call w s s₁ _ _ G₁ (hYk _ _ _ (hY w s y) keeps) a (defOf_name hdef ▸ h1) L.gens args vs as hpre hlay L.reads L.well (L.low low)
  refine ⟨vs, s₁, hlaid, .bindAny (wpAny_nsGet G₁.T.g ?_)⟩
  rw [h1]
  refine .bind (.mono hc fun v s' g => .pure ⟨_, rfl, ?_⟩)
  have z := g.laid (c := r.claim) hsame hwi hi L
  exact ⟨z.1, z.2.1, z.2.2, fun q => ⟨namesKept_of hT' hg _ keeps g.2.1.old, noTable hwr q⟩⟩
end Mine
namespace Mine
open Sem (wp)
def Kept (h h' : Heap) : Prop := ∀ b o, h.get? b = some o → h'.get? b = some o
/-- what a loop keeps between its turns: the ledger, the named names, the others as they were; `P` of the turn's number -/
def KS {σ : Type} (Led : σ → List (Addr × Obj)) (ps : σ → List (Str × Value)) (x : Str) (stored : List Str) (m₀ : Str → Option Value) (P : σ → Prop) (m : Str → Option Value) (nx : List (Addr × Obj)) : Prop :=
  ∃ c : σ, nx = Led c ∧ (∀ p ∈ ps c, m p.1 = some p.2) ∧ (∀ z, z ≠ x → (∀ p ∈ ps c, z ≠ p.1) → stored.contains z = false → m z = m₀ z) ∧ P c
section
variable {prog : Program} {w : World} {A : Around} {E : Value → Shared → Prop} {s : Shared} {env : Env} {h₀ : Heap} {x : Str} {body : List Stmt} {Q : Flow → Shared → Prop}
theorem ks_end {σ : Type} {Led : σ → List (Addr × Obj)} {ps : σ → List (Str × Value)} {stored : List Str} {m₀ : Str → Option Value} {P : σ → Prop} (c : σ) {L : Addr} {m' : Str → Option Value} {own news' : List (Addr × Obj)} {adr : List Addr} {s₁ : Shared} {h' : Heap} {tk : Nat}
    (F : Fr h₀ L h' m') (N : News h₀ L h' news') (hn : ∀ p ∈ Led c, p ∈ news') (ho : ∀ p ∈ own, p ∈ news') (ha : (Led c).map (·.1) = adr) (hk : ∀ p ∈ ps c, m' p.1 = some p.2) (hr : ∀ z, z ≠ x → (∀ p ∈ ps c, z ≠ p.1) → stored.contains z = false → m' z = m₀ z) (hp : P c) :
    InvEndN h₀ L (KS Led ps x stored m₀ P) own adr s₁ { s₁ with heap := h', toks := tk } :=
  InvEndN.intro F N ⟨c, rfl, hk, hr, hp⟩ ha hn ho
/-- a for over a range of any step -/
theorem ks_range {σ : Type} {r : Addr} {a₀ b₀ st : Int} {t₀ u₀ v₀ : Tok} {n : Nat} {m₀ : Str → Option Value} (Led : σ → List (Addr × Obj)) (ps : σ → List (Str × Value)) (stored : List Str) (P : Nat → σ → Prop) (c₀ : σ)
    (hh : A.handled = none) (hr : IsRange s.heap r a₀ b₀ st t₀ u₀ v₀) (hsmall : Builtin.Range.small a₀ b₀ st = true) (hn : Builtin.Range.rangeSize a₀ b₀ st = (n : Int)) (F : Fr h₀ env.locals s.heap m₀) (N : News h₀ env.locals s.heap (Led c₀)) (hk : ∀ p ∈ ps c₀, m₀ p.1 = some p.2) (hp : P 0 c₀)
    (turn : ∀ (c : σ) (i : Nat) t (u : Str → Option Value) h tk own, i < n → OwnOff own ((Led c₀).map (·.1)) → P i c →
      Fr h₀ env.locals h (fun y => if y = x then some (.int (a₀ + i * st) t) else kstB (fun z => if stored.contains z then u z else m₀ z) (ps c) y) → News h₀ env.locals h (Led c ++ own) →
      wpAny (model prog w) A (execs body env) (InvPostN h₀ env.locals (KS Led ps x stored m₀ (P (i + 1))) own ((Led c₀).map (·.1)) { s with heap := h, toks := tk } Q) E { s with heap := h, toks := tk })
    (done : ∀ (c : σ) (u : Str → Option Value) h tk, P n c → Fr h₀ env.locals h (fun y => if y = x then u y else kstB (fun z => if stored.contains z then u z else m₀ z) (ps c) y) → News h₀ env.locals h (Led c) → Q .next { s with heap := h, toks := tk }) :
    wpAny (model prog w) A (pyIter (.ref r)) (fun it s₂ => LoopAtV prog w A h₀ env x body Q E it s₂) E s := by
  refine wpAny_pyIter_range hr hsmall ?_
  have W : Walks prog w A s.heap.objs.size [s.heap.objs.size] [s.heap.objs.size] n (fun i v => i < n ∧ ∃ t, v = .int (a₀ + i * st) t)
      (fun i h => IsRangeIter h s.heap.objs.size (a₀ + (i : Nat) * st) ((n : Int) - (i : Nat)) st) := (Walks.range hh _ a₀ st n).bound
  refine loop_invN (fun i m nx => KS Led ps x stored m₀ (P i) m nx) W ?_ ?_ ?_ ?_ (by show IsRangeIter _ _ _ _ _; rw [hn]; simpa using Heap.get?_push_size _ rfl) (F.push _) (fun p hp => ⟨Heap.get?_push_of_some _ (N p hp).1, (N p hp).2⟩) ⟨c₀, rfl, hk, fun _ _ _ _ => rfl, hp⟩ ?_ ?_
  · intro hm
    exact absurd F.ns.lt ((List.mem_singleton.mp hm) ▸ Nat.lt_irrefl _)
  · intro b hb
    rw [List.mem_singleton.mp hb]
    exact next_is_new F
  · intro p hp hI
    exact absurd (Heap.lt_size (N p hp).1) ((List.mem_singleton.mp hI) ▸ Nat.lt_irrefl _)
  · intro p hp hI
    exact absurd (Heap.lt_size (N p hp).1) ((List.mem_singleton.mp hI) ▸ Nat.lt_irrefl _)
  · rintro i v m₁ nx h tk own hi ⟨_, t, rfl⟩ _ hoff ⟨c, rfl, h1, h2, hp'⟩ F₁ N₁
    exact turn c i t m₁ h tk own hi hoff hp' (kst_fr h1 h2 F₁) N₁
  · rintro m₁ nx h tk ⟨c, rfl, h1, h2, hp'⟩ F₁ N₁
    exact done c m₁ h tk hp' (kst_frOut h1 h2 F₁) N₁
end
section
variable {M : Model} {A : Around} {s : Shared} {env : Env} {pos : Pos} {Q : Value → Shared → Prop} {e : Expr} {rest : List Expr}
/-- a built-in class called on the spine -/
theorem wpC.callT {T : String} (h : wpC M A (spliced (backTo pos (starEach (e :: rest) env))) (fun vs s₁ => wpC M A (PySem.call (.type T) vs) Q s₁) s)
    (he : starEach (e :: rest) env = (false, eval e env) :: starEach rest env := by rfl) (hplain : (backTo pos (starEach rest env)).any (·.1) = false := by rfl) :
    wpC M A (PySem.callWith pos (.type T) [] (backTo pos (starEach (e :: rest) env)) []) Q s := by
  rw [he] at h ⊢
  exact .callWithT (by show (false || (backTo pos (starEach rest env)).any (·.1)) = false; rw [hplain]; rfl) (.evalArgs h)
/-- a def of the text called on the spine -/
theorem wpC.callF {K : Frag} {f : Value} (hk : keepIn K f = true) (h : wpC M A (spliced (backTo pos (starEach (e :: rest) env))) (fun vs s₁ => K.In s₁.heap ∧ wpC M A (PySem.call f vs) Q s₁) s)
    (he : starEach (e :: rest) env = (false, eval e env) :: starEach rest env := by rfl) (hplain : (backTo pos (starEach rest env)).any (·.1) = false := by rfl) :
    wpC M A (PySem.callWith pos f [] (backTo pos (starEach (e :: rest) env)) []) Q s := by
  rw [he] at h ⊢
  exact .callWith (P := fun h => K.In h) (by show (false || (backTo pos (starEach rest env)).any (·.1)) = false; rw [hplain]; rfl) (keeps_K hk) (.evalArgs h)
end
section
variable {h₀ h : Heap} {L : Addr} {m : Str → Option Value} {news : List (Addr × Obj)}
theorem fr_kept {h' : Heap} (F : Fr h₀ L h m) (k : Kept h h') : Fr h₀ L h' m := F.keeps k
theorem news_kept {h' : Heap} (N : News h₀ L h news) (k : Kept h h') : News h₀ L h' news := fun q hq => ⟨k _ _ (N q hq).1, (N q hq).2⟩
theorem fr_kept' (F : Fr h₀ L h m) : Kept h₀ h := F.keep
/-- a new object onto the ledger -/
theorem news_more {h' : Heap} {r : Addr} {o : Obj} (F : Fr h₀ L h m) (N : News h₀ L h news) (k : Kept h h') (hr : h'.get? r = some o) (hn : h.get? r = none) : News h₀ L h' ((r, o) :: news) := by
  intro q hq
  rcases List.mem_cons.mp hq with rfl | hq
  · refine ⟨hr, fun e => ?_, ?_⟩
    · obtain ⟨oL, _, _, hL, _⟩ := F.ns
      have e' : r = L := e
      rw [e', hL] at hn; cases hn
    · show h₀.get? r = none
      cases hq : h₀.get? r with
      | none => rfl
      | some o' => rw [F.keep _ _ hq] at hn; cases hn
  · exact ⟨k _ _ (N q hq).1, (N q hq).2⟩
theorem get_size (h : Heap) : h.get? h.objs.size = none := by
  cases e : h.get? h.objs.size with
  | none => rfl
  | some o => exact absurd (Heap.lt_size e) (Nat.lt_irrefl _)
end
section
variable {prog : Program} {w : World} {A : Around} {E : Value → Shared → Prop} {s : Shared} {h₀ : Heap} {L D : Addr} {m : Str → Option Value} {news news' : List (Addr × Obj)} {b : Array UInt8} {k v : Int} {t u : Tok}
theorem ba_set_K {Q : Unit → Shared → Prop} (F : Fr h₀ L s.heap m) (N : News h₀ L s.heap news) (U : Upd D (baObj b) (baObj (b.setIfInBounds k.toNat v.toNat.toUInt8)) news news') (h0 : 0 ≤ k) (h1 : k < b.size) (hz : b.size ≤ 1048576) (v0 : 0 ≤ v) (v1 : v < 256)
    (h : ∀ h', Fr h₀ L h' m → News h₀ L h' news' → Q () { s with heap := h' }) : wpAny (model prog w) A (setItem (.ref D) (.int k t) (.int v u)) Q E s := by
  obtain ⟨pre, post, rfl, rfl, a, c⟩ := U.split
  have z := N (D, baObj b) (List.mem_append.mpr (.inr (.head _)))
  have nu := news_upd (f := Obj.mapBytearray (·.setIfInBounds k.toNat v.toNat.toUInt8)) (o' := baObj (b.setIfInBounds k.toNat v.toNat.toUInt8)) F N a c rfl rfl
  exact ba_setItem z.1 h0 h1 hz v0 v1 (h _ nu.1 nu.2)
theorem ba_bytes_K {Q : Value → Shared → Prop} (N : News h₀ L s.heap news) (hm : (D, baObj b) ∈ news) (hz : b.size ≤ 1048576) (hQ : ∀ t k, Q (.bytes b t) { s with toks := k }) : wpAny (model prog w) A (call (.type "bytes") [.ref D]) Q E s :=
  ba_bytes (N _ hm).1 hz hQ
end
/-! ## what `_byteswap` lays -/
def swp (l : List UInt8) (wd : Nat) : List UInt8 := (List.range l.length).map fun p => l.getD (p / wd * wd + (wd - 1 - p % wd)) 0
theorem swp_length (l : List UInt8) (wd : Nat) : (swp l wd).length = l.length := by simp [swp]
/-- the turns so far: the words ahead of word i are laid, and the last j octets of word i -/
def Laid1 (l : List UInt8) (wd i j : Nat) (b : Array UInt8) : Prop :=
  b.size = l.length ∧ (∀ p, p < i * wd → b.getD p 0 = l.getD (p / wd * wd + (wd - 1 - p % wd)) 0) ∧ ∀ q, wd - j ≤ q → q < wd → b.getD (i * wd + q) 0 = l.getD (i * wd + (wd - 1 - q)) 0
theorem Laid1.zero (l : List UInt8) (wd : Nat) : Laid1 l wd 0 0 (Array.replicate ((l.length : Nat) : Int).toNat 0) := by
  refine ⟨by simp, fun p hp => by omega, fun q h1 h2 => by omega⟩
theorem getD_set {b : Array UInt8} {k p : Nat} {v : UInt8} (hk : k < b.size) : (b.setIfInBounds k v).getD p 0 = if p = k then v else b.getD p 0 := by
  rw [Array.getD_eq_getD_getElem?, Array.getD_eq_getD_getElem?, Array.getElem?_setIfInBounds]
  by_cases h : k = p
  · subst h; simp [hk]
  · rw [if_neg h, if_neg (Ne.symm h)]
theorem Laid1.step {l : List UInt8} {wd i j : Nat} {b : Array UInt8} (h : Laid1 l wd i j b) (hj : j < wd) (hi : (i + 1) * wd ≤ l.length) :
    Laid1 l wd i (j + 1) (b.setIfInBounds (i * wd + wd - 1 - j) (l.getD (i * wd + j) 0)) := by
  obtain ⟨h1, h2, h3⟩ := h
  have e : (i + 1) * wd = i * wd + wd := by rw [Nat.add_mul, Nat.one_mul]
  have hk : i * wd + wd - 1 - j < b.size := by omega
  refine ⟨by simpa using h1, fun p hp => ?_, fun q q1 q2 => ?_⟩
  · rw [getD_set hk, if_neg (by omega)]
    exact h2 p hp
  · rw [getD_set hk]
    by_cases hq : q = wd - 1 - j
    · rw [if_pos (by omega)]
      congr 1
      omega
    · rw [if_neg (by omega)]
      exact h3 q (by omega) q2
theorem Laid1.next {l : List UInt8} {wd i : Nat} {b : Array UInt8} (h : Laid1 l wd i wd b) (hw : 0 < wd) : Laid1 l wd (i + 1) 0 b := by
  obtain ⟨h1, h2, h3⟩ := h
  refine ⟨h1, fun p hp => ?_, fun q h1 h2 => by omega⟩
  by_cases hlt : p < i * wd
  · exact h2 p hlt
  · have e : (i + 1) * wd = i * wd + wd := by rw [Nat.add_mul, Nat.one_mul]
    have hd : p / wd = i := by
      have h4 : p = (p - i * wd) + i * wd := by omega
      rw [h4, Nat.add_mul_div_right _ _ hw, Nat.div_eq_of_lt (by omega)]
      omega
    have hm : p % wd = p - i * wd := by
      have h5 := Nat.div_add_mod p wd
      rw [hd, Nat.mul_comm] at h5
      omega
    rw [hd, hm]
    have h6 := h3 (p - i * wd) (by omega) (by omega)
    have h7 : i * wd + (p - i * wd) = p := by omega
    rw [h7] at h6
    exact h6
theorem Laid1.whole {l : List UInt8} {wd n : Nat} {b : Array UInt8} (h : Laid1 l wd n 0 b) (hn : n * wd = l.length) : b = (swp l wd).toArray := by
  obtain ⟨h1, h2, _⟩ := h
  apply Array.ext
  · simp [swp, h1]
  · intro i hi hi2
    have h3 := h2 i (by omega)
    rw [Array.getD_eq_getD_getElem?, Array.getElem?_eq_getElem hi] at h3
    simp only [Option.getD_some] at h3
    rw [h3]
    simp [swp]
/-! ## ranges -/
theorem size_step {n wd : Nat} (hw : 0 < wd) : Builtin.Range.rangeSize 0 ((n * wd : Nat) : Int) (wd : Int) = (n : Int) := by
  unfold Builtin.Range.rangeSize
  rw [if_pos (by omega)]
  by_cases h0 : n = 0
  · subst h0; simp
  · have hp : 0 < n * wd := Nat.mul_pos (Nat.pos_of_ne_zero h0) hw
    rw [if_pos (by omega)]
    have e : (((n * wd : Nat) : Int) - 0 - 1) / (wd : Int) = (n : Int) - 1 := by
      have e1 : (((n * wd : Nat) : Int) - 0 - 1) = ((wd : Int) - 1) + ((n : Int) - 1) * (wd : Int) := by
        rw [Int.sub_mul]; push_cast; omega
      rw [e1, Int.add_mul_ediv_right _ _ (by omega), Int.ediv_eq_zero_of_lt (by omega) (by omega)]
      omega
    rw [e]; omega
theorem small_step {a b c : Int} (h1 : 0 ≤ a) (h2 : a ≤ 1048576) (h3 : 0 ≤ b) (h4 : b ≤ 1048576) (h5 : 0 < c) (h6 : c ≤ 1048576) : Builtin.Range.small a b c = true := by
  have hs : 0 ≤ Builtin.Range.rangeSize a b c ∧ Builtin.Range.rangeSize a b c ≤ 1048577 := by
    unfold Builtin.Range.rangeSize
    rw [if_pos (by omega)]
    split
    · have h7 : 0 ≤ (b - a - 1) / c := Int.ediv_nonneg (by omega) (by omega)
      have h8 : (b - a - 1) / c ≤ b - a - 1 := Int.ediv_le_self _ (by omega)
      omega
    · omega
  unfold Builtin.Range.small
  simp only [Builtin.Range.rangeFitsLong, Bool.and_eq_true, Bool.or_eq_true, decide_eq_true_eq, beq_iff_eq, show c > 0 from h5, if_true]
  omega
end Mine
namespace Mine
open Sem (wp)
section
variable {prog : Program} {w : World} {A : Around} {s : Shared} {K : Frag} {R : Result → Shared → Prop} {name qual : Str} {params : Arguments} {body : List Stmt} {scope : Scope} {dV kV doc pm cdv ct oc : Value} {an od : Option Addr} {osl : Array (Option Value)} {f : Addr} {args : Args} {binds : List (Str × Value)}
/-- a call of a def of the text, some of whose names a comprehension captures -/
theorem enterX (X : K.In s.heap) (hlim : s.heap.NoLimit)
    (ho : K.lookup f = some ⟨oc, od, .func (fnOf name qual params body scope dV kV doc pm an cdv ct), osl⟩) (hcd : codeIn K cdv qual = true) (hroom : A.depth < recursionLimit)
    (hbind : BindsTo s (fnOf name qual params body scope dV kV doc pm an cdv ct) args binds) (hkind : (binds.all fun y => scope.names.lookup y.1 == some .local || scope.names.lookup y.1 == some .cell) = true)
    (hnd : ((cellsFrom 0 scope.names []).map (·.1)).Nodup)
    (h : ∀ L h₁ tk cells, Fr s.heap L h₁ (bindL (envOfC qual scope L f cdv).kindOf binds fun _ => none) → News s.heap L h₁ cells →
      CellsAre (bindC (envOfC qual scope L f cdv).kindOf binds fun _ => none) (cellsFrom (L + 1) scope.names []) cells →
      wpAny (model prog w) (A.deeper (envOfC qual scope L f cdv)) (execs body (envOfC qual scope L f cdv))
        (fun fl s' => R (.ok (.ret (match fl with | .ret v => v | _ => .none))) s') (fun _ _ => False) { s with heap := h₁, toks := tk })
    (hco : scope.isCoroutine = false := by rfl) (hgen : scope.isGenerator = false := by rfl) (hk : scope.kind = .function := by rfl) : codeAny (model prog w) A (.call (.ref f) args) R s := by
  refine codeAny_call_function (fd := fnOf name qual params body scope dV kV doc pm an cdv ct) hroom (X _ _ ho) rfl hco hgen rfl (codeRec_of X hcd) (hbind _ _ _ _ ?_)
  refine wpAny_newFunctionEnv_cells hk (kindsX hkind _) fun env' he s' x => ?_
  subst he
  refine ⟨hlim.keeps x.toInCall.keep, codeAny_func ?_⟩
  obtain ⟨h₁, tk, rfl, _⟩ := x.done
  have hk₁ := x.toInCall.keep
  obtain ⟨cells, NC, Y⟩ := PyProof.Rows.Cl.news (h₀ := s.heap) (Nat.le_refl _) fun n c hm => ⟨x.cell n c (lookup_of_mem_nodup (cellsFrom_names scope.names 0 (s.heap.objs.size + 1) [] [] rfl ▸ hnd) hm), x.above n c hm⟩
  exact wpAny_mono (h s.heap.objs.size h₁ tk cells ⟨x.toInCall.ns, hk₁, Nat.le_refl _⟩ NC Y) (fun _ _ x => x) fun _ _ x => x.elim
theorem enterXC (X : K.In s.heap) (hlim : s.heap.NoLimit)
    (ho : K.lookup f = some ⟨oc, od, .func (fnOf name qual params body scope dV kV doc pm an cdv ct), osl⟩) (hcd : codeIn K cdv qual = true) (hroom : A.depth < recursionLimit)
    (hbind : BindsTo s (fnOf name qual params body scope dV kV doc pm an cdv ct) args binds) (hkind : (binds.all fun y => scope.names.lookup y.1 == some .local || scope.names.lookup y.1 == some .cell) = true)
    (hnd : ((cellsFrom 0 scope.names []).map (·.1)).Nodup)
    (h : ∀ L h₁ tk cells, Fr s.heap L h₁ (bindL (envOfC qual scope L f cdv).kindOf binds fun _ => none) → News s.heap L h₁ cells →
      CellsAre (bindC (envOfC qual scope L f cdv).kindOf binds fun _ => none) (cellsFrom (L + 1) scope.names []) cells →
      wpC (model prog w) (A.deeper (envOfC qual scope L f cdv)) (execs body (envOfC qual scope L f cdv))
        (fun fl s' => R (.ok (.ret (match fl with | .ret v => v | _ => .none))) s') { s with heap := h₁, toks := tk })
    (hco : scope.isCoroutine = false := by rfl) (hgen : scope.isGenerator = false := by rfl) (hk : scope.kind = .function := by rfl) : codeC (model prog w) A (.call (.ref f) args) R s := by
  refine codeC.call_function (fd := fnOf name qual params body scope dV kV doc pm an cdv ct) hroom (X _ _ ho) rfl hco hgen rfl (codeRec_of X hcd) (hbind _ _ _ _ ?_)
  refine wpAny_newFunctionEnv_cells hk (kindsX hkind _) fun env' he s' x => ?_
  subst he
  refine ⟨hlim.keeps x.toInCall.keep, codeC.func ?_⟩
  obtain ⟨h₁, tk, rfl, _⟩ := x.done
  have hk₁ := x.toInCall.keep
  obtain ⟨cells, NC, Y⟩ := PyProof.Rows.Cl.news (h₀ := s.heap) (Nat.le_refl _) fun n c hm => ⟨x.cell n c (lookup_of_mem_nodup (cellsFrom_names scope.names 0 (s.heap.objs.size + 1) [] [] rfl ▸ hnd) hm), x.above n c hm⟩
  exact h s.heap.objs.size h₁ tk cells ⟨x.toInCall.ns, hk₁, Nat.le_refl _⟩ NC Y
end
section
variable {h₀ h h' : Heap} {L r : Addr} {m : Str → Option Value} {news : List (Addr × Obj)} {o : Obj}
theorem news_ne (N : News h₀ L h news) (hn : h.get? r = none) : ∀ p ∈ news, p.1 ≠ r := fun p hp e => by
  have := (N p hp).1
  rw [e, hn] at this
  cases this
end
abbrev lst (vs : List Value) : Obj := listOf vs.toArray 0
end Mine
namespace Mine
open Sem (wp)
/-- where a turn on the spine goes on -/
def TurnC (h₀ : Heap) (L I : Addr) (oI : Obj) (s : Shared) (J : (Str → Option Value) → List (Addr × Obj) → Prop) (R : Result → Shared → Prop) (f : Flow) (s₃ : Shared) : Prop :=
  match f with
  | .ret v => R (.ok (.ret v)) s₃
  | .brk => R (.ok .next) s₃
  | _ => ∃ h' tk' m' nx' news', s₃ = { s with heap := h', toks := tk' } ∧ Fr h₀ L h' m' ∧ News h₀ L h' news' ∧ (I, oI) ∈ news' ∧ (∀ p ∈ nx', p ∈ news') ∧ (∀ p ∈ nx', p.1 ≠ I) ∧ J m' nx'
section
variable {prog : Program} {w : World} {A : Around} {s : Shared} {env : Env} {h₀ : Heap} {x : Str} {px : Pos} {body : List Stmt} {R : Result → Shared → Prop} {m₀ : Str → Option Value} {nx₀ : List (Addr × Obj)}
/-- a for over a list, its turns on the spine -/
theorem for_listC {l : Addr} {items : Array Value} (J : Nat → (Str → Option Value) → List (Addr × Obj) → Prop) (hh : A.handled = none) (hx : env.kindOf x = some .local)
    (hp : (env.scope.kind == .class || (env.scope.kind == .module && env.locals != env.globals)) = false)
    (hsrc : h₀.IsList l items ∨ ∀ i m nx, J i m nx → ∃ c, (l, listOf items c) ∈ nx) (F : Fr h₀ env.locals s.heap m₀) (N : News h₀ env.locals s.heap nx₀) (hJ : J 0 m₀ nx₀)
    (turn : ∀ i v m nx h tk I oI, items[i]? = some v → J i m nx → (∀ p ∈ nx, p.1 ≠ I) → Fr h₀ env.locals h (fun y => if y = x then some v else m y) → News h₀ env.locals h ((I, oI) :: nx) →
      wpC (model prog w) A (execs body env) (TurnC h₀ env.locals I oI s (J (i + 1)) R) { s with heap := h, toks := tk })
    (done : ∀ m nx h tk, J items.size m nx → Fr h₀ env.locals h m → News h₀ env.locals h nx → R (.ok .next) { s with heap := h, toks := tk }) :
    wpAny (model prog w) A (pyIter (.ref l)) (fun it s₂ => codeC (model prog w) A (.forLoop (.Name x px) it body [] env) R s₂) No s := by
  have src : ∀ i m nx h, J i m nx → Fr h₀ env.locals h m → News h₀ env.locals h nx → h.IsList l items := fun i m nx h j f n => by
    rcases hsrc with a | b
    · exact stays_list f.keep a
    · obtain ⟨c, hc⟩ := b i m nx j
      exact ⟨_, (n _ hc).1, rfl, c, rfl⟩
  refine wpAny_pyIter_list (src 0 _ _ _ hJ F N) ?_
  have hIn : s.heap.get? s.heap.objs.size = none := get_size _
  have hI₀ : h₀.get? s.heap.objs.size = none := next_is_new F
  have hIL : s.heap.objs.size ≠ env.locals := Nat.ne_of_gt F.ns.lt
  generalize hI : s.heap.objs.size = I at hIn hI₀ hIL
  refine codeC.for_ (fun k s' => ∃ h tk m nx i, s' = { s with heap := h, toks := tk } ∧ h.IsListIter I l i ∧ Fr h₀ env.locals h m ∧ News h₀ env.locals h nx ∧ (∀ p ∈ nx, p.1 ≠ I) ∧ J i m nx ∧ i ≤ items.size ∧ k = items.size + 1 - i) ?_ (items.size + 1)
    ⟨_, s.toks, m₀, nx₀, 0, rfl, ⟨_, hI ▸ Heap.get?_push_size _ rfl, rfl, rfl⟩, F.push _, fun q hq => ⟨Heap.get?_push_of_some _ (N q hq).1, (N q hq).2⟩, news_ne N hIn, hJ, Nat.zero_le _, rfl⟩
  rintro k s' ⟨h, tk, m, nx, i, rfl, hit, F₁, N₁, hne, hJ₁, hi, rfl⟩
  have hl₁ := src i m nx h hJ₁ F₁ N₁
  cases hv : items[i]? with
  | none =>
    have hsz : i = items.size := Nat.le_antisymm hi (by simpa using hv)
    refine wpAny_pyNext_list_end hh hit hl₁ hv fun h' he => ?_
    refine done m nx h' tk (hsz ▸ hJ₁) ⟨F₁.ns.at' fun o e => he _ o (Ne.symm hIL) e, fun b o e => he b o (fun q => by rw [q, hI₀] at e; cases e) (F₁.keep b o e), F₁.above⟩ fun q hq => ⟨he _ _ (hne q hq) (N₁ q hq).1, (N₁ q hq).2⟩
  | some v =>
    have hlt : i < items.size := (Array.getElem?_eq_some_iff.mp hv).1
    refine wpAny_pyNext_list_item hit hl₁ hv fun h' hit' hs => ?_
    have F₂ : Fr h₀ env.locals h' m := F₁.change hs hIL hI₀
    have N₂ : News h₀ env.locals h' nx := fun q hq => ⟨hs.extBut _ _ (hne q hq) (N₁ q hq).1, (N₁ q hq).2⟩
    obtain ⟨oI, heI, hcI, hdI⟩ := id hit'
    have N₃ : News h₀ env.locals h' ((I, oI) :: nx) := fun q hq => by
      rcases List.mem_cons.mp hq with rfl | hq
      · exact ⟨heI, hIL, hI₀⟩
      · exact N₂ q hq
    refine wpAny_assign_Name (wpAny_storeName_local hx F₂.ns (fun h₃ hn₃ hs₃ => ?_) hp)
    have F₃ := F₂.set hn₃ hs₃
    have N₄ := N₃.set hs₃
    refine .mono (turn i v m nx h₃ _ I oI hv hJ₁ hne F₃ N₄) fun f s₃ q => ?_
    have go : (∃ h' tk' m' nx' news', s₃ = { s with heap := h', toks := tk' } ∧ Fr h₀ env.locals h' m' ∧ News h₀ env.locals h' news' ∧ (I, oI) ∈ news' ∧ (∀ p ∈ nx', p ∈ news') ∧ (∀ p ∈ nx', p.1 ≠ I) ∧ J (i + 1) m' nx') →
        ∃ k', k' < items.size + 1 - i ∧ ∃ h tk m nx i, s₃ = { s with heap := h, toks := tk } ∧ h.IsListIter I l i ∧ Fr h₀ env.locals h m ∧ News h₀ env.locals h nx ∧ (∀ p ∈ nx, p.1 ≠ I) ∧ J i m nx ∧ i ≤ items.size ∧ k' = items.size + 1 - i := by
      rintro ⟨h', tk', m', nx', news', rfl, F', N', hm, hsub, hne', hJ'⟩
      exact ⟨items.size + 1 - (i + 1), by omega, h', tk', m', nx', i + 1, rfl, ⟨oI, (N' _ hm).1, hcI, hdI⟩, F', fun q hq => N' q (hsub q hq), hne', hJ', hlt, rfl⟩
    cases f with
    | ret v => exact q
    | brk => exact q
    | next => exact go q
    | cont => exact go q
theorem turnC_end {L I : Addr} {oI : Obj} {J : (Str → Option Value) → List (Addr × Obj) → Prop} {h' : Heap} {tk' : Nat} {m' : Str → Option Value} {news' : List (Addr × Obj)} (nx' : List (Addr × Obj)) (F : Fr h₀ L h' m') (N : News h₀ L h' news') (h1 : (I, oI) ∈ news') (h2 : ∀ p ∈ nx', p ∈ news') (h3 : ∀ p ∈ nx', p.1 ≠ I) (hJ : J m' nx') :
    TurnC h₀ L I oI s J R .next { s with heap := h', toks := tk' } := ⟨h', tk', m', nx', news', rfl, F, N, h1, h2, h3, hJ⟩
/-- the same, in names and a ledger -/
theorem ks_listC {σ : Type} {l : Addr} {items : Array Value} (Led : σ → List (Addr × Obj)) (ps : σ → List (Str × Value)) (stored : List Str) (P : Nat → σ → Prop) (c₀ : σ) (hh : A.handled = none) (hx : env.kindOf x = some .local)
    (hp : (env.scope.kind == .class || (env.scope.kind == .module && env.locals != env.globals)) = false)
    (hsrc : h₀.IsList l items ∨ ∀ c, ∃ k, (l, listOf items k) ∈ Led c) (F : Fr h₀ env.locals s.heap m₀) (N : News h₀ env.locals s.heap (Led c₀)) (hk : ∀ p ∈ ps c₀, m₀ p.1 = some p.2) (h0 : P 0 c₀)
    (turn : ∀ (c : σ) i v (u : Str → Option Value) h tk I oI, items[i]? = some v → P i c → (∀ p ∈ Led c, p.1 ≠ I) → Fr h₀ env.locals h (fun y => if y = x then some v else kstB (fun z => if stored.contains z then u z else m₀ z) (ps c) y) → News h₀ env.locals h ((I, oI) :: Led c) →
      wpC (model prog w) A (execs body env) (TurnC h₀ env.locals I oI s (KS Led ps x stored m₀ (P (i + 1))) R) { s with heap := h, toks := tk })
    (done : ∀ (c : σ) (u : Str → Option Value) h tk, P items.size c → Fr h₀ env.locals h (fun y => if y = x then u y else kstB (fun z => if stored.contains z then u z else m₀ z) (ps c) y) → News h₀ env.locals h (Led c) → R (.ok .next) { s with heap := h, toks := tk }) :
    wpAny (model prog w) A (pyIter (.ref l)) (fun it s₂ => codeC (model prog w) A (.forLoop (.Name x px) it body [] env) R s₂) No s := by
  refine for_listC (fun i m nx => KS Led ps x stored m₀ (P i) m nx) hh hx hp (hsrc.imp id fun b => ?_) F N ⟨c₀, rfl, hk, fun _ _ _ _ => rfl, h0⟩ ?_ ?_
  · rintro i m nx ⟨c, rfl, _⟩
    exact b c
  · rintro i v m nx h tk I oI hv ⟨c, rfl, h1, h2, hp'⟩ hne F₁ N₁
    exact turn c i v m h tk I oI hv hp' hne (kst_fr h1 h2 F₁) N₁
  · rintro m nx h tk ⟨c, rfl, h1, h2, hp'⟩ F₁ N₁
    exact done c m h tk hp' (kst_frOut h1 h2 F₁) N₁
theorem ksC_end {σ : Type} {Led : σ → List (Addr × Obj)} {ps : σ → List (Str × Value)} {stored : List Str} {P : σ → Prop} (c : σ) {L I : Addr} {oI : Obj} {h' : Heap} {tk' : Nat} {m' : Str → Option Value} {news' : List (Addr × Obj)} (F : Fr h₀ L h' m') (N : News h₀ L h' news') (h1 : (I, oI) ∈ news') (h2 : ∀ p ∈ Led c, p ∈ news') (h3 : ∀ p ∈ Led c, p.1 ≠ I)
    (hk : ∀ p ∈ ps c, m' p.1 = some p.2) (hr : ∀ z, z ≠ x → (∀ p ∈ ps c, z ≠ p.1) → stored.contains z = false → m' z = m₀ z) (hp : P c) :
    TurnC h₀ L I oI s (KS Led ps x stored m₀ P) R .next { s with heap := h', toks := tk' } := turnC_end (Led c) F N h1 h2 h3 ⟨c, rfl, hk, hr, hp⟩
end
end Mine
namespace Mine
open_top hd for PySem.Challenge.rw_rl0003_02
end Mine
namespace Mine
abbrev PP : Program := PySem.Challenge.rw_rl0003_02.row.prog
local macro_rules | `(tactic| walk_at "go") => `(tactic| ((try k_fold); repeat' (first | (k_unfold; (try dsimp only)) | (walk1; all_goals (try dsimp only)) | (dsimp only; walk1) | (dsimp only; k_unfold))))
section
variable {w : World} {A : Around} {s : Shared} {E : Value → Shared → Prop} {p : Program} {loose : List Str} {mg mb : Str → Option Value} {Q : Value → Shared → Prop}
theorem byteswap (X : (hd.heap_39 w.params).In s.heap) (T : TopRead p loose mg mb s.heap) (hr : A.depth < recursionLimit) (hh : A.handled = none) (hg : A.guards = some []) {l : List UInt8} {wd n : Nat} {t u : Tok} (hw : 0 < wd) (hl : n * wd = l.length) (hz : l.length ≤ 1024) (hwz : wd ≤ 1024)
   (h : ∀ h' k t, Kept s.heap h' → Q (.bytes (swp l wd).toArray t) { s with heap := h', toks := k }) :
   wpC (model PP w) A (call (.ref 21) [.bytes l.toArray t, .int wd u]) Q s := by
  refine .call ?_
  refine enterC (binds := [("data", .bytes l.toArray t), ("width", .int wd u)]) X T.nolimit (by with_unfolding_all rfl) (by k_is) hr (BindsTo.of_eq rfl) (locs rfl) ?_
  intro L h₁ F N
  refine .execs_cons (.assign (.callName rfl ?_))
  walk_at "go"
  refine .callT (.of ?_)
  walk_at "go"
  refine call_bytearray hg (by simp) (by simp; omega) fun h' e1 e2 => ?_
  dsimp only at e1 e2
  generalize hS : h₁.objs.size = S at e1
  rename Fr _ _ _ _ => F
  have F' := fr_kept F e2
  have N' := news_more F N e2 e1 (hS ▸ get_size _)
  clear F N e2
  walk_at "go"
  refine .of ?_
  walk_at "go"
  rename Fr _ _ _ _ => F
  rename News _ _ _ _ => N
  rename IsRange _ _ _ _ _ _ _ _ => hR
  refine ks_range (fun b : Array UInt8 => [(S, baObj b)]) (fun _ => []) ["j"] (fun i b => Laid1 l wd i 0 b) _ hh hR (small_step (by omega) (by omega) (by simp) (by simp; omega) (by omega) (by omega)) (n := n)
    (by rw [List.size_toArray, ← hl]; exact size_step hw) F N (by intro q hq; cases hq) (by rw [List.size_toArray]; exact Laid1.zero l wd) ?_ ?_
  · intro b i t₂ u₂ h₃ tk₃ own hi hoff hP F N
    clear hR
    walk_at "go"
    rename IsRange _ _ _ _ _ _ _ _ => hR
    rename Fr _ _ _ _ => F
    rename News _ _ _ _ => N
    have hin : (i + 1) * wd ≤ l.length := by rw [← hl]; exact Nat.mul_le_mul_right _ hi
    have hin' : (i + 1) * wd = i * wd + wd := by rw [Nat.add_mul, Nat.one_mul]
    refine ks_range (fun b : Array UInt8 => (S, baObj b) :: own) (fun _ => []) [] (fun j b => Laid1 l wd i j b) b hh hR (small_step (by omega) (by omega) (by omega) (by omega) (by omega) (by omega)) (n := wd)
      (by rw [rangeSize_one]; split <;> omega) F N (by intro q hq; cases hq) hP ?_ ?_
    · intro b j t₂ u₂ h₃ tk₃ own₂ hj hoff₂ hP F N
      clear hR
      walk_at "go"
      have hsz := hP.1
      refine' ba_set_K ?k1 ?k2 (Upd.head ?k3) ?k4 ?k5 ?k6 ?k7 ?k8 ?_
      case k1 => exact F
      case k2 => exact N
      case k3 =>
        intro q hq
        rcases List.mem_append.mp hq with hq | hq
        · exact hoff q hq S (.head _)
        · exact hoff₂ q hq S (.head _)
      case k4 => omega
      case k5 => omega
      case k6 => omega
      case k7 => omega
      case k8 => have := (l.getD (0 + (i : Int) * wd + (0 + (j : Int) * 1)).toNat 0).toNat_lt; omega
      intro h' F' N'
      clear F N
      have e1 : (0 + (i : Int) * (wd : Int) + (wd : Int) - 1 - (0 + (j : Int) * 1)).toNat = i * wd + wd - 1 - j := by
        rw [← Int.natCast_mul]; omega
      have e2 : (0 + (i : Int) * (wd : Int) + (0 + (j : Int) * 1)).toNat = i * wd + j := by
        rw [← Int.natCast_mul]; omega
      have e3 : (((l.getD (i * wd + j) 0).toNat : Nat) : Int).toNat.toUInt8 = l.getD (i * wd + j) 0 := by
        rw [Int.toNat_natCast]; exact UInt8.ofNat_toNat
      rw [e1, e2, e3] at N'
      walk_at "go"
      refine ks_end (b.setIfInBounds (i * wd + wd - 1 - j) (l.getD (i * wd + j) 0)) (by assumption) (by assumption) ?_ ?_ rfl (by intro q hq; cases hq) ?_ (hP.step hj hin)
      · intro q hq
        rcases List.mem_cons.mp hq with rfl | hq
        · exact .head _
        · exact .tail _ (List.mem_append_left _ hq)
      · intro q hq
        exact .tail _ (List.mem_append_right _ hq)
      · intro z h1 h2 h3
        rw [if_neg h1]
        rfl
    · intro b u₂ h₃ tk₃ hP F N
      clear hR
      walk_at "go"
      refine ks_end b (by assumption) (by assumption) ?_ ?_ rfl (by intro q hq; cases hq) ?_ (hP.next hw)
      · intro q hq
        rcases List.mem_cons.mp hq with rfl | hq
        · exact .head _
        · cases hq
      · intro q hq
        exact .tail _ hq
      · intro z h1 h2 h3
        have hj : z ≠ "j" := by simpa using h3
        rw [if_neg hj]
        show (if z = "i" then _ else _) = _
        rw [if_neg h1]
        show (if List.contains (["j"] : List Str) z = true then _ else _) = _
        rw [h3]
        rfl
  · intro b u₂ h₃ tk₃ hP F N
    clear hR
    have hb := hP.whole hl
    have hsz := hP.1
    walk_at "go"
    refine ba_bytes_K (by assumption) (.head _) (by omega) fun t' k' => ?_
    rename Fr _ _ _ _ => F
    rw [hb]
    exact h _ _ _ F.keep
theorem high_bit (X : (hd.heap_39 w.params).In s.heap) (T : TopRead p loose mg mb s.heap) (hr : A.depth < recursionLimit) {n : Int} {t : Tok}
   (h : ∀ h' k t, Kept s.heap h' → Q (.int (Builtin.Int.intBits n - 1) t) { s with heap := h', toks := k }) :
   wpAny (model PP w) A (call (.ref 35) [.int n t]) Q E s := by
  refine wpAny_call ?_
  refine enter (binds := [("value", .int n t)]) X T.nolimit (by with_unfolding_all rfl) (by k_is) hr (BindsTo.of_eq rfl) (locs rfl) ?_
  intro L h₁ F N
  walk_at "go"
  exact h _ _ _ F.keep
theorem single_bit (X : (hd.heap_39 w.params).In s.heap) (T : TopRead p loose mg mb s.heap) (hr : A.depth < recursionLimit) {n : Int} {t : Tok} (hn : n ≠ 0)
   (h : ∀ h' k, Kept s.heap h' → Q (.bool (Builtin.bitAnd n (n - 1) == 0)) { s with heap := h', toks := k }) :
   wpAny (model PP w) A (call (.ref 28) [.int n t]) Q E s := by
  refine wpAny_call ?_
  refine enter (binds := [("num", .int n t)]) X T.nolimit (by with_unfolding_all rfl) (by k_is) hr (BindsTo.of_eq rfl) (locs rfl) ?_
  intro L h₁ F N
  walk_at "go"
  · exact absurd (by assumption) hn
  · rename Fr _ _ _ _ => F
    exact h _ _ F.keep
end
end Mine
namespace Mine
local macro_rules | `(tactic| walk_at "go") => `(tactic| ((try k_fold); repeat' (first | (k_unfold; (try dsimp only)) | (walk1; all_goals (try dsimp only)) | (dsimp only; walk1) | (dsimp only; k_unfold))))
/-- one doubling of a row -/
def dbl (n : Int) (k : Nat) (r : List Int) : List Int := r ++ r.map fun x => if (n.fdiv (2 ^ k)).fmod 2 = 1 then 255 - x else x
def rowOf (n : Int) : List Int := dbl n 3 (dbl n 2 (dbl n 1 (dbl n 0 [(n.fdiv 16).fmod 256])))
def chgOf (r : List Int) : List Int := [0] ++ (rangeKs 1 15).map fun k => if ¬ r.getD k.toNat 0 = r.getD (k - 1).toNat 0 then 1 else 0
section
variable {w : World} {A : Around} {s : Shared} {E : Value → Shared → Prop} {p : Program} {loose : List Str} {mg mb : Str → Option Value} {Q : Value → Shared → Prop}
theorem law_row (X : (hd.heap_39 w.params).In s.heap) (T : TopRead p loose mg mb s.heap) (hr : A.depth < recursionLimit) (hh : A.handled = none) {n : Int} {t : Tok}
   (h : ∀ h' k r vs, Kept s.heap h' → s.heap.get? r = none → h'.get? r = some (lst vs) → IntsAre vs (rowOf n) → Q (.ref r) { s with heap := h', toks := k }) :
   wpAny (model PP w) A (call (.ref 40) [.int n t]) Q E s := by
  refine wpAny_call ?_
  refine enterX (binds := [("number", .int n t)]) X T.nolimit (by with_unfolding_all rfl) (by k_is) hr (BindsTo.of_eq rfl) rfl (by decide +kernel) ?_
  intro L h₁ tk cells F N Y
  k_cells Y
  obtain ⟨ha, d, fr, gs, un⟩ := A
  cases hh
  walk_at "go"
  rename Fr _ _ _ _ => F
  rename News _ _ _ _ => N
  have z := N _ (.head _)
  refine h _ _ _ _ F.keep z.2.2 z.1 ?_
  assumption
end
end Mine
namespace Mine
local macro_rules | `(tactic| walk_at "go") => `(tactic| ((try k_fold); repeat' (first | (k_unfold; (try dsimp only)) | (walk1; all_goals (try dsimp only); all_goals (try (show wpAny _ _ _ _ _ _))) | (dsimp only; walk1) | (dsimp only; k_unfold))))
section
variable {w : World} {A : Around} {s : Shared} {E : Value → Shared → Prop} {p : Program} {loose : List Str} {mg mb : Str → Option Value} {Q : Value → Shared → Prop}
theorem law_changes (X : (hd.heap_39 w.params).In s.heap) (T : TopRead p loose mg mb s.heap) (hr : A.depth < recursionLimit) (hh : A.handled = none) {l : Addr} {vs : List Value} {ns : List Int} (hl : s.heap.IsList l vs.toArray) (hi : IntsAre vs ns) (hn : ns.length = 16)
   (h : ∀ h' k r vs, Kept s.heap h' → s.heap.get? r = none → h'.get? r = some (lst vs) → IntsAre vs (chgOf ns) → Q (.ref r) { s with heap := h', toks := k }) :
   wpAny (model PP w) A (call (.ref 50) [.ref l]) Q E s := by
  refine wpAny_call ?_
  refine enterX (binds := [("row", .ref l)]) X T.nolimit (by with_unfolding_all rfl) (by k_is) hr (BindsTo.of_eq rfl) rfl (by decide +kernel) ?_
  intro L h₁ tk cells F N Y
  k_cells Y
  obtain ⟨ha, d, fr, gs, un⟩ := A
  cases hh
  walk_at "go"
  rename Fr _ _ _ _ => F
  rename News _ _ _ _ => N
  have z := N _ (.head _)
  refine h _ _ _ _ F.keep z.2.2 z.1 ?_
  assumption
/-- the first place from 1 to 15 at which two rows part, 16 where there is none -/
def FirstAt (xs ys : List Int) (j : Nat) : Prop := (j = 16 ∧ ∀ i, 1 ≤ i → i < 16 → xs.getD i 0 = ys.getD i 0) ∨ (1 ≤ j ∧ j < 16 ∧ xs.getD j 0 ≠ ys.getD j 0 ∧ ∀ i, 1 ≤ i → i < j → xs.getD i 0 = ys.getD i 0)
theorem law_first (X : (hd.heap_39 w.params).In s.heap) (T : TopRead p loose mg mb s.heap) (hr : A.depth < recursionLimit) (hh : A.handled = none) {l l' : Addr} {vs vs' : List Value} {xs ys : List Int} (hl : s.heap.IsList l vs.toArray) (hi : IntsAre vs xs) (hn : xs.length = 16)
   (hl' : s.heap.IsList l' vs'.toArray) (hi' : IntsAre vs' ys) (hn' : ys.length = 16)
   (h : ∀ h' k (j : Nat) t, Kept s.heap h' → FirstAt xs ys j → Q (.int j t) { s with heap := h', toks := k }) :
   wpAny (model PP w) A (call (.ref 69) [.ref l, .ref l']) Q E s := by
  refine wpAny_call ?_
  refine enter (binds := [("one", .ref l), ("other", .ref l')]) X T.nolimit (by with_unfolding_all rfl) (by k_is) hr (BindsTo.of_eq rfl) (locs rfl) ?_
  intro L h₁ F N
  walk_at "go"
  rename IsRange _ _ _ _ _ _ _ _ => hR
  rename Fr _ _ _ _ => F
  rename News _ _ _ _ => N
  refine ks_range (fun _ : Unit => []) (fun _ => []) [] (fun i _ => ∀ q, 1 ≤ q → q < 1 + i → xs.getD q 0 = ys.getD q 0) () hh hR (by decide) (n := 15) rfl F N (by intro q hq; cases hq) (by intro q h1 h2; omega) ?_ ?_
  · intro _ i t₂ u₂ h₃ tk₃ own hi₂ hoff hP F N
    clear hR
    have e1 : (1 + (i : Int) * 1).toNat = 1 + i := by omega
    walk_at "go"
    · rename_i hne
      rw [e1] at hne
      rename Fr _ _ _ _ => F
      have e2 : (1 + (i : Int) * 1) = ((1 + i : Nat) : Int) := by omega
      rw [e2]
      exact h _ _ _ _ F.keep (.inr ⟨by omega, by omega, hne, hP⟩)
    · rename_i heq
      rw [e1] at heq
      refine ks_end () (by assumption) (by assumption) (by intro q hq; cases hq) (by intro q hq; exact hq) rfl (by intro q hq; cases hq) ?_ ?_
      · intro z h1 h2 h3
        rw [if_neg h1]
        rfl
      · intro q h1 h2
        by_cases hq : q = 1 + i
        · rw [hq]; exact heq
        · exact hP q h1 (by omega)
  · intro _ u₂ h₃ tk₃ hP F N
    clear hR
    walk_at "go"
    rename Fr _ _ _ _ => F
    exact h _ _ 16 _ F.keep (.inl ⟨rfl, fun i h1 h2 => hP i h1 (by omega)⟩)
end
end Mine
namespace Mine
local macro_rules | `(tactic| walk_at "go") => `(tactic| ((try k_fold); repeat' (first | (k_unfold; (try dsimp only)) | (walk1; all_goals (try dsimp only); all_goals (try (show wpAny _ _ _ _ _ _))) | (dsimp only; walk1) | (dsimp only; k_unfold))))
/-- where the walk shall stand still -/
structure Stop (P : Prop) : Prop where
  go : P
def figs (x : Nat) : List Int := [((x % 2 : Nat) : Int), ((x / 2 % 2 : Nat) : Int), ((x / 4 % 2 : Nat) : Int), ((x / 8 % 2 : Nat) : Int)]
theorem figs_step : ∀ n : Fin 16, ∀ j : Fin 5, 0 < n.val % 2 ^ j.val → Builtin.Int.intBits ((n.val % 2 ^ j.val : Nat) : Int) = (n.val % 2 ^ j.val).log2 + 1 ∧ (n.val % 2 ^ j.val).log2 < j.val ∧ n.val % 2 ^ j.val - 2 ^ (n.val % 2 ^ j.val).log2 = n.val % 2 ^ (n.val % 2 ^ j.val).log2 ∧ 2 ^ (n.val % 2 ^ j.val).log2 ≤ n.val % 2 ^ j.val ∧
    (figs (n.val - n.val % 2 ^ j.val)).set (n.val % 2 ^ j.val).log2 1 = figs (n.val - n.val % 2 ^ (n.val % 2 ^ j.val).log2) := by decide +kernel
section
variable {w : World} {A : Around} {s : Shared} {E : Value → Shared → Prop} {p : Program} {loose : List Str} {mg mb : Str → Option Value} {Q : Value → Shared → Prop}
theorem high_bit_K {h₀ : Heap} {L : Addr} {m : Str → Option Value} {news : List (Addr × Obj)} (X : (hd.heap_39 w.params).In h₀) (T : TopRead p loose mg mb h₀) (F : Fr h₀ L s.heap m) (N : News h₀ L s.heap news) (hr : A.depth < recursionLimit) {n v : Int} {t : Tok}
   (e : (Builtin.Int.intBits n : Int) - 1 = v) (h : ∀ h' k t, Fr h₀ L h' m → News h₀ L h' news → Q (.int v t) { s with heap := h', toks := k }) :
   wpAny (model PP w) A (call (.ref 35) [.int n t]) Q E s :=
  high_bit (X.keeps F.keep) (T.keeps F.keep) hr fun h' k t hk => by rw [e]; exact h h' k t (fr_kept F hk) (news_kept N hk)
local macro_rules | `(tactic| walk_at "call ref") => `(tactic| (k_here; (with_reducible show wpAny _ _ (call (Value.ref 35) [Value.int _ _]) _ _ _); k_dflt (refine' high_bit_K ?k1 ?k2 ?k3 ?k4 ?k5 ?k6 ?_; (case k1 => k_asm); (case k2 => k_asm); (case k3 => k_asm); (case k4 => k_asm); (case k5 => (simp only [depth_deeper, recursionLimit] at *; omega)); (case k6 => first | assumption | exact rfl)); intro h' k' t' F' N'; (try k_sweep)))
local macro_rules | `(tactic| walk_at "exec While Compare cons nil") => `(tactic| refine Stop.go ?_)
theorem law_figures (X : (hd.heap_39 w.params).In s.heap) (T : TopRead p loose mg mb s.heap) (hr : A.depth + 2 < recursionLimit) (hh : A.handled = none) {n : Nat} {t : Tok} (hn : n < 16)
   (h : ∀ h' k r vs, Kept s.heap h' → s.heap.get? r = none → h'.get? r = some (lst vs) → IntsAre vs (figs n) → Q (.ref r) { s with heap := h', toks := k }) :
   wpAny (model PP w) A (call (.ref 57) [.int n t]) Q E s := by
  refine wpAny_call ?_
  refine enter (binds := [("number", .int n t)]) X T.nolimit (by with_unfolding_all rfl) (by k_is) (by omega) (BindsTo.of_eq rfl) (locs rfl) ?_
  intro L h₁ F N
  walk_at "go"
  constructor
  rename Fr _ _ _ _ => F
  rename News _ _ _ _ => N
  rename_i tk0 D h0 l1 h2
  refine ksw_while (fun c : Nat × Tok × List Value => [(D, lst c.2.2)]) (fun c => [("number", .int ((n % 2 ^ c.1 : Nat) : Int) c.2.1)]) (fun c => IntsAre c.2.2 (figs (n - n % 2 ^ c.1))) ["highest"] (fun c => c.1 ≤ 4) (fun c => c.1)
    (4, t, [Value.int 0 _, Value.int 0 _, Value.int 0 _, Value.int 0 _]) F N ?_ ?_ (Nat.le_refl _) ?_ PassesOwn.never
  · have e : n % 2 ^ 4 = n := Nat.mod_eq_of_lt hn
    show IntsAre _ (figs (n - n % 2 ^ 4))
    rw [e, Nat.sub_self]
    exact .cons _ _ (.cons _ _ (.cons _ _ (.cons _ _ .nil)))
  · intro q hq
    rcases List.mem_cons.mp hq with rfl | hq
    · show some (Value.int (n : Int) t) = some (Value.int ((n % 2 ^ 4 : Nat) : Int) t)
      rw [Nat.mod_eq_of_lt hn]
    · cases hq
  · rintro ⟨j, tj, vs⟩ u₂ h₂ tk₂ hvs hj F N
    dsimp only at hvs hj F N
    by_cases hm : 0 < n % 2 ^ j
    · obtain ⟨e1, e2, e3, e4, e5⟩ := figs_step ⟨n, hn⟩ ⟨j, by omega⟩ hm
      dsimp only at e1 e2 e3 e4 e5
      generalize hb : (n % 2 ^ j).log2 = b at e1 e2 e3 e4 e5
      have e6 : (Builtin.Int.intBits ((n % 2 ^ j : Nat) : Int) : Int) - 1 = (b : Int) := by rw [e1]; omega
      have hlen : (figs (n - n % 2 ^ j)).length = 4 := rfl
      walk_at "go"
      rename Fr _ _ _ _ => F
      rename News _ _ _ _ => N
      have e7 : ((n % 2 ^ j : Nat) : Int) - 2 ^ ((b : Int).toNat) = ((n % 2 ^ b : Nat) : Int) := by
        rw [Int.toNat_natCast, ← e3, Int.ofNat_sub e4, Int.natCast_pow]
        rfl
      rw [e7] at F
      rw [Int.toNat_natCast] at N
      refine' ksw_end (b, ?tk1, vs.set b (.int 1 ?tk2)) F N (fun q hq => hq) ?hf (List.forall_mem_cons.mpr ⟨rfl, List.forall_mem_nil _⟩) ?hr (by show b ≤ 4; omega) e2
      case hf =>
        show IntsAre _ (figs (n - n % 2 ^ b))
        rw [← e5]
        exact ints_set hvs b
      case hr =>
        intro z h2 h3
        have hz1 : z ≠ "number" := h2 _ (.head _)
        have hz2 : z ≠ "highest" := by simpa using h3
        rw [if_neg hz1, if_neg hz2]
        show (if z = "number" then _ else _) = _
        rw [if_neg hz1]
        show (if List.contains (["highest"] : List Str) z = true then _ else _) = _
        rw [h3]
        rfl
    · have hm0 : n % 2 ^ j = 0 := by omega
      rw [hm0] at hvs
      rw [Nat.sub_zero] at hvs
      have hm1 : ((n % 2 ^ j : Nat) : Int) = 0 := by rw [hm0]; rfl
      walk_at "go"
      rename Fr _ _ _ _ => F
      rename News _ _ _ _ => N
      have z := N _ (.head _)
      exact h _ _ _ _ F.keep z.2.2 z.1 hvs
end
end Mine
namespace Mine
local macro_rules | `(tactic| walk_at "go") => `(tactic| ((try k_fold); repeat' (first | (k_unfold; (try dsimp only)) | (walk1; all_goals (try dsimp only); all_goals (try (show wpAny _ _ _ _ _ _))) | (dsimp only; walk1) | (dsimp only; k_unfold))))
def byt (ns : List Int) : List UInt8 := ns.map fun n => n.toNat.toUInt8
section
variable {w : World} {A : Around} {s : Shared} {E : Value → Shared → Prop} {p : Program} {loose : List Str} {mg mb : Str → Option Value} {Q : Value → Shared → Prop}
theorem byteswap_K {h₀ : Heap} {L : Addr} {m : Str → Option Value} {news : List (Addr × Obj)} (X : (hd.heap_39 w.params).In h₀) (T : TopRead p loose mg mb h₀) (F : Fr h₀ L s.heap m) (N : News h₀ L s.heap news) (hr : A.depth < recursionLimit) (hh : A.handled = none) (hg : A.guards = some [])
   {l : List UInt8} {wd n : Nat} {t u : Tok} (hw : 0 < wd) (hl : n * wd = l.length) (hz : l.length ≤ 1024) (hwz : wd ≤ 1024)
   (h : ∀ h' k t, Fr h₀ L h' m → News h₀ L h' news → Q (.bytes (swp l wd).toArray t) { s with heap := h', toks := k }) :
   wpC (model PP w) A (call (.ref 21) [.bytes l.toArray t, .int wd u]) Q s :=
  byteswap (X.keeps F.keep) (T.keeps F.keep) hr hh hg hw hl hz hwz fun h' k t hk => h h' k t (fr_kept F hk) (news_kept N hk)
theorem bytes_mk {h₀ : Heap} {L l : Addr} {m : Str → Option Value} {news : List (Addr × Obj)} {vs : List Value} {ns : List Int} (F : Fr h₀ L s.heap m) (N : News h₀ L s.heap news) (hl : s.heap.IsList l vs.toArray) (hi : IntsAre vs ns) (hr : ∀ n ∈ ns, 0 ≤ n ∧ n < 256) (hz : ns.length ≤ 1024) (hh : A.handled = none)
    (h : ∀ h' t k, Fr h₀ L h' m → News h₀ L h' news → Q (.bytes (byt ns).toArray t) { s with heap := h', toks := k }) : wpAny (model PP w) A (call (.type "bytes") [.ref l]) Q E s :=
  bytes_K F N hl hi hr (by rw [hi.length, sizeLine_eq]; omega) hh fun h' t k F' N' _ => h h' t k F' N'
local macro_rules | `(tactic| walk_at "call type:bytes") => `(tactic| (k_here; (with_reducible show wpAny _ _ (call (Value.type _) [Value.ref _]) _ _ _); k_dflt (refine' bytes_mk ?F ?N ?l ?i ?r ?z ?h ?_; (case F => k_asm); (case N => k_asm); (case l => is_list); (case i => first | l_ints | l_intsW); (case r => assumption); (case z => first | omega | (simp only [List.length_map]; omega)); (case h => first | exact rfl | assumption); k_whole); intro h' t' k' F' N'; (try k_sweep)))
def widths : List Nat := [2, 4, 8, 16]
def toldOf (b : List UInt8) : List Int := widths.map fun wd => if swp b wd = b then 0 else 1
theorem ints_snoc {x : Int} {u : Tok} : ∀ {vs : List Value} {ns : List Int}, IntsAre vs ns → IntsAre (vs ++ [.int x u]) (ns ++ [x])
  | _, _, .nil => .cons x u .nil
  | _, _, .cons i t h => .cons i t (ints_snoc h)
theorem told_next {b : List UInt8} {i wd : Nat} (h : widths[i]? = some wd) : (toldOf b).take (i + 1) = (toldOf b).take i ++ [if swp b wd = b then 0 else 1] := by
  have e : (toldOf b)[i]? = some (if swp b wd = b then 0 else 1) := by simp [toldOf, h]
  rw [List.take_add_one, e]
  rfl
theorem widths_at {i : Nat} {v : Value} {t1 t2 t3 t4 : Tok} (h : (#[Value.int 2 t1, Value.int 4 t2, Value.int 8 t3, Value.int 16 t4] : Array Value)[i]? = some v) :
    ∃ wd tk n, v = .int ((wd : Nat) : Int) tk ∧ widths[i]? = some wd ∧ 0 < wd ∧ wd ≤ 16 ∧ n * wd = 16 := by
  match i, h with
  | 0, h => cases h; exact ⟨2, t1, 8, rfl, rfl, by omega, by omega, rfl⟩
  | 1, h => cases h; exact ⟨4, t2, 4, rfl, rfl, by omega, by omega, rfl⟩
  | 2, h => cases h; exact ⟨8, t3, 2, rfl, rfl, by omega, by omega, rfl⟩
  | 3, h => cases h; exact ⟨16, t4, 1, rfl, rfl, by omega, by omega, rfl⟩
  | n + 4, h => simp at h
theorem law_turns (X : (hd.heap_39 w.params).In s.heap) (T : TopRead p loose mg mb s.heap) (hr : A.depth + 2 < recursionLimit) (hh : A.handled = none) (hg : A.guards = some []) {l : Addr} {vs : List Value} {ns : List Int} (hl : s.heap.IsList l vs.toArray) (hi : IntsAre vs ns) (hn : ns.length = 16)
   (hb : ∀ n ∈ ns, 0 ≤ n ∧ n < 256) (hs : ∀ wd ∈ widths, swp (byt ns) wd = byt ns ∨ swp (byt ns) wd = byt (ns.map fun x => 255 - x))
   (h : ∀ h' k r vs c, Kept s.heap h' → s.heap.get? r = none → h'.get? r = some (listOf vs.toArray c) → IntsAre vs (toldOf (byt ns)) → Q (.ref r) { s with heap := h', toks := k }) :
   wpC (model PP w) A (call (.ref 45) [.ref l]) Q s := by
  refine .call ?_
  refine enterC (binds := [("row", .ref l)]) X T.nolimit (by with_unfolding_all rfl) (by k_is) (by omega) (BindsTo.of_eq rfl) (locs rfl) ?_
  intro L h₁ F N
  obtain ⟨ha, d, fr, gs, un⟩ := A
  cases hh
  cases hg
  have hb2 : ∀ n ∈ ns.map (fun x => 255 - x), 0 ≤ n ∧ n < 256 := by
    intro n hn
    obtain ⟨x, hx, rfl⟩ := List.mem_map.mp hn
    have := hb x hx
    omega
  refine .execs_any ?_
  walk_at "go"
  refine .execs_any ?_
  walk_at "go"
  have hI := gn_ints (by assumption) (by assumption) (fun _ => rfl)
  refine' bytes_mk ?k1 ?k2 ?k3 hI hb2 ?k4 rfl ?_
  case k1 => assumption
  case k2 => assumption
  case k3 => assumption
  case k4 => rw [List.length_map]; omega
  intro h₂ t₂ k₂ F₂ N₂
  walk_at "go"
  refine .execs_any ?_
  walk_at "go"
  refine .execs_cons (.for_ ?_)
  walk_at "go"
  rename Fr _ _ _ _ => F
  rename News _ _ _ _ => N
  rename_i D h3 l2 h4 Wl h5 l1
  refine ks_listC (fun c : List Value × Nat => [(Wl, listOf #[Value.int 2 (k₂ + 1 + 1), Value.int 4 (k₂ + 1 + 1 + 1), Value.int 8 (k₂ + 1 + 1 + 1 + 1), Value.int 16 (k₂ + 1 + 1 + 1 + 1 + 1)] 0), (D, listOf c.1.toArray c.2)]) (fun _ => []) ["turned"] (fun i c => IntsAre c.1 ((toldOf (byt ns)).take i)) ([], 0)
    rfl rfl rfl (.inr fun c => ⟨0, .head _⟩) F N (by intro q hq; cases hq) .nil ?_ ?_
  · rintro ⟨vt, c⟩ i v u₆ h₆ tk₆ I oI hv hvt hne F N
    obtain ⟨wd, twd, nn, rfl, hwd, hw0, hw1, hwn⟩ := widths_at hv
    dsimp only at hvt F N hne
    have hlen : (byt ns).length = 16 := by simp [byt, hn]
    have hI1 : @Ne Nat Wl I := hne _ (.head _)
    have hI2 : @Ne Nat D I := hne _ (.tail _ (.head _))
    have hvl : vt.length ≤ 4 := by
      rw [hvt.length, List.length_take]
      exact Nat.min_le_right _ _
    refine .execs_cons (.assign (.callName rfl ?_))
    walk_at "go"
    refine .callF (K := hd.heap_39 w.params) (by k_is) (.of ?_)
    walk_at "go"
    refine' byteswap_K (n := nn) X T ?k1 ?k2 ?k3 rfl rfl hw0 ?k4 ?k5 ?k6 ?_
    case k1 => assumption
    case k2 => assumption
    case k3 => (simp only [depth_deeper] at *); omega
    case k4 => omega
    case k5 => omega
    case k6 => omega
    intro h₇ k₇ t₇ F₇ N₇
    walk_at "go"
    refine .of ?_
    walk_at "go"
    · rename (swp (byt ns) wd == byt ns) = true => heq
      rename Fr _ _ _ _ => F
      rename News _ _ _ _ => N
      rw [List.push_toArray] at N
      have heq := eq_of_beq heq
      refine ksC_end (vt ++ [_], c + 1) F N (.head _) (fun q hq => .tail _ hq) (List.forall_mem_cons.mpr ⟨hI1, List.forall_mem_cons.mpr ⟨hI2, List.forall_mem_nil _⟩⟩) (by intro q hq; cases hq) ?_ (by rw [told_next hwd, if_pos heq]; exact ints_snoc hvt)
      intro z h1 h2 h3
      have hz : z ≠ "turned" := by simpa using h3
      rw [if_neg hz, if_neg h1]
      show (if List.contains (["turned"] : List Str) z = true then _ else _) = _
      rw [h3]
      rfl
    · rename (swp (byt ns) wd == byt ns) = false => hne2
      rename Fr _ _ _ _ => F
      rename News _ _ _ _ => N
      rw [List.push_toArray] at N
      have hne2 := ne_of_beq_false hne2
      refine ksC_end (vt ++ [_], c + 1) F N (.head _) (fun q hq => .tail _ hq) (List.forall_mem_cons.mpr ⟨hI1, List.forall_mem_cons.mpr ⟨hI2, List.forall_mem_nil _⟩⟩) (by intro q hq; cases hq) ?_ (by rw [told_next hwd, if_neg hne2]; exact ints_snoc hvt)
      intro z h1 h2 h3
      have hz : z ≠ "turned" := by simpa using h3
      rw [if_neg hz, if_neg h1]
      show (if List.contains (["turned"] : List Str) z = true then _ else _) = _
      rw [h3]
      rfl
    · rename (swp (byt ns) wd == byt ns) = false => hne2
      rename (swp (byt ns) wd == byt _) = false => hne3
      have hne2 := ne_of_beq_false hne2
      have hne3 := ne_of_beq_false hne3
      exact ((hs wd (List.mem_of_getElem? hwd)).elim hne2 hne3).elim
  · rintro ⟨vt, c⟩ u₆ h₆ tk₆ hvt F N
    dsimp only at hvt
    refine .of ?_
    walk_at "go"
    rename Fr _ _ _ _ => F
    rename News _ _ _ _ => N
    have z := N _ (.tail _ (.head _))
    exact h _ _ _ _ _ F.keep z.2.2 z.1 hvt
end
end Mine
namespace Mine
local macro_rules | `(tactic| walk_at "go") => `(tactic| ((try k_fold); repeat' (first | (k_unfold; (try dsimp only)) | (walk1; all_goals (try dsimp only); all_goals (try (show wpAny _ _ _ _ _ _))) | (dsimp only; walk1) | (dsimp only; k_unfold))))
section
variable {w : World} {A : Around} {s : Shared} {E : Value → Shared → Prop} {p : Program} {loose : List Str} {mg mb : Str → Option Value} {Q : Value → Shared → Prop}
local macro_rules | `(tactic| walk_at "call type:bytes") => `(tactic| (k_here; (with_reducible show wpAny _ _ (call (Value.type _) [Value.ref _]) _ _ _); k_dflt (refine' bytes_mk ?F ?N ?l ?i ?r ?z ?h ?_; (case F => k_asm); (case N => k_asm); (case l => is_list); (case i => first | l_ints | l_intsW); (case r => assumption); (case z => first | omega | (simp only [List.length_map]; omega)); (case h => first | exact rfl | assumption); k_whole); intro h' t' k' F' N'; (try k_sweep)))
local macro_rules | `(tactic| walk_at "call ref") => `(tactic| (k_here; (with_reducible show wpAny _ _ (call (Value.ref 35) [Value.int _ _]) _ _ _); k_dflt (refine' high_bit_K ?k1 ?k2 ?k3 ?k4 ?k5 ?k6 ?_; (case k1 => k_asm); (case k2 => k_asm); (case k3 => k_asm); (case k4 => k_asm); (case k5 => (simp only [depth_deeper, recursionLimit] at *; omega)); (case k6 => first | assumption | exact rfl)); intro h' k' t' F' N'; (try k_sweep)))
local macro_rules | `(tactic| walk_at "pyIter ref") => `(tactic| refine Stop.go ?_)
theorem law_figures_K {h₀ : Heap} {L : Addr} {m : Str → Option Value} {news : List (Addr × Obj)} (X : (hd.heap_39 w.params).In h₀) (T : TopRead p loose mg mb h₀) (F : Fr h₀ L s.heap m) (N : News h₀ L s.heap news) (hr : A.depth + 2 < recursionLimit) (hh : A.handled = none) {v : Int} {n : Nat} {t : Tok} (e : v = (n : Int)) (hn : n < 16)
   (h : ∀ h' k r vs, Fr h₀ L h' m → News h₀ L h' ((r, lst vs) :: news) → IntsAre vs (figs n) → (∀ p ∈ news, p.1 ≠ r) → Q (.ref r) { s with heap := h', toks := k }) :
   wpAny (model PP w) A (call (.ref 57) [.int v t]) Q E s := by
  subst e
  exact law_figures (X.keeps F.keep) (T.keeps F.keep) hr hh hn fun h' k r vs hk hrn hrg hiv => h h' k r vs (fr_kept F hk) (news_more F N hk hrg hrn) hiv (news_ne N hrn)
theorem single_bit_K {h₀ : Heap} {L : Addr} {m : Str → Option Value} {news : List (Addr × Obj)} (X : (hd.heap_39 w.params).In h₀) (T : TopRead p loose mg mb h₀) (F : Fr h₀ L s.heap m) (N : News h₀ L s.heap news) (hr : A.depth < recursionLimit) {n : Int} {t : Tok} {b : Bool} (hn : n ≠ 0) (e : (Builtin.bitAnd n (n - 1) == 0) = b)
   (h : ∀ h' k, Fr h₀ L h' m → News h₀ L h' news → Q (.bool b) { s with heap := h', toks := k }) :
   wpAny (model PP w) A (call (.ref 28) [.int n t]) Q E s :=
  single_bit (X.keeps F.keep) (T.keeps F.keep) hr hn fun h' k hk => by rw [e]; exact h h' k (fr_kept F hk) (news_kept N hk)
local macro_rules | `(tactic| walk_at "call ref") => `(tactic| (k_here; (with_reducible show wpAny _ _ (call (Value.ref 57) [Value.int _ _]) _ _ _); k_dflt (refine' law_figures_K ?k1 ?k2 ?k3 ?k4 ?k5 rfl ?k6 ?k7 ?_; (case k1 => k_asm); (case k2 => k_asm); (case k3 => k_asm); (case k4 => k_asm); (case k5 => (simp only [depth_deeper, recursionLimit] at *; omega)); (case k6 => assumption); (case k7 => assumption)); intro h' k' r' vs' F' N' hi' hne'; (try k_sweep)))
local macro_rules | `(tactic| walk_at "call ref") => `(tactic| (k_here; (with_reducible show wpAny _ _ (call (Value.ref 28) [Value.int _ _]) _ _ _); k_dflt (refine' single_bit_K ?k1 ?k2 ?k3 ?k4 ?k5 ?k6 ?k7 ?_; (case k1 => k_asm); (case k2 => k_asm); (case k3 => k_asm); (case k4 => k_asm); (case k5 => (simp only [depth_deeper, recursionLimit] at *; omega)); (case k6 => omega); (case k7 => assumption)); intro h' k' F' N'; (try k_sweep)))
/-- the figures of a number -/
def numFigs (n : Int) : List Int := (rangeKs 0 4).map fun k => (n.fdiv (2 ^ k.toNat)).fmod 2
theorem law_one_row (X : (hd.heap_39 w.params).In s.heap) (T : TopRead p loose mg mb s.heap) (hr : A.depth + 3 < recursionLimit) (hh : A.handled = none) (hg : A.guards = some []) {n : Int} {tn : Tok} {lt lc : Addr} {vt vc : List Value} {t0 t1 t2 t3 : Int} {cs : List Int} {Nc : Nat}
   (hlt : s.heap.IsList lt vt.toArray) (hit : IntsAre vt [t0, t1, t2, t3]) (hlc : s.heap.IsList lc vc.toArray) (hic : IntsAre vc cs) (hcl : cs.length = 16) (hN : Nc < 16) (hcount : 8 * t0 + 4 * t1 + 2 * t2 + t3 = Nc) (hsum : cs.sum = Nc)
   (htold : ∀ i : Nat, i < 15 → ∃ b : Nat, b < 4 ∧ (Builtin.Int.intBits (Builtin.bitXor (1 + (i : Int) * 1) (1 + (i : Int) * 1 - 1)) : Int) - 1 = b ∧ [t0, t1, t2, t3].getD b 0 = cs.getD (1 + i) 0)
   {g : Nat} (hg16 : g < 16) (hge : Builtin.bitXor (Nc : Int) ((Nc : Int).fdiv 2) = (g : Int)) (hfig : swp (byt (numFigs n)) 4 = byt (figs g)) (hsing : (Builtin.bitAnd ((Nc : Int) + 1) ((Nc : Int) + 1 - 1) == 0) = decide ((numFigs n).sum < 2))
   (h : ∀ h' k, Kept s.heap h' → Q (.bool true) { s with heap := h', toks := k }) :
   wpC (model PP w) A (call (.ref 62) [.int n tn, .ref lt, .ref lc]) Q s := by
  refine .call ?_
  refine enterXC (binds := [("number", .int n tn), ("told", .ref lt), ("changes", .ref lc)]) X T.nolimit (by with_unfolding_all rfl) (by k_is) (by omega) (BindsTo.of_eq rfl) rfl (by decide +kernel) ?_
  intro L h₁ tk cells F N Y
  k_cells Y
  obtain ⟨ha, d, fr, gs, un⟩ := A
  cases hh
  cases hg
  have hvl : vt.length = 4 := hit.length
  refine .execs_any ?_
  walk_at "go"
  refine .execs_any ?_
  walk_at "go"
  rename Fr _ _ _ _ => F
  have ec : 8 * [t0, t1, t2, t3].getD (Int.toNat 0) 0 + 4 * [t0, t1, t2, t3].getD (Int.toNat 1) 0 + 2 * [t0, t1, t2, t3].getD (Int.toNat 2) 0 + [t0, t1, t2, t3].getD (Int.toNat 3) 0 = (Nc : Int) := hcount
  rw [ec] at F
  refine .execs_any ?_
  walk_at "go"
  · exact absurd hsum.symm (by assumption)
  refine .execs_any ?_
  walk_at "go"
  constructor
  rename IsRange _ _ _ _ _ _ _ _ => hR
  rename Fr _ _ _ _ => F
  rename News _ _ _ _ => N
  refine ks_range (fun _ : Unit => [(L + 1, _)]) (fun _ => []) [] (fun _ _ => True) () rfl hR (by decide) (n := 15) rfl F N (by intro q hq; cases hq) trivial ?_ ?_
  · intro _ i t₂ u₂ h₃ tk₃ own hi₂ hoff _ F N
    clear hR
    obtain ⟨b, hb4, eb, hbc⟩ := htold i hi₂
    have e1 : (1 + (i : Int) * 1).toNat = 1 + i := by omega
    walk_at "go"
    · rename_i hne
      rw [e1, Int.toNat_natCast] at hne
      exact absurd hbc hne
    · refine ks_end () (by assumption) (by assumption) (fun q hq => List.mem_append_left _ hq) (fun q hq => List.mem_append_right _ hq) rfl (by intro q hq; cases hq) ?_ trivial
      intro z h1 h2 h3
      rw [if_neg h1]
      rfl
  · intro _ u₂ h₃ tk₃ _ F N
    clear hR
    have hnf : ∀ x ∈ (rangeKs 0 4).map (fun k => (n.fdiv (2 ^ k.toNat)).fmod 2), 0 ≤ x ∧ x < 256 := by
      intro x hx
      obtain ⟨k, _, rfl⟩ := List.mem_map.mp hx
      have h1 := fmod_lo (n.fdiv (2 ^ k.toNat)) (n := 2) (by decide)
      have h2 := fmod_hi (n.fdiv (2 ^ k.toNat)) (n := 2) (by decide)
      omega
    have hbl : (byt (numFigs n)).length = 4 := rfl
    have hgl : ∀ x ∈ figs g, 0 ≤ x ∧ x < 256 := by
      intro x hx
      simp only [figs, List.mem_cons, List.not_mem_nil, or_false] at hx
      omega
    have hgl2 : (figs g).length ≤ 1024 := by simp [figs]
    walk_at "go"
    refine .execs_any ?_
    walk_at "go"
    refine .execs_cons (.if_ (.isTrueCompare (.callName rfl ?_)))
    walk_at "go"
    refine .callF (K := hd.heap_39 w.params) (by k_is) (.of ?_)
    walk_at "go"
    show wpC _ _ (call (Value.ref 21) [Value.bytes (byt (numFigs n)).toArray _, Value.int ((4 : Nat) : Int) _]) _ _
    refine' byteswap_K (n := 1) X T ?k1 ?k2 ?k3 rfl rfl (by omega) ?k4 ?k5 (by omega) ?_
    case k1 => assumption
    case k2 => assumption
    case k3 => (simp only [depth_deeper] at *); omega
    case k4 => omega
    case k5 => omega
    intro h₇ k₇ t₇ F₇ N₇
    rw [hfig]
    walk_at "go"
    · rename (byt (figs g) != byt (figs g)) = true => hbad
      simp at hbad
    refine .of (wpAny_execs_nil ?_)
    refine .of ?_
    walk_at "go"
    rename Fr _ _ _ _ => F
    show Q (Value.bool (decide ((numFigs n).sum < 2) == decide ((numFigs n).sum < 2))) _
    rw [beq_self_eq_true]
    exact h _ _ F.keep
end
end Mine
namespace Mine
def dblP (c k : Nat) (r : List Bool) : List Bool := r ++ r.map fun b => if c / 2 ^ k % 2 = 1 then !b else b
def patOf (c : Nat) : List Bool := dblP c 3 (dblP c 2 (dblP c 1 (dblP c 0 [false])))
def oct (o : Int) (b : Bool) : Int := if b then 255 - o else o
def swpB (l : List Bool) (wd : Nat) : List Bool := (List.range l.length).map fun p => l.getD (p / wd * wd + (wd - 1 - p % wd)) false
def low4 (n : Int) : Nat := (n.fmod 16).toNat
def hiO (n : Int) : Int := (n.fdiv 16).fmod 256
theorem low4_lt (n : Int) : low4 n < 16 := by
  unfold low4
  rw [Int.fmod_eq_emod_of_nonneg _ (by omega)]
  omega
theorem hiO_bd (n : Int) : 0 ≤ hiO n ∧ hiO n < 256 := by
  unfold hiO
  rw [Int.fmod_eq_emod_of_nonneg _ (by omega)]
  omega
theorem fig_low (n : Int) (k : Nat) (hk : k < 4) : (n.fdiv (2 ^ k)).fmod 2 = ((low4 n / 2 ^ k % 2 : Nat) : Int) := by
  unfold low4
  rw [Int.fmod_eq_emod_of_nonneg _ (by omega), Int.fmod_eq_emod_of_nonneg _ (by omega)]
  match k, hk with
  | 0, _ => rw [show ((2 : Int) ^ 0) = 1 by rfl, show ((2 : Nat) ^ 0) = 1 by rfl, Int.fdiv_eq_ediv_of_nonneg _ (by omega)]; omega
  | 1, _ => rw [show ((2 : Int) ^ 1) = 2 by rfl, show ((2 : Nat) ^ 1) = 2 by rfl, Int.fdiv_eq_ediv_of_nonneg _ (by omega)]; omega
  | 2, _ => rw [show ((2 : Int) ^ 2) = 4 by rfl, show ((2 : Nat) ^ 2) = 4 by rfl, Int.fdiv_eq_ediv_of_nonneg _ (by omega)]; omega
  | 3, _ => rw [show ((2 : Int) ^ 3) = 8 by rfl, show ((2 : Nat) ^ 3) = 8 by rfl, Int.fdiv_eq_ediv_of_nonneg _ (by omega)]; omega
theorem dbl_map (n : Int) (k : Nat) (hk : k < 4) (r : List Bool) : dbl n k (r.map (oct (hiO n))) = (dblP (low4 n) k r).map (oct (hiO n)) := by
  unfold dbl dblP
  rw [List.map_append, List.map_map, List.map_map]
  congr 1
  apply List.map_congr_left
  intro b _
  show (if (n.fdiv (2 ^ k)).fmod 2 = 1 then 255 - oct (hiO n) b else oct (hiO n) b) = oct (hiO n) (if low4 n / 2 ^ k % 2 = 1 then !b else b)
  rw [fig_low n k hk]
  by_cases h : low4 n / 2 ^ k % 2 = 1
  · rw [if_pos h, if_pos (by omega)]
    cases b <;> simp [oct]
    omega
  · rw [if_neg h, if_neg (by omega)]
theorem rowOf_pat (n : Int) : rowOf n = (patOf (low4 n)).map (oct (hiO n)) := by
  unfold rowOf patOf
  have h0 : [(n.fdiv 16).fmod 256] = [false].map (oct (hiO n)) := rfl
  rw [h0, dbl_map n 0 (by omega), dbl_map n 1 (by omega), dbl_map n 2 (by omega), dbl_map n 3 (by omega)]
theorem numFigs_low (n : Int) : numFigs n = figs (low4 n) := by
  have h0 := fig_low n 0 (by omega)
  have h1 := fig_low n 1 (by omega)
  have h2 := fig_low n 2 (by omega)
  have h3 := fig_low n 3 (by omega)
  show [_, _, _, _] = [_, _, _, _]
  show [(n.fdiv (2 ^ 0)).fmod 2, (n.fdiv (2 ^ 1)).fmod 2, (n.fdiv (2 ^ 2)).fmod 2, (n.fdiv (2 ^ 3)).fmod 2] = _
  rw [h0, h1, h2, h3]
  simp [figs]
def byB (o : Int) (b : Bool) : UInt8 := (oct o b).toNat.toUInt8
theorem byt_oct (o : Int) (l : List Bool) : byt (l.map (oct o)) = l.map (byB o) := by simp [byt, byB]
theorem oct_inj {o : Int} {a b : Bool} (h : oct o a = oct o b) : a = b := by
  cases a <;> cases b <;> simp [oct] at h ⊢ <;> omega
theorem byB_inj {o : Int} (h0 : 0 ≤ o ∧ o < 256) {a b : Bool} (h : byB o a = byB o b) : a = b := by
  have h1 : (byB o a).toNat = (byB o b).toNat := by rw [h]
  unfold byB at h1
  simp only [Nat.toUInt8, UInt8.toNat_ofNat'] at h1
  cases a <;> cases b <;> simp [oct] at h1 ⊢ <;> omega
theorem map_byB {o : Int} (h0 : 0 ≤ o ∧ o < 256) : ∀ {l l' : List Bool}, l.map (byB o) = l'.map (byB o) → l = l'
  | [], [], _ => rfl
  | [], _ :: _, h => by simp at h
  | _ :: _, [], h => by simp at h
  | a :: l, b :: l', h => by
    simp only [List.map_cons, List.cons.injEq] at h
    rw [byB_inj h0 h.1, map_byB h0 h.2]
theorem patOf_length (c : Nat) : (patOf c).length = 16 := by simp [patOf, dblP]
theorem idx_lt : ∀ wd ∈ widths, ∀ p < 16, p / wd * wd + (wd - 1 - p % wd) < 16 := by decide
theorem swp_map (f : Bool → UInt8) (l : List Bool) (hl : l.length = 16) {wd : Nat} (hw : wd ∈ widths) : swp (l.map f) wd = (swpB l wd).map f := by
  unfold swp swpB
  rw [List.length_map, List.map_map]
  apply List.map_congr_left
  intro p hp
  have hp := List.mem_range.mp hp
  have hi := idx_lt wd hw p (by omega)
  show (l.map f).getD _ 0 = f (l.getD _ false)
  generalize p / wd * wd + (wd - 1 - p % wd) = q at hi
  have hq : q < l.length := by omega
  rw [List.getD_eq_getElem?_getD, List.getD_eq_getElem?_getD, List.getElem?_map, List.getElem?_eq_getElem hq]
  rfl
theorem pat_swap : ∀ c < 16, ∀ wd ∈ widths, swpB (patOf c) wd = patOf c ∨ swpB (patOf c) wd = (patOf c).map not := by decide +kernel
def toldP (c : Nat) : List Int := widths.map fun wd => if swpB (patOf c) wd = patOf c then 0 else 1
def chgP (c : Nat) : List Int := [0] ++ (rangeKs 1 15).map fun k => if ¬ (patOf c).getD k.toNat false = (patOf c).getD (k - 1).toNat false then 1 else 0
theorem row_bytes (n : Int) : ∀ x ∈ rowOf n, 0 ≤ x ∧ x < 256 := by
  rw [rowOf_pat]
  intro x hx
  obtain ⟨b, _, rfl⟩ := List.mem_map.mp hx
  have := hiO_bd n
  cases b <;> simp [oct] <;> omega
theorem byB_not {o : Int} (b : Bool) : byB o (!b) = (255 - oct o b).toNat.toUInt8 := by
  cases b <;> simp [byB, oct]
  congr 1
  omega
theorem row_turns (n : Int) : ∀ wd ∈ widths, swp (byt (rowOf n)) wd = byt (rowOf n) ∨ swp (byt (rowOf n)) wd = byt ((rowOf n).map fun x => 255 - x) := by
  intro wd hw
  rw [rowOf_pat, byt_oct, swp_map _ _ (patOf_length _) hw]
  rcases pat_swap _ (low4_lt n) wd hw with h | h
  · exact .inl (by rw [h])
  · refine .inr ?_
    rw [h]
    simp only [byt, List.map_map]
    apply List.map_congr_left
    intro b _
    exact byB_not b
theorem row_told (n : Int) : toldOf (byt (rowOf n)) = toldP (low4 n) := by
  unfold toldOf toldP
  apply List.map_congr_left
  intro wd hw
  rw [rowOf_pat, byt_oct, swp_map _ _ (patOf_length _) hw]
  by_cases h : swpB (patOf (low4 n)) wd = patOf (low4 n)
  · rw [if_pos h, if_pos (by rw [h])]
  · rw [if_neg h, if_neg fun e => h (map_byB (hiO_bd n) e)]
theorem getD_oct (o : Int) (l : List Bool) {q : Nat} (h : q < l.length) : (l.map (oct o)).getD q 0 = oct o (l.getD q false) := by
  rw [List.getD_eq_getElem?_getD, List.getD_eq_getElem?_getD, List.getElem?_map, List.getElem?_eq_getElem h]
  rfl
theorem row_chg (n : Int) : chgOf (rowOf n) = chgP (low4 n) := by
  unfold chgOf chgP
  congr 1
  apply List.map_congr_left
  intro k hk
  have hk := mem_rangeKs hk
  have hl := patOf_length (low4 n)
  rw [rowOf_pat, getD_oct _ _ (by omega), getD_oct _ _ (by omega)]
  by_cases h : (patOf (low4 n)).getD k.toNat false = (patOf (low4 n)).getD (k - 1).toNat false
  · rw [if_neg (fun e => e (by rw [h])), if_neg (fun e => e h)]
  · rw [if_pos (fun e => h (oct_inj e)), if_pos h]
/-- the count of a pattern -/
def cntP (c : Nat) : Nat := (chgP c).sum.toNat
def grayP (c : Nat) : Nat := (Builtin.bitXor (cntP c : Int) ((cntP c : Int).fdiv 2)).toNat
theorem fine_1 : ∀ c < 16, cntP c < 16 ∧ (chgP c).sum = (cntP c : Int) ∧ 8 * (toldP c).getD 0 0 + 4 * (toldP c).getD 1 0 + 2 * (toldP c).getD 2 0 + (toldP c).getD 3 0 = (cntP c : Int) := by decide +kernel
theorem fine_2 : ∀ i : Nat, i < 15 → ∃ b : Nat, b < 4 ∧ (Builtin.Int.intBits (Builtin.bitXor (1 + (i : Int) * 1) (1 + (i : Int) * 1 - 1)) : Int) - 1 = b ∧ ∀ c < 16, (toldP c).getD b 0 = (chgP c).getD (1 + i) 0 := by
  have h : ∀ i : Nat, i < 15 → ∃ b : Fin 4, (Builtin.Int.intBits (Builtin.bitXor (1 + (i : Int) * 1) (1 + (i : Int) * 1 - 1)) : Int) - 1 = (b.val : Int) ∧ ∀ c < 16, (toldP c).getD b.val 0 = (chgP c).getD (1 + i) 0 := by decide +kernel
  intro i hi
  obtain ⟨b, h1, h2⟩ := h i hi
  exact ⟨b.val, b.isLt, h1, h2⟩
theorem fine_3 : ∀ c < 16, grayP c < 16 ∧ Builtin.bitXor (cntP c : Int) ((cntP c : Int).fdiv 2) = (grayP c : Int) ∧ swp (byt (figs c)) 4 = byt (figs (grayP c)) ∧
    (Builtin.bitAnd ((cntP c : Int) + 1) ((cntP c : Int) + 1 - 1) == 0) = decide ((figs c).sum < 2) := by decide +kernel
/-- the first place, reckoned -/
def firstP (xs ys : List Int) : Nat := ((List.range 16).find? fun i => decide (1 ≤ i) && decide (xs.getD i 0 ≠ ys.getD i 0)).getD 16
def apartP (a b : Nat) : Int := Builtin.bitXor (cntP a : Int) (cntP b : Int)
theorem fine_4 : ∀ a < 16, ∀ b < 16, ∃ v : Fin 5, (Builtin.Int.intBits (apartP a b) : Int) - 1 = (v.val : Int) - 1 ∧ ((firstP (chgP a) (chgP b) : Nat) : Int) = 2 ^ (4 - v.val) := by decide +kernel
theorem firstAt_eq {xs ys : List Int} {j : Nat} (h : FirstAt xs ys j) : j = firstP xs ys := by
  unfold firstP
  rcases h with ⟨rfl, h⟩ | ⟨h1, h2, h3, h4⟩
  · have : (List.range 16).find? (fun i => decide (1 ≤ i) && decide (xs.getD i 0 ≠ ys.getD i 0)) = none := by
      rw [List.find?_eq_none]
      intro i hi
      have hi := List.mem_range.mp hi
      by_cases h0 : 1 ≤ i
      · have e := h i h0 hi
        rw [decide_eq_false (p := xs.getD i 0 ≠ ys.getD i 0) (fun q => q e), Bool.and_false]
        exact Bool.false_ne_true
      · simp [h0]
    rw [this]
    rfl
  · have : (List.range 16).find? (fun i => decide (1 ≤ i) && decide (xs.getD i 0 ≠ ys.getD i 0)) = some j := by
      rw [List.find?_range_eq_some]
      refine ⟨by rw [decide_eq_true h1, decide_eq_true h3]; rfl, List.mem_range.mpr h2, fun i hi => ?_⟩
      by_cases h0 : 1 ≤ i
      · have e := h4 i h0 hi
        rw [decide_eq_false (p := xs.getD i 0 ≠ ys.getD i 0) (fun q => q e), Bool.and_false]
        rfl
      · simp [h0]
    rw [this]
    rfl
end Mine
namespace Mine
local macro_rules | `(tactic| walk_at "go") => `(tactic| ((try k_fold); repeat' (first | (k_unfold; (try dsimp only)) | (walk1; all_goals (try dsimp only); all_goals (try (show wpAny _ _ _ _ _ _))) | (dsimp only; walk1) | (dsimp only; k_unfold))))
section
variable {w : World} {A : Around} {s : Shared} {E : Value → Shared → Prop} {p : Program} {loose : List Str} {mg mb : Str → Option Value} {Q : Value → Shared → Prop}
local macro_rules | `(tactic| walk_at "go0") => `(tactic| ((try k_fold); repeat' (first | (k_unfold; (try dsimp only)) | walk1 | (dsimp only; walk1) | (dsimp only; k_unfold))))
theorem law_row_K {h₀ : Heap} {L : Addr} {m : Str → Option Value} {news : List (Addr × Obj)} (X : (hd.heap_39 w.params).In h₀) (T : TopRead p loose mg mb h₀) (F : Fr h₀ L s.heap m) (N : News h₀ L s.heap news) (hr : A.depth < recursionLimit) (hh : A.handled = none) {n : Int} {t : Tok}
   (h : ∀ h' k r vs, Fr h₀ L h' m → News h₀ L h' ((r, lst vs) :: news) → IntsAre vs (rowOf n) → (∀ p ∈ news, p.1 ≠ r) → Q (.ref r) { s with heap := h', toks := k }) :
   wpAny (model PP w) A (call (.ref 40) [.int n t]) Q E s :=
  law_row (X.keeps F.keep) (T.keeps F.keep) hr hh fun h' k r vs hk hrn hrg hiv => h h' k r vs (fr_kept F hk) (news_more F N hk hrg hrn) hiv (news_ne N hrn)
theorem law_changes_K {h₀ : Heap} {L : Addr} {m : Str → Option Value} {news : List (Addr × Obj)} (X : (hd.heap_39 w.params).In h₀) (T : TopRead p loose mg mb h₀) (F : Fr h₀ L s.heap m) (N : News h₀ L s.heap news) (hr : A.depth < recursionLimit) (hh : A.handled = none) {l : Addr} {vs : List Value} {ns : List Int} (hm : (l, lst vs) ∈ news) (hi : IntsAre vs ns) (hn : ns.length = 16)
   (h : ∀ h' k r vs, Fr h₀ L h' m → News h₀ L h' ((r, lst vs) :: news) → IntsAre vs (chgOf ns) → (∀ p ∈ news, p.1 ≠ r) → Q (.ref r) { s with heap := h', toks := k }) :
   wpAny (model PP w) A (call (.ref 50) [.ref l]) Q E s :=
  law_changes (X.keeps F.keep) (T.keeps F.keep) hr hh ⟨_, (N _ hm).1, rfl, _, rfl⟩ hi hn fun h' k r vs hk hrn hrg hiv => h h' k r vs (fr_kept F hk) (news_more F N hk hrg hrn) hiv (news_ne N hrn)
theorem law_turns_K {h₀ : Heap} {L : Addr} {m : Str → Option Value} {news : List (Addr × Obj)} (X : (hd.heap_39 w.params).In h₀) (T : TopRead p loose mg mb h₀) (F : Fr h₀ L s.heap m) (N : News h₀ L s.heap news) (hr : A.depth + 2 < recursionLimit) (hh : A.handled = none) (hg : A.guards = some []) {l : Addr} {vs : List Value} {ns : List Int} (hm : (l, lst vs) ∈ news) (hi : IntsAre vs ns) (hn : ns.length = 16)
   (hb : ∀ n ∈ ns, 0 ≤ n ∧ n < 256) (hs : ∀ wd ∈ widths, swp (byt ns) wd = byt ns ∨ swp (byt ns) wd = byt (ns.map fun x => 255 - x))
   (h : ∀ h' k r vs c, Fr h₀ L h' m → News h₀ L h' ((r, listOf vs.toArray c) :: news) → IntsAre vs (toldOf (byt ns)) → (∀ p ∈ news, p.1 ≠ r) → Q (.ref r) { s with heap := h', toks := k }) :
   wpC (model PP w) A (call (.ref 45) [.ref l]) Q s :=
  law_turns (X.keeps F.keep) (T.keeps F.keep) hr hh hg ⟨_, (N _ hm).1, rfl, _, rfl⟩ hi hn hb hs fun h' k r vs c hk hrn hrg hiv => h h' k r vs c (fr_kept F hk) (news_more F N hk hrg hrn) hiv (news_ne N hrn)
local macro_rules | `(tactic| walk_at "call ref") => `(tactic| refine Stop.go ?_)
local macro_rules | `(tactic| walk_at "pyIter ref") => `(tactic| refine Stop.go ?_)
theorem wpC.isTrueNot {M : Model} {env : Env} {x : Expr} {pos : Pos} {whole : Sem Value} {Q : Bool → Shared → Prop} (h : wpC M A (isTrue x env (eval x env)) (fun c s' => Q (!c) s') s) : wpC M A (isTrue (.UnaryOp .Not x pos) env whole) Q s := by
  show wpC M A (do return !(← isTrue x env (eval x env))) Q s
  exact .bind (.mono h fun c s' h' => .pure h')
theorem wpC.isTruePlain {M : Model} {env : Env} {e : PySem.Expr} {whole : Sem Value} {Q : Bool → Shared → Prop} (h : wpC M A whole (fun v s₁ => wpAny M A (truthy v) Q No s₁) s)
    (he : isTrue e env whole = (do let v ← whole; PySem.standAt e.pos; PySem.holding [v] (truthy v)) := by rfl) : wpC M A (isTrue e env whole) Q s := by
  rw [he]
  exact .bind (.mono h fun v s₁ h₁ => wpC.standAt (.of (wpAny_holding h₁)))
theorem rowOf_length (n : Int) : (rowOf n).length = 16 := by simp [rowOf, dbl]
theorem law_one_row_K {h₀ : Heap} {L : Addr} {m : Str → Option Value} {news : List (Addr × Obj)} (X : (hd.heap_39 w.params).In h₀) (T : TopRead p loose mg mb h₀) (F : Fr h₀ L s.heap m) (N : News h₀ L s.heap news) (hr : A.depth + 3 < recursionLimit) (hh : A.handled = none) (hg : A.guards = some []) {n : Int} {tn : Tok} {lt lc : Addr} {vt vc : List Value} {e : Nat}
   (hmt : (lt, listOf vt.toArray e) ∈ news) (hit : IntsAre vt (toldOf (byt (rowOf n)))) (hmc : (lc, lst vc) ∈ news) (hic : IntsAre vc (chgOf (rowOf n)))
   (h : ∀ h' k, Fr h₀ L h' m → News h₀ L h' news → Q (.bool true) { s with heap := h', toks := k }) :
   wpC (model PP w) A (call (.ref 62) [.int n tn, .ref lt, .ref lc]) Q s := by
  rw [row_told] at hit
  rw [row_chg] at hic
  have hc := low4_lt n
  obtain ⟨h1, h2, h3⟩ := fine_1 _ hc
  obtain ⟨g1, g2, g3, g4⟩ := fine_3 _ hc
  refine law_one_row (X.keeps F.keep) (T.keeps F.keep) hr hh hg ⟨_, (N _ hmt).1, rfl, _, rfl⟩ (t0 := (toldP (low4 n)).getD 0 0) (t1 := (toldP (low4 n)).getD 1 0) (t2 := (toldP (low4 n)).getD 2 0) (t3 := (toldP (low4 n)).getD 3 0) hit ⟨_, (N _ hmc).1, rfl, _, rfl⟩ hic (by simp [chgP, rangeKs]) h1 h3 h2 (fun i hi => ?_) g1 g2
    (by rw [numFigs_low]; exact g3) (by rw [numFigs_low]; exact g4) fun h' k hk => h h' k (fr_kept F hk) (news_kept N hk)
  obtain ⟨b, b1, b2, b3⟩ := fine_2 i hi
  exact ⟨b, b1, b2, b3 _ hc⟩
abbrev patLed (c : List (Addr × List Value)) : List (Addr × Obj) := c.map fun q => (q.1, lst q.2)
theorem law_ok (X : (hd.heap_39 w.params).In s.heap) (T : TopRead p loose mg mb s.heap) (hr : A.depth + 5 < recursionLimit) (hh : A.handled = none) (hg : A.guards = some []) {l : Addr} {vs : List Value} {ns : List Int} (hl : s.heap.IsList l vs.toArray) (hi : IntsAre vs ns) (hn : ns.length ≤ 63)
   (h : ∀ h' k, Kept s.heap h' → Q (.bool true) { s with heap := h', toks := k }) :
   wpC (model PP w) A (call (.ref 76) [.ref l]) Q s := by
  refine .call ?_
  refine enterC (binds := [("script", .ref l)]) X T.nolimit (by with_unfolding_all rfl) (by k_is) (by omega) (BindsTo.of_eq rfl) (locs rfl) ?_
  intro L h₁ F N
  obtain ⟨ha, d, fr, gs, un⟩ := A
  cases hh
  cases hg
  have hvl : vs.length = ns.length := hi.length
  refine .execs_any ?_
  walk_at "go0"
  refine .execs_any ?_
  walk_at "go"
  refine .execs_cons (.for_ ?_)
  walk_at "go"
  constructor
  rename Fr _ _ _ _ => F
  rename News _ _ _ _ => N
  rename_i Nl wn h3 hIn l1a h4 qkx ekx Pl h5 l1b h6
  have N0 : News s.heap L h6 ((Nl, lst wn) :: (Pl, listOf #[] 0) :: []) := fun q hq => N q (by
    rcases List.mem_cons.mp hq with rfl | hq
    · exact .tail _ (.head _)
    · rcases List.mem_cons.mp hq with rfl | hq
      · exact .head _
      · cases hq)
  refine ks_listC (fun c : List (Addr × List Value) × Nat => (Nl, lst wn) :: (Pl, listOf (c.1.map fun q => Value.ref q.1).toArray c.2) :: patLed c.1) (fun _ => []) ["row", "changes"]
    (fun i c => c.1.length = i ∧ (∀ q ∈ patLed c.1, q.1 ≠ Pl) ∧ ∀ (j : Nat) (q : Addr × List Value), c.1[j]? = some q → ∃ n, ([0, 1238, 3213] ++ List.take 3 ns)[j]? = some n ∧ IntsAre q.2 (chgOf (rowOf n))) ([], 0)
    rfl rfl rfl (.inr fun c => ⟨0, .head _⟩) F N0 (by intro q hq; cases hq) ⟨rfl, fun q hq => (nomatch hq), by intro j q hq; simp at hq⟩ ?_ ?_
  · rintro ⟨c, e⟩ i v u₆ h₆ tk₆ I oI hv ⟨hci, hcp, hcs⟩ hne F N
    dsimp only at hci hcp hcs F N hne
    obtain ⟨n, tn, rfl, hnn⟩ := IntsAre.at hIn i v (by simpa using hv)
    refine .execs_any ?_
    walk_at "go"
    constructor
    refine' law_row_K X T ?k1 ?k2 ?k3 rfl ?_
    case k1 => assumption
    case k2 => assumption
    case k3 => (simp only [depth_deeper] at *); omega
    clear F N
    intro h₃ k₃ rR vR F N hiR hneR
    walk_at "go"
    refine .execs_any ?_
    walk_at "go"
    constructor
    refine' law_changes_K X T ?k1 ?k2 ?k3 rfl ?k4 hiR (rowOf_length _) ?_
    case k1 => assumption
    case k2 => assumption
    case k3 => (simp only [depth_deeper] at *); omega
    case k4 => k_mem
    clear F N
    intro h₄ k₄ rC vC F N hiC hneC
    walk_at "go"
    refine .execs_cons (.if_ (.isTrueNot (.isTruePlain (.callName rfl ?_))))
    walk_at "go"
    refine .callF (K := hd.heap_39 w.params) (by k_is) (.spliced_cons (.of (bm_if_false rfl ?_)))
    walk_at "go"
    refine .spliced_cons (if_no rfl (.callName rfl ?_))
    walk_at "go"
    refine .callF (K := hd.heap_39 w.params) (by k_is) (.of ?_)
    walk_at "go"
    have hil : i < 6 := by
      have h1 : i < ([0, 1238, 3213] ++ List.take 3 ns).length := (List.getElem?_eq_some_iff.mp hnn).1
      simp only [List.length_append, List.length_take, List.length_cons, List.length_nil] at h1
      omega
    refine' law_turns_K X T ?k1 ?k2 ?k3 rfl rfl ?k4 ?k5 (rowOf_length _) (row_bytes _) (row_turns _) ?_
    case k1 => assumption
    case k2 => assumption
    case k3 => (simp only [depth_deeper] at *); omega
    case k4 => k_mem
    case k5 => assumption
    intro h₇ k₇ r₇ vs₇ c₇ F₇ N₇ hi₇ hne₇
    refine .of ?_
    walk_at "go"
    refine' law_one_row_K X T ?k1 ?k2 ?k3 rfl rfl ?k4 ?k5 ?k6 ?k7 ?_
    case k1 => assumption
    case k2 => assumption
    case k3 => (simp only [depth_deeper] at *); omega
    case k4 => k_mem
    case k5 => assumption
    case k6 => k_mem
    case k7 => assumption
    intro h₈ k₈ F₈ N₈
    walk_at "go"
    refine .of (wpAny_execs_nil ?_)
    refine .of ?_
    walk_at "go"
    have hPI : @Ne Nat Pl I := hne _ (.tail _ (.head _))
    have hNI : @Ne Nat Nl I := hne _ (.head _)
    have hPC : @Ne Nat Pl rC := hneC _ (.tail _ (.tail _ (.tail _ (.head _))))
    have hPR : @Ne Nat Pl rR := hneR _ (.tail _ (.tail _ (.head _)))
    have hP7 : @Ne Nat Pl r₇ := hne₇ _ (.tail _ (.tail _ (.tail _ (.tail _ (.head _)))))
    have hPN : @Ne Nat Pl Nl := by have := l1b.1; omega
    have hcz : c.length ≤ 6 := by omega
    refine' append_K ?k1 ?k2 ?k3 ?_ ?z
    case k1 => assumption
    case k2 => assumption
    case k3 => exact .tail hP7.symm (.tail hPC.symm (.tail hPR.symm (.tail hPI.symm (.tail hPN.symm (.head hcp)))))
    case z => rw [List.size_toArray, List.length_map, sizeLine_eq]; omega
    intro h₉ F₉ N₉
    walk_at "go"
    rename Nat => tk
    rw [List.push_toArray] at N₉
    have eC : List.map (fun q : Addr × List Value => Value.ref q.1) c ++ [Value.ref rC] = List.map (fun q : Addr × List Value => Value.ref q.1) (c ++ [(rC, vC)]) := by rw [List.map_append]; rfl
    rw [eC] at N₉
    have hCI : @Ne Nat rC I := (hneC _ (.tail _ (.head _))).symm
    refine ksC_end (c ++ [(rC, vC)], e + 1) F₉ N₉ (.tail _ (.tail _ (.tail _ (.head _)))) ?_ ?_ (by intro q hq; cases hq) ?_ ⟨by rw [List.length_append, hci]; rfl, ?_, ?_⟩
    · intro q hq
      rcases List.mem_cons.mp hq with rfl | hq
      · exact .tail _ (.tail _ (.tail _ (.tail _ (.head _))))
      rcases List.mem_cons.mp hq with rfl | hq
      · exact .tail _ (.tail _ (.tail _ (.tail _ (.tail _ (.head _)))))
      · rw [show patLed (c ++ [(rC, vC)]) = patLed c ++ [(rC, lst vC)] by simp [patLed]] at hq
        rcases List.mem_append.mp hq with hq | hq
        · exact .tail _ (.tail _ (.tail _ (.tail _ (.tail _ (.tail _ hq)))))
        · rw [List.mem_singleton.mp hq]
          exact .tail _ (.head _)
    · intro q hq
      rcases List.mem_cons.mp hq with rfl | hq
      · exact hNI
      rcases List.mem_cons.mp hq with rfl | hq
      · exact hPI
      · rw [show patLed (c ++ [(rC, vC)]) = patLed c ++ [(rC, lst vC)] by simp [patLed]] at hq
        rcases List.mem_append.mp hq with hq | hq
        · exact hne q (.tail _ (.tail _ hq))
        · rw [List.mem_singleton.mp hq]
          exact hCI
    · intro z h1 h2 h3
      have hz1 : z ≠ "row" := by rintro rfl; exact absurd h3 (by decide)
      have hz2 : z ≠ "changes" := by rintro rfl; exact absurd h3 (by decide)
      rw [if_neg hz2, if_neg hz1, if_neg h1]
      show (if List.contains (["row", "changes"] : List Str) z = true then _ else _) = _
      rw [h3]
      rfl
    · intro q hq
      rw [show patLed (c ++ [(rC, vC)]) = patLed c ++ [(rC, lst vC)] by simp [patLed]] at hq
      rcases List.mem_append.mp hq with hq | hq
      · exact hcp q hq
      · rw [List.mem_singleton.mp hq]
        exact hPC.symm
    · intro j q hq
      by_cases hj : j < c.length
      · rw [List.getElem?_append_left hj] at hq
        exact hcs j q hq
      · rw [List.getElem?_append_right (by omega)] at hq
        have hj0 : j - c.length = 0 := by
          by_cases h0 : j - c.length = 0
          · exact h0
          · rw [List.getElem?_eq_none (by simp; omega)] at hq
            cases hq
        rw [hj0] at hq
        cases hq
        have hji : j = i := by omega
        exact ⟨n, hji ▸ hnn, hiC⟩
  · rintro ⟨c, e⟩ u₆ h₆ tk₆ ⟨hci, hcp, hcs⟩ F N
    dsimp only at hci hcp hcs F N
    have hcz : c.length ≤ 6 := by
      have hw := hIn.length
      simp only [List.length_append, List.length_take, List.length_cons, List.length_nil] at hw
      simp only [List.size_toArray] at hci
      omega
    have hcx : ∀ (j : Nat) (q : Addr × List Value), c[j]? = some q → ∃ x, x < 16 ∧ IntsAre q.2 (chgP x) := by
      intro j q hq
      obtain ⟨n, _, hn⟩ := hcs j q hq
      rw [row_chg] at hn
      exact ⟨_, low4_lt n, hn⟩
    refine .of ?_
    walk_at "go"
    refine len_list (News.isList (by assumption) (.tail _ (.head _))) (by rw [List.size_toArray, List.length_map]; omega) ?_
    walk_at "go"
    constructor
    rename IsRange _ _ _ _ _ _ _ _ => hR
    rename Fr _ _ _ _ => F
    rename News _ _ _ _ => N
    have hlm : (List.map (fun q : Addr × List Value => Value.ref q.1) c).length = c.length := List.length_map _
    refine ks_range (fun _ : Unit => (Nl, lst wn) :: (Pl, listOf (List.map (fun q => Value.ref q.1) c).toArray e) :: patLed c) (fun _ => []) ["b", "apart"] (fun _ _ => True) () rfl hR (small_step (by omega) (by omega) (by omega) (by omega) (by omega) (by omega)) (n := c.length)
      (by rw [rangeSize_one]; split <;> omega) F N (by intro q hq; cases hq) trivial ?_ ?_
    · intro _ i t₂ u₂ h₃ tk₃ own hi₂ hoff _ F N
      clear hR
      walk_at "go"
      constructor
      rename IsRange _ _ _ _ _ _ _ _ => hR
      rename Fr _ _ _ _ => F
      rename News _ _ _ _ => N
      refine ks_range (fun _ : Unit => ((Nl, lst wn) :: (Pl, listOf (List.map (fun q => Value.ref q.1) c).toArray e) :: patLed c) ++ own) (fun _ => []) ["apart"] (fun _ _ => True) () rfl hR (small_step (by omega) (by omega) (by omega) (by omega) (by omega) (by omega)) (n := i)
        (by rw [rangeSize_one]; split <;> omega) F N (by intro q hq; cases hq) trivial ?_ ?_
      · intro _ j t₂ u₂ h₃ tk₃ own₂ hj₂ hoff₂ _ F N
        clear hR
        obtain ⟨⟨ra, va⟩, hqa⟩ : ∃ q, c[i]? = some q := ⟨_, List.getElem?_eq_getElem hi₂⟩
        obtain ⟨⟨rb, vb⟩, hqb⟩ : ∃ q, c[j]? = some q := ⟨_, List.getElem?_eq_getElem (by omega)⟩
        obtain ⟨xa, hxa, hia⟩ := hcx _ _ hqa
        obtain ⟨xb, hxb, hib⟩ := hcx _ _ hqb
        dsimp only at hia hib
        have hga : (List.map (fun q : Addr × List Value => Value.ref q.1) c)[(0 + (i : Int) * 1).toNat]? = some (.ref ra) := by
          rw [show (0 + (i : Int) * 1).toNat = i by omega, List.getElem?_map, hqa]; rfl
        have hgb : (List.map (fun q : Addr × List Value => Value.ref q.1) c)[(0 + (j : Int) * 1).toNat]? = some (.ref rb) := by
          rw [show (0 + (j : Int) * 1).toNat = j by omega, List.getElem?_map, hqb]; rfl
        have hma : (ra, lst va) ∈ patLed c := List.mem_map.mpr ⟨_, List.mem_of_getElem? hqa, rfl⟩
        have hmb : (rb, lst vb) ∈ patLed c := List.mem_map.mpr ⟨_, List.mem_of_getElem? hqb, rfl⟩
        generalize hall : (((Nl, lst wn) :: (Pl, listOf (List.map (fun q => Value.ref q.1) c).toArray e) :: patLed c) ++ own) ++ own₂ = all at N
        have hPm : (Pl, listOf (List.map (fun q => Value.ref q.1) c).toArray e) ∈ all := by rw [← hall]; exact List.mem_append_left _ (List.mem_append_left _ (.tail _ (.head _)))
        have hAm : (ra, lst va) ∈ all := by rw [← hall]; exact List.mem_append_left _ (List.mem_append_left _ (.tail _ (.tail _ hma)))
        have hBm : (rb, lst vb) ∈ all := by rw [← hall]; exact List.mem_append_left _ (List.mem_append_left _ (.tail _ (.tail _ hmb)))
        replace N : News s.heap L h₃ ((Pl, listOf (List.map (fun q => Value.ref q.1) c).toArray e) :: (ra, lst va) :: (rb, lst vb) :: all) := List.forall_mem_cons.mpr ⟨N _ hPm, List.forall_mem_cons.mpr ⟨N _ hAm, List.forall_mem_cons.mpr ⟨N _ hBm, N⟩⟩⟩
        obtain ⟨fa1, fa2, fa3⟩ := fine_1 _ hxa
        obtain ⟨fb1, fb2, fb3⟩ := fine_1 _ hxb
        walk_at "go"
        refine item_listL (News.isList (by assumption) (.head _)) (by omega) (by omega) hga ?_
        walk_at "go"
        refine item_listL (News.isList (by assumption) (.head _)) (by omega) (by omega) hgb ?_
        walk_at "go"
        refine item_listL (News.isList (by assumption) (.head _)) (by omega) (by omega) hga ?_
        walk_at "go"
        refine item_listL (News.isList (by assumption) (.head _)) (by omega) (by omega) hgb ?_
        walk_at "go"
        constructor
        rename Fr _ _ _ _ => F
        rename News _ _ _ _ => N
        have hla : (chgP xa).length = 16 := by simp [chgP, rangeKs]
        have hlb : (chgP xb).length = 16 := by simp [chgP, rangeKs]
        refine law_first (X.keeps F.keep) (T.keeps F.keep) ((by simp only [depth_deeper] at *; omega)) rfl (News.isList N (.tail _ (.head _))) hia hla (News.isList N (.tail _ (.tail _ (.head _)))) hib hlb fun h₅ k₅ jf t₅ hk₅ hjf => ?_
        replace F := fr_kept F hk₅
        replace N := news_kept N hk₅
        obtain ⟨v, hv1, hv2⟩ := fine_4 _ hxa _ hxb
        rw [firstAt_eq hjf]
        have hap : Builtin.bitXor (chgP xa).sum (chgP xb).sum = apartP xa xb := by rw [fa2, fb2]; rfl
        rw [hap] at F
        clear hk₅
        walk_at "go"
        constructor
        refine' high_bit_K X T ?k1 ?k2 ?k3 hv1 ?_
        case k1 => assumption
        case k2 => assumption
        case k3 => (simp only [depth_deeper] at *); omega
        have hv5 := v.isLt
        intro h₆ k₆ t₆ F₆ N₆
        walk_at "go"
        · rename_i hneq
          rw [show (3 - ((v.val : Int) - 1)).toNat = 4 - v.val by omega] at hneq
          exact absurd hv2 hneq
        · rename Fr _ _ _ _ => F
          rename News _ _ _ _ => N
          refine ks_end () F N ?_ ?_ rfl (by intro q hq; cases hq) ?_ trivial
          · intro q hq
            refine .tail _ (.tail _ (.tail _ ?_))
            rw [← hall]
            exact List.mem_append_left _ hq
          · intro q hq
            refine .tail _ (.tail _ (.tail _ ?_))
            rw [← hall]
            exact List.mem_append_right _ hq
          · intro z h1 h2 h3
            have hz : z ≠ "apart" := by rintro rfl; exact absurd h3 (by decide)
            rw [if_neg hz, if_neg h1]
            show (if List.contains (["apart"] : List Str) z = true then _ else _) = _
            rw [h3]
            rfl
      · intro _ u₂ h₃ tk₃ _ F N
        clear hR
        walk_at "go"
        rename Fr _ _ _ _ => F
        rename News _ _ _ _ => N
        refine ks_end () F N (fun q hq => List.mem_append_left _ hq) (fun q hq => List.mem_append_right _ hq) rfl (by intro q hq; cases hq) ?_ trivial
        intro z h1 h2 h3
        have hz : z ≠ "b" := by rintro rfl; exact absurd h3 (by decide)
        have hz2 : z ≠ "apart" := by rintro rfl; exact absurd h3 (by decide)
        rw [if_neg hz]
        show (if List.contains (["apart"] : List Str) z = true then _ else _) = _
        rw [show List.contains (["apart"] : List Str) z = false by simp [hz2]]
        show (if z = "a" then _ else _) = _
        rw [if_neg h1]
        show (if List.contains (["b", "apart"] : List Str) z = true then _ else _) = _
        rw [h3]
        rfl
    · intro _ u₂ h₃ tk₃ _ F N
      clear hR
      walk_at "go"
      rename Fr _ _ _ _ => F
      exact h _ _ F.keep
end
end Mine
namespace Mine
theorem hk : ∀ P, [2, 3, 6, 15, 17, 18, 20, 21, 22, 24, 25, 27, 28, 29, 31, 32, 34, 35, 36, 39, 40, 41, 44, 45, 46, 49, 50, 51, 53, 54, 56, 57, 58, 61, 62, 63, 65, 66, 68, 69, 70, 72, 73, 75, 76] = (hd.heap_39 P).map (·.1) := fun _ => by kernel_rfl
noncomputable abbrev theX : Shared → Bool := fun s => xlAt hd.view_39 [] s && recOk (RowW.records PySem.Challenge.rw_rl0003_02.row.toRowW) s
noncomputable abbrev theH : Hook := kHook hd.heap_39 _ hk
theorem left : LeftO PP hd.view_39 [] theX theH.obs theH.val 880 := by
  intro w
  kernel_rfl
end Mine
theorem PySem.Challenge.cw_rl0003_02_holds : PySem.Challenge.rw_rl0003_02.Holds := by
  w_on
  o_law
  refine Mine.rowC (q := Mine.hd.view_39) (loose := []) (Xt := Mine.theX) (XP := XL Mine.hd.view_39 []) (Yf := Mine.theH.obs) (Ya := Mine.theH.val) (YP := Mine.theH.says) (N := 880) Mine.left (Hook.of Mine.theH) (Hook.keeps Mine.theH) (fun s e => xl_of s (Bool.and_eq_true_iff.mp e).1) XL.keeps (by rfl) (by rfl) (by rfl) (fun s e => recFacts_of (Bool.and_eq_true_iff.mp e).2) (by rfl) (by first | assumption | decide +kernel) (by decide +kernel) ⟨rfl, rfl, rfl, rfl, rfl, by decide +kernel⟩ ?hw ?hc
  case hw => w_witness2
  case hc =>
    intro w s₀ s₁ mg mb G Y fa hmg hg args vals as hpre hlay hrd hwl hlo
    have X := kIn_of Y
    refine Ground.open G ?_
    intro T B D TE TW
    have ha := (mg_of X (Top.g T) (n := "law") (v := .ref 76) (by k_is)).symm.trans hmg
    cases ha
    wrow_args hpre hlay hrd hwl hlo
    rename IntsAre _ _ => hI
    rename Heap.IsList _ _ _ => hL
    have hlen : ∀ n : Nat, ¬ ((63 : Nat) : Int) < (n : Int) → n ≤ 63 := fun n h => by omega
    refine Mine.law_ok X (topRead_of T) (by decide) rfl rfl hL hI (hlen _ (by assumption)) fun h' k hk => ?_
    refine GoodW.toG ⟨.inl ⟨_, .bool true, [], rfl, ?_, .bool true, ?_, fun _ => ⟨.nil, fun _ hx => (nomatch hx)⟩⟩, hk, rfl, hg⟩
    · first | exact fun _ => rfl | exact fun _ => allW_false_nil
    · first | rfl | wrow_post
