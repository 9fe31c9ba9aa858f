import PyProof.Rows.All
import Wide.All
import OpenK.AllK
import Wide.FinOn
import PySem.Challenge.RW_rl0003_01
open PySem PySem.W PyProof.Rows
set_option Elab.async false
set_option maxRecDepth 100000
set_option maxHeartbeats 8000000
namespace Mine
open Sem (wp)

/-! ## contexts beneath which no decoder holds a bytearray -/
def Dec : Code → Bool
  | .builtin id _ => Builtin.Bytes.decodersThatHold.contains id
  | _ => false
def ClB (Γ : Ctx) : Prop := ∀ x ∈ Γ.below, Dec x.1 = false
def Cl (Γ : Ctx) : Prop := Dec Γ.code = false ∧ ClB Γ

abbrev No : Value → Shared → Prop := fun _ _ => False

def wpC {α : Type} (M : Model) (A : Around) (t : Sem α) (Q : α → Shared → Prop) (s : Shared) : Prop :=
  ∀ Γ p, Γ.In A → Cl Γ → wp M Γ t (fun a _ s' => Q a s') (fun _ _ _ => False) p s
def codeC (M : Model) (A : Around) (c : Code) (R : Result → Shared → Prop) (s : Shared) : Prop :=
  ∀ Γ p, Γ.code = c → Γ.Below A → ClB Γ → wpCode M Γ R p s

section
variable {α β : Type} {M : Model} {A : Around} {s : Shared}
theorem wpC.of {t : Sem α} {Q : α → Shared → Prop} (h : wpAny M A t Q No s) : wpC M A t Q s := fun Γ p hΓ _ => h Γ p hΓ
theorem codeC.of {c : Code} {R : Result → Shared → Prop} (h : codeAny M A c R s) : codeC M A c R s := fun Γ p hc hΓ _ => h Γ p hc hΓ
theorem wpC.mono {t : Sem α} {Q Q' : α → Shared → Prop} (h : wpC M A t Q s) (hQ : ∀ a s, Q a s → Q' a s) : wpC M A t Q' s :=
  fun Γ p hΓ hc => Sem.wp_mono M Γ t (fun a _ s => hQ a s) (fun _ _ _ x => x) p s (h Γ p hΓ hc)
theorem codeC.mono {c : Code} {R R' : Result → Shared → Prop} (h : codeC M A c R s) (hR : ∀ r s, R r s → R' r s) : codeC M A c R' s :=
  fun Γ p hc hΓ hl => wpCode_mono hR (h Γ p hc hΓ hl)
theorem wpC.bind {m : Sem α} {f : α → Sem β} {Q : β → Shared → Prop} (h : wpC M A m (fun a s' => wpC M A (f a) Q s') s) : wpC M A (m >>= f) Q s := fun Γ p hΓ hc => by
  rw [Sem.wp_bind']
  exact Sem.wp_mono M Γ m (fun a p' s' h' => h' Γ p' hΓ hc) (fun _ _ _ h' => h') p s (h Γ p hΓ hc)
/-- a first step without a bytearray, then the rest -/
theorem wpC.bindAny {m : Sem α} {f : α → Sem β} {Q : β → Shared → Prop} (h : wpAny M A m (fun a s' => wpC M A (f a) Q s') No s) : wpC M A (m >>= f) Q s := .bind (.of h)
theorem wpC.pure {a : α} {Q : α → Shared → Prop} (h : Q a s) : wpC M A (Pure.pure a) Q s := .of (wpAny_pure h)
theorem wpC.holding {vs : List Value} {m : Sem α} {Q : α → Shared → Prop} (h : wpC M A m Q s) : wpC M A (holding vs m) Q s :=
  fun Γ p hΓ hc => by rw [Sem.wp_holding]; exact h Γ p hΓ hc
theorem wpC.keep {vs : List Value} {m : Sem α} {Q : α → Shared → Prop} (h : wpC M A m Q s) : wpC M A (m.keep vs) Q s :=
  fun Γ p hΓ hc => by rw [Sem.wp_keep]; exact h Γ p hΓ hc
theorem wpC.operate {vs : List Value} {m : Sem Value} {Q : Value → Shared → Prop} (h : wpC M A m Q s) : wpC M A (operate vs m) Q s :=
  fun Γ p hΓ hc => by rw [Sem.wp_operate]; exact h Γ p hΓ hc
theorem wpC.onRaise {m : Sem α} {k : Value → Sem Unit} {Q : α → Shared → Prop} (h : wpC M A m Q s) : wpC M A (m.onRaise k) Q s := fun Γ p hΓ hc => by
  rw [Sem.wp_onRaise]
  exact Sem.wp_mono M Γ m (fun _ _ _ h' => h') (fun _ _ _ h' => h'.elim) p s (h Γ p hΓ hc)
theorem wpC.standAt {pos : Pos} {f : Unit → Sem β} {Q : β → Shared → Prop} (h : wpC M A (f ()) Q s) : wpC M A (standAt pos >>= f) Q s := .bindAny (wpAny_standAt h)
theorem wpC.units {t : Sem α} {Q : α → Shared → Prop} (h : wpC M A.in1 t Q s) : wpC M A t Q s :=
  fun Γ p hΓ hc => h Γ p ⟨hΓ.1, hΓ.2.1, hΓ.2.2.1, hΓ.2.2.2.1, Nat.le_succ_of_le hΓ.2.2.2.2⟩ hc
theorem wpC.eq {t t' : Sem α} {Q : α → Shared → Prop} (e : t = t') (h : wpC M A t' Q s) : wpC M A t Q s := e ▸ h

theorem ClB.enter {Γ : Ctx} (h : Cl Γ) (c : Code) (hd : Option Value) (p : Pos) : ClB (Γ.enter c hd p) := fun x hx => by
  have hx' : x ∈ (Γ.code, p) :: Γ.below := hx
  rcases List.mem_cons.mp hx' with rfl | hx'
  · exact h.1
  · exact h.2 x hx'
theorem mark_none (A : Around) : A.mark none = A := rfl
theorem wpC.run {c : Code} {Q : Flow → Shared → Prop} (h : codeC M A c (fun r s' => match r with | .ok f => Q f s' | .error _ => False) s) : wpC M A (run c none) Q s := fun Γ p hΓ hc => by
  rw [Sem.wp_run]
  refine wpCode_mono (fun r s' x => ?_) (h _ p rfl (hΓ.enter c none p (by intro x; cases x)) (ClB.enter hc c none p))
  cases r with
  | ok f => exact x
  | error e => exact x
theorem wpC.runOwn {c : Code} {env : Env} {Q : Flow → Shared → Prop} (h : codeC M A c (fun r s' => match r with | .ok f => Q f s' | .error _ => False) s) : wpC M A (runOwn c env) Q s := by
  unfold PySem.runOwn
  exact .onRaise (.run h)
theorem wpC.call {f : Value} {pos : List Value} {kw : List (Str × Value)} {Q : Value → Shared → Prop}
    (h : codeC M A (.call f ⟨pos, kw⟩) (fun r s' => match r with | .ok (.ret v) => Q v s' | _ => False) s) : wpC M A (call f pos kw) Q s := fun Γ p hΓ hc => by
  show wp M Γ (runValue (.call f ⟨pos, kw⟩)) _ _ p s
  rw [Sem.wp_runValue]
  refine wpCode_mono (fun r s' x => ?_) (h _ p rfl (hΓ.enter _ none p (by intro x; cases x)) (ClB.enter hc _ none p))
  cases r with
  | ok f => cases f <;> exact x
  | error e => exact x
theorem codeC.tree {c : Code} {R : Result → Shared → Prop} (hd : Dec c = false)
    (h : wpC M (A.under c) (M.den c) (fun fin s' => match fin with | .done f => R (.ok f) s' | .again c' => c'.quiet = true ∧ codeC M A c' R s') s) : codeC M A c R s := fun Γ p hc hΓ hl => by
  rw [wpCode_iff_wp, hc]
  refine Sem.wp_mono M Γ _ (fun fin p' s' h' => ?_) (fun _ _ _ h' => h'.elim) p s (h Γ p (hc ▸ hΓ.in) ⟨hc ▸ hd, hl⟩)
  cases fin with
  | done f => exact h'
  | again c' => exact ⟨h'.1, h'.2 (Γ.goto c') p' rfl (hΓ.goto c') hl⟩
theorem codeC.loop {c : Code} {R : Result → Shared → Prop} (hd : Dec c = false) (hq : c.quiet = true) (I : Nat → Shared → Prop)
    (turn : ∀ n s, I n s → wpC M (A.under c) (M.den c) (fun fin s' => match fin with | .done f => R (.ok f) s' | .again c' => (c' = c ∧ ∃ m, m < n ∧ I m s') ∨ (c'.quiet = true ∧ codeC M A c' R s')) s)
    (n : Nat) (h : I n s) : codeC M A c R s := by
  induction n using Nat.strongRecOn generalizing s with
  | ind n ih =>
    refine codeC.tree hd (.mono (turn n s h) fun fin s' hf => ?_)
    cases fin with
    | done f => exact hf
    | again c' =>
      rcases hf with ⟨rfl, m, hm, hI⟩ | hf
      · exact ⟨hq, ih m hm hI⟩
      · exact hf
end

section
variable {M : Model} {A : Around} {s : Shared} {env : Env} {Q : Flow → Shared → Prop}
theorem wpC.execs_cons {st : Stmt} {rest : List Stmt} (h : wpC M A (exec st env) (fun f s' => match f with | .next => wpC M A (execs rest env) Q s' | f => Q f s') s) : wpC M A (execs (st :: rest) env) Q s := fun Γ p hΓ hc => by
  rw [PySem.execs_cons, Sem.wp_bind']
  refine Sem.wp_mono M Γ _ (fun f p' s' h' => ?_) (fun _ _ _ h' => h') _ _ (h Γ p hΓ hc)
  cases f <;> first | exact h' Γ p' hΓ hc | exact h'
theorem wpC.execs_any {st : Stmt} {rest : List Stmt} (h : wpAny M A (exec st env) (fun f s' => match f with | .next => wpC M A (execs rest env) Q s' | f => Q f s') No s) : wpC M A (execs (st :: rest) env) Q s := .execs_cons (.of h)
theorem wpC.if_ {test : Expr} {body orelse : List Stmt} {pos : Pos} (h : wpC M A (isTrue test env (eval test env)) (fun b s₂ => if b then wpC M A (execs body env) Q s₂ else wpC M A (execs orelse env) Q s₂) s) :
    wpC M A (exec (.If test body orelse pos) env) Q s := by
  rw [exec_If]
  refine .standAt (.bind (.mono h fun b s₂ h₂ => ?_))
  cases b <;> exact h₂
theorem wpC.assign {x : Str} {pos' pos : Pos} {value : Expr} (h : wpC M A (eval value env) (fun v s₁ => wpAny M A (storeName env x v) (fun _ => Q .next) No s₁) s)
    (hs : swapsWith value (some (.Name x pos')) pos.line env = Pure.pure false := by rfl) : wpC M A (exec (.Assign [.Name x pos'] value pos) env) Q s := fun Γ p hΓ hc => by
  simp only [exec_Assign_Name env x pos' value pos hs, Sem.wp_bind', Sem.wp_cmd_standAt, Sem.wp_bindName, Sem.wp_pure']
  exact Sem.wp_mono M Γ _ (fun v _ s₁ h₁ => h₁ Γ _ hΓ) (fun _ _ _ h' => h') _ _ (h Γ _ hΓ hc)
theorem wpC.while_ {test : Expr} {body orelse : List Stmt} {pos : Pos} (h : codeC M A (.whileLoop test body orelse env) (fun r s' => match r with | .ok f => Q f s' | .error _ => False) s) : wpC M A (exec (.While test body orelse pos) env) Q s := by
  rw [exec_While]
  exact .standAt (.runOwn h)
theorem wpC.for_ {target iter : Expr} {body orelse : List Stmt} {pos : Pos}
    (h : wpAny M A (eval iter env) (fun x s₁ => wpAny M A (pyIter x) (fun it s₂ => codeC M A (.forLoop target it body orelse env) (fun r s' => match r with | .ok f => Q f s' | .error _ => False) s₂) No s₁) No s)
    (hs : ∀ x, foldedSetIterable iter env x = Pure.pure x := by intro _; rfl) : wpC M A (exec (.For target iter body orelse pos) env) Q s := by
  rw [exec_For]
  refine .standAt (.bindAny (wpAny_mono h (fun x s₁ h₁ => ?_) fun _ _ e => e))
  rw [hs x]
  refine .bind (.pure (.standAt (.bindAny (wpAny_holding (wpAny_mono h₁ (fun it s₂ h₂ => .runOwn h₂) fun _ _ e => e)))))
end
end Mine
namespace Mine
open Sem (wp)
section
variable {prog : Program} {w : World} {A : Around} {s : Shared} {R : Result → Shared → Prop} {env : Env}
theorem codeC.while_ {test : Expr} {body : List Stmt} (I : Nat → Shared → Prop)
    (turn : ∀ n s, I n s → wpAny (model prog w) A (isTrue test env (eval test env)) (fun b s₂ =>
      if b = true then wpC (model prog w) A (execs body env) (fun f s₃ => match f with
          | .next | .cont => ∃ m, m < n ∧ I m s₃
          | .brk => R (.ok .next) s₃
          | .ret v => R (.ok (.ret v)) s₃) s₂
      else R (.ok .next) s₂) No s)
    (n : Nat) (h : I n s) : codeC (model prog w) A (.whileLoop test body [] env) R s := by
  refine codeC.loop rfl rfl I (fun n s hI => ?_) n h
  show wpC _ A ((whileTurn test body [] env).onRaise (fun x => do noteFrame x env; theTreesLotGoes x)) _ s
  refine .onRaise ?_
  simp only [whileTurn]
  refine .bindAny (wpAny_mono (turn n s hI) (fun b s₂ h₂ => ?_) fun _ _ h' => h')
  cases b with
  | false =>
    simp only [Bool.false_eq_true, if_false] at h₂ ⊢
    exact .bindAny (wpAny_execs_nil (.pure h₂))
  | true =>
    simp only [if_true] at h₂ ⊢
    refine .bind (.mono h₂ fun f s₃ h₃ => ?_)
    cases f with
    | next => exact .pure (.inl ⟨rfl, h₃⟩)
    | cont => exact .pure (.inl ⟨rfl, h₃⟩)
    | brk => exact .pure h₃
    | ret v => exact .pure h₃
theorem codeC.for_ {target : Expr} {it : Value} {body : List Stmt} (I : Nat → Shared → Prop)
    (turn : ∀ n s, I n s → wpAny (model prog w) A (pyNext it) (fun r s₁ => match r with
      | none => R (.ok .next) s₁
      | some v => wpAny (model prog w) A (assign target env v) (fun _ s₂ => wpC (model prog w) A (execs body env) (fun f s₃ => match f with
          | .next | .cont => ∃ m, m < n ∧ I m s₃
          | .brk => R (.ok .next) s₃
          | .ret v => R (.ok (.ret v)) s₃) s₂) No s₁) No s)
    (n : Nat) (h : I n s) (ht : ∀ v, letOwnedTupleGo target it v = Pure.pure () := by intro _; rfl) : codeC (model prog w) A (.forLoop target it body [] env) R s := by
  refine codeC.loop rfl rfl I (fun n s hI => ?_) n h
  show wpC _ A ((forTurn target it body [] env).onRaise (fun x => do noteFrame x env; theTreesLotGoes x)) _ s
  refine .onRaise ?_
  simp only [forTurn]
  refine .standAt (.bindAny (wpAny_onRaise (wpAny_mono (turn n s hI) (fun r s₁ h₁ => ?_) fun _ _ h' => h'.elim)))
  cases r with
  | none => exact .pure (.inr ⟨rfl, .of (codeAny_block (wpAny_execs_nil h₁))⟩)
  | some v =>
    dsimp only at h₁ ⊢
    rw [ht v]
    refine .bind (.pure (.bindAny (wpAny_mono h₁ (fun _ s₂ h₂ => .bind (.mono h₂ fun f s₃ h₃ => ?_)) fun _ _ h' => h')))
    cases f with
    | next => exact .pure (.inl ⟨rfl, h₃⟩)
    | cont => exact .pure (.inl ⟨rfl, h₃⟩)
    | brk => exact .pure h₃
    | ret v => exact .pure h₃
theorem codeC.func {body : List Stmt}
    (h : wpC (model prog w) (A.deeper env) (execs body env) (fun f s' => R (.ok (.ret (match f with | .ret v => v | _ => .none))) s') s) :
    codeC (model prog w) A (.func body env) R s := by
  refine .tree rfl ?_
  show wpC _ (A.deeper env) (do point; match ← (execs body env).onRaise (leaving env) with | .ret v => ret v | _ => ret .none) _ s
  refine .bindAny (wpAny_point (.bind (.onRaise (.mono h fun f s' h' => ?_))))
  cases f <;> exact .pure h'
theorem codeC.call_function {a : Addr} {args : Args} {o : Obj} {fd : FuncData} {body : List Stmt} (hroom : A.depth < recursionLimit)
    (ho : s.heap.get? a = some o)
    (hd' : o.data = .func fd) (hco : fd.scope.isCoroutine = false) (hgen : fd.scope.isGenerator = false) (hbody : fd.body = .stmts body) (hcd : s.heap.CodeRec fd.code fd.qualname)
    (h : wpAny (model prog w) A.in1 (bindArgs fd args) (fun binds s₁ =>
      wpAny (model prog w) A.in1 (newFunctionEnv fd.scope fd.globals fd.closure binds (fd.qualname ++ ".<locals>.") (some a) fd.code none fd.builtins)
        (fun env s₂ => s₂.heap.NoLimit ∧ codeC (model prog w) A (.func body env) R s₂) No s₁) No s) :
    codeC (model prog w) A (.call (.ref a) args) R s := by
  refine .tree rfl ?_
  show wpC _ A.in1 (callAny (.ref a) args) _ s
  simp only [callAny]
  refine .bindAny (wpAny_load ho ?_)
  obtain ⟨c, oc, vs, tq, hc, hoc, hdc, hq⟩ := hcd
  simp only [hd', callFunction, hco, hgen, hbody, hc]
  rw [hc] at h
  refine .of (wpAny_bind (m := field (.ref c) 1) (wpAny_field hoc hdc hq (wpAny_bind (wpAny_pure ?_))))
  exact wpAny_bind (wpAny_mono h (fun binds s₁ h₁ => wpAny_bind (wpAny_mono h₁ (fun env s₂ h₂ => wpAny_bind (wpAny_enterFrame h₂.1 hroom
    (wpAny_pure (And.intro rfl h₂.2)))) fun _ _ h' => h')) fun _ _ h' => h')
end
section
variable {prog : Program} {w : World} {A : Around} {s : Shared} {K : Frag} {R : Result → Shared → Prop} {name qual : Str} {params : Arguments} {body : List Stmt} {scope : Scope} {dV kV doc pm cdv ct oc : Value} {an od : Option Addr} {osl : Array (Option Value)} {f : Addr} {args : Args} {binds : List (Str × Value)}
/-- a call of a def of the text that raises nothing -/
theorem enter (X : K.In s.heap) (hlim : s.heap.NoLimit)
    (ho : K.lookup f = some ⟨oc, od, .func (fnOf name qual params body scope dV kV doc pm an cdv ct), osl⟩) (hcd : codeIn K cdv qual = true) (hroom : A.depth < recursionLimit)
    (hbind : BindsTo s (fnOf name qual params body scope dV kV doc pm an cdv ct) args binds) (hloc : ∀ y ∈ binds, scope.names.lookup y.1 = some .local)
    (h : ∀ L h₁, Fr s.heap L h₁ (fun y => binds.reverse.lookup y) → News s.heap L h₁ [] →
      wpAny (model prog w) (A.deeper (envOf qual scope L f cdv)) (execs body (envOf qual scope L f cdv))
        (fun fl s' => R (.ok (.ret (match fl with | .ret v => v | _ => .none))) s') (fun _ _ => False)
        { s with heap := h₁, toks := s.toks + binds.length })
    (hco : scope.isCoroutine = false := by rfl) (hgen : scope.isGenerator = false := by rfl) (hk : scope.kind = .function := by rfl)
    (hcell : ∀ x ∈ scope.names, x.2 ≠ .cell := by decide) : codeAny (model prog w) A (.call (.ref f) args) R s :=
  codeAny_call_def (fd := fnOf name qual params body scope dV kV doc pm an cdv ct) (body := body) (binds := binds) hroom (X _ _ ho) rfl hlim (codeRec_of X hcd) rfl hbind hcell hloc
    (fun h₁ hns hk₁ => wpAny_mono (h s.heap.objs.size h₁ ⟨hns, hk₁, Nat.le_refl _⟩ News.nil) (fun _ _ x => x) fun _ _ x => x.elim) hco hgen hk
/-- the same on the spine -/
theorem enterC (X : K.In s.heap) (hlim : s.heap.NoLimit)
    (ho : K.lookup f = some ⟨oc, od, .func (fnOf name qual params body scope dV kV doc pm an cdv ct), osl⟩) (hcd : codeIn K cdv qual = true) (hroom : A.depth < recursionLimit)
    (hbind : BindsTo s (fnOf name qual params body scope dV kV doc pm an cdv ct) args binds) (hloc : ∀ y ∈ binds, scope.names.lookup y.1 = some .local)
    (h : ∀ L h₁, Fr s.heap L h₁ (fun y => binds.reverse.lookup y) → News s.heap L h₁ [] →
      wpC (model prog w) (A.deeper (envOf qual scope L f cdv)) (execs body (envOf qual scope L f cdv))
        (fun fl s' => R (.ok (.ret (match fl with | .ret v => v | _ => .none))) s')
        { s with heap := h₁, toks := s.toks + binds.length })
    (hco : scope.isCoroutine = false := by rfl) (hgen : scope.isGenerator = false := by rfl) (hk : scope.kind = .function := by rfl)
    (hcell : ∀ x ∈ scope.names, x.2 ≠ .cell := by decide) : codeC (model prog w) A (.call (.ref f) args) R s := by
  refine codeC.call_function (fd := fnOf name qual params body scope dV kV doc pm an cdv ct) hroom (X _ _ ho) rfl hco hgen rfl (codeRec_of X hcd) (hbind _ _ _ _ ?_)
  refine wpAny_newFunctionEnv hcell hloc (fun h₀ hns₀ hsb₀ => ⟨hlim.fresh _ hsb₀, codeC.func (h s.heap.objs.size h₀ ⟨hns₀, fun b o e => ?_, Nat.le_refl _⟩ News.nil)⟩) hk
  exact hsb₀.extBut b o (Nat.ne_of_lt (Heap.lt_size e)) (Heap.get?_push_of_some _ e)
end

section
variable {M : Model} {A : Around} {s : Shared} {env : Env}
theorem wpC.spliced_cons {x : Sem Value} {rest : List (Bool × Sem Value)} {Q : List Value → Shared → Prop}
    (h : wpC M A x (fun v s₁ => wpC M A (spliced rest) (fun vs s₂ => Q (v :: vs) s₂) s₁) s) : wpC M A (spliced ((false, x) :: rest)) Q s := by
  rw [spliced]
  refine .bind (.mono h fun v s₁ h₁ => ?_)
  simp only [Bool.false_eq_true, if_false]
  exact .bind (.pure (.bind (.holding (.mono h₁ fun vs s₂ h₂ => .pure h₂))))
theorem wpC.evalArgs {f : Value} {x : Sem Value} {rest : List (Bool × Sem Value)} {Q : Args → Shared → Prop}
    (h : wpC M A (spliced ((false, x) :: rest)) (fun vs s' => Q ⟨vs, []⟩ s') s) : wpC M A (evalArgs f true ((false, x) :: rest) []) Q s := by
  unfold PySem.evalArgs
  show wpC M A (spliced ((false, x) :: rest) >>= _) Q s
  refine .bind (.mono h fun vs s' h' => ?_)
  refine .holding ?_
  exact .bind (.pure (.bind (.pure (.pure h'))))
theorem wpC.callWith {f : Value} {pos : Pos} {Q : Value → Shared → Prop} {P : Heap → Prop} {args : List (Bool × Sem Value)} (hplain : args.any (·.1) = false)
    (hk : ∀ h, P h → ∃ k, (k = Keeper.frame ∨ k = Keeper.machine ∨ k = Keeper.boundFrame) ∧ Looks M h (keeperOf f) k)
    (h : wpC M A (PySem.evalArgs f true args []) (fun a s₁ => P s₁.heap ∧ wpC M A (PySem.call f a.pos a.kw) Q s₁) s) : wpC M A (PySem.callWith pos f [] args []) Q s := by
  unfold PySem.callWith
  refine .bind (.holding (.mono h fun a s₁ h₁ => .standAt ?_))
  obtain ⟨k, hk', L⟩ := hk _ h₁.1
  simp only [hplain, List.any_nil, Bool.or_false, List.nil_append]
  refine .bindAny (L.here ?_)
  have tail : ∀ {t : Sem Value}, wpC M A t Q s₁ → wpC M A (t >>= fun r => PySem.holding [r] point >>= fun _ => Pure.pure r) Q s₁ :=
    fun ht => .bind (.mono ht fun r s₂ hr => .bindAny (wpAny_holding (wpAny_point (.pure hr))))
  have marked (mk : Value) : wpC M A (callMarked mk f a.pos a.kw) Q s₁ := by unfold callMarked; exact .keep h₁.2
  rcases hk' with rfl | rfl | rfl <;> dsimp only <;> first | exact tail h₁.2 | (split <;> first | exact tail h₁.2 | exact tail (marked _))
theorem wpC.callWithT {T : String} {pos : Pos} {Q : Value → Shared → Prop} {args : List (Bool × Sem Value)} (hplain : args.any (·.1) = false)
    (h : wpC M A (PySem.evalArgs (.type T) true args []) (fun a s₁ => wpC M A (PySem.call (.type T) a.pos a.kw) Q s₁) s) : wpC M A (PySem.callWith pos (.type T) [] args []) Q s := by
  unfold PySem.callWith
  refine .bind (.holding (.mono h fun a s₁ h₁ => .standAt ?_))
  simp only [hplain, List.any_nil, Bool.or_false, List.nil_append]
  refine .bind (.pure ?_)
  exact .bind (.mono h₁ fun r s₂ hr => .bindAny (wpAny_holding (wpAny_point (.pure hr))))
theorem wpC.callName {x : Str} {np pos : Pos} {args : List Expr} {trees : List (Bool × Sem Value)} {Q : Value → Shared → Prop} (ht : backTo pos (starEach args env) = trees)
    (h : wpAny M A (eval (.Name x np) env) (fun f s₁ => wpC M A (PySem.callWith pos f [] trees []) Q s₁) No s) : wpC M A (eval (.Call (.Name x np) args [] pos) env) Q s := by
  subst ht
  exact .bindAny h
theorem wpC.isTrueCompare {l r : Expr} {op : CmpOp} {pos : Pos} {whole : Sem Value} {Q : Bool → Shared → Prop}
    (h : wpC M A (eval l env) (fun a s₁ => wpAny M A (eval r env) (fun b s₂ => wpAny M A (compareOp op a b) (fun c s₃ => wpAny M A (truthy c) Q No s₃) No s₂) No s₁) s)
    (hm : behindInMarks op r = false := by with_unfolding_all rfl) : wpC M A (isTrue (.Compare l [op] [r] pos) env whole) Q s := fun Γ p hΓ hc => by
  simp only [isTrue_Compare1, markedBehindIn_of_false hm, Sem.wp_bind', Sem.wp_holding, Sem.wp_cmd_standAt, Sem.wp_operate]
  exact Sem.wp_mono M Γ _ (fun a p₁ s₁ h₁ => Sem.wp_mono M Γ _ (fun b _ s₂ h₂ => Sem.wp_mono M Γ _ (fun c p₃ s₃ h₃ => h₃ Γ p₃ hΓ)
    (fun _ _ _ h' => h') _ _ (h₂ Γ _ hΓ)) (fun _ _ _ h' => h') _ _ (h₁ Γ p₁ hΓ)) (fun _ _ _ h' => h') _ _ (h Γ p hΓ hc)
end
end Mine
namespace Mine
open Sem (wp)
/-! ## bytearray: what the tables say -/
namespace BA
theorem mro : mroOf (.type "bytearray") = Pure.pure [.type "bytearray", .type "object"] := by rw [mroOf_type]; kernel_rfl
theorem look_new : typeLookup (.type "bytearray") "__new__" = Pure.pure (some (.builtin "bytearray.__new__")) := by rw [typeLookup_type, builtinLookup_eq_fast]; kernel_rfl
theorem slot_init : Slot "bytearray" "__init__" "bytearray.__init__" :=
  .of (owner := "bytearray") (n := "__init__") (by rw [typeLookup_type, builtinLookup_eq_fast]; kernel_rfl) (by decide +kernel) (by decide +kernel) (by decide +kernel)
    (by first | exact .inl (by decide +kernel) | exact .inr (by decide +kernel)) (by rw [isSubtype_type]; kernel_rfl)
theorem called : TypeCalled "bytearray" "bytearray.__new__" "bytearray.__init__" :=
  ⟨by decide +kernel, by decide +kernel, ⟨_, _, mro⟩, madeBy_type mro look_new (by decide +kernel), by decide +kernel, by rw [isSubtype_type]; kernel_rfl, slot_init⟩
theorem typeCall (a : Value) : checkTypeCall "bytearray" ⟨[a], []⟩ = Pure.pure () := by kernel_rfl
theorem newCall (a : Value) : checkBuiltinCall "bytearray.__new__" ⟨[.type "bytearray", a], []⟩ = Pure.pure () := by kernel_rfl
theorem plain_new : plainId "bytearray.__new__" = true := by decide +kernel
theorem entry_new : entryFor table "bytearray.__new__" = some Builtin.«list.__new__» := by
  exact entryFor_alias (id' := "list.__new__") (by kernel_rfl) rfl (by decide +kernel) (by kernel_rfl)
theorem entry_init : entryFor table "bytearray.__init__" = some Builtin.«bytearray.__init__» := by first | exact entryFor_of_fast (by kernel_rfl) | exact entryFor_of_tree (by kernel_rfl)
theorem plain_init : plainId "bytearray.__init__" = true := by decide +kernel
theorem args_init (a b : Value) : argsOk "bytearray.__init__" ⟨[a, b], []⟩ := by unfold argsOk; kernel_rfl
theorem no_release : typeLookup (.type "bytearray") "__release_buffer__" = Pure.pure (some (.builtin "bytearray.__release_buffer__")) := by rw [typeLookup_type, builtinLookup_eq_fast]; kernel_rfl
theorem sub_self : isSubtype (.type "bytearray") (.type "bytearray") = Pure.pure true := by rw [isSubtype_type]; kernel_rfl
set_option maxRecDepth 1000000 in
theorem owner_new : ("bytearray.__new__".splitOn ".__new__").headD "" = "bytearray" := by simp +decide [String.splitOn, String.splitOnAux]
theorem bind (v : Value) : Builtin.Bytes.bindOptional "bytearray.__init__" "bytearray" ["source", "encoding", "errors"] [v] [] = Pure.pure [some v, none, none] := by kernel_rfl
end BA
section
variable {prog : Program} {w : World} {A : Around} {s : Shared}
theorem if_no {α : Type} {M : Model} {c : Bool} {a b : Sem α} {Q : α → Shared → Prop} (hc : c = false) (h : wpC M A b Q s) : wpC M A (if c = true then a else b) Q s := by
  subst hc
  exact h
theorem if_yes {α : Type} {M : Model} {c : Bool} {a b : Sem α} {Q : α → Shared → Prop} (hc : c = true) (h : wpC M A a Q s) : wpC M A (if c = true then a else b) Q s := by
  subst hc
  exact h
theorem wpC.ret {α β : Type} {M : Model} {m : Sem α} {a : α} {f : α → Sem β} {Q : β → Shared → Prop} (e : m = Pure.pure a) (h : wpC M A (f a) Q s) : wpC M A (m >>= f) Q s := by
  rw [e]
  exact .bind (.pure h)
theorem dec_of {id : String} {args : Args} (h : Builtin.Bytes.decodersThatHold.contains id = false) : Dec (.builtin id args) = false := h
theorem codeC.builtin {id : String} {args : Args} {b : Builtin} {R : Result → Shared → Prop} (hd : Builtin.Bytes.decodersThatHold.contains id = false) (hb : entryFor table id = some b)
    (h : wpC (model prog w) (A.under (.builtin id args)) (b args)
      (fun fin s' => match fin with | .done f => R (.ok f) s' | .again c' => c'.quiet = true ∧ codeC (model prog w) A c' R s') s) :
    codeC (model prog w) A (.builtin id args) R s := by
  refine .tree (dec_of hd) ?_
  show wpC _ _ (match entryFor table id with | some b => b args | none => unsupported ((withoutEnding? id "#data").getD id)) _ s
  rw [hb]; exact h
/-- a call of a built-in class whose `__init__` stands on the spine -/
theorem callTypeC {T newId initId : String} {args : List Value} {Q Q₁ : Value → Shared → Prop} (ft : TypeCalled T newId initId)
    (hct : checkTypeCall T ⟨args, []⟩ = Pure.pure ())
    (hnew : wpAny (model prog w) A.in1 (call (.builtin newId) (.type T :: args)) Q₁ No s)
    (hnext : ∀ obj s₁, Q₁ obj s₁ → s₁.TypeIs obj T ∧ wpC (model prog w) A.in1 (call (.builtin initId) (obj :: args)) (fun r s₂ => r = .none ∧ Q obj s₂) s₁) :
    wpC (model prog w) A (call (.type T) args) Q s := by
  obtain ⟨c, tl, hmro⟩ := ft.mro
  refine .call (.tree rfl ?_)
  show wpC _ _ (callAny (.type T) _) _ _
  refine .pure ⟨Code.quiet_builtin _ (by decide +kernel), .builtin (by decide +kernel) F.entry_type_call ?_⟩
  rw [Around.under_plain (weight_type_call_type T args []) rfl]
  unfold Builtin.«type.__call__»
  dsimp only
  have h1 := ft.notType
  have h2 := ft.canCreate
  refine if_no h1 ?_
  refine if_no h2 ?_
  refine .ret hct ?_
  refine .ret hmro ?_
  refine if_no rfl ?_
  refine .ret ft.made ?_
  refine .ret rfl ?_
  refine .bindAny (wpAny_holding (wpAny_mono hnew (fun obj s₁ hr => ?_) fun _ _ e => e))
  obtain ⟨hT, hi⟩ := hnext _ _ hr
  refine .bindAny (wpAny_isInstance hT ft.sub ?_)
  refine if_no rfl ?_
  refine .bind (.holding ?_)
  simp only [callSpecial?]
  refine .bindAny (wpAny_specialOf hT ft.init.lookup ?_)
  simp only [ft.init.bind]
  refine .holding (.bind (.pure (.bind (.mono hi fun r s₂ hq => .pure ?_))))
  obtain ⟨rfl, hq⟩ := hq
  exact if_no rfl (.pure hq)
/-- `list.__new__` under bytearray's name -/
theorem ba_new {a : Value} {Q₁ : Value → Shared → Prop}
    (h : Q₁ (.ref s.heap.objs.size) { s with heap := s.heap.push { cls := .type "bytearray", data := .bytearray #[] } }) :
    wpAny (model prog w) A (call (.builtin "bytearray.__new__") [.type "bytearray", a]) Q₁ No s := by
  refine wpAny_call (codeAny_of_tree ?_)
  show wpAny _ A.in1 (do checkBuiltinCall "bytearray.__new__" ⟨[.type "bytearray", a], []⟩; again (.builtin "bytearray.__new__" ⟨[.type "bytearray", a], []⟩)) _ _ s
  refine wpAny_bind (wpAny_of_eq (BA.newCall a) (wpAny_pure ⟨plainId_quiet BA.plain_new _, codeAny_builtin_stack BA.entry_new rfl fun p st => ?_⟩))
  rw [Around.under_plainId BA.plain_new _]
  have hsub := BA.sub_self
  have hown := BA.owner_new
  obtain ⟨hp, g, d, tk, os⟩ := s
  simp only [hown]
  wp_walk
  exact h
end
end Mine
namespace Mine
open Sem (wp)
section
variable {prog : Program} {w : World} {A : Around} {s : Shared}
theorem guards_nil {c : Code} (h : c.guards = []) : c.isGuard = false := by
  cases hg : c.isGuard with
  | false => rfl
  | true => simp [Code.guards, hg] at h
theorem exported_no {M : Model} {self : Value} {Q : Bool → Shared → Prop} (hg : A.guards = some []) (h : Q false s) : wpC M A (Builtin.Bytes.exported self) Q s := fun Γ p hΓ hc => by
  have hall : ∀ x ∈ ((Γ.code, p) :: Γ.below), x.1.isGuard = false ∧ Dec x.1 = false := by
    have hgs := hΓ.2.2.2.1 [] hg
    rw [← guardsOf_cons Γ.code p] at hgs
    intro x hx
    refine ⟨?_, ?_⟩
    · cases hgx : x.1.isGuard with
      | false => rfl
      | true =>
        have : x.1 ∈ guardsOf ((Γ.code, p) :: Γ.below) := by
          unfold guardsOf
          exact List.mem_filter.mpr ⟨List.mem_map_of_mem hx, hgx⟩
        rw [hgs] at this
        cases this
    · rcases List.mem_cons.mp hx with rfl | hx
      · exact hc.1
      · exact hc.2 x hx
  have none : ∀ f : Code × Pos → Bool, (∀ x ∈ ((Γ.code, p) :: Γ.below), x.1.isGuard = false ∧ Dec x.1 = false → f x = false) → ((Γ.code, p) :: Γ.below).any f = false := fun f hf =>
    List.any_eq_false.mpr fun x hx => by rw [hf x hx (hall x hx)]; exact Bool.false_ne_true
  unfold Builtin.Bytes.exported
  show Q (((Γ.code, p) :: Γ.below).any _) s
  rw [none _ ?_]
  · exact h
  rintro ⟨c, q⟩ _ ⟨h1, h2⟩
  dsimp only at h1 h2
  split <;> simp_all [Code.isGuard, guardIds, Dec]
abbrev baObj (b : Array UInt8) : Obj := { cls := .type "bytearray", data := .bytearray b }
theorem ba_typeIs {a : Addr} {b : Array UInt8} (h : s.heap.get? a = some (baObj b)) : s.TypeIs (.ref a) "bytearray" := ⟨_, h, rfl⟩
theorem ba_write {M : Model} {a : Addr} {b : Array UInt8} {f : Array UInt8 → Array UInt8} {Q : Unit → Shared → Prop} {E : Value → Shared → Prop} (h : s.heap.get? a = some (baObj b)) (hz : (f b).size ≤ sizeLine)
    (hQ : Q () { s with heap := s.heap.update a (Obj.mapBytearray f) }) : wpAny M A (Builtin.Bytes.write (.ref a) f) Q E s := by
  show wpAny M A (updateBytearray a f) Q E s
  unfold updateBytearray
  refine wpAny_bind (wpAny_load h ?_)
  show wpAny _ _ (update a (Obj.mapBytearray f) >>= fun _ => lookBehind a) _ _ _
  refine wpAny_bind (wpAny_update h ?_)
  have h2 : (s.heap.update a (Obj.mapBytearray f)).get? a = some (baObj (f b)) := Heap.get?_update_self (Obj.mapBytearray f) h rfl
  refine wpAny_lookBehind h2 ?_ hQ
  show (if (f b).size > sizeLine then some "bytearray:memory" else none) = none
  rw [if_neg (Nat.not_lt.mpr hz)]
theorem ba_release {M : Model} {a : Addr} {b : Array UInt8} {Q : Bool → Shared → Prop} {E : Value → Shared → Prop} (h : s.heap.get? a = some (baObj b)) (hQ : Q false s) : wpAny M A (Builtin.Bytes.ownRelease (.ref a)) Q E s := by
  unfold Builtin.Bytes.ownRelease Builtin.Bytes.slotIsOwn
  refine wpAny_bind (wpAny_bind (wpAny_specialOf (ba_typeIs h) BA.no_release ?_))
  show wpAny M A (if (!"bytearray.__release_buffer__".endsWith ("." ++ "__release_buffer__")) = true then _ else _) _ _ _
  rw [show (!"bytearray.__release_buffer__".endsWith ("." ++ "__release_buffer__")) = false by decide +kernel]
  show wpAny M A (isInstance (.ref a) (.type ("bytearray.__release_buffer__".dropRight ("__release_buffer__".length + 1)))) _ _ _
  rw [show "bytearray.__release_buffer__".dropRight ("__release_buffer__".length + 1) = "bytearray" by decide +kernel]
  refine wpAny_isInstance (ba_typeIs h) BA.sub_self ?_
  exact wpAny_pure hQ
theorem ba_init {a : Addr} {n : Int} {t : Tok} {Q : Value → Shared → Prop} (hg : A.guards = some []) (h : s.heap.get? a = some (baObj #[])) (h0 : 0 ≤ n) (h1 : n ≤ 1048576)
    (hQ : ∀ h', h'.get? a = some (baObj (Array.replicate n.toNat 0)) → Heap.SameBut a s.heap h' → Q .none { s with heap := h' }) :
    wpC (model prog w) A (call (.builtin "bytearray.__init__") [.ref a, .int n t]) Q s := by
  refine .call (.tree rfl ?_)
  show wpC _ A.in1 (do checkBuiltinCall "bytearray.__init__" ⟨[.ref a, .int n t], []⟩; again (.builtin "bytearray.__init__" ⟨[.ref a, .int n t], []⟩)) _ s
  refine .bindAny (BA.slot_init.check _ _ _ _ _ _ _ _ (ba_typeIs h) (BA.args_init _ _) (.pure ⟨plainId_quiet BA.plain_init _, .builtin (by decide +kernel) BA.entry_init ?_⟩))
  rw [Around.under_plainId BA.plain_init _]
  unfold Builtin.«bytearray.__init__»
  dsimp only
  refine .bindAny (ba_release h ?_)
  refine if_no rfl ?_
  refine .ret (BA.bind _) ?_
  dsimp only
  refine .ret (a := ()) rfl ?_
  refine .ret (a := ()) rfl ?_
  refine .bind (.bind (exported_no hg ?_))
  refine .bind (.bindAny (wpAny_load h (.pure (.pure ?_))))
  refine if_no rfl ?_
  have hz0 : (#[] : Array UInt8).size ≤ sizeLine := Nat.zero_le _
  refine .bindAny (ba_write h hz0 ?_)
  have h2 : (s.heap.update a (Obj.mapBytearray fun _ => #[])).get? a = some (baObj #[]) := Heap.get?_update_self (Obj.mapBytearray fun _ => #[]) h rfl
  refine .ret (a := none) rfl ?_
  refine if_no rfl ?_
  refine .bind (if_no rfl (if_no rfl (.pure ?_)))
  refine .bindAny (wpAny_specialOf (typeIs_int _ n t) F.slot_int_index.lookup ?_)
  refine if_yes rfl ?_
  refine .ret (a := .ok n) rfl ?_
  dsimp only
  have hf : (!Builtin.Bytes.fitsIndex n) = false := by
    simp only [Builtin.Bytes.fitsIndex, Bool.not_eq_false', Bool.and_eq_true, decide_eq_true_eq]; omega
  refine if_no hf ?_
  rw [if_neg (by omega : ¬ n < 0)]
  refine if_no (by rw [beq_eq_false_iff_ne]; omega) ?_
  refine if_no (by simp only [Builtin.Bytes.tooLong, decide_eq_false_iff_not, sizeLine_eq]; omega) ?_
  refine .bindAny (wpAny_rule ?_)
  by_cases hn : n > 0
  · rw [if_pos hn]
    have hz : (Array.replicate n.toNat (0 : UInt8)).size ≤ sizeLine := by rw [Array.size_replicate, sizeLine_eq]; omega
    refine .bindAny (ba_write h2 hz (.pure ?_))
    refine hQ _ (Heap.get?_update_self (Obj.mapBytearray fun _ => Array.replicate n.toNat 0) h2 rfl) ?_
    exact (Heap.SameBut.update ..).trans (Heap.SameBut.update ..)
  · rw [if_neg hn]
    refine .pure (hQ _ ?_ (Heap.SameBut.update ..))
    have e : n.toNat = 0 := by omega
    rw [e]
    exact h2
/-- `bytearray(n)` -/
theorem call_bytearray {n : Int} {t : Tok} {Q : Value → Shared → Prop} (hg : A.guards = some []) (h0 : 0 ≤ n) (h1 : n ≤ 1048576)
    (hQ : ∀ h', h'.get? s.heap.objs.size = some (baObj (Array.replicate n.toNat 0)) → (∀ b o, s.heap.get? b = some o → h'.get? b = some o) → Q (.ref s.heap.objs.size) { s with heap := h' }) :
    wpC (model prog w) A (call (.type "bytearray") [.int n t]) Q s := by
  refine callTypeC (Q₁ := fun v s₁ => v = .ref s.heap.objs.size ∧ s₁ = { s with heap := s.heap.push (baObj #[]) }) BA.called (BA.typeCall _) (ba_new ⟨rfl, rfl⟩) ?_
  rintro _ _ ⟨rfl, rfl⟩
  have hp : (s.heap.push (baObj #[])).get? s.heap.objs.size = some (baObj #[]) := Heap.get?_push_size _ rfl
  refine ⟨⟨_, hp, rfl⟩, ba_init hg hp h0 h1 fun h' e1 e2 => ⟨rfl, hQ h' e1 fun b o e => ?_⟩⟩
  exact e2.extBut b o (Nat.ne_of_lt (Heap.lt_size e)) (Heap.get?_push_of_some _ e)
end
end Mine
namespace Mine
open Sem (wp)
namespace BA
theorem slot_set : Slot "bytearray" "__setitem__" "bytearray.__setitem__" :=
  .of (owner := "bytearray") (n := "__setitem__") (by rw [typeLookup_type, builtinLookup_eq_fast]; kernel_rfl) (by decide +kernel) (by decide +kernel) (by decide +kernel)
    (by first | exact .inl (by decide +kernel) | exact .inr (by decide +kernel)) (by rw [isSubtype_type]; kernel_rfl)
theorem entry_set : entryFor table "bytearray.__setitem__" = some Builtin.«bytearray.__setitem__» := entryFor_of_tree (by kernel_rfl)
theorem args_set (a b c : Value) : argsOk "bytearray.__setitem__" ⟨[a, b, c], []⟩ := by unfold argsOk; kernel_rfl
theorem noBytes : typeLookup (.type "bytearray") "__bytes__" = Pure.pure none := by rw [typeLookup_type, builtinLookup_eq_fast]; kernel_rfl
theorem noIndex : typeLookup (.type "bytearray") "__index__" = Pure.pure none := by rw [typeLookup_type, builtinLookup_eq_fast]; kernel_rfl
theorem look_buffer : typeLookup (.type "bytearray") "__buffer__" = Pure.pure (some (.builtin "bytearray.__buffer__")) := by rw [typeLookup_type, builtinLookup_eq_fast]; kernel_rfl
end BA
section
variable {prog : Program} {w : World} {A : Around} {E : Value → Shared → Prop} {s : Shared}
theorem ba_payload {M : Model} {a : Addr} {b : Array UInt8} {Q : Array UInt8 → Shared → Prop} (h : s.heap.get? a = some (baObj b)) (hQ : Q b s) : wpAny M A (Builtin.Bytes.payload (.ref a)) Q E s := by
  unfold Builtin.Bytes.payload Builtin.Bytes.payload?
  exact wpAny_bind (wpAny_bind (wpAny_load h (wpAny_pure (wpAny_pure hQ))))
/-- `b[k] = v` -/
theorem ba_setItem {a : Addr} {b : Array UInt8} {k v : Int} {t u : Tok} {Q : Unit → Shared → Prop} (h : s.heap.get? a = some (baObj b)) (h0 : 0 ≤ k) (h1 : k < b.size) (hz : b.size ≤ 1048576) (v0 : 0 ≤ v) (v1 : v < 256)
    (hQ : Q () { s with heap := s.heap.update a (Obj.mapBytearray (·.setIfInBounds k.toNat v.toNat.toUInt8)) }) :
    wpAny (model prog w) A (setItem (.ref a) (.int k t) (.int v u)) Q E s := by
  unfold setItem
  refine wpAny_holding ?_
  refine wpAny_bind (wpAny_sequenceKey (ba_typeIs h) (by decide) ?_)
  refine wpAny_bind (wpAny_callSpecial?_slot (name := Str.ofString "__setitem__") (ba_typeIs h) BA.slot_set
    (wpAny_call_entry BA.slot_set (ba_typeIs h) BA.entry_set ?_ (BA.args_set _ _ _)))
  unfold Builtin.«bytearray.__setitem__»
  dsimp only
  refine bm_if_false rfl ?_
  refine wpAny_bind ?_
  unfold Builtin.Bytes.subscript?
  refine wpAny_bind (wpAny_specialOf (typeIs_int s k t) F.slot_int_index.lookup ?_)
  have hf : (!Builtin.Bytes.fitsIndex k) = false := by
    simp only [Builtin.Bytes.fitsIndex, Bool.not_eq_false', Bool.and_eq_true, decide_eq_true_eq]; omega
  refine bm_if_false rfl ?_
  refine wpAny_bind (wpAny_of_eq (a := k) rfl ?_)
  refine bm_if_false hf ?_
  refine wpAny_pure ?_
  dsimp only
  have hv : Builtin.Bytes.byteValue (.int v u) = Pure.pure v.toNat.toUInt8 := by
    show (if (decide (v < 0) || decide (v ≥ 256)) = true then _ else _) = _
    rw [if_neg (by simp only [Bool.or_eq_true, decide_eq_true_eq]; omega)]
  refine wpAny_bind (wpAny_of_eq hv ?_)
  refine wpAny_bind (ba_payload h ?_)
  have hk : seqIndex? k b.size = some k.toNat := by
    have hn : ¬ k < 0 := by omega
    simp [seqIndex?, hn, h0, h1]
  rw [hk]
  dsimp only
  have hz2 : (b.setIfInBounds k.toNat v.toNat.toUInt8).size ≤ sizeLine := by rw [Array.size_setIfInBounds, sizeLine_eq]; omega
  refine wpAny_bind (ba_write h hz2 (wpAny_pure ⟨_, rfl, wpAny_pure hQ⟩))
theorem ba_own {M : Model} {a : Addr} {b : Array UInt8} {Q : Bool → Shared → Prop} (h : s.heap.get? a = some (baObj b)) (hQ : Q true s) : wpAny M A (Builtin.Bytes.slotIsOwn (.ref a) "__buffer__") Q E s := by
  unfold Builtin.Bytes.slotIsOwn
  refine wpAny_bind (wpAny_specialOf (ba_typeIs h) BA.look_buffer ?_)
  show wpAny M A (if (!"bytearray.__buffer__".endsWith ("." ++ "__buffer__")) = true then _ else _) _ _ _
  rw [show (!"bytearray.__buffer__".endsWith ("." ++ "__buffer__")) = false by decide +kernel]
  show wpAny M A (isInstance (.ref a) (.type ("bytearray.__buffer__".dropRight ("__buffer__".length + 1)))) _ _ _
  rw [show "bytearray.__buffer__".dropRight ("__buffer__".length + 1) = "bytearray" by decide +kernel]
  exact wpAny_isInstance (ba_typeIs h) BA.sub_self hQ
theorem ba_buffer {M : Model} {a : Addr} {b : Array UInt8} {id : String} {Q : Option (Array UInt8) → Shared → Prop} (h : s.heap.get? a = some (baObj b)) (hQ : Q (some b) s) : wpAny M A (Builtin.Bytes.buffer? id (.ref a) true) Q E s := by
  unfold Builtin.Bytes.buffer?
  refine wpAny_bind (wpAny_specialOf (ba_typeIs h) BA.look_buffer ?_)
  refine wpAny_bind (ba_own h ?_)
  refine bm_if_false rfl ?_
  refine wpAny_bind (wpAny_specialOf (ba_typeIs h) BA.look_buffer ?_)
  dsimp only
  refine wpAny_bind (ba_release h ?_)
  refine bm_if_false rfl ?_
  exact wpAny_bind (ba_payload h (wpAny_pure hQ))
/-- `bytes(b)` of a bytearray -/
theorem ba_bytes {a : Addr} {b : Array UInt8} {Q : Value → Shared → Prop} (h : s.heap.get? a = some (baObj b)) (hz : b.size ≤ 1048576)
    (hQ : ∀ t k, Q (.bytes b t) { s with toks := k }) : wpAny (model prog w) A (call (.type "bytes") [.ref a]) Q E s := by
  refine callType_codes (Q₁ := fun obj s₁ => s₁.TypeIs obj "bytes" ∧ Q obj s₁) F.bm_called (F.bm_typeCall _) F.entry_object_init ?_ fun obj s₁ h₁ =>
    ⟨h₁.1, F.args_object_init_2 obj _, object_init_meets F.bm_called.init.lookup F.bm_called.made (by decide) prog w A.in1 _ s₁ ⟨h₁.1, rfl, h₁.2⟩⟩
  refine codeAny_of_tree ?_
  show wpAny _ A.in1.in1 (do checkBuiltinCall "bytes.__new__" ⟨[.type "bytes", .ref a], []⟩; again (.builtin "bytes.__new__" ⟨[.type "bytes", .ref a], []⟩)) _ _ s
  refine wpAny_bind (wpAny_of_eq (F.bm_newCall _) (wpAny_pure ⟨plainId_quiet F.bm_plain _, codeAny_builtin F.bm_entry ?_⟩))
  rw [Around.under_plainId F.bm_plain _]
  have hT : s.TypeIs (.ref a) "bytearray" := ba_typeIs h
  unfold Builtin.«bytes.__new__»
  refine wpAny_bind (wpAny_of_eq (a := true) rfl ?_)
  refine bm_if_false rfl ?_
  refine wpAny_bind (wpAny_of_eq F.bm_sub ?_)
  refine bm_if_false rfl ?_
  refine wpAny_bind (wpAny_of_eq (F.bm_bind _) ?_)
  refine wpAny_bind (wpAny_of_eq (a := ()) rfl ?_)
  refine wpAny_bind (wpAny_of_eq (a := ()) rfl ?_)
  refine bm_if_false rfl ?_
  refine wpAny_bind (wpAny_specialOf hT BA.noBytes ?_)
  refine wpAny_bind (wpAny_bind ?_)
  show wpAny _ _ (load a >>= _) _ _ _
  refine wpAny_bind (wpAny_load h ?_)
  refine wpAny_pure (wpAny_pure ?_)
  refine bm_if_false rfl ?_
  refine wpAny_bind (wpAny_specialOf hT BA.noIndex ?_)
  refine bm_if_true rfl ?_
  refine wpAny_bind (ba_buffer h ?_)
  dsimp only
  refine wpAny_bind (wpAny_rule ?_)
  refine wpAny_bind (wpAny_mkBytes ?_ (by rw [sizeLine_eq]; omega))
  show wpAny _ _ (if (Value.type "bytes" == Value.type "bytes") = true then _ else _) _ _ _
  refine bm_if_true (by decide) ?_
  first
    | exact wpAny_pure ⟨typeIs_bytes _ _ _, hQ _ _⟩
    | exact wpAny_bind (wpAny_pure (wpAny_pure ⟨typeIs_bytes _ _ _, hQ _ _⟩))
end
end Mine
namespace Mine
open PySem.Spec PySem.Calls
open Sem (wp)
theorem caller_cl : Cl (⟨.builtin "claim.caller" {}, none, none, [], none⟩ : PySem.Ctx) := ⟨dec_of (by decide +kernel), fun _ hx => nomatch hx⟩
theorem thread_endsC {prog : Program} {w : World} {t : Sem Fin} {s : Shared} {R : Result → Shared → Prop} (hreg : s.asleep)
    (h : wpC (model prog w) callerA t (fun fin s' => ∃ f, fin = .done f ∧ (R (.ok f) s' ∧ leftWithCleanup s'.gens = false)) s) :
    ∃ n r s' s'', runN (denote table) prog w n s ⟨t, .builtin "claim.caller" {}, default, []⟩ = .halted (outcomeOf r) s' ∧
      schedN (denote table) prog w n (.single s ⟨t, .builtin "claim.caller" {}, default, []⟩) = .halted (outcomeOf r) s' ∧ s'.forget = s''.forget ∧ R r s'' := by
  have h1 : wp (model prog w) ⟨.builtin "claim.caller" {}, none, none, [], none⟩ t
      (Sem.finPost (model prog w) ⟨.builtin "claim.caller" {}, none, none, [], none⟩ fun r s' => R r s' ∧ leftWithCleanup s'.gens = false) (fun e _ s' => R (.error e) s' ∧ leftWithCleanup s'.gens = false) default s := by
    refine Sem.wp_mono _ _ t (fun fin p' s' h' => ?_) (fun _ _ _ h' => h'.elim) _ s (h _ default caller_in caller_cl)
    obtain ⟨f, rfl, hf⟩ := h'
    exact hf
  obtain ⟨n, r, s₁, s₂, hs, hn, hfo, hR⟩ := wp_halts_full (M := model prog w) (R := R) hreg h1
  exact ⟨n, r, s₂, s₁, hn, hs, hfo, hR⟩
/-- the claim's call, shown at the caller's own context -/
theorem callFromC {c : ClaimW} {tree : List Value → Sem Fin} {w : World} {s : Shared} {free : Addr → Prop} {gens : Prop} {kept : Heap → Prop} (hz : s.asleep) (hgens : s.gens = #[])
    (hspec : ∀ args, c.pre args = true → WData.layableAll args = true → ∀ ord : List DictEntry → List DictEntry, (∀ l, (ord l).Perm l) →
      ∃ vs s₁, layAllW c.records (classAt s.heap) w.params ord args s = some (vs, s₁) ∧
        wpC (model c.prog w) callerA (tree vs) (fun fin s' => ∃ f, fin = .done f ∧ (c.Ends s args vs s₁ (.ok f) s' ∧ s'.os = s.os ∧ AllBare s'.gens ∧ kept s'.heap)) s₁) :
    c.CallFrom (fun vs => ⟨tree vs, .builtin "claim.caller" {}, default, []⟩) w free gens kept s := by
  intro args hpre hlay ord hord
  obtain ⟨vs, s₁, hlaid, hcode⟩ := hspec args hpre hlay ord hord
  have hal := layAllW_rest _ _ _ hlaid
  obtain ⟨k, r, s', s'', hrun, hsched, hfo, hcase, hos, hkp⟩ := thread_endsC (prog := c.prog) (w := w) (t := tree vs) (s := s₁)
    (R := fun r s' => c.Ends s args vs s₁ r s' ∧ s'.os = s.os ∧ kept s'.heap) (Shared.asleep_of_life hal.2.2.2 hz)
    (.mono hcode (by
      rintro fin s' ⟨f, e, h1, h2, h3, h4⟩
      exact ⟨f, e, ⟨h1, h2, h4⟩, leftWithCleanup_false_of_bare h3⟩))
  obtain ⟨eh, _, _, eo, _⟩ := Shared.forget_eq hfo
  have hcase := hcase.congr eh
  have hkp : kept s'.heap := by first | exact eh ▸ hkp | (rw [eh] at hkp; exact hkp) | (rw [← eh] at hkp; exact hkp)
  rw [← eo] at hos
  have hlife : s'.heap.life = s.heap.life := (runN_life _ _ _ hrun).trans hal.2.2.2
  refine ⟨vs, s₁, hlaid, k, _, s', hsched, ?_, (fun _ i x hx => by rw [hgens] at hx; simp at hx), hkp, by rw [hlife], Shared.rest_eq hos⟩
  rcases hcase with ⟨v, rfl, d1, d2, d3, d4, d5⟩ | ⟨e, ob, cls, rfl, d1, d2, d3, d4, d5⟩
  · exact .inl ⟨v, rfl, d1, d2, d3, fun b o y _ => d4 b o y, d5⟩
  · exact .inr ⟨e, ob, cls, rfl, d1, d2, d3, d4, fun b o y _ => d5 b o y⟩
/-- a row over an open top, its call shown at the caller's own context -/
theorem rowC {r : OpenRow} {q : Program} {loose : List Str} {Xt : Shared → Bool} {XP : (Str → Option Value) → Heap → Prop} {α : Type} {Yf : Shared → α} {Ya : World → α} {YP : World → Heap → Prop} {d : DefRec} {kwd : List (Str × Expr)} {N : Nat}
    (left : LeftO r.prog q loose Xt Yf Ya N) (hY : ∀ w s, Yf s = Ya w → YP w s.heap) (hYk : ∀ w h h', YP w h → (∀ b o, h.get? b = some o → h'.get? b = some o) → YP w h')
    (hX : ∀ s, Xt s = true → XP (s.heap.nsMap mainGlobals) s.heap) (hXk : ∀ mg h h', XP mg h → (∀ b o, h.get? b = some o → h'.get? b = some o) → XP mg h')
    (hdef : defOf q r.name = some (d, kwd)) (hp : r.prog.theDef r.name = some (d.params, d.body, d.scope)) (hk : kwWritten? d.params.kwonlyargs d.params.kw_defaults = some kwd) (hRf : ∀ s, Xt s = true → RecFacts r.records s.heap) (hwr : (!r.writes || r.records.isEmpty) = true)
    (k1 : r.wellSaid = true) (ok : (chainsOk q && opensWell r.prog && (frees r.toRowW && r.within.isEmpty)) = true) (hb : r.prog.bare) (hw : r.toRowW.promised)
    (call : ∀ (w : World) (s₀ s₁ : Shared) (mg mb : Str → Option Value), Ground q loose r.records XP w s₀ mg mb s₁.heap → YP w s₁.heap → ∀ (a : Addr), mg d.name = some (.ref a) → s₁.gens = #[] →
      ∀ (args : List WData) (vals : List Value) (as : List Addr), r.claim.pre args = true → WData.layableAll args = true → ReadsAllW r.records (classAt s₀.heap) s₁.heap vals args as → WellAll w.params s₁.heap vals args → (∀ a ∈ as, (a == sysModules) = false) →
        wpC (model r.prog w) callerA (PySem.call (.ref a) vals) (fun v s' => GoodWG r.claim (classAt s₀.heap) (ExcName.means s₀.heap) args s₁ (.ok (.ret v)) s') s₁) : r.Holds := by
  refine ⟨k1, hw, ?_⟩
  obtain ⟨ok, k5⟩ := Bool.and_eq_true_iff.mp ok
  obtain ⟨hch, o1⟩ := Bool.and_eq_true_iff.mp ok
  obtain ⟨k5, k6⟩ := Bool.and_eq_true_iff.mp k5
  obtain ⟨hsame, hu, ha, hap, hm⟩ := frees_parts k5
  refine ⟨⟨hb, o1, by show r.makers.map _ = []; rw [hm]; rfl⟩, hw.witness, fun w => ⟨(left.behind hX hch w).1, fun s' hs' => ?_⟩⟩
  obtain ⟨s₀, hf, hg0, s, hT, hz, hgens, hg, G00, y⟩ := (left.behind (XP := fun mg h => XP mg h ∧ RecFacts r.records h) (fun s hs => ⟨hX s hs, hRf s hs⟩) hch w).2 s' hs'
  have G0 : Ground q loose [] XP w s (s.heap.nsMap mainGlobals) (s.heap.nsMap builtinsNs) s.heap := ⟨G00.T, G00.B, G00.D, G00.TE, G00.TD, G00.W, G00.X.1, G00.cls, G00.has, G00.apart, G00.once, G00.K⟩
  have RF := G00.X.2
  have hT' := hT
  refine ⟨s₀, hf, hg0, s, hT, fun n hn => ?_, RF.1, RF.2.1, ?_⟩
  · obtain rfl : n = r.name := by split at hn <;> simp_all
    exact pinned_of_view hg G0 hdef hp hk
  have hgens : s.gens = #[] := Array.eq_empty_of_size_eq_zero (beq_iff_eq.mp hgens)
  have G : Ground q loose r.records XP w s _ _ s.heap := RF.ground G0
  refine callFromC (c := r.claim) hz hgens fun args hpre hlay ord hord => ?_
  obtain ⟨⟨vs, s₁⟩, hlaid⟩ := Option.isSome_iff_exists.mp (layAllW_isSome (P := w.params) (ord := ord) G.has args r.args s (pre_splitW hpre).1)
  have keeps := layAllW_keeps _ _ _ hlaid
  have hal := layAllW_rest _ _ _ hlaid
  obtain ⟨as, hrd, hin, hold⟩ := reads_layAllW hord _ _ _ hlaid hlay s₁.heap (fun _ _ e => e)
  have L : Laid r.records w s s₁ args vs as := ⟨⟨ord, hord, hlaid⟩, hrd, hin, hold, keeps, hal.1.trans hgens, hal.2.2.1⟩
  have G₁ := G.keeps hXk keeps
  obtain ⟨a, o, pm, cd, doc, dV, kV, h1, h2, h3, h4, h5⟩ := G₁.fn hdef
  have hi := ident_freeW hu ha hap
  have hwi : r.claim.within = [] := List.isEmpty_iff.mp k6
  have low := G.low
  have hc := call w s s₁ _ _ G₁ (hYk _ _ _ (hY w s y) keeps) a (defOf_name hdef ▸ h1) L.gens args vs as hpre hlay L.reads L.well (L.low low)
  refine ⟨vs, s₁, hlaid, .bindAny (wpAny_nsGet G₁.T.g ?_)⟩
  rw [h1]
  refine .bind (.mono hc fun v s' g => .pure ⟨_, rfl, ?_⟩)
  have z := g.laid (c := r.claim) hsame hwi hi L
  exact ⟨z.1, z.2.1, z.2.2, fun q => ⟨namesKept_of hT' hg _ keeps g.2.1.old, noTable hwr q⟩⟩
end Mine
namespace Mine
open Sem (wp)
def Kept (h h' : Heap) : Prop := ∀ b o, h.get? b = some o → h'.get? b = some o
/-- what a loop keeps between its turns: the ledger, the named names, the others as they were; `P` of the turn's number -/
def KS {σ : Type} (Led : σ → List (Addr × Obj)) (ps : σ → List (Str × Value)) (x : Str) (stored : List Str) (m₀ : Str → Option Value) (P : σ → Prop) (m : Str → Option Value) (nx : List (Addr × Obj)) : Prop :=
  ∃ c : σ, nx = Led c ∧ (∀ p ∈ ps c, m p.1 = some p.2) ∧ (∀ z, z ≠ x → (∀ p ∈ ps c, z ≠ p.1) → stored.contains z = false → m z = m₀ z) ∧ P c
section
variable {prog : Program} {w : World} {A : Around} {E : Value → Shared → Prop} {s : Shared} {env : Env} {h₀ : Heap} {x : Str} {body : List Stmt} {Q : Flow → Shared → Prop}
theorem ks_end {σ : Type} {Led : σ → List (Addr × Obj)} {ps : σ → List (Str × Value)} {stored : List Str} {m₀ : Str → Option Value} {P : σ → Prop} (c : σ) {L : Addr} {m' : Str → Option Value} {own news' : List (Addr × Obj)} {adr : List Addr} {s₁ : Shared} {h' : Heap} {tk : Nat}
    (F : Fr h₀ L h' m') (N : News h₀ L h' news') (hn : ∀ p ∈ Led c, p ∈ news') (ho : ∀ p ∈ own, p ∈ news') (ha : (Led c).map (·.1) = adr) (hk : ∀ p ∈ ps c, m' p.1 = some p.2) (hr : ∀ z, z ≠ x → (∀ p ∈ ps c, z ≠ p.1) → stored.contains z = false → m' z = m₀ z) (hp : P c) :
    InvEndN h₀ L (KS Led ps x stored m₀ P) own adr s₁ { s₁ with heap := h', toks := tk } :=
  InvEndN.intro F N ⟨c, rfl, hk, hr, hp⟩ ha hn ho
/-- a for over a range of any step -/
theorem ks_range {σ : Type} {r : Addr} {a₀ b₀ st : Int} {t₀ u₀ v₀ : Tok} {n : Nat} {m₀ : Str → Option Value} (Led : σ → List (Addr × Obj)) (ps : σ → List (Str × Value)) (stored : List Str) (P : Nat → σ → Prop) (c₀ : σ)
    (hh : A.handled = none) (hr : IsRange s.heap r a₀ b₀ st t₀ u₀ v₀) (hsmall : Builtin.Range.small a₀ b₀ st = true) (hn : Builtin.Range.rangeSize a₀ b₀ st = (n : Int)) (F : Fr h₀ env.locals s.heap m₀) (N : News h₀ env.locals s.heap (Led c₀)) (hk : ∀ p ∈ ps c₀, m₀ p.1 = some p.2) (hp : P 0 c₀)
    (turn : ∀ (c : σ) (i : Nat) t (u : Str → Option Value) h tk own, i < n → OwnOff own ((Led c₀).map (·.1)) → P i c →
      Fr h₀ env.locals h (fun y => if y = x then some (.int (a₀ + i * st) t) else kstB (fun z => if stored.contains z then u z else m₀ z) (ps c) y) → News h₀ env.locals h (Led c ++ own) →
      wpAny (model prog w) A (execs body env) (InvPostN h₀ env.locals (KS Led ps x stored m₀ (P (i + 1))) own ((Led c₀).map (·.1)) { s with heap := h, toks := tk } Q) E { s with heap := h, toks := tk })
    (done : ∀ (c : σ) (u : Str → Option Value) h tk, P n c → Fr h₀ env.locals h (fun y => if y = x then u y else kstB (fun z => if stored.contains z then u z else m₀ z) (ps c) y) → News h₀ env.locals h (Led c) → Q .next { s with heap := h, toks := tk }) :
    wpAny (model prog w) A (pyIter (.ref r)) (fun it s₂ => LoopAtV prog w A h₀ env x body Q E it s₂) E s := by
  refine wpAny_pyIter_range hr hsmall ?_
  have W : Walks prog w A s.heap.objs.size [s.heap.objs.size] [s.heap.objs.size] n (fun i v => i < n ∧ ∃ t, v = .int (a₀ + i * st) t)
      (fun i h => IsRangeIter h s.heap.objs.size (a₀ + (i : Nat) * st) ((n : Int) - (i : Nat)) st) := (Walks.range hh _ a₀ st n).bound
  refine loop_invN (fun i m nx => KS Led ps x stored m₀ (P i) m nx) W ?_ ?_ ?_ ?_ (by show IsRangeIter _ _ _ _ _; rw [hn]; simpa using Heap.get?_push_size _ rfl) (F.push _) (fun p hp => ⟨Heap.get?_push_of_some _ (N p hp).1, (N p hp).2⟩) ⟨c₀, rfl, hk, fun _ _ _ _ => rfl, hp⟩ ?_ ?_
  · intro hm
    exact absurd F.ns.lt ((List.mem_singleton.mp hm) ▸ Nat.lt_irrefl _)
  · intro b hb
    rw [List.mem_singleton.mp hb]
    exact next_is_new F
  · intro p hp hI
    exact absurd (Heap.lt_size (N p hp).1) ((List.mem_singleton.mp hI) ▸ Nat.lt_irrefl _)
  · intro p hp hI
    exact absurd (Heap.lt_size (N p hp).1) ((List.mem_singleton.mp hI) ▸ Nat.lt_irrefl _)
  · rintro i v m₁ nx h tk own hi ⟨_, t, rfl⟩ _ hoff ⟨c, rfl, h1, h2, hp'⟩ F₁ N₁
    exact turn c i t m₁ h tk own hi hoff hp' (kst_fr h1 h2 F₁) N₁
  · rintro m₁ nx h tk ⟨c, rfl, h1, h2, hp'⟩ F₁ N₁
    exact done c m₁ h tk hp' (kst_frOut h1 h2 F₁) N₁
end
section
variable {M : Model} {A : Around} {s : Shared} {env : Env} {pos : Pos} {Q : Value → Shared → Prop} {e : Expr} {rest : List Expr}
/-- a built-in class called on the spine -/
theorem wpC.callT {T : String} (h : wpC M A (spliced (backTo pos (starEach (e :: rest) env))) (fun vs s₁ => wpC M A (PySem.call (.type T) vs) Q s₁) s)
    (he : starEach (e :: rest) env = (false, eval e env) :: starEach rest env := by rfl) (hplain : (backTo pos (starEach rest env)).any (·.1) = false := by rfl) :
    wpC M A (PySem.callWith pos (.type T) [] (backTo pos (starEach (e :: rest) env)) []) Q s := by
  rw [he] at h ⊢
  exact .callWithT (by show (false || (backTo pos (starEach rest env)).any (·.1)) = false; rw [hplain]; rfl) (.evalArgs h)
/-- a def of the text called on the spine -/
theorem wpC.callF {K : Frag} {f : Value} (hk : keepIn K f = true) (h : wpC M A (spliced (backTo pos (starEach (e :: rest) env))) (fun vs s₁ => K.In s₁.heap ∧ wpC M A (PySem.call f vs) Q s₁) s)
    (he : starEach (e :: rest) env = (false, eval e env) :: starEach rest env := by rfl) (hplain : (backTo pos (starEach rest env)).any (·.1) = false := by rfl) :
    wpC M A (PySem.callWith pos f [] (backTo pos (starEach (e :: rest) env)) []) Q s := by
  rw [he] at h ⊢
  exact .callWith (P := fun h => K.In h) (by show (false || (backTo pos (starEach rest env)).any (·.1)) = false; rw [hplain]; rfl) (keeps_K hk) (.evalArgs h)
end
section
variable {h₀ h : Heap} {L : Addr} {m : Str → Option Value} {news : List (Addr × Obj)}
theorem fr_kept {h' : Heap} (F : Fr h₀ L h m) (k : Kept h h') : Fr h₀ L h' m := F.keeps k
theorem news_kept {h' : Heap} (N : News h₀ L h news) (k : Kept h h') : News h₀ L h' news := fun q hq => ⟨k _ _ (N q hq).1, (N q hq).2⟩
theorem fr_kept' (F : Fr h₀ L h m) : Kept h₀ h := F.keep
/-- a new object onto the ledger -/
theorem news_more {h' : Heap} {r : Addr} {o : Obj} (F : Fr h₀ L h m) (N : News h₀ L h news) (k : Kept h h') (hr : h'.get? r = some o) (hn : h.get? r = none) : News h₀ L h' ((r, o) :: news) := by
  intro q hq
  rcases List.mem_cons.mp hq with rfl | hq
  · refine ⟨hr, fun e => ?_, ?_⟩
    · obtain ⟨oL, _, _, hL, _⟩ := F.ns
      have e' : r = L := e
      rw [e', hL] at hn; cases hn
    · show h₀.get? r = none
      cases hq : h₀.get? r with
      | none => rfl
      | some o' => rw [F.keep _ _ hq] at hn; cases hn
  · exact ⟨k _ _ (N q hq).1, (N q hq).2⟩
theorem get_size (h : Heap) : h.get? h.objs.size = none := by
  cases e : h.get? h.objs.size with
  | none => rfl
  | some o => exact absurd (Heap.lt_size e) (Nat.lt_irrefl _)
end
section
variable {prog : Program} {w : World} {A : Around} {E : Value → Shared → Prop} {s : Shared} {h₀ : Heap} {L D : Addr} {m : Str → Option Value} {news news' : List (Addr × Obj)} {b : Array UInt8} {k v : Int} {t u : Tok}
theorem ba_set_K {Q : Unit → Shared → Prop} (F : Fr h₀ L s.heap m) (N : News h₀ L s.heap news) (U : Upd D (baObj b) (baObj (b.setIfInBounds k.toNat v.toNat.toUInt8)) news news') (h0 : 0 ≤ k) (h1 : k < b.size) (hz : b.size ≤ 1048576) (v0 : 0 ≤ v) (v1 : v < 256)
    (h : ∀ h', Fr h₀ L h' m → News h₀ L h' news' → Q () { s with heap := h' }) : wpAny (model prog w) A (setItem (.ref D) (.int k t) (.int v u)) Q E s := by
  obtain ⟨pre, post, rfl, rfl, a, c⟩ := U.split
  have z := N (D, baObj b) (List.mem_append.mpr (.inr (.head _)))
  have nu := news_upd (f := Obj.mapBytearray (·.setIfInBounds k.toNat v.toNat.toUInt8)) (o' := baObj (b.setIfInBounds k.toNat v.toNat.toUInt8)) F N a c rfl rfl
  exact ba_setItem z.1 h0 h1 hz v0 v1 (h _ nu.1 nu.2)
theorem ba_bytes_K {Q : Value → Shared → Prop} (N : News h₀ L s.heap news) (hm : (D, baObj b) ∈ news) (hz : b.size ≤ 1048576) (hQ : ∀ t k, Q (.bytes b t) { s with toks := k }) : wpAny (model prog w) A (call (.type "bytes") [.ref D]) Q E s :=
  ba_bytes (N _ hm).1 hz hQ
end
/-! ## what `_byteswap` lays -/
def swp (l : List UInt8) (wd : Nat) : List UInt8 := (List.range l.length).map fun p => l.getD (p / wd * wd + (wd - 1 - p % wd)) 0
theorem swp_length (l : List UInt8) (wd : Nat) : (swp l wd).length = l.length := by simp [swp]
/-- the turns so far: the words ahead of word i are laid, and the last j octets of word i -/
def Laid1 (l : List UInt8) (wd i j : Nat) (b : Array UInt8) : Prop :=
  b.size = l.length ∧ (∀ p, p < i * wd → b.getD p 0 = l.getD (p / wd * wd + (wd - 1 - p % wd)) 0) ∧ ∀ q, wd - j ≤ q → q < wd → b.getD (i * wd + q) 0 = l.getD (i * wd + (wd - 1 - q)) 0
theorem Laid1.zero (l : List UInt8) (wd : Nat) : Laid1 l wd 0 0 (Array.replicate ((l.length : Nat) : Int).toNat 0) := by
  refine ⟨by simp, fun p hp => by omega, fun q h1 h2 => by omega⟩
theorem getD_set {b : Array UInt8} {k p : Nat} {v : UInt8} (hk : k < b.size) : (b.setIfInBounds k v).getD p 0 = if p = k then v else b.getD p 0 := by
  rw [Array.getD_eq_getD_getElem?, Array.getD_eq_getD_getElem?, Array.getElem?_setIfInBounds]
  by_cases h : k = p
  · subst h; simp [hk]
  · rw [if_neg h, if_neg (Ne.symm h)]
theorem Laid1.step {l : List UInt8} {wd i j : Nat} {b : Array UInt8} (h : Laid1 l wd i j b) (hj : j < wd) (hi : (i + 1) * wd ≤ l.length) :
    Laid1 l wd i (j + 1) (b.setIfInBounds (i * wd + wd - 1 - j) (l.getD (i * wd + j) 0)) := by
  obtain ⟨h1, h2, h3⟩ := h
  have e : (i + 1) * wd = i * wd + wd := by rw [Nat.add_mul, Nat.one_mul]
  have hk : i * wd + wd - 1 - j < b.size := by omega
  refine ⟨by simpa using h1, fun p hp => ?_, fun q q1 q2 => ?_⟩
  · rw [getD_set hk, if_neg (by omega)]
    exact h2 p hp
  · rw [getD_set hk]
    by_cases hq : q = wd - 1 - j
    · rw [if_pos (by omega)]
      congr 1
      omega
    · rw [if_neg (by omega)]
      exact h3 q (by omega) q2
theorem Laid1.next {l : List UInt8} {wd i : Nat} {b : Array UInt8} (h : Laid1 l wd i wd b) (hw : 0 < wd) : Laid1 l wd (i + 1) 0 b := by
  obtain ⟨h1, h2, h3⟩ := h
  refine ⟨h1, fun p hp => ?_, fun q h1 h2 => by omega⟩
  by_cases hlt : p < i * wd
  · exact h2 p hlt
  · have e : (i + 1) * wd = i * wd + wd := by rw [Nat.add_mul, Nat.one_mul]
    have hd : p / wd = i := by
      have h4 : p = (p - i * wd) + i * wd := by omega
      rw [h4, Nat.add_mul_div_right _ _ hw, Nat.div_eq_of_lt (by omega)]
      omega
    have hm : p % wd = p - i * wd := by
      have h5 := Nat.div_add_mod p wd
      rw [hd, Nat.mul_comm] at h5
      omega
    rw [hd, hm]
    have h6 := h3 (p - i * wd) (by omega) (by omega)
    have h7 : i * wd + (p - i * wd) = p := by omega
    rw [h7] at h6
    exact h6
theorem Laid1.whole {l : List UInt8} {wd n : Nat} {b : Array UInt8} (h : Laid1 l wd n 0 b) (hn : n * wd = l.length) : b = (swp l wd).toArray := by
  obtain ⟨h1, h2, _⟩ := h
  apply Array.ext
  · simp [swp, h1]
  · intro i hi hi2
    have h3 := h2 i (by omega)
    rw [Array.getD_eq_getD_getElem?, Array.getElem?_eq_getElem hi] at h3
    simp only [Option.getD_some] at h3
    rw [h3]
    simp [swp]
/-! ## ranges -/
theorem size_step {n wd : Nat} (hw : 0 < wd) : Builtin.Range.rangeSize 0 ((n * wd : Nat) : Int) (wd : Int) = (n : Int) := by
  unfold Builtin.Range.rangeSize
  rw [if_pos (by omega)]
  by_cases h0 : n = 0
  · subst h0; simp
  · have hp : 0 < n * wd := Nat.mul_pos (Nat.pos_of_ne_zero h0) hw
    rw [if_pos (by omega)]
    have e : (((n * wd : Nat) : Int) - 0 - 1) / (wd : Int) = (n : Int) - 1 := by
      have e1 : (((n * wd : Nat) : Int) - 0 - 1) = ((wd : Int) - 1) + ((n : Int) - 1) * (wd : Int) := by
        rw [Int.sub_mul]; push_cast; omega
      rw [e1, Int.add_mul_ediv_right _ _ (by omega), Int.ediv_eq_zero_of_lt (by omega) (by omega)]
      omega
    rw [e]; omega
theorem small_step {a b c : Int} (h1 : 0 ≤ a) (h2 : a ≤ 1048576) (h3 : 0 ≤ b) (h4 : b ≤ 1048576) (h5 : 0 < c) (h6 : c ≤ 1048576) : Builtin.Range.small a b c = true := by
  have hs : 0 ≤ Builtin.Range.rangeSize a b c ∧ Builtin.Range.rangeSize a b c ≤ 1048577 := by
    unfold Builtin.Range.rangeSize
    rw [if_pos (by omega)]
    split
    · have h7 : 0 ≤ (b - a - 1) / c := Int.ediv_nonneg (by omega) (by omega)
      have h8 : (b - a - 1) / c ≤ b - a - 1 := Int.ediv_le_self _ (by omega)
      omega
    · omega
  unfold Builtin.Range.small
  simp only [Builtin.Range.rangeFitsLong, Bool.and_eq_true, Bool.or_eq_true, decide_eq_true_eq, beq_iff_eq, show c > 0 from h5, if_true]
  omega
end Mine
namespace Mine
open Sem (wp)
section
variable {prog : Program} {w : World} {A : Around} {s : Shared} {K : Frag} {R : Result → Shared → Prop} {name qual : Str} {params : Arguments} {body : List Stmt} {scope : Scope} {dV kV doc pm cdv ct oc : Value} {an od : Option Addr} {osl : Array (Option Value)} {f : Addr} {args : Args} {binds : List (Str × Value)}
/-- a call of a def of the text, some of whose names a comprehension captures -/
theorem enterX (X : K.In s.heap) (hlim : s.heap.NoLimit)
    (ho : K.lookup f = some ⟨oc, od, .func (fnOf name qual params body scope dV kV doc pm an cdv ct), osl⟩) (hcd : codeIn K cdv qual = true) (hroom : A.depth < recursionLimit)
    (hbind : BindsTo s (fnOf name qual params body scope dV kV doc pm an cdv ct) args binds) (hkind : (binds.all fun y => scope.names.lookup y.1 == some .local || scope.names.lookup y.1 == some .cell) = true)
    (hnd : ((cellsFrom 0 scope.names []).map (·.1)).Nodup)
    (h : ∀ L h₁ tk cells, Fr s.heap L h₁ (bindL (envOfC qual scope L f cdv).kindOf binds fun _ => none) → News s.heap L h₁ cells →
      CellsAre (bindC (envOfC qual scope L f cdv).kindOf binds fun _ => none) (cellsFrom (L + 1) scope.names []) cells →
      wpAny (model prog w) (A.deeper (envOfC qual scope L f cdv)) (execs body (envOfC qual scope L f cdv))
        (fun fl s' => R (.ok (.ret (match fl with | .ret v => v | _ => .none))) s') (fun _ _ => False) { s with heap := h₁, toks := tk })
    (hco : scope.isCoroutine = false := by rfl) (hgen : scope.isGenerator = false := by rfl) (hk : scope.kind = .function := by rfl) : codeAny (model prog w) A (.call (.ref f) args) R s := by
  refine codeAny_call_function (fd := fnOf name qual params body scope dV kV doc pm an cdv ct) hroom (X _ _ ho) rfl hco hgen rfl (codeRec_of X hcd) (hbind _ _ _ _ ?_)
  refine wpAny_newFunctionEnv_cells hk (kindsX hkind _) fun env' he s' x => ?_
  subst he
  refine ⟨hlim.keeps x.toInCall.keep, codeAny_func ?_⟩
  obtain ⟨h₁, tk, rfl, _⟩ := x.done
  have hk₁ := x.toInCall.keep
  obtain ⟨cells, NC, Y⟩ := PyProof.Rows.Cl.news (h₀ := s.heap) (Nat.le_refl _) fun n c hm => ⟨x.cell n c (lookup_of_mem_nodup (cellsFrom_names scope.names 0 (s.heap.objs.size + 1) [] [] rfl ▸ hnd) hm), x.above n c hm⟩
  exact wpAny_mono (h s.heap.objs.size h₁ tk cells ⟨x.toInCall.ns, hk₁, Nat.le_refl _⟩ NC Y) (fun _ _ x => x) fun _ _ x => x.elim
theorem enterXC (X : K.In s.heap) (hlim : s.heap.NoLimit)
    (ho : K.lookup f = some ⟨oc, od, .func (fnOf name qual params body scope dV kV doc pm an cdv ct), osl⟩) (hcd : codeIn K cdv qual = true) (hroom : A.depth < recursionLimit)
    (hbind : BindsTo s (fnOf name qual params body scope dV kV doc pm an cdv ct) args binds) (hkind : (binds.all fun y => scope.names.lookup y.1 == some .local || scope.names.lookup y.1 == some .cell) = true)
    (hnd : ((cellsFrom 0 scope.names []).map (·.1)).Nodup)
    (h : ∀ L h₁ tk cells, Fr s.heap L h₁ (bindL (envOfC qual scope L f cdv).kindOf binds fun _ => none) → News s.heap L h₁ cells →
      CellsAre (bindC (envOfC qual scope L f cdv).kindOf binds fun _ => none) (cellsFrom (L + 1) scope.names []) cells →
      wpC (model prog w) (A.deeper (envOfC qual scope L f cdv)) (execs body (envOfC qual scope L f cdv))
        (fun fl s' => R (.ok (.ret (match fl with | .ret v => v | _ => .none))) s') { s with heap := h₁, toks := tk })
    (hco : scope.isCoroutine = false := by rfl) (hgen : scope.isGenerator = false := by rfl) (hk : scope.kind = .function := by rfl) : codeC (model prog w) A (.call (.ref f) args) R s := by
  refine codeC.call_function (fd := fnOf name qual params body scope dV kV doc pm an cdv ct) hroom (X _ _ ho) rfl hco hgen rfl (codeRec_of X hcd) (hbind _ _ _ _ ?_)
  refine wpAny_newFunctionEnv_cells hk (kindsX hkind _) fun env' he s' x => ?_
  subst he
  refine ⟨hlim.keeps x.toInCall.keep, codeC.func ?_⟩
  obtain ⟨h₁, tk, rfl, _⟩ := x.done
  have hk₁ := x.toInCall.keep
  obtain ⟨cells, NC, Y⟩ := PyProof.Rows.Cl.news (h₀ := s.heap) (Nat.le_refl _) fun n c hm => ⟨x.cell n c (lookup_of_mem_nodup (cellsFrom_names scope.names 0 (s.heap.objs.size + 1) [] [] rfl ▸ hnd) hm), x.above n c hm⟩
  exact h s.heap.objs.size h₁ tk cells ⟨x.toInCall.ns, hk₁, Nat.le_refl _⟩ NC Y
end
section
variable {h₀ h h' : Heap} {L r : Addr} {m : Str → Option Value} {news : List (Addr × Obj)} {o : Obj}
theorem news_ne (N : News h₀ L h news) (hn : h.get? r = none) : ∀ p ∈ news, p.1 ≠ r := fun p hp e => by
  have := (N p hp).1
  rw [e, hn] at this
  cases this
end
abbrev lst (vs : List Value) : Obj := listOf vs.toArray 0
end Mine
namespace Mine
open Sem (wp)
/-- where a turn on the spine goes on -/
def TurnC (h₀ : Heap) (L I : Addr) (oI : Obj) (s : Shared) (J : (Str → Option Value) → List (Addr × Obj) → Prop) (R : Result → Shared → Prop) (f : Flow) (s₃ : Shared) : Prop :=
  match f with
  | .ret v => R (.ok (.ret v)) s₃
  | .brk => R (.ok .next) s₃
  | _ => ∃ h' tk' m' nx' news', s₃ = { s with heap := h', toks := tk' } ∧ Fr h₀ L h' m' ∧ News h₀ L h' news' ∧ (I, oI) ∈ news' ∧ (∀ p ∈ nx', p ∈ news') ∧ (∀ p ∈ nx', p.1 ≠ I) ∧ J m' nx'
section
variable {prog : Program} {w : World} {A : Around} {s : Shared} {env : Env} {h₀ : Heap} {x : Str} {px : Pos} {body : List Stmt} {R : Result → Shared → Prop} {m₀ : Str → Option Value} {nx₀ : List (Addr × Obj)}
/-- a for over a list, its turns on the spine -/
theorem for_listC {l : Addr} {items : Array Value} (J : Nat → (Str → Option Value) → List (Addr × Obj) → Prop) (hh : A.handled = none) (hx : env.kindOf x = some .local)
    (hp : (env.scope.kind == .class || (env.scope.kind == .module && env.locals != env.globals)) = false)
    (hsrc : h₀.IsList l items ∨ ∀ i m nx, J i m nx → ∃ c, (l, listOf items c) ∈ nx) (F : Fr h₀ env.locals s.heap m₀) (N : News h₀ env.locals s.heap nx₀) (hJ : J 0 m₀ nx₀)
    (turn : ∀ i v m nx h tk I oI, items[i]? = some v → J i m nx → (∀ p ∈ nx, p.1 ≠ I) → Fr h₀ env.locals h (fun y => if y = x then some v else m y) → News h₀ env.locals h ((I, oI) :: nx) →
      wpC (model prog w) A (execs body env) (TurnC h₀ env.locals I oI s (J (i + 1)) R) { s with heap := h, toks := tk })
    (done : ∀ m nx h tk, J items.size m nx → Fr h₀ env.locals h m → News h₀ env.locals h nx → R (.ok .next) { s with heap := h, toks := tk }) :
    wpAny (model prog w) A (pyIter (.ref l)) (fun it s₂ => codeC (model prog w) A (.forLoop (.Name x px) it body [] env) R s₂) No s := by
  have src : ∀ i m nx h, J i m nx → Fr h₀ env.locals h m → News h₀ env.locals h nx → h.IsList l items := fun i m nx h j f n => by
    rcases hsrc with a | b
    · exact stays_list f.keep a
    · obtain ⟨c, hc⟩ := b i m nx j
      exact ⟨_, (n _ hc).1, rfl, c, rfl⟩
  refine wpAny_pyIter_list (src 0 _ _ _ hJ F N) ?_
  have hIn : s.heap.get? s.heap.objs.size = none := get_size _
  have hI₀ : h₀.get? s.heap.objs.size = none := next_is_new F
  have hIL : s.heap.objs.size ≠ env.locals := Nat.ne_of_gt F.ns.lt
  generalize hI : s.heap.objs.size = I at hIn hI₀ hIL
  refine codeC.for_ (fun k s' => ∃ h tk m nx i, s' = { s with heap := h, toks := tk } ∧ h.IsListIter I l i ∧ Fr h₀ env.locals h m ∧ News h₀ env.locals h nx ∧ (∀ p ∈ nx, p.1 ≠ I) ∧ J i m nx ∧ i ≤ items.size ∧ k = items.size + 1 - i) ?_ (items.size + 1)
    ⟨_, s.toks, m₀, nx₀, 0, rfl, ⟨_, hI ▸ Heap.get?_push_size _ rfl, rfl, rfl⟩, F.push _, fun q hq => ⟨Heap.get?_push_of_some _ (N q hq).1, (N q hq).2⟩, news_ne N hIn, hJ, Nat.zero_le _, rfl⟩
  rintro k s' ⟨h, tk, m, nx, i, rfl, hit, F₁, N₁, hne, hJ₁, hi, rfl⟩
  have hl₁ := src i m nx h hJ₁ F₁ N₁
  cases hv : items[i]? with
  | none =>
    have hsz : i = items.size := Nat.le_antisymm hi (by simpa using hv)
    refine wpAny_pyNext_list_end hh hit hl₁ hv fun h' he => ?_
    refine done m nx h' tk (hsz ▸ hJ₁) ⟨F₁.ns.at' fun o e => he _ o (Ne.symm hIL) e, fun b o e => he b o (fun q => by rw [q, hI₀] at e; cases e) (F₁.keep b o e), F₁.above⟩ fun q hq => ⟨he _ _ (hne q hq) (N₁ q hq).1, (N₁ q hq).2⟩
  | some v =>
    have hlt : i < items.size := (Array.getElem?_eq_some_iff.mp hv).1
    refine wpAny_pyNext_list_item hit hl₁ hv fun h' hit' hs => ?_
    have F₂ : Fr h₀ env.locals h' m := F₁.change hs hIL hI₀
    have N₂ : News h₀ env.locals h' nx := fun q hq => ⟨hs.extBut _ _ (hne q hq) (N₁ q hq).1, (N₁ q hq).2⟩
    obtain ⟨oI, heI, hcI, hdI⟩ := id hit'
    have N₃ : News h₀ env.locals h' ((I, oI) :: nx) := fun q hq => by
      rcases List.mem_cons.mp hq with rfl | hq
      · exact ⟨heI, hIL, hI₀⟩
      · exact N₂ q hq
    refine wpAny_assign_Name (wpAny_storeName_local hx F₂.ns (fun h₃ hn₃ hs₃ => ?_) hp)
    have F₃ := F₂.set hn₃ hs₃
    have N₄ := N₃.set hs₃
    refine .mono (turn i v m nx h₃ _ I oI hv hJ₁ hne F₃ N₄) fun f s₃ q => ?_
    have go : (∃ h' tk' m' nx' news', s₃ = { s with heap := h', toks := tk' } ∧ Fr h₀ env.locals h' m' ∧ News h₀ env.locals h' news' ∧ (I, oI) ∈ news' ∧ (∀ p ∈ nx', p ∈ news') ∧ (∀ p ∈ nx', p.1 ≠ I) ∧ J (i + 1) m' nx') →
        ∃ k', k' < items.size + 1 - i ∧ ∃ h tk m nx i, s₃ = { s with heap := h, toks := tk } ∧ h.IsListIter I l i ∧ Fr h₀ env.locals h m ∧ News h₀ env.locals h nx ∧ (∀ p ∈ nx, p.1 ≠ I) ∧ J i m nx ∧ i ≤ items.size ∧ k' = items.size + 1 - i := by
      rintro ⟨h', tk', m', nx', news', rfl, F', N', hm, hsub, hne', hJ'⟩
      exact ⟨items.size + 1 - (i + 1), by omega, h', tk', m', nx', i + 1, rfl, ⟨oI, (N' _ hm).1, hcI, hdI⟩, F', fun q hq => N' q (hsub q hq), hne', hJ', hlt, rfl⟩
    cases f with
    | ret v => exact q
    | brk => exact q
    | next => exact go q
    | cont => exact go q
theorem turnC_end {L I : Addr} {oI : Obj} {J : (Str → Option Value) → List (Addr × Obj) → Prop} {h' : Heap} {tk' : Nat} {m' : Str → Option Value} {news' : List (Addr × Obj)} (nx' : List (Addr × Obj)) (F : Fr h₀ L h' m') (N : News h₀ L h' news') (h1 : (I, oI) ∈ news') (h2 : ∀ p ∈ nx', p ∈ news') (h3 : ∀ p ∈ nx', p.1 ≠ I) (hJ : J m' nx') :
    TurnC h₀ L I oI s J R .next { s with heap := h', toks := tk' } := ⟨h', tk', m', nx', news', rfl, F, N, h1, h2, h3, hJ⟩
/-- the same, in names and a ledger -/
theorem ks_listC {σ : Type} {l : Addr} {items : Array Value} (Led : σ → List (Addr × Obj)) (ps : σ → List (Str × Value)) (stored : List Str) (P : Nat → σ → Prop) (c₀ : σ) (hh : A.handled = none) (hx : env.kindOf x = some .local)
    (hp : (env.scope.kind == .class || (env.scope.kind == .module && env.locals != env.globals)) = false)
    (hsrc : h₀.IsList l items ∨ ∀ c, ∃ k, (l, listOf items k) ∈ Led c) (F : Fr h₀ env.locals s.heap m₀) (N : News h₀ env.locals s.heap (Led c₀)) (hk : ∀ p ∈ ps c₀, m₀ p.1 = some p.2) (h0 : P 0 c₀)
    (turn : ∀ (c : σ) i v (u : Str → Option Value) h tk I oI, items[i]? = some v → P i c → (∀ p ∈ Led c, p.1 ≠ I) → Fr h₀ env.locals h (fun y => if y = x then some v else kstB (fun z => if stored.contains z then u z else m₀ z) (ps c) y) → News h₀ env.locals h ((I, oI) :: Led c) →
      wpC (model prog w) A (execs body env) (TurnC h₀ env.locals I oI s (KS Led ps x stored m₀ (P (i + 1))) R) { s with heap := h, toks := tk })
    (done : ∀ (c : σ) (u : Str → Option Value) h tk, P items.size c → Fr h₀ env.locals h (fun y => if y = x then u y else kstB (fun z => if stored.contains z then u z else m₀ z) (ps c) y) → News h₀ env.locals h (Led c) → R (.ok .next) { s with heap := h, toks := tk }) :
    wpAny (model prog w) A (pyIter (.ref l)) (fun it s₂ => codeC (model prog w) A (.forLoop (.Name x px) it body [] env) R s₂) No s := by
  refine for_listC (fun i m nx => KS Led ps x stored m₀ (P i) m nx) hh hx hp (hsrc.imp id fun b => ?_) F N ⟨c₀, rfl, hk, fun _ _ _ _ => rfl, h0⟩ ?_ ?_
  · rintro i m nx ⟨c, rfl, _⟩
    exact b c
  · rintro i v m nx h tk I oI hv ⟨c, rfl, h1, h2, hp'⟩ hne F₁ N₁
    exact turn c i v m h tk I oI hv hp' hne (kst_fr h1 h2 F₁) N₁
  · rintro m nx h tk ⟨c, rfl, h1, h2, hp'⟩ F₁ N₁
    exact done c m h tk hp' (kst_frOut h1 h2 F₁) N₁
theorem ksC_end {σ : Type} {Led : σ → List (Addr × Obj)} {ps : σ → List (Str × Value)} {stored : List Str} {P : σ → Prop} (c : σ) {L I : Addr} {oI : Obj} {h' : Heap} {tk' : Nat} {m' : Str → Option Value} {news' : List (Addr × Obj)} (F : Fr h₀ L h' m') (N : News h₀ L h' news') (h1 : (I, oI) ∈ news') (h2 : ∀ p ∈ Led c, p ∈ news') (h3 : ∀ p ∈ Led c, p.1 ≠ I)
    (hk : ∀ p ∈ ps c, m' p.1 = some p.2) (hr : ∀ z, z ≠ x → (∀ p ∈ ps c, z ≠ p.1) → stored.contains z = false → m' z = m₀ z) (hp : P c) :
    TurnC h₀ L I oI s (KS Led ps x stored m₀ P) R .next { s with heap := h', toks := tk' } := turnC_end (Led c) F N h1 h2 h3 ⟨c, rfl, hk, hr, hp⟩
end
end Mine
namespace Mine
/-! ## the row weeded in laps: places told without weeding -/
/-- is the row read from its end ahead of lap k -/
def bk (t : Nat → Bool) : Nat → Bool
  | 0 => false
  | k + 1 => xor (bk t k) (t k)
/-- the figure k of the places that are left by lap k -/
def cN (n : Nat) (t : Nat → Bool) (k : Nat) : Nat := if bk t (k + 1) then n / 2 ^ k % 2 else 1
def aF (n : Nat) (t : Nat → Bool) : Nat → Nat
  | 0 => 0
  | k + 1 => aF n t k + cN n t k * 2 ^ k
def keyN (n : Nat) (t : Nat → Bool) : Nat → Nat
  | 0 => n
  | k + 1 => if bk t (k + 1) then keyN n t k else keyN n t k ||| 2 ^ k
def lapF (n : Nat) (t : Nat → Bool) : Nat → Nat → Int
  | 0, _ => -1
  | k + 1, p => if lapF n t k p = -1 then (if p / 2 ^ k % 2 = cN n t k then -1 else (k : Int)) else lapF n t k p
def posB (n : Nat) (t : Nat → Bool) (k j : Nat) : Nat := (if bk t k then n / 2 ^ k - 1 - j else j) * 2 ^ k + aF n t k
def pos (n : Nat) (t : Nat → Bool) (k j : Nat) : Nat := (if bk t (k + 1) then n / 2 ^ k - 1 - j else j) * 2 ^ k + aF n t k
def curP (n : Nat) (t : Nat → Bool) (k : Nat) : List Nat := (List.range (n / 2 ^ k)).map (posB n t k)
def outP (n : Nat) (t : Nat → Bool) (k : Nat) : List Nat := (List.range ((n / 2 ^ k + 1) / 2)).map fun i => pos n t k (2 * i)
section
variable {n : Nat} {t : Nat → Bool}
theorem cN_le (k : Nat) : cN n t k ≤ 1 := by
  unfold cN
  split <;> omega
theorem two_pos' (k : Nat) : 0 < 2 ^ k := Nat.pow_pos (by decide)
theorem pow_succ' (k : Nat) : 2 ^ (k + 1) = 2 * 2 ^ k := by rw [Nat.pow_succ, Nat.mul_comm]
theorem aF_lt (k : Nat) : aF n t k < 2 ^ k := by
  induction k with
  | zero => exact Nat.one_pos
  | succ k ih =>
    have h1 := cN_le (n := n) (t := t) k
    have h2 : cN n t k * 2 ^ k ≤ 1 * 2 ^ k := Nat.mul_le_mul_right _ h1
    rw [pow_succ']
    show aF n t k + cN n t k * 2 ^ k < _
    omega
theorem mod_succ (p k : Nat) : p % 2 ^ (k + 1) = p % 2 ^ k + p / 2 ^ k % 2 * 2 ^ k := by
  rw [Nat.pow_succ, Nat.mod_mul, Nat.mul_comm (2 ^ k)]
theorem aF_ge (k : Nat) : n % 2 ^ k ≤ aF n t k := by
  induction k with
  | zero => simp [Nat.mod_one]
  | succ k ih =>
    rw [mod_succ]
    show _ ≤ aF n t k + cN n t k * 2 ^ k
    have h : n / 2 ^ k % 2 ≤ cN n t k := by
      unfold cN
      split <;> omega
    have h2 := Nat.mul_le_mul_right (2 ^ k) h
    omega
theorem div_succ (k : Nat) : n / 2 ^ (k + 1) = n / 2 ^ k / 2 := by rw [Nat.pow_succ, Nat.div_div_eq_div_mul]
/-- not yet struck: the figures so far are those of aF -/
theorem lapF_none (k p : Nat) : lapF n t k p = -1 ↔ p % 2 ^ k = aF n t k := by
  induction k with
  | zero => simp [lapF, aF, Nat.mod_one]
  | succ k ih =>
    have h1 := cN_le (n := n) (t := t) k
    have h2 := aF_lt (n := n) (t := t) k
    have h3 := Nat.mod_lt p (two_pos' k)
    have h4 : p / 2 ^ k % 2 < 2 := Nat.mod_lt _ (by decide)
    rw [mod_succ]
    show (if lapF n t k p = -1 then (if p / 2 ^ k % 2 = cN n t k then -1 else (k : Int)) else lapF n t k p) = -1 ↔ _ = aF n t k + cN n t k * 2 ^ k
    by_cases hl : lapF n t k p = -1
    · rw [if_pos hl]
      have he := ih.mp hl
      by_cases hc : p / 2 ^ k % 2 = cN n t k
      · rw [if_pos hc, he, hc]
        simp
      · rw [if_neg hc]
        constructor
        · intro h; omega
        · intro h
          exfalso
          apply hc
          have h5 : p / 2 ^ k % 2 * 2 ^ k = cN n t k * 2 ^ k := by omega
          exact Nat.eq_of_mul_eq_mul_right (two_pos' k) h5
    · rw [if_neg hl]
      constructor
      · intro h; exact absurd h hl
      · intro h
        exfalso
        apply hl
        apply ih.mpr
        have h5 : (p % 2 ^ k + p / 2 ^ k % 2 * 2 ^ k) % 2 ^ k = (aF n t k + cN n t k * 2 ^ k) % 2 ^ k := by rw [h]
        rw [Nat.add_mul_mod_self_right, Nat.add_mul_mod_self_right, Nat.mod_eq_of_lt h3, Nat.mod_eq_of_lt h2] at h5
        exact h5
theorem lapF_bd (k p : Nat) : -1 ≤ lapF n t k p ∧ lapF n t k p < (k : Int) := by
  induction k with
  | zero => exact ⟨by show (-1 : Int) ≤ -1; decide, by show (-1 : Int) < 0; decide⟩
  | succ k ih =>
    show -1 ≤ (if lapF n t k p = -1 then (if p / 2 ^ k % 2 = cN n t k then -1 else (k : Int)) else lapF n t k p) ∧ (if lapF n t k p = -1 then (if p / 2 ^ k % 2 = cN n t k then -1 else (k : Int)) else lapF n t k p) < _
    split
    · split <;> omega
    · omega
theorem filt {d a : Nat} (ha : a < d) (n : Nat) : (List.range n).filter (fun p => decide (p % d = a)) = (List.range ((n + (d - 1 - a)) / d)).map fun i => i * d + a := by
  induction n with
  | zero => rw [Nat.div_eq_of_lt (by omega)]; rfl
  | succ n ih =>
    rw [List.range_succ, List.filter_append, ih]
    have hd : 0 < d := by omega
    have h1 := Nat.div_add_mod n d
    have hr := Nat.mod_lt n hd
    generalize n / d = q at h1
    generalize hrr : n % d = r at h1 hr
    rw [Nat.mul_comm] at h1
    have e : ∀ x, x < d → (q * d + x) / d = q := fun x hx => by rw [Nat.mul_comm, Nat.mul_add_div hd, Nat.div_eq_of_lt hx]; rfl
    have e' : ∀ x, x < d → (q * d + d + x) / d = q + 1 := fun x hx => by
      rw [show q * d + d + x = (q + 1) * d + x by rw [Nat.add_mul, Nat.one_mul], Nat.mul_comm, Nat.mul_add_div hd, Nat.div_eq_of_lt hx]
    by_cases hc : r = a
    · have f1 : (n + (d - 1 - a)) / d = q := by rw [show n + (d - 1 - a) = q * d + (d - 1) by omega]; exact e _ (by omega)
      have f2 : (n + 1 + (d - 1 - a)) / d = q + 1 := by rw [show n + 1 + (d - 1 - a) = q * d + d + 0 by omega]; exact e' _ (by omega)
      rw [f1, f2, List.range_succ, List.map_append]
      congr 1
      simp [hrr, hc]
      omega
    · have f : (n + 1 + (d - 1 - a)) / d = (n + (d - 1 - a)) / d := by
        by_cases hlt : r < a
        · rw [show n + 1 + (d - 1 - a) = q * d + (r + d - a) by omega, show n + (d - 1 - a) = q * d + (r + d - 1 - a) by omega, e _ (by omega), e _ (by omega)]
        · rw [show n + 1 + (d - 1 - a) = q * d + d + (r - a) by omega, show n + (d - 1 - a) = q * d + d + (r - 1 - a) by omega, e' _ (by omega), e' _ (by omega)]
      rw [f]
      simp [hrr, hc]
theorem count_eq {d a n : Nat} (ha : a < d) (hn : n % d ≤ a) : (n + (d - 1 - a)) / d = n / d := by
  have hd : 0 < d := by omega
  have h1 := Nat.div_add_mod n d
  conv => lhs; rw [← h1]
  have hm := Nat.mod_lt n hd
  rw [Nat.add_assoc, Nat.mul_add_div hd, Nat.div_eq_of_lt (show n % d + (d - 1 - a) < d by omega)]
  rfl
/-- who is left ahead of lap k, in their order -/
theorem left_list (k : Nat) : (List.range n).filter (fun p => decide (lapF n t k p = -1)) = (List.range (n / 2 ^ k)).map fun i => i * 2 ^ k + aF n t k := by
  rw [← count_eq (aF_lt k) (aF_ge (n := n) (t := t) k), ← filt (aF_lt k)]
  apply List.filter_congr
  intro p _
  rw [decide_eq_decide]
  exact lapF_none k p
theorem rev_range (m : Nat) : (List.range m).reverse = (List.range m).map fun i => m - 1 - i := by
  apply List.ext_getElem
  · simp
  · intro i h1 h2
    simp
def order (n : Nat) (t : Nat → Bool) (k : Nat) : List Nat := (List.range n).map fun i => if bk t (k + 1) then n - 1 - i else i
theorem order_eq (k : Nat) : order n t k = if bk t (k + 1) then (List.range n).reverse else List.range n := by
  unfold order
  by_cases hb : bk t (k + 1) = true
  · simp only [hb, if_true]; exact (rev_range n).symm
  · simp only [hb, if_false, Bool.false_eq_true]; simp
/-- the places read in lap k and not struck yet, in the order of the reading -/
theorem read_list (k : Nat) : (order n t k).filter (fun p => decide (lapF n t k p = -1)) = (List.range (n / 2 ^ k)).map (pos n t k) := by
  rw [order_eq]
  by_cases hb : bk t (k + 1) = true
  · rw [if_pos hb, List.filter_reverse, left_list, ← List.map_reverse, rev_range, List.map_map]
    apply List.map_congr_left
    intro i _
    simp only [pos, hb, if_true, Function.comp]
  · rw [if_neg hb, left_list]
    apply List.map_congr_left
    intro i _
    simp only [pos, hb, if_false, Bool.false_eq_true]
theorem pos_div {k j : Nat} : pos n t k j / 2 ^ k = if bk t (k + 1) then n / 2 ^ k - 1 - j else j := by
  unfold pos
  rw [Nat.mul_comm, Nat.mul_add_div (two_pos' k), Nat.div_eq_of_lt (aF_lt k)]
  rfl
theorem pos_lt {k j : Nat} (hj : j < n / 2 ^ k) : pos n t k j < n := by
  have h : pos n t k j ∈ (order n t k).filter (fun p => decide (lapF n t k p = -1)) := by
    rw [read_list]
    exact List.mem_map.mpr ⟨j, List.mem_range.mpr hj, rfl⟩
  have h2 := (List.mem_filter.mp h).1
  obtain ⟨i, hi, e⟩ := List.mem_map.mp h2
  have hi := List.mem_range.mp hi
  rw [← e]
  split <;> omega
/-- who goes out in lap k -/
theorem out_mem {k p : Nat} (hp : p < n) : p ∈ outP n t k ↔ lapF n t k p = -1 ∧ p / 2 ^ k % 2 ≠ cN n t k := by
  have key : ∀ j, j < n / 2 ^ k → (pos n t k j / 2 ^ k % 2 ≠ cN n t k ↔ j % 2 = 0) := by
    intro j hj
    rw [pos_div]
    unfold cN
    generalize n / 2 ^ k = m at hj
    by_cases hb : bk t (k + 1) = true
    · simp only [hb, if_true]; omega
    · simp only [hb, if_false, Bool.false_eq_true]; omega
  have all : lapF n t k p = -1 ↔ ∃ j, j < n / 2 ^ k ∧ pos n t k j = p := by
    have h : p ∈ (order n t k).filter (fun p => decide (lapF n t k p = -1)) ↔ p ∈ (List.range (n / 2 ^ k)).map (pos n t k) := by rw [read_list]
    rw [List.mem_filter, List.mem_map] at h
    have ho : p ∈ order n t k := by
      rw [order_eq]
      split <;> simp [hp]
    simp only [ho, true_and, decide_eq_true_eq, List.mem_range] at h
    exact h
  constructor
  · intro h
    obtain ⟨i, hi, rfl⟩ := List.mem_map.mp h
    have hi := List.mem_range.mp hi
    have hj : 2 * i < n / 2 ^ k := by omega
    exact ⟨all.mpr ⟨_, hj, rfl⟩, (key _ hj).mpr (by omega)⟩
  · rintro ⟨h1, h2⟩
    obtain ⟨j, hj, rfl⟩ := all.mp h1
    have h3 := (key j hj).mp h2
    refine List.mem_map.mpr ⟨j / 2, List.mem_range.mpr (by omega), ?_⟩
    rw [show 2 * (j / 2) = j by omega]
theorem lapF_succ {k p : Nat} (hp : p < n) : lapF n t (k + 1) p = if p ∈ outP n t k then (k : Int) else lapF n t k p := by
  show (if lapF n t k p = -1 then (if p / 2 ^ k % 2 = cN n t k then -1 else (k : Int)) else lapF n t k p) = _
  by_cases h : p ∈ outP n t k
  · obtain ⟨h1, h2⟩ := (out_mem hp).mp h
    rw [if_pos h, if_pos h1, if_neg h2]
  · rw [if_neg h]
    by_cases h1 : lapF n t k p = -1
    · rw [if_pos h1]
      by_cases h2 : p / 2 ^ k % 2 = cN n t k
      · rw [if_pos h2, h1]
      · exact absurd ((out_mem hp).mpr ⟨h1, h2⟩) h
    · rw [if_neg h1]
theorem cur_zero : curP n t 0 = List.range n := by
  unfold curP posB
  simp [bk, aF]
theorem cur_turned (k : Nat) : (if t k then (curP n t k).reverse else curP n t k) = (List.range (n / 2 ^ k)).map (pos n t k) := by
  unfold curP
  by_cases ht : t k = true
  · rw [if_pos ht, ← List.map_reverse, rev_range, List.map_map]
    apply List.map_congr_left
    intro i hi
    have hi := List.mem_range.mp hi
    show posB n t k (n / 2 ^ k - 1 - i) = pos n t k i
    unfold posB pos
    have hb : bk t (k + 1) = !bk t k := by
      show xor (bk t k) (t k) = _
      rw [ht]; cases bk t k <;> rfl
    rw [hb]
    cases bk t k
    · simp
    · simp only [if_true, Bool.not_true, Bool.false_eq_true, if_false]
      rw [show n / 2 ^ k - 1 - (n / 2 ^ k - 1 - i) = i by omega]
  · rw [if_neg ht]
    apply List.map_congr_left
    intro i _
    have hb : bk t (k + 1) = bk t k := by
      show xor (bk t k) (t k) = _
      simp only [Bool.not_eq_true] at ht
      rw [ht]; cases bk t k <;> rfl
    unfold posB pos
    rw [hb]
theorem cur_next (k : Nat) : (List.range (n / 2 ^ k / 2)).map (fun i => pos n t k (2 * i + 1)) = curP n t (k + 1) := by
  unfold curP
  rw [div_succ]
  apply List.map_congr_left
  intro i hi
  have hi := List.mem_range.mp hi
  unfold posB pos
  rw [div_succ, pow_succ']
  show _ = _ + (aF n t k + cN n t k * 2 ^ k)
  unfold cN
  generalize n / 2 ^ k = m at hi
  generalize 2 ^ k = d
  by_cases hb : bk t (k + 1) = true
  · simp only [hb, if_true]
    have e : (m - 1 - (2 * i + 1)) = 2 * (m / 2 - 1 - i) + m % 2 := by omega
    rw [e, Nat.add_mul, Nat.mul_assoc, Nat.mul_left_comm]
    omega
  · simp only [hb, if_false, Bool.false_eq_true]
    rw [Nat.add_mul, Nat.mul_assoc, Nat.mul_left_comm]
    omega
theorem cur_last {k : Nat} (h : n / 2 ^ k = 1) : curP n t k = [aF n t k] := by
  unfold curP posB
  rw [h]
  simp
theorem rest_last {k : Nat} (h : n / 2 ^ k = 1) : (List.range n).filter (fun p => decide (lapF n t k p = -1)) = [aF n t k] := by
  rw [left_list, h]
  simp
/-- the key's figures -/
theorem or_bit (x k j : Nat) : (x ||| 2 ^ k) / 2 ^ j % 2 = if j = k then 1 else x / 2 ^ j % 2 := by
  have h := Nat.testBit_or x (2 ^ k) j
  rw [Nat.testBit_eq_decide_div_mod_eq, Nat.testBit_eq_decide_div_mod_eq, Nat.testBit_two_pow] at h
  have h1 : (x ||| 2 ^ k) / 2 ^ j % 2 < 2 := Nat.mod_lt _ (by decide)
  have h2 : x / 2 ^ j % 2 < 2 := Nat.mod_lt _ (by decide)
  by_cases hj : j = k
  · rw [if_pos hj]
    rw [decide_eq_true (p := k = j) hj.symm, Bool.or_true] at h
    exact of_decide_eq_true h
  · rw [if_neg hj]
    rw [decide_eq_false (p := k = j) (fun e => hj e.symm), Bool.or_false, decide_eq_decide] at h
    omega
theorem key_bit : ∀ (k j : Nat), keyN n t k / 2 ^ j % 2 = if j < k then cN n t j else n / 2 ^ j % 2
  | 0, j => rfl
  | k + 1, j => by
    show (if bk t (k + 1) then keyN n t k else keyN n t k ||| 2 ^ k) / 2 ^ j % 2 = _
    by_cases hb : bk t (k + 1) = true
    · rw [if_pos hb, key_bit k j]
      by_cases hj : j < k
      · rw [if_pos hj, if_pos (by omega)]
      · rw [if_neg hj]
        by_cases hjk : j < k + 1
        · have e : j = k := by omega
          rw [if_pos hjk, e]
          simp [cN, hb]
        · rw [if_neg hjk]
    · rw [if_neg hb, or_bit]
      by_cases hjk : j = k
      · rw [if_pos hjk, if_pos (by omega), hjk]
        simp [cN, hb]
      · rw [if_neg hjk, key_bit k j]
        by_cases hj : j < k
        · rw [if_pos hj, if_pos (by omega)]
        · rw [if_neg hj, if_neg (by omega)]
end
end Mine
namespace Mine
/-- where a turn of a while on the spine goes on -/
def TurnW {σ : Type} (h₀ : Heap) (L : Addr) (s : Shared) (Led : σ → List (Addr × Obj)) (ps : σ → List (Str × Value)) (stored : List Str) (m₀ : Str → Option Value) (P : σ → Prop) (μ : σ → Nat) (R : Result → Shared → Prop) (c : σ) (f : Flow) (s₃ : Shared) : Prop :=
  match f with
  | .ret v => R (.ok (.ret v)) s₃
  | .brk => R (.ok .next) s₃
  | _ => KswEnd h₀ L s Led ps (fun _ => True) stored m₀ P μ c s₃
section
variable {prog : Program} {w : World} {A : Around} {s : Shared} {env : Env} {h₀ : Heap} {L : Addr} {R : Result → Shared → Prop}
/-- a while, its turns on the spine -/
theorem ksw_whileC {σ : Type} {test : Expr} {body : List Stmt} {m₀ : Str → Option Value} (Led : σ → List (Addr × Obj)) (ps : σ → List (Str × Value)) (stored : List Str) (P : σ → Prop) (μ : σ → Nat) (c₀ : σ)
    (F : Fr h₀ L s.heap m₀) (N : News h₀ L s.heap (Led c₀)) (hk : ∀ p ∈ ps c₀, m₀ p.1 = some p.2) (hp : P c₀)
    (turn : ∀ (c : σ) (u : Str → Option Value) h tk, P c → Fr h₀ L h (kstB (fun z => if stored.contains z then u z else m₀ z) (ps c)) → News h₀ L h (Led c) →
      wpAny (model prog w) A (isTrue test env (eval test env)) (fun b s₂ =>
        if b = true then wpC (model prog w) A (execs body env) (TurnW h₀ L s Led ps stored m₀ P μ R c) s₂ else R (.ok .next) s₂) No { s with heap := h, toks := tk }) :
    codeC (model prog w) A (.whileLoop test body [] env) R s := by
  refine codeC.while_ (fun k s' => ∃ h tk m c, s' = { s with heap := h, toks := tk } ∧ Fr h₀ L h m ∧ News h₀ L h (Led c) ∧ μ c = k ∧ (∀ p ∈ ps c, m p.1 = some p.2) ∧ (∀ z, (∀ p ∈ ps c, z ≠ p.1) → stored.contains z = false → m z = m₀ z) ∧ P c) ?_ (μ c₀)
    ⟨_, s.toks, m₀, c₀, rfl, F, N, rfl, hk, fun _ _ _ => rfl, hp⟩
  rintro k s' ⟨h, tk, m, c, rfl, F₁, N₁, rfl, h1, h2, hp'⟩
  refine wpAny_mono (turn c m h tk hp' (ksw_fr h1 h2 F₁) N₁) (fun b s₂ p => ?_) fun _ _ x => x
  cases b with
  | false => exact p
  | true =>
    simp only [if_true] at p ⊢
    refine .mono p fun f s₃ q => ?_
    have go : KswEnd h₀ L s Led ps (fun _ => True) stored m₀ P μ c s₃ → ∃ k', k' < μ c ∧ ∃ h tk m c, s₃ = { s with heap := h, toks := tk } ∧ Fr h₀ L h m ∧ News h₀ L h (Led c) ∧ μ c = k' ∧ (∀ p ∈ ps c, m p.1 = some p.2) ∧ (∀ z, (∀ p ∈ ps c, z ≠ p.1) → stored.contains z = false → m z = m₀ z) ∧ P c := by
      rintro ⟨c', h', tk', m', news', rfl, F', N', hn, _, hk9, hr9, hp9, hm9⟩
      exact ⟨μ c', hm9, h', tk', m', c', rfl, F', fun p hp => N' p (hn p hp), rfl, hk9, hr9, hp9⟩
    cases f with
    | ret v => exact q
    | brk => exact q
    | next => exact go q
    | cont => exact go q
theorem turnW_end {σ : Type} {Led : σ → List (Addr × Obj)} {ps : σ → List (Str × Value)} {stored : List Str} {m₀ m' : Str → Option Value} {P : σ → Prop} {μ : σ → Nat} {c : σ} {h' : Heap} {tk : Nat} {news' : List (Addr × Obj)} (c' : σ)
    (F : Fr h₀ L h' m') (N : News h₀ L h' news') (hn : ∀ p ∈ Led c', p ∈ news') (hk : ∀ p ∈ ps c', m' p.1 = some p.2) (hr : ∀ z, (∀ p ∈ ps c', z ≠ p.1) → stored.contains z = false → m' z = m₀ z) (hp : P c') (hm : μ c' < μ c) :
    TurnW h₀ L s Led ps stored m₀ P μ R c .next { s with heap := h', toks := tk } := ⟨c', h', tk, m', news', rfl, F, N, hn, trivial, hk, hr, hp, hm⟩
end
/-! ## lists of bytes -/
/-- the values are these bytes -/
inductive BsAre : List Value → List (List UInt8) → Prop
  | nil : BsAre [] []
  | cons (b : List UInt8) (t : Tok) {vs bs} : BsAre vs bs → BsAre (.bytes b.toArray t :: vs) (b :: bs)
theorem BsAre.length {vs : List Value} {bs : List (List UInt8)} (h : BsAre vs bs) : vs.length = bs.length := by
  induction h with
  | nil => rfl
  | cons _ _ _ ih => simp [ih]
theorem BsAre.snoc {vs : List Value} {bs : List (List UInt8)} (h : BsAre vs bs) (b : List UInt8) (t : Tok) : BsAre (vs ++ [.bytes b.toArray t]) (bs ++ [b]) := by
  induction h with
  | nil => exact .cons b t .nil
  | cons c u _ ih => exact .cons c u ih
theorem BsAre.at {vs : List Value} {bs : List (List UInt8)} (h : BsAre vs bs) : ∀ {i : Nat} {b : List UInt8}, bs[i]? = some b → ∃ t, vs[i]? = some (.bytes b.toArray t) := by
  induction h with
  | nil => intro i b hb; simp at hb
  | cons c u _ ih =>
    intro i b hb
    cases i with
    | zero => simp at hb; subst hb; exact ⟨u, rfl⟩
    | succ i => exact ih (by simpa using hb)
end Mine
namespace Mine
theorem ints_snoc {x : Int} {u : Tok} : ∀ {vs : List Value} {ns : List Int}, IntsAre vs ns → IntsAre (vs ++ [.int x u]) (ns ++ [x])
  | _, _, .nil => .cons x u .nil
  | _, _, .cons i t h => .cons i t (ints_snoc h)
/-- the block of `[row[k] for k in ..]` -/
abbrev pickScope : Scope := { kind := .function, names := [(Str.ofString ".0", .local), (Str.ofString "k", .local), (Str.ofString "row", .free)], isGenerator := false, isCoroutine := false }
section
variable {prog : Program} {w : World} {A : Around} {E : Value → Shared → Prop} {s : Shared} {h₀ : Heap} {L : Addr} {m : Str → Option Value} {env : Env}
theorem pick_item {C c : Addr} {o oC : Obj} {news : List (Addr × Obj)} {m₂ : Str → Option Value} {l : List UInt8} {tk t : Tok} {i : Int} {p1 p2 p3 : Pos} {Q : Value → Shared → Prop} (N : News h₀ L s.heap news) (hc : (c, o) ∈ news) (ho : o.data = .cell (some (.bytes l.toArray tk))) (hC : (C, oC) ∈ news) (hoC : LCg.NsObj oC m₂) (hk : m₂ (Str.ofString "k") = some (.int i t))
    (hz : l.length ≤ 1024) (h0 : 0 ≤ i) (h1 : i < l.length) (hk1 : (compEnvC pickScope [(Str.ofString "row", c)] C env).kindOf (Str.ofString "row") = some .cell ∨ (compEnvC pickScope [(Str.ofString "row", c)] C env).kindOf (Str.ofString "row") = some .free) (hk2 : (compEnvC pickScope [(Str.ofString "row", c)] C env).kindOf (Str.ofString "k") = some .local) (h : ∀ tk', Q (.int (l.getD i.toNat 0).toNat tk') { s with toks := s.toks + 1 }) :
    wpAny (model prog w) A (eval (.Subscript (.Name (Str.ofString "row") p1) (.Name (Str.ofString "k") p2) p3) (compEnvC pickScope [(Str.ofString "row", c)] C env)) Q E s := by
  refine Subscript_ ?_
  have next : wpAny (model prog w) A (eval (.Name (Str.ofString "k") p2) (compEnvC pickScope [(Str.ofString "row", c)] C env)) (fun i s₂ => wpAny (model prog w) A (subscriptTail (.Name (Str.ofString "row") p1) (.Name (Str.ofString "k") p2) (.bytes l.toArray tk) i) Q E s₂) E s := by
    refine LCgL.ld_own N hC hoC hk ?_ (by rfl) hk2
    exact subscriptTail_builtin (typeIs_bytes s _ tk) FB.slot_bytes_getitem.lookup (getItem_bytes (by omega) h0 h1 (h _))
  rcases hk1 with hk1 | hk1
  · exact lcf_cell N (by with_unfolding_all rfl) hc ho next (by rfl) hk1
  · exact lcf_free N (by with_unfolding_all rfl) hc ho next (by rfl) hk1
/-- what the source of such a block is, and what is wanted behind it -/
def PickSrc (h₀ : Heap) (L : Addr) (m : Str → Option Value) (c : Addr) (Q : Value → Shared → Prop) (xv : Value) (s₁ : Shared) : Prop :=
  ∃ r a b st t u v n news l tk o, xv = .ref r ∧ Fr h₀ L s₁.heap m ∧ News h₀ L s₁.heap news ∧ IsRange s₁.heap r a b st t u v ∧ Builtin.Range.small a b st = true ∧ Builtin.Range.rangeSize a b st = ((n : Nat) : Int) ∧ n ≤ 1024 ∧
      (c, o) ∈ news ∧ o.data = .cell (some (.bytes (List.toArray l) tk)) ∧ l.length ≤ 1024 ∧ (∀ i : Nat, i < n → 0 ≤ a + (i : Int) * st ∧ a + (i : Int) * st < l.length) ∧
      ∀ D h tk vs, Fr h₀ L h m → News h₀ L h ((D, LCg.lst vs) :: news) → LCg.Off1 D news → IntsAre vs ((List.range n).map fun (i : Nat) => (((l.getD (a + (i : Int) * st).toNat 0).toNat : Nat) : Int)) → Q (.ref D) { s₁ with heap := h, toks := tk }
/-- `[row[k] for k in range(a, b, st)]`, row captured bytes -/
theorem pick_comp {iter : Expr} {px p1 p2 p3 pos : Pos} {c : Addr} {Q : Value → Shared → Prop} (_ : Fr h₀ L s.heap m) (hh : A.handled = none) (hclos : closureFor pickScope env = Pure.pure [(Str.ofString "row", c)]) (hk1 : ∀ C, (compEnvC pickScope [(Str.ofString "row", c)] C env).kindOf (Str.ofString "row") = some .cell ∨ (compEnvC pickScope [(Str.ofString "row", c)] C env).kindOf (Str.ofString "row") = some .free) (hk2 : ∀ C, (compEnvC pickScope [(Str.ofString "row", c)] C env).kindOf (Str.ofString "k") = some .local)
    (h : wpAny (model prog w) A (eval iter env) (PickSrc h₀ L m c Q) E s)
    (hs : ∀ x, foldedSetIterable iter env x = Pure.pure x := by intro _; rfl) :
    wpAny (model prog w) A (eval (.ListComp (.Subscript (.Name (Str.ofString "row") p1) (.Name (Str.ofString "k") p2) p3) [⟨.Name (Str.ofString "k") px, iter, [], 0⟩] pickScope pos) env) Q E s := by
  rw [eval_ListComp]
  refine wpAny_comprehension_free (use := none) rfl hs hclos rfl (by decide) (wpAny_mono h (fun xv s₁ h₁ => ?_) fun _ _ e => e)
  obtain ⟨r, a, b, st, t, u, v, n, news, l, tk₀, o, rfl, F, N, hr, hsm, hn, hnz, hco, hod, hlz, hin, fin⟩ := h₁
  refine wpAny_pyIter_range hr hsm ?_
  have W := (Walks.range (prog := prog) (w := w) hh s₁.heap.objs.size a st n).bound
  have rest : ∀ (s₂ : Shared), (∃ g, s₂ = { s₁ with heap := g }) → ∀ k i ys, i + k = n → IntsAre ys ((List.range i).map fun (i : Nat) => (((l.getD (a + (i : Int) * st).toNat 0).toNat : Nat) : Int)) →
      LCg.CompRest prog w A h₀ L m env (.Subscript (.Name (Str.ofString "row") p1) (.Name (Str.ofString "k") p2) p3) (Str.ofString "k") pickScope [(Str.ofString "row", c)] s₂ (fun _ => True) (fun i v => i < n ∧ ∃ t, v = .int (a + (i : Int) * st) t) (LCg.FinE h₀ L m s₂ Q) k i ys news := by
    rintro s₂ ⟨g, rfl⟩ k
    induction k with
    | zero =>
      intro i ys hi hys
      obtain rfl : i = n := by omega
      refine LCg.CompRest.zero fun D h' tk' F' N' o1 => ?_
      exact fin D h' tk' ys F' N' o1 hys
    | succ k ih =>
      intro i ys hi hys
      refine LCg.CompRest.succ ?_
      rintro v I oI C oC D m₂ h' tk' E' ⟨hi2, tv, rfl⟩ hC hx F' N' off ne
      obtain ⟨b0, b1⟩ := hin i hi2
      refine pick_item (i := a + (i : Int) * st) N' (.tail _ (.tail _ (.tail _ hco))) hod (.tail _ (.head _)) hC hx hlz b0 b1 (hk1 C) (hk2 C) fun tk₂ => ?_
      refine LCg.CompEnd.intro F' N' news (fun q hq => hq) off trivial ?_
      refine ih (i + 1) _ (by omega) ?_
      rw [List.range_succ, List.map_append]
      exact ints_snoc hys
  refine LCg.block_U W (by rw [sizeLine_eq]; omega) (fun i h st => ⟨_, st⟩) (fun i h h' o nw st e e' _ _ _ => ?_) (by decide) rfl (by decide) (by show IsRangeIter _ _ _ _ _; rw [hn]; simpa using Heap.get?_push_size _ rfl) (fun b hb => ?_)
      (F.keeps fun _ _ e => Heap.get?_push_of_some _ e) (N.grown fun _ _ e => Heap.get?_push_of_some _ e) (Nat.ne_of_lt F.ns.lt) (next_is_new F) (fun p hp => Nat.ne_of_lt (Heap.lt_size (N p hp).1)) trivial (rest _ ⟨_, rfl⟩ n 0 [] (by omega) .nil) ?_
  · have st' : h.get? _ = some _ := st
    show h'.get? _ = some _
    rw [e', ← e]; exact st'
  · rw [List.mem_singleton.mp hb]
    show s₁.heap.objs.size < (s₁.heap.push _).objs.size
    rw [Heap.size_push]; exact Nat.lt_succ_self _
  · intro D C h tk m' ys news' F' N' o1 hn' hC₀ hD₀ hCL hDL hCD offC fin'
    refine ⟨m', hn', fun h'' hs'' => fin' D h'' tk (F'.change hs'' hCL hC₀) (fun q hq => ?_) o1⟩
    refine ⟨hs''.extBut _ _ ?_ (N' q hq).1, (N' q hq).2⟩
    rcases List.mem_cons.mp hq with rfl | hq
    · exact Ne.symm hCD
    · exact offC q hq
theorem compEnd_mono {m : Str → Option Value} {s₁ s₂ : Shared} {I C D : Addr} {oI oC oD : Obj} {S : List (Addr × Obj) → Prop} {r r' : Value → List (Addr × Obj) → Prop} {y : Value} (h : LCg.CompEnd h₀ L m s₁ I oI C oC D oD S r y s₂) (hr : ∀ n, r y n → r' y n) : LCg.CompEnd h₀ L m s₁ I oI C oC D oD S r' y s₂ := by
  obtain ⟨h', tk, news', e, F, N, o, hS, x⟩ := h
  exact ⟨h', tk, news', e, F, N, o, hS, hr _ x⟩
/-- the turns of a comprehension with a test, by what holds of the values taken -/
theorem compT_ind {ct elt : Expr} {x : Str} {scope : Scope} {cl : List (Str × Addr)} {P : Nat → Value → Prop} {Fin : List Value → List (Addr × Obj) → Prop} {news : List (Addr × Obj)} {n : Nat} (K : Nat → List Value → Prop)
    (turn : ∀ i ys v I oI C oC D m₂ h tk (E' : Value → Shared → Prop), i < n → K i ys → P i v → LCg.NsObj oC m₂ → m₂ x = some v → Fr h₀ L h m → News h₀ L h ((I, oI) :: (C, oC) :: (D, LCg.lst ys) :: news) → LCg.Off3 I C D news → ((@Ne Nat I C) ∧ (@Ne Nat I D) ∧ (@Ne Nat C D)) →
      wpAny (model prog w) A (isTrue ct (compEnvC scope cl C env) (eval ct (compEnvC scope cl C env))) (fun ok s' => if ok = true then
        wpAny (model prog w) A (eval elt (compEnvC scope cl C env)) (LCg.CompEnd h₀ L m { s with heap := h, toks := tk } I oI C oC D (LCg.lst ys) (fun _ => True) (fun y news' => news' = news ∧ K (i + 1) (ys ++ [y]))) E' s'
        else LCg.CompEnd h₀ L m { s with heap := h, toks := tk } I oI C oC D (LCg.lst ys) (fun _ => True) (fun _ news' => news' = news ∧ K (i + 1) ys) Value.none s') E' { s with heap := h, toks := tk })
    (fin : ∀ ys, K n ys → Fin ys news) : ∀ k i ys, i + k = n → K i ys → LCt.CompRestT prog w A h₀ L m env ct elt x scope cl s (fun _ => True) P Fin k i ys news := by
  intro k
  induction k with
  | zero =>
    intro i ys hi hK
    obtain rfl : i = n := by omega
    exact LCt.CompRestT.zero (fin ys hK)
  | succ k ih =>
    intro i ys hi hK
    refine LCt.CompRestT.succ fun v I oI C oC D m₂ h tk E' hP hC hx F N off ne => ?_
    refine wpAny_mono (turn i ys v I oI C oC D m₂ h tk E' (by omega) hK hP hC hx F N off ne) (fun ok s' q => ?_) fun _ _ e => e
    cases ok with
    | true =>
      simp only [if_true] at q ⊢
      refine wpAny_mono q (fun y s₂ q => compEnd_mono q ?_) fun _ _ e => e
      rintro _ ⟨rfl, hK'⟩
      exact ih (i + 1) _ (by omega) hK'
    | false =>
      simp only [Bool.false_eq_true, if_false] at q ⊢
      refine compEnd_mono q ?_
      rintro _ ⟨rfl, hK'⟩
      exact ih (i + 1) _ (by omega) hK'
end
end Mine
namespace Mine
/-! ## one lap along a row that is never turned -/
/-- every other one, from the first -/
def evl {α : Type} : List α → List α
  | [] => []
  | [a] => [a]
  | a :: _ :: r => a :: evl r
theorem evl_get {α : Type} : ∀ (l : List α) (i : Nat), (evl l)[i]? = l[2 * i]?
  | [], i => by simp [evl]
  | [a], 0 => rfl
  | [a], i + 1 => by
    rw [List.getElem?_eq_none (by simp [evl]), List.getElem?_eq_none (by simp; omega)]
  | a :: b :: r, 0 => rfl
  | a :: b :: r, i + 1 => by
    show (a :: evl r)[i + 1]? = (a :: b :: r)[2 * (i + 1)]?
    rw [show 2 * (i + 1) = 2 * i + 1 + 1 by omega, List.getElem?_cons_succ, List.getElem?_cons_succ, List.getElem?_cons_succ]
    exact evl_get r i
theorem evl_mem {α : Type} {x : α} : ∀ {l : List α}, x ∈ evl l → x ∈ l
  | [], h => h
  | [_], h => h
  | a :: b :: r, h => by
    rcases List.mem_cons.mp h with rfl | h
    · exact .head _
    · exact .tail _ (.tail _ (evl_mem h))
theorem evl_snoc {α : Type} (x : α) : ∀ (l : List α), evl (l ++ [x]) = if l.length % 2 = 0 then evl l ++ [x] else evl l
  | [] => rfl
  | [a] => rfl
  | a :: b :: r => by
    show a :: evl (r ++ [x]) = _
    rw [evl_snoc x r]
    have e : (a :: b :: r).length % 2 = r.length % 2 := by simp only [List.length_cons]; omega
    rw [e]
    split <;> rfl
theorem evl_map {α β : Type} (f : α → β) : ∀ (l : List α), evl (l.map f) = (evl l).map f
  | [] => rfl
  | [a] => rfl
  | a :: b :: r => by
    show f a :: evl (r.map f) = f a :: (evl r).map f
    rw [evl_map f r]
theorem evl_range {α : Type} (m : Nat) (f : Nat → α) : evl ((List.range m).map f) = (List.range ((m + 1) / 2)).map fun i => f (2 * i) := by
  apply List.ext_getElem?
  intro i
  rw [evl_get]
  by_cases h : i < (m + 1) / 2
  · rw [List.getElem?_map, List.getElem?_map, List.getElem?_range h, List.getElem?_range (show 2 * i < m by omega)]
    rfl
  · rw [List.getElem?_eq_none (by simp; omega), List.getElem?_eq_none (by simp; omega)]
/-- the place read at step i -/
def plc (n : Nat) (b : Bool) (i : Nat) : Nat := if b then n - 1 - i else i
section
variable {n : Nat} {t : Nat → Bool} {k i : Nat}
theorem plc_lt {b : Bool} (hi : i < n) : plc n b i < n := by
  unfold plc
  split <;> omega
/-- those met by step i that were not struck ahead of the lap -/
def Sat (n : Nat) (t : Nat → Bool) (k i : Nat) : List Nat := ((order n t k).take i).filter fun p => decide (lapF n t k p = -1)
def lapsAt (n : Nat) (t : Nat → Bool) (k i : Nat) : List Int := (List.range n).map fun p => if p ∈ evl (Sat n t k i) then (k : Int) else lapF n t k p
def lapsL (n : Nat) (t : Nat → Bool) (k : Nat) : List Int := (List.range n).map (lapF n t k)
theorem order_at (hi : i < n) : (order n t k)[i]? = some (plc n (bk t (k + 1)) i) := by
  unfold order
  rw [List.getElem?_map, List.getElem?_range hi]
  rfl
theorem order_take (hi : i < n) : (order n t k).take (i + 1) = (order n t k).take i ++ [plc n (bk t (k + 1)) i] := by
  rw [List.take_add_one, order_at hi]
  rfl
theorem not_before (hi : i < n) : plc n (bk t (k + 1)) i ∉ (order n t k).take i := by
  intro h
  obtain ⟨j, hj, e⟩ := List.getElem_of_mem h
  have hj2 : j < i := by
    have := hj
    rw [List.length_take] at this
    omega
  rw [List.getElem_take] at e
  have e2 := order_at (n := n) (t := t) (k := k) (i := j) (by omega)
  rw [List.getElem?_eq_getElem (by simp [order]; omega), e] at e2
  have e3 := Option.some.inj e2
  unfold plc at e3
  split at e3 <;> omega
theorem sat_zero : Sat n t k 0 = [] := rfl
theorem sat_new (hi : i < n) (h : lapF n t k (plc n (bk t (k + 1)) i) = -1) : Sat n t k (i + 1) = Sat n t k i ++ [plc n (bk t (k + 1)) i] := by
  unfold Sat
  rw [order_take hi, List.filter_append]
  simp [h]
theorem sat_old (hi : i < n) (h : lapF n t k (plc n (bk t (k + 1)) i) ≠ -1) : Sat n t k (i + 1) = Sat n t k i := by
  unfold Sat
  rw [order_take hi, List.filter_append]
  simp [h]
theorem sat_all : Sat n t k n = (List.range (n / 2 ^ k)).map (pos n t k) := by
  unfold Sat
  rw [List.take_of_length_le (by simp [order]), read_list]
theorem not_struck (hi : i < n) : plc n (bk t (k + 1)) i ∉ evl (Sat n t k i) := fun h => not_before hi (List.mem_filter.mp (evl_mem h)).1
theorem lapsAt_len : (lapsAt n t k i).length = n := by simp [lapsAt]
theorem lapsAt_at (hi : i < n) : (lapsAt n t k i).getD (plc n (bk t (k + 1)) i) 0 = lapF n t k (plc n (bk t (k + 1)) i) := by
  unfold lapsAt
  rw [List.getD_eq_getElem?_getD, List.getElem?_map, List.getElem?_range (plc_lt hi)]
  show (if _ ∈ _ then _ else _) = _
  rw [if_neg (not_struck hi)]
theorem lapsAt_zero : lapsAt n t k 0 = lapsL n t k := by
  unfold lapsAt lapsL
  apply List.map_congr_left
  intro p _
  rw [sat_zero, if_neg (by intro h; cases h)]
theorem lapsAt_same {j : Nat} (h : evl (Sat n t k j) = evl (Sat n t k i)) : lapsAt n t k j = lapsAt n t k i := by
  unfold lapsAt
  rw [h]
theorem lapsAt_set (hi : i < n) (h : evl (Sat n t k (i + 1)) = evl (Sat n t k i) ++ [plc n (bk t (k + 1)) i]) : (lapsAt n t k i).set (plc n (bk t (k + 1)) i) (k : Int) = lapsAt n t k (i + 1) := by
  unfold lapsAt
  rw [h]
  apply List.ext_getElem?
  intro p
  rw [List.getElem?_set, List.getElem?_map]
  by_cases hp : p < n
  · rw [List.getElem?_map, List.getElem?_range hp]
    by_cases e : plc n (bk t (k + 1)) i = p
    · rw [if_pos e, if_pos (by simpa using plc_lt hi)]
      show _ = some (if p ∈ _ then _ else _)
      rw [if_pos (List.mem_append_right _ (by rw [e]; exact .head _))]
    · rw [if_neg e]
      show some (if p ∈ _ then _ else _) = some (if p ∈ _ then _ else _)
      congr 1
      have : p ∈ evl (Sat n t k i) ++ [plc n (bk t (k + 1)) i] ↔ p ∈ evl (Sat n t k i) := by
        rw [List.mem_append, List.mem_singleton]
        constructor
        · rintro (h | h)
          · exact h
          · exact absurd h.symm e
        · exact .inl
      simp only [this]
  · rw [List.getElem?_map]
    have hr : (List.range n)[p]? = none := List.getElem?_eq_none (by simp; omega)
    have hne : ¬ plc n (bk t (k + 1)) i = p := fun e => hp (by rw [← e]; exact plc_lt hi)
    rw [hr, if_neg hne]
    rfl
theorem evl_all : evl (Sat n t k n) = outP n t k := by
  rw [sat_all, evl_range]
  rfl
theorem lapsAt_all : lapsAt n t k n = lapsL n t (k + 1) := by
  unfold lapsAt lapsL
  rw [evl_all]
  apply List.map_congr_left
  intro p hp
  exact (lapF_succ (List.mem_range.mp hp)).symm
theorem out_len : (outP n t k).length = (n / 2 ^ k + 1) / 2 := by simp [outP]
theorem evl_len {α : Type} : ∀ (l : List α), (evl l).length ≤ l.length
  | [] => Nat.le_refl _
  | [_] => Nat.le_refl _
  | a :: b :: r => by
    have := evl_len r
    simp only [evl, List.length_cons]
    omega
theorem sat_len : (evl (Sat n t k i)).length ≤ n := by
  refine Nat.le_trans (evl_len _) (Nat.le_trans (List.length_filter_le ..) ?_)
  rw [List.length_take]
  simp [order]
  omega
/-- one step: what is met, what is struck -/
theorem strike_step (hi : i < n) (h : lapF n t k (plc n (bk t (k + 1)) i) = -1) (hs : (Sat n t k i).length % 2 = 0) :
    evl (Sat n t k (i + 1)) = evl (Sat n t k i) ++ [plc n (bk t (k + 1)) i] ∧ (Sat n t k (i + 1)).length % 2 = 1 := by
  rw [sat_new hi h, evl_snoc, if_pos hs, List.length_append]
  exact ⟨rfl, by simp only [List.length_cons, List.length_nil]; omega⟩
theorem spare_step (hi : i < n) (h : lapF n t k (plc n (bk t (k + 1)) i) = -1) (hs : (Sat n t k i).length % 2 = 1) :
    evl (Sat n t k (i + 1)) = evl (Sat n t k i) ∧ (Sat n t k (i + 1)).length % 2 = 0 := by
  rw [sat_new hi h, evl_snoc, if_neg (by omega), List.length_append]
  exact ⟨rfl, by simp only [List.length_cons, List.length_nil]; omega⟩
end
end Mine
namespace Mine
section
variable {prog : Program} {w : World} {A : Around} {s : Shared} {E : Value → Shared → Prop}
/-! ## two lists of the same bytes -/
theorem eqAt_bytes (b c : Array UInt8) (t u : Tok) : SeqAt.EqAt A s (.bytes b t) (.bytes c u) (b.toList == c.toList) := fun prog w E Q h => by
  unfold eqBool
  refine wpAny_holding ?_
  refine wpAny_ite_split (fun hab => ?_) (fun _ => ?_)
  · have e := eq_of_beq hab
    injection e with e1 e2
    subst e1
    exact wpAny_bind (wpAny_rule (wpAny_pure (by simpa using h)))
  · exact wpAny_bind (eq_bytes (wpAny_truthy_bool h))
theorem BsAre.idx {vs : List Value} {bs : List (List UInt8)} (h : BsAre vs bs) {i : Nat} (hi : i < vs.length) : ∃ b t, bs[i]? = some b ∧ vs[i] = .bytes b.toArray t := by
  have hb : i < bs.length := by rw [← h.length]; exact hi
  obtain ⟨t, ht⟩ := h.at (List.getElem?_eq_getElem hb)
  refine ⟨_, t, List.getElem?_eq_getElem hb, ?_⟩
  rw [List.getElem?_eq_getElem hi] at ht
  exact Option.some.inj ht
theorem ne_bs {a b : Addr} {vs us : List Value} {bs : List (List UInt8)} {Q : Value → Shared → Prop} (ha : s.heap.IsList a vs.toArray) (hb : s.heap.IsList b us.toArray) (hi : BsAre vs bs) (hj : BsAre us bs) (hu : A.units + 64 < cLine) (h : Q (.bool false) s) :
    wpAny (model prog w) A (compareOp .NotEq (.ref a) (.ref b)) Q E s := by
  have hl1 := hi.length
  have hl2 := hj.length
  have r := SeqAt.RcNeAt.lists (A := A) (e := fun _ => true) ha hb (by rw [List.size_toArray, List.size_toArray, hl1, hl2]) (by omega) (fun j h1 h2 => by
    rw [List.size_toArray] at h1 h2
    obtain ⟨b1, t1, e1, e2⟩ := hi.idx h1
    obtain ⟨b2, t2, e3, e4⟩ := hj.idx h2
    rw [e1] at e3
    cases e3
    rw [List.getElem_toArray, List.getElem_toArray, e2, e4]
    have := eqAt_bytes (A := A.in1) (s := s) b1.toArray b1.toArray t1 t2
    rw [beq_self_eq_true] at this
    exact this)
  refine r prog w E Q ?_
  rw [show (List.range vs.toArray.size).all (fun _ => true) = true by simp]
  exact h
end
/-! ## the figures of the lap -/
theorem sizes : ∀ n : Nat, n < 65 → 7 ≤ n → n.log2 ≤ 6 ∧ (Builtin.Int.intBits (n : Int) : Int) - 1 = (n.log2 : Int) ∧ n / 2 ^ n.log2 = 1 ∧ (∀ k < n.log2, 1 < n / 2 ^ k) ∧ 2 ^ n.log2 ≤ n ∧
    (Builtin.bitAnd (n : Int) ((n : Int) - 1) == 0) = decide (n - 2 ^ n.log2 = 0) := by decide +kernel
theorem xor_and (a : Nat) : ∀ b : Nat, (a ^^^ b) + 2 * (a &&& b) = a + b := by
  induction a using Nat.strongRecOn with
  | ind a ih =>
    intro b
    by_cases h0 : a = 0
    · subst h0; simp
    · have h := ih (a / 2) (by omega) (b / 2)
      have e1 : (a ^^^ b) / 2 = a / 2 ^^^ b / 2 := Nat.xor_div_two
      have e2 : (a &&& b) / 2 = a / 2 &&& b / 2 := Nat.and_div_two
      have e3 : (a ^^^ b) % 2 = 1 ↔ ¬(a % 2 = 1 ↔ b % 2 = 1) := Nat.xor_mod_two_eq_one
      have e4 : (a &&& b) % 2 = 1 ↔ a % 2 = 1 ∧ b % 2 = 1 := Nat.and_mod_two_eq_one
      rw [← e1, ← e2] at h
      clear ih
      omega
theorem bitXor_nat (a b : Nat) : Builtin.bitXor (a : Int) (b : Int) = ((a ^^^ b : Nat) : Int) := by
  have e : ∀ z : Int, Builtin.bitNot (Builtin.bitNot z) = z := fun z => by unfold Builtin.bitNot; omega
  have h1 : decide (0 ≤ Builtin.bitNot (a : Int)) = false := by unfold Builtin.bitNot; rw [decide_eq_false_iff_not]; omega
  have h2 : decide (0 ≤ Builtin.bitNot (b : Int)) = false := by unfold Builtin.bitNot; rw [decide_eq_false_iff_not]; omega
  have h3 : decide (0 ≤ (a : Int)) = true := decide_eq_true (by omega)
  have h4 : decide (0 ≤ (b : Int)) = true := decide_eq_true (by omega)
  have o : Builtin.bitOr (a : Int) (b : Int) = ((a ||| b : Nat) : Int) := by
    unfold Builtin.bitOr Builtin.bitAnd
    rw [h1, h2]
    dsimp only
    rw [e, e, e, Int.toNat_natCast, Int.toNat_natCast]
  have n : Builtin.bitAnd (a : Int) (b : Int) = ((a &&& b : Nat) : Int) := by
    unfold Builtin.bitAnd
    rw [h3, h4]
    dsimp only
    rw [Int.toNat_natCast, Int.toNat_natCast]
  have q := bitOr_and (a : Int) (b : Int)
  unfold Builtin.bitXor
  rw [o, n] at q
  rw [o, n]
  have := xor_and a b
  omega
def lapX : Nat → Nat → Int
  | 0, _ => -1
  | k + 1, x => if lapX k x = -1 then (if x / 2 ^ k % 2 = 0 then -1 else (k : Int)) else lapX k x
theorem low_bit : ∀ H : Nat, H < 7 → ∀ x : Nat, x < 2 ^ H → (Builtin.Int.intBits (Builtin.bitAnd (x : Int) (-(x : Int))) : Int) - 1 = lapX H x := by decide +kernel
theorem bit_mod (x H j : Nat) (hj : j < H) : x % 2 ^ H / 2 ^ j % 2 = x / 2 ^ j % 2 := by
  have h := Nat.testBit_mod_two_pow x H j
  rw [Nat.testBit_eq_decide_div_mod_eq, Nat.testBit_eq_decide_div_mod_eq, decide_eq_true hj, Bool.true_and, decide_eq_decide] at h
  have h1 : x % 2 ^ H / 2 ^ j % 2 < 2 := Nat.mod_lt _ (by decide)
  have h2 : x / 2 ^ j % 2 < 2 := Nat.mod_lt _ (by decide)
  omega
theorem bit_xor (x y j : Nat) : (x ^^^ y) / 2 ^ j % 2 = 0 ↔ x / 2 ^ j % 2 = y / 2 ^ j % 2 := by
  have h := Nat.testBit_xor x y j
  rw [Nat.testBit_eq_decide_div_mod_eq, Nat.testBit_eq_decide_div_mod_eq, Nat.testBit_eq_decide_div_mod_eq] at h
  have h1 : (x ^^^ y) / 2 ^ j % 2 < 2 := Nat.mod_lt _ (by decide)
  have h2 : x / 2 ^ j % 2 < 2 := Nat.mod_lt _ (by decide)
  have h3 : y / 2 ^ j % 2 < 2 := Nat.mod_lt _ (by decide)
  generalize (x ^^^ y) / 2 ^ j % 2 = a at *
  generalize x / 2 ^ j % 2 = b at *
  generalize y / 2 ^ j % 2 = c at *
  match a, b, c, h1, h2, h3, h with
  | 0, 0, 0, _, _, _, _ => simp
  | 0, 0, 1, _, _, _, h => simp at h
  | 0, 1, 0, _, _, _, h => simp at h
  | 0, 1, 1, _, _, _, _ => simp
  | 1, 0, 0, _, _, _, h => simp at h
  | 1, 0, 1, _, _, _, _ => simp
  | 1, 1, 0, _, _, _, _ => simp
  | 1, 1, 1, _, _, _, h => simp at h
theorem lap_told {n : Nat} {t : Nat → Bool} (H p : Nat) : ∀ k ≤ H, lapX k ((p ^^^ keyN n t H) % 2 ^ H) = lapF n t k p := by
  intro k
  induction k with
  | zero => intro _; rfl
  | succ k ih =>
    intro hk
    have ih := ih (by omega)
    show (if lapX k _ = -1 then (if _ / 2 ^ k % 2 = 0 then -1 else (k : Int)) else lapX k _) = (if lapF n t k p = -1 then (if p / 2 ^ k % 2 = cN n t k then -1 else (k : Int)) else lapF n t k p)
    rw [ih, bit_mod _ _ _ (by omega)]
    have hb : (p ^^^ keyN n t H) / 2 ^ k % 2 = 0 ↔ p / 2 ^ k % 2 = cN n t k := by
      rw [bit_xor, key_bit H k, if_pos (by omega)]
    by_cases h : p / 2 ^ k % 2 = cN n t k
    · rw [if_pos h, if_pos (hb.mpr h)]
    · rw [if_neg h, if_neg (fun e => h (hb.mp e))]
/-- what the law asks of one place -/
theorem place_told {n : Nat} {t : Nat → Bool} {H p : Nat} (hH : H < 7) :
    (Builtin.Int.intBits (Builtin.bitAnd ((Builtin.bitXor (p : Int) (keyN n t H : Int)).fmod ((2 ^ H : Nat) : Int)) (-((Builtin.bitXor (p : Int) (keyN n t H : Int)).fmod ((2 ^ H : Nat) : Int)))) : Int) - 1 = lapF n t H p := by
  rw [bitXor_nat, Int.fmod_eq_emod_of_nonneg _ (Int.natCast_nonneg _), ← Int.natCast_emod]
  rw [low_bit H hH _ (Nat.mod_lt _ (two_pos' H))]
  exact lap_told H p H (Nat.le_refl _)
/-- always read from its end -/
theorem aF_end {n : Nat} {t : Nat → Bool} (h0 : t 0 = true) (ht : ∀ k, t (k + 1) = false) : ∀ k, aF n t k = n % 2 ^ k := by
  have hb : ∀ k, bk t (k + 1) = true := by
    intro k
    induction k with
    | zero => show xor false (t 0) = true; rw [h0]; rfl
    | succ k ih => show xor (bk t (k + 1)) (t (k + 1)) = true; rw [ih, ht]; rfl
  intro k
  induction k with
  | zero => simp [aF, Nat.mod_one]
  | succ k ih =>
    show aF n t k + cN n t k * 2 ^ k = _
    rw [ih, mod_succ, cN, hb k, if_pos rfl]
theorem mod_last {n H : Nat} (h1 : n / 2 ^ H = 1) : n % 2 ^ H = n - 2 ^ H := by
  have := Nat.div_add_mod n (2 ^ H)
  rw [h1] at this
  omega
end Mine
namespace Mine
open_top hd for PySem.Challenge.rw_rl0003_01
end Mine
namespace Mine
abbrev PP : Program := PySem.Challenge.rw_rl0003_01.row.prog
local macro_rules | `(tactic| walk_at "go") => `(tactic| ((try k_fold); repeat' (first | (k_unfold; (try dsimp only)) | (walk1; all_goals (try dsimp only)) | (dsimp only; walk1) | (dsimp only; k_unfold))))
section
variable {w : World} {A : Around} {s : Shared} {E : Value → Shared → Prop} {p : Program} {loose : List Str} {mg mb : Str → Option Value} {Q : Value → Shared → Prop}
theorem byteswap (X : (hd.heap_39 w.params).In s.heap) (T : TopRead p loose mg mb s.heap) (hr : A.depth < recursionLimit) (hh : A.handled = none) (hg : A.guards = some []) {l : List UInt8} {wd n : Nat} {t u : Tok} (hw : 0 < wd) (hl : n * wd = l.length) (hz : l.length ≤ 1024) (hwz : wd ≤ 1024)
   (h : ∀ h' k t, Kept s.heap h' → Q (.bytes (swp l wd).toArray t) { s with heap := h', toks := k }) :
   wpC (model PP w) A (call (.ref 35) [.bytes l.toArray t, .int wd u]) Q s := by
  refine .call ?_
  refine enterC (binds := [("data", .bytes l.toArray t), ("width", .int wd u)]) X T.nolimit (by with_unfolding_all rfl) (by k_is) hr (BindsTo.of_eq rfl) (locs rfl) ?_
  intro L h₁ F N
  refine .execs_cons (.assign (.callName rfl ?_))
  walk_at "go"
  refine .callT (.of ?_)
  walk_at "go"
  refine call_bytearray hg (by simp) (by simp; omega) fun h' e1 e2 => ?_
  dsimp only at e1 e2
  generalize hS : h₁.objs.size = S at e1
  rename Fr _ _ _ _ => F
  have F' := fr_kept F e2
  have N' := news_more F N e2 e1 (hS ▸ get_size _)
  clear F N e2
  walk_at "go"
  refine .of ?_
  walk_at "go"
  rename Fr _ _ _ _ => F
  rename News _ _ _ _ => N
  rename IsRange _ _ _ _ _ _ _ _ => hR
  refine ks_range (fun b : Array UInt8 => [(S, baObj b)]) (fun _ => []) ["j"] (fun i b => Laid1 l wd i 0 b) _ hh hR (small_step (by omega) (by omega) (by simp) (by simp; omega) (by omega) (by omega)) (n := n)
    (by rw [List.size_toArray, ← hl]; exact size_step hw) F N (by intro q hq; cases hq) (by rw [List.size_toArray]; exact Laid1.zero l wd) ?_ ?_
  · intro b i t₂ u₂ h₃ tk₃ own hi hoff hP F N
    clear hR
    walk_at "go"
    rename IsRange _ _ _ _ _ _ _ _ => hR
    rename Fr _ _ _ _ => F
    rename News _ _ _ _ => N
    have hin : (i + 1) * wd ≤ l.length := by rw [← hl]; exact Nat.mul_le_mul_right _ hi
    have hin' : (i + 1) * wd = i * wd + wd := by rw [Nat.add_mul, Nat.one_mul]
    refine ks_range (fun b : Array UInt8 => (S, baObj b) :: own) (fun _ => []) [] (fun j b => Laid1 l wd i j b) b hh hR (small_step (by omega) (by omega) (by omega) (by omega) (by omega) (by omega)) (n := wd)
      (by rw [rangeSize_one]; split <;> omega) F N (by intro q hq; cases hq) hP ?_ ?_
    · intro b j t₂ u₂ h₃ tk₃ own₂ hj hoff₂ hP F N
      clear hR
      walk_at "go"
      have hsz := hP.1
      refine' ba_set_K ?k1 ?k2 (Upd.head ?k3) ?k4 ?k5 ?k6 ?k7 ?k8 ?_
      case k1 => exact F
      case k2 => exact N
      case k3 =>
        intro q hq
        rcases List.mem_append.mp hq with hq | hq
        · exact hoff q hq S (.head _)
        · exact hoff₂ q hq S (.head _)
      case k4 => omega
      case k5 => omega
      case k6 => omega
      case k7 => omega
      case k8 => have := (l.getD (0 + (i : Int) * wd + (0 + (j : Int) * 1)).toNat 0).toNat_lt; omega
      intro h' F' N'
      clear F N
      have e1 : (0 + (i : Int) * (wd : Int) + (wd : Int) - 1 - (0 + (j : Int) * 1)).toNat = i * wd + wd - 1 - j := by
        rw [← Int.natCast_mul]; omega
      have e2 : (0 + (i : Int) * (wd : Int) + (0 + (j : Int) * 1)).toNat = i * wd + j := by
        rw [← Int.natCast_mul]; omega
      have e3 : (((l.getD (i * wd + j) 0).toNat : Nat) : Int).toNat.toUInt8 = l.getD (i * wd + j) 0 := by
        rw [Int.toNat_natCast]; exact UInt8.ofNat_toNat
      rw [e1, e2, e3] at N'
      walk_at "go"
      refine ks_end (b.setIfInBounds (i * wd + wd - 1 - j) (l.getD (i * wd + j) 0)) (by assumption) (by assumption) ?_ ?_ rfl (by intro q hq; cases hq) ?_ (hP.step hj hin)
      · intro q hq
        rcases List.mem_cons.mp hq with rfl | hq
        · exact .head _
        · exact .tail _ (List.mem_append_left _ hq)
      · intro q hq
        exact .tail _ (List.mem_append_right _ hq)
      · intro z h1 h2 h3
        rw [if_neg h1]
        rfl
    · intro b u₂ h₃ tk₃ hP F N
      clear hR
      walk_at "go"
      refine ks_end b (by assumption) (by assumption) ?_ ?_ rfl (by intro q hq; cases hq) ?_ (hP.next hw)
      · intro q hq
        rcases List.mem_cons.mp hq with rfl | hq
        · exact .head _
        · cases hq
      · intro q hq
        exact .tail _ hq
      · intro z h1 h2 h3
        have hj : z ≠ "j" := by simpa using h3
        rw [if_neg hj]
        show (if z = "i" then _ else _) = _
        rw [if_neg h1]
        show (if List.contains (["j"] : List Str) z = true then _ else _) = _
        rw [h3]
        rfl
  · intro b u₂ h₃ tk₃ hP F N
    clear hR
    have hb := hP.whole hl
    have hsz := hP.1
    walk_at "go"
    refine ba_bytes_K (by assumption) (.head _) (by omega) fun t' k' => ?_
    rename Fr _ _ _ _ => F
    rw [hb]
    exact h _ _ _ F.keep
end
end Mine
namespace Mine
local macro_rules | `(tactic| walk_at "go") => `(tactic| ((try k_fold); repeat' (first | (k_unfold; (try dsimp only)) | (walk1; all_goals (try dsimp only); all_goals (try (show wpAny _ _ _ _ _ _))) | (dsimp only; walk1) | (dsimp only; k_unfold))))
/-- where the walk shall stand still -/
structure Stop (P : Prop) : Prop where
  go : P
/-- the turns, told as truths -/
def tb (ts : List Int) (k : Nat) : Bool := decide (ts.getD k 0 = 1)
theorem bitOr_nat (a b : Nat) : Builtin.bitOr (a : Int) (b : Int) = ((a ||| b : Nat) : Int) := by
  have e : ∀ z : Int, Builtin.bitNot (Builtin.bitNot z) = z := fun z => by unfold Builtin.bitNot; omega
  unfold Builtin.bitOr Builtin.bitAnd
  have h1 : decide (0 ≤ Builtin.bitNot (a : Int)) = false := by unfold Builtin.bitNot; rw [decide_eq_false_iff_not]; omega
  have h2 : decide (0 ≤ Builtin.bitNot (b : Int)) = false := by unfold Builtin.bitNot; rw [decide_eq_false_iff_not]; omega
  rw [h1, h2]
  dsimp only
  rw [e, e, e, Int.toNat_natCast, Int.toNat_natCast]
theorem far_step {ts : List Int} {i : Nat} (ht : ∀ x ∈ ts, x = 0 ∨ x = 1) (hi : i < ts.length) : (((bk (tb ts) i).toNat : Int) + ts.getD i 0).fmod 2 = ((bk (tb ts) (i + 1)).toNat : Int) := by
  have h : ts.getD i 0 = 0 ∨ ts.getD i 0 = 1 := by
    rw [List.getD_eq_getElem?_getD, List.getElem?_eq_getElem hi]
    exact ht _ (List.getElem_mem hi)
  show _ = ((xor (bk (tb ts) i) (decide (ts.getD i 0 = 1))).toNat : Int)
  rcases h with h | h <;> rw [h] <;> cases bk (tb ts) i <;> decide
section
variable {w : World} {A : Around} {s : Shared} {E : Value → Shared → Prop} {p : Program} {loose : List Str} {mg mb : Str → Option Value} {Q : Value → Shared → Prop}
theorem high_bit (X : (hd.heap_39 w.params).In s.heap) (T : TopRead p loose mg mb s.heap) (hr : A.depth < recursionLimit) {n : Int} {t : Tok}
   (h : ∀ h' k t, Kept s.heap h' → Q (.int (Builtin.Int.intBits n - 1) t) { s with heap := h', toks := k }) :
   wpAny (model PP w) A (call (.ref 28) [.int n t]) Q E s := by
  refine wpAny_call ?_
  refine enter (binds := [("value", .int n t)]) X T.nolimit (by with_unfolding_all rfl) (by k_is) hr (BindsTo.of_eq rfl) (locs rfl) ?_
  intro L h₁ F N
  walk_at "go"
  exact h _ _ _ F.keep
theorem single_bit (X : (hd.heap_39 w.params).In s.heap) (T : TopRead p loose mg mb s.heap) (hr : A.depth < recursionLimit) {n : Int} {t : Tok} (hn : n ≠ 0)
   (h : ∀ h' k, Kept s.heap h' → Q (.bool (Builtin.bitAnd n (n - 1) == 0)) { s with heap := h', toks := k }) :
   wpAny (model PP w) A (call (.ref 21) [.int n t]) Q E s := by
  refine wpAny_call ?_
  refine enter (binds := [("num", .int n t)]) X T.nolimit (by with_unfolding_all rfl) (by k_is) hr (BindsTo.of_eq rfl) (locs rfl) ?_
  intro L h₁ F N
  walk_at "go"
  · exact absurd (by assumption) hn
  · rename Fr _ _ _ _ => F
    exact h _ _ F.keep
theorem high_bit_K {h₀ : Heap} {L : Addr} {m : Str → Option Value} {news : List (Addr × Obj)} (X : (hd.heap_39 w.params).In h₀) (T : TopRead p loose mg mb h₀) (F : Fr h₀ L s.heap m) (N : News h₀ L s.heap news) (hr : A.depth < recursionLimit) {n v : Int} {t : Tok}
   (e : (Builtin.Int.intBits n : Int) - 1 = v) (h : ∀ h' k t, Fr h₀ L h' m → News h₀ L h' news → Q (.int v t) { s with heap := h', toks := k }) :
   wpAny (model PP w) A (call (.ref 28) [.int n t]) Q E s :=
  high_bit (X.keeps F.keep) (T.keeps F.keep) hr fun h' k t hk => by rw [e]; exact h h' k t (fr_kept F hk) (news_kept N hk)
theorem single_bit_K {h₀ : Heap} {L : Addr} {m : Str → Option Value} {news : List (Addr × Obj)} (X : (hd.heap_39 w.params).In h₀) (T : TopRead p loose mg mb h₀) (F : Fr h₀ L s.heap m) (N : News h₀ L s.heap news) (hr : A.depth < recursionLimit) {n : Int} {t : Tok} {b : Bool} (hn : n ≠ 0) (e : (Builtin.bitAnd n (n - 1) == 0) = b)
   (h : ∀ h' k, Fr h₀ L h' m → News h₀ L h' news → Q (.bool b) { s with heap := h', toks := k }) :
   wpAny (model PP w) A (call (.ref 21) [.int n t]) Q E s :=
  single_bit (X.keeps F.keep) (T.keeps F.keep) hr hn fun h' k hk => by rw [e]; exact h h' k (fr_kept F hk) (news_kept N hk)
local macro_rules | `(tactic| walk_at "call ref") => `(tactic| refine Stop.go ?_)
local macro_rules | `(tactic| walk_at "pyIter ref") => `(tactic| refine Stop.go ?_)
theorem law_key (X : (hd.heap_39 w.params).In s.heap) (T : TopRead p loose mg mb s.heap) (hr : A.depth + 2 < recursionLimit) (hh : A.handled = none) {l : Addr} {vs : List Value} {ts : List Int} {c H : Nat} {tc : Tok} (hl : s.heap.IsList l vs.toArray) (hi : IntsAre vs ts) (hlen : H ≤ ts.length) (hz : ts.length ≤ 64) (ht : ∀ x ∈ ts, x = 0 ∨ x = 1)
   (hH : (Builtin.Int.intBits (c : Int) : Int) - 1 = (H : Int)) (hH6 : H ≤ 6)
   (h : ∀ h' k t, Kept s.heap h' → Q (.int ((keyN c (tb ts) H : Nat) : Int) t) { s with heap := h', toks := k }) :
   wpAny (model PP w) A (call (.ref 52) [.int (c : Int) tc, .ref l]) Q E s := by
  refine wpAny_call ?_
  refine enter (binds := [("count", .int (c : Int) tc), ("turns", .ref l)]) X T.nolimit (by with_unfolding_all rfl) (by k_is) (by omega) (BindsTo.of_eq rfl) (locs rfl) ?_
  intro L h₁ F N
  obtain ⟨ha, d, fr, gs, un⟩ := A
  cases hh
  have hvl : vs.length = ts.length := hi.length
  walk_at "go"
  constructor
  refine' high_bit_K X T ?k1 ?k2 ?k3 hH ?_
  case k1 => assumption
  case k2 => assumption
  case k3 => (simp only [depth_deeper] at *); omega
  intro h₂ k₂ t₂ F N
  walk_at "go"
  constructor
  rename IsRange _ _ _ _ _ _ _ _ => hR
  rename Fr _ _ _ _ => F
  rename News _ _ _ _ => N
  refine' ks_range (fun _ : Nat × Tok × Tok => []) (fun q => [("key", .int ((keyN c (tb ts) q.1 : Nat) : Int) q.2.1), ("far", .int (((bk (tb ts) q.1).toNat : Nat) : Int) q.2.2)]) [] (fun i q => q.1 = i) (0, tc, ?tk0) rfl hR (small_step (by omega) (by omega) (by omega) (by omega) (by omega) (by omega)) (n := H)
    (by rw [rangeSize_one]; split <;> omega) F N ?hk rfl ?_ ?_
  case hk =>
    intro q hq
    rcases List.mem_cons.mp hq with rfl | hq
    · rfl
    rcases List.mem_cons.mp hq with rfl | hq
    · rfl
    · cases hq
  · rintro ⟨i', tk1, tk2⟩ i t₃ u₃ h₃ tk₃ own hi₃ hoff hP F N
    clear hR
    dsimp only at hP
    subst hP
    dsimp only at F N
    have e1 : (0 + (i' : Int) * 1).toNat = i' := by omega
    have hfs := far_step ht (show i' < ts.length by omega)
    walk_at "go"
    · rename Int.fmod _ _ = 0 => hz0
      rename Fr _ _ _ _ => F
      rename News _ _ _ _ => N
      rw [e1, hfs] at hz0
      rw [e1, hfs] at F
      have hb : bk (tb ts) (i' + 1) = false := by
        cases hq : bk (tb ts) (i' + 1) with
        | false => rfl
        | true => rw [hq] at hz0; exact absurd hz0 (by decide)
      have e2 : Builtin.bitOr ((keyN c (tb ts) i' : Nat) : Int) (2 ^ i') = ((keyN c (tb ts) (i' + 1) : Nat) : Int) := by
        rw [show ((2 : Int) ^ i') = ((2 ^ i' : Nat) : Int) by rw [Int.natCast_pow]; rfl, bitOr_nat]
        show _ = (((if bk (tb ts) (i' + 1) then keyN c (tb ts) i' else keyN c (tb ts) i' ||| 2 ^ i') : Nat) : Int)
        rw [hb]
        rfl
      rw [e2] at F
      refine' ks_end (i' + 1, ?tk5, ?tk6) F N (by intro q hq; cases hq) (by intro q hq; exact hq) rfl (List.forall_mem_cons.mpr ⟨rfl, List.forall_mem_cons.mpr ⟨rfl, List.forall_mem_nil _⟩⟩) ?_ rfl
      intro z h1 h2 h3
      have hk1 : z ≠ "key" := h2 _ (.head _)
      have hk2 : z ≠ "far" := h2 _ (.tail _ (.head _))
      rw [if_neg hk1, if_neg hk2, if_neg h1]
      show (if z = "key" then _ else if z = "far" then _ else _) = _
      rw [if_neg hk1, if_neg hk2]
      rfl
    · rename Int.fmod _ _ ≠ 0 => hz0
      rename Fr _ _ _ _ => F
      rename News _ _ _ _ => N
      rw [e1, hfs] at hz0
      rw [e1, hfs] at F
      have hb : bk (tb ts) (i' + 1) = true := by
        cases hq : bk (tb ts) (i' + 1) with
        | true => rfl
        | false => rw [hq] at hz0; exact absurd rfl hz0
      have e2 : keyN c (tb ts) i' = keyN c (tb ts) (i' + 1) := by
        show _ = if bk (tb ts) (i' + 1) then keyN c (tb ts) i' else keyN c (tb ts) i' ||| 2 ^ i'
        rw [hb]
        rfl
      rw [e2] at F
      refine' ks_end (i' + 1, tk1, ?tk6) F N (by intro q hq; cases hq) (by intro q hq; exact hq) rfl (List.forall_mem_cons.mpr ⟨rfl, List.forall_mem_cons.mpr ⟨rfl, List.forall_mem_nil _⟩⟩) ?_ rfl
      intro z h1 h2 h3
      have hk1 : z ≠ "key" := h2 _ (.head _)
      have hk2 : z ≠ "far" := h2 _ (.tail _ (.head _))
      rw [if_neg hk2, if_neg h1]
      show (if z = "key" then _ else if z = "far" then _ else _) = _
      rw [if_neg hk1, if_neg hk2]
      rfl
  · rintro ⟨i', tk1, tk2⟩ u₃ h₃ tk₃ hP F N
    dsimp only at hP
    subst hP
    dsimp only at F N
    walk_at "go"
    exact h _ _ _ F.keep
end
end Mine
namespace Mine
local macro_rules | `(tactic| walk_at "go") => `(tactic| ((try k_fold); repeat' (first | (k_unfold; (try dsimp only)) | (walk1; all_goals (try dsimp only); all_goals (try (show wpAny _ _ _ _ _ _))) | (dsimp only; walk1) | (dsimp only; k_unfold))))
def curB (row : Nat → UInt8) (n : Nat) (t : Nat → Bool) (k : Nat) : List UInt8 := (curP n t k).map row
def outB (row : Nat → UInt8) (n : Nat) (t : Nat → Bool) (k : Nat) : List UInt8 := (outP n t k).map row
def goneB (row : Nat → UInt8) (n : Nat) (t : Nat → Bool) (k : Nat) : List (List UInt8) := (List.range k).map (outB row n t)
theorem swp_rev (l : List UInt8) : swp l l.length = l.reverse := by
  apply List.ext_getElem
  · simp [swp]
  · intro i h1 h2
    have hi : i < l.length := by simpa [swp] using h1
    have h3 : l.length - 1 - i < l.length := by omega
    simp only [swp, List.getElem_map, List.getElem_range, List.getElem_reverse, Nat.div_eq_of_lt hi, Nat.mod_eq_of_lt hi, Nat.zero_mul, Nat.zero_add]
    rw [List.getD_eq_getElem?_getD, List.getElem?_eq_getElem h3]
    rfl
def turnedB (row : Nat → UInt8) (n : Nat) (t : Nat → Bool) (k : Nat) : List UInt8 := (List.range (n / 2 ^ k)).map fun j => row (pos n t k j)
theorem turnedB_eq (row : Nat → UInt8) (n : Nat) (t : Nat → Bool) (k : Nat) : turnedB row n t k = if t k then (curB row n t k).reverse else curB row n t k := by
  have h := congrArg (List.map row) (cur_turned (n := n) (t := t) k)
  unfold turnedB curB
  rw [List.map_map] at h
  rw [← List.map_reverse]
  cases ht : t k
  · rw [ht] at h; exact h.symm
  · rw [ht] at h; exact h.symm
theorem size_two {a : Int} {m : Nat} (ha : a = 0 ∨ a = 1) (hm : 0 < m) : Builtin.Range.rangeSize a (m : Int) 2 = (((m + 1 - a.toNat) / 2 : Nat) : Int) := by
  unfold Builtin.Range.rangeSize
  rw [if_pos (by decide)]
  rcases ha with rfl | rfl
  · rw [if_pos (by omega)]
    simp only [Int.toNat_zero]
    omega
  · split
    · simp only [show (1 : Int).toNat = 1 by rfl]
      omega
    · simp only [show (1 : Int).toNat = 1 by rfl]
      omega
theorem back_bytes (l : List UInt8) (a : Int) (ha : 0 ≤ a) (c : Nat) : ((List.range c).map fun (i : Nat) => (((l.getD (a + (i : Int) * 2).toNat 0).toNat : Nat) : Int)).map (fun n : Int => n.toNat.toUInt8) = (List.range c).map fun i => l.getD (a.toNat + 2 * i) 0 := by
  rw [List.map_map]
  apply List.map_congr_left
  intro i _
  show (((l.getD (a + (i : Int) * 2).toNat 0).toNat : Nat) : Int).toNat.toUInt8 = _
  rw [Int.toNat_natCast, show (a + (i : Int) * 2).toNat = a.toNat + 2 * i by omega]
  exact UInt8.ofNat_toNat
theorem ints_bytes (l : List UInt8) (a : Int) (c : Nat) : ∀ x ∈ ((List.range c).map fun (i : Nat) => (((l.getD (a + (i : Int) * 2).toNat 0).toNat : Nat) : Int)), 0 ≤ x ∧ x < 256 := by
  intro x hx
  obtain ⟨i, _, rfl⟩ := List.mem_map.mp hx
  have := (l.getD (a + (i : Int) * 2).toNat 0).toNat_lt
  omega
theorem turnedB_at {row : Nat → UInt8} {n : Nat} {t : Nat → Bool} {k j : Nat} (hj : j < n / 2 ^ k) : (turnedB row n t k).getD j 0 = row (pos n t k j) := by
  unfold turnedB
  rw [List.getD_eq_getElem?_getD, List.getElem?_map, List.getElem?_range hj]
  rfl
theorem out_of (row : Nat → UInt8) (n : Nat) (t : Nat → Bool) (k : Nat) : ((List.range ((n / 2 ^ k + 1 - (0 : Int).toNat) / 2)).map fun i => (turnedB row n t k).getD ((0 : Int).toNat + 2 * i) 0) = outB row n t k := by
  unfold outB outP
  rw [List.map_map]
  apply List.map_congr_left
  intro i hi
  have hi := List.mem_range.mp hi
  simp only [Int.toNat_zero, Nat.zero_add, Nat.sub_zero] at hi ⊢
  exact turnedB_at (by omega)
theorem cur_of (row : Nat → UInt8) (n : Nat) (t : Nat → Bool) (k : Nat) : ((List.range ((n / 2 ^ k + 1 - (1 : Int).toNat) / 2)).map fun i => (turnedB row n t k).getD ((1 : Int).toNat + 2 * i) 0) = curB row n t (k + 1) := by
  unfold curB
  rw [← cur_next, List.map_map]
  simp only [show (1 : Int).toNat = 1 by rfl, Nat.add_sub_cancel]
  apply List.map_congr_left
  intro i hi
  have hi := List.mem_range.mp hi
  rw [Nat.add_comm 1 (2 * i)]
  exact turnedB_at (by omega)
theorem gone_succ (row : Nat → UInt8) (n : Nat) (t : Nat → Bool) (k : Nat) : goneB row n t (k + 1) = goneB row n t k ++ [outB row n t k] := by
  unfold goneB
  rw [List.range_succ, List.map_append]
  rfl
/-- behind the row's turning about -/
def MidW {h₀ h : Heap} {L : Addr} {m : Str → Option Value} (_ : Fr h₀ L h m) (s : Shared) (rest : List (Addr × Obj)) (c : Addr) (b : List UInt8) (f : Flow) (s' : Shared) : Prop :=
  f = .next ∧ ∃ h' tk' o' tr', s' = { s with heap := h', toks := tk' } ∧ Fr h₀ L h' m ∧ News h₀ L h' (rest ++ [(c, o')]) ∧ o'.data = .cell (some (.bytes b.toArray tr'))
section
variable {w : World} {A : Around} {s : Shared} {E : Value → Shared → Prop} {p : Program} {loose : List Str} {mg mb : Str → Option Value} {Q : Value → Shared → Prop}
theorem byteswap_K {h₀ : Heap} {L : Addr} {m : Str → Option Value} {news : List (Addr × Obj)} (X : (hd.heap_39 w.params).In h₀) (T : TopRead p loose mg mb h₀) (F : Fr h₀ L s.heap m) (N : News h₀ L s.heap news) (hr : A.depth < recursionLimit) (hh : A.handled = none) (hg : A.guards = some [])
   {l : List UInt8} {wd n : Nat} {t u : Tok} (hw : 0 < wd) (hl : n * wd = l.length) (hz : l.length ≤ 1024) (hwz : wd ≤ 1024)
   (h : ∀ h' k t, Fr h₀ L h' m → News h₀ L h' news → Q (.bytes (swp l wd).toArray t) { s with heap := h', toks := k }) :
   wpC (model PP w) A (call (.ref 35) [.bytes l.toArray t, .int wd u]) Q s :=
  byteswap (X.keeps F.keep) (T.keeps F.keep) hr hh hg hw hl hz hwz fun h' k t hk => h h' k t (fr_kept F hk) (news_kept N hk)
local macro_rules | `(tactic| walk_at "call ref") => `(tactic| refine Stop.go ?_)
local macro_rules | `(tactic| walk_at "eval ListComp") => `(tactic| refine Stop.go ?_)
theorem law_weeded (X : (hd.heap_39 w.params).In s.heap) (T : TopRead p loose mg mb s.heap) (hr : A.depth + 2 < recursionLimit) (hh : A.handled = none) (hg : A.guards = some []) {lt : Addr} {vt : List Value} {ts : List Int} {row : Nat → UInt8} {n H : Nat} {tr : Tok} (hlt : s.heap.IsList lt vt.toArray) (hit : IntsAre vt ts) (hlen : H ≤ ts.length) (hz : ts.length ≤ 64)
   (hn : n ≤ 64) (h1 : n / 2 ^ H = 1) (h2 : ∀ k < H, 1 < n / 2 ^ k)
   (h : ∀ h' k r vs c, Kept s.heap h' → s.heap.get? r = none → h'.get? r = some (listOf vs.toArray c) → BsAre vs (goneB row n (tb ts) H ++ [curB row n (tb ts) H]) → Q (.ref r) { s with heap := h', toks := k }) :
   wpC (model PP w) A (call (.ref 40) [.bytes ((List.range n).map row).toArray tr, .ref lt]) Q s := by
  refine .call ?_
  refine enterXC (binds := [("row", .bytes ((List.range n).map row).toArray tr), ("turns", .ref lt)]) X T.nolimit (by with_unfolding_all rfl) (by k_is) (by omega) (BindsTo.of_eq rfl) rfl (by decide +kernel) ?_
  intro L h₁ tk cells F N Y
  k_cells Y
  obtain ⟨ha, d, fr, gs, un⟩ := A
  cases hh
  cases hg
  have hvl : vt.length = ts.length := hit.length
  refine .execs_any ?_
  walk_at "go"
  refine .execs_cons (.while_ ?_)
  rename Fr _ _ _ _ => F
  rename News _ _ _ _ => N
  rename_i o₀ d1 G _ hLG _
  refine' ksw_whileC (fun c : Nat × List Value × Nat × Obj × Tok => [(G, listOf c.2.1.toArray c.2.2.1), (L + 1, c.2.2.2.1)]) (fun _ => []) [] (fun c => c.1 ≤ H ∧ BsAre c.2.1 (goneB row n (tb ts) c.1) ∧ c.2.2.2.1.data = .cell (some (.bytes (curB row n (tb ts) c.1).toArray c.2.2.2.2))) (fun c => H - c.1)
    (0, [], 0, o₀, tr) F N (by intro q hq; cases hq) ⟨Nat.zero_le _, .nil, ?hc0⟩ ?_
  case hc0 =>
    rw [d1]
    show Data.cell (some (Value.bytes ((List.range n).map row).toArray tr)) = Data.cell (some (Value.bytes (curB row n (tb ts) 0).toArray tr))
    rw [curB, cur_zero]
  rintro ⟨k, vg, cg, o, tk₂⟩ u h₂ tk₃ ⟨hk, hvg, hod⟩ F N
  dsimp only at hk hvg hod F N
  have hcl : (curB row n (tb ts) k).length = n / 2 ^ k := by simp [curB, curP]
  have hcl2 : n / 2 ^ k ≤ 64 := Nat.le_trans (Nat.div_le_self _ _) hn
  have hgl : vg.length = k := by rw [hvg.length]; simp [goneB]
  generalize hcu : curB row n (tb ts) k = cu at hod hcl
  walk_at "go"
  · have hgt : 1 < n / 2 ^ k := by
      have := ‹1 < ((cu.toArray.size : Nat) : Int)›
      rw [List.size_toArray, hcl] at this
      omega
    have hkH : k < H := by
      rcases Nat.lt_or_ge k H with h | h
      · exact h
      · have : k = H := by omega
        rw [this] at hgt
        omega
    refine .execs_cons (.mono (Q := MidW F s [(G, listOf vg.toArray cg)] (L + 1) (turnedB row n (tb ts) k)) ?_ ?_)
    · refine .if_ (.of ?_)
      walk_at "go"
      refine len_list (News.isList (by assumption) (.head _)) (by rw [List.size_toArray, hgl]; omega) ?_
      rw [show ((vg.toArray.size : Nat) : Int) = (k : Int) by rw [List.size_toArray, hgl]]
      dsimp only
      walk_at "go"
      · have hone : tb ts k = true := by
          have h3 := ‹ts.getD ((k : Int)).toNat 0 = 1›
          rw [Int.toNat_natCast] at h3
          exact decide_eq_true h3
        have htu : turnedB row n (tb ts) k = cu.reverse := by rw [turnedB_eq, hone, hcu]; rfl
        refine .execs_cons (.assign (.callName rfl ?_))
        walk_at "go"
        refine .callF (K := hd.heap_39 w.params) (by k_is) (.of ?_)
        walk_at "go"
        show wpC _ _ (call (Value.ref 35) [Value.bytes cu.toArray _, Value.int ((cu.length : Nat) : Int) _]) _ _
        refine' byteswap_K (n := 1) X T ?k1 ?k2 ?k3 rfl rfl (by omega) (by omega) (by omega) (by omega) ?_
        case k1 => assumption
        case k2 => assumption
        case k3 => (simp only [depth_deeper] at *); omega
        intro h₇ k₇ t₇ F₇ N₇
        rw [swp_rev, ← htu]
        walk_at "go"
        refine .of (wpAny_execs_nil ?_)
        exact ⟨rfl, _, _, _, _, rfl, by assumption, by assumption, by assumption⟩
      · have hone : tb ts k = false := by
          have h3 := ‹ts.getD ((k : Int)).toNat 0 ≠ 1›
          rw [Int.toNat_natCast] at h3
          exact decide_eq_false h3
        have htu : turnedB row n (tb ts) k = cu := by rw [turnedB_eq, hone, hcu]; rfl
        refine .of (wpAny_execs_nil ?_)
        exact ⟨rfl, _, _, _, _, rfl, by assumption, by assumption, by rw [htu]; exact hod⟩
    · rintro f s' ⟨rfl, h', tk', o', tr', rfl, F', N', hd'⟩
      have htl : (turnedB row n (tb ts) k).length = n / 2 ^ k := by simp [turnedB]
      generalize htu : turnedB row n (tb ts) k = tu at hd' htl
      refine .execs_any ?_
      walk_at "go"
      constructor
      refine pick_comp F' rfl (by with_unfolding_all rfl) (fun _ => by first | exact .inl rfl | exact .inr rfl) (fun _ => rfl) ?_
      walk_at "go"
      refine ⟨_, _, _, _, _, _, _, _, _, _, _, _, rfl, by assumption, by assumption, by assumption, small_step (by omega) (by omega) (by simp) (by rw [List.size_toArray]; omega) (by omega) (by omega), by rw [List.size_toArray, htl]; exact size_two (.inl rfl) (by omega), by omega, .tail _ (.head _), hd', by omega, ?_, ?_⟩
      · intro i hi
        simp only [Int.toNat_zero, Nat.sub_zero] at hi
        omega
      intro D h₃ k₃ vD F₃ N₃ o1 hiD
      have hbD := ints_bytes tu 0 ((n / 2 ^ k + 1 - (0 : Int).toNat) / 2)
      walk_at "go"
      refine' bytes_K ?k1 ?k2 (News.isList (by assumption) (.head _)) hiD hbD ?k3 rfl ?_
      case k1 => assumption
      case k2 => assumption
      case k3 => rw [hiD.length, List.length_map, List.length_range, sizeLine_eq]; omega
      intro h₄ t₄ k₄ F₄ N₄ _
      rw [back_bytes _ _ (by omega), ← htu, out_of]
      walk_at "go"
      obtain ⟨hGD, hcD, _⟩ := o1
      have hcG : @Ne Nat (L + 1) G := Nat.ne_of_lt hLG
      refine' append_K ?k1 ?k2 ?k3 ?_ ?z
      case k1 => assumption
      case k2 => assumption
      case k3 => exact .tail (Ne.symm hGD) (.head (List.forall_mem_cons.mpr ⟨hcG, List.forall_mem_nil _⟩))
      case z => rw [List.size_toArray, hgl, sizeLine_eq]; omega
      intro h₅ F₅ N₅
      refine .of ?_
      walk_at "go"
      constructor
      refine pick_comp F₅ rfl (by with_unfolding_all rfl) (fun _ => by first | exact .inl rfl | exact .inr rfl) (fun _ => rfl) ?_
      walk_at "go"
      refine ⟨_, _, _, _, _, _, _, _, _, _, _, _, rfl, by assumption, by assumption, by assumption, small_step (by omega) (by omega) (by simp) (by rw [List.size_toArray]; omega) (by omega) (by omega), by rw [List.size_toArray, htl]; exact size_two (.inr rfl) (by omega), by omega, .tail _ (.tail _ (.head _)), hd', by omega, ?_, ?_⟩
      · intro i hi
        simp only [show (1 : Int).toNat = 1 by rfl] at hi
        omega
      intro D₂ h₆ k₆ vD₂ F₆ N₆ o2 hiD₂
      have hbD₂ := ints_bytes tu 1 ((n / 2 ^ k + 1 - (1 : Int).toNat) / 2)
      walk_at "go"
      refine' bytes_K ?k1 ?k2 (News.isList (by assumption) (.head _)) hiD₂ hbD₂ ?k3 rfl ?_
      case k1 => assumption
      case k2 => assumption
      case k3 => rw [hiD₂.length, List.length_map, List.length_range, sizeLine_eq]; omega
      intro h₇ t₇ k₇ F₇ N₇ _
      rw [back_bytes _ _ (by omega), ← htu, cur_of]
      walk_at "go"
      rename Fr _ _ _ _ => F
      rename News _ _ _ _ => N
      refine' turnW_end (k + 1, vg ++ [.bytes (outB row n (tb ts) k).toArray t₄], cg + 1, ?o, t₇) F N ?hn (by intro q hq; cases hq) ?hr ⟨hkH, ?_, by assumption⟩ (by show H - (k + 1) < H - k; omega)
      case hn => exact List.forall_mem_cons.mpr ⟨.tail _ (.tail _ (.head _)), List.forall_mem_cons.mpr ⟨.tail _ (.tail _ (.tail _ (.head _))), List.forall_mem_nil _⟩⟩
      case hr =>
        intro z _ _
        rfl
      show BsAre _ (goneB row n (tb ts) (k + 1))
      rw [gone_succ]
      exact hvg.snoc _ _
  · have hkH : k = H := by
      rcases Nat.lt_or_ge k H with h | h
      · have h3 := h2 k h
        have h4 := ‹¬ 1 < ((cu.toArray.size : Nat) : Int)›
        rw [List.size_toArray, hcl] at h4
        omega
      · omega
    subst hkH
    refine .of ?_
    walk_at "go"
    rename Fr _ _ _ _ => F
    rename News _ _ _ _ => N
    have z := N _ (.head _)
    refine h _ _ _ _ 0 F.keep z.2.2 z.1 ?_
    rw [hcu]
    exact hvg.snoc _ _
end
end Mine
namespace Mine
local macro_rules | `(tactic| walk_at "go") => `(tactic| ((try k_fold); repeat' (first | (k_unfold; (try dsimp only)) | (walk1; all_goals (try dsimp only); all_goals (try (show wpAny _ _ _ _ _ _))) | (dsimp only; walk1) | (dsimp only; k_unfold))))
/-- the octets of a row of numbers -/
def octs (rn : List Int) (p : Nat) : UInt8 := (rn.getD p 0).toNat.toUInt8
theorem lapsL_zero (rn : List Int) (t : Nat → Bool) : rn.map (fun _ => (-1 : Int)) = lapsL rn.length t 0 := by
  unfold lapsL
  apply List.ext_getElem?
  intro i
  rw [List.getElem?_map, List.getElem?_map]
  by_cases hi : i < rn.length
  · rw [List.getElem?_range hi, List.getElem?_eq_getElem hi]
    rfl
  · rw [List.getElem?_eq_none (by omega), List.getElem?_eq_none (by simp; omega)]
    rfl
theorem fr_eq {h₀ h : Heap} {L : Addr} {m m' : Str → Option Value} (F : Fr h₀ L h m) (e : ∀ y, m y = m' y) : Fr h₀ L h m' := by
  obtain rfl : m = m' := funext e
  exact F
/-- the pair that comes back -/
abbrev tup2 (a b : Addr) : Obj := { cls := .type "tuple", data := .seq #[.ref a, .ref b] }
/-- behind the row's turning about, where it is read from its end -/
def MidA {h₀ h : Heap} {L : Addr} {m : Str → Option Value} (_ : Fr h₀ L h m) (s : Shared) (led : List (Addr × Obj)) (b : Bool) (f : Flow) (s' : Shared) : Prop :=
  f = .next ∧ ∃ h' tk', s' = { s with heap := h', toks := tk' } ∧ Fr h₀ L h' (fun y => if y = "ahead" then some (.bool b) else m y) ∧ News h₀ L h' led
theorem if_any {M : Model} {A : Around} {s : Shared} {E : Value → Shared → Prop} {env : Env} {Q : Flow → Shared → Prop} {test : Expr} {body orelse : List Stmt} {pos : Pos} (h : wpAny M A (isTrue test env (eval test env)) (fun b s₂ => if b then wpAny M A (execs body env) Q E s₂ else wpAny M A (execs orelse env) Q E s₂) E s) :
    wpAny M A (exec (.If test body orelse pos) env) Q E s := by
  rw [exec_If]
  refine wpAny_bind (wpAny_standAt ?_)
  refine wpAny_bind (wpAny_mono h (fun b s₂ h₂ => ?_) fun _ _ e => e)
  cases b <;> exact h₂
section
variable {w : World} {A : Around} {s : Shared} {E : Value → Shared → Prop} {p : Program} {loose : List Str} {mg mb : Str → Option Value} {Q : Value → Shared → Prop}
local macro_rules | `(tactic| walk_at "call ref") => `(tactic| refine Stop.go ?_)
local macro_rules | `(tactic| walk_at "pyIter ref") => `(tactic| refine Stop.go ?_)
local macro_rules | `(tactic| walk_at "exec While Compare cons nil") => `(tactic| refine Stop.go ?_)
local macro_rules | `(tactic| walk_at "exec If") => `(tactic| ((with_reducible show wpAny _ _ (exec (Stmt.If (Expr.Compare (Expr.Subscript (Expr.Name _ _) (Expr.Call _ _ _ _) _) _ _ _) _ _ _) _) _ _ _); refine Stop.go ?_))
local macro_rules | `(tactic| walk_at "exec If") => `(tactic| ((with_reducible show wpAny _ _ (exec (Stmt.If (Expr.Compare (Expr.Subscript (Expr.Name _ _) (Expr.Name _ _) _) _ _ _) _ _ _) _) _ _ _); refine Stop.go ?_))
local macro_rules | `(tactic| walk_at "exec Assign cons ListComp") => `(tactic| ((with_reducible show wpAny _ _ (exec (Stmt.Assign [Expr.Name _ _] (Expr.ListComp (Expr.Subscript _ _ _) _ _ _) _) _) _ _ _); refine Stop.go ?_))
local macro_rules | `(tactic| walk_at "CompSrcT") => `(tactic| refine Stop.go ?_)
theorem law_struck (X : (hd.heap_39 w.params).In s.heap) (T : TopRead p loose mg mb s.heap) (hr : A.depth + 2 < recursionLimit) (hh : A.handled = none) {lr lt : Addr} {vr vt : List Value} {rn ts : List Int} {n H : Nat} (hlr : s.heap.IsList lr vr.toArray) (hir : IntsAre vr rn) (hrn : rn.length = n) (hrb : ∀ x ∈ rn, 0 ≤ x ∧ x < 256)
   (hlt : s.heap.IsList lt vt.toArray) (hit : IntsAre vt ts) (hlen : H ≤ ts.length) (hz : ts.length ≤ 64)
   (hn : n ≤ 64) (hn1 : n / 2 ^ H = 1) (hn2 : ∀ k < H, 1 < n / 2 ^ k)
   (h : ∀ h' k r la du vl cl vd cd, Kept s.heap h' → s.heap.get? r = none → s.heap.get? la = none → s.heap.get? du = none → h'.get? r = some (tup2 la du) → h'.get? la = some (listOf vl.toArray cl) → h'.get? du = some (listOf vd.toArray cd) → IntsAre vl (lapsL n (tb ts) H) → BsAre vd (goneB (octs rn) n (tb ts) H ++ [curB (octs rn) n (tb ts) H]) → Q (.ref r) { s with heap := h', toks := k }) :
   wpAny (model PP w) A (call (.ref 45) [.ref lr, .ref lt]) Q E s := by
  refine wpAny_call ?_
  refine enterX (binds := [("row", .ref lr), ("turns", .ref lt)]) X T.nolimit (by with_unfolding_all rfl) (by k_is) (by omega) (BindsTo.of_eq rfl) rfl (by decide +kernel) ?_
  intro L h₁ tk cells F N Y
  k_cells Y
  obtain ⟨ha, d, fr, gs, un⟩ := A
  cases hh
  have hvl : vt.length = ts.length := hit.length
  have hvr : vr.length = rn.length := hir.length
  subst hrn
  walk_at "go"
  constructor
  rename Fr _ _ _ _ => F
  rename News _ _ _ _ => N
  rename IntsAre _ (List.map _ rn) => hI8
  rename_i oC oR dC dR hkl1 hkl2 g0 hL8 LA _ _ hA1 _ oL hoL DU _ hDU _ tkA _ tkB _
  refine' ksw_while (fun c : Nat × List Value × Nat × List Value × Nat × Tok => [(DU, listOf c.2.2.2.1.toArray c.2.2.2.2.1), (LA, listOf c.2.1.toArray c.2.2.1), (L + 1 + 1, oL), (L + 1, oR)]) (fun c => [("ahead", .bool (!bk (tb ts) c.1)), ("left", .int ((rn.length / 2 ^ c.1 : Nat) : Int) c.2.2.2.2.2)]) (fun c => IntsAre c.2.1 (lapsL rn.length (tb ts) c.1) ∧ BsAre c.2.2.2.1 (goneB (octs rn) rn.length (tb ts) c.1)) ["out", "strike", "k", "place"] (fun c => c.1 ≤ H) (fun c => H - c.1)
    (0, ys, ys.length, [], 0, ?tk0) F N ⟨?hf1, .nil⟩ ?hk (Nat.zero_le _) ?turn PassesOwn.never
  case hk =>
    intro q hq
    rcases List.mem_cons.mp hq with rfl | hq
    · rfl
    rcases List.mem_cons.mp hq with rfl | hq
    · show some (Value.int (rn.length : Int) _) = some (Value.int ((rn.length / 2 ^ 0 : Nat) : Int) _)
      rw [show rn.length / 2 ^ 0 = rn.length by simp]
    · cases hq
  case hf1 => rw [← lapsL_zero]; exact hI8
  case turn =>
    rintro ⟨k, vl, cl, vd, cd, tkl⟩ u h₂ tk₂ ⟨hvl2, hvd⟩ hk F N
    dsimp only at hvl2 hvd hk F N
    have hdl : vd.length = k := by rw [hvd.length]; simp [goneB]
    have hcl2 : rn.length / 2 ^ k ≤ 64 := Nat.le_trans (Nat.div_le_self _ _) hn
    generalize hm : rn.length / 2 ^ k = mk at F hcl2
    walk_at "go"
    · have hgt : 1 < mk := by
        have := ‹1 < ((mk : Nat) : Int)›
        omega
      have hkH : k < H := by
        rcases Nat.lt_or_ge k H with h | h
        · exact h
        · have : k = H := by omega
          rw [this] at hm
          omega
      constructor
      refine wpAny_mono (Q := MidA F s [(DU, listOf vd.toArray cd), (LA, listOf vl.toArray cl), (L + 1 + 1, oL), (L + 1, oR)] (!bk (tb ts) (k + 1))) ?_ (fun f s' hf => ?_) (fun _ _ e => e)
      · refine if_any ?_
        walk_at "go"
        refine len_list (News.isList (by assumption) (.head _)) (by rw [List.size_toArray, hdl]; omega) ?_
        rw [show ((vd.toArray.size : Nat) : Int) = (k : Int) by rw [List.size_toArray, hdl]]
        dsimp only
        walk_at "go"
        · have hone : tb ts k = true := by
            have h3 := ‹ts.getD ((k : Int)).toNat 0 = 1›
            rw [Int.toNat_natCast] at h3
            exact decide_eq_true h3
          rename Fr _ _ _ _ => F
          have hb : (!!bk (tb ts) k) = (!bk (tb ts) (k + 1)) := by
            show _ = !(xor (bk (tb ts) k) (tb ts k))
            rw [hone]; cases bk (tb ts) k <;> rfl
          rw [hb] at F
          exact ⟨rfl, _, _, rfl, F, by assumption⟩
        · have hone : tb ts k = false := by
            have h3 := ‹ts.getD ((k : Int)).toNat 0 ≠ 1›
            rw [Int.toNat_natCast] at h3
            exact decide_eq_false h3
          have hb : bk (tb ts) k = bk (tb ts) (k + 1) := by
            show _ = (xor (bk (tb ts) k) (tb ts k))
            rw [hone]; cases bk (tb ts) k <;> rfl
          refine ⟨rfl, _, _, rfl, ?_, by assumption⟩
          refine fr_eq (by assumption) fun y => ?_
          by_cases hy : y = "ahead"
          · subst hy
            rw [if_pos rfl, ← hb]
            rfl
          · rw [if_neg hy]
      · obtain ⟨rfl, h₃, tk₃, rfl, F₃, N₃⟩ := hf
        generalize hbb : bk (tb ts) (k + 1) = bb at F₃
        walk_at "go"
        constructor
        rename IsRange _ _ _ _ _ _ _ _ => hR
        rename Fr _ _ _ _ => F
        rename News _ _ _ _ => N
        rename_i OU _ hOU _ _ _ _ _ _ _ _ _ _ _
        have hlz : (lapsL rn.length (tb ts) k).length = rn.length := by simp [lapsL]
        refine ks_range (fun q : List Value × List Value × Nat × Bool => [(OU, listOf q.2.1.toArray q.2.2.1), (DU, listOf vd.toArray cd), (LA, listOf q.1.toArray cl), (L + 1 + 1, oL), (L + 1, oR)]) (fun q => [("strike", .bool q.2.2.2)]) ["place"]
          (fun i q => IntsAre q.1 (lapsAt rn.length (tb ts) k i) ∧ IntsAre q.2.1 ((evl (Sat rn.length (tb ts) k i)).map fun p => rn.getD p 0) ∧ q.2.2.2 = decide ((Sat rn.length (tb ts) k i).length % 2 = 0)) (vl, [], 0, true)
          rfl hR (small_step (by omega) (by omega) (by omega) (by omega) (by omega) (by omega)) (n := rn.length)
          (by rw [rangeSize_one]; split <;> omega) F N (List.forall_mem_cons.mpr ⟨rfl, List.forall_mem_nil _⟩) ⟨by rw [lapsAt_zero]; exact hvl2, .nil, rfl⟩ ?_ ?_
        · rintro ⟨vl', vo, co, st⟩ i t₃ u₃ h₃ tk₃ own hi₃ hoff ⟨hP1, hP2, hP3⟩ F N
          dsimp only at hP1 hP2 hP3 F N
          clear hR
          have hl1 : (lapsAt rn.length (tb ts) k i).length = rn.length := lapsAt_len
          have hl2 := hP1.length
          have hvo : vo.length ≤ 64 := by
            rw [hP2.length, List.length_map]
            exact Nat.le_trans sat_len hn
          have hoffs : ∀ (v : List Value), ∀ q ∈ ((DU, listOf vd.toArray cd) :: (LA, listOf v.toArray cl) :: List.append [(L + 1 + 1, oL), (L + 1, oR)] own), q.1 ≠ OU := by
            intro v q hq
            rcases List.mem_cons.mp hq with rfl | hq
            · exact Nat.ne_of_lt hOU.1
            rcases List.mem_cons.mp hq with rfl | hq
            · exact Nat.ne_of_lt hOU.2.1
            rcases List.mem_cons.mp hq with rfl | hq
            · exact Nat.ne_of_lt hOU.2.2.1
            rcases List.mem_cons.mp hq with rfl | hq
            · exact Nat.ne_of_lt hOU.2.2.2
            · exact hoff q hq OU (.head _)
          have hqn := plc_lt (n := rn.length) (b := bk (tb ts) (k + 1)) hi₃
          have hat := lapsAt_at (t := tb ts) (k := k) hi₃
          have hqb : plc rn.length bb i = plc rn.length (bk (tb ts) (k + 1)) i := by rw [hbb]
          generalize hqe : plc rn.length (bk (tb ts) (k + 1)) i = q at hqn hat hqb
          cases bb
          all_goals (simp only [Bool.not_false, Bool.not_true] at F; walk_at "go"; constructor; rename Fr _ _ _ _ => F; rename News _ _ _ _ => N)
          · have hq : (0 + (i : Int) * 1) = (q : Int) := by rw [← hqb]; unfold plc; simp
            rw [hq] at F
            refine if_any ?_
            walk_at "go"
            · have hlp : lapF rn.length (tb ts) k q = -1 := by
                rw [← hat]; exact ‹List.getD _ (Int.toNat _) 0 = (-1 : Int)›
              have hst := ‹st = true›
              refine len_list (News.isList (by assumption) (.tail _ (.head _))) (by rw [List.size_toArray, hdl]; omega) ?_
              rw [show ((vd.toArray.size : Nat) : Int) = (k : Int) by rw [List.size_toArray, hdl]]
              dsimp only
              walk_at "go"
              rename Fr _ _ _ _ => F
              rename News _ _ _ _ => N
              rename IntsAre _ (List.set _ _ _) => hset
              obtain ⟨hev, hpar⟩ := strike_step hi₃ (by rw [hqe]; exact hlp) (of_decide_eq_true (hP3 ▸ hst))
              rw [hqe] at hev
              simp only [Int.toNat_natCast] at hset
              simp only [Int.toNat_natCast, List.push_toArray] at N
              have hls := lapsAt_set (t := tb ts) (k := k) hi₃ (by rw [hqe]; exact hev)
              rw [hqe] at hls
              rw [hls] at hset
              refine' ks_end (_, _, co + 1, !st) F N (List.forall_mem_cons.mpr ⟨.head _, List.forall_mem_cons.mpr ⟨.tail _ (.head _), List.forall_mem_cons.mpr ⟨.tail _ (.tail _ (.head _)), List.forall_mem_cons.mpr ⟨.tail _ (.tail _ (.tail _ (.head _))), List.forall_mem_cons.mpr ⟨.tail _ (.tail _ (.tail _ (.tail _ (.head _)))), List.forall_mem_nil _⟩⟩⟩⟩⟩) (fun p hp => .tail _ (.tail _ (.tail _ (.tail _ (.tail _ hp))))) rfl (List.forall_mem_cons.mpr ⟨rfl, List.forall_mem_nil _⟩) ?_ ⟨hset, ?_, ?_⟩
              · intro z h1 h2 h3
                have hz1 : z ≠ "strike" := h2 _ (.head _)
                have hz2 : z ≠ "place" := by rintro rfl; exact absurd h3 (by decide)
                rw [if_neg hz1, if_neg hz2, if_neg h1]
                show (if z = "strike" then _ else (if List.contains (["place"] : List Str) z = true then _ else _)) = _
                rw [if_neg hz1, h3]
                rfl
              · show IntsAre _ ((evl (Sat rn.length (tb ts) k (i + 1))).map _)
                rw [hev, List.map_append]
                show IntsAre (vo ++ [Value.int (rn.getD q 0) _]) (_ ++ [rn.getD q 0])
                exact ints_snoc hP2
              · show (!st) = _
                rw [hst, decide_eq_false (by omega)]
                rfl
            · have hlp : lapF rn.length (tb ts) k q = -1 := by
                rw [← hat]; exact ‹List.getD _ (Int.toNat _) 0 = (-1 : Int)›
              have hst := ‹st = false›
              rename Fr _ _ _ _ => F
              rename News _ _ _ _ => N
              have hodd : (Sat rn.length (tb ts) k i).length % 2 = 1 := by
                have := of_decide_eq_false (hP3 ▸ hst)
                omega
              obtain ⟨hev, hpar⟩ := spare_step hi₃ (by rw [hqe]; exact hlp) hodd
              refine' ks_end (vl', vo, co, !st) F N (fun p hp => List.mem_append_left _ hp) (fun p hp => List.mem_append_right _ hp) rfl (List.forall_mem_cons.mpr ⟨rfl, List.forall_mem_nil _⟩) ?_ ⟨by rw [lapsAt_same hev]; exact hP1, by rw [hev]; exact hP2, ?_⟩
              · intro z h1 h2 h3
                have hz1 : z ≠ "strike" := h2 _ (.head _)
                have hz2 : z ≠ "place" := by rintro rfl; exact absurd h3 (by decide)
                rw [if_neg hz1, if_neg hz2, if_neg h1]
                show (if z = "strike" then _ else (if List.contains (["place"] : List Str) z = true then _ else _)) = _
                rw [if_neg hz1, h3]
                rfl
              · show (!st) = _
                rw [hst, hpar]
                rfl
            · have hlp : lapF rn.length (tb ts) k q ≠ -1 := by
                rw [← hat]; exact ‹List.getD _ (Int.toNat _) 0 ≠ (-1 : Int)›
              have hsame := sat_old hi₃ (t := tb ts) (k := k) (by rw [hqe]; exact hlp)
              have hlsame := lapsAt_same (n := rn.length) (t := tb ts) (k := k) (i := i) (j := i + 1) (by rw [hsame])
              refine' ks_end (vl', vo, co, st) F N (fun p hp => List.mem_append_left _ hp) (fun p hp => List.mem_append_right _ hp) rfl (List.forall_mem_cons.mpr ⟨rfl, List.forall_mem_nil _⟩) ?_ ⟨by rw [hlsame]; exact hP1, by rw [hsame]; exact hP2, by rw [hsame]; exact hP3⟩
              intro z h1 h2 h3
              have hz1 : z ≠ "strike" := h2 _ (.head _)
              have hz2 : z ≠ "place" := by rintro rfl; exact absurd h3 (by decide)
              rw [if_neg hz2, if_neg h1]
              show (if z = "strike" then _ else (if List.contains (["place"] : List Str) z = true then _ else _)) = _
              rw [if_neg hz1, h3]
              rfl
          · have hq : ((rn.length : Int) - 1 - (0 + (i : Int) * 1)) = (q : Int) := by rw [← hqb]; unfold plc; simp; omega
            rw [hq] at F
            refine if_any ?_
            walk_at "go"
            · have hlp : lapF rn.length (tb ts) k q = -1 := by
                rw [← hat]; exact ‹List.getD _ (Int.toNat _) 0 = (-1 : Int)›
              have hst := ‹st = true›
              refine len_list (News.isList (by assumption) (.tail _ (.head _))) (by rw [List.size_toArray, hdl]; omega) ?_
              rw [show ((vd.toArray.size : Nat) : Int) = (k : Int) by rw [List.size_toArray, hdl]]
              dsimp only
              walk_at "go"
              rename Fr _ _ _ _ => F
              rename News _ _ _ _ => N
              rename IntsAre _ (List.set _ _ _) => hset
              obtain ⟨hev, hpar⟩ := strike_step hi₃ (by rw [hqe]; exact hlp) (of_decide_eq_true (hP3 ▸ hst))
              rw [hqe] at hev
              simp only [Int.toNat_natCast] at hset
              simp only [Int.toNat_natCast, List.push_toArray] at N
              have hls := lapsAt_set (t := tb ts) (k := k) hi₃ (by rw [hqe]; exact hev)
              rw [hqe] at hls
              rw [hls] at hset
              refine' ks_end (_, _, co + 1, !st) F N (List.forall_mem_cons.mpr ⟨.head _, List.forall_mem_cons.mpr ⟨.tail _ (.head _), List.forall_mem_cons.mpr ⟨.tail _ (.tail _ (.head _)), List.forall_mem_cons.mpr ⟨.tail _ (.tail _ (.tail _ (.head _))), List.forall_mem_cons.mpr ⟨.tail _ (.tail _ (.tail _ (.tail _ (.head _)))), List.forall_mem_nil _⟩⟩⟩⟩⟩) (fun p hp => .tail _ (.tail _ (.tail _ (.tail _ (.tail _ hp))))) rfl (List.forall_mem_cons.mpr ⟨rfl, List.forall_mem_nil _⟩) ?_ ⟨hset, ?_, ?_⟩
              · intro z h1 h2 h3
                have hz1 : z ≠ "strike" := h2 _ (.head _)
                have hz2 : z ≠ "place" := by rintro rfl; exact absurd h3 (by decide)
                rw [if_neg hz1, if_neg hz2, if_neg h1]
                show (if z = "strike" then _ else (if List.contains (["place"] : List Str) z = true then _ else _)) = _
                rw [if_neg hz1, h3]
                rfl
              · show IntsAre _ ((evl (Sat rn.length (tb ts) k (i + 1))).map _)
                rw [hev, List.map_append]
                show IntsAre (vo ++ [Value.int (rn.getD q 0) _]) (_ ++ [rn.getD q 0])
                exact ints_snoc hP2
              · show (!st) = _
                rw [hst, decide_eq_false (by omega)]
                rfl
            · have hlp : lapF rn.length (tb ts) k q = -1 := by
                rw [← hat]; exact ‹List.getD _ (Int.toNat _) 0 = (-1 : Int)›
              have hst := ‹st = false›
              rename Fr _ _ _ _ => F
              rename News _ _ _ _ => N
              have hodd : (Sat rn.length (tb ts) k i).length % 2 = 1 := by
                have := of_decide_eq_false (hP3 ▸ hst)
                omega
              obtain ⟨hev, hpar⟩ := spare_step hi₃ (by rw [hqe]; exact hlp) hodd
              refine' ks_end (vl', vo, co, !st) F N (fun p hp => List.mem_append_left _ hp) (fun p hp => List.mem_append_right _ hp) rfl (List.forall_mem_cons.mpr ⟨rfl, List.forall_mem_nil _⟩) ?_ ⟨by rw [lapsAt_same hev]; exact hP1, by rw [hev]; exact hP2, ?_⟩
              · intro z h1 h2 h3
                have hz1 : z ≠ "strike" := h2 _ (.head _)
                have hz2 : z ≠ "place" := by rintro rfl; exact absurd h3 (by decide)
                rw [if_neg hz1, if_neg hz2, if_neg h1]
                show (if z = "strike" then _ else (if List.contains (["place"] : List Str) z = true then _ else _)) = _
                rw [if_neg hz1, h3]
                rfl
              · show (!st) = _
                rw [hst, hpar]
                rfl
            · have hlp : lapF rn.length (tb ts) k q ≠ -1 := by
                rw [← hat]; exact ‹List.getD _ (Int.toNat _) 0 ≠ (-1 : Int)›
              have hsame := sat_old hi₃ (t := tb ts) (k := k) (by rw [hqe]; exact hlp)
              have hlsame := lapsAt_same (n := rn.length) (t := tb ts) (k := k) (i := i) (j := i + 1) (by rw [hsame])
              refine' ks_end (vl', vo, co, st) F N (fun p hp => List.mem_append_left _ hp) (fun p hp => List.mem_append_right _ hp) rfl (List.forall_mem_cons.mpr ⟨rfl, List.forall_mem_nil _⟩) ?_ ⟨by rw [hlsame]; exact hP1, by rw [hsame]; exact hP2, by rw [hsame]; exact hP3⟩
              intro z h1 h2 h3
              have hz1 : z ≠ "strike" := h2 _ (.head _)
              have hz2 : z ≠ "place" := by rintro rfl; exact absurd h3 (by decide)
              rw [if_neg hz2, if_neg h1]
              show (if z = "strike" then _ else (if List.contains (["place"] : List Str) z = true then _ else _)) = _
              rw [if_neg hz1, h3]
              rfl
        · rintro ⟨vl', vo, co, st⟩ u₃ h₃ tk₃ ⟨hP1, hP2, hP3⟩ F N
          dsimp only at hP1 hP2 hP3 F N
          clear hR
          rw [lapsAt_all] at hP1
          rw [evl_all] at hP2
          have hol : ((outP rn.length (tb ts) k).map fun p => rn.getD p 0).length = (mk + 1) / 2 := by rw [List.length_map, out_len, hm]
          have hob : ∀ x ∈ ((outP rn.length (tb ts) k).map fun p => rn.getD p 0), 0 ≤ x ∧ x < 256 := by
            intro x hx
            obtain ⟨p, hp, rfl⟩ := List.mem_map.mp hx
            obtain ⟨j, hj, rfl⟩ := List.mem_map.mp hp
            have hj := List.mem_range.mp hj
            have hlt := pos_lt (n := rn.length) (t := tb ts) (k := k) (j := 2 * j) (by omega)
            rw [List.getD_eq_getElem?_getD, List.getElem?_eq_getElem hlt]
            exact hrb _ (List.getElem_mem hlt)
          have hoB : ((outP rn.length (tb ts) k).map fun p => rn.getD p 0).map (fun n : Int => n.toNat.toUInt8) = outB (octs rn) rn.length (tb ts) k := by
            unfold outB
            rw [List.map_map]
            rfl
          generalize ((outP rn.length (tb ts) k).map fun p => rn.getD p 0) = oI at hP2 hol hob hoB
          have hvo := hP2.length
          walk_at "go"
          rename Fr _ _ _ _ => F
          rename News _ _ _ _ => N
          rw [show byteArr oI = (outB (octs rn) rn.length (tb ts) k).toArray by rw [← hoB]; rfl, List.push_toArray] at N
          have hle : ((mk : Int) - (oI.length : Int)) = ((rn.length / 2 ^ (k + 1) : Nat) : Int) := by rw [hol, div_succ, hm]; omega
          rw [hle] at F
          refine ksw_end (k + 1, _, cl, _, cd + 1, _) F N (List.forall_mem_cons.mpr ⟨.tail _ (.head _), List.forall_mem_cons.mpr ⟨.tail _ (.tail _ (.head _)), List.forall_mem_cons.mpr ⟨.tail _ (.tail _ (.tail _ (.head _))), List.forall_mem_cons.mpr ⟨.tail _ (.tail _ (.tail _ (.tail _ (.head _)))), List.forall_mem_nil _⟩⟩⟩⟩) ⟨hP1, ?_⟩ (List.forall_mem_cons.mpr ⟨?_, List.forall_mem_cons.mpr ⟨rfl, List.forall_mem_nil _⟩⟩) ?_ hkH (by show H - (k + 1) < H - k; omega)
          · show BsAre (vd ++ [_]) (goneB (octs rn) rn.length (tb ts) (k + 1))
            rw [gone_succ]
            exact hvd.snoc _ _
          · show _ = some (Value.bool (!bk (tb ts) (k + 1)))
            rw [hbb]
            rfl
          · intro z h2 h3
            have hz1 : z ≠ "ahead" := h2 _ (.head _)
            have hz2 : z ≠ "left" := h2 _ (.tail _ (.head _))
            have hz3 : z ≠ "out" := by rintro rfl; exact absurd h3 (by decide)
            have hz4 : z ≠ "strike" := by rintro rfl; exact absurd h3 (by decide)
            have hz5 : z ≠ "k" := by rintro rfl; exact absurd h3 (by decide)
            have hz6 : z ≠ "place" := by rintro rfl; exact absurd h3 (by decide)
            rw [if_neg hz2, if_neg hz5]
            show (if z = "strike" then _ else (if List.contains (["place"] : List Str) z = true then _ else _)) = _
            rw [if_neg hz4, show List.contains (["place"] : List Str) z = false by simp [hz6]]
            show (if z = "strike" then _ else if z = "out" then _ else if z = "ahead" then _ else _) = _
            rw [if_neg hz4, if_neg hz3, if_neg hz1]
            show (if z = "ahead" then _ else if z = "left" then _ else (if List.contains (["out", "strike", "k", "place"] : List Str) z = true then _ else _)) = _
            rw [if_neg hz1, if_neg hz2, h3]
            rfl
    · have hkH : k = H := by
        rcases Nat.lt_or_ge k H with h | h
        · have h3 := hn2 k h
          have h4 := ‹¬ 1 < ((mk : Nat) : Int)›
          omega
        · omega
      subst hkH
      constructor
      refine LCt.Assign_ListComp_T (F₀ := by assumption) (by rfl) (by with_unfolding_all rfl) (by with_unfolding_all rfl) (by decide) (by rfl) (by decide) (by rfl) (by rfl) (by rfl) ?_
      walk_at "go"
      constructor
      rename IsRange _ _ _ _ _ _ _ _ => hR
      rename Fr _ _ _ _ => F
      rename News _ _ _ _ => N
      refine LCt.CompSrcT.range rfl F N hR (small_step (by omega) (by omega) (by omega) (by omega) (by omega) (by omega)) (n := rn.length) (by rw [rangeSize_one]; split <;> omega) (by rw [sizeLine_eq]; omega) fun g => ?_
      clear hR
      have hll : (lapsL rn.length (tb ts) k).length = rn.length := by simp [lapsL]
      refine compT_ind (n := rn.length) (fun i ys => IntsAre ys (((List.range i).filter fun p => decide (lapF rn.length (tb ts) k p = -1)).map fun p => rn.getD p 0)) ?_ ?_ rn.length 0 [] (by omega) .nil
      · rintro i ys v I oI C oC D m₂ h₃ tk₃ E' hi hys ⟨tv, rfl⟩ hC hx F N off ne
        have hgl : (lapsL rn.length (tb ts) k).getD (0 + (i : Int)).toNat 0 = lapF rn.length (tb ts) k i := by
          rw [show (0 + (i : Int)).toNat = i by omega]
          unfold lapsL
          rw [List.getD_eq_getElem?_getD, List.getElem?_map, List.getElem?_range hi]
          rfl
        walk_at "go"
        · have hlp : lapF rn.length (tb ts) k i = -1 := by
            rw [← hgl]; exact ‹List.getD _ (Int.toNat _) 0 = (-1 : Int)›
          refine LCg.CompEnd.intro F N _ (fun q hq => hq) off trivial ⟨rfl, ?_⟩
          rw [List.range_succ, List.filter_append, List.map_append, show (0 + (i : Int)).toNat = i by omega, show List.filter (fun p => decide (lapF rn.length (tb ts) k p = -1)) [i] = [i] by simp [hlp]]
          exact ints_snoc hys
        · have hlp : lapF rn.length (tb ts) k i ≠ -1 := by
            rw [← hgl]; exact ‹List.getD _ (Int.toNat _) 0 ≠ (-1 : Int)›
          refine LCg.CompEnd.intro F N _ (fun q hq => hq) off trivial ⟨rfl, ?_⟩
          rw [List.range_succ, List.filter_append, List.map_append, show List.filter (fun p => decide (lapF rn.length (tb ts) k p = -1)) [i] = [] by simp [hlp], List.map_nil, List.append_nil]
          exact hys
      · intro ys hys
        have e : ((List.range rn.length).filter fun p => decide (lapF rn.length (tb ts) k p = -1)) = [aF rn.length (tb ts) k] := rest_last hn1
        rw [e] at hys
        have hlt : aF rn.length (tb ts) k < rn.length := by
          have h3 : aF rn.length (tb ts) k ∈ (List.range rn.length).filter (fun p => decide (lapF rn.length (tb ts) k p = -1)) := by rw [e]; exact .head _
          exact List.mem_range.mp (List.mem_filter.mp h3).1
        have hb1 : ∀ x ∈ List.map (fun p => rn.getD p 0) [aF rn.length (tb ts) k], 0 ≤ x ∧ x < 256 := by
          intro x hx
          obtain ⟨p, hp, rfl⟩ := List.mem_map.mp hx
          rw [List.mem_singleton.mp hp, List.getD_eq_getElem?_getD, List.getElem?_eq_getElem hlt]
          exact hrb _ (List.getElem_mem hlt)
        have hl1 : (List.map (fun p => rn.getD p 0) [aF rn.length (tb ts) k]).length = 1 := rfl
        have hB1 : byteArr (List.map (fun p => rn.getD p 0) [aF rn.length (tb ts) k]) = (curB (octs rn) rn.length (tb ts) k).toArray := by
          unfold curB
          rw [cur_last hn1]
          rfl
        generalize List.map (fun p => rn.getD p 0) [aF rn.length (tb ts) k] = oE at hys hb1 hl1 hB1
        have hyl := hys.length
        walk_at "go"
        rename Fr _ _ _ _ => F
        rename News _ _ _ _ => N
        rw [hB1] at N
        have z0 := N _ (.head _)
        have z1 := N _ (.tail _ (.head _))
        have z2 := N _ (.tail _ (.tail _ (.tail _ (.tail _ (.tail _ (.head _))))))
        exact h _ _ _ _ _ vl cl _ 0 F.keep z0.2.2 z2.2.2 z1.2.2 z0.1 z2.1 z1.1 hvl2 (hvd.snoc _ _)
end
end Mine
namespace Mine
local macro_rules | `(tactic| walk_at "go") => `(tactic| ((try k_fold); repeat' (first | (k_unfold; (try dsimp only)) | (walk1; all_goals (try dsimp only); all_goals (try (show wpAny _ _ _ _ _ _))) | (dsimp only; walk1) | (dsimp only; k_unfold))))
theorem wpC.subscript {M : Model} {A : Around} {s : Shared} {env : Env} {value slice : PySem.Expr} {pos : Pos} {Q : Value → Shared → Prop}
    (h : wpC M A (eval value env) (fun o s₁ => wpAny M A (eval slice env) (fun i s₂ => wpAny M A (subscriptTail value slice o i) Q No s₂) No s₁) s) : wpC M A (eval (.Subscript value slice pos) env) Q s := by
  rw [eval_Subscript]
  exact .bind (.mono h fun o s₁ h₁ => .of (wpAny_bind (wpAny_holding (wpAny_mono h₁ (fun i s₂ h₂ => wpAny_bind (wpAny_standAt h₂)) fun _ _ x => x))))
/-- the places as octets -/
def plOct (p : Nat) : UInt8 := (p : Int).toNat.toUInt8
theorem places_bytes (n : Nat) : ((rangeKs 0 ((n : Int) - 0).toNat).map fun k => k).map (fun x : Int => x.toNat.toUInt8) = (List.range n).map plOct := by
  rw [show ((n : Int) - 0).toNat = n by omega]
  unfold rangeKs
  rw [List.map_map, List.map_map]
  apply List.map_congr_left
  intro i _
  show (0 + (i : Int)).toNat.toUInt8 = (i : Int).toNat.toUInt8
  rw [Int.zero_add]
/-- the last octet of the places read from the end -/
theorem last_place {n H : Nat} (h1 : n / 2 ^ H = 1) : curB plOct n (tb [1, 0, 0, 0, 0, 0]) H = [plOct (n - 2 ^ H)] := by
  unfold curB
  rw [cur_last h1, aF_end (by rfl) ?_ H, mod_last h1]
  · rfl
  · intro k
    match k with
    | 0 => rfl
    | 1 => rfl
    | 2 => rfl
    | 3 => rfl
    | 4 => rfl
    | k + 5 => exact decide_eq_false (by simp)
theorem plOct_zero {m : Nat} (hm : m < 256) : ([plOct m] == [(0 : Int).toNat.toUInt8]) = decide (m = 0) := by
  rw [Bool.eq_iff_iff, beq_iff_eq, decide_eq_true_eq]
  constructor
  · intro h
    have h1 : (plOct m).toNat = 0 := by rw [(List.cons.inj h).1]; rfl
    unfold plOct at h1
    rw [Int.toNat_natCast] at h1
    simp only [Nat.toUInt8, UInt8.toNat_ofNat'] at h1
    omega
  · intro h
    rw [h]
    rfl
theorem map_octs (rn : List Int) : rn.map (fun n : Int => n.toNat.toUInt8) = (List.range rn.length).map (octs rn) := by
  apply List.ext_getElem
  · simp
  · intro i h1 h2
    have hi : i < rn.length := by simpa using h1
    rw [List.getElem_map, List.getElem_map, List.getElem_range]
    unfold octs
    rw [List.getD_eq_getElem?_getD, List.getElem?_eq_getElem hi]
    rfl
section
variable {w : World} {A : Around} {s : Shared} {E : Value → Shared → Prop} {p : Program} {loose : List Str} {mg mb : Str → Option Value} {Q : Value → Shared → Prop}
local macro_rules | `(tactic| walk_at "go0") => `(tactic| ((try k_fold); repeat' (first | (k_unfold; (try dsimp only)) | walk1 | (dsimp only; walk1) | (dsimp only; k_unfold))))
local macro_rules | `(tactic| walk_at "call ref") => `(tactic| refine Stop.go ?_)
local macro_rules | `(tactic| walk_at "pyIter ref") => `(tactic| refine Stop.go ?_)
local macro_rules | `(tactic| walk_at "compareOp NotEq ref ref") => `(tactic| refine Stop.go ?_)
theorem law_struck_K {h₀ : Heap} {L : Addr} {m : Str → Option Value} {news : List (Addr × Obj)} (X : (hd.heap_39 w.params).In h₀) (T : TopRead p loose mg mb h₀) (F : Fr h₀ L s.heap m) (N : News h₀ L s.heap news) (hr : A.depth + 2 < recursionLimit) (hh : A.handled = none) {lr lt : Addr} {vr vt : List Value} {rn ts : List Int} {n H : Nat} (hlr : s.heap.IsList lr vr.toArray) (hir : IntsAre vr rn) (hrn : rn.length = n) (hrb : ∀ x ∈ rn, 0 ≤ x ∧ x < 256)
   (hlt : s.heap.IsList lt vt.toArray) (hit : IntsAre vt ts) (hlen : H ≤ ts.length) (hz : ts.length ≤ 64)
   (hn : n ≤ 64) (hn1 : n / 2 ^ H = 1) (hn2 : ∀ k < H, 1 < n / 2 ^ k)
   (h : ∀ h' k r la du vl cl vd cd, Fr h₀ L h' m → News h₀ L h' ((r, tup2 la du) :: (la, listOf vl.toArray cl) :: (du, listOf vd.toArray cd) :: news) → IntsAre vl (lapsL n (tb ts) H) → BsAre vd (goneB (octs rn) n (tb ts) H ++ [curB (octs rn) n (tb ts) H]) → Q (.ref r) { s with heap := h', toks := k }) :
   wpAny (model PP w) A (call (.ref 45) [.ref lr, .ref lt]) Q E s :=
  law_struck (X.keeps F.keep) (T.keeps F.keep) hr hh hlr hir hrn hrb hlt hit hlen hz hn hn1 hn2 fun h' k r la du vl cl vd cd hk e1 e2 e3 g1 g2 g3 i1 i2 =>
    h h' k r la du vl cl vd cd (fr_kept F hk) (List.forall_mem_cons.mpr ⟨news_more F N hk g1 e1 _ (.head _), List.forall_mem_cons.mpr ⟨news_more F N hk g2 e2 _ (.head _), List.forall_mem_cons.mpr ⟨news_more F N hk g3 e3 _ (.head _), news_kept N hk⟩⟩⟩) i1 i2
theorem law_weeded_K {h₀ : Heap} {L : Addr} {m : Str → Option Value} {news : List (Addr × Obj)} (X : (hd.heap_39 w.params).In h₀) (T : TopRead p loose mg mb h₀) (F : Fr h₀ L s.heap m) (N : News h₀ L s.heap news) (hr : A.depth + 2 < recursionLimit) (hh : A.handled = none) (hg : A.guards = some []) {lt : Addr} {vt : List Value} {ts : List Int} {row : Nat → UInt8} {n H : Nat} {tr : Tok} {b : List UInt8} (hb : b = (List.range n).map row) (hlt : s.heap.IsList lt vt.toArray) (hit : IntsAre vt ts) (hlen : H ≤ ts.length) (hz : ts.length ≤ 64)
   (hn : n ≤ 64) (h1 : n / 2 ^ H = 1) (h2 : ∀ k < H, 1 < n / 2 ^ k)
   (h : ∀ h' k r vs c, Fr h₀ L h' m → News h₀ L h' ((r, listOf vs.toArray c) :: news) → BsAre vs (goneB row n (tb ts) H ++ [curB row n (tb ts) H]) → Q (.ref r) { s with heap := h', toks := k }) :
   wpC (model PP w) A (call (.ref 40) [.bytes b.toArray tr, .ref lt]) Q s := by
  subst hb
  exact law_weeded (X.keeps F.keep) (T.keeps F.keep) hr hh hg hlt hit hlen hz hn h1 h2 fun h' k r vs c hk hrn hrg hbs => h h' k r vs c (fr_kept F hk) (news_more F N hk hrg hrn) hbs
theorem law_key_K {h₀ : Heap} {L : Addr} {m : Str → Option Value} {news : List (Addr × Obj)} (X : (hd.heap_39 w.params).In h₀) (T : TopRead p loose mg mb h₀) (F : Fr h₀ L s.heap m) (N : News h₀ L s.heap news) (hr : A.depth + 2 < recursionLimit) (hh : A.handled = none) {l : Addr} {vs : List Value} {ts : List Int} {c H : Nat} {tc : Tok} (hl : s.heap.IsList l vs.toArray) (hi : IntsAre vs ts) (hlen : H ≤ ts.length) (hz : ts.length ≤ 64) (ht : ∀ x ∈ ts, x = 0 ∨ x = 1)
   (hH : (Builtin.Int.intBits (c : Int) : Int) - 1 = (H : Int)) (hH6 : H ≤ 6)
   (h : ∀ h' k t, Fr h₀ L h' m → News h₀ L h' news → Q (.int ((keyN c (tb ts) H : Nat) : Int) t) { s with heap := h', toks := k }) :
   wpAny (model PP w) A (call (.ref 52) [.int (c : Int) tc, .ref l]) Q E s :=
  law_key (X.keeps F.keep) (T.keeps F.keep) hr hh hl hi hlen hz ht hH hH6 fun h' k t hk => h h' k t (fr_kept F hk) (news_kept N hk)
theorem law_ok (X : (hd.heap_39 w.params).In s.heap) (T : TopRead p loose mg mb s.heap) (hr : A.depth + 5 < recursionLimit) (hh : A.handled = none) (hg : A.guards = some []) (hu : A.units + 100 < cLine) {l : Addr} {vs : List Value} {ns : List Int} (hl : s.heap.IsList l vs.toArray) (hi : IntsAre vs ns) (hn : ns.length ≤ 63)
   (h : ∀ h' k, Kept s.heap h' → Q (.bool true) { s with heap := h', toks := k }) :
   wpC (model PP w) A (call (.ref 57) [.ref l]) Q s := by
  refine .call ?_
  refine enterC (binds := [("script", .ref l)]) X T.nolimit (by with_unfolding_all rfl) (by k_is) (by omega) (BindsTo.of_eq rfl) (locs rfl) ?_
  intro L h₁ F N
  obtain ⟨ha, d, fr, gs, un⟩ := A
  cases hh
  cases hg
  have hvl : vs.length = ns.length := hi.length
  have hu2 : un + 3 + 64 < cLine := by
    have : un + 100 < cLine := hu
    omega
  refine .execs_any ?_
  walk_at "go0"
  rename IntsAre _ (List.take 57 ns ++ _) => hnum
  refine .execs_any ?_
  walk_at "go"
  rename Fr _ _ _ _ => F
  rename News _ _ _ _ => N
  have hcnt : (List.take 57 ns).length + (1 + 1 + 1 + 1 + 1 + 1 + 1) = (List.take 57 ns ++ [7, 256, 521, 66, 300, 90, 812]).length := by rw [List.length_append]; rfl
  rw [hcnt] at F
  have hn0 : 7 ≤ (List.take 57 ns ++ [7, 256, 521, 66, 300, 90, 812]).length := by rw [List.length_append, List.length_take]; simp
  have hn1 : (List.take 57 ns ++ [7, 256, 521, 66, 300, 90, 812]).length ≤ 64 := by rw [List.length_append, List.length_take]; simp only [List.length_cons, List.length_nil]; omega
  generalize (List.take 57 ns ++ [7, 256, 521, 66, 300, 90, 812]) = nums at F hnum hcnt hn0 hn1
  refine .execs_any ?_
  walk_at "go"
  rename IntsAre _ (List.map (fun k' => Int.fmod k' 256) nums) => hrow
  refine .execs_any ?_
  walk_at "go"
  rename IntsAre _ (List.map (fun k' => Int.fmod (Int.fdiv k' 256) 2) nums) => htur
  rename Fr _ _ _ _ => F
  rename News _ _ _ _ => N
  have hrl : (List.map (fun k' => Int.fmod k' 256) nums).length = nums.length := List.length_map _
  have hrb : ∀ x ∈ (List.map (fun k' => Int.fmod k' 256) nums), 0 ≤ x ∧ x < 256 := by
    intro x hx
    obtain ⟨y, _, rfl⟩ := List.mem_map.mp hx
    exact ⟨fmod_lo y (n := 256) (by decide), fmod_hi y (n := 256) (by decide)⟩
  have htl : (List.map (fun k' => Int.fmod (Int.fdiv k' 256) 2) nums).length = nums.length := List.length_map _
  have htb : ∀ x ∈ (List.map (fun k' => Int.fmod (Int.fdiv k' 256) 2) nums), x = 0 ∨ x = 1 := by
    intro x hx
    obtain ⟨y, _, rfl⟩ := List.mem_map.mp hx
    have h1 := fmod_lo (y.fdiv 256) (n := 2) (by decide)
    have h2 := fmod_hi (y.fdiv 256) (n := 2) (by decide)
    omega
  generalize List.map (fun k' => Int.fmod k' 256) nums = rn at hrow hrl hrb
  generalize List.map (fun k' => Int.fmod (Int.fdiv k' 256) 2) nums = ts at htur htl htb
  obtain ⟨hs1, hs2, hs3, hs4, hs5, hs6⟩ := sizes nums.length (by omega) hn0
  generalize hHH : nums.length.log2 = H at hs1 hs2 hs3 hs4 hs5 hs6
  generalize hnn : nums.length = n at F hcnt hn0 hn1 hrl htl hs2 hs3 hs4 hs5 hs6
  refine .execs_any ?_
  walk_at "go"
  constructor
  refine' law_struck_K (n := n) (H := H) X T ?k1 ?k2 ?k3 rfl ?k4 hrow hrl hrb ?k5 htur (by omega) (by omega) hn1 hs3 hs4 ?_
  case k1 => assumption
  case k2 => assumption
  case k3 => (simp only [depth_deeper] at *); omega
  case k4 => is_list
  case k5 => is_list
  intro h₃ k₃ rT la du vlp clp vdu cdu F₃ N₃ hlps hdue
  walk_at "go"
  refine .execs_cons (.if_ (.isTrueCompare (.callName rfl ?_)))
  walk_at "go"
  refine .callF (K := hd.heap_39 w.params) (by k_is) (.of ?_)
  walk_at "go"
  show wpC _ _ (call (Value.ref 40) [Value.bytes (rn.map (fun n : Int => n.toNat.toUInt8)).toArray _, Value.ref _]) _ _
  refine' law_weeded_K (row := octs rn) (n := n) (H := H) X T ?k1 ?k2 ?k3 rfl rfl (by rw [map_octs, hrl]) ?k5 htur (by omega) (by omega) hn1 hs3 hs4 ?_
  case k1 => assumption
  case k2 => assumption
  case k3 => (simp only [depth_deeper] at *); omega
  case k5 => is_list
  intro h₄ k₄ rW vW cW F₄ N₄ hW
  walk_at "go"
  constructor
  refine ne_bs (News.isList (by assumption) (.head _)) (News.isList (by assumption) (.tail _ (.tail _ (.tail _ (.head _))))) hW hdue hu2 ?_
  walk_at "go"
  refine .of (wpAny_execs_nil ?_)
  refine .execs_any ?_
  walk_at "go"
  have hdl : vdu.length = H + 1 := by rw [hdue.length]; simp [goneB]
  refine len_list (News.isList (by assumption) (.tail _ (.tail _ (.tail _ (.head _))))) (by rw [List.size_toArray, hdl]; omega) ?_
  rw [show ((vdu.toArray.size : Nat) : Int) = ((H + 1 : Nat) : Int) by rw [List.size_toArray, hdl]]
  dsimp only
  walk_at "go"
  constructor
  refine' high_bit_K X T ?k1 ?k2 ?k3 hs2 ?_
  case k1 => assumption
  case k2 => assumption
  case k3 => (simp only [depth_deeper] at *); omega
  intro h₅ k₅ t₅ F₅ N₅
  walk_at "go"
  · exact absurd rfl ‹((H + 1 : Nat) : Int) ≠ (H : Int) + 1›
  refine .execs_any ?_
  walk_at "go"
  constructor
  refine' high_bit_K X T ?k1 ?k2 ?k3 hs2 ?_
  case k1 => assumption
  case k2 => assumption
  case k3 => (simp only [depth_deeper] at *); omega
  intro h₆ k₆ t₆ F₆ N₆
  walk_at "go"
  refine .execs_any ?_
  walk_at "go"
  constructor
  refine' law_key_K X T ?k1 ?k2 ?k3 rfl ?k5 htur (by omega) (by omega) htb hs2 hs1 ?_
  case k1 => assumption
  case k2 => assumption
  case k3 => (simp only [depth_deeper] at *); omega
  case k5 => is_list
  intro h₇ k₇ t₇ F₇ N₇
  walk_at "go"
  refine .execs_any ?_
  walk_at "go"
  constructor
  rename IsRange _ _ _ _ _ _ _ _ => hR
  rename Fr _ _ _ _ => F
  rename News _ _ _ _ => N
  have N0 : News s.heap L _ [(la, listOf vlp.toArray clp)] := fun q hq => N q (by rw [List.mem_singleton.mp hq]; exact .tail _ (.tail _ (.head _)))
  have hz0 : ((2 : Int) ^ (H : Int).toNat) = ((2 ^ H : Nat) : Int) := by rw [Int.toNat_natCast, Int.natCast_pow]; rfl
  rw [hz0] at F
  have hz1 : 0 < ((2 ^ H : Nat) : Int) := Int.natCast_pos.mpr (two_pos' H)
  have hz2 : ((2 ^ H : Nat) : Int) ≤ 64 := by omega
  have hll : (lapsL n (tb ts) H).length = n := by simp [lapsL]
  have told := fun i : Nat => place_told (n := n) (t := tb ts) (H := H) (p := i) (by omega)
  generalize hzz : ((2 ^ H : Nat) : Int) = z at F hz1 hz2 told
  refine ks_range (fun _ : Unit => [(la, listOf vlp.toArray clp)]) (fun _ => []) ["apart"] (fun _ _ => True) () rfl hR (small_step (by omega) (by omega) (by omega) (by omega) (by omega) (by omega)) (n := n)
    (by rw [rangeSize_one]; split <;> omega) F N0 (by intro q hq; cases hq) trivial ?_ ?_
  · intro _ i t₈ u₈ h₈ k₈ own hi₈ hoff _ F N
    clear hR N0
    have e1 : (0 + (i : Int) * 1) = (i : Int) := by omega
    have hgl : (lapsL n (tb ts) H).getD ((i : Int)).toNat 0 = lapF n (tb ts) H i := by
      rw [Int.toNat_natCast]
      unfold lapsL
      rw [List.getD_eq_getElem?_getD, List.getElem?_map, List.getElem?_range hi₈]
      rfl
    rw [e1] at F
    walk_at "go"
    constructor
    refine' high_bit_K X T ?k1 ?k2 ?k3 (told i) ?_
    case k1 => assumption
    case k2 => assumption
    case k3 => (simp only [depth_deeper] at *); omega
    intro h₉ k₉ t₉ F₉ N₉
    walk_at "go"
    · exact absurd hgl.symm ‹lapF n (tb ts) H i ≠ _›
    · rename Fr _ _ _ _ => F
      rename News _ _ _ _ => N
      refine ks_end () F N (fun q hq => List.mem_append_left _ hq) (fun q hq => List.mem_append_right _ hq) rfl (by intro q hq; cases hq) ?_ trivial
      intro z h1 h2 h3
      have hz : z ≠ "apart" := by rintro rfl; exact absurd h3 (by decide)
      rw [if_neg hz, if_neg h1]
      show (if List.contains (["apart"] : List Str) z = true then _ else _) = _
      rw [h3]
      rfl
  · intro _ u₈ h₈ k₈ _ F N
    clear hR N0 told
    refine .execs_any ?_
    walk_at "go"
    refine .execs_cons (.assign (.subscript (.callName rfl ?_)))
    walk_at "go"
    refine .callF (K := hd.heap_39 w.params) (by k_is) (.of ?_)
    walk_at "go"
    rename Fr _ _ _ _ => F
    rename News _ _ _ _ => N
    show wpC _ _ (call (Value.ref 40) [Value.bytes (((rangeKs 0 ((n : Int) - 0).toNat).map fun k => k).map (fun x : Int => x.toNat.toUInt8)).toArray _, Value.ref _]) _ _
    refine' law_weeded_K (row := plOct) (n := n) (H := H) X T F N ?k3 rfl rfl (places_bytes n) (News.isList N (.head _)) (ts := [1, 0, 0, 0, 0, 0]) (.cons _ _ (.cons _ _ (.cons _ _ (.cons _ _ (.cons _ _ (.cons _ _ .nil)))))) hs1 (by simp) hn1 hs3 hs4 ?_
    case k3 => (simp only [depth_deeper] at *); omega
    intro h₉ k₉ rL vL cL F₉ N₉ hL
    have hLl : vL.length = H + 1 := by rw [hL.length]; simp [goneB]
    have hLat : (goneB plOct n (tb [1, 0, 0, 0, 0, 0]) H ++ [curB plOct n (tb [1, 0, 0, 0, 0, 0]) H])[H]? = some [plOct (n - 2 ^ H)] := by
      rw [last_place hs3, List.getElem?_append_right (by simp [goneB])]
      simp [goneB]
    obtain ⟨tL, hLt⟩ := hL.at hLat
    walk_at "go"
    refine subscriptTail_builtin (News.isList N₉ (.head _)).typeIs slot_list_getitem.lookup (wpAny_getItem_list_neg (News.isList N₉ (.head _)) (by omega) (by rw [List.size_toArray, hLl]; omega) (by omega) (x := .bytes [plOct (n - 2 ^ H)].toArray tL) (by rw [List.size_toArray, hLl, show (-1 + ((H + 1 : Nat) : Int)).toNat = H by omega]; simpa using hLt) ?_)
    walk_at "go"
    refine .execs_any ?_
    walk_at "go"
    · have hbad := ‹([plOct (n - 2 ^ H)] != [((n : Int) - z).toNat.toUInt8]) = true›
      rw [show ((n : Int) - z).toNat = ((n - 2 ^ H : Nat) : Int).toNat by omega] at hbad
      simp [plOct] at hbad
    refine .execs_any ?_
    walk_at "go"
    constructor
    refine' single_bit_K X T ?k1 ?k2 ?k3 (by omega) hs6 ?_
    case k1 => assumption
    case k2 => assumption
    case k3 => (simp only [depth_deeper] at *); omega
    intro h₁₀ k₁₀ F₁₀ N₁₀
    walk_at "go"
    refine .of ?_
    walk_at "go"
    rename Fr _ _ _ _ => F
    rw [plOct_zero (by omega), beq_self_eq_true]
    exact h _ _ F.keep
end
end Mine
namespace Mine
theorem hk : ∀ P, [2, 3, 6, 15, 17, 18, 20, 21, 22, 24, 25, 27, 28, 29, 31, 32, 34, 35, 36, 39, 40, 41, 44, 45, 46, 48, 49, 51, 52, 53, 56, 57] = (hd.heap_39 P).map (·.1) := fun _ => by kernel_rfl
noncomputable abbrev theX : Shared → Bool := fun s => xlAt hd.view_39 [] s && recOk (RowW.records PySem.Challenge.rw_rl0003_01.row.toRowW) s
noncomputable abbrev theH : Hook := kHook hd.heap_39 _ hk
theorem left : LeftO PP hd.view_39 [] theX theH.obs theH.val 880 := by
  intro w
  kernel_rfl
end Mine
theorem PySem.Challenge.cw_rl0003_01_holds : PySem.Challenge.rw_rl0003_01.Holds := by
  w_on
  o_law
  refine Mine.rowC (q := Mine.hd.view_39) (loose := []) (Xt := Mine.theX) (XP := XL Mine.hd.view_39 []) (Yf := Mine.theH.obs) (Ya := Mine.theH.val) (YP := Mine.theH.says) (N := 880) Mine.left (Hook.of Mine.theH) (Hook.keeps Mine.theH) (fun s e => xl_of s (Bool.and_eq_true_iff.mp e).1) XL.keeps (by rfl) (by rfl) (by rfl) (fun s e => recFacts_of (Bool.and_eq_true_iff.mp e).2) (by rfl) (by first | assumption | decide +kernel) (by decide +kernel) ⟨rfl, rfl, rfl, rfl, rfl, by decide +kernel⟩ ?hw ?hc
  case hw => w_witness2
  case hc =>
    intro w s₀ s₁ mg mb G Y fa hmg hg args vals as hpre hlay hrd hwl hlo
    have X := kIn_of Y
    refine Ground.open G ?_
    intro T B D TE TW
    have ha := (mg_of X (Top.g T) (n := "law") (v := .ref 57) (by k_is)).symm.trans hmg
    cases ha
    wrow_args hpre hlay hrd hwl hlo
    rename IntsAre _ _ => hI
    rename Heap.IsList _ _ _ => hL
    have hlen : ∀ n : Nat, ¬ ((63 : Nat) : Int) < (n : Int) → n ≤ 63 := fun n h => by omega
    refine Mine.law_ok X (topRead_of T) (by decide) rfl rfl (by decide) hL hI (hlen _ (by assumption)) fun h' k hk => ?_
    refine GoodW.toG ⟨.inl ⟨_, .bool true, [], rfl, ?_, .bool true, ?_, fun _ => ⟨.nil, fun _ hx => (nomatch hx)⟩⟩, hk, rfl, hg⟩
    · first | exact fun _ => rfl | exact fun _ => allW_false_nil
    · first | rfl | wrow_post
