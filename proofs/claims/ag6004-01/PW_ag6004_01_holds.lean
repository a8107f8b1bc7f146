import PyProof.Rows.All
import Wide.All
import OpenK.AllK
import Wide.FinOn
import Lean
import PySem.Challenge.RW_ag6004_01
set_option Elab.async false
set_option maxRecDepth 100000
set_option maxHeartbeats 100000000
namespace Mine
open PySem PySem.W PySem.Calls PyProof.Rows


def Only (adr : List Addr) (h h' : Heap) : Prop := ∀ b o, b ∉ adr → h.get? b = some o → h'.get? b = some o

theorem code_defG {prog : Program} {w : World} {A₀ A : Around} {s : Shared} {K : Frag} {base h₀ : Heap} {L : Addr} {m : Str → Option Value} {mg mb : Str → Option Value} {news : List (Addr × Obj)} {p : Program} {loose : List Str} {mean : ExcName → Option Value}
    {env : Env} {outer : List Env} {R : Result → Shared → Prop} {name qual : Str} {params : Arguments} {body : List Stmt} {scope : Scope} {dV kV doc pm cdv ct oc : Value} {an od : Option Addr} {osl : Array (Option Value)} {f : Addr} {args : Args} {binds : List (Str × Value)}
    (B : Below A₀ base outer h₀) (F : Fr h₀ L s.heap m) (X₀ : K.In h₀) (N : News h₀ L s.heap news) (T : Top p loose mean mg mb h₀) (hA : A.frames = some (env :: outer)) (hf : env.frame = some L) (hke : env.scope.kind = .function)
    (ho : K.lookup f = some ⟨oc, od, .func (fnOf name qual params body scope dV kV doc pm an cdv ct), osl⟩) (hcd : codeIn K cdv qual = true) (hroom : A.depth < recursionLimit)
    (hbind : BindsTo s (fnOf name qual params body scope dV kV doc pm an cdv ct) args binds) (hloc : ∀ y ∈ binds, scope.names.lookup y.1 = some .local)
    (h : ∀ g L' h₁, Fr h₀ L g m → Fr g L' h₁ (fun y => binds.reverse.lookup y) → News g L' h₁ news → Below A base (env :: outer) g → K.In g → Top p loose mean mg mb g → (∀ p ∈ news, p.1 < L') → Only (news.map (·.1)) s.heap g →
      wpAny (model prog w) (A.deeper (envOf qual scope L' f cdv)) (execs body (envOf qual scope L' f cdv))
        (fun fl s' => LeaveK h₀ L m g R (match fl with | .ret v => v | _ => .none) s')
        (fun e s' => wpAny (model prog w) (A.deeper (envOf qual scope L' f cdv)) (leaving (envOf qual scope L' f cdv) e) (fun _ s'' => R (.error e) s'') (fun e' s'' => R (.error e') s'') s')
        { s with heap := h₁, toks := s.toks + binds.length })
    (hco : scope.isCoroutine = false) (hgen : scope.isGenerator = false) (hk : scope.kind = .function)
    (hcell : ∀ x ∈ scope.names, x.2 ≠ .cell) : codeAny (model prog w) A (.call (.ref f) args) R s := by
  obtain ⟨FG, BG, st, lv⟩ := groundX (R := R) B F N hA hf hke
  have X := X₀.keeps F.keep
  have hlim := T.nolimit
  refine codeAny_call_def (fd := fnOf name qual params body scope dV kV doc pm an cdv ct) (body := body) (binds := binds) hroom (X _ _ ho) rfl (hlim.keeps F.keep) (codeRec_of X hcd) rfl hbind hcell hloc (fun h₁ hns hk₁ => ?_) hco hgen hk
  exact wpAny_mono (h _ s.heap.objs.size h₁ FG ⟨hns, fun b o e => hk₁ b o (of_hideAll _ e), Nat.le_of_eq (hideAll_size _ _)⟩
    (fun p hp => ⟨hk₁ _ _ (N p hp).1, Nat.ne_of_lt (Heap.lt_size (N p hp).1), hideAll_none _ (List.mem_map_of_mem hp)⟩) BG (X₀.keeps st) (T.keeps st) (fun p hp => Heap.lt_size (N p hp).1)
    (fun b o hb e => hideAll_get _ e hb)) (fun fl s' hl => lv _ _ hl) fun _ _ y => y

theorem Only.trans {a b : List Addr} {h h' h'' : Heap} (x : Only a h h') (y : Only b h' h'') (hs : ∀ z ∈ b, z ∈ a) : Only a h h'' := fun z o hz e => y z o (fun q => hz (hs z q)) (x z o hz e)
theorem Only.refl {a : List Addr} {h : Heap} : Only a h h := fun _ _ _ e => e
theorem Only.more {a b : List Addr} {h h' : Heap} (x : Only a h h') (hs : ∀ z ∈ a, z ∈ b) : Only b h h' := fun z o hz e => x z o (fun q => hz (hs z q)) e
end Mine
namespace Mine
open PySem PySem.W PySem.Calls PyProof.Rows

/-! wpO: the library's wpAny, said of those contexts alone in which no decoder (or other holder of a buffer) stands -/
def okId (id : String) : Bool := !(["bytearray.__contains__", "bytearray.__mod__", "bytearray.__rmod__", "_struct.pack_into.held", "bytearray.find.held"] ++ Builtin.Bytes.decodersThatHold).contains id
def okC : Code → Bool
  | .builtin id _ => okId id
  | _ => true
def OkB (l : List (Code × Pos)) : Prop := ∀ x ∈ l, okC x.1 = true
def OkG (Γ : Ctx) : Prop := okC Γ.code = true ∧ OkB Γ.below
theorem OkG.all {Γ : Ctx} (h : OkG Γ) (p : Pos) : OkB ((Γ.code, p) :: Γ.below) := fun x hx => by
  rcases List.mem_cons.mp hx with rfl | hx
  · exact h.1
  · exact h.2 x hx
theorem OkG.enter {Γ : Ctx} (h : OkG Γ) (c : Code) (v : Option Value) (p : Pos) : OkB (Γ.enter c v p).below := h.all p

def wpO {α : Type} (M : Model) (A : Around) (t : Sem α) (Q : α → Shared → Prop) (E : Value → Shared → Prop) (s : Shared) : Prop :=
  ∀ Γ p, Γ.In A → OkG Γ → Sem.wp M Γ t (fun a _ s' => Q a s') (fun e _ s' => E e s') p s
def codeO (M : Model) (A : Around) (c : Code) (R : Result → Shared → Prop) (s : Shared) : Prop :=
  ∀ Γ p, Γ.code = c → Γ.Below A → OkB Γ.below → wpCode M Γ R p s

section
variable {α β : Type} {M : Model} {A : Around} {E : Value → Shared → Prop} {s : Shared}

theorem wpO.of {t : Sem α} {Q : α → Shared → Prop} (h : wpAny M A t Q E s) : wpO M A t Q E s := fun Γ p hΓ _ => h Γ p hΓ
theorem codeO.of {c : Code} {R : Result → Shared → Prop} (h : codeAny M A c R s) : codeO M A c R s := fun Γ p hc hΓ _ => h Γ p hc hΓ

theorem wpO_pure {a : α} {Q : α → Shared → Prop} (h : Q a s) : wpO M A (pure a) Q E s := .of (wpAny_pure h)
theorem wpO_mono {t : Sem α} {Q Q' : α → Shared → Prop} {E' : Value → Shared → Prop} (h : wpO M A t Q E s) (hQ : ∀ a s, Q a s → Q' a s) (hE : ∀ e s, E e s → E' e s) : wpO M A t Q' E' s :=
  fun Γ p hΓ hO => Sem.wp_mono M Γ t (fun a _ s => hQ a s) (fun e _ s => hE e s) p s (h Γ p hΓ hO)
theorem codeO_mono {c : Code} {R R' : Result → Shared → Prop} (h : codeO M A c R s) (hR : ∀ r s, R r s → R' r s) : codeO M A c R' s :=
  fun Γ p hc hΓ hO => wpCode_mono hR (h Γ p hc hΓ hO)
theorem wpO_bind {m : Sem α} {f : α → Sem β} {Q : β → Shared → Prop} (h : wpO M A m (fun a s' => wpO M A (f a) Q E s') E s) : wpO M A (m >>= f) Q E s := fun Γ p hΓ hO => by
  rw [Sem.wp_bind']
  exact Sem.wp_mono M Γ m (fun a p' s' h' => h' Γ p' hΓ hO) (fun _ _ _ h' => h') p s (h Γ p hΓ hO)
/-- a leaf first, by the library's rules -/
theorem wpO_lift {m : Sem α} {f : α → Sem β} {Q : β → Shared → Prop} (h : wpAny M A m (fun a s' => wpO M A (f a) Q E s') E s) : wpO M A (m >>= f) Q E s := wpO_bind (.of h)
theorem wpO_tryCatch {m : Sem α} {k : Value → Sem α} {Q : α → Shared → Prop} (h : wpO M A m Q (fun e s' => wpO M A (k e) Q E s') s) : wpO M A (tryCatch m k) Q E s := fun Γ p hΓ hO => by
  rw [Sem.wp_tryCatch']
  exact Sem.wp_mono M Γ m (fun _ _ _ h' => h') (fun e p' s' h' => h' Γ p' hΓ hO) p s (h Γ p hΓ hO)
theorem wpO_onRaise {m : Sem α} {k : Value → Sem Unit} {Q : α → Shared → Prop} (h : wpO M A m Q (fun e s' => wpAny M A (k e) (fun _ s'' => E e s'') E s') s) : wpO M A (m.onRaise k) Q E s := fun Γ p hΓ hO => by
  rw [Sem.wp_onRaise]
  exact Sem.wp_mono M Γ m (fun _ _ _ h' => h') (fun e p' s' h' => h' Γ p' hΓ) p s (h Γ p hΓ hO)
theorem wpO_attempt {m : Sem α} {Q : Except Value α → Shared → Prop} (h : wpO M A m (fun a => Q (.ok a)) (fun e => Q (.error e)) s) : wpO M A m.attempt Q E s :=
  fun Γ p hΓ hO => by rw [Sem.wp_attempt]; exact h Γ p hΓ hO
theorem wpO_holding {vs : List Value} {m : Sem α} {Q : α → Shared → Prop} (h : wpO M A m Q E s) : wpO M A (holding vs m) Q E s := fun Γ p hΓ hO => by rw [Sem.wp_holding]; exact h Γ p hΓ hO
theorem wpO_keep {vs : List Value} {m : Sem α} {Q : α → Shared → Prop} (h : wpO M A m Q E s) : wpO M A (m.keep vs) Q E s := fun Γ p hΓ hO => by rw [Sem.wp_keep]; exact h Γ p hΓ hO
theorem wpO_ite {c : Prop} [Decidable c] {a b : Sem α} {Q : α → Shared → Prop} (h : if c then wpO M A a Q E s else wpO M A b Q E s) : wpO M A (if c then a else b) Q E s := by split <;> simp_all
theorem wpO_if_false {c : Bool} {a b : Sem α} {Q : α → Shared → Prop} (hc : c = false) (h : wpO M A b Q E s) : wpO M A (if c = true then a else b) Q E s := by
  subst hc; exact h
theorem wpO_if_true {c : Bool} {a b : Sem α} {Q : α → Shared → Prop} (hc : c = true) (h : wpO M A a Q E s) : wpO M A (if c = true then a else b) Q E s := by
  subst hc; exact h
theorem wpO_stack {Q : List (Code × Pos) → Shared → Prop} (h : ∀ st, OkB st → Q st s) : wpO M A stack Q E s := fun Γ p _ hO => h _ (hO.all p)

theorem wpO_run {c : Code} {h : Option Value} {Q : Flow → Shared → Prop} (hc : codeO M (A.mark h) c (fun r s' => match r with | .ok f => Q f s' | .error e => E e s') s) (hnb : h ≠ some byPass := by intro x; cases x) :
    wpO M A (run c h) Q E s := fun Γ p hΓ hO => by rw [Sem.wp_run]; exact hc _ p rfl (hΓ.enter c h p hnb) (hO.enter c h p)
theorem wpO_runValue {c : Code} {Q : Value → Shared → Prop} (hc : codeO M A c (fun r s' => match r with | .ok (.ret v) => Q v s' | .ok _ => False | .error e => E e s') s) : wpO M A (runValue c) Q E s :=
  fun Γ p hΓ hO => by rw [Sem.wp_runValue]; exact hc _ p rfl (hΓ.enter c none p (by intro x; cases x)) (hO.enter c none p)
theorem wpO_call {f : Value} {pos : List Value} {kw : List (Str × Value)} {Q : Value → Shared → Prop}
    (hc : codeO M A (.call f ⟨pos, kw⟩) (fun r s' => match r with | .ok (.ret v) => Q v s' | .ok _ => False | .error e => E e s') s) : wpO M A (call f pos kw) Q E s := wpO_runValue hc
theorem codeO_of_tree {c : Code} {R : Result → Shared → Prop} (ok : okC c = true)
    (h : wpO M (A.under c) (M.den c) (fun fin s' => match fin with | .done f => R (.ok f) s' | .again c' => c'.quiet = true ∧ codeO M A c' R s') (fun e s' => R (.error e) s') s) : codeO M A c R s := fun Γ p hc hΓ hO => by
  rw [wpCode_iff_wp, hc]
  refine Sem.wp_mono M Γ _ (fun fin p' s' h' => ?_) (fun _ _ _ h' => h') p s (h Γ p (hc ▸ hΓ.in) ⟨by rw [hc]; exact ok, hO⟩)
  cases fin with
  | done f => exact h'
  | again c' => exact ⟨h'.1, h'.2 (Γ.goto c') p' rfl (hΓ.goto c') hO⟩
theorem codeO_loop {c : Code} {R : Result → Shared → Prop} (ok : okC c = true) (hq : c.quiet = true) (I : Nat → Shared → Prop)
    (turn : ∀ n s, I n s → wpO M (A.under c) (M.den c) (fun fin s' => match fin with | .done f => R (.ok f) s' | .again c' => c' = c ∧ ∃ m, m < n ∧ I m s') (fun e s' => R (.error e) s') s)
    (n : Nat) (h : I n s) : codeO M A c R s := by
  induction n using Nat.strongRecOn generalizing s with
  | ind n ih =>
    refine codeO_of_tree ok (wpO_mono (turn n s h) (fun fin s' hf => ?_) fun _ _ h' => h')
    cases fin with
    | done f => exact hf
    | again c' => obtain ⟨rfl, m, hm, hI⟩ := hf; exact ⟨hq, ih m hm hI⟩

/-! statements -/
variable {env : Env}
theorem wpO_execs_nil {Q : Flow → Shared → Prop} (h : Q .next s) : wpO M A (execs [] env) Q E s := .of (wpAny_execs_nil h)
theorem wpO_execs_cons {st : Stmt} {rest : List Stmt} {Q : Flow → Shared → Prop} (h : wpO M A (exec st env) (fun f s' => match f with | .next => wpO M A (execs rest env) Q E s' | f => Q f s') E s) :
    wpO M A (execs (st :: rest) env) Q E s := by
  show wpO M A (exec st env >>= fun f => match f with | .next => execs rest env | f => pure f) Q E s
  refine wpO_bind (wpO_mono h (fun f s' h' => ?_) fun _ _ x => x)
  cases f <;> first | exact h' | exact wpO_pure h'
/-- a statement by the library's rules, the rest in ours -/
theorem wpO_leaf {st : Stmt} {rest : List Stmt} {Q : Flow → Shared → Prop} (h : wpAny M A (exec st env) (fun f s' => match f with | .next => wpO M A (execs rest env) Q E s' | f => Q f s') E s) :
    wpO M A (execs (st :: rest) env) Q E s := wpO_execs_cons (.of h)
theorem wpO_If {test : Expr} {body orelse : List Stmt} {pos : Pos} {Q : Flow → Shared → Prop}
    (h : wpO M A (isTrue test env (eval test env)) (fun b s₂ => if b then wpO M A (execs body env) Q E s₂ else wpO M A (execs orelse env) Q E s₂) E s) : wpO M A (exec (.If test body orelse pos) env) Q E s := by
  show wpO M A (standAt pos >>= fun _ => isTrue test env (eval test env) >>= fun b => if b then execs body env else execs orelse env) Q E s
  refine wpO_lift (wpAny_standAt (wpO_bind (wpO_mono h (fun b s' h' => ?_) fun _ _ x => x)))
  cases b <;> exact h'
theorem wpO_IfLeaf {test : Expr} {body orelse : List Stmt} {pos : Pos} {Q : Flow → Shared → Prop}
    (h : wpAny M A (isTrue test env (eval test env)) (fun b s₂ => if b then wpO M A (execs body env) Q E s₂ else wpO M A (execs orelse env) Q E s₂) E s) : wpO M A (exec (.If test body orelse pos) env) Q E s := wpO_If (.of h)
theorem wpO_isTrue_Compare1 {l r : Expr} {op : CmpOp} {pos : Pos} {whole : Sem Value} {Q : Bool → Shared → Prop}
    (h : wpO M A (eval l env) (fun a s₁ => wpAny M A (eval r env) (fun b s₂ => wpAny M A (compareOp op a b) (fun c s₃ => wpAny M A (truthy c) Q E s₃) E s₂) E s₁) E s)
    (hm : behindInMarks op r = false := by with_unfolding_all rfl) : wpO M A (isTrue (.Compare l [op] [r] pos) env whole) Q E s := fun Γ p hΓ hO => by
  simp only [isTrue_Compare1, markedBehindIn_of_false hm, Sem.wp_bind', Sem.wp_holding, Sem.wp_cmd_standAt, Sem.wp_operate]
  exact Sem.wp_mono M Γ _ (fun a p₁ s₁ h₁ => Sem.wp_mono M Γ _ (fun b _ s₂ h₂ => Sem.wp_mono M Γ _ (fun c p₃ s₃ h₃ => h₃ Γ p₃ hΓ)
    (fun _ _ _ h' => h') _ _ (h₂ Γ _ hΓ)) (fun _ _ _ h' => h') _ _ (h₁ Γ p₁ hΓ)) (fun _ _ _ h' => h') _ _ (h Γ p hΓ hO)
theorem wpO_isTrue_not {x : Expr} {pos : Pos} {whole : Sem Value} {Q : Bool → Shared → Prop} (h : wpO M A (isTrue x env (eval x env)) (fun b s' => Q (!b) s') E s) : wpO M A (isTrue (.UnaryOp .Not x pos) env whole) Q E s := by
  show wpO M A (isTrue x env (eval x env) >>= fun b => pure (!b)) Q E s
  exact wpO_bind (wpO_mono h (fun b s' h' => wpO_pure h') fun _ _ x => x)
theorem wpO_isTrue_call {f : Expr} {args : List Expr} {kws : List Keyword} {pos : Pos} {Q : Bool → Shared → Prop} (h : wpO M A (eval (.Call f args kws pos) env) (fun v s' => wpAny M A (truthy v) Q E s') E s) :
    wpO M A (isTrue (.Call f args kws pos) env (eval (.Call f args kws pos) env)) Q E s := by
  show wpO M A (eval (.Call f args kws pos) env >>= fun v => standAt _ >>= fun _ => holding [v] (truthy v)) Q E s
  exact wpO_bind (wpO_mono h (fun v s' h' => wpO_lift (wpAny_standAt (wpO_holding (.of h')))) fun _ _ x => x)
theorem wpO_Assign_Name {x : Str} {pos' pos : Pos} {value : Expr} {Q : Flow → Shared → Prop} (h : wpO M A (eval value env) (fun v s₁ => wpAny M A (storeName env x v) (fun _ => Q .next) E s₁) E s)
    (hs : swapsWith value (some (.Name x pos')) pos.line env = pure false := by rfl) : wpO M A (exec (.Assign [.Name x pos'] value pos) env) Q E s := fun Γ p hΓ hO => by
  simp only [exec_Assign_Name env x pos' value pos hs, Sem.wp_bind', Sem.wp_cmd_standAt, Sem.wp_bindName, Sem.wp_pure']
  exact Sem.wp_mono M Γ _ (fun v _ s₁ h₁ => h₁ Γ _ hΓ) (fun _ _ _ h' => h') _ _ (h Γ _ hΓ hO)
theorem wpO_Return {e : Expr} {pos : Pos} {Q : Flow → Shared → Prop} (h : wpO M A (eval e env) (fun v => Q (.ret v)) E s) : wpO M A (exec (.Return (some e) pos) env) Q E s := by
  show wpO M A (standAt pos >>= fun _ => eval e env >>= fun v => pure (.ret v)) Q E s
  exact wpO_lift (wpAny_standAt (wpO_bind (wpO_mono h (fun v s' h' => wpO_pure h') fun _ _ x => x)))
theorem wpO_runOwn {c : Code} {h : Option Value} {Q : Flow → Shared → Prop} (hc : codeO M (A.mark h) c (fun r s' => match r with | .ok f => Q f s' | .error e => cameBackBy M A env E e s') s) (hnb : h ≠ some byPass := by intro x; cases x) :
    wpO M A (runOwn c env h) Q E s := by
  unfold runOwn
  exact wpO_onRaise (wpO_run hc hnb)
theorem wpO_While {test : Expr} {body orelse : List Stmt} {pos : Pos} {Q : Flow → Shared → Prop} (h : codeO M A (.whileLoop test body orelse env) (fun r s' => match r with | .ok f => Q f s' | .error e => cameBackBy M A env E e s') s) :
    wpO M A (exec (.While test body orelse pos) env) Q E s := by
  rw [exec_While]; exact wpO_lift (wpAny_standAt (wpO_runOwn h))
theorem wpO_For {target iter : Expr} {body orelse : List Stmt} {pos : Pos} {Q : Flow → Shared → Prop}
    (h : wpAny M A (eval iter env) (fun x s₁ => wpAny M A (pyIter x) (fun it s₂ => codeO M A (.forLoop target it body orelse env) (fun r s' => match r with | .ok f => Q f s' | .error e => cameBackBy M A env E e s') s₂) E s₁) E s)
    (hs : ∀ x, foldedSetIterable iter env x = pure x := by intro _; rfl) : wpO M A (exec (.For target iter body orelse pos) env) Q E s := by
  rw [exec_For]
  exact wpO_lift (wpAny_standAt (wpO_lift (wpAny_mono h (fun x s₁ h₁ => wpO_lift (wpAny_of_eq (hs x) (wpO_lift (wpAny_standAt (wpO_lift (wpAny_holding
    (wpAny_mono h₁ (fun it s₂ h₂ => wpO_runOwn h₂) fun _ _ h' => h'))))))) fun _ _ h' => h')))
end
end Mine
namespace Mine
open PySem PySem.W PySem.Calls PyProof.Rows
section
variable {M : Model} {A : Around} {E : Value → Shared → Prop} {s : Shared} {env : Env}
theorem wpO_operate {vs : List Value} {m : Sem Value} {Q : Value → Shared → Prop} (h : wpO M A m Q E s) : wpO M A (operate vs m) Q E s := fun Γ p hΓ hO => by rw [Sem.wp_operate]; exact h Γ p hΓ hO
theorem wpO_Assign_Attr {o value : Expr} {attr : Str} {pos' pos : Pos} {Q : Flow → Shared → Prop}
    (h : wpO M A (eval value env) (fun v s₁ => wpAny M A (eval o env) (fun ov s₂ => wpAny M A (setAttr ov attr v) (fun _ => Q .next) E s₂) E s₁) E s)
    (hs : swapsWith value (some (.Attribute o attr pos')) pos.line env = pure false := by rfl) : wpO M A (exec (.Assign [.Attribute o attr pos'] value pos) env) Q E s := fun Γ p hΓ hO => by
  simp only [plainObj_exec_Assign_Attribute o attr pos' value pos hs, assign_Attribute, Sem.wp_bind', Sem.wp_holding, Sem.wp_cmd_standAt, Sem.wp_release, Sem.wp_pure']
  exact Sem.wp_mono M Γ _ (fun v p₁ s₁ h₁ => Sem.wp_mono M Γ _ (fun ov _ s₂ h₂ => h₂ Γ _ hΓ) (fun _ _ _ h' => h') _ _ (h₁ Γ p₁ hΓ)) (fun _ _ _ h' => h') _ _ (h Γ _ hΓ hO)
/-- the object is a leaf, the deletion is ours -/
theorem wpO_Delete1 {o i : Expr} {pos' pos : Pos} {Q : Flow → Shared → Prop}
    (h : wpAny M A (eval o env) (fun ov s₁ => wpAny M A (eval i env) (fun iv s₂ => wpO M A (delItem ov iv) (fun _ => Q .next) E s₂) E s₁) E s) : wpO M A (exec (.Delete [.Subscript o i pos'] pos) env) Q E s := by
  rw [arm_exec_Delete, arm_deleteEach_cons, arm_deleteEach_nil, arm_delete_Subscript]
  refine wpO_lift (wpAny_standAt (wpO_bind (wpO_bind (wpO_lift (wpAny_mono h (fun ov s₁ h₁ => wpO_lift (wpAny_holding (wpAny_mono h₁ (fun iv s₂ h₂ => ?_) fun _ _ x => x))) fun _ _ x => x)))))
  refine wpO_lift (wpAny_standAt (wpO_bind (wpO_holding (wpO_mono h₂ (fun _ s₃ h₃ => ?_) fun _ _ x => x))))
  exact .of (wpAny_release (wpO_pure (wpO_pure h₃)))
theorem wpO_AugAttr {o value : Expr} {attr : Str} {tpos pos : Pos} {op : Operator} {Q : Flow → Shared → Prop}
    (h : wpAny M A (eval o env) (fun ov s₁ => wpAny M A (getAttr ov attr true) (fun old s₂ =>
          wpAny M A (eval value env) (fun v s₃ => wpO M A (inplaceOp op old v) (fun new s₄ => wpAny M A (setAttr ov attr new) (fun _ => Q .next) E s₄) E s₃) E s₂) E s₁) E s) :
    wpO M A (exec (.AugAssign (.Attribute o attr tpos) op value pos) env) Q E s := by
  show wpO M A (do
      standAt pos
      let ov ← eval o env
      let new ← holding [ov] do
        standAt tpos.atName
        let old ← getAttr ov attr true
        let v ← holding [old] (eval value env)
        standAt pos
        operate [old, v] (inplaceOp op old v)
      standAt tpos.atName
      holding [new, ov] (setAttr ov attr new)
      release [new, ov] []
      pure .next) Q E s
  refine wpO_lift (wpAny_standAt (wpO_lift (wpAny_mono h (fun ov s₁ h₁ => ?_) fun _ _ x => x)))
  refine wpO_bind (wpO_holding (wpO_lift (wpAny_standAt (wpO_lift (wpAny_mono h₁ (fun old s₂ h₂ => ?_) fun _ _ x => x)))))
  refine wpO_lift (wpAny_holding (wpAny_mono h₂ (fun v s₃ h₃ => ?_) fun _ _ x => x))
  refine wpO_lift (wpAny_standAt (wpO_operate (wpO_mono h₃ (fun new s₄ h₄ => ?_) fun _ _ x => x)))
  refine wpO_lift (wpAny_standAt (wpO_lift (wpAny_holding (wpAny_mono h₄ (fun _ s₅ h₅ => ?_) fun _ _ x => x))))
  exact wpO_lift (wpAny_release (wpO_pure h₅))
theorem wpO_ExprStmt {f : Expr} {args : List Expr} {kws : List Keyword} {cpos pos : Pos} {Q : Flow → Shared → Prop} (hi : interactive env = false)
    (hs : swapsWith (.Call f args kws cpos) none pos.line env = pure false)
    (h : wpO M A (eval (.Call f args kws cpos) env) (fun v s' => v = .none ∧ Q .next s') E s) : wpO M A (exec (.Expr (.Call f args kws cpos) pos) env) Q E s := by
  show wpO M A (standAt pos >>= fun _ => if interactive env then printExpr (eval (.Call f args kws cpos) env) else swapsWith (.Call f args kws cpos) none pos.line env >>= fun b => if b then (do evalThenUse (.Call f args kws cpos) env fun _ => point; pure .next) else (do dropValue (.Call f args kws cpos) pos (← eval (.Call f args kws cpos) env))) Q E s
  refine wpO_lift (wpAny_standAt ?_)
  rw [hi, hs]
  refine wpO_if_false rfl (wpO_lift (wpAny_pure (wpO_if_false rfl ?_)))
  exact wpO_bind (wpO_mono h (fun v s' h' => by obtain ⟨rfl, h'⟩ := h'; exact wpO_pure h') fun _ _ x => x)
/-- ('word', call) -/
theorem wpO_TupleSC {c : Str} {k n : Nat} {p pos : Pos} {f : Expr} {args : List Expr} {kws : List Keyword} {cpos : Pos} {Q : Value → Shared → Prop}
    (h : wpAny M A (eval (.Constant (.str c) k p) env) (fun x s₁ => wpO M A (eval (.Call f args kws cpos) env) (fun v s₂ => wpAny M A (newTuple [x, v]) Q E s₂) E s₁) E s)
    (hz : spliced (backTo pos (starEach [.Constant (.str c) k p, .Call f args kws cpos] env)) = (eval (.Constant (.str c) k p) env >>= fun x => holding [x] (eval (.Call f args kws cpos) env >>= fun v => standAt pos >>= fun _ => pure v) >>= fun v => pure [x, v])) :
    wpO M A (eval (.Tuple [.Constant (.str c) k p, .Call f args kws cpos] n pos) env) Q E s := by
  show wpO M A (do standAt pos; newTuple (← spliced (backTo pos (starEach [.Constant (.str c) k p, .Call f args kws cpos] env)))) Q E s
  rw [hz]
  refine wpO_lift (wpAny_standAt (wpO_bind (wpO_lift (wpAny_mono h (fun x s₁ h₁ => ?_) fun _ _ x => x))))
  refine wpO_bind (wpO_holding (wpO_bind (wpO_mono h₁ (fun v s₂ h₂ => ?_) fun _ _ x => x)))
  exact wpO_lift (wpAny_standAt (wpO_pure (wpO_pure (.of h₂))))
theorem wpO_Try {body orelse : List Stmt} {h₀ : ExceptHandler} {hs : List ExceptHandler} {pos : Pos} {Q : Flow → Shared → Prop}
    (h : wpO M A (execs body env) (fun f s₁ => match f with | .next => wpAny M A (execs orelse env) Q E s₁ | f => Q f s₁)
      (fun e s₁ => wpAny M A (noteFrame e env) (fun _ s₂ => wpAny M A (setFlight e none) (fun _ s₃ => wpAny M A (handleBy e env (h₀ :: hs)) Q E s₃) E s₂) E s₁) s) :
    wpO M A (exec (.Try body (h₀ :: hs) orelse [] pos) env) Q E s := by
  rw [arm_exec_Try]
  refine wpO_lift (wpAny_standAt ?_)
  unfold tryStmt
  simp only [List.isEmpty_nil, if_true, List.isEmpty_cons, Bool.false_and, Bool.false_eq_true, if_false]
  refine wpO_bind (wpO_attempt (wpO_mono h (fun f s₁ h₁ => ?_) fun e s₁ h₁ => ?_))
  · cases f <;> first | exact .of h₁ | exact wpO_pure h₁
  · exact wpO_lift (wpAny_mono h₁ (fun _ _ h₂ => wpO_lift (wpAny_mono h₂ (fun _ _ h₃ => .of h₃) fun _ _ x => x)) fun _ _ x => x)

/-! calls -/
theorem wpO_Call {f : Expr} {args : List Expr} {kws : List Keyword} {pos : Pos} {Q : Value → Shared → Prop}
    (h : wpAny M A (eval f env) (fun fv s₁ => wpO M A (callWith pos fv [] (backTo pos (starEach args env)) (backToKw pos (keywordEach kws env))) Q E s₁) E s)
    (he : eval (.Call f args kws pos) env = (eval f env >>= fun fv => callWith pos fv [] (backTo pos (starEach args env)) (backToKw pos (keywordEach kws env))) := by rfl) : wpO M A (eval (.Call f args kws pos) env) Q E s := by
  rw [he]; exact wpO_lift h
theorem wpO_methodCall {name : Str} {o : Expr} {apos pos : Pos} {args : List Expr} {kws : List Keyword} {pl : Sem Bool} {Q : Value → Shared → Prop}
    (h : wpAny M A (eval o env) (fun ov s₁ => wpAny M A (getMethod ov name pl) (fun fx s₂ => wpO M A (callWith pos fx.1 fx.2 (backTo pos (starEach args env)) (backToKw pos (keywordEach kws env))) Q E s₂) E s₁) E s)
    (he : eval (.Call (.Attribute o name apos) args kws pos) env = (do
      let ov ← eval o env
      standAt apos.atName
      let (f, first) ← holding [ov] (getMethod ov name pl)
      callWith pos f first (backTo pos (starEach args env)) (backToKw pos (keywordEach kws env))) := by rfl) :
    wpO M A (eval (.Call (.Attribute o name apos) args kws pos) env) Q E s := by
  rw [he]
  exact wpO_lift (wpAny_mono h (fun ov s₁ h₁ => wpO_lift (wpAny_standAt (wpO_lift (wpAny_holding (wpAny_mono h₁ (fun fx s₂ h₂ => h₂) fun _ _ x => x))))) fun _ _ x => x)
theorem wpO_callWith_of {P : Heap → Prop} {pos : Pos} {f : Value} {first : List Value} {args : List (Bool × Sem Value)} {keywords : List (Option Str × Sem Value)} {Q : Value → Shared → Prop} (hplain : (args.any (·.1) || keywords.any (·.1.isNone)) = false)
    (hk : ∀ h, P h → ∃ k, (k = Keeper.frame ∨ k = Keeper.machine ∨ k = Keeper.boundFrame) ∧ Looks M h (keeperOf f) k)
    (h : wpAny M A (evalArgs f true args keywords) (fun a s₁ => P s₁.heap ∧ wpO M A (call f (first ++ a.pos) a.kw) Q E s₁) E s) : wpO M A (callWith pos f first args keywords) Q E s := by
  unfold callWith
  refine wpO_lift (wpAny_holding (wpAny_mono h (fun a s₁ h₁ => wpO_lift (wpAny_standAt ?_)) fun _ _ x => x))
  obtain ⟨k, hk', L⟩ := hk _ h₁.1
  simp only [hplain]
  refine wpO_lift (L.here ?_)
  have tail : ∀ {t : Sem Value}, wpO M A t Q E s₁ → wpO M A (t >>= fun r => holding [r] point >>= fun _ => pure r) Q E s₁ :=
    fun ht => wpO_bind (wpO_mono ht (fun r s₂ hr => wpO_lift (wpAny_holding (wpAny_point (wpO_pure hr)))) fun _ _ x => x)
  have marked (mk : Value) : wpO M A (callMarked mk f (first ++ a.pos) a.kw) Q E s₁ := by unfold callMarked; exact wpO_keep h₁.2
  rcases hk' with rfl | rfl | rfl <;> dsimp only <;> first | exact tail h₁.2 | (split <;> first | exact tail h₁.2 | exact tail (marked _))
end

section
variable {M : Model} {A : Around} {E : Value → Shared → Prop} {s : Shared} {env : Env} {K : Frag} {h₀ : Heap} {pos : Pos} {f : Value} {first : List Value} {e : Expr} {rest : List Expr} {kws : List Keyword} {Q : Value → Shared → Prop}
theorem wpO_callWith_K (_X : K.In h₀) (hk : keepIn K f = true) (h : wpAny M A (spliced (backTo pos (starEach (e :: rest) env))) (fun vs s₁ => K.In s₁.heap ∧ wpO M A (call f (first ++ vs)) Q E s₁) E s)
    (he : starEach (e :: rest) env = (false, eval e env) :: starEach rest env := by rfl) (hplain : (backTo pos (starEach rest env)).any (·.1) = false := by rfl) :
    wpO M A (callWith pos f first (backTo pos (starEach (e :: rest) env)) (backToKw pos (keywordEach [] env))) Q E s := by
  rw [he] at h ⊢
  exact wpO_callWith_of (by show ((false || (backTo pos (starEach rest env)).any (·.1)) || false) = false; rw [hplain]; rfl) (keeps_K hk) (evalArgs_plain h)
theorem wpO_callWith_K0 (X : K.In s.heap) (hk : keepIn K f = true) (h : wpO M A (call f (first ++ [])) Q E s) : wpO M A (callWith pos f first (backTo pos (starEach [] env)) (backToKw pos (keywordEach [] env))) Q E s :=
  wpO_callWith_of rfl (keeps_K hk) (evalArgs_nil3 ⟨X, h⟩)
theorem wpO_callWith_KW (_X : K.In h₀) (hk : keepIn K f = true) (hall : (backToKw pos (keywordEach kws env)).all (·.1.isSome) = true)
    (h : wpAny M A (spliced (backTo pos (starEach (e :: rest) env))) (fun vs s₁ => wpAny M A (evalAll ((backToKw pos (keywordEach kws env)).map (·.2)))
      (fun ks s₂ => K.In s₂.heap ∧ wpO M A (call f (first ++ vs) (((backToKw pos (keywordEach kws env)).filterMap (·.1)).zip ks)) Q E s₂) E s₁) E s)
    (hplain : ((backTo pos (starEach (e :: rest) env)).any (·.1) || (backToKw pos (keywordEach kws env)).any (·.1.isNone)) = false := by rfl) (he : starEach (e :: rest) env = (false, eval e env) :: starEach rest env := by rfl) :
    wpO M A (callWith pos f first (backTo pos (starEach (e :: rest) env)) (backToKw pos (keywordEach kws env))) Q E s :=
  wpO_callWith_of hplain (keeps_K hk) (evalArgs_kw2 hall h he)
/-- a built-in type, no arguments -/
theorem wpO_callWith_type0 {T : String} (h : wpO M A (call (.type T) ([] ++ [])) Q E s) : wpO M A (callWith pos (.type T) [] (backTo pos (starEach [] env)) (backToKw pos (keywordEach [] env))) Q E s :=
  wpO_callWith_of (P := fun _ => True) rfl (fun _ _ => ⟨.machine, .inr (.inl rfl), Looks.of_pure rfl⟩) (evalArgs_nil3 ⟨trivial, h⟩)
end

section
variable {prog : Program} {w : World} {A : Around} {E : Value → Shared → Prop} {R : Result → Shared → Prop} {s : Shared}
theorem wpO_noted {α : Type} {M : Model} {env : Env} {m : Sem α} {Q : α → Shared → Prop} (h : wpO M A m Q (notedBy M A env E) s) : wpO M A (m.onRaise fun x => do noteFrame x env; theTreesLotGoes x) Q E s :=
  wpO_onRaise (wpO_mono h (fun _ _ q => q) fun _ _ hx => wpAny_bind (wpAny_mono hx (fun _ _ e => wpAny_theTreesLotGoes e) fun _ _ e => e))
theorem codeO_whileLoop {test : Expr} {body orelse : List Stmt} {env : Env} (I : Nat → Shared → Prop)
    (turn : ∀ n s, I n s →
      wpAny (model prog w) A (isTrue test env (eval test env)) (fun b s₂ =>
        if b then wpO (model prog w) A (execs body env) (fun f s₃ => match f with
            | .next | .cont => ∃ m, m < n ∧ I m s₃
            | .brk => R (.ok .next) s₃
            | .ret v => R (.ok (.ret v)) s₃) (notedBy (model prog w) A env fun e s' => R (.error e) s') s₂
        else wpAny (model prog w) A (execs orelse env) (fun f s₃ => R (.ok f) s₃) (notedBy (model prog w) A env fun e s' => R (.error e) s') s₂)
        (notedBy (model prog w) A env fun e s' => R (.error e) s') s)
    (n : Nat) (h : I n s) : codeO (model prog w) A (.whileLoop test body orelse env) R s := by
  refine codeO_loop rfl rfl I (fun n s hI => ?_) n h
  show wpO _ A ((whileTurn test body orelse env).onRaise (fun x => do noteFrame x env; theTreesLotGoes x)) _ _ s
  refine wpO_noted ?_
  simp only [whileTurn]
  refine wpO_lift (wpAny_mono (turn n s hI) (fun b s₂ h₂ => ?_) fun _ _ h' => h')
  cases b with
  | false =>
    simp only [Bool.false_eq_true, if_false] at h₂ ⊢
    exact wpO_lift (wpAny_mono h₂ (fun f s₃ h₃ => wpO_pure h₃) fun _ _ h' => h')
  | true =>
    simp only [if_true] at h₂ ⊢
    refine wpO_bind (wpO_mono h₂ (fun f s₃ h₃ => ?_) fun _ _ h' => h')
    cases f with
    | next => exact wpO_pure ⟨rfl, h₃⟩
    | cont => exact wpO_pure ⟨rfl, h₃⟩
    | brk => exact wpO_pure h₃
    | ret v => exact wpO_pure h₃
theorem codeO_loop' {M : Model} {c : Code} (ok : okC c = true) (hq : c.quiet = true) (I : Nat → Shared → Prop)
    (turn : ∀ n s, I n s → wpO M (A.under c) (M.den c) (fun fin s' => match fin with | .done f => R (.ok f) s' | .again c' => (c' = c ∧ ∃ m, m < n ∧ I m s') ∨ (c'.quiet = true ∧ codeO M A c' R s')) (fun e s' => R (.error e) s') s)
    (n : Nat) (h : I n s) : codeO M A c R s := by
  induction n using Nat.strongRecOn generalizing s with
  | ind n ih =>
    refine codeO_of_tree ok (wpO_mono (turn n s h) (fun fin s' hf => ?_) fun _ _ h' => h')
    cases fin with
    | done f => exact hf
    | again c' =>
      rcases hf with ⟨rfl, m, hm, hI⟩ | hf
      · exact ⟨hq, ih m hm hI⟩
      · exact hf
theorem codeO_forLoop {target : Expr} {it : Value} {body orelse : List Stmt} {env : Env} (I : Nat → Shared → Prop)
    (turn : ∀ n s, I n s → wpAny (model prog w) A (pyNext it) (fun r s₁ => match r with
      | none => wpAny (model prog w) A (execs orelse env) (fun f s₃ => R (.ok f) s₃) (notedBy (model prog w) A env fun e s' => R (.error e) s') s₁
      | some v => wpAny (model prog w) A (assign target env v) (fun _ s₂ => wpO (model prog w) A (execs body env) (fun f s₃ => match f with
          | .next | .cont => ∃ m, m < n ∧ I m s₃
          | .brk => R (.ok .next) s₃
          | .ret v => R (.ok (.ret v)) s₃) (notedBy (model prog w) A env fun e s' => R (.error e) s') s₂) (notedBy (model prog w) A env fun e s' => R (.error e) s') s₁) (notedBy (model prog w) A env fun e s' => R (.error e) s') s)
    (n : Nat) (h : I n s) (ht : ∀ v, letOwnedTupleGo target it v = pure () := by intro _; rfl) : codeO (model prog w) A (.forLoop target it body orelse env) R s := by
  refine codeO_loop' rfl rfl I (fun n s hI => ?_) n h
  show wpO _ _ ((forTurn target it body orelse env).onRaise (fun x => do noteFrame x env; theTreesLotGoes x)) _ _ s
  refine wpO_noted ?_
  simp only [forTurn]
  refine wpO_lift (wpAny_standAt (wpO_lift (wpAny_onRaise (wpAny_mono (turn n s hI) (fun r s₁ h₁ => ?_) fun _ _ h' => wpAny_standAt h'))))
  cases r with
  | none => exact wpO_pure (.inr ⟨rfl, .of (codeAny_block h₁)⟩)
  | some v =>
    refine wpO_lift (wpAny_of_eq (ht v) ?_)
    refine wpO_lift (wpAny_mono h₁ (fun _ s₂ h₂ => wpO_bind (wpO_mono h₂ (fun f s₃ h₃ => ?_) fun _ _ h' => h')) fun _ _ h' => h')
    cases f with
    | next => exact wpO_pure (.inl ⟨rfl, h₃⟩)
    | cont => exact wpO_pure (.inl ⟨rfl, h₃⟩)
    | brk => exact wpO_pure h₃
    | ret v => exact wpO_pure h₃
theorem codeO_func {body : List Stmt} {env : Env}
    (h : wpO (model prog w) (A.deeper env) (execs body env) (fun f s' => R (.ok (.ret (match f with | .ret v => v | _ => .none))) s')
      (fun e s' => wpAny (model prog w) (A.deeper env) (leaving env e) (fun _ s'' => R (.error e) s'') (fun e' s'' => R (.error e') s'') s') s) :
    codeO (model prog w) A (.func body env) R s := by
  refine codeO_of_tree rfl ?_
  show wpO _ (A.deeper env) (do point; match ← (execs body env).onRaise (leaving env) with | .ret v => ret v | _ => ret .none) _ _ s
  refine wpO_lift (wpAny_point (wpO_bind (wpO_onRaise (wpO_mono h (fun f s' h' => ?_) fun _ _ h' => h'))))
  cases f <;> exact wpO_pure h'
theorem codeO_call_function {a : Addr} {args : Args} {o : Obj} {fd : FuncData} {body : List Stmt} (hroom : A.depth < recursionLimit)
    (ho : s.heap.get? a = some o)
    (hd' : o.data = .func fd) (hco : fd.scope.isCoroutine = false) (hgen : fd.scope.isGenerator = false) (hbody : fd.body = .stmts body) (hcd : s.heap.CodeRec fd.code fd.qualname)
    (h : wpAny (model prog w) A.in1 (bindArgs fd args) (fun binds s₁ =>
      wpAny (model prog w) A.in1 (newFunctionEnv fd.scope fd.globals fd.closure binds (fd.qualname ++ ".<locals>.") (some a) fd.code none fd.builtins)
        (fun env s₂ => s₂.heap.NoLimit ∧ codeO (model prog w) A (.func body env) R s₂) (fun e s' => R (.error e) s') s₁) (fun e s' => R (.error e) s') s) :
    codeO (model prog w) A (.call (.ref a) args) R s := by
  refine codeO_of_tree rfl ?_
  show wpO _ A.in1 (callAny (.ref a) args) _ _ s
  simp only [callAny]
  refine wpO_lift (wpAny_load ho ?_)
  obtain ⟨c, oc, vs, tq, hc, hoc, hdc, hq⟩ := hcd
  simp only [hd', callFunction, hco, hgen, hbody, hc]
  rw [hc] at h
  refine wpO_lift (m := field (.ref c) 1) (wpAny_field hoc hdc hq (wpO_lift (wpAny_pure ?_)))
  exact wpO_lift (wpAny_mono h (fun binds s₁ h₁ => wpO_lift (wpAny_mono h₁ (fun env s₂ h₂ => wpO_lift (wpAny_enterFrame h₂.1 hroom
    (wpO_pure (And.intro rfl h₂.2)))) fun _ _ h' => h')) fun _ _ h' => h')
theorem codeO_call_def {a : Addr} {o : Obj} {fd : FuncData} {body : List Stmt} {args : Args} {binds : List (Str × Value)}
    (hroom : A.depth < recursionLimit) (ho : s.heap.get? a = some o) (hdata : o.data = .func fd) (hlim : s.heap.NoLimit) (hcd : s.heap.CodeRec fd.code fd.qualname)
    (hbody : fd.body = .stmts body) (hbind : BindsTo s fd args binds)
    (hcell : ∀ x ∈ fd.scope.names, x.2 ≠ .cell) (hloc : ∀ x ∈ binds, fd.scope.names.lookup x.1 = some .local)
    (h : ∀ h₀, h₀.Ns s.heap.objs.size (fun x => binds.reverse.lookup x) → (∀ b o, s.heap.get? b = some o → h₀.get? b = some o) →
      wpO (model prog w) (A.deeper (callEnv fd s.heap.objs.size a)) (execs body (callEnv fd s.heap.objs.size a)) (fun f s' => R (.ok (.ret (match f with | .ret v => v | _ => .none))) s')
        (fun e s' => wpAny (model prog w) (A.deeper (callEnv fd s.heap.objs.size a)) (leaving (callEnv fd s.heap.objs.size a) e) (fun _ s'' => R (.error e) s'') (fun e' s'' => R (.error e') s'') s')
        { s with heap := h₀, toks := s.toks + binds.length })
    (hco : fd.scope.isCoroutine = false := by rfl) (hgen : fd.scope.isGenerator = false := by rfl) (hk : fd.scope.kind = .function := by rfl) :
    codeO (model prog w) A (.call (.ref a) args) R s := by
  refine codeO_call_function hroom ho hdata hco hgen hbody hcd (hbind _ _ _ _ ?_)
  refine wpAny_newFunctionEnv hcell hloc (fun h₀ hns₀ hsb₀ => ⟨hlim.fresh _ hsb₀, codeO_func (h h₀ hns₀ fun b o e => ?_)⟩) hk
  exact hsb₀.extBut b o (Nat.ne_of_lt (Heap.lt_size e)) (Heap.get?_push_of_some _ e)
end

theorem codeO_def {prog : Program} {w : World} {A₀ A : Around} {s : Shared} {K : Frag} {base h₀ : Heap} {L : Addr} {m : Str → Option Value} {mg mb : Str → Option Value} {news : List (Addr × Obj)} {p : Program} {loose : List Str} {mean : ExcName → Option Value}
    {env : Env} {outer : List Env} {R : Result → Shared → Prop} {name qual : Str} {params : Arguments} {body : List Stmt} {scope : Scope} {dV kV doc pm cdv ct oc : Value} {an od : Option Addr} {osl : Array (Option Value)} {f : Addr} {args : Args} {binds : List (Str × Value)}
    (B : Below A₀ base outer h₀) (F : Fr h₀ L s.heap m) (X₀ : K.In h₀) (N : News h₀ L s.heap news) (T : Top p loose mean mg mb h₀) (hA : A.frames = some (env :: outer)) (hf : env.frame = some L) (hke : env.scope.kind = .function)
    (ho : K.lookup f = some ⟨oc, od, .func (fnOf name qual params body scope dV kV doc pm an cdv ct), osl⟩) (hcd : codeIn K cdv qual = true) (hroom : A.depth < recursionLimit)
    (hbind : BindsTo s (fnOf name qual params body scope dV kV doc pm an cdv ct) args binds) (hloc : ∀ y ∈ binds, scope.names.lookup y.1 = some .local)
    (h : ∀ g L' h₁, Fr h₀ L g m → Fr g L' h₁ (fun y => binds.reverse.lookup y) → News g L' h₁ news → Below A base (env :: outer) g → K.In g → Top p loose mean mg mb g → (∀ p ∈ news, p.1 < L') → Only (news.map (·.1)) s.heap g →
      wpO (model prog w) (A.deeper (envOf qual scope L' f cdv)) (execs body (envOf qual scope L' f cdv))
        (fun fl s' => LeaveK h₀ L m g R (match fl with | .ret v => v | _ => .none) s')
        (fun e s' => wpAny (model prog w) (A.deeper (envOf qual scope L' f cdv)) (leaving (envOf qual scope L' f cdv) e) (fun _ s'' => R (.error e) s'') (fun e' s'' => R (.error e') s'') s')
        { s with heap := h₁, toks := s.toks + binds.length })
    (hco : scope.isCoroutine = false) (hgen : scope.isGenerator = false) (hk : scope.kind = .function)
    (hcell : ∀ x ∈ scope.names, x.2 ≠ .cell) : codeO (model prog w) A (.call (.ref f) args) R s := by
  obtain ⟨FG, BG, st, lv⟩ := groundX (R := R) B F N hA hf hke
  have X := X₀.keeps F.keep
  have hlim := T.nolimit
  refine codeO_call_def (fd := fnOf name qual params body scope dV kV doc pm an cdv ct) (body := body) (binds := binds) hroom (X _ _ ho) rfl (hlim.keeps F.keep) (codeRec_of X hcd) rfl hbind hcell hloc (fun h₁ hns hk₁ => ?_) hco hgen hk
  exact wpO_mono (h _ s.heap.objs.size h₁ FG ⟨hns, fun b o e => hk₁ b o (of_hideAll _ e), Nat.le_of_eq (hideAll_size _ _)⟩
    (fun p hp => ⟨hk₁ _ _ (N p hp).1, Nat.ne_of_lt (Heap.lt_size (N p hp).1), hideAll_none _ (List.mem_map_of_mem hp)⟩) BG (X₀.keeps st) (T.keeps st) (fun p hp => Heap.lt_size (N p hp).1)
    (fun b o hb e => hideAll_get _ e hb)) (fun fl s' hl => lv _ _ hl) fun _ _ y => y
end Mine
namespace Mine
open PySem PySem.W PySem.Calls PyProof.Rows
section
variable {prog : Program} {w : World} {A : Around} {E : Value → Shared → Prop} {R : Result → Shared → Prop} {s : Shared}
theorem codeO_builtin {id : String} {args : Args} {b : Builtin} (ok : okId id = true) (hb : entryFor table id = some b)
    (h : wpO (model prog w) (A.under (.builtin id args)) (b args)
      (fun fin s' => match fin with | .done f => R (.ok f) s' | .again c' => c'.quiet = true ∧ codeO (model prog w) A c' R s') (fun e s' => R (.error e) s') s) :
    codeO (model prog w) A (.builtin id args) R s := by
  refine codeO_of_tree ok ?_
  show wpO _ _ (match entryFor table id with | some b => b args | none => unsupported ((withoutEnding? id "#data").getD id)) _ _ s
  rw [hb]; exact h
theorem codeO_call_builtin_at {id : String} {args : Args} {b : Builtin} (ok : okId id = true) (hq : (Code.builtin id args).quiet = true) (hb : entryFor table id = some b)
    (h : wpAny (model prog w) A.in1 (checkBuiltinCall id args) (fun _ s₁ => wpO (model prog w) (A.under (.builtin id args)) (b args)
      (fun fin s' => match fin with | .done f => R (.ok f) s' | .again c' => c'.quiet = true ∧ codeO (model prog w) A c' R s') (fun e s' => R (.error e) s') s₁)
      (fun e s' => R (.error e) s') s) : codeO (model prog w) A (.call (.builtin id) args) R s := by
  refine codeO_of_tree rfl ?_
  show wpO _ A.in1 (do checkBuiltinCall id args; again (.builtin id args)) _ _ s
  exact wpO_lift (wpAny_mono h (fun _ s₁ h₁ => wpO_pure (And.intro hq (codeO_builtin ok hb h₁))) fun _ _ h' => h')
theorem codeO_call_builtin {id : String} {args : Args} {b : Builtin} (ok : okId id = true) (hq : plainId id = true) (hb : entryFor table id = some b)
    (h : wpAny (model prog w) A.in1 (checkBuiltinCall id args) (fun _ s₁ => wpO (model prog w) A.in1 (b args)
      (fun fin s' => match fin with | .done f => R (.ok f) s' | .again c' => c'.quiet = true ∧ codeO (model prog w) A c' R s') (fun e s' => R (.error e) s') s₁)
      (fun e s' => R (.error e) s') s) : codeO (model prog w) A (.call (.builtin id) args) R s :=
  codeO_call_builtin_at ok (plainId_quiet hq args) hb (by rw [Around.under_plainId hq args]; exact h)

theorem codeO_make_core {C : Addr} {h : Heap} {g : Array GenState} {d : Drawn} {t : Nat} {os : OsState} {rest : List Value} {kw : List (Str × Value)} {init : Value} (Y : Makes (model prog w) h C) (hi : Looks (model prog w) h (typeLookup (.ref C) "__init__") (some init))
    (hb : ∀ self, Looks (model prog w) h (bindSpecial init self) (init, [self])) (hne : (some init != some (Value.builtin "object.__init__")) = true ∨ (rest = [] ∧ kw = []))
    (hq : codeO (model prog w) (A.under (.builtin "type.__call__" ⟨.ref C :: rest, kw⟩)) (.call init ⟨.ref (h.objs.size + 1) :: rest, kw⟩) (InitBack (h.objs.size + 1) R) ⟨(h.push emptyDict).push (instObj C h.objs.size), g, d, t, os⟩) :
    codeO (model prog w) A (.call (.ref C) ⟨rest, kw⟩) R ⟨h, g, d, t, os⟩ := by
  have Y' := Y
  obtain ⟨⟨oc, od, cd, sl, hC, e1, e2, e4⟩, made, base, self, top, call, typ⟩ := Y
  refine codeO_of_tree rfl ?_
  show wpO _ _ (load C >>= _) _ _ _
  refine wpO_lift (wpAny_load hC ?_)
  show wpO _ _ (callAny.viaDunder (.ref C) _) _ _ _
  unfold callAny.viaDunder
  refine wpO_lift (call.at ?_)
  dsimp only
  rw [tc_bind]
  refine wpO_lift (wpAny_pure (wpO_lift (wpAny_pure ?_)))
  refine wpO_pure (a := Fin.again (.call (.builtin "type.__call__") ⟨.ref C :: rest, kw⟩)) (And.intro rfl ?_)
  refine codeO_call_builtin_at (by decide +kernel) (Code.quiet_builtin _ (by decide +kernel)) entry_typeCall (check_slot tc_kind tc_split typ (tc_args _ _ _) ?_)
  unfold Builtin.«type.__call__»
  have hm : Looks (model prog w) h (mroOf (.ref C)) cd.mro := ((Looks.ld (part := none) hC).andThen .now).andThen .now
  refine wpO_if_false rfl ?_
  refine wpO_lift (hm.at ?_)
  refine wpO_if_false e4 ?_
  refine wpO_lift (made.at (wpO_lift (wpAny_pure ?_)))
  refine wpO_lift (wpAny_holding (wpAny_call (new_K Y' hi hne ?_)))
  have k : ∀ b o, h.get? b = some o → ((h.push emptyDict).push (instObj C h.objs.size)).get? b = some o := fun b o e => Heap.get?_push_of_some _ (Heap.get?_push_of_some _ e)
  have hx : ((h.push emptyDict).push (instObj C h.objs.size)).get? (h.objs.size + 1) = some (instObj C h.objs.size) := by heap_get
  have t1 : Looks (model prog w) ((h.push emptyDict).push (instObj C h.objs.size)) (typeOf (.ref (h.objs.size + 1))) (.ref C) := (Looks.ld hx).andThen .now
  have s1 := self.keeps k
  have i1 := hi.keeps k
  have b1 := (hb (.ref (h.objs.size + 1))).keeps k
  have I1 : Looks (model prog w) ((h.push emptyDict).push (instObj C h.objs.size)) (isInstance (.ref (h.objs.size + 1)) (.ref C)) true := by unfold isInstance; exact t1.andThen s1
  refine wpO_lift (I1.at ?_)
  refine wpO_if_false rfl ?_
  have S1 : Looks (model prog w) ((h.push emptyDict).push (instObj C h.objs.size)) (specialOf (.ref (h.objs.size + 1)) "__init__") (some init) := by unfold specialOf; exact t1.andThen i1
  unfold callSpecial?
  refine wpO_bind (wpO_holding (wpO_lift (S1.at (wpO_holding (wpO_lift (b1.at (wpO_bind (wpO_call (codeO_mono hq fun r s' z => ?_)))))))))
  rcases r with e | (v | _ | _ | _) <;> first | exact z | exact z.elim | skip
  obtain ⟨rfl, z⟩ := z
  exact wpO_pure (wpO_if_false rfl (wpO_pure z))
theorem codeO_make {K : Frag} {C : Addr} {h₀ : Heap} {L : Addr} {m : Str → Option Value} {news : List (Addr × Obj)} {rest : List Value} {kw : List (Str × Value)} {fI : Addr} (F : Fr h₀ L s.heap m) (N : News h₀ L s.heap news) (X : K.In s.heap) (hm : makesIn K C = true)
    (hi : findIn K (.ref C) "__init__" = some (some (.ref fI))) (hf : isFn K (.ref fI) = true)
    (h : ∀ x dx h', Fr h₀ L h' m → News h₀ L h' ((x, instObj C dx) :: (dx, dictOf [] 0) :: news) → (∀ p ∈ news, p.1 < dx) → dx < x →
      codeO (model prog w) (A.under (.builtin "type.__call__" ⟨.ref C :: rest, kw⟩)) (.call (.ref fI) ⟨.ref x :: rest, kw⟩) (InitBack x R) { s with heap := h' }) :
    codeO (model prog w) A (.call (.ref C) ⟨rest, kw⟩) R s := by
  obtain ⟨hh, g, d, t, os⟩ := s
  refine codeO_make_core (makes_of X hm) (looks_findIn X hi) (fun self => bind_fn X self (beq_iff_eq.mp hf)) (.inl rfl) (h _ hh.objs.size _ ((F.push _).push _) ?_ (fun p hp => Heap.lt_size (N p hp).1) (Nat.lt_succ_self _))
  have := (N.push F emptyDict).push (F.push _) (instObj C hh.objs.size)
  rwa [Heap.size_push] at this
end
end Mine
namespace Mine
open PySem PySem.W PySem.Calls PyProof.Rows

/-! facts of the type bytearray -/
theorem ba_slot_delitem : Slot "bytearray" "__delitem__" "bytearray.__delitem__" :=
  .of (owner := "bytearray") (n := "__delitem__") (by rw [typeLookup_type, builtinLookup_eq_fast]; kernel_rfl) (by decide +kernel) (by decide +kernel) (by decide +kernel) (by first | exact .inl (by decide +kernel) | exact .inr (by decide +kernel)) (by rw [isSubtype_type]; kernel_rfl)
theorem ba_slot_getitem : Slot "bytearray" "__getitem__" "bytearray.__getitem__" :=
  .of (owner := "bytearray") (n := "__getitem__") (by rw [typeLookup_type, builtinLookup_eq_fast]; kernel_rfl) (by decide +kernel) (by decide +kernel) (by decide +kernel) (by first | exact .inl (by decide +kernel) | exact .inr (by decide +kernel)) (by rw [isSubtype_type]; kernel_rfl)
theorem ba_slot_iadd : Slot "bytearray" "__iadd__" "bytearray.__iadd__" :=
  .of (owner := "bytearray") (n := "__iadd__") (by rw [typeLookup_type, builtinLookup_eq_fast]; kernel_rfl) (by decide +kernel) (by decide +kernel) (by decide +kernel) (by first | exact .inl (by decide +kernel) | exact .inr (by decide +kernel)) (by rw [isSubtype_type]; kernel_rfl)
theorem ba_slot_len : Slot "bytearray" "__len__" "bytearray.__len__" :=
  .of (owner := "bytearray") (n := "__len__") (by rw [typeLookup_type, builtinLookup_eq_fast]; kernel_rfl) (by decide +kernel) (by decide +kernel) (by decide +kernel) (by first | exact .inl (by decide +kernel) | exact .inr (by decide +kernel)) (by rw [isSubtype_type]; kernel_rfl)
theorem ba_slot_init : Slot "bytearray" "__init__" "bytearray.__init__" :=
  .of (owner := "bytearray") (n := "__init__") (by rw [typeLookup_type, builtinLookup_eq_fast]; kernel_rfl) (by decide +kernel) (by decide +kernel) (by decide +kernel) (by first | exact .inl (by decide +kernel) | exact .inr (by decide +kernel)) (by rw [isSubtype_type]; kernel_rfl)
theorem ba_slot_ne : Slot "bytearray" (cmpInfo .NotEq).2.1 "bytearray.__ne__" :=
  .of (owner := "bytearray") (n := "__ne__") (by rw [typeLookup_type, builtinLookup_eq_fast]; kernel_rfl) (by decide +kernel) (by decide +kernel) (by decide +kernel) (by first | exact .inl (by decide +kernel) | exact .inr (by decide +kernel)) (by rw [isSubtype_type]; kernel_rfl)
theorem ba_entry_delitem : entryFor table "bytearray.__delitem__" = some Builtin.«bytearray.__delitem__» := by first | exact entryFor_of_fast (by kernel_rfl) | exact entryFor_of_tree (by kernel_rfl)
theorem ba_entry_getitem : entryFor table "bytearray.__getitem__" = some Builtin.«bytearray.__getitem__» := by first | exact entryFor_of_fast (by kernel_rfl) | exact entryFor_of_tree (by kernel_rfl)
theorem ba_entry_iadd : entryFor table "bytearray.__iadd__" = some Builtin.«bytearray.__iadd__» := by first | exact entryFor_of_fast (by kernel_rfl) | exact entryFor_of_tree (by kernel_rfl)
theorem ba_entry_len : entryFor table "bytearray.__len__" = some Builtin.«bytearray.__len__» := by first | exact entryFor_of_fast (by kernel_rfl) | exact entryFor_of_tree (by kernel_rfl)
theorem ba_entry_init : entryFor table "bytearray.__init__" = some Builtin.«bytearray.__init__» := by first | exact entryFor_of_fast (by kernel_rfl) | exact entryFor_of_tree (by kernel_rfl)
theorem ba_entry_ne : entryFor table "bytearray.__ne__" = some Builtin.«bytearray.__ne__» := by first | exact entryFor_of_fast (by kernel_rfl) | exact entryFor_of_tree (by kernel_rfl)
theorem ba_args_delitem (a b : Value) : argsOk "bytearray.__delitem__" ⟨[a, b], []⟩ := by unfold argsOk; kernel_rfl
theorem ba_args_getitem (a b : Value) : argsOk "bytearray.__getitem__" ⟨[a, b], []⟩ := by unfold argsOk; kernel_rfl
theorem ba_args_iadd (a b : Value) : argsOk "bytearray.__iadd__" ⟨[a, b], []⟩ := by unfold argsOk; kernel_rfl
theorem ba_args_len (a : Value) : argsOk "bytearray.__len__" ⟨[a], []⟩ := by unfold argsOk; kernel_rfl
theorem ba_args_init (a : Value) : argsOk "bytearray.__init__" ⟨[a], []⟩ := by unfold argsOk; kernel_rfl
theorem ba_args_ne (a b : Value) : argsOk "bytearray.__ne__" ⟨[a, b], []⟩ := by unfold argsOk; kernel_rfl
theorem ba_mro : mroOf (.type "bytearray") = pure [.type "bytearray", .type "object"] := by rw [mroOf_type]; kernel_rfl
theorem ba_sub : isSubtype (.type "bytearray") (.type "bytearray") = pure true := by rw [isSubtype_type]; kernel_rfl
theorem ba_look_buffer : typeLookup (.type "bytearray") "__buffer__" = pure (some (.builtin "bytearray.__buffer__")) := by rw [typeLookup_type, builtinLookup_eq_fast]; kernel_rfl
theorem ba_look_release : typeLookup (.type "bytearray") "__release_buffer__" = pure (some (.builtin "bytearray.__release_buffer__")) := by rw [typeLookup_type, builtinLookup_eq_fast]; kernel_rfl
theorem ba_noR_add : typeLookup (.type "bytearray") (dunderR "add") = pure none := by rw [typeLookup_type, builtinLookup_eq_fast]; kernel_rfl
theorem ba_look_add : typeLookup (.type "bytearray") (dunder "add") = pure (some (.builtin "bytearray.__add__")) := by rw [typeLookup_type, builtinLookup_eq_fast]; kernel_rfl
theorem ba_noFill_add : fillsNumberSlot (.type "bytearray") "add" = pure false := PySem.fillsNumberSlot_seq (id := "bytearray.__add__") (r := none) ba_look_add (by decide +kernel) ba_noR_add rfl
theorem ba_noFill_iadd : fillsInplaceSlot (.type "bytearray") "add" (Operator.Add == .Add) = pure false := by
  unfold fillsInplaceSlot
  show (typeLookup (.type "bytearray") (dunderI "add") >>= fun fi => pure (fi.isSome && !isSeqSlot fi)) = pure false
  rw [show typeLookup (.type "bytearray") (dunderI "add") = pure (some (.builtin "bytearray.__iadd__")) from ba_slot_iadd.lookup]
  show (pure (true && !isSeqSlot (some (.builtin "bytearray.__iadd__"))) : Sem Bool) = pure false
  rw [show isSeqSlot (some (.builtin "bytearray.__iadd__")) = true from by decide +kernel]; rfl
theorem ba_seq_iadd : seqSlot? (.type "bytearray") (dunderI "add") = pure (some (.builtin "bytearray.__iadd__")) := PySem.seqSlot_of ba_slot_iadd.lookup (by decide +kernel)

abbrev baObj (xs : List UInt8) : Obj := { cls := .type "bytearray", data := .bytearray xs.toArray }

section
variable {M : Model} {A : Around} {E : Value → Shared → Prop} {s : Shared}
theorem any_to {α : Type} {f : α → Bool} {st : List α} {Q : Bool → Shared → Prop} (hf : ∀ x ∈ st, f x = false) (h : Q false s) : Q (st.any f) s := by
  rw [List.any_eq_false.mpr fun x hx => by rw [hf x hx]; exact Bool.false_ne_true]; exact h
theorem wpO_exported {self : Value} {Q : Bool → Shared → Prop} (h : Q false s) : wpO M A (Builtin.Bytes.exported self) Q E s := by
  unfold Builtin.Bytes.exported
  refine wpO_bind (wpO_stack fun st hst => wpO_pure (any_to (Q := Q) (fun x hx => ?_) h))
  have hok := hst x hx
  obtain ⟨c, p⟩ := x
  cases c with
  | builtin nm args =>
    have hid : okId nm = true := hok
    have hn : ∀ n ∈ (["bytearray.__contains__", "bytearray.__mod__", "bytearray.__rmod__", "_struct.pack_into.held", "bytearray.find.held"] ++ Builtin.Bytes.decodersThatHold), nm ≠ n := by
      intro n hn e
      subst e
      unfold okId at hid
      rw [List.contains_iff_mem.mpr hn] at hid
      cases hid
    have hd : Builtin.Bytes.decodersThatHold.contains nm = false := by
      cases q : Builtin.Bytes.decodersThatHold.contains nm with
      | false => rfl
      | true => exact absurd rfl (hn nm (List.mem_append_right _ (List.contains_iff_mem.mp q)))
    split
    all_goals first | rfl | (rename_i q; cases q; first | exact absurd rfl (hn _ (by decide)) | (rw [hd, Bool.and_false]) | rfl)
  | _ => rfl
end
end Mine
namespace Mine
open PySem PySem.W PySem.Calls PyProof.Rows
section
variable {prog : Program} {w : World} {A : Around} {E : Value → Shared → Prop} {s : Shared}
theorem wpO_callSpecial_slot {M : Model} {self : Value} {T : String} {name : Str} {id : String} {args : List Value} {kw : List (Str × Value)} {Q : Option Value → Shared → Prop} (hT : s.TypeIs self T) (h : Slot T name id)
    (hc : wpO M A (call (.builtin id) (self :: args) kw) (fun v => Q (some v)) E s) : wpO M A (callSpecial? self name args kw) Q E s := by
  simp only [callSpecial?]
  refine wpO_lift (wpAny_specialOf hT h.lookup ?_)
  simp only [h.bind]
  exact wpO_holding (wpO_lift (wpAny_pure (wpO_bind (wpO_mono hc (fun v s' h' => wpO_pure h') fun _ _ h' => h'))))
theorem wpO_call_slot {T : String} {name : Str} {id : String} {b : Builtin} {self : Value} {rest : List Value} {Q : Value → Shared → Prop} (slot : Slot T name id) (ok : okId id = true) (hT : s.TypeIs self T)
    (entry : entryFor table id = some b) (args : argsOk id ⟨self :: rest, []⟩)
    (h : wpO (model prog w) A.in1 (b ⟨self :: rest, []⟩) (fun fin s' => ∃ v, fin = .done (.ret v) ∧ Q v s') E s) : wpO (model prog w) A (call (.builtin id) (self :: rest)) Q E s :=
  wpO_call (codeO_call_builtin ok slot.plain entry (slot.check _ _ _ _ _ _ _ _ hT args (wpO_mono h (fun fin s' h' => by obtain ⟨v, rfl, hq⟩ := h'; exact hq) fun _ _ x => x)))
theorem wpO_checkResize {B : Addr} {xs : List UInt8} {Q : Unit → Shared → Prop} (hB : s.heap.get? B = some (baObj xs)) (h : Q () s) : wpO (model prog w) A (Builtin.Bytes.checkResize (.ref B)) Q E s := by
  unfold Builtin.Bytes.checkResize
  refine wpO_bind (wpO_bind (wpO_exported ?_))
  show wpO _ _ (Builtin.Bytes.exportsOf (.ref B) >>= _) _ _ _
  refine wpO_lift ?_
  unfold Builtin.Bytes.exportsOf
  refine wpAny_bind (wpAny_load hB (wpAny_pure ?_))
  exact wpO_pure (wpO_if_false rfl (wpO_pure h))
theorem wpAny_write_ba {B : Addr} {xs ys : List UInt8} {f : Array UInt8 → Array UInt8} {h₀ : Heap} {L : Addr} {m : Str → Option Value} {news news' : List (Addr × Obj)} {Q : Unit → Shared → Prop} (F : Fr h₀ L s.heap m) (N : News h₀ L s.heap news)
    (U : Upd B (baObj xs) (baObj ys) news news') (hf : f xs.toArray = ys.toArray) (hz : ys.length ≤ sizeLine) (h : ∀ h', Fr h₀ L h' m → News h₀ L h' news' → Q () { s with heap := h' }) :
    wpAny (model prog w) A (Builtin.Bytes.write (.ref B) f) Q E s := by
  obtain ⟨pre, post, rfl, rfl, a, b⟩ := U.split
  have e : Obj.mapBytearray f (baObj xs) = baObj ys := by show (⟨_, _, .bytearray (f xs.toArray) 0, _⟩ : Obj) = _; rw [hf]
  obtain ⟨F', N'⟩ := news_upd F N a b e rfl
  have hB : s.heap.get? B = some (baObj xs) := (N (B, baObj xs) (by simp)).1
  show wpAny _ _ (updateBytearray B f) _ _ _
  unfold updateBytearray
  refine wpAny_bind (wpAny_load hB ?_)
  show wpAny _ _ (update B (Obj.mapBytearray f) >>= fun _ => lookBehind B) _ _ _
  refine wpAny_bind (wpAny_update hB ?_)
  refine wpAny_lookBehind (N' (B, baObj ys) (by simp)).1 ?_ (h _ F' N')
  show (if ys.toArray.size > sizeLine then some "bytearray:memory" else none) = none
  rw [if_neg (by rw [List.size_toArray]; omega)]
theorem selects_drop (ys : List UInt8) (k : Nat) : ∀ j, (ys.zipIdx j).filterMap (fun x => if Builtin.Bytes.selects 0 (k : Int) 1 x.2 then none else some x.1) = ys.drop (k - j) := by
  have hs : ∀ i : Nat, Builtin.Bytes.selects 0 (k : Int) 1 i = decide (i < k) := by
    intro i
    unfold Builtin.Bytes.selects
    rw [if_pos (by decide)]
    simp
  induction ys with
  | nil => intro j; simp
  | cons y ys ih =>
    intro j
    rw [List.zipIdx_cons, List.filterMap_cons]
    simp only [hs]
    by_cases hj : j < k
    · have e : k - j = (k - (j + 1)) + 1 := by omega
      simp only [hj, decide_true, if_true]
      rw [e, List.drop_succ_cons, ← ih (j + 1)]
      simp only [hs]
    · have e : k - j = 0 := by omega
      have e' : k - (j + 1) = 0 := by omega
      simp only [hj, decide_false, Bool.false_eq_true, if_false]
      have := ih (j + 1)
      simp only [hs] at this
      rw [this, e, e']; rfl
theorem wpO_delItem_ba {B a : Addr} {k : Int} {t : Tok} {xs : List UInt8} {h₀ : Heap} {L : Addr} {m : Str → Option Value} {news news' : List (Addr × Obj)} {Q : Unit → Shared → Prop} (F : Fr h₀ L s.heap m) (N : News h₀ L s.heap news)
    (U : Upd B (baObj xs) (baObj (xs.drop k.toNat)) news news') (ha : s.heap.IsSliceOf a .none (.int k t) .none) (h0 : 0 ≤ k) (hz : xs.length ≤ sizeLine)
    (h : ∀ h', Fr h₀ L h' m → News h₀ L h' news' → Q () { s with heap := h' }) : wpO (model prog w) A (delItem (.ref B) (.ref a)) Q E s := by
  have hB : s.heap.get? B = some (baObj xs) := by
    obtain ⟨pre, post, rfl, rfl, _, _⟩ := U.split
    exact (N (B, baObj xs) (by simp)).1
  have hT : s.TypeIs (.ref B) "bytearray" := ⟨_, hB, rfl⟩
  obtain ⟨o, ho, hc, hd⟩ := ha
  have hTa : s.TypeIs (.ref a) "slice" := ⟨o, ho, hc⟩
  unfold delItem
  refine wpO_holding (wpO_lift (wpAny_sequenceKey hT (by decide) ?_))
  refine wpO_bind (wpO_mono (Q := fun v s' => v = some Value.none ∧ Q () s') (E := E) ?_ (fun v s' hv => by obtain ⟨rfl, hq⟩ := hv; exact wpO_pure hq) fun _ _ e => e)
  refine (wpO_callSpecial_slot hT ba_slot_delitem (wpO_call_slot ba_slot_delitem (by decide +kernel) hT ba_entry_delitem (ba_args_delitem _ _) ?_))
  unfold Builtin.«bytearray.__delitem__»
  refine wpO_lift (wpAny_of_eq (a := (Value.ref B, [Value.ref a])) rfl ?_)
  dsimp only
  refine wpO_lift (m := Builtin.Bytes.subscript? (.ref a)) ?_
  unfold Builtin.Bytes.subscript?
  refine wpAny_bind (wpAny_specialOf hTa slice_no_index (wpAny_pure ?_))
  refine wpO_lift (wpAny_typeOf hTa ?_)
  refine wpO_if_false rfl ?_
  refine wpO_lift (m := Builtin.Bytes.sliceParts (.ref a)) ?_
  unfold Builtin.Bytes.sliceParts
  refine wpAny_bind (wpAny_field (x := .none) ho hd rfl ?_)
  refine wpAny_bind (wpAny_of_eq (a := Value.none) rfl ?_)
  refine wpAny_ite (KBy.ite_no (show ¬ ((Value.none == rawInt 0) = true) from Bool.false_ne_true) ?_)
  refine wpAny_bind (wpAny_field (x := .none) ho hd rfl ?_)
  refine wpAny_bind (wpAny_of_eq (a := Value.none) rfl ?_)
  refine wpAny_bind (wpAny_field (x := .int _ _) ho hd rfl ?_)
  kby_int
  refine wpAny_pure ?_
  refine wpO_lift (m := Builtin.Bytes.payload (.ref B)) ?_
  unfold Builtin.Bytes.payload Builtin.Bytes.payload?
  refine wpAny_bind (wpAny_bind (wpAny_load hB (wpAny_pure (wpAny_pure ?_))))
  refine wpO_lift (m := sliceIndices (rawPart none) (rawPart (some k)) (rawPart none) xs.toArray.size) ?_
  refine wpAny_of_eq (sliceIndices_raw none (some k) none xs.toArray.size (fun e => nomatch e)) ?_
  have hbd : sliceBounds none (some k) none xs.toArray.size = (0, ((min k.toNat xs.length : Nat) : Int), 1) := by
    rw [kms_bounds]
    unfold kms_lo kms_hi
    simp only [List.size_toArray]
    rw [if_neg (by omega)]; rfl
  rw [hbd]
  dsimp only
  refine wpO_lift (wpAny_rule ?_)
  have rest : ∀ b : Unit → Sem Fin, (∀ u, b u = (Builtin.Bytes.write (.ref B) (fun b => (b.toList.zipIdx.filterMap fun (x, i) => if Builtin.Bytes.selects 0 ((min k.toNat xs.length : Nat) : Int) 1 i then none else some x).toArray) >>= fun _ => ret .none)) →
      wpO (model prog w) A.in1 (b ()) (fun fin s' => ∃ v, fin = .done (.ret v) ∧ some v = some Value.none ∧ Q () s') E s := by
    intro b hb
    rw [hb]
    refine wpO_lift (wpAny_write_ba F N U ?_ ?_ fun h' F' N' => wpO_pure ⟨_, rfl, rfl, h h' F' N'⟩)
    · show (List.filterMap _ (xs.zipIdx)).toArray = _
      rw [selects_drop xs (min k.toNat xs.length) 0, Nat.sub_zero]
      by_cases hk : k.toNat ≤ xs.length
      · rw [Nat.min_eq_left hk]
      · rw [Nat.min_eq_right (by omega), List.drop_of_length_le (Nat.le_refl _), List.drop_of_length_le (by omega)]
    · rw [List.length_drop]; omega
  refine wpO_ite ?_
  split
  · exact wpO_bind (wpO_checkResize hB (rest (fun _ => _) fun _ => rfl))
  · exact rest (fun _ => _) fun _ => rfl
end
end Mine
namespace Mine
open PySem PySem.W PySem.Calls PyProof.Rows
theorem ba_entry_new : entryFor table "bytearray.__new__" = some Builtin.«list.__new__» :=
  entryFor_alias (id' := "list.__new__") (by kernel_rfl) (by decide +kernel) (by decide +kernel) (by kernel_rfl)
theorem ba_look_new : typeLookup (.type "bytearray") "__new__" = pure (some (.builtin "bytearray.__new__")) := by rw [typeLookup_type, builtinLookup_eq_fast]; kernel_rfl
theorem ba_called : TypeCalled "bytearray" "bytearray.__new__" "bytearray.__init__" :=
  ⟨by decide +kernel, by decide +kernel, ⟨_, _, ba_mro⟩, madeBy_type ba_mro ba_look_new (by decide +kernel), by decide +kernel, by rw [isSubtype_type]; kernel_rfl, ba_slot_init⟩
theorem ba_typeCall : checkTypeCall "bytearray" ⟨[], []⟩ = pure () := by kernel_rfl
theorem ba_newCall : checkBuiltinCall "bytearray.__new__" ⟨[.type "bytearray"], []⟩ = pure () := by kernel_rfl
theorem ba_plain_new : plainId "bytearray.__new__" = true := by decide +kernel
set_option maxRecDepth 1000000 in
set_option maxHeartbeats 4000000 in
theorem ba_owner_new : ("bytearray.__new__".splitOn ".__new__").headD "" = "bytearray" := by simp +decide [String.splitOn, String.splitOnAux]
theorem ba_noDict : typeHasDict (.type "bytearray") = false := by decide +kernel
theorem ba_own_release {B : Addr} {xs : List UInt8} {M : Model} {A : Around} {E : Value → Shared → Prop} {s : Shared} {Q : Bool → Shared → Prop} (hB : s.heap.get? B = some (baObj xs)) (h : Q false s) : wpAny M A (Builtin.Bytes.ownRelease (.ref B)) Q E s := by
  have hT : s.TypeIs (.ref B) "bytearray" := ⟨_, hB, rfl⟩
  unfold Builtin.Bytes.ownRelease Builtin.Bytes.slotIsOwn
  refine wpAny_bind (wpAny_bind (wpAny_specialOf hT ba_look_release ?_))
  dsimp only
  refine wpAny_ite ?_
  rw [if_neg (by decide +kernel)]
  have key : ∀ x : String, x = "bytearray" → wpAny M A (isInstance (.ref B) (.type x)) (fun a s' => wpAny M A (pure !a) Q E s') E s := fun x hx => by
    subst hx
    exact wpAny_isInstance hT ba_sub (wpAny_pure h)
  exact key _ (by decide +kernel)
section
variable {prog : Program} {w : World} {A : Around} {E : Value → Shared → Prop} {s : Shared}
theorem ba_code_new {Q₁ : Value → Shared → Prop} (h : Q₁ (.ref s.heap.objs.size) { s with heap := s.heap.push (baObj []) }) :
    codeAny (model prog w) A (.call (.builtin "bytearray.__new__") ⟨[.type "bytearray"], []⟩) (wants Q₁ E) s := by
  refine codeAny_of_tree ?_
  show wpAny _ A.in1 (do checkBuiltinCall "bytearray.__new__" ⟨[.type "bytearray"], []⟩; again (.builtin "bytearray.__new__" ⟨[.type "bytearray"], []⟩)) _ _ s
  refine wpAny_bind (wpAny_of_eq ba_newCall (wpAny_pure ⟨plainId_quiet ba_plain_new _, codeAny_builtin_stack ba_entry_new rfl fun p st => ?_⟩))
  rw [Around.under_plainId ba_plain_new _]
  have hsub := ba_sub
  have hown := ba_owner_new
  have hnd := ba_noDict
  obtain ⟨hp, g, d, tk, os⟩ := s
  simp only [hown]
  wp_walk
  exact h
theorem wpO_bytearray0 {h₀ : Heap} {L : Addr} {m : Str → Option Value} {news : List (Addr × Obj)} {Q : Value → Shared → Prop} (F : Fr h₀ L s.heap m) (N : News h₀ L s.heap news)
    (h : ∀ B h', Fr h₀ L h' m → News h₀ L h' ((B, baObj []) :: news) → (∀ p ∈ news, p.1 < B) → Q (.ref B) { s with heap := h' }) : wpO (model prog w) A (call (.type "bytearray") []) Q E s := by
  refine wpO_call (codeO_of_tree rfl ?_)
  show wpO _ _ (callAny (.type "bytearray") _) _ _ _
  refine wpO_pure ⟨Code.quiet_builtin _ (by decide +kernel), codeO_builtin (by decide +kernel) PySem.F.entry_type_call ?_⟩
  rw [Around.under_plain (weight_type_call_type "bytearray" [] []) rfl]
  unfold Builtin.«type.__call__»
  refine wpO_if_false rfl ?_
  dsimp only
  refine wpO_if_false ba_called.canCreate ?_
  refine wpO_lift (wpAny_of_eq ba_typeCall ?_)
  refine wpO_lift (wpAny_of_eq ba_mro ?_)
  refine wpO_if_false rfl ?_
  refine wpO_lift (wpAny_of_eq ba_called.made (wpO_lift (wpAny_pure ?_)))
  refine wpO_lift (wpAny_holding (wpAny_call (ba_code_new ?_)))
  have F' := F.push (baObj [])
  have N' := N.push F (baObj [])
  have hB := (N' _ (.head _)).1
  have hT : ({ s with heap := s.heap.push (baObj []) } : Shared).TypeIs (.ref s.heap.objs.size) "bytearray" := ⟨_, hB, rfl⟩
  refine wpO_lift (wpAny_isInstance hT ba_sub ?_)
  refine wpO_if_false rfl ?_
  refine wpO_bind (wpO_holding (wpO_mono (Q := fun v s' => v = some Value.none ∧ Q (.ref s.heap.objs.size) s') (E := E) ?_ (fun v s' hv => by obtain ⟨rfl, hq⟩ := hv; exact wpO_if_false rfl (wpO_pure hq)) fun _ _ e => e))
  refine wpO_callSpecial_slot hT ba_slot_init (wpO_call_slot (rest := []) ba_slot_init (by decide +kernel) hT ba_entry_init (ba_args_init _) ?_)
  unfold Builtin.«bytearray.__init__»
  refine wpO_lift (ba_own_release hB ?_)
  refine wpO_if_false rfl ?_
  refine wpO_lift (wpAny_of_eq (a := [none, none, none]) (by kernel_rfl) ?_)
  dsimp only
  refine wpO_lift (wpAny_of_eq (a := ()) rfl ?_)
  refine wpO_lift (wpAny_of_eq (a := ()) rfl ?_)
  refine wpO_bind (wpO_bind (wpO_exported ?_))
  show wpO _ _ (Builtin.Bytes.exportsOf (.ref _) >>= _) _ _ _
  refine wpO_lift ?_
  unfold Builtin.Bytes.exportsOf
  refine wpAny_bind (wpAny_load hB (wpAny_pure ?_))
  refine wpO_pure (wpO_if_false rfl ?_)
  refine wpO_lift (wpAny_write_ba (xs := []) (ys := []) F' N' (.head (fun p hp => Nat.ne_of_lt (Heap.lt_size (N p hp).1))) rfl (Nat.zero_le _) fun h' F₂ N₂ => ?_)
  refine wpO_lift (wpAny_of_eq (a := ()) rfl ?_)
  exact wpO_pure ⟨_, rfl, rfl, h _ _ F₂ N₂ fun p hp => Heap.lt_size (N p hp).1⟩
end
end Mine
namespace Mine
open PySem PySem.W PySem.Calls PyProof.Rows
theorem tbq_bytes {b : Array UInt8} {t : Tok} : Builtin.Bytes.takeBufferQuiet? "bytearray.__iadd__" (.bytes b t) 0 = pure (some (b, none)) := by
  unfold Builtin.Bytes.takeBufferQuiet? Builtin.Bytes.takeBuffer?
  rw [KBy.special_eq KBy.look_buffer, KBy.own_buffer]
  have e : Builtin.Bytes.buffer? "bytearray.__iadd__" (.bytes b t) ((0 : Int) == Builtin.Bytes.fullReadOnly) = pure (some b) := KBy.buffer_eq
  rw [e]
  kernel_rfl
section
variable {prog : Program} {w : World} {A : Around} {E : Value → Shared → Prop} {s : Shared} {h₀ : Heap} {L : Addr} {m : Str → Option Value} {news news' : List (Addr × Obj)}
theorem wpO_iadd_ba {B : Addr} {xs ys : List UInt8} {t : Tok} {Q : Value → Shared → Prop} (F : Fr h₀ L s.heap m) (N : News h₀ L s.heap news)
    (U : Upd B (baObj xs) (baObj (xs ++ ys)) news news') (hz : xs.length + ys.length ≤ sizeLine)
    (h : ∀ h', Fr h₀ L h' m → News h₀ L h' news' → Q (.ref B) { s with heap := h' }) : wpO (model prog w) A (inplaceOp .Add (.ref B) (.bytes ys.toArray t)) Q E s := by
  have hB : s.heap.get? B = some (baObj xs) := by
    obtain ⟨pre, post, rfl, rfl, _, _⟩ := U.split
    exact (N (B, baObj xs) (by simp)).1
  have hT : s.TypeIs (.ref B) "bytearray" := ⟨_, hB, rfl⟩
  have hTb : s.TypeIs (.bytes ys.toArray t) "bytes" := PySem.W.typeIs_bytes _ _ _
  unfold inplaceOp
  refine wpO_holding (wpO_lift (wpAny_typeOf hT (wpO_lift (wpAny_of_eq ba_noFill_iadd ?_))))
  refine wpO_if_false rfl ?_
  have one : wpAny (model prog w) A (binaryOp1 "add" (.ref B) (.bytes ys.toArray t)) (fun r s' => r = none ∧ s' = s) E s := by
    simp only [binaryOp1]
    refine wpAny_bind (wpAny_typeOf hT (wpAny_bind (wpAny_typeOf hTb (wpAny_bind (wpAny_of_eq ba_noFill_add ?_)))))
    rw [if_neg (by decide)]
    refine wpAny_bind (wpAny_of_eq KBy.noFill_bytes_add ?_)
    simp only [pure_bind, Bool.false_and, Bool.false_eq_true, if_false]
    exact wpAny_pure ⟨rfl, rfl⟩
  refine wpO_lift (wpAny_mono one (fun r s' hr => ?_) fun _ _ e => e)
  obtain ⟨rfl, rfl⟩ := hr
  refine wpO_lift (wpAny_of_eq ba_seq_iadd ?_)
  refine wpO_lift (wpAny_rule ?_)
  refine wpO_call_slot ba_slot_iadd (by decide +kernel) hT ba_entry_iadd (ba_args_iadd _ _) ?_
  unfold Builtin.«bytearray.__iadd__»
  refine wpO_lift (wpAny_of_eq (a := (Value.ref B, [Value.bytes ys.toArray t])) rfl ?_)
  dsimp only
  refine wpO_lift (wpAny_of_eq tbq_bytes ?_)
  dsimp only
  have tl : wpO (model prog w) A.in1 (Builtin.Bytes.payload (.ref B) >>= fun x => if Builtin.Bytes.tooLong (x.size + ys.toArray.size) = true then (do unsupported "bytearray.__iadd__:memory"; Builtin.Bytes.write (.ref B) (fun x => x ++ ys.toArray); ret (.ref B)) else (do Builtin.Bytes.write (.ref B) (fun x => x ++ ys.toArray); ret (.ref B)))
      (fun fin s' => ∃ v, fin = .done (.ret v) ∧ Q v s') E s' := by
    refine wpO_lift ?_
    unfold Builtin.Bytes.payload Builtin.Bytes.payload?
    refine wpAny_bind (wpAny_bind (wpAny_load hB (wpAny_pure (wpAny_pure ?_))))
    refine wpO_if_false (KBy.tooLong_not (by rw [List.size_toArray, List.size_toArray]; rw [sizeLine_eq] at hz; exact hz)) ?_
    exact wpO_lift (wpAny_write_ba F N U (by simp) (by rw [List.length_append]; exact hz) fun h' F' N' => wpO_pure ⟨_, rfl, h h' F' N'⟩)
  show wpO _ _ (if (!ys.toArray.isEmpty) = true then _ else _) _ _ _
  cases hy : ys.toArray.isEmpty
  · refine wpO_if_true rfl ?_
    refine wpO_if_false rfl ?_
    exact wpO_bind (wpO_checkResize hB tl)
  · refine wpO_if_false rfl ?_
    exact tl
end
end Mine
namespace Mine
open PySem PySem.W PySem.Calls PyProof.Rows
/-- a part of octets as Python cuts it -/
def cut (xs : List UInt8) (lo hi : Option Int) : List UInt8 := (xs.drop (lo.elim 0 (clipAt xs.length))).take (hi.elim xs.length (clipAt xs.length) - lo.elim 0 (clipAt xs.length))
theorem picked_cut (xs : List UInt8) (lo hi : Option Int) : KBy.picked xs.toArray lo hi = (cut xs lo hi).toArray := by
  rw [KBc.picked_eq]; simp [cut]
theorem cut_len (xs : List UInt8) (lo hi : Option Int) : (cut xs lo hi).length ≤ xs.length := by
  unfold cut; rw [List.length_take, List.length_drop]; omega
theorem cut_upto (xs : List UInt8) (k : Nat) : cut xs none (some (k : Int)) = xs.take k := by
  unfold cut
  simp only [Option.elim_none, Option.elim_some, List.drop_zero, Nat.sub_zero, clipAt_nat]
  by_cases h : k ≤ xs.length
  · rw [Nat.min_eq_left h]
  · rw [Nat.min_eq_right (by omega), List.take_of_length_le (Nat.le_refl _), List.take_of_length_le (by omega)]
theorem cut_from (xs : List UInt8) (k : Nat) : cut xs (some (k : Int)) none = xs.drop k := by
  unfold cut
  simp only [Option.elim_none, Option.elim_some, clipAt_nat]
  by_cases h : k ≤ xs.length
  · rw [Nat.min_eq_left h, List.take_of_length_le (by rw [List.length_drop]; omega)]
  · rw [Nat.min_eq_right (by omega), List.drop_of_length_le (Nat.le_refl _), List.drop_of_length_le (by omega)]; simp
theorem cut_run (xs : List UInt8) (i k : Nat) : cut xs (some (i : Int)) (some ((i + k : Nat) : Int)) = (xs.drop i).take k := by
  unfold cut
  simp only [Option.elim_some, clipAt_nat]
  by_cases h : i ≤ xs.length
  · rw [Nat.min_eq_left h]
    by_cases h2 : i + k ≤ xs.length
    · rw [Nat.min_eq_left h2, Nat.add_sub_cancel_left]
    · rw [Nat.min_eq_right (by omega), List.take_of_length_le (by rw [List.length_drop]; omega), List.take_of_length_le (by rw [List.length_drop]; omega)]
  · have e1 : min i xs.length = xs.length := by omega
    have e2 : min (i + k) xs.length = xs.length := by omega
    rw [e1, e2, List.drop_of_length_le (Nat.le_refl _), List.drop_of_length_le (by omega)]; simp
section
variable {prog : Program} {w : World} {A : Around} {E : Value → Shared → Prop} {s : Shared} {h₀ : Heap} {L : Addr} {m : Str → Option Value} {news : List (Addr × Obj)} {xs ys : List UInt8} {t u : Tok} {B : Addr} {value slice : Expr} {l r : Value} {lo hi : Option Int} {Q : Value → Shared → Prop}
theorem len_ba (hB : s.heap.get? B = some (baObj xs)) (hz : xs.length ≤ sizeLine) (h : Q (.int xs.length (s.toks + 1)) { s with toks := s.toks + 1 + 1 }) : wpAny (model prog w) A (call (.builtin "len") [.ref B]) Q E s := by
  have hT : s.TypeIs (.ref B) "bytearray" := ⟨_, hB, rfl⟩
  rw [sizeLine_eq] at hz
  refine call_function_entry kind_len plain_len entry_len (args_len1 _) ?_
  unfold Builtin.«len»
  refine wpAny_bind (m := oneArg "len" _) (wpAny_pure ?_)
  refine wpAny_bind (m := callSpecial? (.ref B) (Str.ofString "__len__")) (wpAny_callSpecial?_slot (name := Str.ofString "__len__") hT ba_slot_len (wpAny_call_entry ba_slot_len hT ba_entry_len ?_ (ba_args_len _)))
  unfold Builtin.«bytearray.__len__»
  refine wpAny_bind (wpAny_of_eq (a := (Value.ref B, [])) rfl ?_)
  dsimp only
  refine wpAny_bind ?_
  unfold Builtin.Bytes.payload Builtin.Bytes.payload?
  refine wpAny_bind (wpAny_bind (wpAny_load hB (wpAny_pure (wpAny_pure ?_))))
  refine wpAny_bind (wpAny_mkInt (wpAny_pure ⟨_, rfl, ?_⟩))
  refine wpAny_bind (wpAny_holding (wpAny_pure ?_))
  refine wpAny_bind (wpAny_letGo ?_)
  show wpAny _ _ (if ((xs.length : Nat) : Int) < 0 then _ else _) _ _ _
  rw [if_neg (by omega)]
  show wpAny _ _ (if ((xs.length : Nat) : Int) ≥ 2 ^ 63 then _ else _) _ _ _
  rw [if_neg (by omega)]
  exact wpAny_bind (wpAny_mkInt (wpAny_pure ⟨_, rfl, h⟩))
theorem ba_meets_slice (xs : List UInt8) (B a : Addr) {l u : Value} {lo hi : Option Int} (hl : IsPart l lo) (hu : IsPart u hi) (hz : xs.length ≤ sizeLine) :
    Meets (Builtin.«bytearray.__getitem__» ⟨[.ref B, .ref a], []⟩) (fun _ R s => s.heap.IsSliceOf a l u .none ∧ s.heap.get? B = some (baObj xs) ∧ R (.ok (.ret (.ref s.heap.objs.size))) { s with heap := s.heap.push (baObj (cut xs lo hi)) }) := by
  refine .of_wp fun prog w A R s hS => ?_
  obtain ⟨⟨o, ho, hc, hd⟩, hB, h⟩ := hS
  have hT : s.TypeIs (.ref a) "slice" := ⟨o, ho, hc⟩
  unfold Builtin.«bytearray.__getitem__»
  refine wpAny_bind (wpAny_of_eq (a := (Value.ref B, [Value.ref a])) rfl ?_)
  dsimp only
  show wpAny _ _ (Builtin.Bytes.subscript? (.ref a) >>= fun r => _) _ _ s
  refine wpAny_bind ?_
  unfold Builtin.Bytes.subscript?
  refine wpAny_bind (wpAny_specialOf hT slice_no_index (wpAny_pure ?_))
  refine wpAny_bind (wpAny_typeOf hT ?_)
  show wpAny _ _ (Builtin.Bytes.sliceParts (.ref a) >>= fun r => _) _ _ s
  refine wpAny_bind ?_
  unfold Builtin.Bytes.sliceParts
  refine wpAny_bind (wpAny_field (x := .none) ho hd rfl ?_)
  kby_none
  refine wpAny_ite (KBy.ite_no (show ¬ ((Value.none == rawInt 0) = true) from Bool.false_ne_true) ?_)
  refine wpAny_bind (wpAny_field (x := l) ho hd rfl ?_)
  have go : wpAny (model prog w) A.in1 (sliceIndices (rawPart lo) (rawPart hi) (rawPart none) xs.toArray.size) (fun r s' => r = sliceBounds lo hi none xs.toArray.size ∧ s' = s) (fun _ _ => False) s :=
    wpAny_of_eq (sliceIndices_raw lo hi none xs.toArray.size (fun e => nomatch e)) ⟨rfl, rfl⟩
  have e := picked_cut xs lo hi
  unfold KBy.picked at e
  have ez := cut_len xs lo hi
  cases hl <;> cases hu <;> (first
    | (kby_none; (refine wpAny_bind (wpAny_field (x := .none) ho hd rfl ?_)); kby_none)
    | (kby_none; (refine wpAny_bind (wpAny_field (x := .int _ _) ho hd rfl ?_)); kby_int)
    | (kby_int; (refine wpAny_bind (wpAny_field (x := .none) ho hd rfl ?_)); kby_none)
    | (kby_int; (refine wpAny_bind (wpAny_field (x := .int _ _) ho hd rfl ?_)); kby_int)) <;> refine wpAny_pure ?_
  all_goals
    refine wpAny_bind ?_
    unfold Builtin.Bytes.payload Builtin.Bytes.payload?
    refine wpAny_bind (wpAny_bind (wpAny_load hB (wpAny_pure (wpAny_pure ?_))))
    refine wpAny_bind (wpAny_mono go (fun r s' hr => ?_) fun _ _ e => e.elim)
    obtain ⟨hr1, hr2⟩ := hr
    subst hr1 hr2
    refine wpAny_bind ?_
    unfold Builtin.Bytes.newBytearray
    refine wpAny_newObj_type (wpAny_pure ⟨_, rfl, ?_⟩) ?_
    · rw [show Builtin.Bytes.sliced _ _ _ _ = _ from e]; exact h
    · show (Builtin.Bytes.sliced _ _ _ _).size ≤ sizeLine
      rw [show Builtin.Bytes.sliced _ _ _ _ = _ from e, List.size_toArray]
      exact Nat.le_trans ez hz
theorem ba_slice (F : Fr h₀ L s.heap m) (N : News h₀ L s.heap news) (hB : (B, baObj xs) ∈ news) (hl : IsPart l lo) (hu : IsPart r hi) (hz : xs.length ≤ sizeLine) (e : cut xs lo hi = ys)
    (h : ∀ D h', Fr h₀ L h' m → News h₀ L h' ((D, baObj ys) :: news) → (∀ p ∈ news, p.1 < D) → Q (.ref D) { s with heap := h' })
    (hs : subscripted slice false (.ref B) (.ref s.heap.objs.size) = operate [.ref s.heap.objs.size, .ref B] (getItem (.ref B) (.ref s.heap.objs.size)) := by with_unfolding_all rfl) :
    wpAny (model prog w) A (subscriptTail value slice (.ref B) (.ref s.heap.objs.size)) Q E { s with heap := s.heap.push { cls := .type "slice", data := .fields #[l, r, .none] } } := by
  subst e
  have F' := F.push { cls := .type "slice", data := .fields #[l, r, .none] }
  have N' := News.pushKeep (o := { cls := .type "slice", data := .fields #[l, r, .none] }) N
  have hT : ({ s with heap := s.heap.push { cls := .type "slice", data := .fields #[l, r, .none] } } : Shared).TypeIs (.ref B) "bytearray" := ⟨_, (N' _ hB).1, rfl⟩
  refine tail_any hT ba_slot_getitem.lookup (getItem_meets hT (by decide) ba_slot_getitem ba_entry_getitem (ba_args_getitem _ _) (ba_meets_slice xs B _ hl hu hz) ⟨Heap.IsSliceOf.new _ _ _ _, (N' _ hB).1, ?_⟩) hs
  exact h _ _ (F'.push _) (News.push F' N' _) fun p hp => Heap.lt_size (N' p hp).1
theorem by_slice (F : Fr h₀ L s.heap m) (N : News h₀ L s.heap news) (hl : IsPart l lo) (hu : IsPart r hi) (hz : xs.length ≤ sizeLine) (e : cut xs lo hi = ys)
    (h : ∀ h' t' k, Fr h₀ L h' m → News h₀ L h' news → Q (.bytes ys.toArray t') { s with heap := h', toks := k })
    (hs : subscripted slice false (.bytes xs.toArray t) (.ref s.heap.objs.size) = operate [.ref s.heap.objs.size, .bytes xs.toArray t] (getItem (.bytes xs.toArray t) (.ref s.heap.objs.size)) := by with_unfolding_all rfl) :
    wpAny (model prog w) A (subscriptTail value slice (.bytes xs.toArray t) (.ref s.heap.objs.size)) Q E { s with heap := s.heap.push { cls := .type "slice", data := .fields #[l, r, .none] } } := by
  subst e
  refine tail_any (PySem.W.typeIs_bytes _ _ _) FB.slot_bytes_getitem.lookup (getItem_meets (PySem.W.typeIs_bytes _ _ _) (by decide) FB.slot_bytes_getitem FB.entry_bytes_getitem (FB.args_bytes_getitem_2 _ _) (KBc.meets_slice2 xs.toArray t _ hl hu)
    ⟨Heap.IsSliceOf.new _ _ _ _, Nat.le_trans (KBc.size_picked_le _ lo hi) (by rw [List.size_toArray]; exact hz), fun t' k => ?_⟩) hs
  rw [picked_cut]
  exact h _ _ _ (F.push _) (News.pushKeep N _)
end
end Mine
namespace Mine
open PySem PySem.W PySem.Calls PyProof.Rows
theorem ba_no_bytes : typeLookup (.type "bytearray") "__bytes__" = pure none := by rw [typeLookup_type, builtinLookup_eq_fast]; kernel_rfl
theorem ba_no_index : typeLookup (.type "bytearray") "__index__" = pure none := by rw [typeLookup_type, builtinLookup_eq_fast]; kernel_rfl
section
variable {prog : Program} {w : World} {M : Model} {A : Around} {E : Value → Shared → Prop} {s : Shared} {xs ys : List UInt8} {t u : Tok} {B : Addr} {Q : Value → Shared → Prop}
theorem ba_own_buffer {Q : Bool → Shared → Prop} (hB : s.heap.get? B = some (baObj xs)) (h : Q true s) : wpAny M A (Builtin.Bytes.slotIsOwn (.ref B) "__buffer__") Q E s := by
  have hT : s.TypeIs (.ref B) "bytearray" := ⟨_, hB, rfl⟩
  unfold Builtin.Bytes.slotIsOwn
  refine wpAny_bind (wpAny_specialOf hT ba_look_buffer ?_)
  dsimp only
  refine wpAny_ite ?_
  rw [if_neg (by decide +kernel)]
  have key : ∀ x : String, x = "bytearray" → wpAny M A (isInstance (.ref B) (.type x)) Q E s := fun x hx => by
    subst hx
    exact wpAny_isInstance hT ba_sub h
  exact key _ (by decide +kernel)
theorem ba_buffer {id : String} {full : Bool} {Q : Option (Array UInt8) → Shared → Prop} (hB : s.heap.get? B = some (baObj xs)) (h : Q (some xs.toArray) s) : wpAny M A (Builtin.Bytes.buffer? id (.ref B) full) Q E s := by
  have hT : s.TypeIs (.ref B) "bytearray" := ⟨_, hB, rfl⟩
  unfold Builtin.Bytes.buffer?
  refine wpAny_bind (wpAny_specialOf hT ba_look_buffer ?_)
  dsimp only
  refine wpAny_bind (ba_own_buffer hB ?_)
  refine wpAny_ite (KBy.ite_no Bool.false_ne_true ?_)
  refine wpAny_bind (wpAny_specialOf hT ba_look_buffer ?_)
  refine wpAny_bind (ba_own_release hB ?_)
  refine wpAny_ite (KBy.ite_no Bool.false_ne_true ?_)
  refine wpAny_bind ?_
  unfold Builtin.Bytes.payload Builtin.Bytes.payload?
  exact wpAny_bind (wpAny_bind (wpAny_load hB (wpAny_pure (wpAny_pure (wpAny_pure h)))))
theorem bytes_of_ba (hB : s.heap.get? B = some (baObj xs)) (hz : xs.length ≤ sizeLine) (h : Q (.bytes xs.toArray s.toks) { s with toks := s.toks + 1 }) : wpAny (model prog w) A (call (.type "bytes") [.ref B]) Q E s := by
  have hT : s.TypeIs (.ref B) "bytearray" := ⟨_, hB, rfl⟩
  have hnew : codeAny (model prog w) A.in1 (.call (.builtin "bytes.__new__") ⟨[.type "bytes", .ref B], []⟩) (wants (fun obj s₁ => s₁.TypeIs obj "bytes" ∧ Q obj s₁) E) s := by
    refine codeAny_of_tree ?_
    show wpAny _ A.in1.in1 (do checkBuiltinCall "bytes.__new__" ⟨[.type "bytes", .ref B], []⟩; again (.builtin "bytes.__new__" ⟨[.type "bytes", .ref B], []⟩)) _ _ s
    refine wpAny_bind (wpAny_of_eq (F.bm_newCall _) (wpAny_pure ⟨plainId_quiet F.bm_plain _, codeAny_builtin F.bm_entry ?_⟩))
    rw [Around.under_plainId F.bm_plain _]
    unfold Builtin.«bytes.__new__»
    refine wpAny_bind (wpAny_of_eq (a := true) rfl ?_)
    refine bm_if_false rfl ?_
    refine wpAny_bind (wpAny_of_eq F.bm_sub ?_)
    refine bm_if_false rfl ?_
    refine wpAny_bind (wpAny_of_eq (F.bm_bind _) ?_)
    refine wpAny_bind (wpAny_of_eq (a := ()) rfl ?_)
    refine wpAny_bind (wpAny_of_eq (a := ()) rfl ?_)
    refine bm_if_false rfl ?_
    refine wpAny_bind (wpAny_specialOf hT ba_no_bytes ?_)
    refine wpAny_bind (wpAny_bind ?_)
    show wpAny _ _ (load B >>= _) _ _ _
    refine wpAny_bind (wpAny_load hB ?_)
    refine wpAny_pure (wpAny_pure ?_)
    refine bm_if_false rfl ?_
    refine wpAny_bind (wpAny_specialOf hT ba_no_index ?_)
    refine bm_if_true rfl ?_
    show wpAny _ _ (Builtin.Bytes.buffer? "bytes.__new__" (.ref B) true >>= _) _ _ _
    refine wpAny_bind (ba_buffer hB ?_)
    dsimp only
    refine wpAny_bind (wpAny_rule (wpAny_bind (wpAny_mkBytes ?_ (by rw [List.size_toArray]; exact hz))))
    show wpAny _ _ (if (Value.type "bytes" == Value.type "bytes") = true then _ else _) _ _ _
    refine bm_if_true (by decide) ?_
    exact wpAny_pure ⟨PySem.W.typeIs_bytes _ _ _, h⟩
  refine callType_codes F.bm_called (F.bm_typeCall _) F.entry_object_init hnew fun obj s₁ h₁ => ?_
  exact ⟨h₁.1, F.args_object_init_2 obj _, object_init_meets F.bm_called.init.lookup F.bm_called.made (by decide) prog w A.in1 _ s₁ ⟨h₁.1, rfl, h₁.2⟩⟩
theorem order_eq : ∀ a b : List UInt8, (Builtin.Bytes.order a b != .eq) = (a != b)
  | [], [] => rfl
  | [], _ :: _ => rfl
  | _ :: _, [] => rfl
  | x :: xs, y :: ys => by
    have ih := order_eq xs ys
    unfold Builtin.Bytes.order
    by_cases h1 : x < y
    · rw [if_pos h1]
      have hne : x ≠ y := fun e => by subst e; exact absurd h1 (UInt8.lt_irrefl _)
      rw [show (x :: xs != y :: ys) = true from by rw [bne_iff_ne]; intro e; exact hne (List.cons.inj e).1]; rfl
    · rw [if_neg h1]
      by_cases h2 : x > y
      · rw [if_pos h2]
        have hne : x ≠ y := fun e => by subst e; exact absurd h2 (UInt8.lt_irrefl _)
        rw [show (x :: xs != y :: ys) = true from by rw [bne_iff_ne]; intro e; exact hne (List.cons.inj e).1]; rfl
      · rw [if_neg h2]
        have e : x = y := UInt8.le_antisymm (UInt8.not_lt.mp h2) (UInt8.not_lt.mp h1)
        subst e
        rw [ih]
        simp [bne]
theorem ne_ba_bytes (hB : s.heap.get? B = some (baObj xs)) (hu : A.units < cLine) (h : Q (.bool (xs != ys)) s) : wpAny (model prog w) A (compareOp .NotEq (.ref B) (.bytes ys.toArray t)) Q E s := by
  have hT : s.TypeIs (.ref B) "bytearray" := ⟨_, hB, rfl⟩
  have hTb : s.TypeIs (.bytes ys.toArray t) "bytes" := PySem.W.typeIs_bytes _ _ _
  show wpAny _ _ (richCompare .NotEq (.ref B) (.bytes ys.toArray t)) _ _ _
  rcases hi : cmpInfo .NotEq with ⟨sym, f, r⟩
  have hsl := ba_slot_ne
  rw [hi] at hsl
  simp only [richCompare, hi, hT.oneThing_none]
  refine wpAny_holding (wpAny_bind (wpAny_cRoomFor hu ?_))
  refine wpAny_bind (wpAny_typeOf hT (wpAny_bind (wpAny_typeOf hTb ?_)))
  rw [if_pos (by decide)]
  refine wpAny_bind (wpAny_of_eq (show isSubtype (.type "bytes") (.type "bytearray") = pure false by rw [isSubtype_type]; kernel_rfl) ?_)
  simp only [Bool.false_eq_true, if_false]
  refine wpAny_bind (wpAny_tryCompare_slot hT hsl (wpAny_call_entry hsl hT ba_entry_ne ?_ (ba_args_ne _ _)))
  show wpAny _ _ (Builtin.«bytearray.__ne__» ⟨[.ref B, .bytes ys.toArray t], []⟩) _ _ _
  have e : Builtin.«bytearray.__ne__» ⟨[.ref B, .bytes ys.toArray t], []⟩ = (do
      let some a ← Builtin.Bytes.buffer? "bytearray.__ne__" (.ref B) | unsupported "internal:bytearray.compare"
      let some b ← Builtin.Bytes.bufferQuiet? "bytearray.__ne__" (.bytes ys.toArray t) | do rule "bytearray.__ne__.declined"; ret .notImplemented
      ret (.bool (Builtin.Bytes.holds "__ne__" (Builtin.Bytes.order a.toList b.toList)))) := by rfl
  rw [e]
  refine wpAny_bind (ba_buffer hB ?_)
  dsimp only
  refine wpAny_bind (wpAny_of_eq KBy.quiet_eq ?_)
  dsimp only
  refine wpAny_pure ⟨_, rfl, (fun e => nomatch e), wpAny_pure ?_⟩
  have e2 : Builtin.Bytes.holds "__ne__" (Builtin.Bytes.order xs.toArray.toList ys.toArray.toList) = (xs != ys) := order_eq xs ys
  rw [e2]; exact h
end
end Mine
namespace Mine
open PySem PySem.W PySem.Calls PyProof.Rows

/-- the caller's context alone, in which no decoder stands -/
abbrev callerG : Ctx := ⟨.builtin "claim.caller" {}, none, none, [], none⟩
theorem callerG_ok : OkG callerG := ⟨by decide +kernel, fun x hx => nomatch hx⟩

theorem wp_callerO {M : Model} {t : Sem Fin} {R : Result → Shared → Prop} {s : Shared}
    (h : wpO M callerA t (fun fin s' => ∃ f, fin = .done f ∧ R (.ok f) s') (fun e s' => R (.error e) s') s) (p : Pos) :
    Sem.wp M callerG t (Sem.finPost M callerG R) (fun e _ s' => R (.error e) s') p s :=
  Sem.wp_mono M callerG t (fun fin p' s' h' => by obtain ⟨f, rfl, hf⟩ := h'; exact hf) (fun _ _ _ h' => h') p s (h callerG p caller_in callerG_ok)

theorem callFromO {c : ClaimW} {tree : List Value → Sem Fin} {w : World} {s : Shared} {free : Addr → Prop} {gens : Prop} {kept : Heap → Prop} (hz : s.asleep) (hgens : s.gens = #[])
    (spec : ∀ args, c.pre args = true → WData.layableAll args = true → ∀ ord : List DictEntry → List DictEntry, (∀ l, (ord l).Perm l) →
      ∃ vs s₁, layAllW c.records (classAt s.heap) w.params ord args s = some (vs, s₁) ∧
        wpO (model c.prog w) callerA (tree vs) (fun fin s' => ∃ f, fin = .done f ∧ (c.Ends s args vs s₁ (.ok f) s' ∧ s'.os = s.os ∧ AllBare s'.gens ∧ kept s'.heap))
          (fun e s' => c.Ends s args vs s₁ (.error e) s' ∧ s'.os = s.os ∧ AllBare s'.gens ∧ kept s'.heap) s₁) :
    c.CallFrom (fun vs => ⟨tree vs, .builtin "claim.caller" {}, default, []⟩) w free gens kept s := by
  intro args hpre hlay ord hord
  obtain ⟨vs, s₁, hlaid, hc⟩ := spec args hpre hlay ord hord
  have hal := layAllW_rest _ _ _ hlaid
  have hwp := wp_callerO (R := fun r s' => (c.Ends s args vs s₁ r s' ∧ s'.os = s.os ∧ kept s'.heap) ∧ leftWithCleanup s'.gens = false)
    (wpO_mono hc (fun fin s' q => by
      obtain ⟨f, e, q1, q2, q3, q4⟩ := q
      exact ⟨f, e, ⟨q1, q2, q4⟩, leftWithCleanup_false_of_bare q3⟩) fun e s' q => ⟨⟨q.1, q.2.1, q.2.2.2⟩, leftWithCleanup_false_of_bare q.2.2.1⟩) default
  obtain ⟨n, r, sa, sb, hs, hn, hfo, hends, hos, hkp⟩ := wp_halts_full (M := model c.prog w) (Shared.asleep_of_life hal.2.2.2 hz) hwp
  obtain ⟨eh, _, _, eo, _⟩ := Shared.forget_eq hfo
  have hlife : sb.heap.life = s.heap.life := (runN_life _ _ _ hn).trans hal.2.2.2
  refine ⟨vs, s₁, hlaid, n, _, sb, hs, ?_, (fun _ i x hx => by rw [hgens] at hx; simp at hx), eh ▸ hkp, by rw [hlife], Shared.rest_eq (eo.trans hos)⟩
  rcases ClaimW.Ends.congr eh hends with ⟨v, rfl, d1, d2, d3, d4, d5⟩ | ⟨e, ob, cls, rfl, d1, d2, d3, d4, d5⟩
  · exact .inl ⟨v, rfl, d1, d2, d3, fun b o y _ => d4 b o y, d5⟩
  · exact .inr ⟨e, ob, cls, rfl, d1, d2, d3, d4, fun b o y _ => d5 b o y⟩
end Mine

namespace Mine
open PySem PySem.W PySem.Calls PyProof.Rows
abbrev WalkQ (q : Program) (loose : List Str) (XP : (Str → Option Value) → Heap → Prop) (YP : World → Heap → Prop) (r : RowW) (d : DefRec) (kwd : List (Str × Expr)) : Prop :=
  ∀ (w : World) (s₀ s₁ : Shared) (mg mb : Str → Option Value), Ground q loose r.records XP w s₀ mg mb s₁.heap → YP w s₁.heap → ∀ (a : Addr) (o : Obj) (pm cd doc dV kV : Value), s₁.heap.get? a = some o →
    o.data = .func { docDef d.name d.params d.body d.scope pm cd doc with defaults := dV, kwdefaults := kV } → s₁.heap.CodeRec cd d.name → Dflts mg s₁.heap d.params kwd dV kV → mg d.name = some (.ref a) → s₁.gens = #[] →
    ∀ (args : List WData) (vals : List Value) (as : List Addr), r.claim.pre args = true → WData.layableAll args = true → ReadsAllW r.records (classAt s₀.heap) s₁.heap vals args as → WellAll w.params s₁.heap vals args → (∀ a ∈ as, (a == sysModules) = false) →
      wpO (model r.prog w) callerA (PySem.call (.ref a) vals) (fun v s' => GoodWG r.claim (classAt s₀.heap) (ExcName.means s₀.heap) args s₁ (.ok (.ret v)) s')
        (fun e s' => GoodWG r.claim (classAt s₀.heap) (ExcName.means s₀.heap) args s₁ (.error e) s') s₁

theorem openO {r : RowW} {q : Program} {loose defs kps : List Str} {writes : Bool} {Xt : Shared → Bool} {XP : (Str → Option Value) → Heap → Prop} {α : Type} {Yf : Shared → α} {Ya : World → α} {YP : World → Heap → Prop} {N : Nat}
    (left : LeftO r.prog q loose Xt Yf Ya N) (hY : ∀ w s, Yf s = Ya w → YP w s.heap) (hYk : ∀ w h h', YP w h → (∀ b o, h.get? b = some o → h'.get? b = some o) → YP w h') (hX : ∀ s, Xt s = true → XP (s.heap.nsMap mainGlobals) s.heap) (hXk : ∀ mg h h', XP mg h → (∀ b o, h.get? b = some o → h'.get? b = some o) → XP mg h')
    (hRf : ∀ s, Xt s = true → RecFacts r.records s.heap) (hwr : (!writes || r.records.isEmpty) = true) (ok : (chainsOk q && opensWell r.prog && (frees r && r.within.isEmpty)) = true) (hb : r.prog.bare) (hw : r.promised)
    (pin : ∀ w s, s.heap.isNs mainGlobals = true → Ground q loose [] XP w s (s.heap.nsMap mainGlobals) (s.heap.nsMap builtinsNs) s.heap → ∀ n ∈ defs, isTheDefsW r.prog s.heap n)
    (call : ∀ (w : World) (s₀ s₁ : Shared) (mg mb : Str → Option Value), Ground q loose r.records XP w s₀ mg mb s₁.heap → YP w s₁.heap → ∀ (args : List WData) (vs : List Value) (as : List Addr),
      r.claim.pre args = true → WData.layableAll args = true → Laid r.records w s₀ s₁ args vs as → sysModules < s₀.heap.objs.size → ∃ f, mg r.name = some f ∧
        wpO (model r.prog w) callerA (PySem.call f vs) (fun v s' => GoodWG r.claim (classAt s₀.heap) (ExcName.means s₀.heap) args s₁ (.ok (.ret v)) s')
          (fun e s' => GoodWG r.claim (classAt s₀.heap) (ExcName.means s₀.heap) args s₁ (.error e) s') s₁) :
    r.claim.HoldsOpenBy (fun vs => ⟨do match ← nsGet mainNs r.name with
      | some f => do ret (← PySem.call f vs)
      | none => unsupported "claim.caller:no-such-global", .builtin "claim.caller" {}, default, []⟩) defs kps writes := by
  simp only [Bool.and_eq_true] at ok
  obtain ⟨⟨hch, o1⟩, k5, k6⟩ := ok
  obtain ⟨hsame, hu, ha, hap, hm⟩ := frees_parts k5
  have hi := ident_freeW hu ha hap
  have hwi : r.claim.within = [] := List.isEmpty_iff.mp k6
  refine ⟨⟨hb, o1, by show r.makers.map _ = []; rw [hm]; rfl⟩, hw.witness, fun w => ?_⟩
  have LB := left.behind (XP := fun mg h => XP mg h ∧ RecFacts r.records h) (fun s hs => ⟨hX s hs, hRf s hs⟩) hch w
  refine ⟨LB.1, fun s' hs' => ?_⟩
  obtain ⟨s₀, hf, hg0, s, hT, hz, hgens, hg, G, y⟩ := LB.2 s' hs'
  have RF := G.X.2
  have G0 : Ground q loose [] XP w s (s.heap.nsMap mainGlobals) (s.heap.nsMap builtinsNs) s.heap := { G with X := G.X.1 }
  have hgens : s.gens = #[] := Array.eq_empty_of_size_eq_zero (beq_iff_eq.mp hgens)
  have GR : Ground q loose r.records XP w s _ _ s.heap := RF.ground G0
  refine ⟨s₀, hf, hg0, s, hT, pin w s hg G0, RF.1, RF.2.1, callFromO (c := r.claim) hz hgens fun args hpre hlay ord hord => ?_⟩
  obtain ⟨⟨vs, s₁⟩, hlaid⟩ := Option.isSome_iff_exists.mp (layAllW_isSome (P := w.params) (ord := ord) GR.has args r.args s (pre_splitW hpre).1)
  have keeps := layAllW_keeps _ _ _ hlaid
  have hal := layAllW_rest _ _ _ hlaid
  obtain ⟨as, hrd, hin, hold⟩ := reads_layAllW hord _ _ _ hlaid hlay s₁.heap (fun _ _ e => e)
  have L : Laid r.records w s s₁ args vs as := ⟨⟨ord, hord, hlaid⟩, hrd, hin, hold, keeps, hal.1.trans hgens, hal.2.2.1⟩
  have G₁ := GR.keeps hXk keeps
  obtain ⟨f, hmf, h⟩ := call w s s₁ _ _ G₁ (hYk _ _ _ (hY w s y) keeps) args vs as hpre hlay L GR.low
  have fin : ∀ (x : Result) (s' : Shared), GoodWG r.claim (classAt s.heap) (ExcName.means s.heap) args s₁ x s' → r.claim.Ends s args vs s₁ x s' ∧ s'.os = s.os ∧ AllBare s'.gens ∧
      (writes = true → namesKept r.claim.prog kps s.heap s'.heap ∧ ∀ x ∈ r.claim.records, ∀ a, classAt s.heap x.1 = some a → recordClass s'.heap a x.1 (x.2.map (·.1)) = true) := fun x s' g =>
    have z := g.laid (c := r.claim) hsame hwi hi L
    ⟨z.1, z.2.1, z.2.2, fun q => ⟨namesKept_of hT hg kps keeps g.2.1.old, noTable hwr q⟩⟩
  refine ⟨vs, s₁, hlaid, wpO_lift (wpAny_nsGet G₁.T.g ?_)⟩
  rw [hmf]
  exact wpO_bind (wpO_mono h (fun v s' g => wpO_pure ⟨_, rfl, fin _ _ g⟩) fun e s' g => fin _ _ g)
end Mine

namespace MineHead.PySem.W
open _root_.PySem _root_.PySem.W _root_.PySem.Calls PyProof.Rows Mine
/-- the library's head, asking wpO of the walk -/
theorem holds_open {r : OpenRow} {q : Program} {loose : List Str} {Xt : Shared → Bool} {XP : (Str → Option Value) → Heap → Prop} {α : Type} {Yf : Shared → α} {Ya : World → α} {YP : World → Heap → Prop} {d : DefRec} {kwd : List (Str × Expr)} {N : Nat}
    (left : LeftO r.prog q loose Xt Yf Ya N) (hY : ∀ w s, Yf s = Ya w → YP w s.heap) (hYk : ∀ w h h', YP w h → (∀ b o, h.get? b = some o → h'.get? b = some o) → YP w h')
    (hX : ∀ s, Xt s = true → XP (s.heap.nsMap mainGlobals) s.heap) (hXk : ∀ mg h h', XP mg h → (∀ b o, h.get? b = some o → h'.get? b = some o) → XP mg h')
    (hdef : defOf q r.name = some (d, kwd)) (hp : r.prog.theDef r.name = some (d.params, d.body, d.scope)) (hk : kwWritten? d.params.kwonlyargs d.params.kw_defaults = some kwd) (hRf : ∀ s, Xt s = true → RecFacts r.records s.heap) (hwr : (!r.writes || r.records.isEmpty) = true)
    (k1 : r.wellSaid = true) (ok : (chainsOk q && opensWell r.prog && (frees r.toRowW && r.within.isEmpty)) = true) (hb : r.prog.bare) (hw : r.toRowW.promised)
    (call : WalkQ q loose XP YP r.toRowW d kwd) : r.Holds := by
  refine ⟨k1, hw, openO (r := r.toRowW) left hY hYk hX hXk hRf hwr ok hb hw (fun w s hg G n hn => ?_) fun w s₀ s₁ mg mb G Y args vs as hpre hlay L low => ?_⟩
  · have e : n = r.name := by split at hn <;> simp_all
    rw [e]
    exact pinned_of_view hg G hdef hp hk
  · obtain ⟨a, o, pm, cd, doc, dV, kV, h1, h2, h3, h4, h5⟩ := G.fn hdef
    exact ⟨.ref a, h1, call w s₀ s₁ mg mb G Y a o pm cd doc dV kV h2 h3 h4 h5 (defOf_name hdef ▸ h1) L.gens args vs as hpre hlay L.reads L.well (L.low low)⟩
end MineHead.PySem.W
namespace MineHead
open PySem PySem.W PySem.Calls PyProof.Rows
open_top hd for PySem.Challenge.rw_ag6004_01
end MineHead
namespace Mine
open PySem PySem.W PySem.Calls PyProof.Rows
/-! contexts up to a depth and a number of units -/
abbrev AA (d u : Nat) (env : Env) (outer : List Env) : Around := { handled := none, depth := d, frames := some (env :: outer), guards := none, units := u }
structure Upto (d u : Nat) (env : Env) (outer : List Env) (A : Around) : Prop where
  handled : A.handled = none
  depth : A.depth ≤ d
  frames : A.frames = some (env :: outer)
  units : A.units ≤ u
theorem Upto.in {d u : Nat} {env : Env} {outer : List Env} {A : Around} (U : Upto d u env outer A) {Γ : Ctx} (h : Γ.In A) : Γ.In (AA d u env outer) :=
  ⟨h.1.trans U.handled, Nat.le_trans h.2.1 U.depth, fun l hl => h.2.2.1 l (U.frames.trans hl), fun g hg => (nomatch hg), Nat.le_trans h.2.2.2.2 U.units⟩
theorem wpAny_upto {α : Type} {M : Model} {d u : Nat} {env : Env} {outer : List Env} {A : Around} {t : Sem α} {Q : α → Shared → Prop} {E : Value → Shared → Prop} {s : Shared} (U : Upto d u env outer A) (h : wpAny M (AA d u env outer) t Q E s) : wpAny M A t Q E s :=
  fun Γ p hΓ => h Γ p (U.in hΓ)
theorem wpO_upto {α : Type} {M : Model} {d u : Nat} {env : Env} {outer : List Env} {A : Around} {t : Sem α} {Q : α → Shared → Prop} {E : Value → Shared → Prop} {s : Shared} (U : Upto d u env outer A) (h : wpO M (AA d u env outer) t Q E s) : wpO M A t Q E s :=
  fun Γ p hΓ hO => h Γ p (U.in hΓ) hO

/-- texts of octets -/
def BAre : List Value → List (List UInt8) → Prop
  | [], [] => True
  | v :: vs, b :: bs => (∃ t, v = .bytes b.toArray t) ∧ BAre vs bs
  | _, _ => False
theorem BAre.length : ∀ {vs : List Value} {bs : List (List UInt8)}, BAre vs bs → vs.length = bs.length
  | [], [], _ => rfl
  | _ :: _, _ :: _, h => by rw [List.length_cons, List.length_cons, BAre.length h.2]
  | [], _ :: _, h => h.elim
  | _ :: _, [], h => h.elim
theorem BAre.append : ∀ {vs : List Value} {bs : List (List UInt8)} {ws : List Value} {cs : List (List UInt8)}, BAre vs bs → BAre ws cs → BAre (vs ++ ws) (bs ++ cs)
  | [], [], _, _, _, k => k
  | _ :: _, _ :: _, _, _, h, k => ⟨h.1, BAre.append h.2 k⟩
  | [], _ :: _, _, _, h, _ => h.elim
  | _ :: _, [], _, _, h, _ => h.elim

/-- what a file of parts hands in for a size -/
def given (ps : List (List UInt8)) (k : Nat) : List UInt8 × List (List UInt8) := match ps with
  | [] => ([], [])
  | p :: r => if k < p.length then (p.take k, p.drop k :: r) else (p, r)

theorem Only.news {h h' : Heap} {h₀ : Heap} {L : Addr} {adr : List Addr} {news : List (Addr × Obj)} (O : Only adr h h') (N : News h₀ L h news) (hn : ∀ p ∈ news, p.1 ∉ adr) : News h₀ L h' news :=
  fun p hp => ⟨O _ _ (hn p hp) (N p hp).1, (N p hp).2⟩
end Mine
namespace Mine
open PySem PySem.W PySem.Calls PyProof.Rows
section
variable {prog : Program} {w : World} {A : Around} {E : Value → Shared → Prop} {s : Shared} {Q : Value → Shared → Prop} {h₀ : Heap} {L : Addr} {m : Str → Option Value} {news news' : List (Addr × Obj)}
theorem eq_cons_nil {W D : Addr} {x : Value} {xs : List Value} {n n2 : Nat} (N : News h₀ L s.heap news) (hW : (W, listOf (x :: xs).toArray n) ∈ news) (hD : (D, listOf #[] n2) ∈ news) (hu : A.units < cLine) (h : Q (.bool false) s) :
    wpAny (model prog w) A (compareOp .Eq (.ref W) (.ref D)) Q E s :=
  richCompare_meets_room (op := .Eq) ⟨_, (N _ hW).1, rfl⟩ ⟨_, (N _ hD).1, rfl⟩ PySem.F.slot_list_eq PySem.F.entry_list_eq (PySem.F.args_list_eq_2 _ _)
    (PySem.AutoSeq1.list___eq___list_list_0 W (x :: xs).toArray n D #[] n2 (by simp)) ⟨(N _ hW).1, (N _ hD).1, (fun e => nomatch e), h⟩ hu
theorem eq_nil_nil {W D : Addr} {n n2 : Nat} (N : News h₀ L s.heap news) (hW : (W, listOf #[] n) ∈ news) (hD : (D, listOf #[] n2) ∈ news) (hu : A.units + 64 < cLine) (h : Q (.bool true) s) :
    wpAny (model prog w) A (compareOp .Eq (.ref W) (.ref D)) Q E s :=
  ke_eq_ints (xs := []) (ys := []) (ns := []) (ms := []) ⟨_, (N _ hW).1, rfl, n, rfl⟩ ⟨_, (N _ hD).1, rfl, n2, rfl⟩ IntsAre.nil IntsAre.nil hu h
theorem len_by {xs : List UInt8} {t : Tok} (hz : xs.length ≤ sizeLine) (h : Q (.int (xs.length : Int) (s.toks + 1)) { s with toks := s.toks + 1 + 1 }) : wpAny (model prog w) A (call (.builtin "len") [.bytes xs.toArray t]) Q E s := by
  rw [sizeLine_eq] at hz
  exact len_bytes (by rw [List.size_toArray]; omega) (by rw [List.size_toArray]; exact h)
theorem truthy_by {xs : List UInt8} {t : Tok} {Q : Bool → Shared → Prop} (hz : xs.length ≤ sizeLine) (h : Q (!xs.isEmpty) { s with toks := s.toks + 1 + 1 }) : wpAny (model prog w) A (truthy (.bytes xs.toArray t)) Q E s := by
  rw [sizeLine_eq] at hz
  refine truthy_bytes (by rw [List.size_toArray]; omega) ?_
  have e : ((xs.toArray.size : Int) != 0) = !xs.isEmpty := by cases xs <;> simp <;> omega
  rw [e]; exact h
theorem add_by {xs ys : List UInt8} {t u : Tok} (hz : xs.length + ys.length ≤ sizeLine) (h : ∀ t' k, Q (.bytes (xs ++ ys).toArray t') { s with toks := k }) : wpAny (model prog w) A (binaryOp .Add (.bytes xs.toArray t) (.bytes ys.toArray u)) Q E s := by
  rw [sizeLine_eq] at hz
  exact KBy.add_bytes (by rw [List.size_toArray, List.size_toArray]; exact hz) fun t' k => by
    have := h t' k
    rwa [show (xs ++ ys).toArray = xs.toArray ++ ys.toArray from by simp] at this
theorem eq_by {xs ys : List UInt8} {t u : Tok} (h : Q (.bool (xs == ys)) s) : wpAny (model prog w) A (compareOp .Eq (.bytes xs.toArray t) (.bytes ys.toArray u)) Q E s := eq_bytes h
theorem ne_by {xs ys : List UInt8} {t u : Tok} (h : Q (.bool (xs != ys)) s) : wpAny (model prog w) A (compareOp .NotEq (.bytes xs.toArray t) (.bytes ys.toArray u)) Q E s := ne_bytes h
end
theorem cut_run' (xs : List UInt8) (i k : Nat) : cut xs (some (i : Int)) (some ((i : Int) + (k : Int))) = (xs.drop i).take k := cut_run xs i k
theorem fresh_of {D : Addr} {h g : Heap} {l : List Addr} (hg : g.get? D = none) (hO : Only l h g) (hd : D ∉ l) : h.get? D = none := by
  cases e : h.get? D with
  | none => rfl
  | some o => rw [hO D o hd e] at hg; cases hg
theorem given_nil (k : Nat) : given [] k = ([], []) := rfl
theorem given_lt {b : List UInt8} {ps : List (List UInt8)} {k : Nat} (h : (k : Int) < b.length) : given (b :: ps) k = (b.take k, b.drop k :: ps) := by
  exact if_pos (by omega)
theorem given_ge {b : List UInt8} {ps : List (List UInt8)} {k : Nat} (h : ¬ (k : Int) < b.length) : given (b :: ps) k = (b, ps) := by
  exact if_neg (by omega)
def Stop (p : Prop) : Prop := p
theorem stop_of {p : Prop} (h : Stop p) : p := h
theorem go_of {p : Prop} (h : p) : Stop p := h
theorem max_nat {prog : Program} {w : World} {A : Around} {E : Value → Shared → Prop} {s : Shared} {Q : Value → Shared → Prop} {a b : Nat} {t u : Tok} {h₀ : Heap} {L : Addr} {m : Str → Option Value} {news : List (Addr × Obj)}
    (hh : A.handled = none) (F : Fr h₀ L s.heap m) (N : News h₀ L s.heap news) (h : ∀ h' tk t', Fr h₀ L h' m → News h₀ L h' news → Q (.int ((max a b : Nat) : Int) t') { s with heap := h', toks := tk }) :
    wpAny (model prog w) A (call (.builtin "max") [.int (a : Int) t, .int (b : Int) u]) Q E s :=
  max_two_ints hh fun h' tk hk => by
    split
    · rename_i hb
      have := h h' tk u (F.grownK hk) (N.grown hk)
      rwa [Nat.max_eq_right (by omega)] at this
    · rename_i hb
      have := h h' tk t (F.grownK hk) (N.grown hk)
      rwa [Nat.max_eq_left (by omega)] at this
theorem while_of {prog : Program} {w : World} {A : Around} {s : Shared} {R : Result → Shared → Prop} {test : Expr} {body orelse : List Stmt} {env : Env} {h₀ : Heap} {L : Addr} {m0 : Str → Option Value} (_F : Fr h₀ L s.heap m0) (I : (Str → Option Value) → Nat → Shared → Prop)
    (turn : ∀ n s, I m0 n s →
      wpAny (model prog w) A (isTrue test env (eval test env)) (fun b s₂ =>
        if b then wpAny (model prog w) A (execs body env) (fun f s₃ => match f with
            | .next | .cont => Stop (∃ m, m < n ∧ I m0 m s₃)
            | .brk => R (.ok .next) s₃
            | .ret v => R (.ok (.ret v)) s₃) (notedBy (model prog w) A env fun e s' => R (.error e) s') s₂
        else wpAny (model prog w) A (execs orelse env) (fun f s₃ => R (.ok f) s₃) (notedBy (model prog w) A env fun e s' => R (.error e) s') s₂)
        (notedBy (model prog w) A env fun e s' => R (.error e) s') s)
    (n : Nat) (h : I m0 n s) : codeAny (model prog w) A (.whileLoop test body orelse env) R s := codeAny_whileLoop (I m0) turn n h
section
variable {prog : Program} {w : World} {A : Around} {E : Value → Shared → Prop} {s : Shared} {Q : Value → Shared → Prop}
theorem eq_by_cn {x : UInt8} {xs : List UInt8} {t u : Tok} (h : Q (.bool false) s) : wpAny (model prog w) A (compareOp .Eq (.bytes (x :: xs).toArray t) (.bytes #[] u)) Q E s := eq_by (ys := []) h
theorem eq_by_nn {t u : Tok} (h : Q (.bool true) s) : wpAny (model prog w) A (compareOp .Eq (.bytes (List.toArray ([] : List UInt8)) t) (.bytes #[] u)) Q E s := eq_by (xs := []) (ys := []) h
end
theorem fresh2 {h g hh : Heap} {S W SA D L' : Addr} {m' : Str → Option Value} {oS oA : Obj} (hO : Only [S, W, SA] h g) (F : Fr g L' hh m') (hS : hh.get? S = some oS) (hA : hh.get? SA = some oA) (hD : hh.get? D = none) : D = W ∨ h.get? D = none := by
  by_cases e : D = W
  · exact .inl e
  refine .inr ?_
  cases e2 : h.get? D with
  | none => rfl
  | some o =>
    by_cases e3 : D = S
    · rw [e3, hS] at hD; cases hD
    by_cases e4 : D = SA
    · rw [e4, hA] at hD; cases hD
    have := F.keep D o (hO D o (by simp [e, e3, e4]) e2)
    rw [hD] at this; cases this
theorem pop0_ix (x : Value) (xs : List Value) : seqIndex? 0 (x :: xs).toArray.size = some 0 := by
  show (if (decide ((0 : Int) ≤ 0) && decide ((0 : Int) < ((x :: xs).toArray.size : Int))) = true then some (0 : Int).toNat else none) = some 0
  rw [if_pos (by simp)]; rfl
theorem ins0 (y : Value) (xs : List Value) : kl_ins xs.toArray.toList 0 y = y :: xs := by cases xs <;> rfl
theorem pick_tail (x : Value) (xs : List Value) : kms_pick (x :: xs).toArray.toList (some 1) none = xs := by
  show (((x :: xs).drop (kms_lo (some 1) (x :: xs).length)).take (kms_hi none (x :: xs).length - kms_lo (some 1) (x :: xs).length)) = xs
  have e : kms_lo (some 1) (x :: xs).length = 1 := by
    unfold kms_lo; rw [List.length_cons]; simp
  rw [e]
  show (xs.take (kms_hi none (x :: xs).length - 1)) = xs
  rw [List.take_of_length_le]
  unfold kms_hi
  rw [List.length_cons]; simp
end Mine
namespace Mine
open PySem PySem.W PySem.Calls PyProof.Rows
theorem fillM : PySem.Challenge.rw_ag6004_01 = PySem.Challenge.rw_ag6004_01 ∧ MineHead.hd.heap_39 = MineHead.hd.heap_39 := by
  k_fill
  exact ⟨rfl, rfl⟩
theorem wt_C1 : True := by
  w_top off
  trivial
local macro_rules | `(tactic| k_room) => `(tactic| exact Nat.le_of_ble_eq_true rfl)
local macro_rules | `(tactic| walk_at "my size") => `(tactic| ((try simp only [List.length_cons, List.length_nil, List.length_append, List.size_toArray, List.length_take, List.length_drop]); rw [sizeLine_eq]; omega))
local macro_rules | `(tactic| walk_at "my cut") => `(tactic| first | exact cut_upto _ _ | exact cut_from _ _ | exact cut_run' _ _ _)
local macro_rules | `(tactic| walk_at "call builtin:len") => `(tactic| (k_here; (with_reducible show wpAny _ _ (call (Value.builtin "len") [Value.bytes (List.toArray _) _]) _ _ _); k_dflt (refine' len_by ?z ?_; (case z => walk_at "my size"))))
local macro_rules | `(tactic| walk_at "subscriptTail") => `(tactic| (k_here; (with_reducible show wpAny _ _ (subscriptTail _ (Expr.Slice _ _ none _) (Value.bytes (List.toArray _) _) (Value.ref _)) _ _ _); (with_reducible rename Fr _ _ _ _ => myF); (with_reducible rename News _ _ _ _ => myN); k_dflt (refine' by_slice (s := ⟨_, _, _, _, _⟩) myF myN ?l ?u ?z ?e ?_; (case l => constructor); (case u => constructor); (case z => walk_at "my size"); (case e => walk_at "my cut")); clear myF myN; intro h' t' tk' F' N'; (try k_sweep)))
local macro_rules | `(tactic| walk_at "subscriptTail Name Slice ref ref") => `(tactic| (k_here; (with_reducible show wpAny _ _ (subscriptTail _ (PySem.Expr.Slice _ _ none _) (Value.ref _) (Value.ref _)) _ _ _); k_dflt (refine' kms_slice_lit ?F ?N ?l ?p ?q ?e ?_ ?s ?t ?z; (case F => k_asm); (case N => k_asm); (case l => kmk_list); (case p => kmk_part); (case q => kmk_part); (case e => exact pick_tail _ _); (case s => with_unfolding_all rfl); (case t => kmk_pure); (case z => walk_at "my size")); intro D' h' F' N' l1; (try k_lt l1); (try k_sweep)))
local macro_rules | `(tactic| walk_at "compareOp Eq ref ref") => `(tactic| (k_here; k_dflt (first | (refine' eq_cons_nil ?N ?a ?b ?u ?_; (case N => k_asm); (case a => k_mem); (case b => k_mem); (case u => exact Nat.le_of_ble_eq_true rfl)) | (refine' eq_nil_nil ?N ?a ?b ?u ?_; (case N => k_asm); (case a => k_mem); (case b => k_mem); (case u => exact Nat.le_of_ble_eq_true rfl)))))
local macro_rules | `(tactic| walk_at "setItem ref int") => `(tactic| (k_here; k_dflt (refine' ki_set ?F ?N ?a ?b ?e ?U ?_; (case F => k_asm); (case N => k_asm); (case U => k_upd); (case a => decide); (case b => decide); (case e => rfl)); intro h' F' N'; (try dsimp only [List.nil_append, List.cons_append] at N')))
theorem L_given {prog : Program} {w : World} {A₀ : Around} {base h₀ : Heap} {L : Addr} {m : Str → Option Value} {mg mb : Str → Option Value} {p : Program} {loose : List Str} {mean : ExcName → Option Value} {env : Env} {outer : List Env} {s : Shared} {Q E : Value → Shared → Prop}
    {S W SA : Addr} {v0 v1 v2 v3 v6 : Value} {n nw na : Nat} {ws as : List Value} {ps : List (List UInt8)} {k : Nat} {kt : Tok}
    (B : Below A₀ base outer h₀) (F : Fr h₀ L s.heap m) (X : (MineHead.hd.heap_39 w.params).In h₀) (T : Top p loose mean mg mb h₀) (hf : env.frame = some L) (hke : env.scope.kind = .function)
    (N : News h₀ L s.heap [(S, listOf #[v0, v1, v2, v3, .ref W, .ref SA, v6] n), (W, listOf ws.toArray nw), (SA, listOf as.toArray na)])
    (hw : BAre ws ps) (hd1 : @Ne Nat S W) (hd2 : @Ne Nat S SA) (hd3 : @Ne Nat W SA) (hza : as.length ≤ 1000) (hzw : ws.length ≤ 1000) (hzp : ∀ b ∈ ps, b.length ≤ 1000)
    (hq : ∀ h' tk' t' W' n' nw' na' ws', Only [S, W, SA] s.heap h' → Fr h₀ L h' m → News h₀ L h' [(S, listOf #[v0, v1, v2, v3, .ref W', .ref SA, v6] n'), (W', listOf (List.toArray ws') nw'), (SA, listOf (as ++ [Value.int (k : Int) kt]).toArray na')] →
      BAre ws' (given ps k).2 → (W' = W ∨ s.heap.get? W' = none) → Q (.bytes (given ps k).1.toArray t') { s with heap := h', toks := tk' }) :
    wpAny (model prog w) (AA 410 1100 env outer) (call (.ref 492) [.ref S, .int (k : Int) kt]) Q E s := by
  refine wpAny_call ?_
  k_dflt (refine' code_defG ?k1 ?k2 ?k3 ?k4 ?k5 ?kA ?kF ?kK ?k6 ?k7 ?k8 ?k9 ?kB ?_ ?c2 ?c3 ?c4 ?c5; (case kA => exact rfl); (case kF => exact hf); (case kK => exact hke); (case k1 => k_asm); (case k2 => k_asm); (case k3 => k_asm); (case k4 => k_asm); (case k5 => k_asm); (case k6 => k_is); (case k7 => k_is); (case k8 => exact Nat.le_of_ble_eq_true rfl); (case k9 => exact BindsTo.of_eq (binds := [(Str.ofString "state", .ref S), (Str.ofString "size", .int (k : Int) kt)]) (by with_unfolding_all rfl)); (case c5 => decide); (case kB => exact locs rfl); (case c2 => exact rfl); (case c3 => exact rfl); (case c4 => exact rfl))
  intro g' L' h' FG' F' N' B' X' T' hlt hO
  dsimp only
  k_fold
  rcases ps with _ | ⟨b, ps⟩
  · obtain rfl : ws = [] := by cases ws with | nil => rfl | cons => exact hw.elim
    k_steps
    all_goals ((with_reducible rename Fr h₀ _ _ _ => myF); (with_reducible rename News h₀ _ _ _ => myN); (with_reducible rename Fr g' _ _ _ => my'F))
    exact hq _ _ _ W _ _ _ [] (fun b o hb e => my'F.keep b o (hO b o hb e)) myF (fun p hp => by
      rcases List.mem_cons.mp hp with rfl | hp
      · exact myN _ (.tail _ (.head _))
      rcases List.mem_cons.mp hp with rfl | hp
      · exact myN _ (.tail _ (.tail _ (.head _)))
      rcases List.mem_cons.mp hp with rfl | hp
      · rw [← List.push_toArray]; exact myN _ (.tail _ (.tail _ (.tail _ (.head _))))
      · cases hp) trivial (.inl rfl)
  · obtain ⟨t, ws', rfl, hw'⟩ : ∃ t ws', ws = .bytes b.toArray t :: ws' ∧ BAre ws' ps := by
      cases ws with
      | nil => exact hw.elim
      | cons v ws' => obtain ⟨⟨t, rfl⟩, h⟩ := hw; exact ⟨t, ws', rfl, h⟩
    have hb : b.length ≤ 1000 := hzp b (.head _)
    have hzl : ws'.length + 1 ≤ 1000 := hzw
    k_steps
    all_goals ((with_reducible rename Fr h₀ _ _ _ => myF); (with_reducible rename News h₀ _ _ _ => myN); (with_reducible rename Fr g' _ _ _ => my'F); (with_reducible rename News g' _ _ _ => my'N))
    · (with_reducible rename (_ : Int) < _ => hlt')
      have hq' := hq
      rw [given_lt hlt'] at hq'
      exact hq' _ _ _ W _ _ _ _ (fun b o hb e => my'F.keep b o (hO b o hb e)) myF (fun p hp => myN p (.tail _ hp)) ⟨⟨_, rfl⟩, hw'⟩ (.inl rfl)
    · (with_reducible rename ¬ (_ : Int) < _ => hlt')
      have hq' := hq
      rw [given_ge hlt'] at hq'
      (with_reducible rename _ ∧ _ => myL)
      refine hq' _ _ _ _ n 0 (na + 1) ws' (fun b o hb e => my'F.keep b o (hO b o hb e)) myF (fun p hp => ?_) hw' (.inr (fresh_of (my'N _ (.head _)).2.2 hO ?_))
      · rcases List.mem_cons.mp hp with rfl | hp
        · exact myN _ (.tail _ (.tail _ (.head _)))
        rcases List.mem_cons.mp hp with rfl | hp
        · exact myN _ (.head _)
        rcases List.mem_cons.mp hp with rfl | hp
        · exact myN _ (.tail _ (.tail _ (.tail _ (.tail _ (.head _)))))
        · cases hp
      · intro hmem
        rcases List.mem_cons.mp hmem with e | hmem
        · exact Nat.ne_of_gt myL.2.1 e
        rcases List.mem_cons.mp hmem with e | hmem
        · exact Nat.ne_of_gt myL.2.2.1 e
        rcases List.mem_cons.mp hmem with e | hmem
        · exact Nat.ne_of_gt myL.2.2.2 e
        · cases hmem
end Mine
namespace Mine
open PySem PySem.W PySem.Calls PyProof.Rows
theorem wt_C2 : True := by
  w_top off
  trivial
local macro_rules | `(tactic| walk_at "own pad") => `(tactic| fail)
local macro_rules | `(tactic| k_room) => `(tactic| exact Nat.le_of_ble_eq_true rfl)
local macro_rules | `(tactic| walk_at "my size") => `(tactic| ((try simp only [List.length_cons, List.length_nil, List.length_append, List.size_toArray, List.length_take, List.length_drop]); rw [sizeLine_eq]; omega))
local macro_rules | `(tactic| walk_at "my cut") => `(tactic| first | exact cut_upto _ _ | exact cut_from _ _ | exact cut_run' _ _ _)
local macro_rules | `(tactic| walk_at "call builtin:len") => `(tactic| (k_here; (with_reducible show wpAny _ _ (call (Value.builtin "len") [Value.bytes (List.toArray _) _]) _ _ _); k_dflt (refine' len_by ?z ?_; (case z => walk_at "my size"))))
local macro_rules | `(tactic| walk_at "subscriptTail") => `(tactic| (k_here; (with_reducible show wpAny _ _ (subscriptTail _ (Expr.Slice _ _ none _) (Value.bytes (List.toArray _) _) (Value.ref _)) _ _ _); (with_reducible rename Fr _ _ _ _ => myF); (with_reducible rename News _ _ _ _ => myN); k_dflt (refine' by_slice (s := ⟨_, _, _, _, _⟩) myF myN ?l ?u ?z ?e ?_; (case l => constructor); (case u => constructor); (case z => walk_at "my size"); (case e => walk_at "my cut")); clear myF myN; intro h' t' tk' F' N'; (try k_sweep)))
local macro_rules | `(tactic| walk_at "truthy ref") => `(tactic| (k_here; (with_reducible show wpAny _ _ (truthy (Value.ref _)) _ _ _); k_dflt (refine' kgr_truthy (vs := _ :: _) ?N ?m ?c ?d ?f ?_; (case N => k_asm); (case m => k_mem); (case c => rfl); (case d => rfl); (case f => (simp only [List.length_cons]; omega))); (try simp only [List.isEmpty_cons, Bool.not_false])))
local macro_rules | `(tactic| walk_at "call builtin:list.pop") => `(tactic| (k_here; (with_reducible show wpAny _ _ (call (Value.builtin _) [Value.ref _, Value.int _ _]) _ _ _); k_dflt (refine' kl_popAt ?F ?N ?f ?k ?e ?U ?z ?_; (case F => k_asm); (case N => k_asm); (case U => k_upd); (case f => rfl); (case k => exact pop0_ix _ _); (case e => rfl); (case z => ((try simp only [List.toList_toArray]); walk_at "my size"))); intro h' F' N'; (try dsimp only [List.nil_append, List.cons_append] at N')))
local macro_rules | `(tactic| walk_at "call builtin:list.insert") => `(tactic| (k_here; (with_reducible show wpAny _ _ (call (Value.builtin _) [Value.ref _, Value.int _ _, _]) _ _ _); k_dflt (refine' kl_insert ?F ?N ?f ?e ?U ?z ?_; (case F => k_asm); (case N => k_asm); (case U => k_upd); (case f => rfl); (case e => exact ins0 _ _); (case z => ((try simp only [List.toList_toArray]); walk_at "my size"))); intro h' F' N'; (try dsimp only [List.nil_append, List.cons_append] at N')))
theorem P_read {prog : Program} {w : World} {A₀ : Around} {base h₀ : Heap} {L : Addr} {m : Str → Option Value} {mg mb : Str → Option Value} {p : Program} {loose : List Str} {mean : ExcName → Option Value} {env : Env} {outer : List Env} {s : Shared} {Q E : Value → Shared → Prop}
    {H dH PL PA : Addr} {t1 t2 : Tok} {nd nw na : Nat} {ws as : List Value} {ps : List (List UInt8)} {k : Nat} {kt : Tok}
    (B : Below A₀ base outer h₀) (F : Fr h₀ L s.heap m) (X : (MineHead.hd.heap_39 w.params).In h₀) (T : Top p loose mean mg mb h₀) (hf : env.frame = some L) (hke : env.scope.kind = .function)
    (N : News h₀ L s.heap [(H, instObj 481 dH), (dH, dictOf [⟨PyData.keyHash w.params (Str.ofString "parts"), .str (Str.ofString "parts") t1, .ref PL⟩, ⟨PyData.keyHash w.params (Str.ofString "asked"), .str (Str.ofString "asked") t2, .ref PA⟩] nd), (PL, listOf ws.toArray nw), (PA, listOf as.toArray na)])
    (hw : BAre ws ps) (hd1 : @Ne Nat H dH) (hd2 : @Ne Nat H PL) (hd3 : @Ne Nat H PA) (hd4 : @Ne Nat dH PL) (hd5 : @Ne Nat dH PA) (hd6 : @Ne Nat PL PA) (hza : as.length ≤ 1000) (hzw : ws.length ≤ 1000) (hzp : ∀ b ∈ ps, b.length ≤ 1000)
    (hq : ∀ h' tk' t' nd' nw' na' ws', Only [H, dH, PL, PA] s.heap h' → Fr h₀ L h' m → News h₀ L h' [(H, instObj 481 dH), (dH, dictOf [⟨PyData.keyHash w.params (Str.ofString "parts"), .str (Str.ofString "parts") t1, .ref PL⟩, ⟨PyData.keyHash w.params (Str.ofString "asked"), .str (Str.ofString "asked") t2, .ref PA⟩] nd'), (PL, listOf (List.toArray ws') nw'), (PA, listOf (as ++ [Value.int (k : Int) kt]).toArray na')] →
      BAre ws' (given ps k).2 → Q (.bytes (given ps k).1.toArray t') { s with heap := h', toks := tk' }) :
    wpAny (model prog w) (AA 410 1100 env outer) (call (.ref 471) [.ref H, .int (k : Int) kt]) Q E s := by
  refine wpAny_call ?_
  k_dflt (refine' code_defG ?k1 ?k2 ?k3 ?k4 ?k5 ?kA ?kF ?kK ?k6 ?k7 ?k8 ?k9 ?kB ?_ ?c2 ?c3 ?c4 ?c5; (case kA => exact rfl); (case kF => exact hf); (case kK => exact hke); (case k1 => k_asm); (case k2 => k_asm); (case k3 => k_asm); (case k4 => k_asm); (case k5 => k_asm); (case k6 => k_is); (case k7 => k_is); (case k8 => exact Nat.le_of_ble_eq_true rfl); (case k9 => exact kp_binds (binds := [(Str.ofString "self", .ref H), (Str.ofString "size", .int (k : Int) kt)]) (kFor F X |>.keeps F.keep) (fun S => by with_unfolding_all rfl)); (case c5 => decide); (case kB => exact locs rfl); (case c2 => exact rfl); (case c3 => exact rfl); (case c4 => exact rfl))
  intro g' L' h' FG' F' N' B' X' T' hlt hO
  dsimp only
  k_fold
  have hk0 : ¬ ((k : Int) < 0) := by omega
  rcases ps with _ | ⟨b, ps⟩
  · obtain rfl : ws = [] := by cases ws with | nil => rfl | cons => exact hw.elim
    k_steps
    all_goals ((with_reducible rename Fr h₀ _ _ _ => myF); (with_reducible rename News h₀ _ _ _ => myN); (with_reducible rename Fr g' _ _ _ => my'F); (with_reducible rename News g' _ _ _ => my'N); clear my'N)
    have hq' := hq
    rw [show (given [] k) = ([].take k, []) by rw [List.take_nil]; rfl] at hq'
    exact hq' _ _ _ nd nw (na + 1) [] (fun b o hb e => my'F.keep b o (hO b o hb e)) myF (by (intro p hp; simp only [List.mem_cons, List.not_mem_nil, or_false] at hp; rcases hp with rfl | rfl | rfl | rfl <;> first | exact myN _ (by k_mem) | (rw [← List.push_toArray]; exact myN _ (by k_mem)))) trivial
  · obtain ⟨t, ws', rfl, hw'⟩ : ∃ t ws', ws = .bytes b.toArray t :: ws' ∧ BAre ws' ps := by
      cases ws with
      | nil => exact hw.elim
      | cons v ws' => obtain ⟨⟨t, rfl⟩, h⟩ := hw; exact ⟨t, ws', rfl, h⟩
    have hb : b.length ≤ 1000 := hzp b (.head _)
    have hzl : ws'.length + 1 ≤ 1000 := hzw
    k_steps
    all_goals ((with_reducible rename Fr h₀ _ _ _ => myF); (with_reducible rename News h₀ _ _ _ => myN); (with_reducible rename Fr g' _ _ _ => my'F); (with_reducible rename News g' _ _ _ => my'N); clear my'N; have hq' := hq)
    · (with_reducible rename (_ : Int) < _ => hlt')
      rw [given_lt hlt'] at hq'
      exact hq' _ _ _ nd (nw + 1 + 1) (na + 1) (.bytes (b.drop k).toArray _ :: ws') (fun b o hb e => my'F.keep b o (hO b o hb e)) myF (by (intro p hp; simp only [List.mem_cons, List.not_mem_nil, or_false] at hp; rcases hp with rfl | rfl | rfl | rfl <;> first | exact myN _ (by k_mem) | (rw [← List.push_toArray]; exact myN _ (by k_mem)))) ⟨⟨_, rfl⟩, hw'⟩
    · (with_reducible rename ¬ (_ : Int) < _ => hlt')
      rw [given_ge hlt', show b = b.take k from (List.take_of_length_le (by omega)).symm] at hq'
      exact hq' _ _ _ nd (nw + 1) (na + 1) ws' (fun b o hb e => my'F.keep b o (hO b o hb e)) myF (by (intro p hp; simp only [List.mem_cons, List.not_mem_nil, or_false] at hp; rcases hp with rfl | rfl | rfl | rfl <;> first | exact myN _ (by k_mem) | (rw [← List.push_toArray]; exact myN _ (by k_mem)))) hw'
end Mine
namespace Mine
open PySem PySem.W PySem.Calls PyProof.Rows
/-- the asking of a file for what lacks: octets, parts left, sizes asked, what lacks still -/
def fill (rs lack : Nat) (ps : List (List UInt8)) : List UInt8 × List (List UInt8) × List Int × Nat :=
  if lack = 0 then ([], ps, [], 0)
  else if (given ps (max rs lack)).1 = [] then ([], (given ps (max rs lack)).2, [((max rs lack : Nat) : Int)], lack)
  else ((given ps (max rs lack)).1 ++ (fill rs (lack - (given ps (max rs lack)).1.length) (given ps (max rs lack)).2).1, (fill rs (lack - (given ps (max rs lack)).1.length) (given ps (max rs lack)).2).2.1,
    ((max rs lack : Nat) : Int) :: (fill rs (lack - (given ps (max rs lack)).1.length) (given ps (max rs lack)).2).2.2.1, (fill rs (lack - (given ps (max rs lack)).1.length) (given ps (max rs lack)).2).2.2.2)
termination_by lack
decreasing_by
  all_goals
    rename_i h1 h2
    have : (given ps (max rs lack)).1.length ≠ 0 := fun e => h2 (List.length_eq_zero_iff.mp e)
    omega
theorem fill_zero (rs : Nat) (ps : List (List UInt8)) : fill rs 0 ps = ([], ps, [], 0) := by unfold fill; rw [if_pos rfl]
theorem fill_stop {rs lack : Nat} {ps : List (List UInt8)} (h : lack ≠ 0) (g : (given ps (max rs lack)).1 = []) : fill rs lack ps = ([], (given ps (max rs lack)).2, [((max rs lack : Nat) : Int)], lack) := by
  unfold fill; rw [if_neg h, if_pos g]
theorem fill_more {rs lack : Nat} {ps : List (List UInt8)} (h : lack ≠ 0) (g : (given ps (max rs lack)).1 ≠ []) :
    fill rs lack ps = ((given ps (max rs lack)).1 ++ (fill rs (lack - (given ps (max rs lack)).1.length) (given ps (max rs lack)).2).1, (fill rs (lack - (given ps (max rs lack)).1.length) (given ps (max rs lack)).2).2.1,
    ((max rs lack : Nat) : Int) :: (fill rs (lack - (given ps (max rs lack)).1.length) (given ps (max rs lack)).2).2.2.1, (fill rs (lack - (given ps (max rs lack)).1.length) (given ps (max rs lack)).2).2.2.2) := by
  conv => lhs; unfold fill
  rw [if_neg h, if_neg g]
/-- what has been asked so far, before the rest -/
def after (d : List UInt8) (az : List Int) (r : List UInt8 × List (List UInt8) × List Int × Nat) : List UInt8 × List (List UInt8) × List Int × Nat := (d ++ r.1, r.2.1, az ++ r.2.2.1, r.2.2.2)
theorem after_nil (r : List UInt8 × List (List UInt8) × List Int × Nat) : after [] [] r = r := rfl
theorem after_zero {rs : Nat} {d : List UInt8} {az : List Int} {ps : List (List UInt8)} : after d az (fill rs 0 ps) = (d, ps, az, 0) := by rw [fill_zero]; unfold after; rw [List.append_nil, List.append_nil]
theorem after_stop {rs lack : Nat} {d : List UInt8} {az : List Int} {ps : List (List UInt8)} (h : lack ≠ 0) (g : (given ps (max rs lack)).1 = []) :
    after d az (fill rs lack ps) = (d, (given ps (max rs lack)).2, az ++ [((max rs lack : Nat) : Int)], lack) := by rw [fill_stop h g]; unfold after; rw [List.append_nil]
theorem after_more {rs lack : Nat} {d : List UInt8} {az : List Int} {ps : List (List UInt8)} (h : lack ≠ 0) (g : (given ps (max rs lack)).1 ≠ []) :
    after d az (fill rs lack ps) = after (d ++ (given ps (max rs lack)).1) (az ++ [((max rs lack : Nat) : Int)]) (fill rs (lack - (given ps (max rs lack)).1.length) (given ps (max rs lack)).2) := by
  rw [fill_more h g]; unfold after; simp [List.append_assoc]
/-- the sum of the parts' octets -/
def total : List (List UInt8) → Nat
  | [] => 0
  | b :: r => b.length + total r
theorem total_given (ps : List (List UInt8)) (k : Nat) : (given ps k).1.length + total (given ps k).2 = total ps := by
  cases ps with
  | nil => rfl
  | cons b r =>
    by_cases h : (k : Int) < b.length
    · rw [given_lt h]; simp only [total, List.length_take, List.length_drop]; omega
    · rw [given_ge h]; rfl
theorem length_given (ps : List (List UInt8)) (k : Nat) : (given ps k).2.length ≤ ps.length := by
  cases ps with
  | nil => exact Nat.le_refl _
  | cons b r =>
    by_cases h : (k : Int) < b.length
    · rw [given_lt h]; simp
    · rw [given_ge h]; simp
theorem mem_given {ps : List (List UInt8)} {k : Nat} {z : Nat} (h : ∀ b ∈ ps, b.length ≤ z) : ∀ b ∈ (given ps k).2, b.length ≤ z := by
  cases ps with
  | nil => exact h
  | cons b r =>
    by_cases hk : (k : Int) < b.length
    · rw [given_lt hk]
      intro c hc
      rcases List.mem_cons.mp hc with rfl | hc
      · rw [List.length_drop]; have := h b (.head _); omega
      · exact h c (.tail _ hc)
    · rw [given_ge hk]; exact fun c hc => h c (.tail _ hc)
theorem given_le {ps : List (List UInt8)} {k z : Nat} (h : ∀ b ∈ ps, b.length ≤ z) : (given ps k).1.length ≤ z := by
  cases ps with
  | nil => exact Nat.zero_le _
  | cons b r =>
    by_cases hk : (k : Int) < b.length
    · rw [given_lt hk]
      show (b.take k).length ≤ z
      rw [List.length_take]; have := h b (.head _); omega
    · rw [given_ge hk]; exact h b (.head _)
theorem given_le_k (ps : List (List UInt8)) (k : Nat) : (given ps k).1.length ≤ k := by
  cases ps with
  | nil => exact Nat.zero_le _
  | cons b r =>
    by_cases hk : (k : Int) < b.length
    · rw [given_lt hk]; show (b.take k).length ≤ k; rw [List.length_take]; omega
    · rw [given_ge hk]; show b.length ≤ k; omega

/-- the reckoning of a step: the word (0 ok, 1 full, 2 short), octets, place, parts, sizes asked -/
def lackR (rs room : Nat) (got : List UInt8) (told place : Nat) (ps : List (List UInt8)) (need : Nat) (insists : Bool) : Nat × List UInt8 × Nat × List (List UInt8) × List Int :=
  if place + need ≤ got.length then (0, got, place, ps, [])
  else if place + need > room + told then (1, got, place, ps, [])
  else if 0 < (fill rs (place + need - got.length) ps).2.2.2 ∧ insists = true then (2, got ++ (fill rs (place + need - got.length) ps).1, told, (fill rs (place + need - got.length) ps).2.1, (fill rs (place + need - got.length) ps).2.2.1)
  else (0, got ++ (fill rs (place + need - got.length) ps).1, place, (fill rs (place + need - got.length) ps).2.1, (fill rs (place + need - got.length) ps).2.2.1)
section
variable {rs room : Nat} {got : List UInt8} {told place : Nat} {ps : List (List UInt8)} {need : Nat} {insists : Bool}
theorem lackR_ok (h : place + need ≤ got.length) : lackR rs room got told place ps need insists = (0, got, place, ps, []) := by unfold lackR; rw [if_pos h]
theorem lackR_full (h : ¬ place + need ≤ got.length) (h2 : place + need > room + told) : lackR rs room got told place ps need insists = (1, got, place, ps, []) := by unfold lackR; rw [if_neg h, if_pos h2]
theorem lackR_short {d : List UInt8} {px : List (List UInt8)} {az : List Int} {k : Nat} (h : ¬ place + need ≤ got.length) (h2 : ¬ place + need > room + told) (hf : fill rs (place + need - got.length) ps = (d, px, az, k)) (hk : 0 < k) (hi : insists = true) :
    lackR rs room got told place ps need insists = (2, got ++ d, told, px, az) := by unfold lackR; rw [if_neg h, if_neg h2, hf, if_pos ⟨hk, hi⟩]
theorem lackR_fine {d : List UInt8} {px : List (List UInt8)} {az : List Int} {k : Nat} (h : ¬ place + need ≤ got.length) (h2 : ¬ place + need > room + told) (hf : fill rs (place + need - got.length) ps = (d, px, az, k)) (hk : k = 0 ∨ insists = false) :
    lackR rs room got told place ps need insists = (0, got ++ d, place, px, az) := by
  unfold lackR; rw [if_neg h, if_neg h2, hf, if_neg]
  rintro ⟨h3, h4⟩
  rcases hk with h5 | h5
  · exact absurd h3 (by show ¬ 0 < k; omega)
  · rw [h5] at h4; cases h4
end
theorem fr_congr {h₀ h : Heap} {L : Addr} {m m' : Str → Option Value} (F : Fr h₀ L h m) (e : ∀ y, m y = m' y) : Fr h₀ L h m' := by
  have : m = m' := funext e
  exact this ▸ F
def word : Nat → Str
  | 0 => Str.ofString "ok"
  | 1 => Str.ofString "full"
  | _ => Str.ofString "short"
end Mine
namespace Mine
open PySem PySem.W PySem.Calls PyProof.Rows
theorem wt_C3 : True := by
  w_top off
  trivial
local macro_rules | `(tactic| walk_at "own pad") => `(tactic| fail)
local macro_rules | `(tactic| k_room) => `(tactic| exact Nat.le_of_ble_eq_true rfl)
local macro_rules | `(tactic| walk_at "my size") => `(tactic| ((try simp only [List.length_cons, List.length_nil, List.length_append, List.size_toArray, List.length_take, List.length_drop]); rw [sizeLine_eq]; omega))
local macro_rules | `(tactic| walk_at "my cut") => `(tactic| first | exact cut_upto _ _ | exact cut_from _ _ | exact cut_run' _ _ _)
local macro_rules | `(tactic| walk_at "call builtin:len") => `(tactic| (k_here; (with_reducible show wpAny _ _ (call (Value.builtin "len") [Value.bytes (List.toArray _) _]) _ _ _); k_dflt (refine' len_by ?z ?_; (case z => walk_at "my size"))))
local macro_rules | `(tactic| walk_at "exec While") => `(tactic| (k_here; refine wpAny_While ?_))
local macro_rules | `(tactic| walk_at "call builtin:max") => `(tactic| (k_here; (with_reducible show wpAny _ _ (call (Value.builtin "max") [Value.int _ _, Value.int _ _]) _ _ _); k_dflt (refine' max_nat ?k1 ?k2 ?k3 ?_; (case k1 => exact rfl); (case k2 => k_asm); (case k3 => k_asm)); intro h' tk' t' F' N'))
local macro_rules | `(tactic| walk_at "call ref") => `(tactic| (k_here; (with_reducible show wpAny _ _ (call (Value.ref 492) [_, _] _) _ _ _); refine stop_of ?_))
local macro_rules | `(tactic| walk_at "compareOp Eq bytes bytes") => `(tactic| (k_here; first | ((with_reducible show wpAny _ _ (compareOp CmpOp.Eq (Value.bytes (List.toArray (_ :: _)) _) (Value.bytes _ _)) _ _ _); k_dflt (refine' eq_by_cn ?_)) | ((with_reducible show wpAny _ _ (compareOp CmpOp.Eq (Value.bytes (List.toArray []) _) (Value.bytes _ _)) _ _ _); k_dflt (refine' eq_by_nn ?_))))
local macro_rules | `(tactic| walk_at "binaryOp Add bytes bytes") => `(tactic| (k_here; (with_reducible show wpAny _ _ (binaryOp Operator.Add (Value.bytes (List.toArray _) _) (Value.bytes (List.toArray _) _)) _ _ _); k_dflt (refine' add_by ?z ?_; (case z => walk_at "my size")); intro t' tk'))
theorem L_lack {prog : Program} {w : World} {A₀ : Around} {base h₀ : Heap} {L : Addr} {m : Str → Option Value} {mg mb : Str → Option Value} {p : Program} {loose : List Str} {mean : ExcName → Option Value} {env : Env} {outer : List Env} {s : Shared} {Q E : Value → Shared → Prop}
    {S W SA : Addr} {gt tt pt rt st : Tok} {n nw na : Nat} {ws as : List Value} {ns : List Int} {got : List UInt8} {told place room rs need : Nat} {insists : Bool} {ps : List (List UInt8)} {kt : Tok}
    (B : Below A₀ base outer h₀) (F : Fr h₀ L s.heap m) (X : (MineHead.hd.heap_39 w.params).In h₀) (T : Top p loose mean mg mb h₀) (hf : env.frame = some L) (hke : env.scope.kind = .function)
    (N : News h₀ L s.heap [(S, listOf #[.bytes got.toArray gt, .int (told : Int) tt, .int (place : Int) pt, .int (room : Int) rt, .ref W, .ref SA, .int (rs : Int) st] n), (W, listOf ws.toArray nw), (SA, listOf as.toArray na)])
    (hw : BAre ws ps) (has : IntsAre as ns) (hd1 : @Ne Nat S W) (hd2 : @Ne Nat S SA) (hd3 : @Ne Nat W SA) (hza : ns.length ≤ 900) (hzw : ws.length ≤ 1000) (hzp : ∀ b ∈ ps, b.length ≤ 1000) (hzg : got.length ≤ 10000) (hzt : total ps ≤ 10000) (hzn : place + need ≤ got.length + 50) (hrs : 1 ≤ rs) (htp : told ≤ place) (hpg : place ≤ got.length)
    (hq : ∀ h' tk' wt gt' pt' W' n' nw' na' ws' as', Only [S, W, SA] s.heap h' → Fr h₀ L h' m → News h₀ L h' [(S, listOf #[.bytes (lackR rs room got told place ps need insists).2.1.toArray gt', .int (told : Int) tt, .int ((lackR rs room got told place ps need insists).2.2.1 : Int) pt', .int (room : Int) rt, .ref W', .ref SA, .int (rs : Int) st] n'), (W', listOf (List.toArray ws') nw'), (SA, listOf (List.toArray as') na')] →
      BAre ws' (lackR rs room got told place ps need insists).2.2.2.1 → IntsAre as' (ns ++ (lackR rs room got told place ps need insists).2.2.2.2) → (W' = W ∨ s.heap.get? W' = none) → Q (.str (word (lackR rs room got told place ps need insists).1) wt) { s with heap := h', toks := tk' }) :
    wpAny (model prog w) (AA 405 1050 env outer) (call (.ref 499) [.ref S, .int (need : Int) kt, .bool insists]) Q E s := by
  refine wpAny_call ?_
  k_dflt (refine' code_defG ?k1 ?k2 ?k3 ?k4 ?k5 ?kA ?kF ?kK ?k6 ?k7 ?k8 ?k9 ?kB ?_ ?c2 ?c3 ?c4 ?c5; (case kA => exact rfl); (case kF => exact hf); (case kK => exact hke); (case k1 => k_asm); (case k2 => k_asm); (case k3 => k_asm); (case k4 => k_asm); (case k5 => k_asm); (case k6 => k_is); (case k7 => k_is); (case k8 => exact Nat.le_of_ble_eq_true rfl); (case k9 => exact BindsTo.of_eq (binds := [(Str.ofString "state", .ref S), (Str.ofString "need", .int (need : Int) kt), (Str.ofString "insists", .bool insists)]) (by with_unfolding_all rfl)); (case c5 => decide); (case kB => exact locs rfl); (case c2 => exact rfl); (case c3 => exact rfl); (case c4 => exact rfl))
  intro g' L' h' FG' F' N' B' X' T' hlt hO
  dsimp only
  k_fold
  k_steps
  · (with_reducible rename _ ≤ (0 : Int) => c1)
    (with_reducible rename Fr g' _ _ _ => gF)
    (with_reducible rename Fr h₀ _ _ _ => kF)
    (with_reducible rename News h₀ _ _ _ => kN)
    have hq' := hq
    rw [lackR_ok (by omega)] at hq'
    exact hq' _ _ _ _ _ W _ _ _ ws as (fun b o hb e => gF.keep b o (hO b o hb e)) kF kN hw (by rw [List.append_nil]; exact has) (.inl rfl)
  · (with_reducible rename ¬ _ ≤ (0 : Int) => c1)
    (with_reducible rename (_ : Int) < _ => c2)
    (with_reducible rename Fr g' _ _ _ => gF)
    (with_reducible rename Fr h₀ _ _ _ => kF)
    (with_reducible rename News h₀ _ _ _ => kN)
    have hq' := hq
    rw [lackR_full (by omega) (by omega)] at hq'
    exact hq' _ _ _ _ _ W _ _ _ ws as (fun b o hb e => gF.keep b o (hO b o hb e)) kF kN hw (by rw [List.append_nil]; exact has) (.inl rfl)
  · (with_reducible rename Fr g' L' _ _ => myF)
    (with_reducible rename News g' L' _ _ => myN)
    (with_reducible rename ¬ _ ≤ (0 : Int) => c1)
    (with_reducible rename ¬ (_ : Int) < _ => c2)
    refine while_of myF (fun m0 k σ => ∃ (hh : Heap) (tk : Nat) (d : List UInt8) (az : List Int) (px : List (List UInt8)) (wx ax : List Value) (Wx : Addr) (nx nwx nax : Nat) (li : Int) (lt gx : Tok) (od : Option Value),
      σ = ⟨hh, s.gens, s.drawn, tk, s.os⟩ ∧ Fr g' L' hh (fun y => if y = Str.ofString "data" then od else if y = Str.ofString "got" then some (.bytes (got ++ d).toArray gx) else if y = Str.ofString "lacking" then some (.int li lt) else m0 y) ∧
      News g' L' hh [(S, listOf #[.bytes got.toArray gt, .int (told : Int) tt, .int (place : Int) pt, .int (room : Int) rt, .ref Wx, .ref SA, .int (rs : Int) st] nx), (Wx, listOf (List.toArray wx) nwx), (SA, listOf (List.toArray ax) nax)] ∧
      BAre wx px ∧ IntsAre ax (ns ++ az) ∧ (Wx = W ∨ s.heap.get? Wx = none) ∧ @Ne Nat S Wx ∧ @Ne Nat Wx SA ∧ (li = (k : Int) ∨ k = 0 ∧ li ≤ 0) ∧ k ≤ place + need - got.length ∧ (d.length + total px = total ps) ∧ wx.length ≤ 1000 ∧ (∀ b ∈ px, b.length ≤ 1000) ∧ (az.length ≤ place + need - got.length - k) ∧
      fill rs (place + need - got.length) ps = after d az (fill rs k px)) ?turn (place + need - got.length) ?start
    case start =>
      refine' ⟨_, _, [], [], ps, ws, as, W, n, nw, na, (place : Int) + (need : Int) - (got.length : Int), ?lt, gt, none, rfl, fr_congr myF (fun y => ?hm), myN, hw, by rw [List.append_nil]; exact has, .inl rfl, hd1, hd3, .inl (by omega), Nat.le_refl _, by simp, hzw, hzp, by simp, (after_nil _).symm⟩
      case hm =>
        by_cases c5 : y = Str.ofString "lacking"
        · subst c5; with_unfolding_all rfl
        by_cases c3 : y = Str.ofString "data"
        · subst c3; with_unfolding_all rfl
        by_cases c4 : y = Str.ofString "got"
        · subst c4; rw [List.append_nil]; with_unfolding_all rfl
        simp only [if_neg c3, if_neg c4, if_neg c5]
    case turn =>
      rintro k σ ⟨hh, tk, d, az, px, wx, ax, Wx, nx, nwx, nax, li, lt, gx, od, rfl, F2, N2, hw2, ha2, hW2, e1, e2, hli, hk2, hsum, hz2, hp2, hz3, hfill⟩
      have hlw := hw2.length
      rcases Nat.eq_zero_or_pos k with hk0 | hk0
      · have hl0 : ¬ (0 : Int) < li := by omega
        clear myF myN
        dsimp only at F2 N2 ⊢
        k_steps
        (with_reducible rename Fr g' _ _ _ => gF)
        (with_reducible rename Fr h₀ _ _ _ => kF)
        (with_reducible rename News h₀ _ _ _ => kN)
        subst hk0
        rw [after_zero] at hfill
        have hq' := hq
        rw [lackR_fine (by omega) (by omega) hfill (.inl rfl)] at hq'
        exact hq' _ _ _ _ _ Wx _ _ _ wx _ (fun b o hb e => gF.keep b o (hO b o hb e)) kF kN hw2 ha2 hW2
      · obtain rfl : li = (k : Int) := by omega
        clear myF myN
        dsimp only at F2 N2 ⊢
        k_steps
        refine go_of ?_
        (with_reducible rename Fr _ _ _ _ => myF)
        (with_reducible rename News _ _ _ _ => myN)
        (with_reducible rename Below _ _ _ _ => myW)
        (with_reducible rename Top _ _ _ _ _ _ => myT)
        (with_reducible rename Frag.In _ _ => myX)
        refine wpAny_upto (d := 410) (u := 1100) (env := envOf _ _ _ _ _) ⟨rfl, Nat.le_of_ble_eq_true rfl, rfl, Nat.le_of_ble_eq_true rfl⟩ (L_given (k := max rs k) myW myF myX myT rfl rfl myN hw2 e1 hd2 e2 ?za ?zw hp2 ?hq)
        case za =>
          have := ha2.length
          rw [List.length_append] at this
          omega
        case zw => exact hz2
        case hq =>
          intro h3 tk3 t3 W3 n3 nw3 na3 ws3 O3 F3 N3 hw3 hW3
          have hS3 := (N3 _ (.head _)).1
          have hA3 := (N3 _ (.tail _ (.tail _ (.head _)))).1
          have hW3' : W3 = W ∨ s.heap.get? W3 = none := by
            rcases hW3 with rfl | hW3
            · exact hW2
            · exact fresh2 hO myF (myN _ (.head _)).1 (myN _ (.tail _ (.tail _ (.head _)))).1 hW3
          have d3 : @Ne Nat S W3 := by
            rcases hW3 with rfl | hW3
            · exact e1
            · rintro rfl; rw [(myN _ (.head _)).1] at hW3; cases hW3
          have d4 : @Ne Nat W3 SA := by
            rcases hW3 with rfl | hW3
            · exact e2
            · rintro rfl; rw [(myN _ (.tail _ (.tail _ (.head _)))).1] at hW3; cases hW3
          have hg0 := total_given px (max rs k)
          have hg1 := length_given px (max rs k)
          have hg2 := mem_given (k := max rs k) hp2
          have hg3 := given_le (k := max rs k) hp2
          have hg4 := hw3.length
          have hs1 := @after_stop rs k d az px (by omega)
          have hs2 := @after_more rs k d az px (by omega)
          clear F2 N2 myF myN hW3
          revert hw3 hg0 hg1 hg2 hg3 hg4 hs1 hs2
          rcases hgv : given px (max rs k) with ⟨dd, px3⟩
          intro hw3 hg0 hg1 hg2 hg3 hg4 hs1 hs2
          dsimp only at hw3 hg0 hg1 hg2 hg3 hg4 hs1 hs2 ⊢
          cases dd with
          | nil =>
            have hf3 := hfill.trans (hs1 rfl)
            k_steps
            · (with_reducible rename _ = true => hins)
              (with_reducible rename Fr g' _ _ _ => gF)
              (with_reducible rename Fr h₀ _ _ _ => kF)
              (with_reducible rename News h₀ _ _ _ => kN)
              have hq' := hq
              rw [lackR_short (by omega) (by omega) hf3 hk0 hins] at hq'
              exact hq' _ _ _ _ _ W3 _ _ _ ws3 _ (fun b o hb e => gF.keep b o (hO b o hb e)) kF kN hw3 (by rw [← List.append_assoc]; exact ha2.append (.cons _ _ .nil)) hW3'
            · (with_reducible rename insists = false => hins)
              (with_reducible rename Fr g' _ _ _ => gF)
              (with_reducible rename Fr h₀ _ _ _ => kF)
              (with_reducible rename News h₀ _ _ _ => kN)
              have hq' := hq
              rw [lackR_fine (by omega) (by omega) hf3 (.inr hins)] at hq'
              exact hq' _ _ _ _ _ W3 _ _ _ ws3 _ (fun b o hb e => gF.keep b o (hO b o hb e)) kF kN hw3 (by rw [← List.append_assoc]; exact ha2.append (.cons _ _ .nil)) hW3'
          | cons x dd =>
            simp only [List.length_cons] at hg0 hg3 hs2
            k_steps
            (with_reducible rename Fr g' _ _ _ => gF)
            (with_reducible rename News g' _ _ _ => gN)
            refine' go_of ⟨k - (dd.length + 1), by omega, _, _, d ++ x :: dd, az ++ [((max rs k : Nat) : Int)], px3, ws3, _, W3, n3, nw3, na3, (k : Int) - (((x :: dd).length : Nat) : Int), ?lt2, ?gx2, some (.bytes (x :: dd).toArray t3), rfl, fr_congr gF (fun y => ?hm2), gN, hw3, (by rw [← List.append_assoc]; exact ha2.append (.cons _ _ .nil)), hW3', d3, d4, ?li2, by omega, by simp only [List.length_append, List.length_cons]; omega, by omega, hg2, by simp only [List.length_append, List.length_cons, List.length_nil]; omega, hfill.trans (hs2 (fun e => nomatch e))⟩
            case li2 =>
              simp only [List.length_cons]; omega
            case hm2 =>
              by_cases c5 : y = Str.ofString "lacking"
              · subst c5; with_unfolding_all rfl
              by_cases c3 : y = Str.ofString "data"
              · subst c3; with_unfolding_all rfl
              by_cases c4 : y = Str.ofString "got"
              · subst c4; rw [← List.append_assoc]; with_unfolding_all rfl
              simp only [if_neg c3, if_neg c4, if_neg c5]
end Mine
namespace Mine
open PySem PySem.W PySem.Calls PyProof.Rows
section
variable {nm q : Str} {C N : Addr} {bs bm : List Value} {hdct : Bool} {sn : List Str} {sub : List Value} {ab : Bool} {col : Option Bool} {dd : Option Addr} {k0 k1 k2 k3 k5 : Option Value} {newId : String}
theorem issub_own_nested {prog : Program} {w : World} {A : Around} {E : Value → Shared → Prop} {h : Heap} {g : Array GenState} {d : Drawn} {t : Nat} {os : OsState} {k : Value} {dep : Int} {tk : Tok} {Q : Fin → Shared → Prop} (hk : k = .int dep tk)
    (hC : h.get? C = some (excClassObj nm q C N bs bm hdct sn sub ab col dd k0 k1 k2 k3 k5 newId)) (hq : Q (.done (.ret (.bool true))) ⟨h, g, d, t, os⟩) :
    wpAny (model prog w) A (Builtin.«issubclass.nested» ⟨[.ref C, .ref C, k], []⟩) Q E ⟨h, g, d, t, os⟩ := by
  subst hk
  have hcC : (Value.ref C :: bm).contains (.ref C) = true := by simp
  repeat (any_goals (first | assumption | (with_reducible refine wpAny_loadPart_at hC ?_) | (with_reducible refine wpAny_isSubtype_exc hC ?_; rw [hcC]) | wp_step))
theorem issub_own (hC' : True) : Meets (Builtin.«issubclass» ⟨[.ref C, .ref C], []⟩) (fun _ R s => s.heap.get? C = some (excClassObj nm q C N bs bm hdct sn sub ab col dd k0 k1 k2 k3 k5 newId) ∧ R (.ok (.ret (.bool true))) s) :=
  fun _ _ _ _ s hs => by
    obtain ⟨h, g, d, t, os⟩ := s
    exact issubclass_outer (issub_own_nested rfl hs.1 hs.2)
end
section
variable {prog : Program} {w : World} {A : Around} {E : Value → Shared → Prop} {s : Shared} {env : Env}
variable {nm q : Str} {C N : Addr} {bs bm bmB : List Value} {hdct : Bool} {sn : List Str} {sub : List Value} {ab : Bool} {col : Option Bool} {dd : Option Addr} {k0 k1 k2 k3 k5 : Option Value} {B newId initId : String}
theorem raise_own_class (FB : ExcBaseFacts B newId initId bmB) {mN : Str → Option Value} {x : Str} {np pos : Pos} {Q : Flow → Shared → Prop} (hbase : bm.contains (.type "BaseException") = true) (hh : A.handled = none) (hni : mN "__init__" = none)
    (hC : s.heap.get? C = some (excClassObj nm q C N bs bm hdct sn sub ab col dd k0 k1 k2 k3 k5 newId)) (hN : s.heap.Ns N mN) (T : OwnTail s.heap bmB bm)
    (hx : wpAny (model prog w) A (eval (.Name x np) env) (fun v s₁ => v = .ref C ∧ s₁ = s) E s)
    (h : ∀ h' e, Heap.MadeExcOf s.heap h' e (.ref C) [] → E (.ref e) { s with heap := h' }) :
    wpAny (model prog w) A (exec (.Raise (some (.Name x np)) none pos) env) Q E s := by
  have hcB : (Value.ref C :: bm).contains (.type "BaseException") = true := by rw [List.contains_cons, hbase, Bool.or_true]
  show wpAny (model prog w) A (do standAt pos; raiseStmt env (some (do let v ← eval (.Name x np) env; standAt pos; pure v)) none) Q E s
  refine wpAny_bind (wpAny_standAt ?_)
  unfold raiseStmt
  dsimp only
  refine wpAny_bind (wpAny_bind (wpAny_mono hx (fun v s₁ h₁ => wpAny_bind (wpAny_standAt (wpAny_pure ?_))) fun _ _ e => e))
  obtain ⟨rfl, hs₁⟩ := h₁
  subst s₁
  obtain ⟨hp, g, d, tk, os⟩ := s
  refine wpAny_bind (wpAny_pure ?_)
  dsimp only
  refine wpAny_bind (wpAny_holding ?_)
  unfold excFromValue isExcClass
  refine wpAny_bind (wpAny_bind (m := isType (.ref C)) ?_)
  show wpAny _ _ (loadPart C _ >>= _) _ _ _
  refine wpAny_bind (wpAny_loadPart_at hC (wpAny_pure ?_))
  show wpAny _ _ (isSubtype (.ref C) (.type "BaseException")) _ _ _
  refine wpAny_isSubtype_exc hC ?_
  rw [hcB]
  simp only [if_true]
  refine wpAny_bind (wpAny_call_exc_subT (hrest := Nat.zero_le _) FB T hC hN hni fun h' e hm => ?_)
  obtain ⟨t, he, _, _⟩ := hm.there
  have hC' := hm.keeps _ _ hC
  refine wpAny_bind (m := isInstance (.ref e) (.type "BaseException")) ?_
  show wpAny _ _ (typeOf (.ref e) >>= fun x => isSubtype x (.type "BaseException")) _ _ _
  refine wpAny_bind ?_
  show wpAny _ _ (loadPart e _ >>= _) _ _ _
  refine wpAny_bind (wpAny_loadPart_at he (wpAny_pure ?_))
  refine wpAny_isSubtype_exc hC' ?_
  rw [hcB]
  simp only [Bool.not_true, Bool.false_eq_true, if_false]
  refine wpAny_pure ?_
  refine wpAny_bind (m := isType (.ref C)) ?_
  show wpAny _ _ (loadPart C _ >>= _) _ _ _
  refine wpAny_bind (wpAny_loadPart_at hC' (wpAny_pure ?_))
  dsimp only
  refine wpAny_bind (wpAny_holding ?_)
  unfold raisedFor
  try simp only [Bool.false_eq_true, if_false]
  refine wpAny_bind (wpAny_bind (m := typeOf (.ref e)) ?_)
  show wpAny _ _ (loadPart e _ >>= _) _ _ _
  refine wpAny_bind (wpAny_loadPart_at he (wpAny_pure ?_))
  refine wpAny_pure ?_
  refine wpAny_bind (m := call (.builtin "issubclass") [.ref C, .ref C]) (call_issubclass (s := ⟨h', g, d, tk, os⟩) (issub_own trivial) (And.intro hC' ?_))
  dsimp only [wants]
  refine wpAny_bind (wpAny_truthy_bool ?_)
  simp only [if_true]
  refine wpAny_pure ?_
  unfold setFlight
  refine wpAny_bind (wpAny_bind (wpAny_field (i := 1) (x := Value.none) he rfl rfl ?_))
  rw [if_neg (by decide)]
  exact wpAny_pure (wpAny_raiseNew_none hh (h h' e hm))
theorem raise_ownK {h₀ : Heap} {L a C : Addr} {m mg mb : Str → Option Value} {K : Frag} {p : Program} {loose : List Str} {name : Str} {scope : Scope} {cd : Value} {x : Str} {np pos : Pos} {newId initId B : String} {bmB : List Value} {Q : Flow → Shared → Prop} (F : Fr h₀ L s.heap m) (X : K.In h₀) (T : TopRead p loose mg mb h₀)
    (ex : nsIn K mainGlobals x = some (some (.ref C))) (q : excIn K C bmB newId = true) (FB : ExcBaseFacts B newId initId bmB) (hh : A.handled = none) (h : ∀ h' e, Heap.MadeExcOf s.heap h' e (.ref C) [] → E (.ref e) { s with heap := h' })
    (hk : scope.kind = .function := by rfl) (hx : (envOf name scope L a cd).kindOf x = some .globalImplicit := by rfl) (hd : (x == ("__debug__" : Str)) = false := by decide) :
    wpAny (model prog w) A (exec (.Raise (some (.Name x np)) none pos) (envOf name scope L a cd)) Q E s := by
  have O := own_of_in X T ex q
  obtain ⟨tl, N, nm, q, bs, hdct, sn, sub, ab, col, dd, k0, k1, k2, k3, k5, mN, hC, hN, hni, TL⟩ := O.obj
  exact raise_own_class (C := C) FB (TL.hasType FB.hasBase) hh hni (F.keep _ _ hC) (hN.keeps F.keep) (TL.keeps F.keep) (ld_own F T.g O ⟨rfl, rfl⟩ hk hx hd) h
end
end Mine
namespace Mine
open PySem PySem.W PySem.Calls PyProof.Rows
abbrev kv (w : World) (n : String) (t : Tok) (v : Value) : DictEntry := ⟨PyData.keyHash w.params (Str.ofString n), .str (Str.ofString n) t, v⟩
/-- the reader's names -/
abbrev unpD (w : World) (τ : Nat → Tok) (v : Nat → Value) (H B : Addr) (i : Nat) (ti : Tok) (ck : Nat) (tc : Tok) (room : Nat) (tm : Tok) (rs : Nat) (tr : Tok) (so : Nat) (ts : Tok) : List DictEntry :=
  [kv w "file_like" (τ 0) (.ref H), kv w "_feeding" (τ 1) (.bool false), kv w "_buffer" (τ 2) (.ref B), kv w "_buff_i" (τ 3) (.int (i : Int) ti), kv w "_buf_checkpoint" (τ 4) (.int (ck : Int) tc), kv w "_max_buffer_size" (τ 5) (.int (room : Int) tm), kv w "_read_size" (τ 6) (.int (rs : Int) tr),
   kv w "_raw" (τ 7) (v 7), kv w "_strict_map_key" (τ 8) (v 8), kv w "_unicode_errors" (τ 9) (v 9), kv w "_use_list" (τ 10) (v 10), kv w "_timestamp" (τ 11) (v 11), kv w "_list_hook" (τ 12) (v 12), kv w "_object_hook" (τ 13) (v 13), kv w "_object_pairs_hook" (τ 14) (v 14), kv w "_ext_hook" (τ 15) (v 15),
   kv w "_max_str_len" (τ 16) (v 16), kv w "_max_bin_len" (τ 17) (v 17), kv w "_max_array_len" (τ 18) (v 18), kv w "_max_map_len" (τ 19) (v 19), kv w "_max_ext_len" (τ 20) (v 20), kv w "_stream_offset" (τ 21) (.int (so : Int) ts)]
abbrev parD (w : World) (t1 t2 : Tok) (PL PA : Addr) : List DictEntry := [kv w "parts" t1 (.ref PL), kv w "asked" t2 (.ref PA)]
theorem wpO_If_join {prog : Program} {w : World} {A : Around} {s : Shared} {E : Value → Shared → Prop} {Q : Flow → Shared → Prop} {env : Env} {test : Expr} {body orelse rest : List Stmt} {pos : Pos} {h₀ : Heap} {L : Addr} {m0 : Str → Option Value}
    (_F : Fr h₀ L s.heap m0) (P : (Str → Option Value) → Shared → Prop)
    (h : wpAny (model prog w) A (isTrue test env (eval test env)) (fun b s₂ => if b then wpO (model prog w) A (execs body env) (fun f s' => f = .next ∧ P m0 s') E s₂ else wpO (model prog w) A (execs orelse env) (fun f s' => f = .next ∧ P m0 s') E s₂) E s)
    (k : ∀ s', P m0 s' → wpO (model prog w) A (execs rest env) Q E s') : wpO (model prog w) A (execs (.If test body orelse pos :: rest) env) Q E s := by
  refine wpO_execs_cons (wpO_IfLeaf (wpAny_mono h (fun b s₂ h₂ => ?_) fun _ _ x => x))
  cases b
  · exact wpO_mono h₂ (fun f s' hf => by obtain ⟨rfl, hp⟩ := hf; exact k _ hp) fun _ _ x => x
  · exact wpO_mono h₂ (fun f s' hf => by obtain ⟨rfl, hp⟩ := hf; exact k _ hp) fun _ _ x => x
theorem Only.newsN {adr : List Addr} {h h' h₀ : Heap} {L : Addr} {news : List (Addr × Obj)} (O : Only adr h h') (N : News h₀ L h news) (hn : (news.map (·.1)).all (fun a => !(adr.contains a)) = true) : News h₀ L h' news :=
  O.news N fun p hp hm => by
    have := List.all_eq_true.mp hn p.1 (List.mem_map_of_mem hp)
    rw [List.contains_iff_mem.mpr hm] at this
    cases this
theorem fill_sum (rs : Nat) : ∀ (lack : Nat) (ps : List (List UInt8)), (fill rs lack ps).1.length + total (fill rs lack ps).2.1 = total ps := by
  intro lack
  induction lack using Nat.strongRecOn with
  | ind lack ih =>
    intro ps
    by_cases h : lack = 0
    · subst h; rw [fill_zero]; simp
    have hg := total_given ps (max rs lack)
    by_cases g : (given ps (max rs lack)).1 = []
    · rw [fill_stop h g]; rw [g] at hg; exact hg
    · have g0 : (given ps (max rs lack)).1.length ≠ 0 := fun e => g (List.length_eq_zero_iff.mp e)
      have := ih (lack - (given ps (max rs lack)).1.length) (by omega) (given ps (max rs lack)).2
      rw [fill_more h g]
      simp only [List.length_append]
      omega
theorem fill_left (rs : Nat) : ∀ (lack : Nat) (ps : List (List UInt8)), (fill rs lack ps).2.2.2 = lack - (fill rs lack ps).1.length := by
  intro lack
  induction lack using Nat.strongRecOn with
  | ind lack ih =>
    intro ps
    by_cases h : lack = 0
    · subst h; rw [fill_zero]; rfl
    by_cases g : (given ps (max rs lack)).1 = []
    · rw [fill_stop h g]; rfl
    · have g0 : (given ps (max rs lack)).1.length ≠ 0 := fun e => g (List.length_eq_zero_iff.mp e)
      have := ih (lack - (given ps (max rs lack)).1.length) (by omega) (given ps (max rs lack)).2
      rw [fill_more h g]
      simp only [List.length_append]
      omega
theorem fill_mem (rs z : Nat) : ∀ (lack : Nat) (ps : List (List UInt8)), (∀ b ∈ ps, b.length ≤ z) → ∀ b ∈ (fill rs lack ps).2.1, b.length ≤ z := by
  intro lack
  induction lack using Nat.strongRecOn with
  | ind lack ih =>
    intro ps hp
    by_cases h : lack = 0
    · subst h; rw [fill_zero]; exact hp
    by_cases g : (given ps (max rs lack)).1 = []
    · rw [fill_stop h g]; exact mem_given hp
    · have g0 : (given ps (max rs lack)).1.length ≠ 0 := fun e => g (List.length_eq_zero_iff.mp e)
      rw [fill_more h g]
      exact ih (lack - (given ps (max rs lack)).1.length) (by omega) (given ps (max rs lack)).2 (mem_given hp)
theorem fill_len (rs : Nat) : ∀ (lack : Nat) (ps : List (List UInt8)), (fill rs lack ps).2.1.length ≤ ps.length := by
  intro lack
  induction lack using Nat.strongRecOn with
  | ind lack ih =>
    intro ps
    by_cases h : lack = 0
    · subst h; rw [fill_zero]; exact Nat.le_refl _
    by_cases g : (given ps (max rs lack)).1 = []
    · rw [fill_stop h g]; exact length_given _ _
    · have g0 : (given ps (max rs lack)).1.length ≠ 0 := fun e => g (List.length_eq_zero_iff.mp e)
      rw [fill_more h g]
      exact Nat.le_trans (ih (lack - (given ps (max rs lack)).1.length) (by omega) (given ps (max rs lack)).2) (length_given _ _)
theorem fill_asks (rs : Nat) : ∀ (lack : Nat) (ps : List (List UInt8)), (fill rs lack ps).2.2.1.length ≤ lack := by
  intro lack
  induction lack using Nat.strongRecOn with
  | ind lack ih =>
    intro ps
    by_cases h : lack = 0
    · subst h; rw [fill_zero]; exact Nat.le_refl _
    by_cases g : (given ps (max rs lack)).1 = []
    · rw [fill_stop h g]; simp; omega
    · have g0 : (given ps (max rs lack)).1.length ≠ 0 := fun e => g (List.length_eq_zero_iff.mp e)
      have := ih (lack - (given ps (max rs lack)).1.length) (by omega) (given ps (max rs lack)).2
      rw [fill_more h g]
      simp only [List.length_cons]
      omega
theorem len_baN {prog : Program} {w : World} {A : Around} {E : Value → Shared → Prop} {s : Shared} {Q : Value → Shared → Prop} {h₀ : Heap} {L B : Addr} {news : List (Addr × Obj)} {xs : List UInt8} (N : News h₀ L s.heap news) (hB : (B, baObj xs) ∈ news) (hz : xs.length ≤ sizeLine)
    (h : Q (.int xs.length (s.toks + 1)) { s with toks := s.toks + 1 + 1 }) : wpAny (model prog w) A (call (.builtin "len") [.ref B]) Q E s := len_ba (N _ hB).1 hz h
theorem while_ofO {prog : Program} {w : World} {A : Around} {s : Shared} {R : Result → Shared → Prop} {test : Expr} {body orelse : List Stmt} {env : Env} {h₀ : Heap} {L : Addr} {m0 : Str → Option Value} (_F : Fr h₀ L s.heap m0) (I : (Str → Option Value) → Nat → Shared → Prop)
    (turn : ∀ n s, I m0 n s →
      wpAny (model prog w) A (isTrue test env (eval test env)) (fun b s₂ =>
        if b then wpO (model prog w) A (execs body env) (fun f s₃ => match f with
            | .next | .cont => Stop (∃ m, m < n ∧ I m0 m s₃)
            | .brk => R (.ok .next) s₃
            | .ret v => R (.ok (.ret v)) s₃) (notedBy (model prog w) A env fun e s' => R (.error e) s') s₂
        else wpAny (model prog w) A (execs orelse env) (fun f s₃ => R (.ok f) s₃) (notedBy (model prog w) A env fun e s' => R (.error e) s') s₂)
        (notedBy (model prog w) A env fun e s' => R (.error e) s') s)
    (n : Nat) (h : I m0 n s) : codeO (model prog w) A (.whileLoop test body orelse env) R s := codeO_whileLoop (I m0) turn n h
theorem wpO_While_join {prog : Program} {w : World} {A : Around} {s : Shared} {E : Value → Shared → Prop} {Q : Flow → Shared → Prop} {test : Expr} {body rest : List Stmt} {pos : Pos} {env : Env} {h₀ : Heap} {L : Addr} {m0 : Str → Option Value} (F : Fr h₀ L s.heap m0)
    (I : (Str → Option Value) → Nat → Shared → Prop) (P : (Str → Option Value) → Shared → Prop)
    (turn : ∀ n s, I m0 n s →
      wpAny (model prog w) A (isTrue test env (eval test env)) (fun b s₂ =>
        if b then wpO (model prog w) A (execs body env) (fun f s₃ => match f with
            | .next | .cont => Stop (∃ m, m < n ∧ I m0 m s₃)
            | .brk => Stop (P m0 s₃)
            | .ret _ => False) (notedBy (model prog w) A env (cameBackBy (model prog w) A env E)) s₂
        else Stop (P m0 s₂)) (notedBy (model prog w) A env (cameBackBy (model prog w) A env E)) s)
    (n : Nat) (h : I m0 n s) (k : ∀ s', P m0 s' → wpO (model prog w) A (execs rest env) Q E s') : wpO (model prog w) A (execs (.While test body [] pos :: rest) env) Q E s := by
  refine wpO_execs_cons (wpO_While (while_ofO F I (fun n s hI => ?_) n h))
  refine wpAny_mono (turn n s hI) (fun b s₂ h₂ => ?_) fun _ _ x => x
  cases b
  · exact wpAny_execs_nil (k _ h₂)
  · refine wpO_mono h₂ (fun f s₃ h₃ => ?_) fun _ _ x => x
    cases f
    · exact h₃
    · exact k _ h₃
    · exact h₃
    · exact h₃.elim
theorem wpO_tok {α : Type} {M : Model} {A : Around} {t : Sem α} {Q : α → Shared → Prop} {E : Value → Shared → Prop} {s : Shared} {h₀ h : Heap} {L : Addr} {m : Str → Option Value} {g : Array GenState} {d : Drawn} {o : OsState} (_F : Fr h₀ L h m)
    (e1 : s.heap = h) (e2 : s.gens = g) (e3 : s.drawn = d) (e4 : s.os = o) (k : ∀ tk, wpO M A t Q E ⟨h, g, d, tk, o⟩) : wpO M A t Q E s := by
  subst e1 e2 e3 e4
  exact k s.toks
theorem wpAny_tok {α : Type} {M : Model} {A : Around} {t : Sem α} {Q : α → Shared → Prop} {E : Value → Shared → Prop} {s : Shared} {h₀ h : Heap} {L : Addr} {m : Str → Option Value} {g : Array GenState} {d : Drawn} {o : OsState} (_F : Fr h₀ L h m)
    (e1 : s.heap = h) (e2 : s.gens = g) (e3 : s.drawn = d) (e4 : s.os = o) (k : ∀ tk, wpAny M A t Q E ⟨h, g, d, tk, o⟩) : wpAny M A t Q E s := by
  subst e1 e2 e3 e4
  exact k s.toks
theorem codeO_tok {M : Model} {A : Around} {c : Code} {R : Result → Shared → Prop} {s : Shared} {h₀ h : Heap} {L : Addr} {m : Str → Option Value} {g : Array GenState} {d : Drawn} {o : OsState} (_F : Fr h₀ L h m)
    (e1 : s.heap = h) (e2 : s.gens = g) (e3 : s.drawn = d) (e4 : s.os = o) (k : ∀ tk, codeO M A c R ⟨h, g, d, tk, o⟩) : codeO M A c R s := by
  subst e1 e2 e3 e4
  exact k s.toks
/-- what the reader's reserve does: 0 done, 1 full, 2 out of data; buffer, place in it, told place in it, parts left, sizes asked -/
def reserveR (rs room : Nat) (xs : List UInt8) (i ck : Nat) (ps : List (List UInt8)) (n : Nat) (raise : Bool) : Nat × List UInt8 × Nat × Nat × List (List UInt8) × List Int :=
  if i + n ≤ xs.length then (0, xs, i, ck, ps, [])
  else if i + n - xs.length + (xs.length - ck) > room then (1, xs.drop ck, i - ck, 0, ps, [])
  else if (xs.drop ck ++ (fill rs (i + n - xs.length) ps).1).length < n + (i - ck) ∧ raise = true then (2, xs.drop ck ++ (fill rs (i + n - xs.length) ps).1, 0, 0, (fill rs (i + n - xs.length) ps).2.1, (fill rs (i + n - xs.length) ps).2.2.1)
  else (0, xs.drop ck ++ (fill rs (i + n - xs.length) ps).1, i - ck, 0, (fill rs (i + n - xs.length) ps).2.1, (fill rs (i + n - xs.length) ps).2.2.1)
section
variable {rs room : Nat} {xs : List UInt8} {i ck : Nat} {ps : List (List UInt8)} {n : Nat} {raise : Bool}
theorem reserveR_ok (h : i + n ≤ xs.length) : reserveR rs room xs i ck ps n raise = (0, xs, i, ck, ps, []) := by unfold reserveR; rw [if_pos h]
theorem reserveR_full (h : ¬ i + n ≤ xs.length) (h2 : i + n - xs.length + (xs.length - ck) > room) : reserveR rs room xs i ck ps n raise = (1, xs.drop ck, i - ck, 0, ps, []) := by unfold reserveR; rw [if_neg h, if_pos h2]
theorem reserveR_short {d : List UInt8} {px : List (List UInt8)} {az : List Int} {k : Nat} (h : ¬ i + n ≤ xs.length) (h2 : ¬ i + n - xs.length + (xs.length - ck) > room) (hf : fill rs (i + n - xs.length) ps = (d, px, az, k))
    (hk : (xs.drop ck ++ d).length < n + (i - ck)) (hr : raise = true) : reserveR rs room xs i ck ps n raise = (2, xs.drop ck ++ d, 0, 0, px, az) := by
  unfold reserveR; rw [if_neg h, if_neg h2, hf, if_pos ⟨hk, hr⟩]
theorem reserveR_fine {d : List UInt8} {px : List (List UInt8)} {az : List Int} {k : Nat} (h : ¬ i + n ≤ xs.length) (h2 : ¬ i + n - xs.length + (xs.length - ck) > room) (hf : fill rs (i + n - xs.length) ps = (d, px, az, k))
    (hk : ¬ ((xs.drop ck ++ d).length < n + (i - ck) ∧ raise = true)) : reserveR rs room xs i ck ps n raise = (0, xs.drop ck ++ d, i - ck, 0, px, az) := by
  unfold reserveR; rw [if_neg h, if_neg h2, hf, if_neg hk]
end
theorem reserveR_le {rs room : Nat} {xs : List UInt8} {i ck : Nat} {ps : List (List UInt8)} {n : Nat} {raise : Bool} : (reserveR rs room xs i ck ps n raise).2.1.length ≤ xs.length + total ps := by
  have := fill_sum rs (i + n - xs.length) ps
  unfold reserveR
  split
  · simp
  split
  · simp; omega
  split
  · simp; omega
  · simp; omega
theorem reserveR_ck {rs room : Nat} {xs : List UInt8} {i ck : Nat} {ps : List (List UInt8)} {n : Nat} {raise : Bool} (h : ck ≤ i) : (reserveR rs room xs i ck ps n raise).2.2.2.1 ≤ (reserveR rs room xs i ck ps n raise).2.2.1 := by
  unfold reserveR
  split
  · exact h
  split
  · exact Nat.zero_le _
  split
  · exact Nat.zero_le _
  · exact Nat.zero_le _
theorem bytes_of_baN {prog : Program} {w : World} {A : Around} {E : Value → Shared → Prop} {s : Shared} {Q : Value → Shared → Prop} {h₀ : Heap} {L B : Addr} {news : List (Addr × Obj)} {xs : List UInt8} (N : News h₀ L s.heap news) (hB : (B, baObj xs) ∈ news) (hz : xs.length ≤ sizeLine)
    (h : Q (.bytes xs.toArray s.toks) { s with toks := s.toks + 1 }) : wpAny (model prog w) A (call (.type "bytes") [.ref B]) Q E s := bytes_of_ba (N _ hB).1 hz h
end Mine
namespace Mine
open PySem PySem.W PySem.Calls PyProof.Rows
theorem wt_C4 : True := by
  w_top off
  trivial
local macro_rules | `(tactic| k_ne) => `(tactic| (refine neN ?_; (try dsimp only); first | assumption | (refine Ne.symm ?_; assumption) | omega))
local macro_rules | `(tactic| k_room) => `(tactic| exact Nat.le_of_ble_eq_true rfl)
local macro_rules | `(tactic| walk_at "my size") => `(tactic| ((try simp only [List.length_cons, List.length_nil, List.length_append, List.size_toArray, List.length_take, List.length_drop]); rw [sizeLine_eq]; omega))
local macro_rules | `(tactic| walk_at "call builtin:len") => `(tactic| (k_here; (with_reducible show wpAny _ _ (call (Value.builtin "len") [Value.bytes (List.toArray _) _]) _ _ _); k_dflt (refine' len_by ?z ?_; (case z => walk_at "my size"))))
local macro_rules | `(tactic| walk_at "call builtin:len") => `(tactic| (k_here; (with_reducible show wpAny _ _ (call (Value.builtin "len") [Value.ref _]) _ _ _); k_dflt (refine' len_baN (xs := _) ?n ?m ?z ?_; (case n => k_asm); (case m => k_mem); (case z => walk_at "my size"))))
local macro_rules | `(tactic| walk_at "call builtin:max") => `(tactic| (k_here; (with_reducible show wpAny _ _ (call (Value.builtin "max") [Value.int _ _, Value.int _ _]) _ _ _); k_dflt (refine' max_nat ?k1 ?k2 ?k3 ?_; (case k1 => exact rfl); (case k2 => k_asm); (case k3 => k_asm)); intro h' tk' t' F' N'))
local macro_rules | `(tactic| walk_at "exec Raise some none") => `(tactic| (k_here; (with_reducible show wpAny _ _ (exec (Stmt.Raise (some (Expr.Name _ _)) none _) _) _ _ _); k_dflt (refine' raise_ownK (bmB := [.type "Exception", .type "BaseException", .type "object"]) (newId := "Exception.__new__") ?F ?X ?T ?ex ?q PySem.F.excBase_Exception ?h ?_; (case F => k_asm); (case X => k_asm); (case T => k_asm); (case ex => k_is); (case q => k_exc); (case h => rfl))))
local macro_rules | `(tactic| walk_at "leaving ref") => `(tactic| (k_here; refine stop_of ?_))
local macro_rules | `(tactic| walk_at "call ref") => `(tactic| (k_here; (with_reducible show wpAny _ _ (call (Value.ref 471) [_, _] _) _ _ _); refine stop_of ?_))
local macro_rules | `(tactic| walk_at "truthy bytes") => `(tactic| (k_here; (with_reducible show wpAny _ _ (truthy (Value.bytes (List.toArray _) _)) _ _ _); k_dflt (refine' truthy_by ?z ?_; (case z => walk_at "my size")); (try simp only [List.isEmpty_cons, List.isEmpty_nil, Bool.not_false, Bool.not_true])))
theorem U_reserve {prog : Program} {w : World} {A₀ : Around} {base h₀ : Heap} {L : Addr} {m : Str → Option Value} {mg mb : Str → Option Value} {p : Program} {loose : List Str} {mean : ExcName → Option Value} {env : Env} {outer : List Env} {s : Shared} {Q E : Value → Shared → Prop}
    {H dH PL PA U dU Bf : Addr} {t1 t2 ti tc tm tr ts : Tok} {τ : Nat → Tok} {v : Nat → Value} {nd nw na : Nat} {ws as : List Value} {ns : List Int} {ps : List (List UInt8)} {xs : List UInt8} {i ck room rs so n : Nat} {raise : Bool} {kt : Tok} {pos : List Value} {kw : List (Str × Value)}
    (B : Below A₀ base outer h₀) (F : Fr h₀ L s.heap m) (X : (MineHead.hd.heap_39 w.params).In h₀) (T : Top p loose mean mg mb h₀) (hf : env.frame = some L) (hke : env.scope.kind = .function)
    (N : News h₀ L s.heap [(H, instObj 481 dH), (dH, dictOf (parD w t1 t2 PL PA) nd), (PL, listOf ws.toArray nw), (PA, listOf as.toArray na), (U, instObj 445 dU), (dU, dictOf (unpD w τ v H Bf i ti ck tc room tm rs tr so ts) 22), (Bf, baObj xs)])
    (hd : List.Nodup ([H, dH, PL, PA, U, dU, Bf] : List Nat)) (hw : BAre ws ps) (has : IntsAre as ns) (hza : ns.length ≤ 900) (hzw : ws.length ≤ 1000) (hzp : ∀ b ∈ ps, b.length ≤ 1000) (hzx : xs.length ≤ 10000) (hzt : total ps ≤ 10000) (hzn : i + n ≤ xs.length + 50) (hrs : 1 ≤ rs) (hci : ck ≤ i) (hix : i ≤ xs.length)
    (ha : pos = [.ref U, .int (n : Int) kt] ∧ kw = [(Str.ofString "raise_outofdata", .bool raise)] ∨ pos = [.ref U, .int (n : Int) kt] ∧ kw = [] ∧ raise = true)
    (hq : ∀ h' tk' ti' tc' nd' nw' na' ws' as', (reserveR rs room xs i ck ps n raise).1 = 0 → Only [H, dH, PL, PA, U, dU, Bf] s.heap h' → Fr h₀ L h' m →
      News h₀ L h' [(H, instObj 481 dH), (dH, dictOf (parD w t1 t2 PL PA) nd'), (PL, listOf (List.toArray ws') nw'), (PA, listOf (List.toArray as') na'), (U, instObj 445 dU), (dU, dictOf (unpD w τ v H Bf (reserveR rs room xs i ck ps n raise).2.2.1 ti' (reserveR rs room xs i ck ps n raise).2.2.2.1 tc' room tm rs tr so ts) 22), (Bf, baObj (reserveR rs room xs i ck ps n raise).2.1)] →
      BAre ws' (reserveR rs room xs i ck ps n raise).2.2.2.2.1 → IntsAre as' (ns ++ (reserveR rs room xs i ck ps n raise).2.2.2.2.2) → Q .none { s with heap := h', toks := tk' })
    (hE : ∀ C e t vs h' g₂ tk' ti' tc' nd' nw' na' ws' as', ((reserveR rs room xs i ck ps n raise).1 = 1 ∧ C = 79 ∨ (reserveR rs room xs i ck ps n raise).1 = 2 ∧ C = 91) → Only [H, dH, PL, PA, U, dU, Bf] s.heap g₂ → Fr h₀ L g₂ m →
      RaisedS base g₂ (env :: outer) e (.ref C) t vs [(H, instObj 481 dH), (dH, dictOf (parD w t1 t2 PL PA) nd'), (PL, listOf (List.toArray ws') nw'), (PA, listOf (List.toArray as') na'), (U, instObj 445 dU), (dU, dictOf (unpD w τ v H Bf (reserveR rs room xs i ck ps n raise).2.2.1 ti' (reserveR rs room xs i ck ps n raise).2.2.2.1 tc' room tm rs tr so ts) 22), (Bf, baObj (reserveR rs room xs i ck ps n raise).2.1)] h' →
      g₂.UpToSlots h' → BAre ws' (reserveR rs room xs i ck ps n raise).2.2.2.2.1 → IntsAre as' (ns ++ (reserveR rs room xs i ck ps n raise).2.2.2.2.2) → E (.ref e) { s with heap := h', toks := tk' }) :
    wpO (model prog w) (AA 400 1000 env outer) (call (.ref 378) pos kw) Q E s := by
  simp only [List.nodup_cons, List.mem_cons, List.not_mem_nil, or_false, not_or, List.nodup_nil, and_true, not_false_eq_true] at hd
  obtain ⟨⟨q1, q2, q3, q4, q5, q6⟩, ⟨q7, q8, q9, q10, q11⟩, ⟨q12, q13, q14, q15⟩, ⟨q16, q17, q18⟩, ⟨q19, q20⟩, q21⟩ := hd
  refine wpO_call ?_
  k_dflt (refine' codeO_def ?k1 ?k2 ?k3 ?k4 ?k5 ?kA ?kF ?kK ?k6 ?k7 ?k8 ?k9 ?kB ?_ ?c2 ?c3 ?c4 ?c5; (case kA => exact rfl); (case kF => exact hf); (case kK => exact hke); (case k1 => k_asm); (case k2 => k_asm); (case k3 => k_asm); (case k4 => k_asm); (case k5 => k_asm); (case k6 => k_is); (case k7 => k_is); (case k8 => exact Nat.le_of_ble_eq_true rfl); (case k9 => (rcases ha with ⟨rfl, rfl⟩ | ⟨rfl, rfl, rfl⟩ <;> exact kp_binds (binds := [(Str.ofString "self", .ref U), (Str.ofString "n", .int (n : Int) kt), (Str.ofString "raise_outofdata", .bool _)]) (X.keeps F.keep) (fun S => by with_unfolding_all rfl))); (case c5 => decide); (case kB => exact locs rfl); (case c2 => exact rfl); (case c3 => exact rfl); (case c4 => exact rfl))
  intro g' L' h' FG' F' N' B' X' T' hlt hO
  dsimp only
  refine wpO_leaf ?_
  k_steps
  (with_reducible rename Fr g' L' _ _ => F1)
  (with_reducible rename News g' L' _ _ => N1)
  dsimp only at F1 N1
  refine wpO_tok (g := s.gens) (d := s.drawn) (o := s.os) F1 rfl rfl rfl rfl (fun tk1 => ?_)
  refine wpO_leaf ?_
  k_steps
  · (with_reducible rename (0 : Int) ≤ _ => c1)
    (with_reducible rename Fr h₀ _ _ _ => kF)
    (with_reducible rename News h₀ _ _ _ => kN)
    have hq' := hq
    rw [reserveR_ok (by omega)] at hq'
    exact hq' _ _ _ _ _ _ _ ws as rfl (fun b o hb e => F1.keep b o (hO b o hb e)) kF kN hw (by rw [List.append_nil]; exact has)
  (with_reducible rename ¬ (0 : Int) ≤ _ => c1)
  refine wpO_leaf ?_
  k_steps
  refine wpO_tok (g := s.gens) (d := s.drawn) (o := s.os) F1 rfl rfl rfl rfl (fun tk2 => ?_)
  refine wpO_If_join F1 (fun m0 σ => ∃ (h₁ : Heap) (tk₁ : Nat) (ti₁ tc₁ : Tok), σ = ⟨h₁, s.gens, s.drawn, tk₁, s.os⟩ ∧ Fr g' L' h₁ m0 ∧
    News g' L' h₁ [(H, instObj 481 dH), (dH, dictOf (parD w t1 t2 PL PA) nd), (PL, listOf ws.toArray nw), (PA, listOf as.toArray na), (U, instObj 445 dU), (dU, dictOf (unpD w τ v H Bf (i - ck) ti₁ 0 tc₁ room tm rs tr so ts) 22), (Bf, baObj (xs.drop ck))]) ?if1 ?rest
  case if1 =>
    k_steps
    · refine wpO_execs_cons (wpO_Delete1 ?_)
      k_steps
      refine wpO_delItem_ba (F1.push _) (News.pushKeep N1 _) (by k_dflt k_upd) (Heap.IsSliceOf.new _ _ _ _) (by omega) (by rw [sizeLine_eq]; omega) (fun h₂ F₂ N₂ => ?_)
      refine wpO_tok (g := s.gens) (d := s.drawn) (o := s.os) F₂ rfl rfl rfl rfl (fun tk3 => ?_)
      refine wpO_leaf ?_
      k_steps
      (with_reducible rename Fr g' L' _ _ => F3)
      (with_reducible rename News g' L' _ _ => N3)
      dsimp only at F3 N3
      refine wpO_tok (g := s.gens) (d := s.drawn) (o := s.os) F3 rfl rfl rfl rfl (fun tk4 => ?_)
      refine wpO_leaf ?_
      k_steps
      (with_reducible rename Fr g' L' _ _ => F4)
      (with_reducible rename News g' L' _ _ => N4)
      dsimp only at F4 N4
      refine wpO_tok (g := s.gens) (d := s.drawn) (o := s.os) F4 rfl rfl rfl rfl (fun tk5 => ?_)
      rw [show (i : Int) - (ck : Int) = ((i - ck : Nat) : Int) from by omega] at N4
      exact wpO_execs_nil ⟨rfl, _, _, _, _, rfl, F4, N4⟩
    · (with_reducible rename ¬ (0 : Int) < _ => c2)
      refine wpO_execs_nil ⟨rfl, _, _, ti, tc, rfl, F1, ?_⟩
      obtain rfl : ck = 0 := by omega
      exact N1
  case rest =>
    rintro σ ⟨h₁, tk₁, ti₁, tc₁, rfl, F₁, N₁⟩
    clear F1 N1
    refine wpO_leaf ?_
    k_steps
    (with_reducible rename Fr g' L' _ _ => F5)
    (with_reducible rename News g' L' _ _ => N5)
    dsimp only at F5 N5
    refine wpO_tok (g := s.gens) (d := s.drawn) (o := s.os) F5 rfl rfl rfl rfl (fun tk5 => ?_)
    refine wpO_leaf ?_
    k_steps
    · refine go_of ?_
      (with_reducible rename Heap.MadeExcOf _ _ _ _ _ => hmE)
      (with_reducible rename (_ : Int) < _ => c2)
      rw [List.length_drop] at c2
      refine leave_raiseS B' hmE F5 N5 (fun h3 t3 R3 _ U3 => ?_)
      have hE' := hE
      rw [reserveR_full (by omega) (by omega)] at hE'
      exact hE' 79 _ _ _ _ _ _ _ _ _ _ _ ws as (.inl ⟨rfl, rfl⟩) hO FG' R3 U3 hw (by rw [List.append_nil]; exact has)
    · (with_reducible rename ¬ (_ : Int) < _ => c2)
      rw [List.length_drop] at c2
      refine wpO_tok (g := s.gens) (d := s.drawn) (o := s.os) F5 rfl rfl rfl rfl (fun tk6 => ?_)
      refine wpO_While_join F5 (fun m0 k σ => ∃ (hh : Heap) (tk : Nat) (d : List UInt8) (az : List Int) (px : List (List UInt8)) (wx ax : List Value) (nd2 nw2 na2 : Nat) (li : Int) (lt : Tok) (oT oR : Option Value),
        σ = ⟨hh, s.gens, s.drawn, tk, s.os⟩ ∧ Fr g' L' hh (fun y => if y = Str.ofString "read_data" then oR else if y = Str.ofString "to_read_bytes" then oT else if y = Str.ofString "remain_bytes" then some (.int li lt) else m0 y) ∧
        News g' L' hh [(H, instObj 481 dH), (dH, dictOf (parD w t1 t2 PL PA) nd2), (PL, listOf (List.toArray wx) nw2), (PA, listOf (List.toArray ax) na2), (U, instObj 445 dU), (dU, dictOf (unpD w τ v H Bf (i - ck) ti₁ 0 tc₁ room tm rs tr so ts) 22), (Bf, baObj (xs.drop ck ++ d))] ∧
        BAre wx px ∧ IntsAre ax (ns ++ az) ∧ (li = (k : Int) ∨ k = 0 ∧ li ≤ 0) ∧ k ≤ i + n - xs.length ∧ (d.length + total px = total ps) ∧ wx.length ≤ 1000 ∧ (∀ b ∈ px, b.length ≤ 1000) ∧ (az.length ≤ i + n - xs.length - k) ∧
        fill rs (i + n - xs.length) ps = after d az (fill rs k px))
        (fun m0 σ => ∃ (hh : Heap) (tk : Nat) (d : List UInt8) (az : List Int) (px : List (List UInt8)) (wx ax : List Value) (nd2 nw2 na2 k : Nat) (li : Int) (lt : Tok) (oT oR : Option Value),
        σ = ⟨hh, s.gens, s.drawn, tk, s.os⟩ ∧ Fr g' L' hh (fun y => if y = Str.ofString "read_data" then oR else if y = Str.ofString "to_read_bytes" then oT else if y = Str.ofString "remain_bytes" then some (.int li lt) else m0 y) ∧
        News g' L' hh [(H, instObj 481 dH), (dH, dictOf (parD w t1 t2 PL PA) nd2), (PL, listOf (List.toArray wx) nw2), (PA, listOf (List.toArray ax) na2), (U, instObj 445 dU), (dU, dictOf (unpD w τ v H Bf (i - ck) ti₁ 0 tc₁ room tm rs tr so ts) 22), (Bf, baObj (xs.drop ck ++ d))] ∧
        BAre wx px ∧ IntsAre ax (ns ++ az) ∧ d.length ≤ 10000 ∧ fill rs (i + n - xs.length) ps = (d, px, az, k)) ?turn (i + n - xs.length) ?start ?rest2
      case start =>
        refine' ⟨_, _, [], [], ps, ws, as, nd, nw, na, -((xs.length : Int) - (i : Int) - (n : Int)), ?lt1, none, none, rfl, fr_congr F5 (fun y => ?hm1), by rw [List.append_nil]; exact N5, hw, by rw [List.append_nil]; exact has, .inl (by omega), Nat.le_refl _, by simp, hzw, hzp, by simp, (after_nil _).symm⟩
        case hm1 =>
          by_cases c5 : y = Str.ofString "remain_bytes"
          · subst c5; with_unfolding_all rfl
          by_cases c3 : y = Str.ofString "read_data"
          · subst c3; with_unfolding_all rfl
          by_cases c4 : y = Str.ofString "to_read_bytes"
          · subst c4; with_unfolding_all rfl
          simp only [if_neg c3, if_neg c4, if_neg c5]
      case turn =>
        rintro k σ ⟨hh, tk, d, az, px, wx, ax, nd2, nw2, na2, li, lt, oT, oR, rfl, F2, N2, hw2, ha2, hli, hk2, hsum, hz2, hp2, hz3, hfill⟩
        have hlw := hw2.length
        clear F5 N5
        rcases Nat.eq_zero_or_pos k with hk0 | hk0
        · have hl0 : ¬ (0 : Int) < li := by omega
          k_steps
          subst hk0
          rw [after_zero] at hfill
          exact go_of ⟨_, _, d, az, px, wx, ax, nd2, nw2, na2, 0, li, lt, oT, oR, rfl, F2, N2, hw2, ha2, by omega, hfill⟩
        · obtain rfl : li = (k : Int) := by omega
          k_steps
          refine wpO_leaf ?_
          k_steps
          (with_reducible rename Fr g' L' _ _ => F6)
          (with_reducible rename News g' L' _ _ => N6)
          (try dsimp only at F6 N6)
          refine wpO_tok (g := s.gens) (d := s.drawn) (o := s.os) F6 rfl rfl rfl rfl (fun tk7 => ?_)
          refine wpO_leaf ?_
          k_steps
          refine go_of ?_
          refine wpAny_upto (d := 410) (u := 1100) (env := envOf _ _ _ _ _) ⟨rfl, Nat.le_of_ble_eq_true rfl, rfl, Nat.le_of_ble_eq_true rfl⟩ (P_read (k := max rs k) (ps := px) (ws := wx) (as := ax) (H := H) (PL := PL) (PA := PA) (dH := dH) (t1 := t1) (t2 := t2) (nd := nd2) (nw := nw2) (na := na2) B' F6 X' T' rfl rfl (fun q hq => N6 q (List.mem_append_left _ hq)) hw2 q1 q2 q3 q7 q8 q12 ?za ?zw hp2 ?hq)
          case za =>
            have := ha2.length
            rw [List.length_append] at this
            omega
          case zw => exact hz2
          case hq =>
            intro h3 tk3 t3 nd3 nw3 na3 ws3 O3 F3 N3 hw3
            have hO3 : Only [H, dH, PL, PA, U, dU, Bf] g' h3 := fun b o _ e => F3.keep b o e
            have N4 : News g' L' h3 [(H, instObj 481 dH), (dH, dictOf (parD w t1 t2 PL PA) nd3), (PL, listOf (List.toArray ws3) nw3), (PA, listOf (List.toArray (ax ++ [Value.int ((max rs k : Nat) : Int) _])) na3), (U, instObj 445 dU), (dU, dictOf (unpD w τ v H Bf (i - ck) ti₁ 0 tc₁ room tm rs tr so ts) 22), (Bf, baObj (xs.drop ck ++ d))] :=
              News.append N3 (O3.news (fun q hq => N6 q (List.mem_append_right [_, _, _, _] hq)) (fun q hq => by
                simp only [List.mem_cons, List.not_mem_nil, or_false] at hq ⊢
                rcases hq with rfl | rfl | rfl
                · exact fun e => e.elim (fun e => q4 e.symm) (fun e => e.elim (fun e => q9 e.symm) (fun e => e.elim (fun e => q13 e.symm) (fun e => q16 e.symm)))
                · exact fun e => e.elim (fun e => q5 e.symm) (fun e => e.elim (fun e => q10 e.symm) (fun e => e.elim (fun e => q14 e.symm) (fun e => q17 e.symm)))
                · exact fun e => e.elim (fun e => q6 e.symm) (fun e => e.elim (fun e => q11 e.symm) (fun e => e.elim (fun e => q15 e.symm) (fun e => q18 e.symm)))))
            have hg0 := total_given px (max rs k)
            have hg1 := length_given px (max rs k)
            have hg2 := mem_given (k := max rs k) hp2
            have hg3 := given_le (k := max rs k) hp2
            have hg4 := hw3.length
            have hs1 := @after_stop rs k d az px (by omega)
            have hs2 := @after_more rs k d az px (by omega)
            clear F6 N6 N3
            revert hw3 hg0 hg1 hg2 hg3 hg4 hs1 hs2
            rcases hgv : given px (max rs k) with ⟨dd, px3⟩
            intro hw3 hg0 hg1 hg2 hg3 hg4 hs1 hs2
            dsimp only at hw3 hg0 hg1 hg2 hg3 hg4 hs1 hs2 ⊢
            cases dd with
            | nil =>
              have hf3 := hfill.trans (hs1 rfl)
              k_steps
              refine wpO_leaf ?_
              k_steps
              (with_reducible rename Fr g' L' _ _ => F7)
              (with_reducible rename News g' L' _ _ => N7)
              (try dsimp only at F7 N7)
              exact go_of ⟨_, _, d, _, px3, ws3, _, nd3, nw3, na3, k, (k : Int), lt, _, _, rfl, fr_congr F7 (fun y => by
                by_cases c3 : y = Str.ofString "read_data"
                · subst c3; with_unfolding_all rfl
                by_cases c4 : y = Str.ofString "to_read_bytes"
                · subst c4; with_unfolding_all rfl
                simp only [if_neg c3, if_neg c4]), N7, hw3, (by rw [← List.append_assoc]; exact ha2.append (.cons _ _ .nil)), by omega, hf3⟩
            | cons x dd =>
              simp only [List.length_cons] at hg0 hg3 hs2
              k_steps
              refine wpO_leaf ?_
              k_steps
              refine wpO_leaf ?_
              k_steps
              refine wpO_execs_cons (wpO_AugAttr ?_)
              k_steps
              (with_reducible rename Fr g' L' _ _ => F7)
              (with_reducible rename News g' L' _ _ => N7)
              (try dsimp only at F7 N7)
              refine wpO_iadd_ba (xs := xs.drop ck ++ d) F7 N7 (by k_dflt k_upd) ?z7 (fun h8 F8 N8 => ?_)
              case z7 => walk_at "my size"
              k_steps
              (with_reducible rename Fr g' L' _ _ => F9)
              (with_reducible rename News g' L' _ _ => N9)
              (try dsimp only at F9 N9)
              refine wpO_tok (g := s.gens) (d := s.drawn) (o := s.os) F9 rfl rfl rfl rfl (fun tk9 => ?_)
              refine wpO_leaf ?_
              k_steps
              (with_reducible rename Fr g' L' _ _ => FA)
              (with_reducible rename News g' L' _ _ => NA)
              (try dsimp only at FA NA)
              refine wpO_execs_nil ?_
              refine' go_of ⟨k - (dd.length + 1), by omega, _, _, d ++ x :: dd, az ++ [((max rs k : Nat) : Int)], px3, ws3, _, nd3, nw3, na3, (k : Int) - (((x :: dd).length : Nat) : Int), ?lt2, _, _, rfl, fr_congr FA (fun y => ?hm2), by rw [← List.append_assoc]; exact NA, hw3, (by rw [← List.append_assoc]; exact ha2.append (.cons _ _ .nil)), ?li2, by omega, by simp only [List.length_append, List.length_cons]; omega, by omega, hg2, by simp only [List.length_append, List.length_cons, List.length_nil]; omega, hfill.trans (hs2 (fun e => nomatch e))⟩
              case li2 =>
                simp only [List.length_cons]; omega
              case hm2 =>
                by_cases c5 : y = Str.ofString "remain_bytes"
                · subst c5; with_unfolding_all rfl
                by_cases c3 : y = Str.ofString "read_data"
                · subst c3; with_unfolding_all rfl
                by_cases c4 : y = Str.ofString "to_read_bytes"
                · subst c4; with_unfolding_all rfl
                simp only [if_neg c3, if_neg c4, if_neg c5]
      case rest2 =>
        rintro σ ⟨hh, tk, d, az, px, wx, ax, nd2, nw2, na2, k, li, lt, oT, oR, rfl, F2, N2, hw2, ha2, hzd, hfill⟩
        clear F5 N5
        refine wpO_leaf ?_
        k_steps
        · refine go_of ?_
          (with_reducible rename Heap.MadeExcOf _ _ _ _ _ => hmE)
          (with_reducible rename (_ : Int) < _ => c4)
          (with_reducible rename raise = true => c5)
          (with_reducible rename Fr g' L' _ _ => F7)
          (with_reducible rename News g' L' _ _ => N7)
          refine leave_raiseS B' hmE F7 N7 (fun h3 t3 R3 _ U3 => ?_)
          have hE' := hE
          rw [reserveR_short (by omega) (by omega) hfill (by omega) c5] at hE'
          exact hE' 91 _ _ _ _ _ _ _ _ _ _ _ wx ax (.inr ⟨rfl, rfl⟩) hO FG' R3 U3 hw2 ha2
        · refine wpO_execs_nil ?_
          (with_reducible rename raise = false => c5)
          k_steps
          (with_reducible rename Fr g' L' _ _ => F7)
          (with_reducible rename Fr h₀ _ _ _ => kF)
          (with_reducible rename News h₀ _ _ _ => kN)
          have hq' := hq
          rw [reserveR_fine (by omega) (by omega) hfill (by rw [c5]; exact fun e => nomatch e.2)] at hq'
          exact hq' _ _ _ _ _ _ _ wx ax rfl (fun b o hb e => F7.keep b o (hO b o hb e)) kF kN hw2 ha2
        · refine wpO_execs_nil ?_
          (with_reducible rename ¬ (_ : Int) < _ => c4)
          k_steps
          (with_reducible rename Fr g' L' _ _ => F7)
          (with_reducible rename Fr h₀ _ _ _ => kF)
          (with_reducible rename News h₀ _ _ _ => kN)
          have hq' := hq
          rw [reserveR_fine (by omega) (by omega) hfill (by omega)] at hq'
          exact hq' _ _ _ _ _ _ _ wx ax rfl (fun b o hb e => F7.keep b o (hO b o hb e)) kF kN hw2 ha2
end Mine
namespace Mine
open PySem PySem.W PySem.Calls PyProof.Rows
theorem wt_C5 : True := by
  w_top off
  trivial
local macro_rules | `(tactic| k_ne) => `(tactic| (refine neN ?_; (try dsimp only); first | assumption | (refine Ne.symm ?_; assumption) | omega))
local macro_rules | `(tactic| k_room) => `(tactic| exact Nat.le_of_ble_eq_true rfl)
local macro_rules | `(tactic| walk_at "my size") => `(tactic| ((try simp only [List.length_cons, List.length_nil, List.length_append, List.size_toArray, List.length_take, List.length_drop]); rw [sizeLine_eq]; omega))
local macro_rules | `(tactic| walk_at "call builtin:len") => `(tactic| (k_here; (with_reducible show wpAny _ _ (call (Value.builtin "len") [Value.bytes (List.toArray _) _]) _ _ _); k_dflt (refine' len_by ?z ?_; (case z => walk_at "my size"))))
local macro_rules | `(tactic| walk_at "call builtin:len") => `(tactic| (k_here; (with_reducible show wpAny _ _ (call (Value.builtin "len") [Value.ref _]) _ _ _); k_dflt (refine' len_baN (xs := _) ?n ?m ?z ?_; (case n => k_asm); (case m => k_mem); (case z => walk_at "my size"))))
local macro_rules | `(tactic| walk_at "call builtin:max") => `(tactic| (k_here; (with_reducible show wpAny _ _ (call (Value.builtin "max") [Value.int _ _, Value.int _ _]) _ _ _); k_dflt (refine' max_nat ?k1 ?k2 ?k3 ?_; (case k1 => exact rfl); (case k2 => k_asm); (case k3 => k_asm)); intro h' tk' t' F' N'))
local macro_rules | `(tactic| walk_at "exec Raise some none") => `(tactic| (k_here; (with_reducible show wpAny _ _ (exec (Stmt.Raise (some (Expr.Name _ _)) none _) _) _ _ _); k_dflt (refine' raise_ownK (bmB := [.type "Exception", .type "BaseException", .type "object"]) (newId := "Exception.__new__") ?F ?X ?T ?ex ?q PySem.F.excBase_Exception ?h ?_; (case F => k_asm); (case X => k_asm); (case T => k_asm); (case ex => k_is); (case q => k_exc); (case h => rfl))))
local macro_rules | `(tactic| walk_at "leaving ref") => `(tactic| (k_here; refine stop_of ?_))
local macro_rules | `(tactic| walk_at "truthy bytes") => `(tactic| (k_here; (with_reducible show wpAny _ _ (truthy (Value.bytes (List.toArray _) _)) _ _ _); k_dflt (refine' truthy_by ?z ?_; (case z => walk_at "my size")); (try simp only [List.isEmpty_cons, List.isEmpty_nil, Bool.not_false, Bool.not_true])))
local macro_rules | `(tactic| walk_at "my cut") => `(tactic| first | exact cut_upto _ _ | exact cut_from _ _ | exact cut_run' _ _ _)
local macro_rules | `(tactic| walk_at "subscriptTail") => `(tactic| (k_here; (with_reducible show wpAny _ _ (subscriptTail _ (Expr.Slice _ _ none _) (Value.ref _) (Value.ref _)) _ _ _); (with_reducible rename Fr _ _ _ _ => myF); (with_reducible rename News _ _ _ _ => myN); k_dflt (refine' ba_slice (s := ⟨_, _, _, _, _⟩) myF myN ?m ?l ?u ?z ?e ?_; (case m => k_mem); (case l => constructor); (case u => constructor); (case z => walk_at "my size"); (case e => walk_at "my cut")); clear myF myN; intro D' h' F' N' l1; (try k_lt l1); (try k_sweep)))
theorem U_read {prog : Program} {w : World} {A₀ : Around} {base h₀ : Heap} {L : Addr} {m : Str → Option Value} {mg mb : Str → Option Value} {p : Program} {loose : List Str} {mean : ExcName → Option Value} {env : Env} {outer : List Env} {s : Shared} {Q E : Value → Shared → Prop}
    {H dH PL PA U dU Bf : Addr} {t1 t2 ti tc tm tr ts : Tok} {τ : Nat → Tok} {v : Nat → Value} {nd nw na : Nat} {ws as : List Value} {ns : List Int} {ps : List (List UInt8)} {xs : List UInt8} {i ck room rs so n : Nat} {raise : Bool} {kt : Tok} {pos : List Value} {kw : List (Str × Value)}
    (B : Below A₀ base outer h₀) (F : Fr h₀ L s.heap m) (X : (MineHead.hd.heap_39 w.params).In h₀) (T : Top p loose mean mg mb h₀) (hf : env.frame = some L) (hke : env.scope.kind = .function)
    (N : News h₀ L s.heap [(H, instObj 481 dH), (dH, dictOf (parD w t1 t2 PL PA) nd), (PL, listOf ws.toArray nw), (PA, listOf as.toArray na), (U, instObj 445 dU), (dU, dictOf (unpD w τ v H Bf i ti ck tc room tm rs tr so ts) 22), (Bf, baObj xs)])
    (hd : List.Nodup ([H, dH, PL, PA, U, dU, Bf] : List Nat)) (hw : BAre ws ps) (has : IntsAre as ns) (hza : ns.length ≤ 900) (hzw : ws.length ≤ 1000) (hzp : ∀ b ∈ ps, b.length ≤ 1000) (hzx : xs.length ≤ 10000) (hzt : total ps ≤ 10000) (hzn : i + n ≤ xs.length + 50) (hrs : 1 ≤ rs) (hci : ck ≤ i) (hix : i ≤ xs.length)
    (ha : pos = [.ref U, .int (n : Int) kt] ∧ kw = [(Str.ofString "raise_outofdata", .bool raise)] ∨ pos = [.ref U, .int (n : Int) kt] ∧ kw = [] ∧ raise = true)
    (hq : ∀ D h' tk' ti' tc' nd' nw' na' ws' as', (reserveR rs room xs i ck ps n raise).1 = 0 → Only [H, dH, PL, PA, U, dU, Bf] s.heap h' → Fr h₀ L h' m →
      News h₀ L h' [(H, instObj 481 dH), (dH, dictOf (parD w t1 t2 PL PA) nd'), (PL, listOf (List.toArray ws') nw'), (PA, listOf (List.toArray as') na'), (U, instObj 445 dU), (dU, dictOf (unpD w τ v H Bf ((reserveR rs room xs i ck ps n raise).2.2.1 + (((reserveR rs room xs i ck ps n raise).2.1.drop (reserveR rs room xs i ck ps n raise).2.2.1).take n).length) ti' (reserveR rs room xs i ck ps n raise).2.2.2.1 tc' room tm rs tr so ts) 22), (Bf, baObj (reserveR rs room xs i ck ps n raise).2.1), (D, baObj (((reserveR rs room xs i ck ps n raise).2.1.drop (reserveR rs room xs i ck ps n raise).2.2.1).take n))] →
      s.heap.get? D = none → BAre ws' (reserveR rs room xs i ck ps n raise).2.2.2.2.1 → IntsAre as' (ns ++ (reserveR rs room xs i ck ps n raise).2.2.2.2.2) → Q (.ref D) { s with heap := h', toks := tk' })
    (hE : ∀ C e t vs h' g₂ tk' ti' tc' nd' nw' na' ws' as', ((reserveR rs room xs i ck ps n raise).1 = 1 ∧ C = 79 ∨ (reserveR rs room xs i ck ps n raise).1 = 2 ∧ C = 91) → Only [H, dH, PL, PA, U, dU, Bf] s.heap g₂ → Fr h₀ L g₂ m →
      RaisedS base g₂ (env :: outer) e (.ref C) t vs [(H, instObj 481 dH), (dH, dictOf (parD w t1 t2 PL PA) nd'), (PL, listOf (List.toArray ws') nw'), (PA, listOf (List.toArray as') na'), (U, instObj 445 dU), (dU, dictOf (unpD w τ v H Bf (reserveR rs room xs i ck ps n raise).2.2.1 ti' (reserveR rs room xs i ck ps n raise).2.2.2.1 tc' room tm rs tr so ts) 22), (Bf, baObj (reserveR rs room xs i ck ps n raise).2.1)] h' →
      g₂.UpToSlots h' → BAre ws' (reserveR rs room xs i ck ps n raise).2.2.2.2.1 → IntsAre as' (ns ++ (reserveR rs room xs i ck ps n raise).2.2.2.2.2) → E (.ref e) { s with heap := h', toks := tk' }) :
    wpO (model prog w) (AA 395 950 env outer) (call (.ref 370) pos kw) Q E s := by
  have hd' := hd
  simp only [List.nodup_cons, List.mem_cons, List.not_mem_nil, or_false, not_or, List.nodup_nil, and_true, not_false_eq_true] at hd'
  obtain ⟨⟨q1, q2, q3, q4, q5, q6⟩, ⟨q7, q8, q9, q10, q11⟩, ⟨q12, q13, q14, q15⟩, ⟨q16, q17, q18⟩, ⟨q19, q20⟩, q21⟩ := hd'
  have hle := @reserveR_le rs room xs i ck ps n raise
  obtain ⟨⟨wd, ys, i2, ck2, ps2, az⟩, hR⟩ : ∃ R, reserveR rs room xs i ck ps n raise = R := ⟨_, rfl⟩
  rw [hR] at hq hE hle
  dsimp only at hq hE hle
  refine wpO_call ?_
  k_dflt (refine' codeO_def ?k1 ?k2 ?k3 ?k4 ?k5 ?kA ?kF ?kK ?k6 ?k7 ?k8 ?k9 ?kB ?_ ?c2 ?c3 ?c4 ?c5; (case kA => exact rfl); (case kF => exact hf); (case kK => exact hke); (case k1 => k_asm); (case k2 => k_asm); (case k3 => k_asm); (case k4 => k_asm); (case k5 => k_asm); (case k6 => k_is); (case k7 => k_is); (case k8 => exact Nat.le_of_ble_eq_true rfl); (case k9 => (rcases ha with ⟨rfl, rfl⟩ | ⟨rfl, rfl, rfl⟩ <;> exact kp_binds (binds := [(Str.ofString "self", .ref U), (Str.ofString "n", .int (n : Int) kt), (Str.ofString "raise_outofdata", .bool _)]) (X.keeps F.keep) (fun S => by with_unfolding_all rfl))); (case c5 => decide); (case kB => exact locs rfl); (case c2 => exact rfl); (case c3 => exact rfl); (case c4 => exact rfl))
  intro g' L' h' FG' F' N' B' X' T' hlt hO
  dsimp only
  refine wpO_execs_cons (wpO_ExprStmt rfl rfl (wpO_methodCall ?_))
  k_steps
  refine wpO_callWith_KW X' (by k_dflt k_is) rfl ?_
  k_steps
  refine wpO_upto (d := 400) (u := 1000) (env := envOf _ _ _ _ _) ⟨rfl, Nat.le_of_ble_eq_true rfl, rfl, Nat.le_of_ble_eq_true rfl⟩ (U_reserve (kt := kt) (raise := raise) (n := n) B' F' X' T' rfl rfl N' hd hw has hza hzw hzp hzx hzt hzn hrs hci hix (.inl ⟨rfl, rfl⟩) ?hq1 ?hE1)
  case hE1 =>
    rw [hR]
    intro C e t vs h3 g₂ tk3 ti3 tc3 nd3 nw3 na3 ws3 as3 hC O3 F3 R3 U3 hw3 ha3
    refine leave_onS B' F3 R3 U3 (fun h4 R4 _ U4 => ?_)
    exact hE C e t vs h4 g' _ _ _ _ _ _ _ _ hC hO FG' R4 U4 hw3 ha3
  case hq1 =>
    rw [hR]
    intro h3 tk3 ti3 tc3 nd3 nw3 na3 ws3 as3 hwd O3 F3 N3 hw3 ha3
    refine ⟨rfl, ?_⟩
    dsimp only at hwd N3 hw3 ha3 ⊢
    clear F' N'
    refine wpO_leaf ?_
    k_steps
    refine wpO_leaf ?_
    k_steps
    refine wpO_leaf ?_
    k_steps
    refine wpO_leaf ?_
    k_steps
    (with_reducible rename Fr g' L' _ _ => gF)
    (with_reducible rename News g' L' _ _ => gN)
    (with_reducible rename Fr h₀ _ _ _ => kF)
    (with_reducible rename News h₀ _ _ _ => kN)
    (with_reducible rename _ ∧ _ => l1)
    rw [← Int.natCast_add i2 ((ys.drop i2).take n).length] at kN
    dsimp only at kN
    refine' hq _ _ _ ?ti5 ?tc5 nd3 nw3 na3 ws3 as3 hwd (fun b o hb e => gF.keep b o (hO b o hb e)) kF (fun q hq => ?nn5) (fresh_of (gN _ (.head _)).2.2 hO (fun hm => ?ff5)) hw3 ha3
    case nn5 =>
      simp only [List.mem_cons, List.not_mem_nil, or_false] at hq
      rcases hq with rfl | rfl | rfl | rfl | rfl | rfl | rfl | rfl
      · exact kN _ (.tail _ (.head _))
      · exact kN _ (.tail _ (.tail _ (.head _)))
      · exact kN _ (.tail _ (.tail _ (.tail _ (.head _))))
      · exact kN _ (.tail _ (.tail _ (.tail _ (.tail _ (.head _)))))
      · exact kN _ (.tail _ (.tail _ (.tail _ (.tail _ (.tail _ (.head _))))))
      · have k6 := kN _ (.tail _ (.tail _ (.tail _ (.tail _ (.tail _ (.tail _ (.head _)))))))
        exact k6
      · exact kN _ (.tail _ (.tail _ (.tail _ (.tail _ (.tail _ (.tail _ (.tail _ (.head _))))))))
      · exact kN _ (.head _)
    case ff5 =>
      simp only [List.map_cons, List.map_nil, List.mem_cons, List.not_mem_nil, or_false] at hm
      rcases hm with e | e | e | e | e | e | e
      · exact Nat.ne_of_gt l1.1 e
      · exact Nat.ne_of_gt l1.2.1 e
      · exact Nat.ne_of_gt l1.2.2.1 e
      · exact Nat.ne_of_gt l1.2.2.2.1 e
      · exact Nat.ne_of_gt l1.2.2.2.2.1 e
      · exact Nat.ne_of_gt l1.2.2.2.2.2.1 e
      · exact Nat.ne_of_gt l1.2.2.2.2.2.2 e
end Mine
namespace Mine
open PySem PySem.W PySem.Calls PyProof.Rows
theorem wt_C6 : True := by
  w_top off
  trivial
local macro_rules | `(tactic| k_ne) => `(tactic| (refine neN ?_; (try dsimp only); first | assumption | (refine Ne.symm ?_; assumption) | omega))
local macro_rules | `(tactic| k_room) => `(tactic| exact Nat.le_of_ble_eq_true rfl)
local macro_rules | `(tactic| walk_at "my size") => `(tactic| ((try simp only [List.length_cons, List.length_nil, List.length_append, List.size_toArray, List.length_take, List.length_drop]); rw [sizeLine_eq]; omega))
local macro_rules | `(tactic| walk_at "call builtin:len") => `(tactic| (k_here; (with_reducible show wpAny _ _ (call (Value.builtin "len") [Value.bytes (List.toArray _) _]) _ _ _); k_dflt (refine' len_by ?z ?_; (case z => walk_at "my size"))))
local macro_rules | `(tactic| walk_at "call builtin:len") => `(tactic| (k_here; (with_reducible show wpAny _ _ (call (Value.builtin "len") [Value.ref _]) _ _ _); k_dflt (refine' len_baN (xs := _) ?n ?m ?z ?_; (case n => k_asm); (case m => k_mem); (case z => walk_at "my size"))))
local macro_rules | `(tactic| walk_at "call builtin:max") => `(tactic| (k_here; (with_reducible show wpAny _ _ (call (Value.builtin "max") [Value.int _ _, Value.int _ _]) _ _ _); k_dflt (refine' max_nat ?k1 ?k2 ?k3 ?_; (case k1 => exact rfl); (case k2 => k_asm); (case k3 => k_asm)); intro h' tk' t' F' N'))
local macro_rules | `(tactic| walk_at "exec Raise some none") => `(tactic| (k_here; (with_reducible show wpAny _ _ (exec (Stmt.Raise (some (Expr.Name _ _)) none _) _) _ _ _); k_dflt (refine' raise_ownK (bmB := [.type "Exception", .type "BaseException", .type "object"]) (newId := "Exception.__new__") ?F ?X ?T ?ex ?q PySem.F.excBase_Exception ?h ?_; (case F => k_asm); (case X => k_asm); (case T => k_asm); (case ex => k_is); (case q => k_exc); (case h => rfl))))
local macro_rules | `(tactic| walk_at "leaving ref") => `(tactic| (k_here; refine stop_of ?_))
local macro_rules | `(tactic| walk_at "truthy bytes") => `(tactic| (k_here; (with_reducible show wpAny _ _ (truthy (Value.bytes (List.toArray _) _)) _ _ _); k_dflt (refine' truthy_by ?z ?_; (case z => walk_at "my size")); (try simp only [List.isEmpty_cons, List.isEmpty_nil, Bool.not_false, Bool.not_true])))
local macro_rules | `(tactic| walk_at "my cut") => `(tactic| first | exact cut_upto _ _ | exact cut_from _ _ | exact cut_run' _ _ _)
local macro_rules | `(tactic| walk_at "subscriptTail") => `(tactic| (k_here; (with_reducible show wpAny _ _ (subscriptTail _ (Expr.Slice _ _ none _) (Value.ref _) (Value.ref _)) _ _ _); (with_reducible rename Fr _ _ _ _ => myF); (with_reducible rename News _ _ _ _ => myN); k_dflt (refine' ba_slice (s := ⟨_, _, _, _, _⟩) myF myN ?m ?l ?u ?z ?e ?_; (case m => k_mem); (case l => constructor); (case u => constructor); (case z => walk_at "my size"); (case e => walk_at "my cut")); clear myF myN; intro D' h' F' N' l1; (try k_lt l1); (try k_sweep)))
local macro_rules | `(tactic| walk_at "call type:bytes") => `(tactic| (k_here; (with_reducible show wpAny _ _ (call (Value.type "bytes") [Value.ref _]) _ _ _); k_dflt (refine' bytes_of_baN (xs := _) ?n ?m ?z ?_; (case n => k_asm); (case m => k_mem); (case z => walk_at "my size"))))
theorem U_bytes {prog : Program} {w : World} {A₀ : Around} {base h₀ : Heap} {L : Addr} {m : Str → Option Value} {mg mb : Str → Option Value} {p : Program} {loose : List Str} {mean : ExcName → Option Value} {env : Env} {outer : List Env} {s : Shared} {Q E : Value → Shared → Prop}
    {H dH PL PA U dU Bf : Addr} {t1 t2 ti tc tm tr ts : Tok} {τ : Nat → Tok} {v : Nat → Value} {nd nw na : Nat} {ws as : List Value} {ns : List Int} {ps : List (List UInt8)} {xs : List UInt8} {i ck room rs so n : Nat} {kt : Tok}
    (B : Below A₀ base outer h₀) (F : Fr h₀ L s.heap m) (X : (MineHead.hd.heap_39 w.params).In h₀) (T : Top p loose mean mg mb h₀) (hf : env.frame = some L) (hke : env.scope.kind = .function)
    (N : News h₀ L s.heap [(H, instObj 481 dH), (dH, dictOf (parD w t1 t2 PL PA) nd), (PL, listOf ws.toArray nw), (PA, listOf as.toArray na), (U, instObj 445 dU), (dU, dictOf (unpD w τ v H Bf i ti ck tc room tm rs tr so ts) 22), (Bf, baObj xs)])
    (hd : List.Nodup ([H, dH, PL, PA, U, dU, Bf] : List Nat)) (hw : BAre ws ps) (has : IntsAre as ns) (hza : ns.length ≤ 900) (hzw : ws.length ≤ 1000) (hzp : ∀ b ∈ ps, b.length ≤ 1000) (hzx : xs.length ≤ 10000) (hzt : total ps ≤ 10000) (hzn : i + n ≤ xs.length + 50) (hrs : 1 ≤ rs) (hci : ck ≤ i) (hix : i ≤ xs.length)
    (hq : ∀ h' tk' tr' ti' tc' ts' nd' nw' na' ws' as', (reserveR rs room xs i ck ps n false).1 = 0 → Only [H, dH, PL, PA, U, dU, Bf] s.heap h' → Fr h₀ L h' m →
      News h₀ L h' [(H, instObj 481 dH), (dH, dictOf (parD w t1 t2 PL PA) nd'), (PL, listOf (List.toArray ws') nw'), (PA, listOf (List.toArray as') na'), (U, instObj 445 dU), (dU, dictOf (unpD w τ v H Bf ((reserveR rs room xs i ck ps n false).2.2.1 + (((reserveR rs room xs i ck ps n false).2.1.drop (reserveR rs room xs i ck ps n false).2.2.1).take n).length) ti' ((reserveR rs room xs i ck ps n false).2.2.1 + (((reserveR rs room xs i ck ps n false).2.1.drop (reserveR rs room xs i ck ps n false).2.2.1).take n).length) tc' room tm rs tr (so + (((reserveR rs room xs i ck ps n false).2.2.1 + (((reserveR rs room xs i ck ps n false).2.1.drop (reserveR rs room xs i ck ps n false).2.2.1).take n).length) - (reserveR rs room xs i ck ps n false).2.2.2.1)) ts') 22), (Bf, baObj (reserveR rs room xs i ck ps n false).2.1)] →
      BAre ws' (reserveR rs room xs i ck ps n false).2.2.2.2.1 → IntsAre as' (ns ++ (reserveR rs room xs i ck ps n false).2.2.2.2.2) → Q (.bytes (((reserveR rs room xs i ck ps n false).2.1.drop (reserveR rs room xs i ck ps n false).2.2.1).take n).toArray tr') { s with heap := h', toks := tk' })
    (hE : ∀ C e t vs h' g₂ tk' ti' tc' nd' nw' na' ws' as', ((reserveR rs room xs i ck ps n false).1 = 1 ∧ C = 79 ∨ (reserveR rs room xs i ck ps n false).1 = 2 ∧ C = 91) → Only [H, dH, PL, PA, U, dU, Bf] s.heap g₂ → Fr h₀ L g₂ m →
      RaisedS base g₂ (env :: outer) e (.ref C) t vs [(H, instObj 481 dH), (dH, dictOf (parD w t1 t2 PL PA) nd'), (PL, listOf (List.toArray ws') nw'), (PA, listOf (List.toArray as') na'), (U, instObj 445 dU), (dU, dictOf (unpD w τ v H Bf (reserveR rs room xs i ck ps n false).2.2.1 ti' (reserveR rs room xs i ck ps n false).2.2.2.1 tc' room tm rs tr so ts) 22), (Bf, baObj (reserveR rs room xs i ck ps n false).2.1)] h' →
      g₂.UpToSlots h' → BAre ws' (reserveR rs room xs i ck ps n false).2.2.2.2.1 → IntsAre as' (ns ++ (reserveR rs room xs i ck ps n false).2.2.2.2.2) → E (.ref e) { s with heap := h', toks := tk' }) :
    wpO (model prog w) (AA 390 900 env outer) (call (.ref 362) [.ref U, .int (n : Int) kt]) Q E s := by
  have hd' := hd
  simp only [List.nodup_cons, List.mem_cons, List.not_mem_nil, or_false, not_or, List.nodup_nil, and_true, not_false_eq_true] at hd'
  obtain ⟨⟨q1, q2, q3, q4, q5, q6⟩, ⟨q7, q8, q9, q10, q11⟩, ⟨q12, q13, q14, q15⟩, ⟨q16, q17, q18⟩, ⟨q19, q20⟩, q21⟩ := hd'
  have hle := @reserveR_le rs room xs i ck ps n false
  have hck := @reserveR_ck rs room xs i ck ps n false hci
  obtain ⟨⟨wd, ys, i2, ck2, ps2, az⟩, hR⟩ : ∃ R, reserveR rs room xs i ck ps n false = R := ⟨_, rfl⟩
  rw [hR] at hq hE hle hck
  dsimp only at hq hE hle hck
  refine wpO_call ?_
  k_dflt (refine' codeO_def ?k1 ?k2 ?k3 ?k4 ?k5 ?kA ?kF ?kK ?k6 ?k7 ?k8 ?k9 ?kB ?_ ?c2 ?c3 ?c4 ?c5; (case kA => exact rfl); (case kF => exact hf); (case kK => exact hke); (case k1 => k_asm); (case k2 => k_asm); (case k3 => k_asm); (case k4 => k_asm); (case k5 => k_asm); (case k6 => k_is); (case k7 => k_is); (case k8 => exact Nat.le_of_ble_eq_true rfl); (case k9 => exact BindsTo.of_eq (binds := [(Str.ofString "self", .ref U), (Str.ofString "n", .int (n : Int) kt)]) (by with_unfolding_all rfl)); (case c5 => decide); (case kB => exact locs rfl); (case c2 => exact rfl); (case c3 => exact rfl); (case c4 => exact rfl))
  intro g' L' h' FG' F' N' B' X' T' hlt hO
  dsimp only
  refine wpO_execs_cons (wpO_Assign_Name (wpO_methodCall ?_))
  k_steps
  refine wpO_callWith_KW X' (by k_dflt k_is) rfl ?_
  k_steps
  refine wpO_upto (d := 395) (u := 950) (env := envOf _ _ _ _ _) ⟨rfl, Nat.le_of_ble_eq_true rfl, rfl, Nat.le_of_ble_eq_true rfl⟩ (U_read (kt := kt) (raise := false) (n := n) B' F' X' T' rfl rfl N' hd hw has hza hzw hzp hzx hzt hzn hrs hci hix (.inl ⟨rfl, rfl⟩) ?hq1 ?hE1)
  case hE1 =>
    rw [hR]
    intro C e t vs h3 g₂ tk3 ti3 tc3 nd3 nw3 na3 ws3 as3 hC O3 F3 R3 U3 hw3 ha3
    refine leave_onS B' F3 R3 U3 (fun h4 R4 _ U4 => ?_)
    exact hE C e t vs h4 g' _ _ _ _ _ _ _ _ hC hO FG' R4 U4 hw3 ha3
  case hq1 =>
    rw [hR]
    intro D h3 tk3 ti3 tc3 nd3 nw3 na3 ws3 as3 hwd O3 F3 N3 hD3 hw3 ha3
    dsimp only at hwd N3 hw3 ha3 ⊢
    have d1 : @Ne Nat H D := fun e => by have e : H = D := e; rw [← e, (N' _ (.head _)).1] at hD3; cases hD3
    have d2 : @Ne Nat dH D := fun e => by have e : dH = D := e; rw [← e, (N' _ (.tail _ (.head _))).1] at hD3; cases hD3
    have d3 : @Ne Nat PL D := fun e => by have e : PL = D := e; rw [← e, (N' _ (.tail _ (.tail _ (.head _)))).1] at hD3; cases hD3
    have d4 : @Ne Nat PA D := fun e => by have e : PA = D := e; rw [← e, (N' _ (.tail _ (.tail _ (.tail _ (.head _))))).1] at hD3; cases hD3
    have d5 : @Ne Nat U D := fun e => by have e : U = D := e; rw [← e, (N' _ (.tail _ (.tail _ (.tail _ (.tail _ (.head _)))))).1] at hD3; cases hD3
    have d6 : @Ne Nat dU D := fun e => by have e : dU = D := e; rw [← e, (N' _ (.tail _ (.tail _ (.tail _ (.tail _ (.tail _ (.head _))))))).1] at hD3; cases hD3
    have d7 : @Ne Nat Bf D := fun e => by have e : Bf = D := e; rw [← e, (N' _ (.tail _ (.tail _ (.tail _ (.tail _ (.tail _ (.tail _ (.head _)))))))).1] at hD3; cases hD3
    clear F' N'
    k_steps
    refine wpO_leaf ?_
    k_steps
    refine wpO_leaf ?_
    k_steps
    (with_reducible rename Fr g' L' _ _ => gF)
    (with_reducible rename Fr h₀ _ _ _ => kF)
    (with_reducible rename News h₀ _ _ _ => kN)
    dsimp only at kN
    rw [show (so : Int) + (((i2 + ((ys.drop i2).take n).length : Nat) : Int) - (ck2 : Int)) = ((so + (i2 + ((ys.drop i2).take n).length - ck2) : Nat) : Int) from by omega] at kN
    refine' hq _ _ _ ?ti6 ?tc6 ?ts6 nd3 nw3 na3 ws3 as3 hwd (fun b o hb e => gF.keep b o (hO b o hb e)) kF (fun q hq => ?nn6) hw3 ha3
    case nn6 =>
      simp only [List.mem_cons, List.not_mem_nil, or_false] at hq
      rcases hq with rfl | rfl | rfl | rfl | rfl | rfl | rfl
      · exact kN _ (.head _)
      · exact kN _ (.tail _ (.head _))
      · exact kN _ (.tail _ (.tail _ (.head _)))
      · exact kN _ (.tail _ (.tail _ (.tail _ (.head _))))
      · exact kN _ (.tail _ (.tail _ (.tail _ (.tail _ (.head _)))))
      · have k6 := kN _ (.tail _ (.tail _ (.tail _ (.tail _ (.tail _ (.head _))))))
        exact k6
      · exact kN _ (.tail _ (.tail _ (.tail _ (.tail _ (.tail _ (.tail _ (.head _)))))))
end Mine
namespace Mine
open PySem PySem.W PySem.Calls PyProof.Rows
section
variable {M : Model} {A : Around} {E : Value → Shared → Prop} {s : Shared} {env : Env}
theorem wpO_spliced_cons {x : Sem Value} {rest : List (Bool × Sem Value)} {Q : List Value → Shared → Prop} (h : wpO M A x (fun v s₁ => wpO M A (spliced rest) (fun vs => Q (v :: vs)) E s₁) E s) : wpO M A (spliced ((false, x) :: rest)) Q E s := by
  unfold spliced
  refine wpO_bind (wpO_mono h (fun v s₁ h₁ => ?_) fun _ _ x => x)
  dsimp only
  refine wpO_if_false rfl ?_
  refine wpO_bind (wpO_pure ?_)
  exact wpO_bind (wpO_holding (wpO_mono h₁ (fun vs s₂ h₂ => wpO_pure h₂) fun _ _ x => x))
theorem wpO_Tuple2 {a b : Expr} {n : Nat} {pos : Pos} {Q : Value → Shared → Prop}
    (h : wpAny M A (eval a env) (fun x s₁ => wpO M A (eval b env) (fun v s₂ => wpAny M A (newTuple [x, v]) Q E s₂) E s₁) E s)
    (he : backTo pos (starEach [a, b] env) = [(false, eval a env), (false, eval b env)] := by rfl) : wpO M A (eval (.Tuple [a, b] n pos) env) Q E s := by
  show wpO M A (do standAt pos; newTuple (← spliced (backTo pos (starEach [a, b] env)))) Q E s
  rw [he]
  refine wpO_lift (wpAny_standAt (wpO_bind (wpO_spliced_cons (.of (wpAny_mono h (fun x s₁ h₁ => ?_) fun _ _ x => x)))))
  refine wpO_spliced_cons (wpO_mono h₁ (fun v s₂ h₂ => ?_) fun _ _ x => x)
  exact .of (spliced_nil (.of h₂))
end
def OnlyF (adr fs : List Addr) (h h' : Heap) : Prop := ∀ b o, b ∉ adr → b ∉ fs → h.get? b = some o → h'.get? b = some o
section
variable {prog : Program} {w : World} {A₀ A : Around} {s : Shared} {base h₀ : Heap} {outer : List Env} {L a : Addr} {m : Str → Option Value} {cn : Str} {cs : Scope} {ccd : Value} {news : List (Addr × Obj)} {K : Frag} {p : Program} {loose : List Str} {mean : ExcName → Option Value} {mg mb : Str → Option Value}
    {R : Result → Shared → Prop} {name qual : Str} {params : Arguments} {body : List Stmt} {scope : Scope} {dV kV doc pm cdv ct oc : Value} {an od : Option Addr} {osl : Array (Option Value)} {f : Addr} {args : Args} {binds : List (Str × Value)}
/-- what a frame that caught hands back: the ground of the frame below, turned -/
def LeaveT (fs : List Addr) (A₀ : Around) (base : Heap) (outer : List Env) (K : Frag) (p : Program) (loose : List Str) (mean : ExcName → Option Value) (mg mb : Str → Option Value) (h₀ : Heap) (L : Addr) (m : Str → Option Value) (g : Heap) (R : Result → Shared → Prop) (v : Value) (s' : Shared) : Prop :=
  ∃ g' L' m' news', KtsTurn fs g g' ∧ Fr g' L' s'.heap m' ∧ News g' L' s'.heap news' ∧ ∀ h₀', KtsTurn (outer.filterMap (·.frame)) h₀ h₀' → Fr h₀' L s'.heap m → News h₀' L s'.heap news' → Below A₀ base outer h₀' → K.In h₀' → Top p loose mean mg mb h₀' →
    KtsDicts (outer.filterMap (·.frame)) h₀' → R (.ok (.ret v)) s'
theorem frames_mem {env : Env} (hf : env.frame = some L) {b : Addr} (hm : b ∈ (env :: outer).filterMap (·.frame)) : b = L ∨ b ∈ outer.filterMap (·.frame) := by
  obtain ⟨e, he, hb⟩ := List.mem_filterMap.mp hm
  rcases List.mem_cons.mp he with rfl | he
  · exact .inl (Option.some.inj (hb.symm.trans hf))
  · exact .inr (List.mem_filterMap.mpr ⟨e, he, hb⟩)
theorem leaveT_back {env : Env} {g : Heap} {v : Value} {s' : Shared} {h : Heap} (B : Below A₀ base outer h₀) (F : Fr h₀ L h m) (hf : env.frame = some L) (FG : Fr h₀ L g m) (st : h₀.StaysIn g) (XB : K.In base) (TB : Top p loose mean mg mb base) (D : KtsDicts (outer.filterMap (·.frame)) h₀)
    (hl : LeaveT ((env :: outer).filterMap (·.frame)) A₀ base outer K p loose mean mg mb h₀ L m g R v s') : R (.ok (.ret v)) s' := by
  obtain ⟨oL, es, ep, hLg, hLd, hLk, hLf⟩ := FG.ns
  have nL₀ : h₀.get? L = none := kts_self F
  obtain ⟨g', L', m', news', T', F', N', k⟩ := hl
  obtain ⟨sl, hs⟩ := T'.up hLg
  have stays : ∀ b o, h₀.get? b = some o → b ∉ outer.filterMap (·.frame) → s'.heap.get? b = some o := fun b o e nm => F'.keep b o (T'.other b o (st b o e) fun q => (frames_mem hf q).elim (fun z => by rw [z, nL₀] at e; cases e) nm)
  obtain ⟨T₁, S₁⟩ := kts_turn_at (h := s'.heap) (fs := outer.filterMap (·.frame)) (g := h₀) (fun b hb => let ⟨_, o, ho', _⟩ := B.frames.mem hb; ⟨o, ho'⟩) stays
    (fun b o e _ => let ⟨sl', hs'⟩ := T'.up (st b o e); ⟨sl', F'.keep _ _ hs'⟩)
  have B₃ : Below A₀ base outer (ktsHeap s'.heap (outer.filterMap (·.frame)) h₀) := ⟨B.stack, fun b o e => T₁.other b o (B.stays b o e) (fun hm => by rw [(B.frames.mem hm).1] at e; cases e),
    B.frames.of_keeps fun b o e _ => let ⟨sl', hs'⟩ := T₁.up e; ⟨_, hs', rfl⟩⟩
  refine k _ T₁ ⟨⟨_, es, ep, F'.keep _ _ hs, hLd, hLk, hLf⟩, S₁, by rw [T₁.size]; exact F.above⟩ (fun p hp => ⟨(N' p hp).1, fun q => ?_, T₁.none_ _ ?_⟩) B₃ (XB.keeps B₃.stays) (TB.keeps B₃.stays) (D.turn T₁)
  · have := (N' p hp).2.2; rw [q, hs] at this; cases this
  · cases q : h₀.get? p.1 with
    | none => rfl
    | some o =>
      obtain ⟨sl', hs'⟩ := T'.up (st _ _ q)
      have := (N' p hp).2.2
      rw [hs'] at this
      cases this
theorem dicts_push {env : Env} {g : Heap} (hf : env.frame = some L) (FG : Fr h₀ L g m) (st : h₀.StaysIn g) (D : KtsDicts (outer.filterMap (·.frame)) h₀) : KtsDicts ((env :: outer).filterMap (·.frame)) g := fun b hb => by
  rcases frames_mem hf hb with rfl | hb
  · obtain ⟨oL, es, ep, hLg, hLd, _⟩ := FG.ns
    exact ⟨oL, es, ep, hLg, hLd⟩
  · obtain ⟨o, es', n', ho', hd'⟩ := D b hb
    exact ⟨o, es', n', st b o ho', hd'⟩
/-- a function that may catch, entered in ours -/
theorem codeO_defT {env : Env} (B : Below A₀ base outer h₀) (F : Fr h₀ L s.heap m) (X₀ : K.In h₀) (N : News h₀ L s.heap news) (T : Top p loose mean mg mb h₀) (XB : K.In base) (TB : Top p loose mean mg mb base) (D : KtsDicts (outer.filterMap (·.frame)) h₀)
    (hA : A.frames = some (env :: outer)) (hf : env.frame = some L) (hke : env.scope.kind = .function)
    (ho : K.lookup f = some ⟨oc, od, .func (fnOf name qual params body scope dV kV doc pm an cdv ct), osl⟩) (hcd : codeIn K cdv qual = true) (hroom : A.depth < recursionLimit)
    (hbind : BindsTo s (fnOf name qual params body scope dV kV doc pm an cdv ct) args binds) (hloc : ∀ y ∈ binds, scope.names.lookup y.1 = some .local)
    (h : ∀ g L' h₁, Fr h₀ L g m → Fr g L' h₁ (fun y => binds.reverse.lookup y) → News g L' h₁ news → Below A base (env :: outer) g → K.In g → Top p loose mean mg mb g → KtsDicts ((env :: outer).filterMap (·.frame)) g → (∀ p ∈ news, p.1 < L') → Only (news.map (·.1)) s.heap g →
      wpO (model prog w) (A.deeper (envOf qual scope L' f cdv)) (execs body (envOf qual scope L' f cdv))
        (fun fl s' => LeaveT ((env :: outer).filterMap (·.frame)) A₀ base outer K p loose mean mg mb h₀ L m g R (match fl with | .ret v => v | _ => .none) s')
        (fun e s' => wpAny (model prog w) (A.deeper (envOf qual scope L' f cdv)) (leaving (envOf qual scope L' f cdv) e) (fun _ s'' => R (.error e) s'') (fun e' s'' => R (.error e') s'') s')
        { s with heap := h₁, toks := s.toks + binds.length })
    (hco : scope.isCoroutine = false) (hgen : scope.isGenerator = false) (hk : scope.kind = .function)
    (hcell : ∀ x ∈ scope.names, x.2 ≠ .cell) : codeO (model prog w) A (.call (.ref f) args) R s := by
  have X := X₀.keeps F.keep
  obtain ⟨FG, BG, st, _⟩ := groundX (R := R) B F N hA hf hke
  refine codeO_call_def (fd := fnOf name qual params body scope dV kV doc pm an cdv ct) (body := body) (binds := binds) hroom (X _ _ ho) rfl (T.nolimit.keeps F.keep) (codeRec_of X hcd) rfl hbind hcell hloc (fun h₁ hns hk₁ => ?_) hco hgen hk
  exact wpO_mono (h _ s.heap.objs.size h₁ FG ⟨hns, fun b o e => hk₁ b o (of_hideAll _ e), Nat.le_of_eq (hideAll_size _ _)⟩
    (fun p hp => ⟨hk₁ _ _ (N p hp).1, Nat.ne_of_lt (Heap.lt_size (N p hp).1), hideAll_none _ (List.mem_map_of_mem hp)⟩) BG (X₀.keeps st) (T.keeps st) (dicts_push hf FG st D) (fun p hp => Heap.lt_size (N p hp).1)
    (fun b o hb e => hideAll_get _ e hb)) (fun fl s' hl => leaveT_back B F hf FG st XB TB D hl) fun _ _ y => y
/-- the same, with cells -/
theorem codeO_defTC {env : Env} (B : Below A₀ base outer h₀) (F : Fr h₀ L s.heap m) (X₀ : K.In h₀) (N : News h₀ L s.heap news) (T : Top p loose mean mg mb h₀) (XB : K.In base) (TB : Top p loose mean mg mb base) (D : KtsDicts (outer.filterMap (·.frame)) h₀)
    (hA : A.frames = some (env :: outer)) (hf : env.frame = some L) (hke : env.scope.kind = .function)
    (ho : K.lookup f = some ⟨oc, od, .func (fnOf name qual params body scope dV kV doc pm an cdv ct), osl⟩) (hcd : codeIn K cdv qual = true) (hroom : A.depth < recursionLimit)
    (hbind : BindsTo s (fnOf name qual params body scope dV kV doc pm an cdv ct) args binds) (hkind : (binds.all fun y => scope.names.lookup y.1 == some .local || scope.names.lookup y.1 == some .cell) = true)
    (hnd : ((cellsFrom 0 scope.names []).map (·.1)).Nodup)
    (h : ∀ g L' h₁ tk cells, Fr h₀ L g m → Fr g L' h₁ (bindL (envOfC qual scope L' f cdv).kindOf binds fun _ => none) → News g L' h₁ (cells ++ news) →
      CellsAre (bindC (envOfC qual scope L' f cdv).kindOf binds fun _ => none) (cellsFrom (L' + 1) scope.names []) cells → Below A base (env :: outer) g → K.In g → Top p loose mean mg mb g → KtsDicts ((env :: outer).filterMap (·.frame)) g → (∀ p ∈ news, p.1 < L') → Only (news.map (·.1)) s.heap g →
      wpO (model prog w) (A.deeper (envOfC qual scope L' f cdv)) (execs body (envOfC qual scope L' f cdv))
        (fun fl s' => LeaveT ((env :: outer).filterMap (·.frame)) A₀ base outer K p loose mean mg mb h₀ L m g R (match fl with | .ret v => v | _ => .none) s')
        (fun e s' => wpAny (model prog w) (A.deeper (envOfC qual scope L' f cdv)) (leaving (envOfC qual scope L' f cdv) e) (fun _ s'' => R (.error e) s'') (fun e' s'' => R (.error e') s'') s')
        { s with heap := h₁, toks := tk })
    (hco : scope.isCoroutine = false) (hgen : scope.isGenerator = false) (hk : scope.kind = .function) : codeO (model prog w) A (.call (.ref f) args) R s := by
  have X := X₀.keeps F.keep
  obtain ⟨FG, BG, st, _⟩ := groundX (R := R) B F N hA hf hke
  refine codeO_call_function (fd := fnOf name qual params body scope dV kV doc pm an cdv ct) hroom (X _ _ ho) rfl hco hgen rfl (codeRec_of X hcd) (hbind _ _ _ _ ?_)
  refine wpAny_newFunctionEnv_cells hk (kindsX hkind _) fun env' he s' x => ?_
  subst he
  refine ⟨(T.nolimit.keeps F.keep).keeps x.toInCall.keep, codeO_func ?_⟩
  obtain ⟨h₁, tk, rfl, _⟩ := x.done
  have hk₁ := x.toInCall.keep
  obtain ⟨cells, NC, Y⟩ := Cl.news (h₀ := s.heap) (Nat.le_refl _) fun n c hm => ⟨x.cell n c (lookup_of_mem_nodup (cellsFrom_names scope.names 0 (s.heap.objs.size + 1) [] [] rfl ▸ hnd) hm), x.above n c hm⟩
  refine wpO_mono (h _ s.heap.objs.size h₁ tk cells FG ⟨x.toInCall.ns, fun b o e => hk₁ b o (of_hideAll _ e), Nat.le_of_eq (hideAll_size _ _)⟩ (fun p hp => ?_) Y BG (X₀.keeps st) (T.keeps st) (dicts_push hf FG st D) (fun p hp => Heap.lt_size (N p hp).1)
    (fun b o hb e => hideAll_get _ e hb)) (fun fl s' hl => leaveT_back B F hf FG st XB TB D hl) fun _ _ y => y
  rcases List.mem_append.mp hp with hp | hp
  · refine ⟨(NC p hp).1, (NC p hp).2.1, ?_⟩
    cases q : (hideAll s.heap (news.map (·.1))).get? p.1 with
    | none => rfl
    | some o => have := of_hideAll _ q; rw [(NC p hp).2.2] at this; cases this
  · exact ⟨hk₁ _ _ (N p hp).1, Nat.ne_of_lt (Heap.lt_size (N p hp).1), hideAll_none _ (List.mem_map_of_mem hp)⟩
end
theorem turn_none {fs : List Addr} {g g' : Heap} (T : KtsTurn fs g g') {b : Addr} (e : g'.get? b = none) : g.get? b = none := by
  cases q : g.get? b with
  | none => rfl
  | some o => obtain ⟨sl, hs⟩ := T.up q; rw [e] at hs; cases hs
theorem ne7 {a b c d e f g D : Addr} {x1 x2 x3 x4 x5 x6 x7 : Obj} (l : a < D ∧ b < D ∧ c < D ∧ d < D ∧ e < D ∧ f < D ∧ g < D) : D ∉ List.map (fun x : Addr × Obj => x.1) [(a, x1), (b, x2), (c, x3), (d, x4), (e, x5), (f, x6), (g, x7)] := fun hm => by
  simp only [List.map_cons, List.map_nil, List.mem_cons, List.not_mem_nil, or_false] at hm
  rcases hm with h | h | h | h | h | h | h
  · exact Nat.ne_of_gt l.1 h
  · exact Nat.ne_of_gt l.2.1 h
  · exact Nat.ne_of_gt l.2.2.1 h
  · exact Nat.ne_of_gt l.2.2.2.1 h
  · exact Nat.ne_of_gt l.2.2.2.2.1 h
  · exact Nat.ne_of_gt l.2.2.2.2.2.1 h
  · exact Nat.ne_of_gt l.2.2.2.2.2.2 h
theorem fresh3 {h g h' : Heap} {L' D : Addr} {m : Str → Option Value} {news : List (Addr × Obj)} (hO : Only (news.map (·.1)) h g) (F : Fr g L' h' m) (N : News g L' h' news) (hD : h'.get? D = none) : h.get? D = none := by
  cases q : h.get? D with
  | none => rfl
  | some o =>
    by_cases hm : D ∈ news.map (·.1)
    · obtain ⟨p, hp, rfl⟩ := List.mem_map.mp hm
      rw [(N p hp).1] at hD; cases hD
    · have := F.keep D o (hO D o hm q)
      rw [hD] at this; cases this
end Mine
namespace Mine
open PySem PySem.W PySem.Calls PyProof.Rows
theorem wt_C7 : True := by
  w_top off
  trivial
local macro_rules | `(tactic| walk_at "own pad") => `(tactic| fail)
local macro_rules | `(tactic| k_ne) => `(tactic| (refine neN ?_; (try dsimp only); first | assumption | (refine Ne.symm ?_; assumption) | omega))
local macro_rules | `(tactic| k_room) => `(tactic| exact Nat.le_of_ble_eq_true rfl)
local macro_rules | `(tactic| walk_at "my size") => `(tactic| ((try simp only [List.length_cons, List.length_nil, List.length_append, List.size_toArray, List.length_take, List.length_drop]); rw [sizeLine_eq]; omega))
local macro_rules | `(tactic| walk_at "call builtin:len") => `(tactic| (k_here; (with_reducible show wpAny _ _ (call (Value.builtin "len") [Value.bytes (List.toArray _) _]) _ _ _); k_dflt (refine' len_by ?z ?_; (case z => walk_at "my size"))))
local macro_rules | `(tactic| walk_at "call builtin:len") => `(tactic| (k_here; (with_reducible show wpAny _ _ (call (Value.builtin "len") [Value.ref _]) _ _ _); k_dflt (refine' len_baN (xs := _) ?n ?m ?z ?_; (case n => k_asm); (case m => k_mem); (case z => walk_at "my size"))))
local macro_rules | `(tactic| walk_at "call builtin:max") => `(tactic| (k_here; (with_reducible show wpAny _ _ (call (Value.builtin "max") [Value.int _ _, Value.int _ _]) _ _ _); k_dflt (refine' max_nat ?k1 ?k2 ?k3 ?_; (case k1 => exact rfl); (case k2 => k_asm); (case k3 => k_asm)); intro h' tk' t' F' N'))
local macro_rules | `(tactic| walk_at "exec Raise some none") => `(tactic| (k_here; (with_reducible show wpAny _ _ (exec (Stmt.Raise (some (Expr.Name _ _)) none _) _) _ _ _); k_dflt (refine' raise_ownK (bmB := [.type "Exception", .type "BaseException", .type "object"]) (newId := "Exception.__new__") ?F ?X ?T ?ex ?q PySem.F.excBase_Exception ?h ?_; (case F => k_asm); (case X => k_asm); (case T => k_asm); (case ex => k_is); (case q => k_exc); (case h => rfl))))
local macro_rules | `(tactic| walk_at "leaving ref") => `(tactic| (k_here; refine stop_of ?_))
local macro_rules | `(tactic| walk_at "truthy bytes") => `(tactic| (k_here; (with_reducible show wpAny _ _ (truthy (Value.bytes (List.toArray _) _)) _ _ _); k_dflt (refine' truthy_by ?z ?_; (case z => walk_at "my size")); (try simp only [List.isEmpty_cons, List.isEmpty_nil, Bool.not_false, Bool.not_true])))
local macro_rules | `(tactic| walk_at "my cut") => `(tactic| first | exact cut_upto _ _ | exact cut_from _ _ | exact cut_run' _ _ _)
local macro_rules | `(tactic| walk_at "subscriptTail") => `(tactic| (k_here; (with_reducible show wpAny _ _ (subscriptTail _ (Expr.Slice _ _ none _) (Value.ref _) (Value.ref _)) _ _ _); (with_reducible rename Fr _ _ _ _ => myF); (with_reducible rename News _ _ _ _ => myN); k_dflt (refine' ba_slice (s := ⟨_, _, _, _, _⟩) myF myN ?m ?l ?u ?z ?e ?_; (case m => k_mem); (case l => constructor); (case u => constructor); (case z => walk_at "my size"); (case e => walk_at "my cut")); clear myF myN; intro D' h' F' N' l1; (try k_lt l1); (try k_sweep)))
local macro_rules | `(tactic| walk_at "call type:bytes") => `(tactic| (k_here; (with_reducible show wpAny _ _ (call (Value.type "bytes") [Value.ref _]) _ _ _); k_dflt (refine' bytes_of_baN (xs := _) ?n ?m ?z ?_; (case n => k_asm); (case m => k_mem); (case z => walk_at "my size"))))
theorem T_try {prog : Program} {w : World} {A₀ : Around} {base h₀ : Heap} {L : Addr} {m : Str → Option Value} {mg mb : Str → Option Value} {p : Program} {loose : List Str} {mean : ExcName → Option Value} {env : Env} {outer : List Env} {s : Shared} {Q E : Value → Shared → Prop}
    {H dH PL PA U dU Bf : Addr} {t1 t2 ti tc tm tr ts : Tok} {τ : Nat → Tok} {v : Nat → Value} {nd nw na : Nat} {ws as : List Value} {ns : List Int} {ps : List (List UInt8)} {xs : List UInt8} {i ck room rs so n way : Nat} {kt tw : Tok}
    (B : Below A₀ base outer h₀) (F : Fr h₀ L s.heap m) (X : (MineHead.hd.heap_39 w.params).In h₀) (T : Top p loose mean mg mb h₀) (XB : (MineHead.hd.heap_39 w.params).In base) (TB : Top p loose mean mg mb base) (D : KtsDicts (outer.filterMap (·.frame)) h₀) (hf : env.frame = some L) (hke : env.scope.kind = .function)
    (N : News h₀ L s.heap [(H, instObj 481 dH), (dH, dictOf (parD w t1 t2 PL PA) nd), (PL, listOf ws.toArray nw), (PA, listOf as.toArray na), (U, instObj 445 dU), (dU, dictOf (unpD w τ v H Bf i ti ck tc room tm rs tr so ts) 22), (Bf, baObj xs)])
    (hd : List.Nodup ([H, dH, PL, PA, U, dU, Bf] : List Nat)) (hw : BAre ws ps) (has : IntsAre as ns) (hza : ns.length ≤ 900) (hzw : ws.length ≤ 1000) (hzp : ∀ b ∈ ps, b.length ≤ 1000) (hzx : xs.length ≤ 10000) (hzt : total ps ≤ 10000) (hzn : i + n ≤ xs.length + 50) (hrs : 1 ≤ rs) (hci : ck ≤ i) (hix : i ≤ xs.length)
    (hway : 1 ≤ way ∧ way ≤ 4)
    (hqO : (way = 1 ∨ way = 3) → ∀ Tp h₀' h' tk' t' D' (_hD : s.heap.get? D' = none) ti' tc' nd' nw' na' ws' as', (reserveR rs room xs i ck ps n (decide (way < 3))).1 = 0 → KtsTurn (outer.filterMap (·.frame)) h₀ h₀' → OnlyF [H, dH, PL, PA, U, dU, Bf] ((env :: outer).filterMap (·.frame)) s.heap h' → Fr h₀' L h' m → s.heap.get? Tp = none →
      News h₀' L h' [(Tp, { cls := .type "tuple", data := .seq #[.str (Str.ofString "octets") t', .ref D'] }), (H, instObj 481 dH), (dH, dictOf (parD w t1 t2 PL PA) nd'), (PL, listOf (List.toArray ws') nw'), (PA, listOf (List.toArray as') na'), (U, instObj 445 dU), (dU, dictOf (unpD w τ v H Bf ((reserveR rs room xs i ck ps n (decide (way < 3))).2.2.1 + (((reserveR rs room xs i ck ps n (decide (way < 3))).2.1.drop (reserveR rs room xs i ck ps n (decide (way < 3))).2.2.1).take n).length) ti' (reserveR rs room xs i ck ps n (decide (way < 3))).2.2.2.1 tc' room tm rs tr so ts) 22), (Bf, baObj (reserveR rs room xs i ck ps n (decide (way < 3))).2.1), (D', baObj (((reserveR rs room xs i ck ps n (decide (way < 3))).2.1.drop (reserveR rs room xs i ck ps n (decide (way < 3))).2.2.1).take n))] → BAre ws' (reserveR rs room xs i ck ps n (decide (way < 3))).2.2.2.2.1 → IntsAre as' (ns ++ (reserveR rs room xs i ck ps n (decide (way < 3))).2.2.2.2.2) → Below A₀ base outer h₀' → (MineHead.hd.heap_39 w.params).In h₀' → Top p loose mean mg mb h₀' → KtsDicts (outer.filterMap (·.frame)) h₀' → Q (.ref Tp) { s with heap := h', toks := tk' })
    (hqK : way = 2 → ∀ Tp h₀' h' tk' t'  ti' tc' nd' nw' na' ws' as', (reserveR rs room xs i ck ps n (decide (way < 3))).1 = 0 → KtsTurn (outer.filterMap (·.frame)) h₀ h₀' → OnlyF [H, dH, PL, PA, U, dU, Bf] ((env :: outer).filterMap (·.frame)) s.heap h' → Fr h₀' L h' m → s.heap.get? Tp = none →
      News h₀' L h' [(Tp, { cls := .type "tuple", data := .seq #[.str (Str.ofString "kept") t', .none] }), (H, instObj 481 dH), (dH, dictOf (parD w t1 t2 PL PA) nd'), (PL, listOf (List.toArray ws') nw'), (PA, listOf (List.toArray as') na'), (U, instObj 445 dU), (dU, dictOf (unpD w τ v H Bf (reserveR rs room xs i ck ps n (decide (way < 3))).2.2.1 ti' (reserveR rs room xs i ck ps n (decide (way < 3))).2.2.2.1 tc' room tm rs tr so ts) 22), (Bf, baObj (reserveR rs room xs i ck ps n (decide (way < 3))).2.1)] → BAre ws' (reserveR rs room xs i ck ps n (decide (way < 3))).2.2.2.2.1 → IntsAre as' (ns ++ (reserveR rs room xs i ck ps n (decide (way < 3))).2.2.2.2.2) → Below A₀ base outer h₀' → (MineHead.hd.heap_39 w.params).In h₀' → Top p loose mean mg mb h₀' → KtsDicts (outer.filterMap (·.frame)) h₀' → Q (.ref Tp) { s with heap := h', toks := tk' })
    (hqP : way = 4 → ∀ Tp h₀' h' tk' t' tr' ts' ti' tc' nd' nw' na' ws' as', (reserveR rs room xs i ck ps n (decide (way < 3))).1 = 0 → KtsTurn (outer.filterMap (·.frame)) h₀ h₀' → OnlyF [H, dH, PL, PA, U, dU, Bf] ((env :: outer).filterMap (·.frame)) s.heap h' → Fr h₀' L h' m → s.heap.get? Tp = none →
      News h₀' L h' [(Tp, { cls := .type "tuple", data := .seq #[.str (Str.ofString "plain") t', .bytes (((reserveR rs room xs i ck ps n (decide (way < 3))).2.1.drop (reserveR rs room xs i ck ps n (decide (way < 3))).2.2.1).take n).toArray tr'] }), (H, instObj 481 dH), (dH, dictOf (parD w t1 t2 PL PA) nd'), (PL, listOf (List.toArray ws') nw'), (PA, listOf (List.toArray as') na'), (U, instObj 445 dU), (dU, dictOf (unpD w τ v H Bf ((reserveR rs room xs i ck ps n (decide (way < 3))).2.2.1 + (((reserveR rs room xs i ck ps n (decide (way < 3))).2.1.drop (reserveR rs room xs i ck ps n (decide (way < 3))).2.2.1).take n).length) ti' ((reserveR rs room xs i ck ps n (decide (way < 3))).2.2.1 + (((reserveR rs room xs i ck ps n (decide (way < 3))).2.1.drop (reserveR rs room xs i ck ps n (decide (way < 3))).2.2.1).take n).length) tc' room tm rs tr (so + (((reserveR rs room xs i ck ps n (decide (way < 3))).2.2.1 + (((reserveR rs room xs i ck ps n (decide (way < 3))).2.1.drop (reserveR rs room xs i ck ps n (decide (way < 3))).2.2.1).take n).length) - (reserveR rs room xs i ck ps n (decide (way < 3))).2.2.2.1)) ts') 22), (Bf, baObj (reserveR rs room xs i ck ps n (decide (way < 3))).2.1)] → BAre ws' (reserveR rs room xs i ck ps n (decide (way < 3))).2.2.2.2.1 → IntsAre as' (ns ++ (reserveR rs room xs i ck ps n (decide (way < 3))).2.2.2.2.2) → Below A₀ base outer h₀' → (MineHead.hd.heap_39 w.params).In h₀' → Top p loose mean mg mb h₀' → KtsDicts (outer.filterMap (·.frame)) h₀' → Q (.ref Tp) { s with heap := h', toks := tk' })
    (hqX : ((reserveR rs room xs i ck ps n (decide (way < 3))).1 = 1 ∨ (reserveR rs room xs i ck ps n (decide (way < 3))).1 = 2) → ∀ Tp h₀' h' tk' t'  ti' tc' nd' nw' na' ws' as',  KtsTurn (outer.filterMap (·.frame)) h₀ h₀' → OnlyF [H, dH, PL, PA, U, dU, Bf] ((env :: outer).filterMap (·.frame)) s.heap h' → Fr h₀' L h' m → s.heap.get? Tp = none →
      News h₀' L h' [(Tp, { cls := .type "tuple", data := .seq #[.str (word (reserveR rs room xs i ck ps n (decide (way < 3))).1) t'] }), (H, instObj 481 dH), (dH, dictOf (parD w t1 t2 PL PA) nd'), (PL, listOf (List.toArray ws') nw'), (PA, listOf (List.toArray as') na'), (U, instObj 445 dU), (dU, dictOf (unpD w τ v H Bf (reserveR rs room xs i ck ps n (decide (way < 3))).2.2.1 ti' (reserveR rs room xs i ck ps n (decide (way < 3))).2.2.2.1 tc' room tm rs tr so ts) 22), (Bf, baObj (reserveR rs room xs i ck ps n (decide (way < 3))).2.1)] → BAre ws' (reserveR rs room xs i ck ps n (decide (way < 3))).2.2.2.2.1 → IntsAre as' (ns ++ (reserveR rs room xs i ck ps n (decide (way < 3))).2.2.2.2.2) → Below A₀ base outer h₀' → (MineHead.hd.heap_39 w.params).In h₀' → Top p loose mean mg mb h₀' → KtsDicts (outer.filterMap (·.frame)) h₀' → Q (.ref Tp) { s with heap := h', toks := tk' }) :
    wpO (model prog w) (AA 385 850 env outer) (call (.ref 506) [.ref U, .int (way : Int) tw, .int (n : Int) kt]) Q E s := by
  refine wpO_call ?_
  k_dflt (refine' codeO_defT ?k1 ?k2 ?k3 ?k4 ?k5 ?XB ?TB ?D ?kA ?kF ?kK ?k6 ?k7 ?k8 ?k9 ?kB ?_ ?c2 ?c3 ?c4 ?c5; (case kA => exact rfl); (case kF => exact hf); (case kK => exact hke); (case k1 => k_asm); (case k2 => k_asm); (case k3 => k_asm); (case k4 => k_asm); (case k5 => k_asm); (case XB => exact XB); (case TB => exact TB); (case D => exact D); (case k6 => k_is); (case k7 => k_is); (case k8 => exact Nat.le_of_ble_eq_true rfl); (case k9 => exact BindsTo.of_eq (binds := [(Str.ofString "used", .ref U), (Str.ofString "way", .int (way : Int) tw), (Str.ofString "size", .int (n : Int) kt)]) (by with_unfolding_all rfl)); (case c5 => decide); (case kB => exact locs rfl); (case c2 => exact rfl); (case c3 => exact rfl); (case c4 => exact rfl))
  intro g' L' h' FG' F' N' B' X' T' D' hlt hO
  dsimp only
  obtain rfl | rfl | rfl | rfl : way = 1 ∨ way = 2 ∨ way = 3 ∨ way = 4 := by omega
  · refine wpO_execs_cons (wpO_Try ?_)
    simp only [show decide ((1 : Nat) < 3) = true from rfl] at hqO hqK hqP hqX
    refine wpO_execs_cons (wpO_IfLeaf ?_)
    k_steps
    refine wpO_execs_cons (wpO_Return (wpO_Tuple2 ?_))
    k_steps
    refine wpO_methodCall ?_
    k_steps
    refine wpO_callWith_K X' (by k_dflt k_is) ?_
    k_steps
    refine wpO_upto (d := 395) (u := 950) (env := envOf _ _ _ _ _) ⟨rfl, Nat.le_of_ble_eq_true rfl, rfl, Nat.le_of_ble_eq_true rfl⟩ (U_read (kt := kt) (raise := true) (n := n) B' F' X' T' rfl rfl N' hd hw has hza hzw hzp hzx hzt hzn hrs hci hix (.inr ⟨rfl, rfl, rfl⟩) ?hq1 ?hE1)
    case hE1 =>
      intro C e t vs h3 g₂ tk3 ti3 tc3 nd3 nw3 na3 ws3 as3 hC O3 F3 R3 U3 hw3 ha3
      clear F' N'
      rcases hC with ⟨hC, rfl⟩ | ⟨hC, rfl⟩
      · k_steps
        (with_reducible rename KtsTurn _ _ _ => gT)
        (with_reducible rename Fr _ _ _ _ => gF)
        (with_reducible rename News _ _ _ _ => gN)
        refine ⟨_, _, _, _, gT, gF, gN, fun h₀' T0 kF kN kB kX kT kD => ?_⟩
        have hqX' := hqX (.inl hC)
        rw [hC] at hqX'
        exact hqX' _ h₀' _ _ _ ti3 tc3 nd3 nw3 na3 ws3 as3 T0 (fun b o nb nf e => gF.keep b o (gT.other b o (hO b o nb e) nf)) kF (fresh_of (turn_none gT (gN _ (.head _)).2.2) hO (ne7 (by (with_reducible rename _ ∧ _ => l1); exact l1))) kN hw3 ha3 kB kX kT kD
      · k_steps
        (with_reducible rename KtsTurn _ _ _ => gT)
        (with_reducible rename Fr _ _ _ _ => gF)
        (with_reducible rename News _ _ _ _ => gN)
        refine ⟨_, _, _, _, gT, gF, gN, fun h₀' T0 kF kN kB kX kT kD => ?_⟩
        have hqX' := hqX (.inr hC)
        rw [hC] at hqX'
        exact hqX' _ h₀' _ _ _ ti3 tc3 nd3 nw3 na3 ws3 as3 T0 (fun b o nb nf e => gF.keep b o (gT.other b o (hO b o nb e) nf)) kF (fresh_of (turn_none gT (gN _ (.head _)).2.2) hO (ne7 (by (with_reducible rename _ ∧ _ => l1); exact l1))) kN hw3 ha3 kB kX kT kD
    case hq1 =>
      intro D3 h3 tk3 ti3 tc3 nd3 nw3 na3 ws3 as3 hwd O3 F3 N3 hD3 hw3 ha3
      have hDs := fresh3 hO F' N' hD3
      k_steps
      (with_reducible rename Fr _ _ _ _ => gF)
      (with_reducible rename News _ _ _ _ => gN)
      refine ⟨_, _, _, _, KtsTurn.refl, gF, gN, fun h₀' T0 kF kN kB kX kT kD => ?_⟩
      exact hqO (by simp) _ h₀' _ _ _ D3 hDs ti3 tc3 nd3 nw3 na3 ws3 as3 hwd T0 (fun b o nb _ e => gF.keep b o (hO b o nb e)) kF (fresh_of (gN _ (.head _)).2.2 hO (ne7 (by (with_reducible rename _ ∧ _ => l1); first | exact l1 | exact ⟨l1.1, l1.2.1, l1.2.2.1, l1.2.2.2.1, l1.2.2.2.2.1, l1.2.2.2.2.2.1, l1.2.2.2.2.2.2.1⟩))) kN hw3 ha3 kB kX kT kD
  · refine wpO_execs_cons (wpO_Try ?_)
    simp only [show decide ((2 : Nat) < 3) = true from rfl] at hqO hqK hqP hqX
    refine wpO_execs_cons (wpO_IfLeaf ?_)
    k_steps
    refine wpO_execs_nil ?_
    dsimp only
    refine wpO_execs_cons (wpO_IfLeaf ?_)
    k_steps
    refine wpO_execs_cons (wpO_Return (wpO_Tuple2 ?_))
    k_steps
    refine wpO_methodCall ?_
    k_steps
    refine wpO_callWith_K X' (by k_dflt k_is) ?_
    k_steps
    refine wpO_upto (d := 400) (u := 1000) (env := envOf _ _ _ _ _) ⟨rfl, Nat.le_of_ble_eq_true rfl, rfl, Nat.le_of_ble_eq_true rfl⟩ (U_reserve (kt := kt) (raise := true) (n := n) B' F' X' T' rfl rfl N' hd hw has hza hzw hzp hzx hzt hzn hrs hci hix (.inr ⟨rfl, rfl, rfl⟩) ?hq1 ?hE1)
    case hE1 =>
      intro C e t vs h3 g₂ tk3 ti3 tc3 nd3 nw3 na3 ws3 as3 hC O3 F3 R3 U3 hw3 ha3
      clear F' N'
      rcases hC with ⟨hC, rfl⟩ | ⟨hC, rfl⟩
      · k_steps
        (with_reducible rename KtsTurn _ _ _ => gT)
        (with_reducible rename Fr _ _ _ _ => gF)
        (with_reducible rename News _ _ _ _ => gN)
        refine ⟨_, _, _, _, gT, gF, gN, fun h₀' T0 kF kN kB kX kT kD => ?_⟩
        have hqX' := hqX (.inl hC)
        rw [hC] at hqX'
        exact hqX' _ h₀' _ _ _ ti3 tc3 nd3 nw3 na3 ws3 as3 T0 (fun b o nb nf e => gF.keep b o (gT.other b o (hO b o nb e) nf)) kF (fresh_of (turn_none gT (gN _ (.head _)).2.2) hO (ne7 (by (with_reducible rename _ ∧ _ => l1); exact l1))) kN hw3 ha3 kB kX kT kD
      · k_steps
        (with_reducible rename KtsTurn _ _ _ => gT)
        (with_reducible rename Fr _ _ _ _ => gF)
        (with_reducible rename News _ _ _ _ => gN)
        refine ⟨_, _, _, _, gT, gF, gN, fun h₀' T0 kF kN kB kX kT kD => ?_⟩
        have hqX' := hqX (.inr hC)
        rw [hC] at hqX'
        exact hqX' _ h₀' _ _ _ ti3 tc3 nd3 nw3 na3 ws3 as3 T0 (fun b o nb nf e => gF.keep b o (gT.other b o (hO b o nb e) nf)) kF (fresh_of (turn_none gT (gN _ (.head _)).2.2) hO (ne7 (by (with_reducible rename _ ∧ _ => l1); exact l1))) kN hw3 ha3 kB kX kT kD
    case hq1 =>
      intro h3 tk3 ti3 tc3 nd3 nw3 na3 ws3 as3 hwd O3 F3 N3 hw3 ha3
      k_steps
      (with_reducible rename Fr _ _ _ _ => gF)
      (with_reducible rename News _ _ _ _ => gN)
      refine ⟨_, _, _, _, KtsTurn.refl, gF, gN, fun h₀' T0 kF kN kB kX kT kD => ?_⟩
      exact hqK (by simp) _ h₀' _ _ _ ti3 tc3 nd3 nw3 na3 ws3 as3 hwd T0 (fun b o nb _ e => gF.keep b o (hO b o nb e)) kF (fresh_of (gN _ (.head _)).2.2 hO (ne7 (by (with_reducible rename _ ∧ _ => l1); first | exact l1 | exact ⟨l1.1, l1.2.1, l1.2.2.1, l1.2.2.2.1, l1.2.2.2.2.1, l1.2.2.2.2.2.1, l1.2.2.2.2.2.2.1⟩))) kN hw3 ha3 kB kX kT kD
  · refine wpO_execs_cons (wpO_Try ?_)
    simp only [show decide ((3 : Nat) < 3) = false from rfl] at hqO hqK hqP hqX
    refine wpO_execs_cons (wpO_IfLeaf ?_)
    k_steps
    refine wpO_execs_nil ?_
    dsimp only
    refine wpO_execs_cons (wpO_IfLeaf ?_)
    k_steps
    refine wpO_execs_nil ?_
    dsimp only
    refine wpO_execs_cons (wpO_IfLeaf ?_)
    k_steps
    refine wpO_execs_cons (wpO_Return (wpO_Tuple2 ?_))
    k_steps
    refine wpO_methodCall ?_
    k_steps
    refine wpO_callWith_KW X' (by k_dflt k_is) rfl ?_
    k_steps
    refine wpO_upto (d := 395) (u := 950) (env := envOf _ _ _ _ _) ⟨rfl, Nat.le_of_ble_eq_true rfl, rfl, Nat.le_of_ble_eq_true rfl⟩ (U_read (kt := kt) (raise := false) (n := n) B' F' X' T' rfl rfl N' hd hw has hza hzw hzp hzx hzt hzn hrs hci hix (.inl ⟨rfl, rfl⟩) ?hq1 ?hE1)
    case hE1 =>
      intro C e t vs h3 g₂ tk3 ti3 tc3 nd3 nw3 na3 ws3 as3 hC O3 F3 R3 U3 hw3 ha3
      clear F' N'
      rcases hC with ⟨hC, rfl⟩ | ⟨hC, rfl⟩
      · k_steps
        (with_reducible rename KtsTurn _ _ _ => gT)
        (with_reducible rename Fr _ _ _ _ => gF)
        (with_reducible rename News _ _ _ _ => gN)
        refine ⟨_, _, _, _, gT, gF, gN, fun h₀' T0 kF kN kB kX kT kD => ?_⟩
        have hqX' := hqX (.inl hC)
        rw [hC] at hqX'
        exact hqX' _ h₀' _ _ _ ti3 tc3 nd3 nw3 na3 ws3 as3 T0 (fun b o nb nf e => gF.keep b o (gT.other b o (hO b o nb e) nf)) kF (fresh_of (turn_none gT (gN _ (.head _)).2.2) hO (ne7 (by (with_reducible rename _ ∧ _ => l1); exact l1))) kN hw3 ha3 kB kX kT kD
      · k_steps
        (with_reducible rename KtsTurn _ _ _ => gT)
        (with_reducible rename Fr _ _ _ _ => gF)
        (with_reducible rename News _ _ _ _ => gN)
        refine ⟨_, _, _, _, gT, gF, gN, fun h₀' T0 kF kN kB kX kT kD => ?_⟩
        have hqX' := hqX (.inr hC)
        rw [hC] at hqX'
        exact hqX' _ h₀' _ _ _ ti3 tc3 nd3 nw3 na3 ws3 as3 T0 (fun b o nb nf e => gF.keep b o (gT.other b o (hO b o nb e) nf)) kF (fresh_of (turn_none gT (gN _ (.head _)).2.2) hO (ne7 (by (with_reducible rename _ ∧ _ => l1); exact l1))) kN hw3 ha3 kB kX kT kD
    case hq1 =>
      intro D3 h3 tk3 ti3 tc3 nd3 nw3 na3 ws3 as3 hwd O3 F3 N3 hD3 hw3 ha3
      have hDs := fresh3 hO F' N' hD3
      k_steps
      (with_reducible rename Fr _ _ _ _ => gF)
      (with_reducible rename News _ _ _ _ => gN)
      refine ⟨_, _, _, _, KtsTurn.refl, gF, gN, fun h₀' T0 kF kN kB kX kT kD => ?_⟩
      exact hqO (by simp) _ h₀' _ _ _ D3 hDs ti3 tc3 nd3 nw3 na3 ws3 as3 hwd T0 (fun b o nb _ e => gF.keep b o (hO b o nb e)) kF (fresh_of (gN _ (.head _)).2.2 hO (ne7 (by (with_reducible rename _ ∧ _ => l1); first | exact l1 | exact ⟨l1.1, l1.2.1, l1.2.2.1, l1.2.2.2.1, l1.2.2.2.2.1, l1.2.2.2.2.2.1, l1.2.2.2.2.2.2.1⟩))) kN hw3 ha3 kB kX kT kD
  · refine wpO_execs_cons (wpO_Try ?_)
    simp only [show decide ((4 : Nat) < 3) = false from rfl] at hqO hqK hqP hqX
    refine wpO_execs_cons (wpO_IfLeaf ?_)
    k_steps
    refine wpO_execs_nil ?_
    dsimp only
    refine wpO_execs_cons (wpO_IfLeaf ?_)
    k_steps
    refine wpO_execs_nil ?_
    dsimp only
    refine wpO_execs_cons (wpO_IfLeaf ?_)
    k_steps
    refine wpO_execs_nil ?_
    dsimp only
    refine wpO_execs_cons (wpO_Return (wpO_Tuple2 ?_))
    k_steps
    refine wpO_methodCall ?_
    k_steps
    refine wpO_callWith_K X' (by k_dflt k_is) ?_
    k_steps
    refine wpO_upto (d := 390) (u := 900) (env := envOf _ _ _ _ _) ⟨rfl, Nat.le_of_ble_eq_true rfl, rfl, Nat.le_of_ble_eq_true rfl⟩ (U_bytes (kt := kt) (n := n) B' F' X' T' rfl rfl N' hd hw has hza hzw hzp hzx hzt hzn hrs hci hix  ?hq1 ?hE1)
    case hE1 =>
      intro C e t vs h3 g₂ tk3 ti3 tc3 nd3 nw3 na3 ws3 as3 hC O3 F3 R3 U3 hw3 ha3
      clear F' N'
      rcases hC with ⟨hC, rfl⟩ | ⟨hC, rfl⟩
      · k_steps
        (with_reducible rename KtsTurn _ _ _ => gT)
        (with_reducible rename Fr _ _ _ _ => gF)
        (with_reducible rename News _ _ _ _ => gN)
        refine ⟨_, _, _, _, gT, gF, gN, fun h₀' T0 kF kN kB kX kT kD => ?_⟩
        have hqX' := hqX (.inl hC)
        rw [hC] at hqX'
        exact hqX' _ h₀' _ _ _ ti3 tc3 nd3 nw3 na3 ws3 as3 T0 (fun b o nb nf e => gF.keep b o (gT.other b o (hO b o nb e) nf)) kF (fresh_of (turn_none gT (gN _ (.head _)).2.2) hO (ne7 (by (with_reducible rename _ ∧ _ => l1); exact l1))) kN hw3 ha3 kB kX kT kD
      · k_steps
        (with_reducible rename KtsTurn _ _ _ => gT)
        (with_reducible rename Fr _ _ _ _ => gF)
        (with_reducible rename News _ _ _ _ => gN)
        refine ⟨_, _, _, _, gT, gF, gN, fun h₀' T0 kF kN kB kX kT kD => ?_⟩
        have hqX' := hqX (.inr hC)
        rw [hC] at hqX'
        exact hqX' _ h₀' _ _ _ ti3 tc3 nd3 nw3 na3 ws3 as3 T0 (fun b o nb nf e => gF.keep b o (gT.other b o (hO b o nb e) nf)) kF (fresh_of (turn_none gT (gN _ (.head _)).2.2) hO (ne7 (by (with_reducible rename _ ∧ _ => l1); exact l1))) kN hw3 ha3 kB kX kT kD
    case hq1 =>
      intro h3 tk3 tr3 ti3 tc3 ts3 nd3 nw3 na3 ws3 as3 hwd O3 F3 N3 hw3 ha3
      k_steps
      (with_reducible rename Fr _ _ _ _ => gF)
      (with_reducible rename News _ _ _ _ => gN)
      refine ⟨_, _, _, _, KtsTurn.refl, gF, gN, fun h₀' T0 kF kN kB kX kT kD => ?_⟩
      exact hqP (by simp) _ h₀' _ _ _ tr3 ts3 ti3 tc3 nd3 nw3 na3 ws3 as3 hwd T0 (fun b o nb _ e => gF.keep b o (hO b o nb e)) kF (fresh_of (gN _ (.head _)).2.2 hO (ne7 (by (with_reducible rename _ ∧ _ => l1); first | exact l1 | exact ⟨l1.1, l1.2.1, l1.2.2.1, l1.2.2.2.1, l1.2.2.2.2.1, l1.2.2.2.2.2.1, l1.2.2.2.2.2.2.1⟩))) kN hw3 ha3 kB kX kT kD
end Mine
namespace Mine
open PySem PySem.W PySem.Calls PyProof.Rows
/-- the reader's reserve is the plain reckoning, seen through the cut buffer -/
theorem sync {rs room : Nat} {got : List UInt8} {told place off : Nat} {ps : List (List UInt8)} {n : Nat} {ins : Bool} (h1 : off ≤ told) (h2 : told ≤ place) (h3 : place ≤ got.length) :
    ∃ off', off' ≤ told ∧ told ≤ (lackR rs room got told place ps n ins).2.2.1 ∧ (lackR rs room got told place ps n ins).2.2.1 ≤ (lackR rs room got told place ps n ins).2.1.length ∧
      reserveR rs room (got.drop off) (place - off) (told - off) ps n ins = ((lackR rs room got told place ps n ins).1, (lackR rs room got told place ps n ins).2.1.drop off', (lackR rs room got told place ps n ins).2.2.1 - off', told - off',
        (lackR rs room got told place ps n ins).2.2.2.1, (lackR rs room got told place ps n ins).2.2.2.2) := by
  have hl : (got.drop off).length = got.length - off := List.length_drop ..
  by_cases c1 : place + n ≤ got.length
  · refine ⟨off, h1, ?_⟩
    rw [lackR_ok c1, reserveR_ok (by rw [hl]; omega)]
    exact ⟨h2, h3, rfl⟩
  have e : place - off + n - (got.drop off).length = place + n - got.length := by rw [hl]; omega
  have ed : (got.drop off).drop (told - off) = got.drop told := by rw [List.drop_drop]; congr 1; omega
  by_cases c2 : place + n > room + told
  · refine ⟨told, Nat.le_refl _, ?_⟩
    rw [lackR_full c1 c2, reserveR_full (by rw [hl]; omega) (by rw [e, hl]; omega), ed]
    refine ⟨h2, h3, ?_⟩
    rw [show place - off - (told - off) = place - told from by omega, Nat.sub_self]
  rcases hf : fill rs (place + n - got.length) ps with ⟨d, px, az, k⟩
  have hk : k = place + n - got.length - d.length := by have := fill_left rs (place + n - got.length) ps; rw [hf] at this; exact this
  have hdl : (got.drop told ++ d).length = got.length - told + d.length := by rw [List.length_append, List.length_drop]
  have hdrop : (got ++ d).drop told = got.drop told ++ d := List.drop_append_of_le_length (by omega)
  refine ⟨told, Nat.le_refl _, ?_⟩
  by_cases c3 : 0 < k ∧ ins = true
  · rw [lackR_short c1 c2 hf c3.1 c3.2, reserveR_short (d := d) (px := px) (az := az) (k := k) (by rw [hl]; omega) (by rw [e, hl]; omega) (by rw [e]; exact hf) (by rw [ed, hdl]; omega) c3.2, ed]
    refine ⟨Nat.le_refl _, by rw [List.length_append]; dsimp only; omega, ?_⟩
    rw [Nat.sub_self, hdrop]
  · have c4 : k = 0 ∨ ins = false := by
      rcases Nat.eq_zero_or_pos k with h | h
      · exact .inl h
      · cases hi : ins with
        | false => exact .inr rfl
        | true => exact absurd ⟨h, hi⟩ c3
    rw [lackR_fine c1 c2 hf c4, reserveR_fine (d := d) (px := px) (az := az) (k := k) (by rw [hl]; omega) (by rw [e, hl]; omega) (by rw [e]; exact hf) (fun x => c3 ⟨by have := x.1; rw [ed, hdl] at this; omega, x.2⟩), ed]
    refine ⟨h2, by rw [List.length_append]; dsimp only; omega, ?_⟩
    rw [show place - off - (told - off) = place - told from by omega, Nat.sub_self, hdrop]
section
variable {rs room : Nat} {got : List UInt8} {told place : Nat} {ps : List (List UInt8)} {n : Nat} {ins : Bool}
theorem lackR_sum : (lackR rs room got told place ps n ins).2.1.length + total (lackR rs room got told place ps n ins).2.2.2.1 = got.length + total ps := by
  have := fill_sum rs (place + n - got.length) ps
  unfold lackR
  split
  · rfl
  split
  · rfl
  split
  · simp only [List.length_append]; omega
  · simp only [List.length_append]; omega
theorem lackR_len : (lackR rs room got told place ps n ins).2.2.2.1.length ≤ ps.length := by
  have := fill_len rs (place + n - got.length) ps
  unfold lackR
  split
  · exact Nat.le_refl _
  split
  · exact Nat.le_refl _
  split <;> exact this
theorem lackR_mem {z : Nat} (h : ∀ b ∈ ps, b.length ≤ z) : ∀ b ∈ (lackR rs room got told place ps n ins).2.2.2.1, b.length ≤ z := by
  have := fill_mem rs z (place + n - got.length) ps h
  unfold lackR
  split
  · exact h
  split
  · exact h
  split <;> exact this
theorem lackR_asks (h3 : place ≤ got.length) : (lackR rs room got told place ps n ins).2.2.2.2.length ≤ n := by
  have := fill_asks rs (place + n - got.length) ps
  unfold lackR
  split
  · exact Nat.zero_le _
  split
  · exact Nat.zero_le _
  split
  · show (fill rs (place + n - got.length) ps).2.2.1.length ≤ n; omega
  · show (fill rs (place + n - got.length) ps).2.2.1.length ≤ n; omega
theorem lackR_word : (lackR rs room got told place ps n ins).1 = 0 ∨ (lackR rs room got told place ps n ins).1 = 1 ∨ (lackR rs room got told place ps n ins).1 = 2 := by
  unfold lackR
  split
  · exact .inl rfl
  split
  · exact .inr (.inl rfl)
  split
  · exact .inr (.inr rfl)
  · exact .inl rfl
end
end Mine
namespace Mine
open PySem PySem.W PySem.Calls PyProof.Rows
theorem BAre.one (b : List UInt8) (t : Tok) : BAre [.bytes b.toArray t] [b] := ⟨⟨t, rfl⟩, trivial⟩
theorem cat1 (ww : List Value) (x : Value) : ww.toArray.toList ++ (#[x] : Array Value).toList = ww ++ [x] := rfl
structure Inv (j : Nat) (got : List UInt8) (told place off : Nat) (ps : List (List UInt8)) (ns : List Int) : Prop where
  h1 : off ≤ told
  h2 : told ≤ place
  h3 : place ≤ got.length
  z1 : got.length + total ps ≤ 9 + 4 * j
  z2 : ps.length ≤ 4 + j
  z3 : ∀ b ∈ ps, b.length ≤ 4
  z4 : ns.length ≤ 8 * j + 8
section
variable {H dH PL PA U dU Bf S W SA D : Addr}
theorem nodup_new (hd : List.Nodup ([H, dH, PL, PA, U, dU, Bf, S, W, SA] : List Nat)) (f1 : @Ne Nat H D) (f2 : @Ne Nat dH D) (f3 : @Ne Nat PL D) (f4 : @Ne Nat PA D) (f5 : @Ne Nat U D) (f6 : @Ne Nat dU D) (f7 : @Ne Nat Bf D) (f8 : @Ne Nat S D) (f9 : @Ne Nat D SA) :
    List.Nodup ([H, dH, PL, PA, U, dU, Bf, S, D, SA] : List Nat) := by
  simp only [List.nodup_cons, List.mem_cons, List.not_mem_nil, or_false, not_or, List.nodup_nil, and_true, not_false_eq_true] at hd ⊢
  obtain ⟨⟨q1, q2, q3, q4, q5, q6, q22, q23, q24⟩, ⟨q7, q8, q9, q10, q11, q25, q26, q27⟩, ⟨q12, q13, q14, q15, q28, q29, q30⟩, ⟨q16, q17, q18, q31, q32, q33⟩, ⟨q19, q20, q34, q35, q36⟩, ⟨q21, q37, q38, q39⟩, ⟨q40, q41, q42⟩, ⟨q43, q44⟩, q45⟩ := hd
  exact ⟨⟨q1, q2, q3, q4, q5, q6, q22, f1, q24⟩, ⟨q7, q8, q9, q10, q11, q25, f2, q27⟩, ⟨q12, q13, q14, q15, q28, f3, q30⟩, ⟨q16, q17, q18, q31, f4, q33⟩, ⟨q19, q20, q34, f5, q36⟩, ⟨q21, q37, f6, q39⟩, ⟨q40, f7, q42⟩, ⟨f8, q44⟩, f9⟩
end
theorem news_frames {A₀ : Around} {base g h : Heap} {env : Env} {outer : List Env} {L' : Addr} {news : List (Addr × Obj)} (B : Below A₀ base outer g) (N : News g L' h news) (hf : env.frame = some L') : ∀ p ∈ news, p.1 ∉ (env :: outer).filterMap (·.frame) := fun p hp hm => by
  rcases frames_mem hf hm with e | e
  · exact (N p hp).2.1 e
  · obtain ⟨_, o, ho, _⟩ := B.frames.mem e
    rw [(N p hp).2.2] at ho; cases ho
theorem OnlyF.news {adr fs : List Addr} {h h' g g' : Heap} {L' : Addr} {news : List (Addr × Obj)} (O : OnlyF adr fs h h') (N : News g L' h news) (ha : ∀ p ∈ news, p.1 ∉ adr) (hf : ∀ p ∈ news, p.1 ∉ fs) {fs' : List Addr} (T : KtsTurn fs' g g') : News g' L' h' news :=
  fun p hp => ⟨O _ _ (ha p hp) (hf p hp) (N p hp).1, (N p hp).2.1, T.none_ _ (N p hp).2.2⟩
theorem total_append (ps : List (List UInt8)) (b : List UInt8) : total (ps ++ [b]) = total ps + b.length := by
  induction ps with
  | nil => simp [total]
  | cons p r ih => simp only [List.cons_append, total, ih]; omega
theorem Inv.put {j : Nat} {got : List UInt8} {told place off : Nat} {ps : List (List UInt8)} {ns : List Int} {b : List UInt8} (I : Inv j got told place off ps ns) (hb : b.length ≤ 4) : Inv (j + 1) got told place off (ps ++ [b]) ns :=
  ⟨I.h1, I.h2, I.h3, by rw [total_append]; have := I.z1; omega, by rw [List.length_append]; have := I.z2; simp; omega, fun c hc => by
    rcases List.mem_append.mp hc with hc | hc
    · exact I.z3 c hc
    · rw [List.mem_singleton.mp hc]; exact hb, by have := I.z4; omega⟩
theorem new_ne {a W W2 : Addr} {h : Heap} {o : Obj} (hW : W2 = W ∨ h.get? W2 = none) (ha : h.get? a = some o) (q : @Ne Nat a W) : @Ne Nat a W2 := by
  rcases hW with rfl | hW
  · exact q
  · rintro rfl; rw [ha] at hW; cases hW
theorem nodup7 {H dH PL PA U dU Bf S W SA : Addr} (hd : List.Nodup ([H, dH, PL, PA, U, dU, Bf, S, W, SA] : List Nat)) : List.Nodup ([H, dH, PL, PA, U, dU, Bf] : List Nat) :=
  (List.nodup_append.mp (show List.Nodup (([H, dH, PL, PA, U, dU, Bf] : List Nat) ++ [S, W, SA]) from hd)).1
theorem News.take8 {h₀ : Heap} {L : Addr} {h : Heap} {a b c d e f g i : Addr × Obj} {l : List (Addr × Obj)} (N : News h₀ L h (a :: b :: c :: d :: e :: f :: g :: i :: l)) : News h₀ L h [a, b, c, d, e, f, g, i] := fun q hq => N q (List.mem_append_left l hq)
theorem News.take7 {h₀ : Heap} {L : Addr} {h : Heap} {a b c d e f g : Addr × Obj} {l : List (Addr × Obj)} (N : News h₀ L h (a :: b :: c :: d :: e :: f :: g :: l)) : News h₀ L h [a, b, c, d, e, f, g] := fun q hq => N q (List.mem_append_left l hq)
theorem News.drop7 {h₀ : Heap} {L : Addr} {h : Heap} {a b c d e f g : Addr × Obj} {l : List (Addr × Obj)} (N : News h₀ L h (a :: b :: c :: d :: e :: f :: g :: l)) : News h₀ L h l := fun q hq => N q (List.mem_append_right [a, b, c, d, e, f, g] hq)
theorem News.cons {h₀ : Heap} {L : Addr} {h : Heap} {a : Addr × Obj} {l : List (Addr × Obj)} (N : News h₀ L h [a]) (M : News h₀ L h l) : News h₀ L h (a :: l) := News.append N M
theorem News.one {h₀ : Heap} {L : Addr} {h : Heap} {a : Addr × Obj} {l : List (Addr × Obj)} (N : News h₀ L h (a :: l)) : News h₀ L h [a] := fun q hq => N q (List.mem_append_left l hq)
theorem News.tail {h₀ : Heap} {L : Addr} {h : Heap} {x : Addr × Obj} {l : List (Addr × Obj)} (N : News h₀ L h (x :: l)) : News h₀ L h l := fun q hq => N q (.tail _ hq)
theorem Inv.told {j : Nat} {got : List UInt8} {told place off : Nat} {ps : List (List UInt8)} {ns : List Int} (I : Inv j got told place off ps ns) : Inv (j + 1) got place place off ps ns :=
  ⟨Nat.le_trans I.h1 I.h2, Nat.le_refl _, I.h3, by have := I.z1; omega, by have := I.z2; omega, I.z3, by have := I.z4; omega⟩
theorem Inv.next {j : Nat} {got : List UInt8} {told place off : Nat} {ps : List (List UInt8)} {ns : List Int} (I : Inv j got told place off ps ns) : Inv (j + 1) got told place off ps ns :=
  ⟨I.h1, I.h2, I.h3, by have := I.z1; omega, by have := I.z2; omega, I.z3, by have := I.z4; omega⟩
theorem ne_none {h : Heap} {a D : Addr} {o : Obj} (ha : h.get? a = some o) (hD : h.get? D = none) : @Ne Nat a D := fun e => by
  have e : a = D := e
  rw [e, hD] at ha; cases ha
theorem boot_bytearray : bootBuiltins "bytearray" = some (.type "bytearray") := by decide +kernel
theorem isi_baN {prog : Program} {w : World} {A : Around} {E : Value → Shared → Prop} {s : Shared} {Q : Value → Shared → Prop} {h₀ : Heap} {L B : Addr} {news : List (Addr × Obj)} {xs : List UInt8} (N : News h₀ L s.heap news) (hB : (B, baObj xs) ∈ news)
    (h : Q (.bool true) s) : wpAny (model prog w) A (call (.builtin "isinstance") [.ref B, .type "bytearray"]) Q E s :=
  call_isinstance (isinstance_true (Tx := "bytearray") F.isi_meta_bytearray ba_sub) ⟨⟨_, (N _ hB).1, rfl⟩, h⟩
theorem Inv.moved {j : Nat} {got : List UInt8} {told place off : Nat} {ps : List (List UInt8)} {ns : List Int} {n : Nat} (I : Inv j got told place off ps ns) : Inv j got told (place + ((got.drop place).take n).length) off ps ns :=
  ⟨I.h1, Nat.le_trans I.h2 (Nat.le_add_right _ _), by have := I.h3; rw [List.length_take, List.length_drop]; omega, I.z1, I.z2, I.z3, I.z4⟩
theorem Inv.all {j : Nat} {got : List UInt8} {told place off : Nat} {ps : List (List UInt8)} {ns : List Int} (I : Inv j got told place off ps ns) : Inv j got place place off ps ns :=
  ⟨Nat.le_trans I.h1 I.h2, Nat.le_refl _, I.h3, I.z1, I.z2, I.z3, I.z4⟩
end Mine
namespace Mine
open PySem PySem.W PySem.Calls PyProof.Rows
theorem entry_callable : entryFor table "callable" = some Builtin.«callable» := entryFor_of_fast (by kernel_rfl)
theorem kind_callable : builtinKind "callable" = none := by decide +kernel
theorem plain_callable : plainId "callable" = true := by decide +kernel
theorem args_callable (a : Value) : argsOk "callable" ⟨[a], []⟩ := by unfold argsOk; kernel_rfl
theorem look_method_call : typeLookup (.type "method") "__call__" = pure (some (.builtin "method.__call__")) := by rw [typeLookup_type, builtinLookup_eq_fast]; kernel_rfl
theorem look_type_call : typeLookup (.type "type") "__call__" = pure (some (.builtin "type.__call__")) := by rw [typeLookup_type, builtinLookup_eq_fast]; kernel_rfl
section
variable {prog : Program} {w : World} {A : Around} {E : Value → Shared → Prop} {s : Shared} {Q : Value → Shared → Prop}
theorem callable_yes {x : Value} {T : String} {f : Value} (hT : s.TypeIs x T) (hl : typeLookup (.type T) "__call__" = pure (some f)) (h : Q (.bool true) s) : wpAny (model prog w) A (call (.builtin "callable") [x]) Q E s := by
  refine call_function_entry kind_callable plain_callable entry_callable (args_callable _) ?_
  unfold Builtin.«callable»
  refine wpAny_bind (m := oneArg "callable" _) (wpAny_pure ?_)
  exact wpAny_bind (wpAny_specialOf hT hl (wpAny_pure ⟨_, rfl, h⟩))
theorem callable_method {h₀ : Heap} {L q : Addr} {f x : Value} {news : List (Addr × Obj)} (N : News h₀ L s.heap news) (hq : (q, methodObj f x) ∈ news) (h : Q (.bool true) s) : wpAny (model prog w) A (call (.builtin "callable") [.ref q]) Q E s :=
  callable_yes ⟨_, (N _ hq).1, rfl⟩ look_method_call h
theorem callable_class {C : Addr} {K : Frag} {o : Obj} (X : K.In s.heap) (hC : K.lookup C = some o) (ht : o.cls = .type "type") (h : Q (.bool true) s) : wpAny (model prog w) A (call (.builtin "callable") [.ref C]) Q E s :=
  callable_yes ⟨_, X _ _ hC, ht⟩ look_type_call h
end
theorem ite_bgo {b : Bool} {A B : Prop} (h : b = true) (a : A) : if b = true then A else B := by rw [if_pos h]; exact a
theorem ite_bnot {b : Bool} {A B : Prop} (h : b = true) (x : B) : if (!b) = true then A else B := by rw [h]; exact x
end Mine
namespace Mine
open PySem PySem.W PySem.Calls PyProof.Rows
theorem wt_D0 : True := by
  w_top off
  trivial
local macro_rules | `(tactic| k_ne) => `(tactic| (refine neN ?_; (try dsimp only); first | assumption | (refine Ne.symm ?_; assumption) | omega))
local macro_rules | `(tactic| k_room) => `(tactic| exact Nat.le_of_ble_eq_true rfl)
local macro_rules | `(tactic| walk_at "my size") => `(tactic| ((try simp only [List.length_cons, List.length_nil, List.length_append, List.size_toArray, List.length_take, List.length_drop]); rw [sizeLine_eq]; omega))
local macro_rules | `(tactic| walk_at "call builtin:len") => `(tactic| (k_here; (with_reducible show wpAny _ _ (call (Value.builtin "len") [Value.bytes (List.toArray _) _]) _ _ _); k_dflt (refine' len_by ?z ?_; (case z => walk_at "my size"))))
local macro_rules | `(tactic| walk_at "call builtin:len") => `(tactic| (k_here; (with_reducible show wpAny _ _ (call (Value.builtin "len") [Value.ref _]) _ _ _); k_dflt (refine' len_baN (xs := _) ?n ?m ?z ?_; (case n => k_asm); (case m => k_mem); (case z => walk_at "my size"))))
local macro_rules | `(tactic| walk_at "call builtin:max") => `(tactic| (k_here; (with_reducible show wpAny _ _ (call (Value.builtin "max") [Value.int _ _, Value.int _ _]) _ _ _); k_dflt (refine' max_nat ?k1 ?k2 ?k3 ?_; (case k1 => exact rfl); (case k2 => k_asm); (case k3 => k_asm)); intro h' tk' t' F' N'))
local macro_rules | `(tactic| walk_at "exec Raise some none") => `(tactic| (k_here; (with_reducible show wpAny _ _ (exec (Stmt.Raise (some (Expr.Name _ _)) none _) _) _ _ _); k_dflt (refine' raise_ownK (bmB := [.type "Exception", .type "BaseException", .type "object"]) (newId := "Exception.__new__") ?F ?X ?T ?ex ?q PySem.F.excBase_Exception ?h ?_; (case F => k_asm); (case X => k_asm); (case T => k_asm); (case ex => k_is); (case q => k_exc); (case h => rfl))))
local macro_rules | `(tactic| walk_at "leaving ref") => `(tactic| (k_here; refine stop_of ?_))
local macro_rules | `(tactic| walk_at "truthy bytes") => `(tactic| (k_here; (with_reducible show wpAny _ _ (truthy (Value.bytes (List.toArray _) _)) _ _ _); k_dflt (refine' truthy_by ?z ?_; (case z => walk_at "my size")); (try simp only [List.isEmpty_cons, List.isEmpty_nil, Bool.not_false, Bool.not_true])))
local macro_rules | `(tactic| walk_at "my cut") => `(tactic| first | exact cut_upto _ _ | exact cut_from _ _ | exact cut_run' _ _ _)
local macro_rules | `(tactic| walk_at "subscriptTail") => `(tactic| (k_here; (with_reducible show wpAny _ _ (subscriptTail _ (Expr.Slice _ _ none _) (Value.ref _) (Value.ref _)) _ _ _); (with_reducible rename Fr _ _ _ _ => myF); (with_reducible rename News _ _ _ _ => myN); k_dflt (refine' ba_slice (s := ⟨_, _, _, _, _⟩) myF myN ?m ?l ?u ?z ?e ?_; (case m => k_mem); (case l => constructor); (case u => constructor); (case z => walk_at "my size"); (case e => walk_at "my cut")); clear myF myN; intro D' h' F' N' l1; (try k_lt l1); (try k_sweep)))
local macro_rules | `(tactic| walk_at "call type:bytes") => `(tactic| (k_here; (with_reducible show wpAny _ _ (call (Value.type "bytes") [Value.ref _]) _ _ _); k_dflt (refine' bytes_of_baN (xs := _) ?n ?m ?z ?_; (case n => k_asm); (case m => k_mem); (case z => walk_at "my size"))))
local macro_rules | `(tactic| walk_at "call ref") => `(tactic| (k_here; (with_reducible show wpAny _ _ (call (Value.ref 478) [_, Value.bytes (byteArr _) _] _) _ _ _); refine stop_of ?_))
local macro_rules | `(tactic| walk_at "subscriptTail") => `(tactic| (k_here; (with_reducible show wpAny _ _ (subscriptTail _ (Expr.Slice _ _ none _) (Value.bytes (List.toArray _) _) (Value.ref _)) _ _ _); (with_reducible rename Fr _ _ _ _ => myF); (with_reducible rename News _ _ _ _ => myN); k_dflt (refine' by_slice (s := ⟨_, _, _, _, _⟩) myF myN ?l ?u ?z ?e ?_; (case l => constructor); (case u => constructor); (case z => walk_at "my size"); (case e => walk_at "my cut")); clear myF myN; intro h' t' tk' F' N'; (try k_sweep)))
local macro_rules | `(tactic| walk_at "compareOp Eq bytes bytes") => `(tactic| (k_here; (with_reducible show wpAny _ _ (compareOp CmpOp.Eq (Value.bytes (List.toArray _) _) (Value.bytes (List.toArray _) _)) _ _ _); k_dflt (refine' eq_by ?_)))
local macro_rules | `(tactic| walk_at "binaryOp Add ref ref") => `(tactic| (k_here; (with_reducible show wpAny _ _ (binaryOp _ (Value.ref _) (Value.ref _)) _ _ _); k_dflt (refine' kmk_add_lit ?F ?N ?a ?b ?e ?_ ?z; (case F => k_asm); (case N => k_asm); (case a => kmk_list); (case b => kmk_list); (case e => exact cat1 _ _); (case z => walk_at "my size")); intro D' h' F' N' l1; (try k_lt l1); (try k_sweep)))
local macro_rules | `(tactic| walk_at "call ref") => `(tactic| (k_here; (with_reducible show wpAny _ _ (call (Value.ref 499) _ _) _ _ _); refine stop_of ?_))
local macro_rules | `(tactic| walk_at "call builtin:list.append") => `(tactic| (k_here; (with_reducible show wpAny _ _ (call (Value.builtin _) [Value.ref _, _]) _ _ _); k_dflt (refine' append_K ?k1 ?k2 ?k3 ?_ ?z; (case k1 => k_asm); (case k2 => k_asm); (case k3 => k_upd); (case z => walk_at "my size"); k_whole); intro h' F' N'; (try k_sweep)))
local macro_rules | `(tactic| boot_fact) => `(tactic| with_reducible exact boot_bytearray)
local macro_rules | `(tactic| walk_at "call builtin:isinstance") => `(tactic| (k_here; (with_reducible show wpAny _ _ (call (Value.builtin "isinstance") [Value.ref _, Value.type "bytearray"]) _ _ _); k_dflt (refine' isi_baN (xs := _) ?n ?m ?_; (case n => k_asm); (case m => k_mem))))
theorem T_deed0 {prog : Program} {w : World} {A₀ : Around} {base h₀ : Heap} {L : Addr} {m : Str → Option Value} {mg mb : Str → Option Value} {p : Program} {loose : List Str} {mean : ExcName → Option Value} {env : Env} {outer : List Env} {s : Shared} {Q E : Value → Shared → Prop}
    {H dH PL PA U dU Bf S W SA : Addr} {t1 t2 ti tc tm tr ts gt tt pt rt st : Tok} {τ : Nat → Tok} {v : Nat → Value} {nd nw na n7 nww naa : Nat} {wh ah ww aa : List Value} {ns : List Int} {ps : List (List UInt8)} {got : List UInt8} {told place off room rs j way : Nat} {rest : Int} {kt tw : Tok}
    (B : Below A₀ base outer h₀) (F : Fr h₀ L s.heap m) (X : (MineHead.hd.heap_39 w.params).In h₀) (T : Top p loose mean mg mb h₀) (XB : (MineHead.hd.heap_39 w.params).In base) (TB : Top p loose mean mg mb base) (D : KtsDicts (outer.filterMap (·.frame)) h₀) (hf : env.frame = some L) (hke : env.scope.kind = .function)
    (N : News h₀ L s.heap [(H, instObj 481 dH), (dH, dictOf (parD w t1 t2 PL PA) nd), (PL, listOf (List.toArray wh) nw), (PA, listOf (List.toArray ah) na), (U, instObj 445 dU), (dU, dictOf (unpD w τ v H Bf (place - off) ti (told - off) tc room tm rs tr told ts) 22), (Bf, baObj (got.drop off)), (S, listOf #[.bytes (List.toArray got) gt, .int (told : Int) tt, .int (place : Int) pt, .int (room : Int) rt, .ref W, .ref SA, .int (rs : Int) st] n7), (W, listOf (List.toArray ww) nww), (SA, listOf (List.toArray aa) naa)])
    (hd : List.Nodup ([H, dH, PL, PA, U, dU, Bf, S, W, SA] : List Nat)) (hw : BAre wh ps) (hw2 : BAre ww ps) (has : IntsAre ah ns) (has2 : IntsAre aa ns) (I : Inv j got told place off ps ns) (hj : j ≤ 40) (hrs : 1 ≤ rs) (hway : way = 0)
    (hq : ∀ got' told' place' off' ps' ns' h₀' h' tk' wh' ah' ww' aa' W' nd' nw' na' n7' nww' naa' ti' tc' ts' gt' tt' pt', Inv (j + 1) got' told' place' off' ps' ns' → KtsTurn (outer.filterMap (·.frame)) h₀ h₀' → OnlyF [H, dH, PL, PA, U, dU, Bf, S, W, SA] ((env :: outer).filterMap (·.frame)) s.heap h' → Fr h₀' L h' m →
      News h₀' L h' [(H, instObj 481 dH), (dH, dictOf (parD w t1 t2 PL PA) nd'), (PL, listOf (List.toArray wh') nw'), (PA, listOf (List.toArray ah') na'), (U, instObj 445 dU), (dU, dictOf (unpD w τ v H Bf (place' - off') ti' (told' - off') tc' room tm rs tr told' ts') 22), (Bf, baObj (got'.drop off')), (S, listOf #[.bytes (List.toArray got') gt', .int (told' : Int) tt', .int (place' : Int) pt', .int (room : Int) rt, .ref W', .ref SA, .int (rs : Int) st] n7'), (W', listOf (List.toArray ww') nww'), (SA, listOf (List.toArray aa') naa')] → List.Nodup ([H, dH, PL, PA, U, dU, Bf, S, W', SA] : List Nat) →
      BAre wh' ps' → BAre ww' ps' → IntsAre ah' ns' → IntsAre aa' ns' → Below A₀ base outer h₀' → (MineHead.hd.heap_39 w.params).In h₀' → Top p loose mean mg mb h₀' → KtsDicts (outer.filterMap (·.frame)) h₀' → Q (.bool true) { s with heap := h', toks := tk' }) :
    wpO (model prog w) (AA 380 800 env outer) (call (.ref 511) [.ref U, .ref H, .ref S, .int (way : Int) tw, .int rest kt]) Q E s := by
  have hd' := hd
  simp only [List.nodup_cons, List.mem_cons, List.not_mem_nil, or_false, not_or, List.nodup_nil, and_true, not_false_eq_true] at hd'
  obtain ⟨⟨q1, q2, q3, q4, q5, q6, q22, q23, q24⟩, ⟨q7, q8, q9, q10, q11, q25, q26, q27⟩, ⟨q12, q13, q14, q15, q28, q29, q30⟩, ⟨q16, q17, q18, q31, q32, q33⟩, ⟨q19, q20, q34, q35, q36⟩, ⟨q21, q37, q38, q39⟩, ⟨q40, q41, q42⟩, ⟨q43, q44⟩, q45⟩ := hd'
  have hI1 := I.h1
  have hI2 := I.h2
  have hI3 := I.h3
  have hIz := I.z1
  have hI4 := I.z2
  have hI5 := I.z4
  have hwl := hw.length
  have hwl2 := hw2.length
  refine wpO_call ?_
  k_dflt (refine' codeO_defTC ?k1 ?k2 ?k3 ?k4 ?k5 ?XB ?TB ?D ?kA ?kF ?kK ?k6 ?k7 ?k8 ?k9 ?kB ?kD ?_ ?c2 ?c3 ?c4; (case kA => exact rfl); (case kF => exact hf); (case kK => exact hke); (case k1 => k_asm); (case k2 => k_asm); (case k3 => k_asm); (case k4 => k_asm); (case k5 => k_asm); (case XB => exact XB); (case TB => exact TB); (case D => exact D); (case k6 => k_is); (case k7 => k_is); (case k8 => exact Nat.le_of_ble_eq_true rfl); (case k9 => exact BindsTo.of_eq (binds := [(Str.ofString "used", .ref U), (Str.ofString "held", .ref H), (Str.ofString "state", .ref S), (Str.ofString "way", .int (way : Int) tw), (Str.ofString "rest", .int rest kt)]) (by with_unfolding_all rfl)); (case kB => exact rfl); (case kD => decide +kernel); (case c2 => exact rfl); (case c3 => exact rfl); (case c4 => exact rfl))
  intro g' L' h' tk' cells' FG' F' N' Y' B' X' T' D' hlt hO
  k_cells Y'
  (try simp only [List.cons_append, List.nil_append] at N')
  dsimp only
  k_lt hlt
  refine wpO_leaf ?_
  k_steps
  (with_reducible rename Fr g' L' _ _ => F1)
  (with_reducible rename News g' L' _ _ => N1)
  dsimp only at F1 N1
  refine wpO_tok (g := s.gens) (d := s.drawn) (o := s.os) F1 rfl rfl rfl rfl (fun tk1 => ?_)
  obtain ⟨n, hn, hn7⟩ : ∃ n : Nat, rest.fmod 8 = (n : Int) ∧ n ≤ 7 := ⟨(rest.fmod 8).toNat, by have := Int.fmod_nonneg_of_pos rest (show (0 : Int) < 8 by omega); omega, by have := Int.fmod_lt_of_pos rest (show (0 : Int) < 8 by omega); omega⟩
  rw [hn] at F1
  subst hway
  · obtain ⟨m5, hm, hm4⟩ : ∃ n : Nat, rest.fmod 5 = (n : Int) ∧ n ≤ 4 := ⟨(rest.fmod 5).toNat, by have := Int.fmod_nonneg_of_pos rest (show (0 : Int) < 5 by omega); omega, by have := Int.fmod_lt_of_pos rest (show (0 : Int) < 5 by omega); omega⟩
    refine wpO_leaf ?_
    k_steps
    refine go_of ?_
    (with_reducible rename Fr g' L' _ _ => F2)
    (with_reducible rename News g' L' _ _ => N2)
    (try dsimp only at F2 N2)
    refine wpAny_tok (g := s.gens) (d := s.drawn) (o := s.os) F2 rfl rfl rfl rfl (fun tk2 => ?_)
    obtain ⟨b, hb⟩ : ∃ b : List UInt8, byteArr (List.map (fun k' => (rest + 53 * k').fmod 256) (rangeKs 0 (rest.fmod 5 - 0).toNat)) = b.toArray := ⟨_, rfl⟩
    have hbl : b.length ≤ 4 := by
      have e1 := byteArr_size (List.map (fun k' => (rest + 53 * k').fmod 256) (rangeKs 0 (rest.fmod 5 - 0).toNat))
      rw [hb, List.size_toArray, List.length_map, rangeKs_length] at e1
      omega
    rw [hb] at F2 ⊢
    (try clear F1); (try clear N1)
    k_steps
    (with_reducible rename Fr g' L' _ _ => gF)
    (with_reducible rename News g' L' _ _ => gN)
    (with_reducible rename _ ∧ _ => l1)
    refine ⟨_, _, _, _, KtsTurn.refl, gF, gN, fun h₀' T0 kF kN kB kX kT kD => ?_⟩
    refine' hq got told place off (ps ++ [b]) ns h₀' _ _ _ _ _ aa _ _ _ _ _ _ _ _ _ _ _ _ _ (I.put hbl) T0 (fun b o nb _ e => gF.keep b o (hO b o nb e)) kF (fun q hq => ?nn0) (nodup_new hd (Nat.ne_of_lt l1.2.2.2.1) (Nat.ne_of_lt l1.2.2.2.2.1) (Nat.ne_of_lt l1.2.2.2.2.2.1) (Nat.ne_of_lt l1.2.2.2.2.2.2.1) (Nat.ne_of_lt l1.2.2.2.2.2.2.2.1) (Nat.ne_of_lt l1.2.2.2.2.2.2.2.2.1) (Nat.ne_of_lt l1.2.2.2.2.2.2.2.2.2.1) (Nat.ne_of_lt l1.2.2.2.2.2.2.2.2.2.2.1) (Nat.ne_of_gt l1.2.2.2.2.2.2.2.2.2.2.2.2)) (hw.append (BAre.one b _)) (hw2.append (BAre.one b _)) has has2 kB kX kT kD
    case nn0 =>
      simp only [List.mem_cons, List.not_mem_nil, or_false] at hq
      rcases hq with rfl | rfl | rfl | rfl | rfl | rfl | rfl | rfl | rfl | rfl
      · have k6 := kN _ (.tail _ (.tail _ (.tail _ (.tail _ (.head _)))))
        exact k6
      · have k6 := kN _ (.tail _ (.tail _ (.tail _ (.tail _ (.tail _ (.head _))))))
        exact k6
      · have k6 := kN _ (.tail _ (.tail _ (.tail _ (.tail _ (.tail _ (.tail _ (.head _)))))))
        exact k6
      · have k6 := kN _ (.tail _ (.tail _ (.tail _ (.tail _ (.tail _ (.tail _ (.tail _ (.head _))))))))
        exact k6
      · have k6 := kN _ (.tail _ (.tail _ (.tail _ (.tail _ (.tail _ (.tail _ (.tail _ (.tail _ (.head _)))))))))
        exact k6
      · have k6 := kN _ (.tail _ (.tail _ (.tail _ (.tail _ (.tail _ (.tail _ (.tail _ (.tail _ (.tail _ (.head _))))))))))
        exact k6
      · have k6 := kN _ (.tail _ (.tail _ (.tail _ (.tail _ (.tail _ (.tail _ (.tail _ (.tail _ (.tail _ (.tail _ (.head _)))))))))))
        exact k6
      · have k6 := kN _ (.tail _ (.tail _ (.tail _ (.tail _ (.tail _ (.tail _ (.tail _ (.tail _ (.tail _ (.tail _ (.tail _ (.head _))))))))))))
        exact k6
      · have k6 := kN _ (.head _)
        exact k6
      · have k6 := kN _ (.tail _ (.tail _ (.tail _ (.tail _ (.tail _ (.tail _ (.tail _ (.tail _ (.tail _ (.tail _ (.tail _ (.tail _ (.tail _ (.head _))))))))))))))
        exact k6
end Mine
namespace Mine
open PySem PySem.W PySem.Calls PyProof.Rows
theorem wt_D1 : True := by
  w_top off
  trivial
local macro_rules | `(tactic| k_ne) => `(tactic| (refine neN ?_; (try dsimp only); first | assumption | (refine Ne.symm ?_; assumption) | omega))
local macro_rules | `(tactic| k_room) => `(tactic| exact Nat.le_of_ble_eq_true rfl)
local macro_rules | `(tactic| walk_at "my size") => `(tactic| ((try simp only [List.length_cons, List.length_nil, List.length_append, List.size_toArray, List.length_take, List.length_drop]); rw [sizeLine_eq]; omega))
local macro_rules | `(tactic| walk_at "call builtin:len") => `(tactic| (k_here; (with_reducible show wpAny _ _ (call (Value.builtin "len") [Value.bytes (List.toArray _) _]) _ _ _); k_dflt (refine' len_by ?z ?_; (case z => walk_at "my size"))))
local macro_rules | `(tactic| walk_at "call builtin:len") => `(tactic| (k_here; (with_reducible show wpAny _ _ (call (Value.builtin "len") [Value.ref _]) _ _ _); k_dflt (refine' len_baN (xs := _) ?n ?m ?z ?_; (case n => k_asm); (case m => k_mem); (case z => walk_at "my size"))))
local macro_rules | `(tactic| walk_at "call builtin:max") => `(tactic| (k_here; (with_reducible show wpAny _ _ (call (Value.builtin "max") [Value.int _ _, Value.int _ _]) _ _ _); k_dflt (refine' max_nat ?k1 ?k2 ?k3 ?_; (case k1 => exact rfl); (case k2 => k_asm); (case k3 => k_asm)); intro h' tk' t' F' N'))
local macro_rules | `(tactic| walk_at "exec Raise some none") => `(tactic| (k_here; (with_reducible show wpAny _ _ (exec (Stmt.Raise (some (Expr.Name _ _)) none _) _) _ _ _); k_dflt (refine' raise_ownK (bmB := [.type "Exception", .type "BaseException", .type "object"]) (newId := "Exception.__new__") ?F ?X ?T ?ex ?q PySem.F.excBase_Exception ?h ?_; (case F => k_asm); (case X => k_asm); (case T => k_asm); (case ex => k_is); (case q => k_exc); (case h => rfl))))
local macro_rules | `(tactic| walk_at "leaving ref") => `(tactic| (k_here; refine stop_of ?_))
local macro_rules | `(tactic| walk_at "truthy bytes") => `(tactic| (k_here; (with_reducible show wpAny _ _ (truthy (Value.bytes (List.toArray _) _)) _ _ _); k_dflt (refine' truthy_by ?z ?_; (case z => walk_at "my size")); (try simp only [List.isEmpty_cons, List.isEmpty_nil, Bool.not_false, Bool.not_true])))
local macro_rules | `(tactic| walk_at "my cut") => `(tactic| first | exact cut_upto _ _ | exact cut_from _ _ | exact cut_run' _ _ _)
local macro_rules | `(tactic| walk_at "subscriptTail") => `(tactic| (k_here; (with_reducible show wpAny _ _ (subscriptTail _ (Expr.Slice _ _ none _) (Value.ref _) (Value.ref _)) _ _ _); (with_reducible rename Fr _ _ _ _ => myF); (with_reducible rename News _ _ _ _ => myN); k_dflt (refine' ba_slice (s := ⟨_, _, _, _, _⟩) myF myN ?m ?l ?u ?z ?e ?_; (case m => k_mem); (case l => constructor); (case u => constructor); (case z => walk_at "my size"); (case e => walk_at "my cut")); clear myF myN; intro D' h' F' N' l1; (try k_lt l1); (try k_sweep)))
local macro_rules | `(tactic| walk_at "call type:bytes") => `(tactic| (k_here; (with_reducible show wpAny _ _ (call (Value.type "bytes") [Value.ref _]) _ _ _); k_dflt (refine' bytes_of_baN (xs := _) ?n ?m ?z ?_; (case n => k_asm); (case m => k_mem); (case z => walk_at "my size"))))
local macro_rules | `(tactic| walk_at "call ref") => `(tactic| (k_here; (with_reducible show wpAny _ _ (call (Value.ref 478) [_, Value.bytes (byteArr _) _] _) _ _ _); refine stop_of ?_))
local macro_rules | `(tactic| walk_at "subscriptTail") => `(tactic| (k_here; (with_reducible show wpAny _ _ (subscriptTail _ (Expr.Slice _ _ none _) (Value.bytes (List.toArray _) _) (Value.ref _)) _ _ _); (with_reducible rename Fr _ _ _ _ => myF); (with_reducible rename News _ _ _ _ => myN); k_dflt (refine' by_slice (s := ⟨_, _, _, _, _⟩) myF myN ?l ?u ?z ?e ?_; (case l => constructor); (case u => constructor); (case z => walk_at "my size"); (case e => walk_at "my cut")); clear myF myN; intro h' t' tk' F' N'; (try k_sweep)))
local macro_rules | `(tactic| walk_at "compareOp Eq bytes bytes") => `(tactic| (k_here; (with_reducible show wpAny _ _ (compareOp CmpOp.Eq (Value.bytes (List.toArray _) _) (Value.bytes (List.toArray _) _)) _ _ _); k_dflt (refine' eq_by ?_)))
local macro_rules | `(tactic| walk_at "binaryOp Add ref ref") => `(tactic| (k_here; (with_reducible show wpAny _ _ (binaryOp _ (Value.ref _) (Value.ref _)) _ _ _); k_dflt (refine' kmk_add_lit ?F ?N ?a ?b ?e ?_ ?z; (case F => k_asm); (case N => k_asm); (case a => kmk_list); (case b => kmk_list); (case e => exact cat1 _ _); (case z => walk_at "my size")); intro D' h' F' N' l1; (try k_lt l1); (try k_sweep)))
local macro_rules | `(tactic| walk_at "call ref") => `(tactic| (k_here; (with_reducible show wpAny _ _ (call (Value.ref 499) _ _) _ _ _); refine stop_of ?_))
local macro_rules | `(tactic| walk_at "call builtin:list.append") => `(tactic| (k_here; (with_reducible show wpAny _ _ (call (Value.builtin _) [Value.ref _, _]) _ _ _); k_dflt (refine' append_K ?k1 ?k2 ?k3 ?_ ?z; (case k1 => k_asm); (case k2 => k_asm); (case k3 => k_upd); (case z => walk_at "my size"); k_whole); intro h' F' N'; (try k_sweep)))
local macro_rules | `(tactic| boot_fact) => `(tactic| with_reducible exact boot_bytearray)
local macro_rules | `(tactic| walk_at "call builtin:isinstance") => `(tactic| (k_here; (with_reducible show wpAny _ _ (call (Value.builtin "isinstance") [Value.ref _, Value.type "bytearray"]) _ _ _); k_dflt (refine' isi_baN (xs := _) ?n ?m ?_; (case n => k_asm); (case m => k_mem))))
theorem T_deed1 {prog : Program} {w : World} {A₀ : Around} {base h₀ : Heap} {L : Addr} {m : Str → Option Value} {mg mb : Str → Option Value} {p : Program} {loose : List Str} {mean : ExcName → Option Value} {env : Env} {outer : List Env} {s : Shared} {Q E : Value → Shared → Prop}
    {H dH PL PA U dU Bf S W SA : Addr} {t1 t2 ti tc tm tr ts gt tt pt rt st : Tok} {τ : Nat → Tok} {v : Nat → Value} {nd nw na n7 nww naa : Nat} {wh ah ww aa : List Value} {ns : List Int} {ps : List (List UInt8)} {got : List UInt8} {told place off room rs j way : Nat} {rest : Int} {kt tw : Tok}
    (B : Below A₀ base outer h₀) (F : Fr h₀ L s.heap m) (X : (MineHead.hd.heap_39 w.params).In h₀) (T : Top p loose mean mg mb h₀) (XB : (MineHead.hd.heap_39 w.params).In base) (TB : Top p loose mean mg mb base) (D : KtsDicts (outer.filterMap (·.frame)) h₀) (hf : env.frame = some L) (hke : env.scope.kind = .function)
    (N : News h₀ L s.heap [(H, instObj 481 dH), (dH, dictOf (parD w t1 t2 PL PA) nd), (PL, listOf (List.toArray wh) nw), (PA, listOf (List.toArray ah) na), (U, instObj 445 dU), (dU, dictOf (unpD w τ v H Bf (place - off) ti (told - off) tc room tm rs tr told ts) 22), (Bf, baObj (got.drop off)), (S, listOf #[.bytes (List.toArray got) gt, .int (told : Int) tt, .int (place : Int) pt, .int (room : Int) rt, .ref W, .ref SA, .int (rs : Int) st] n7), (W, listOf (List.toArray ww) nww), (SA, listOf (List.toArray aa) naa)])
    (hd : List.Nodup ([H, dH, PL, PA, U, dU, Bf, S, W, SA] : List Nat)) (hw : BAre wh ps) (hw2 : BAre ww ps) (has : IntsAre ah ns) (has2 : IntsAre aa ns) (I : Inv j got told place off ps ns) (hj : j ≤ 40) (hrs : 1 ≤ rs) (hway : way = 1)
    (hq : ∀ got' told' place' off' ps' ns' h₀' h' tk' wh' ah' ww' aa' W' nd' nw' na' n7' nww' naa' ti' tc' ts' gt' tt' pt', Inv (j + 1) got' told' place' off' ps' ns' → KtsTurn (outer.filterMap (·.frame)) h₀ h₀' → OnlyF [H, dH, PL, PA, U, dU, Bf, S, W, SA] ((env :: outer).filterMap (·.frame)) s.heap h' → Fr h₀' L h' m →
      News h₀' L h' [(H, instObj 481 dH), (dH, dictOf (parD w t1 t2 PL PA) nd'), (PL, listOf (List.toArray wh') nw'), (PA, listOf (List.toArray ah') na'), (U, instObj 445 dU), (dU, dictOf (unpD w τ v H Bf (place' - off') ti' (told' - off') tc' room tm rs tr told' ts') 22), (Bf, baObj (got'.drop off')), (S, listOf #[.bytes (List.toArray got') gt', .int (told' : Int) tt', .int (place' : Int) pt', .int (room : Int) rt, .ref W', .ref SA, .int (rs : Int) st] n7'), (W', listOf (List.toArray ww') nww'), (SA, listOf (List.toArray aa') naa')] → List.Nodup ([H, dH, PL, PA, U, dU, Bf, S, W', SA] : List Nat) →
      BAre wh' ps' → BAre ww' ps' → IntsAre ah' ns' → IntsAre aa' ns' → Below A₀ base outer h₀' → (MineHead.hd.heap_39 w.params).In h₀' → Top p loose mean mg mb h₀' → KtsDicts (outer.filterMap (·.frame)) h₀' → Q (.bool true) { s with heap := h', toks := tk' }) :
    wpO (model prog w) (AA 380 800 env outer) (call (.ref 511) [.ref U, .ref H, .ref S, .int (way : Int) tw, .int rest kt]) Q E s := by
  have hd' := hd
  simp only [List.nodup_cons, List.mem_cons, List.not_mem_nil, or_false, not_or, List.nodup_nil, and_true, not_false_eq_true] at hd'
  obtain ⟨⟨q1, q2, q3, q4, q5, q6, q22, q23, q24⟩, ⟨q7, q8, q9, q10, q11, q25, q26, q27⟩, ⟨q12, q13, q14, q15, q28, q29, q30⟩, ⟨q16, q17, q18, q31, q32, q33⟩, ⟨q19, q20, q34, q35, q36⟩, ⟨q21, q37, q38, q39⟩, ⟨q40, q41, q42⟩, ⟨q43, q44⟩, q45⟩ := hd'
  have hI1 := I.h1
  have hI2 := I.h2
  have hI3 := I.h3
  have hIz := I.z1
  have hI4 := I.z2
  have hI5 := I.z4
  have hwl := hw.length
  have hwl2 := hw2.length
  refine wpO_call ?_
  k_dflt (refine' codeO_defTC ?k1 ?k2 ?k3 ?k4 ?k5 ?XB ?TB ?D ?kA ?kF ?kK ?k6 ?k7 ?k8 ?k9 ?kB ?kD ?_ ?c2 ?c3 ?c4; (case kA => exact rfl); (case kF => exact hf); (case kK => exact hke); (case k1 => k_asm); (case k2 => k_asm); (case k3 => k_asm); (case k4 => k_asm); (case k5 => k_asm); (case XB => exact XB); (case TB => exact TB); (case D => exact D); (case k6 => k_is); (case k7 => k_is); (case k8 => exact Nat.le_of_ble_eq_true rfl); (case k9 => exact BindsTo.of_eq (binds := [(Str.ofString "used", .ref U), (Str.ofString "held", .ref H), (Str.ofString "state", .ref S), (Str.ofString "way", .int (way : Int) tw), (Str.ofString "rest", .int rest kt)]) (by with_unfolding_all rfl)); (case kB => exact rfl); (case kD => decide +kernel); (case c2 => exact rfl); (case c3 => exact rfl); (case c4 => exact rfl))
  intro g' L' h' tk' cells' FG' F' N' Y' B' X' T' D' hlt hO
  k_cells Y'
  (try simp only [List.cons_append, List.nil_append] at N')
  dsimp only
  k_lt hlt
  refine wpO_leaf ?_
  k_steps
  (with_reducible rename Fr g' L' _ _ => F1)
  (with_reducible rename News g' L' _ _ => N1)
  dsimp only at F1 N1
  refine wpO_tok (g := s.gens) (d := s.drawn) (o := s.os) F1 rfl rfl rfl rfl (fun tk1 => ?_)
  obtain ⟨n, hn, hn7⟩ : ∃ n : Nat, rest.fmod 8 = (n : Int) ∧ n ≤ 7 := ⟨(rest.fmod 8).toNat, by have := Int.fmod_nonneg_of_pos rest (show (0 : Int) < 8 by omega); omega, by have := Int.fmod_lt_of_pos rest (show (0 : Int) < 8 by omega); omega⟩
  rw [hn] at F1
  subst hway
  · refine wpO_leaf ?_
    k_steps
    refine wpO_execs_cons (wpO_IfLeaf ?_)
    k_steps
    refine wpO_leaf ?_
    k_steps
    refine go_of ?_
    refine wpAny_upto (d := 405) (u := 1050) (env := envOfC _ _ _ _ _) ⟨rfl, Nat.le_of_ble_eq_true rfl, rfl, Nat.le_of_ble_eq_true rfl⟩ (L_lack (need := n) (insists := true) (S := S) (W := W) (SA := SA) (ps := ps) (ns := ns) (got := got) (told := told) (place := place) (room := room) (rs := rs) B' F1 X' T' rfl rfl (fun q hq => N1 q (List.mem_append_right [_, _, _, _, _, _, _, _] hq)) hw2 has2 q43 q44 q45 (by omega) (by omega) (fun b hb => Nat.le_trans (I.z3 b hb) (by omega)) (by omega) (by omega) (by omega) hrs hI2 hI3 ?hq1)
    case hq1 =>
      intro h2 tk2 wt gt2 pt2 W2 n2 nw2 na2 ws2 as2 O2 F2 N2 hw2' ha2' hW2
      obtain ⟨off2, o1, o2, o3, hR⟩ := sync (rs := rs) (room := room) (n := n) (ps := ps) (ins := true) hI1 hI2 hI3
      have y1 := @lackR_sum rs room got told place ps n true
      have y2 := @lackR_len rs room got told place ps n true
      have y3 := @lackR_mem rs room got told place ps n true 4 I.z3
      have y4 := @lackR_asks rs room got told place ps n true hI3
      have y5 := @lackR_word rs room got told place ps n true
      obtain ⟨⟨wd, got2, place2, ps2, az⟩, hL⟩ : ∃ R, lackR rs room got told place ps n true = R := ⟨_, rfl⟩
      rw [hL] at N2 hw2' ha2' o2 o3 hR y1 y2 y3 y4 y5 ⊢
      dsimp only at N2 hw2' ha2' o2 o3 hR y1 y2 y3 y4 y5
      have I2 : Inv (j + 1) got2 told place2 off2 ps2 (ns ++ az) := ⟨o1, o2, o3, by omega, by omega, y3, by rw [List.length_append]; omega⟩
      have w1 := new_ne hW2 (N1 _ (.tail _ (.head _))).1 q23
      have w2 := new_ne hW2 (N1 _ (.tail _ (.tail _ (.head _)))).1 q26
      have w3 := new_ne hW2 (N1 _ (.tail _ (.tail _ (.tail _ (.head _))))).1 q29
      have w4 := new_ne hW2 (N1 _ (.tail _ (.tail _ (.tail _ (.tail _ (.head _)))))).1 q32
      have w5 := new_ne hW2 (N1 _ (.tail _ (.tail _ (.tail _ (.tail _ (.tail _ (.head _))))))).1 q35
      have w6 := new_ne hW2 (N1 _ (.tail _ (.tail _ (.tail _ (.tail _ (.tail _ (.tail _ (.head _)))))))).1 q38
      have w7 := new_ne hW2 (N1 _ (.tail _ (.tail _ (.tail _ (.tail _ (.tail _ (.tail _ (.tail _ (.head _))))))))).1 q41
      have w8 := new_ne hW2 (N1 _ (.tail _ (.tail _ (.tail _ (.tail _ (.tail _ (.tail _ (.tail _ (.tail _ (.head _)))))))))).1 q43
      have w9 : @Ne Nat W2 SA := fun e => (new_ne hW2 (N1 _ (.tail _ (.tail _ (.tail _ (.tail _ (.tail _ (.tail _ (.tail _ (.tail _ (.tail _ (.tail _ (.head _)))))))))))).1 (fun e => q45 e.symm)) e.symm
      have w0 := new_ne hW2 (N1 _ (.head _)).1 (by omega)
      have N8 := O2.news (News.take8 N1) (fun q hq hm => by
        simp only [List.mem_cons, List.not_mem_nil, or_false] at hq hm
        have z0 : @Ne Nat (L' + 1) S := by omega
        have z1 : @Ne Nat (L' + 1) W := by omega
        have z2 : @Ne Nat (L' + 1) SA := by omega
        rcases hq with rfl | rfl | rfl | rfl | rfl | rfl | rfl | rfl <;> rcases hm with e | e | e <;> first | exact z0 e | exact z1 e | exact z2 e | exact q22 e | exact q23 e | exact q24 e | exact q25 e | exact q26 e | exact q27 e | exact q28 e | exact q29 e | exact q30 e | exact q31 e | exact q32 e | exact q33 e | exact q34 e | exact q35 e | exact q36 e | exact q37 e | exact q38 e | exact q39 e | exact q40 e | exact q41 e | exact q42 e)
      have N9 := News.append N8 N2
      simp only [List.cons_append, List.nil_append] at N9
      clear N1 F1 N2 N8
      k_steps
      (with_reducible rename Fr g' L' _ _ => F3)
      (with_reducible rename News g' L' _ _ => N3)
      (try dsimp only at F3 N3)
      refine wpO_tok (g := s.gens) (d := s.drawn) (o := s.os) F3 rfl rfl rfl rfl (fun tk3 => ?_)
      refine wpO_execs_cons (wpO_Assign_Name (wpO_Call ?_))
      k_steps
      refine wpO_callWith_K X' (by k_dflt k_is) ?_
      k_steps
      refine wpO_upto (d := 385) (u := 850) (env := envOfC _ _ _ _ _) ⟨rfl, Nat.le_of_ble_eq_true rfl, rfl, Nat.le_of_ble_eq_true rfl⟩ (T_try (way := 1) (n := n) (ps := ps) (ns := ns) B' F3 X' T' XB TB D' rfl rfl (News.take7 (News.tail N3)) (nodup7 hd) hw has (by omega) (by omega) (fun b hb => Nat.le_trans (I.z3 b hb) (by omega)) (by rw [List.length_drop]; omega) (by omega) (by rw [List.length_drop]; omega) hrs (by omega) (by rw [List.length_drop]; omega) (by omega) ?hqO ?hqK ?hqP ?hqX)
      case hqK => intro e; exact absurd e (by omega)
      case hqP => intro e; exact absurd e (by omega)
      case hqO =>
        simp only [show decide ((1 : Nat) < 3) = true from rfl]
        rw [hR]
        intro _ Tp g2 h4 tk4 t4 Dr hDr ti4 tc4 nd4 nw4 na4 ws4 as4 hwd T0 O4 F4 hTp N4 hw4 ha4 B4 X4 P4 D4
        dsimp only at hwd N4 hw4 ha4
        obtain rfl : wd = 0 := hwd
        have NB := O4.news (News.cons (News.one N3) (News.drop7 (News.tail N3))) (fun q hq hm => by
          simp only [List.mem_cons, List.not_mem_nil, or_false] at hq hm
          have z1 : @Ne Nat (L' + 1) H := by omega
          have z2 : @Ne Nat (L' + 1) dH := by omega
          have z3 : @Ne Nat (L' + 1) PL := by omega
          have z4 : @Ne Nat (L' + 1) PA := by omega
          have z5 : @Ne Nat (L' + 1) U := by omega
          have z6 : @Ne Nat (L' + 1) dU := by omega
          have z7 : @Ne Nat (L' + 1) Bf := by omega
          rcases hq with rfl | rfl | rfl | rfl <;> rcases hm with e | e | e | e | e | e | e <;> first | exact z1 e | exact z2 e | exact z3 e | exact z4 e | exact z5 e | exact z6 e | exact z7 e | exact q22 e.symm | exact q25 e.symm | exact q28 e.symm | exact q31 e.symm | exact q34 e.symm | exact q37 e.symm | exact q40 e.symm | exact w1 e.symm | exact w2 e.symm | exact w3 e.symm | exact w4 e.symm | exact w5 e.symm | exact w6 e.symm | exact w7 e.symm | exact q24 e.symm | exact q27 e.symm | exact q30 e.symm | exact q33 e.symm | exact q36 e.symm | exact q39 e.symm | exact q42 e.symm) (news_frames B' (News.cons (News.one N3) (News.drop7 (News.tail N3))) rfl) T0
        have f0 := ne_none (N3 _ (.head _)).1 hTp
        have f1 := ne_none (N3 _ (.tail _ (.head _))).1 hTp
        have f2 := ne_none (N3 _ (.tail _ (.tail _ (.head _)))).1 hTp
        have f3 := ne_none (N3 _ (.tail _ (.tail _ (.tail _ (.head _))))).1 hTp
        have f4 := ne_none (N3 _ (.tail _ (.tail _ (.tail _ (.tail _ (.head _)))))).1 hTp
        have f5 := ne_none (N3 _ (.tail _ (.tail _ (.tail _ (.tail _ (.tail _ (.head _))))))).1 hTp
        have f6 := ne_none (N3 _ (.tail _ (.tail _ (.tail _ (.tail _ (.tail _ (.tail _ (.head _)))))))).1 hTp
        have f7 := ne_none (N3 _ (.tail _ (.tail _ (.tail _ (.tail _ (.tail _ (.tail _ (.tail _ (.head _))))))))).1 hTp
        have f8 := ne_none (N3 _ (.tail _ (.tail _ (.tail _ (.tail _ (.tail _ (.tail _ (.tail _ (.tail _ (.head _)))))))))).1 hTp
        have f9 := ne_none (N3 _ (.tail _ (.tail _ (.tail _ (.tail _ (.tail _ (.tail _ (.tail _ (.tail _ (.tail _ (.head _))))))))))).1 hTp
        have f10 := ne_none (N3 _ (.tail _ (.tail _ (.tail _ (.tail _ (.tail _ (.tail _ (.tail _ (.tail _ (.tail _ (.tail _ (.head _)))))))))))).1 hTp
        have e0 := ne_none (N3 _ (.head _)).1 hDr
        have e1 := ne_none (N3 _ (.tail _ (.head _))).1 hDr
        have e2 := ne_none (N3 _ (.tail _ (.tail _ (.head _)))).1 hDr
        have e3 := ne_none (N3 _ (.tail _ (.tail _ (.tail _ (.head _))))).1 hDr
        have e4 := ne_none (N3 _ (.tail _ (.tail _ (.tail _ (.tail _ (.head _)))))).1 hDr
        have e5 := ne_none (N3 _ (.tail _ (.tail _ (.tail _ (.tail _ (.tail _ (.head _))))))).1 hDr
        have e6 := ne_none (N3 _ (.tail _ (.tail _ (.tail _ (.tail _ (.tail _ (.tail _ (.head _)))))))).1 hDr
        have e7 := ne_none (N3 _ (.tail _ (.tail _ (.tail _ (.tail _ (.tail _ (.tail _ (.tail _ (.head _))))))))).1 hDr
        have e8 := ne_none (N3 _ (.tail _ (.tail _ (.tail _ (.tail _ (.tail _ (.tail _ (.tail _ (.tail _ (.head _)))))))))).1 hDr
        have e9 := ne_none (N3 _ (.tail _ (.tail _ (.tail _ (.tail _ (.tail _ (.tail _ (.tail _ (.tail _ (.tail _ (.head _))))))))))).1 hDr
        have e10 := ne_none (N3 _ (.tail _ (.tail _ (.tail _ (.tail _ (.tail _ (.tail _ (.tail _ (.tail _ (.tail _ (.tail _ (.head _)))))))))))).1 hDr
        have e12 : @Ne Nat Tp Dr := fun e => by have e : Tp = Dr := e; have := (N4 _ (.head _)).1.symm.trans (e ▸ (N4 _ (.tail _ (.tail _ (.tail _ (.tail _ (.tail _ (.tail _ (.tail _ (.tail _ (.head _)))))))))).1); exact (nomatch (congrArg Obj.data (Option.some.inj this)))
        have NC := News.append N4 NB
        simp only [List.cons_append, List.nil_append] at NC
        clear N4 NB N3 F3
        simp only [word] at F4
        k_steps
        refine wpO.of ?_
        k_steps
        (with_reducible rename Fr g2 L' _ _ => gF)
        (with_reducible rename News g2 L' _ _ => gN)
        refine ⟨_, _, _, _, T0, gF, gN, fun h₀' T1 kF kN kB kX kT kD => ?_⟩
        rw [show List.drop (place2 - off2) (List.drop off2 got2) = List.drop place2 got2 from by rw [List.drop_drop]; congr 1; omega, show place2 - off2 + ((got2.drop place2).take n).length = place2 + ((got2.drop place2).take n).length - off2 from by omega, ← Int.natCast_add place2 ((got2.drop place2).take n).length] at kN
        rw [show List.drop (place2 - off2) (List.drop off2 got2) = List.drop place2 got2 from by rw [List.drop_drop]; congr 1; omega, beq_self_eq_true]
        refine' hq got2 told (place2 + ((got2.drop place2).take n).length) off2 ps2 (ns ++ az) h₀' _ _ ws4 as4 ws2 as2 W2 _ _ _ _ _ _ _ _ _ _ _ _ I2.moved T1 (fun b o nb nf e => gF.keep b o (T0.other b o (hO b o nb e) nf)) kF (fun q hq => ?n21) (nodup_new hd w1 w2 w3 w4 w5 w6 w7 w8 w9) hw4 hw2' ha4 ha2' kB kX kT kD
        case n21 =>
          simp only [List.mem_cons, List.not_mem_nil, or_false] at hq
          rcases hq with rfl | rfl | rfl | rfl | rfl | rfl | rfl | rfl | rfl | rfl
          · have k6 := kN _ (.tail _ (.head _))
            exact k6
          · have k6 := kN _ (.tail _ (.tail _ (.head _)))
            exact k6
          · have k6 := kN _ (.tail _ (.tail _ (.tail _ (.head _))))
            exact k6
          · have k6 := kN _ (.tail _ (.tail _ (.tail _ (.tail _ (.head _)))))
            exact k6
          · have k6 := kN _ (.tail _ (.tail _ (.tail _ (.tail _ (.tail _ (.head _))))))
            exact k6
          · have k6 := kN _ (.tail _ (.tail _ (.tail _ (.tail _ (.tail _ (.tail _ (.head _)))))))
            exact k6
          · have k6 := kN _ (.tail _ (.tail _ (.tail _ (.tail _ (.tail _ (.tail _ (.tail _ (.head _))))))))
            exact k6
          · have k6 := kN _ (.tail _ (.tail _ (.tail _ (.tail _ (.tail _ (.tail _ (.tail _ (.tail _ (.tail _ (.tail _ (.head _)))))))))))
            exact k6
          · have k6 := kN _ (.tail _ (.tail _ (.tail _ (.tail _ (.tail _ (.tail _ (.tail _ (.tail _ (.tail _ (.tail _ (.tail _ (.head _))))))))))))
            exact k6
          · have k6 := kN _ (.tail _ (.tail _ (.tail _ (.tail _ (.tail _ (.tail _ (.tail _ (.tail _ (.tail _ (.tail _ (.tail _ (.tail _ (.head _)))))))))))))
            exact k6
      case hqX =>
        simp only [show decide ((1 : Nat) < 3) = true from rfl]
        rw [hR]
        intro hwd Tp g2 h4 tk4 t4 ti4 tc4 nd4 nw4 na4 ws4 as4 T0 O4 F4 hTp N4 hw4 ha4 B4 X4 P4 D4
        dsimp only at hwd N4 hw4 ha4
        have NB := O4.news (News.cons (News.one N3) (News.drop7 (News.tail N3))) (fun q hq hm => by
          simp only [List.mem_cons, List.not_mem_nil, or_false] at hq hm
          have z1 : @Ne Nat (L' + 1) H := by omega
          have z2 : @Ne Nat (L' + 1) dH := by omega
          have z3 : @Ne Nat (L' + 1) PL := by omega
          have z4 : @Ne Nat (L' + 1) PA := by omega
          have z5 : @Ne Nat (L' + 1) U := by omega
          have z6 : @Ne Nat (L' + 1) dU := by omega
          have z7 : @Ne Nat (L' + 1) Bf := by omega
          rcases hq with rfl | rfl | rfl | rfl <;> rcases hm with e | e | e | e | e | e | e <;> first | exact z1 e | exact z2 e | exact z3 e | exact z4 e | exact z5 e | exact z6 e | exact z7 e | exact q22 e.symm | exact q25 e.symm | exact q28 e.symm | exact q31 e.symm | exact q34 e.symm | exact q37 e.symm | exact q40 e.symm | exact w1 e.symm | exact w2 e.symm | exact w3 e.symm | exact w4 e.symm | exact w5 e.symm | exact w6 e.symm | exact w7 e.symm | exact q24 e.symm | exact q27 e.symm | exact q30 e.symm | exact q33 e.symm | exact q36 e.symm | exact q39 e.symm | exact q42 e.symm) (news_frames B' (News.cons (News.one N3) (News.drop7 (News.tail N3))) rfl) T0
        have f0 := ne_none (N3 _ (.head _)).1 hTp
        have f1 := ne_none (N3 _ (.tail _ (.head _))).1 hTp
        have f2 := ne_none (N3 _ (.tail _ (.tail _ (.head _)))).1 hTp
        have f3 := ne_none (N3 _ (.tail _ (.tail _ (.tail _ (.head _))))).1 hTp
        have f4 := ne_none (N3 _ (.tail _ (.tail _ (.tail _ (.tail _ (.head _)))))).1 hTp
        have f5 := ne_none (N3 _ (.tail _ (.tail _ (.tail _ (.tail _ (.tail _ (.head _))))))).1 hTp
        have f6 := ne_none (N3 _ (.tail _ (.tail _ (.tail _ (.tail _ (.tail _ (.tail _ (.head _)))))))).1 hTp
        have f7 := ne_none (N3 _ (.tail _ (.tail _ (.tail _ (.tail _ (.tail _ (.tail _ (.tail _ (.head _))))))))).1 hTp
        have f8 := ne_none (N3 _ (.tail _ (.tail _ (.tail _ (.tail _ (.tail _ (.tail _ (.tail _ (.tail _ (.head _)))))))))).1 hTp
        have f9 := ne_none (N3 _ (.tail _ (.tail _ (.tail _ (.tail _ (.tail _ (.tail _ (.tail _ (.tail _ (.tail _ (.head _))))))))))).1 hTp
        have f10 := ne_none (N3 _ (.tail _ (.tail _ (.tail _ (.tail _ (.tail _ (.tail _ (.tail _ (.tail _ (.tail _ (.tail _ (.head _)))))))))))).1 hTp
        have NC := News.append N4 NB
        simp only [List.cons_append, List.nil_append] at NC
        clear N4 NB N3 F3
        obtain rfl | rfl : wd = 1 ∨ wd = 2 := hwd
        · simp only [word] at F4 NC
          k_steps
          refine wpO.of ?_
          k_steps
          (with_reducible rename Fr g2 L' _ _ => gF)
          (with_reducible rename News g2 L' _ _ => gN)
          refine ⟨_, _, _, _, T0, gF, gN, fun h₀' T1 kF kN kB kX kT kD => ?_⟩
          refine' hq got2 told place2 off2 ps2 (ns ++ az) h₀' _ _ ws4 as4 ws2 as2 W2 _ _ _ _ _ _ _ _ _ _ _ _ I2 T1 (fun b o nb nf e => gF.keep b o (T0.other b o (hO b o nb e) nf)) kF (fun q hq => ?n24) (nodup_new hd w1 w2 w3 w4 w5 w6 w7 w8 w9) hw4 hw2' ha4 ha2' kB kX kT kD
          case n24 =>
            simp only [List.mem_cons, List.not_mem_nil, or_false] at hq
            rcases hq with rfl | rfl | rfl | rfl | rfl | rfl | rfl | rfl | rfl | rfl
            · have k6 := kN _ (.tail _ (.tail _ (.head _)))
              exact k6
            · have k6 := kN _ (.tail _ (.tail _ (.tail _ (.head _))))
              exact k6
            · have k6 := kN _ (.tail _ (.tail _ (.tail _ (.tail _ (.head _)))))
              exact k6
            · have k6 := kN _ (.tail _ (.tail _ (.tail _ (.tail _ (.tail _ (.head _))))))
              exact k6
            · have k6 := kN _ (.tail _ (.tail _ (.tail _ (.tail _ (.tail _ (.tail _ (.head _)))))))
              exact k6
            · have k6 := kN _ (.tail _ (.tail _ (.tail _ (.tail _ (.tail _ (.tail _ (.tail _ (.head _))))))))
              exact k6
            · have k6 := kN _ (.tail _ (.tail _ (.tail _ (.tail _ (.tail _ (.tail _ (.tail _ (.tail _ (.head _)))))))))
              exact k6
            · have k6 := kN _ (.tail _ (.tail _ (.tail _ (.tail _ (.tail _ (.tail _ (.tail _ (.tail _ (.tail _ (.tail _ (.head _)))))))))))
              exact k6
            · have k6 := kN _ (.tail _ (.tail _ (.tail _ (.tail _ (.tail _ (.tail _ (.tail _ (.tail _ (.tail _ (.tail _ (.tail _ (.head _))))))))))))
              exact k6
            · have k6 := kN _ (.tail _ (.tail _ (.tail _ (.tail _ (.tail _ (.tail _ (.tail _ (.tail _ (.tail _ (.tail _ (.tail _ (.tail _ (.head _)))))))))))))
              exact k6
        · simp only [word] at F4 NC
          k_steps
          refine wpO.of ?_
          k_steps
          (with_reducible rename Fr g2 L' _ _ => gF)
          (with_reducible rename News g2 L' _ _ => gN)
          refine ⟨_, _, _, _, T0, gF, gN, fun h₀' T1 kF kN kB kX kT kD => ?_⟩
          refine' hq got2 told place2 off2 ps2 (ns ++ az) h₀' _ _ ws4 as4 ws2 as2 W2 _ _ _ _ _ _ _ _ _ _ _ _ I2 T1 (fun b o nb nf e => gF.keep b o (T0.other b o (hO b o nb e) nf)) kF (fun q hq => ?n25) (nodup_new hd w1 w2 w3 w4 w5 w6 w7 w8 w9) hw4 hw2' ha4 ha2' kB kX kT kD
          case n25 =>
            simp only [List.mem_cons, List.not_mem_nil, or_false] at hq
            rcases hq with rfl | rfl | rfl | rfl | rfl | rfl | rfl | rfl | rfl | rfl
            · have k6 := kN _ (.tail _ (.tail _ (.head _)))
              exact k6
            · have k6 := kN _ (.tail _ (.tail _ (.tail _ (.head _))))
              exact k6
            · have k6 := kN _ (.tail _ (.tail _ (.tail _ (.tail _ (.head _)))))
              exact k6
            · have k6 := kN _ (.tail _ (.tail _ (.tail _ (.tail _ (.tail _ (.head _))))))
              exact k6
            · have k6 := kN _ (.tail _ (.tail _ (.tail _ (.tail _ (.tail _ (.tail _ (.head _)))))))
              exact k6
            · have k6 := kN _ (.tail _ (.tail _ (.tail _ (.tail _ (.tail _ (.tail _ (.tail _ (.head _))))))))
              exact k6
            · have k6 := kN _ (.tail _ (.tail _ (.tail _ (.tail _ (.tail _ (.tail _ (.tail _ (.tail _ (.head _)))))))))
              exact k6
            · have k6 := kN _ (.tail _ (.tail _ (.tail _ (.tail _ (.tail _ (.tail _ (.tail _ (.tail _ (.tail _ (.tail _ (.head _)))))))))))
              exact k6
            · have k6 := kN _ (.tail _ (.tail _ (.tail _ (.tail _ (.tail _ (.tail _ (.tail _ (.tail _ (.tail _ (.tail _ (.tail _ (.head _))))))))))))
              exact k6
            · have k6 := kN _ (.tail _ (.tail _ (.tail _ (.tail _ (.tail _ (.tail _ (.tail _ (.tail _ (.tail _ (.tail _ (.tail _ (.tail _ (.head _)))))))))))))
              exact k6
end Mine
namespace Mine
open PySem PySem.W PySem.Calls PyProof.Rows
theorem wt_D2 : True := by
  w_top off
  trivial
local macro_rules | `(tactic| k_ne) => `(tactic| (refine neN ?_; (try dsimp only); first | assumption | (refine Ne.symm ?_; assumption) | omega))
local macro_rules | `(tactic| k_room) => `(tactic| exact Nat.le_of_ble_eq_true rfl)
local macro_rules | `(tactic| walk_at "my size") => `(tactic| ((try simp only [List.length_cons, List.length_nil, List.length_append, List.size_toArray, List.length_take, List.length_drop]); rw [sizeLine_eq]; omega))
local macro_rules | `(tactic| walk_at "call builtin:len") => `(tactic| (k_here; (with_reducible show wpAny _ _ (call (Value.builtin "len") [Value.bytes (List.toArray _) _]) _ _ _); k_dflt (refine' len_by ?z ?_; (case z => walk_at "my size"))))
local macro_rules | `(tactic| walk_at "call builtin:len") => `(tactic| (k_here; (with_reducible show wpAny _ _ (call (Value.builtin "len") [Value.ref _]) _ _ _); k_dflt (refine' len_baN (xs := _) ?n ?m ?z ?_; (case n => k_asm); (case m => k_mem); (case z => walk_at "my size"))))
local macro_rules | `(tactic| walk_at "call builtin:max") => `(tactic| (k_here; (with_reducible show wpAny _ _ (call (Value.builtin "max") [Value.int _ _, Value.int _ _]) _ _ _); k_dflt (refine' max_nat ?k1 ?k2 ?k3 ?_; (case k1 => exact rfl); (case k2 => k_asm); (case k3 => k_asm)); intro h' tk' t' F' N'))
local macro_rules | `(tactic| walk_at "exec Raise some none") => `(tactic| (k_here; (with_reducible show wpAny _ _ (exec (Stmt.Raise (some (Expr.Name _ _)) none _) _) _ _ _); k_dflt (refine' raise_ownK (bmB := [.type "Exception", .type "BaseException", .type "object"]) (newId := "Exception.__new__") ?F ?X ?T ?ex ?q PySem.F.excBase_Exception ?h ?_; (case F => k_asm); (case X => k_asm); (case T => k_asm); (case ex => k_is); (case q => k_exc); (case h => rfl))))
local macro_rules | `(tactic| walk_at "leaving ref") => `(tactic| (k_here; refine stop_of ?_))
local macro_rules | `(tactic| walk_at "truthy bytes") => `(tactic| (k_here; (with_reducible show wpAny _ _ (truthy (Value.bytes (List.toArray _) _)) _ _ _); k_dflt (refine' truthy_by ?z ?_; (case z => walk_at "my size")); (try simp only [List.isEmpty_cons, List.isEmpty_nil, Bool.not_false, Bool.not_true])))
local macro_rules | `(tactic| walk_at "my cut") => `(tactic| first | exact cut_upto _ _ | exact cut_from _ _ | exact cut_run' _ _ _)
local macro_rules | `(tactic| walk_at "subscriptTail") => `(tactic| (k_here; (with_reducible show wpAny _ _ (subscriptTail _ (Expr.Slice _ _ none _) (Value.ref _) (Value.ref _)) _ _ _); (with_reducible rename Fr _ _ _ _ => myF); (with_reducible rename News _ _ _ _ => myN); k_dflt (refine' ba_slice (s := ⟨_, _, _, _, _⟩) myF myN ?m ?l ?u ?z ?e ?_; (case m => k_mem); (case l => constructor); (case u => constructor); (case z => walk_at "my size"); (case e => walk_at "my cut")); clear myF myN; intro D' h' F' N' l1; (try k_lt l1); (try k_sweep)))
local macro_rules | `(tactic| walk_at "call type:bytes") => `(tactic| (k_here; (with_reducible show wpAny _ _ (call (Value.type "bytes") [Value.ref _]) _ _ _); k_dflt (refine' bytes_of_baN (xs := _) ?n ?m ?z ?_; (case n => k_asm); (case m => k_mem); (case z => walk_at "my size"))))
local macro_rules | `(tactic| walk_at "call ref") => `(tactic| (k_here; (with_reducible show wpAny _ _ (call (Value.ref 478) [_, Value.bytes (byteArr _) _] _) _ _ _); refine stop_of ?_))
local macro_rules | `(tactic| walk_at "subscriptTail") => `(tactic| (k_here; (with_reducible show wpAny _ _ (subscriptTail _ (Expr.Slice _ _ none _) (Value.bytes (List.toArray _) _) (Value.ref _)) _ _ _); (with_reducible rename Fr _ _ _ _ => myF); (with_reducible rename News _ _ _ _ => myN); k_dflt (refine' by_slice (s := ⟨_, _, _, _, _⟩) myF myN ?l ?u ?z ?e ?_; (case l => constructor); (case u => constructor); (case z => walk_at "my size"); (case e => walk_at "my cut")); clear myF myN; intro h' t' tk' F' N'; (try k_sweep)))
local macro_rules | `(tactic| walk_at "compareOp Eq bytes bytes") => `(tactic| (k_here; (with_reducible show wpAny _ _ (compareOp CmpOp.Eq (Value.bytes (List.toArray _) _) (Value.bytes (List.toArray _) _)) _ _ _); k_dflt (refine' eq_by ?_)))
local macro_rules | `(tactic| walk_at "binaryOp Add ref ref") => `(tactic| (k_here; (with_reducible show wpAny _ _ (binaryOp _ (Value.ref _) (Value.ref _)) _ _ _); k_dflt (refine' kmk_add_lit ?F ?N ?a ?b ?e ?_ ?z; (case F => k_asm); (case N => k_asm); (case a => kmk_list); (case b => kmk_list); (case e => exact cat1 _ _); (case z => walk_at "my size")); intro D' h' F' N' l1; (try k_lt l1); (try k_sweep)))
local macro_rules | `(tactic| walk_at "call ref") => `(tactic| (k_here; (with_reducible show wpAny _ _ (call (Value.ref 499) _ _) _ _ _); refine stop_of ?_))
local macro_rules | `(tactic| walk_at "call builtin:list.append") => `(tactic| (k_here; (with_reducible show wpAny _ _ (call (Value.builtin _) [Value.ref _, _]) _ _ _); k_dflt (refine' append_K ?k1 ?k2 ?k3 ?_ ?z; (case k1 => k_asm); (case k2 => k_asm); (case k3 => k_upd); (case z => walk_at "my size"); k_whole); intro h' F' N'; (try k_sweep)))
local macro_rules | `(tactic| boot_fact) => `(tactic| with_reducible exact boot_bytearray)
local macro_rules | `(tactic| walk_at "call builtin:isinstance") => `(tactic| (k_here; (with_reducible show wpAny _ _ (call (Value.builtin "isinstance") [Value.ref _, Value.type "bytearray"]) _ _ _); k_dflt (refine' isi_baN (xs := _) ?n ?m ?_; (case n => k_asm); (case m => k_mem))))
theorem T_deed2 {prog : Program} {w : World} {A₀ : Around} {base h₀ : Heap} {L : Addr} {m : Str → Option Value} {mg mb : Str → Option Value} {p : Program} {loose : List Str} {mean : ExcName → Option Value} {env : Env} {outer : List Env} {s : Shared} {Q E : Value → Shared → Prop}
    {H dH PL PA U dU Bf S W SA : Addr} {t1 t2 ti tc tm tr ts gt tt pt rt st : Tok} {τ : Nat → Tok} {v : Nat → Value} {nd nw na n7 nww naa : Nat} {wh ah ww aa : List Value} {ns : List Int} {ps : List (List UInt8)} {got : List UInt8} {told place off room rs j way : Nat} {rest : Int} {kt tw : Tok}
    (B : Below A₀ base outer h₀) (F : Fr h₀ L s.heap m) (X : (MineHead.hd.heap_39 w.params).In h₀) (T : Top p loose mean mg mb h₀) (XB : (MineHead.hd.heap_39 w.params).In base) (TB : Top p loose mean mg mb base) (D : KtsDicts (outer.filterMap (·.frame)) h₀) (hf : env.frame = some L) (hke : env.scope.kind = .function)
    (N : News h₀ L s.heap [(H, instObj 481 dH), (dH, dictOf (parD w t1 t2 PL PA) nd), (PL, listOf (List.toArray wh) nw), (PA, listOf (List.toArray ah) na), (U, instObj 445 dU), (dU, dictOf (unpD w τ v H Bf (place - off) ti (told - off) tc room tm rs tr told ts) 22), (Bf, baObj (got.drop off)), (S, listOf #[.bytes (List.toArray got) gt, .int (told : Int) tt, .int (place : Int) pt, .int (room : Int) rt, .ref W, .ref SA, .int (rs : Int) st] n7), (W, listOf (List.toArray ww) nww), (SA, listOf (List.toArray aa) naa)])
    (hd : List.Nodup ([H, dH, PL, PA, U, dU, Bf, S, W, SA] : List Nat)) (hw : BAre wh ps) (hw2 : BAre ww ps) (has : IntsAre ah ns) (has2 : IntsAre aa ns) (I : Inv j got told place off ps ns) (hj : j ≤ 40) (hrs : 1 ≤ rs) (hway : way = 2)
    (hq : ∀ got' told' place' off' ps' ns' h₀' h' tk' wh' ah' ww' aa' W' nd' nw' na' n7' nww' naa' ti' tc' ts' gt' tt' pt', Inv (j + 1) got' told' place' off' ps' ns' → KtsTurn (outer.filterMap (·.frame)) h₀ h₀' → OnlyF [H, dH, PL, PA, U, dU, Bf, S, W, SA] ((env :: outer).filterMap (·.frame)) s.heap h' → Fr h₀' L h' m →
      News h₀' L h' [(H, instObj 481 dH), (dH, dictOf (parD w t1 t2 PL PA) nd'), (PL, listOf (List.toArray wh') nw'), (PA, listOf (List.toArray ah') na'), (U, instObj 445 dU), (dU, dictOf (unpD w τ v H Bf (place' - off') ti' (told' - off') tc' room tm rs tr told' ts') 22), (Bf, baObj (got'.drop off')), (S, listOf #[.bytes (List.toArray got') gt', .int (told' : Int) tt', .int (place' : Int) pt', .int (room : Int) rt, .ref W', .ref SA, .int (rs : Int) st] n7'), (W', listOf (List.toArray ww') nww'), (SA, listOf (List.toArray aa') naa')] → List.Nodup ([H, dH, PL, PA, U, dU, Bf, S, W', SA] : List Nat) →
      BAre wh' ps' → BAre ww' ps' → IntsAre ah' ns' → IntsAre aa' ns' → Below A₀ base outer h₀' → (MineHead.hd.heap_39 w.params).In h₀' → Top p loose mean mg mb h₀' → KtsDicts (outer.filterMap (·.frame)) h₀' → Q (.bool true) { s with heap := h', toks := tk' }) :
    wpO (model prog w) (AA 380 800 env outer) (call (.ref 511) [.ref U, .ref H, .ref S, .int (way : Int) tw, .int rest kt]) Q E s := by
  have hd' := hd
  simp only [List.nodup_cons, List.mem_cons, List.not_mem_nil, or_false, not_or, List.nodup_nil, and_true, not_false_eq_true] at hd'
  obtain ⟨⟨q1, q2, q3, q4, q5, q6, q22, q23, q24⟩, ⟨q7, q8, q9, q10, q11, q25, q26, q27⟩, ⟨q12, q13, q14, q15, q28, q29, q30⟩, ⟨q16, q17, q18, q31, q32, q33⟩, ⟨q19, q20, q34, q35, q36⟩, ⟨q21, q37, q38, q39⟩, ⟨q40, q41, q42⟩, ⟨q43, q44⟩, q45⟩ := hd'
  have hI1 := I.h1
  have hI2 := I.h2
  have hI3 := I.h3
  have hIz := I.z1
  have hI4 := I.z2
  have hI5 := I.z4
  have hwl := hw.length
  have hwl2 := hw2.length
  refine wpO_call ?_
  k_dflt (refine' codeO_defTC ?k1 ?k2 ?k3 ?k4 ?k5 ?XB ?TB ?D ?kA ?kF ?kK ?k6 ?k7 ?k8 ?k9 ?kB ?kD ?_ ?c2 ?c3 ?c4; (case kA => exact rfl); (case kF => exact hf); (case kK => exact hke); (case k1 => k_asm); (case k2 => k_asm); (case k3 => k_asm); (case k4 => k_asm); (case k5 => k_asm); (case XB => exact XB); (case TB => exact TB); (case D => exact D); (case k6 => k_is); (case k7 => k_is); (case k8 => exact Nat.le_of_ble_eq_true rfl); (case k9 => exact BindsTo.of_eq (binds := [(Str.ofString "used", .ref U), (Str.ofString "held", .ref H), (Str.ofString "state", .ref S), (Str.ofString "way", .int (way : Int) tw), (Str.ofString "rest", .int rest kt)]) (by with_unfolding_all rfl)); (case kB => exact rfl); (case kD => decide +kernel); (case c2 => exact rfl); (case c3 => exact rfl); (case c4 => exact rfl))
  intro g' L' h' tk' cells' FG' F' N' Y' B' X' T' D' hlt hO
  k_cells Y'
  (try simp only [List.cons_append, List.nil_append] at N')
  dsimp only
  k_lt hlt
  refine wpO_leaf ?_
  k_steps
  (with_reducible rename Fr g' L' _ _ => F1)
  (with_reducible rename News g' L' _ _ => N1)
  dsimp only at F1 N1
  refine wpO_tok (g := s.gens) (d := s.drawn) (o := s.os) F1 rfl rfl rfl rfl (fun tk1 => ?_)
  obtain ⟨n, hn, hn7⟩ : ∃ n : Nat, rest.fmod 8 = (n : Int) ∧ n ≤ 7 := ⟨(rest.fmod 8).toNat, by have := Int.fmod_nonneg_of_pos rest (show (0 : Int) < 8 by omega); omega, by have := Int.fmod_lt_of_pos rest (show (0 : Int) < 8 by omega); omega⟩
  rw [hn] at F1
  subst hway
  · refine wpO_leaf ?_
    k_steps
    refine wpO_execs_cons (wpO_IfLeaf ?_)
    k_steps
    refine wpO_leaf ?_
    k_steps
    refine go_of ?_
    refine wpAny_upto (d := 405) (u := 1050) (env := envOfC _ _ _ _ _) ⟨rfl, Nat.le_of_ble_eq_true rfl, rfl, Nat.le_of_ble_eq_true rfl⟩ (L_lack (need := n) (insists := true) (S := S) (W := W) (SA := SA) (ps := ps) (ns := ns) (got := got) (told := told) (place := place) (room := room) (rs := rs) B' F1 X' T' rfl rfl (fun q hq => N1 q (List.mem_append_right [_, _, _, _, _, _, _, _] hq)) hw2 has2 q43 q44 q45 (by omega) (by omega) (fun b hb => Nat.le_trans (I.z3 b hb) (by omega)) (by omega) (by omega) (by omega) hrs hI2 hI3 ?hq1)
    case hq1 =>
      intro h2 tk2 wt gt2 pt2 W2 n2 nw2 na2 ws2 as2 O2 F2 N2 hw2' ha2' hW2
      obtain ⟨off2, o1, o2, o3, hR⟩ := sync (rs := rs) (room := room) (n := n) (ps := ps) (ins := true) hI1 hI2 hI3
      have y1 := @lackR_sum rs room got told place ps n true
      have y2 := @lackR_len rs room got told place ps n true
      have y3 := @lackR_mem rs room got told place ps n true 4 I.z3
      have y4 := @lackR_asks rs room got told place ps n true hI3
      have y5 := @lackR_word rs room got told place ps n true
      obtain ⟨⟨wd, got2, place2, ps2, az⟩, hL⟩ : ∃ R, lackR rs room got told place ps n true = R := ⟨_, rfl⟩
      rw [hL] at N2 hw2' ha2' o2 o3 hR y1 y2 y3 y4 y5 ⊢
      dsimp only at N2 hw2' ha2' o2 o3 hR y1 y2 y3 y4 y5
      have I2 : Inv (j + 1) got2 told place2 off2 ps2 (ns ++ az) := ⟨o1, o2, o3, by omega, by omega, y3, by rw [List.length_append]; omega⟩
      have w1 := new_ne hW2 (N1 _ (.tail _ (.head _))).1 q23
      have w2 := new_ne hW2 (N1 _ (.tail _ (.tail _ (.head _)))).1 q26
      have w3 := new_ne hW2 (N1 _ (.tail _ (.tail _ (.tail _ (.head _))))).1 q29
      have w4 := new_ne hW2 (N1 _ (.tail _ (.tail _ (.tail _ (.tail _ (.head _)))))).1 q32
      have w5 := new_ne hW2 (N1 _ (.tail _ (.tail _ (.tail _ (.tail _ (.tail _ (.head _))))))).1 q35
      have w6 := new_ne hW2 (N1 _ (.tail _ (.tail _ (.tail _ (.tail _ (.tail _ (.tail _ (.head _)))))))).1 q38
      have w7 := new_ne hW2 (N1 _ (.tail _ (.tail _ (.tail _ (.tail _ (.tail _ (.tail _ (.tail _ (.head _))))))))).1 q41
      have w8 := new_ne hW2 (N1 _ (.tail _ (.tail _ (.tail _ (.tail _ (.tail _ (.tail _ (.tail _ (.tail _ (.head _)))))))))).1 q43
      have w9 : @Ne Nat W2 SA := fun e => (new_ne hW2 (N1 _ (.tail _ (.tail _ (.tail _ (.tail _ (.tail _ (.tail _ (.tail _ (.tail _ (.tail _ (.tail _ (.head _)))))))))))).1 (fun e => q45 e.symm)) e.symm
      have w0 := new_ne hW2 (N1 _ (.head _)).1 (by omega)
      have N8 := O2.news (News.take8 N1) (fun q hq hm => by
        simp only [List.mem_cons, List.not_mem_nil, or_false] at hq hm
        have z0 : @Ne Nat (L' + 1) S := by omega
        have z1 : @Ne Nat (L' + 1) W := by omega
        have z2 : @Ne Nat (L' + 1) SA := by omega
        rcases hq with rfl | rfl | rfl | rfl | rfl | rfl | rfl | rfl <;> rcases hm with e | e | e <;> first | exact z0 e | exact z1 e | exact z2 e | exact q22 e | exact q23 e | exact q24 e | exact q25 e | exact q26 e | exact q27 e | exact q28 e | exact q29 e | exact q30 e | exact q31 e | exact q32 e | exact q33 e | exact q34 e | exact q35 e | exact q36 e | exact q37 e | exact q38 e | exact q39 e | exact q40 e | exact q41 e | exact q42 e)
      have N9 := News.append N8 N2
      simp only [List.cons_append, List.nil_append] at N9
      clear N1 F1 N2 N8
      k_steps
      (with_reducible rename Fr g' L' _ _ => F3)
      (with_reducible rename News g' L' _ _ => N3)
      (try dsimp only at F3 N3)
      refine wpO_tok (g := s.gens) (d := s.drawn) (o := s.os) F3 rfl rfl rfl rfl (fun tk3 => ?_)
      refine wpO_execs_cons (wpO_Assign_Name (wpO_Call ?_))
      k_steps
      refine wpO_callWith_K X' (by k_dflt k_is) ?_
      k_steps
      refine wpO_upto (d := 385) (u := 850) (env := envOfC _ _ _ _ _) ⟨rfl, Nat.le_of_ble_eq_true rfl, rfl, Nat.le_of_ble_eq_true rfl⟩ (T_try (way := 2) (n := n) (ps := ps) (ns := ns) B' F3 X' T' XB TB D' rfl rfl (News.take7 (News.tail N3)) (nodup7 hd) hw has (by omega) (by omega) (fun b hb => Nat.le_trans (I.z3 b hb) (by omega)) (by rw [List.length_drop]; omega) (by omega) (by rw [List.length_drop]; omega) hrs (by omega) (by rw [List.length_drop]; omega) (by omega) ?hqO ?hqK ?hqP ?hqX)
      case hqO => intro e; exact absurd e (by omega)
      case hqP => intro e; exact absurd e (by omega)
      case hqK =>
        simp only [show decide ((2 : Nat) < 3) = true from rfl]
        rw [hR]
        intro _ Tp g2 h4 tk4 t4 ti4 tc4 nd4 nw4 na4 ws4 as4 hwd T0 O4 F4 hTp N4 hw4 ha4 B4 X4 P4 D4
        dsimp only at hwd N4 hw4 ha4
        obtain rfl : wd = 0 := hwd
        have NB := O4.news (News.cons (News.one N3) (News.drop7 (News.tail N3))) (fun q hq hm => by
          simp only [List.mem_cons, List.not_mem_nil, or_false] at hq hm
          have z1 : @Ne Nat (L' + 1) H := by omega
          have z2 : @Ne Nat (L' + 1) dH := by omega
          have z3 : @Ne Nat (L' + 1) PL := by omega
          have z4 : @Ne Nat (L' + 1) PA := by omega
          have z5 : @Ne Nat (L' + 1) U := by omega
          have z6 : @Ne Nat (L' + 1) dU := by omega
          have z7 : @Ne Nat (L' + 1) Bf := by omega
          rcases hq with rfl | rfl | rfl | rfl <;> rcases hm with e | e | e | e | e | e | e <;> first | exact z1 e | exact z2 e | exact z3 e | exact z4 e | exact z5 e | exact z6 e | exact z7 e | exact q22 e.symm | exact q25 e.symm | exact q28 e.symm | exact q31 e.symm | exact q34 e.symm | exact q37 e.symm | exact q40 e.symm | exact w1 e.symm | exact w2 e.symm | exact w3 e.symm | exact w4 e.symm | exact w5 e.symm | exact w6 e.symm | exact w7 e.symm | exact q24 e.symm | exact q27 e.symm | exact q30 e.symm | exact q33 e.symm | exact q36 e.symm | exact q39 e.symm | exact q42 e.symm) (news_frames B' (News.cons (News.one N3) (News.drop7 (News.tail N3))) rfl) T0
        have f0 := ne_none (N3 _ (.head _)).1 hTp
        have f1 := ne_none (N3 _ (.tail _ (.head _))).1 hTp
        have f2 := ne_none (N3 _ (.tail _ (.tail _ (.head _)))).1 hTp
        have f3 := ne_none (N3 _ (.tail _ (.tail _ (.tail _ (.head _))))).1 hTp
        have f4 := ne_none (N3 _ (.tail _ (.tail _ (.tail _ (.tail _ (.head _)))))).1 hTp
        have f5 := ne_none (N3 _ (.tail _ (.tail _ (.tail _ (.tail _ (.tail _ (.head _))))))).1 hTp
        have f6 := ne_none (N3 _ (.tail _ (.tail _ (.tail _ (.tail _ (.tail _ (.tail _ (.head _)))))))).1 hTp
        have f7 := ne_none (N3 _ (.tail _ (.tail _ (.tail _ (.tail _ (.tail _ (.tail _ (.tail _ (.head _))))))))).1 hTp
        have f8 := ne_none (N3 _ (.tail _ (.tail _ (.tail _ (.tail _ (.tail _ (.tail _ (.tail _ (.tail _ (.head _)))))))))).1 hTp
        have f9 := ne_none (N3 _ (.tail _ (.tail _ (.tail _ (.tail _ (.tail _ (.tail _ (.tail _ (.tail _ (.tail _ (.head _))))))))))).1 hTp
        have f10 := ne_none (N3 _ (.tail _ (.tail _ (.tail _ (.tail _ (.tail _ (.tail _ (.tail _ (.tail _ (.tail _ (.tail _ (.head _)))))))))))).1 hTp
        have NC := News.append N4 NB
        simp only [List.cons_append, List.nil_append] at NC
        clear N4 NB N3 F3
        simp only [word] at F4
        k_steps
        refine wpO.of ?_
        k_steps
        (with_reducible rename Fr g2 L' _ _ => gF)
        (with_reducible rename News g2 L' _ _ => gN)
        refine ⟨_, _, _, _, T0, gF, gN, fun h₀' T1 kF kN kB kX kT kD => ?_⟩
        refine' hq got2 told place2 off2 ps2 (ns ++ az) h₀' _ _ ws4 as4 ws2 as2 W2 _ _ _ _ _ _ _ _ _ _ _ _ I2 T1 (fun b o nb nf e => gF.keep b o (T0.other b o (hO b o nb e) nf)) kF (fun q hq => ?n22) (nodup_new hd w1 w2 w3 w4 w5 w6 w7 w8 w9) hw4 hw2' ha4 ha2' kB kX kT kD
        case n22 =>
          simp only [List.mem_cons, List.not_mem_nil, or_false] at hq
          rcases hq with rfl | rfl | rfl | rfl | rfl | rfl | rfl | rfl | rfl | rfl
          · have k6 := kN _ (.tail _ (.tail _ (.head _)))
            exact k6
          · have k6 := kN _ (.tail _ (.tail _ (.tail _ (.head _))))
            exact k6
          · have k6 := kN _ (.tail _ (.tail _ (.tail _ (.tail _ (.head _)))))
            exact k6
          · have k6 := kN _ (.tail _ (.tail _ (.tail _ (.tail _ (.tail _ (.head _))))))
            exact k6
          · have k6 := kN _ (.tail _ (.tail _ (.tail _ (.tail _ (.tail _ (.tail _ (.head _)))))))
            exact k6
          · have k6 := kN _ (.tail _ (.tail _ (.tail _ (.tail _ (.tail _ (.tail _ (.tail _ (.head _))))))))
            exact k6
          · have k6 := kN _ (.tail _ (.tail _ (.tail _ (.tail _ (.tail _ (.tail _ (.tail _ (.tail _ (.head _)))))))))
            exact k6
          · have k6 := kN _ (.tail _ (.tail _ (.tail _ (.tail _ (.tail _ (.tail _ (.tail _ (.tail _ (.tail _ (.tail _ (.head _)))))))))))
            exact k6
          · have k6 := kN _ (.tail _ (.tail _ (.tail _ (.tail _ (.tail _ (.tail _ (.tail _ (.tail _ (.tail _ (.tail _ (.tail _ (.head _))))))))))))
            exact k6
          · have k6 := kN _ (.tail _ (.tail _ (.tail _ (.tail _ (.tail _ (.tail _ (.tail _ (.tail _ (.tail _ (.tail _ (.tail _ (.tail _ (.head _)))))))))))))
            exact k6
      case hqX =>
        simp only [show decide ((2 : Nat) < 3) = true from rfl]
        rw [hR]
        intro hwd Tp g2 h4 tk4 t4 ti4 tc4 nd4 nw4 na4 ws4 as4 T0 O4 F4 hTp N4 hw4 ha4 B4 X4 P4 D4
        dsimp only at hwd N4 hw4 ha4
        have NB := O4.news (News.cons (News.one N3) (News.drop7 (News.tail N3))) (fun q hq hm => by
          simp only [List.mem_cons, List.not_mem_nil, or_false] at hq hm
          have z1 : @Ne Nat (L' + 1) H := by omega
          have z2 : @Ne Nat (L' + 1) dH := by omega
          have z3 : @Ne Nat (L' + 1) PL := by omega
          have z4 : @Ne Nat (L' + 1) PA := by omega
          have z5 : @Ne Nat (L' + 1) U := by omega
          have z6 : @Ne Nat (L' + 1) dU := by omega
          have z7 : @Ne Nat (L' + 1) Bf := by omega
          rcases hq with rfl | rfl | rfl | rfl <;> rcases hm with e | e | e | e | e | e | e <;> first | exact z1 e | exact z2 e | exact z3 e | exact z4 e | exact z5 e | exact z6 e | exact z7 e | exact q22 e.symm | exact q25 e.symm | exact q28 e.symm | exact q31 e.symm | exact q34 e.symm | exact q37 e.symm | exact q40 e.symm | exact w1 e.symm | exact w2 e.symm | exact w3 e.symm | exact w4 e.symm | exact w5 e.symm | exact w6 e.symm | exact w7 e.symm | exact q24 e.symm | exact q27 e.symm | exact q30 e.symm | exact q33 e.symm | exact q36 e.symm | exact q39 e.symm | exact q42 e.symm) (news_frames B' (News.cons (News.one N3) (News.drop7 (News.tail N3))) rfl) T0
        have f0 := ne_none (N3 _ (.head _)).1 hTp
        have f1 := ne_none (N3 _ (.tail _ (.head _))).1 hTp
        have f2 := ne_none (N3 _ (.tail _ (.tail _ (.head _)))).1 hTp
        have f3 := ne_none (N3 _ (.tail _ (.tail _ (.tail _ (.head _))))).1 hTp
        have f4 := ne_none (N3 _ (.tail _ (.tail _ (.tail _ (.tail _ (.head _)))))).1 hTp
        have f5 := ne_none (N3 _ (.tail _ (.tail _ (.tail _ (.tail _ (.tail _ (.head _))))))).1 hTp
        have f6 := ne_none (N3 _ (.tail _ (.tail _ (.tail _ (.tail _ (.tail _ (.tail _ (.head _)))))))).1 hTp
        have f7 := ne_none (N3 _ (.tail _ (.tail _ (.tail _ (.tail _ (.tail _ (.tail _ (.tail _ (.head _))))))))).1 hTp
        have f8 := ne_none (N3 _ (.tail _ (.tail _ (.tail _ (.tail _ (.tail _ (.tail _ (.tail _ (.tail _ (.head _)))))))))).1 hTp
        have f9 := ne_none (N3 _ (.tail _ (.tail _ (.tail _ (.tail _ (.tail _ (.tail _ (.tail _ (.tail _ (.tail _ (.head _))))))))))).1 hTp
        have f10 := ne_none (N3 _ (.tail _ (.tail _ (.tail _ (.tail _ (.tail _ (.tail _ (.tail _ (.tail _ (.tail _ (.tail _ (.head _)))))))))))).1 hTp
        have NC := News.append N4 NB
        simp only [List.cons_append, List.nil_append] at NC
        clear N4 NB N3 F3
        obtain rfl | rfl : wd = 1 ∨ wd = 2 := hwd
        · simp only [word] at F4 NC
          k_steps
          refine wpO.of ?_
          k_steps
          (with_reducible rename Fr g2 L' _ _ => gF)
          (with_reducible rename News g2 L' _ _ => gN)
          refine ⟨_, _, _, _, T0, gF, gN, fun h₀' T1 kF kN kB kX kT kD => ?_⟩
          refine' hq got2 told place2 off2 ps2 (ns ++ az) h₀' _ _ ws4 as4 ws2 as2 W2 _ _ _ _ _ _ _ _ _ _ _ _ I2 T1 (fun b o nb nf e => gF.keep b o (T0.other b o (hO b o nb e) nf)) kF (fun q hq => ?n26) (nodup_new hd w1 w2 w3 w4 w5 w6 w7 w8 w9) hw4 hw2' ha4 ha2' kB kX kT kD
          case n26 =>
            simp only [List.mem_cons, List.not_mem_nil, or_false] at hq
            rcases hq with rfl | rfl | rfl | rfl | rfl | rfl | rfl | rfl | rfl | rfl
            · have k6 := kN _ (.tail _ (.tail _ (.head _)))
              exact k6
            · have k6 := kN _ (.tail _ (.tail _ (.tail _ (.head _))))
              exact k6
            · have k6 := kN _ (.tail _ (.tail _ (.tail _ (.tail _ (.head _)))))
              exact k6
            · have k6 := kN _ (.tail _ (.tail _ (.tail _ (.tail _ (.tail _ (.head _))))))
              exact k6
            · have k6 := kN _ (.tail _ (.tail _ (.tail _ (.tail _ (.tail _ (.tail _ (.head _)))))))
              exact k6
            · have k6 := kN _ (.tail _ (.tail _ (.tail _ (.tail _ (.tail _ (.tail _ (.tail _ (.head _))))))))
              exact k6
            · have k6 := kN _ (.tail _ (.tail _ (.tail _ (.tail _ (.tail _ (.tail _ (.tail _ (.tail _ (.head _)))))))))
              exact k6
            · have k6 := kN _ (.tail _ (.tail _ (.tail _ (.tail _ (.tail _ (.tail _ (.tail _ (.tail _ (.tail _ (.tail _ (.head _)))))))))))
              exact k6
            · have k6 := kN _ (.tail _ (.tail _ (.tail _ (.tail _ (.tail _ (.tail _ (.tail _ (.tail _ (.tail _ (.tail _ (.tail _ (.head _))))))))))))
              exact k6
            · have k6 := kN _ (.tail _ (.tail _ (.tail _ (.tail _ (.tail _ (.tail _ (.tail _ (.tail _ (.tail _ (.tail _ (.tail _ (.tail _ (.head _)))))))))))))
              exact k6
        · simp only [word] at F4 NC
          k_steps
          refine wpO.of ?_
          k_steps
          (with_reducible rename Fr g2 L' _ _ => gF)
          (with_reducible rename News g2 L' _ _ => gN)
          refine ⟨_, _, _, _, T0, gF, gN, fun h₀' T1 kF kN kB kX kT kD => ?_⟩
          refine' hq got2 told place2 off2 ps2 (ns ++ az) h₀' _ _ ws4 as4 ws2 as2 W2 _ _ _ _ _ _ _ _ _ _ _ _ I2 T1 (fun b o nb nf e => gF.keep b o (T0.other b o (hO b o nb e) nf)) kF (fun q hq => ?n27) (nodup_new hd w1 w2 w3 w4 w5 w6 w7 w8 w9) hw4 hw2' ha4 ha2' kB kX kT kD
          case n27 =>
            simp only [List.mem_cons, List.not_mem_nil, or_false] at hq
            rcases hq with rfl | rfl | rfl | rfl | rfl | rfl | rfl | rfl | rfl | rfl
            · have k6 := kN _ (.tail _ (.tail _ (.head _)))
              exact k6
            · have k6 := kN _ (.tail _ (.tail _ (.tail _ (.head _))))
              exact k6
            · have k6 := kN _ (.tail _ (.tail _ (.tail _ (.tail _ (.head _)))))
              exact k6
            · have k6 := kN _ (.tail _ (.tail _ (.tail _ (.tail _ (.tail _ (.head _))))))
              exact k6
            · have k6 := kN _ (.tail _ (.tail _ (.tail _ (.tail _ (.tail _ (.tail _ (.head _)))))))
              exact k6
            · have k6 := kN _ (.tail _ (.tail _ (.tail _ (.tail _ (.tail _ (.tail _ (.tail _ (.head _))))))))
              exact k6
            · have k6 := kN _ (.tail _ (.tail _ (.tail _ (.tail _ (.tail _ (.tail _ (.tail _ (.tail _ (.head _)))))))))
              exact k6
            · have k6 := kN _ (.tail _ (.tail _ (.tail _ (.tail _ (.tail _ (.tail _ (.tail _ (.tail _ (.tail _ (.tail _ (.head _)))))))))))
              exact k6
            · have k6 := kN _ (.tail _ (.tail _ (.tail _ (.tail _ (.tail _ (.tail _ (.tail _ (.tail _ (.tail _ (.tail _ (.tail _ (.head _))))))))))))
              exact k6
            · have k6 := kN _ (.tail _ (.tail _ (.tail _ (.tail _ (.tail _ (.tail _ (.tail _ (.tail _ (.tail _ (.tail _ (.tail _ (.tail _ (.head _)))))))))))))
              exact k6
end Mine
namespace Mine
open PySem PySem.W PySem.Calls PyProof.Rows
theorem wt_D3 : True := by
  w_top off
  trivial
local macro_rules | `(tactic| k_ne) => `(tactic| (refine neN ?_; (try dsimp only); first | assumption | (refine Ne.symm ?_; assumption) | omega))
local macro_rules | `(tactic| k_room) => `(tactic| exact Nat.le_of_ble_eq_true rfl)
local macro_rules | `(tactic| walk_at "my size") => `(tactic| ((try simp only [List.length_cons, List.length_nil, List.length_append, List.size_toArray, List.length_take, List.length_drop]); rw [sizeLine_eq]; omega))
local macro_rules | `(tactic| walk_at "call builtin:len") => `(tactic| (k_here; (with_reducible show wpAny _ _ (call (Value.builtin "len") [Value.bytes (List.toArray _) _]) _ _ _); k_dflt (refine' len_by ?z ?_; (case z => walk_at "my size"))))
local macro_rules | `(tactic| walk_at "call builtin:len") => `(tactic| (k_here; (with_reducible show wpAny _ _ (call (Value.builtin "len") [Value.ref _]) _ _ _); k_dflt (refine' len_baN (xs := _) ?n ?m ?z ?_; (case n => k_asm); (case m => k_mem); (case z => walk_at "my size"))))
local macro_rules | `(tactic| walk_at "call builtin:max") => `(tactic| (k_here; (with_reducible show wpAny _ _ (call (Value.builtin "max") [Value.int _ _, Value.int _ _]) _ _ _); k_dflt (refine' max_nat ?k1 ?k2 ?k3 ?_; (case k1 => exact rfl); (case k2 => k_asm); (case k3 => k_asm)); intro h' tk' t' F' N'))
local macro_rules | `(tactic| walk_at "exec Raise some none") => `(tactic| (k_here; (with_reducible show wpAny _ _ (exec (Stmt.Raise (some (Expr.Name _ _)) none _) _) _ _ _); k_dflt (refine' raise_ownK (bmB := [.type "Exception", .type "BaseException", .type "object"]) (newId := "Exception.__new__") ?F ?X ?T ?ex ?q PySem.F.excBase_Exception ?h ?_; (case F => k_asm); (case X => k_asm); (case T => k_asm); (case ex => k_is); (case q => k_exc); (case h => rfl))))
local macro_rules | `(tactic| walk_at "leaving ref") => `(tactic| (k_here; refine stop_of ?_))
local macro_rules | `(tactic| walk_at "truthy bytes") => `(tactic| (k_here; (with_reducible show wpAny _ _ (truthy (Value.bytes (List.toArray _) _)) _ _ _); k_dflt (refine' truthy_by ?z ?_; (case z => walk_at "my size")); (try simp only [List.isEmpty_cons, List.isEmpty_nil, Bool.not_false, Bool.not_true])))
local macro_rules | `(tactic| walk_at "my cut") => `(tactic| first | exact cut_upto _ _ | exact cut_from _ _ | exact cut_run' _ _ _)
local macro_rules | `(tactic| walk_at "subscriptTail") => `(tactic| (k_here; (with_reducible show wpAny _ _ (subscriptTail _ (Expr.Slice _ _ none _) (Value.ref _) (Value.ref _)) _ _ _); (with_reducible rename Fr _ _ _ _ => myF); (with_reducible rename News _ _ _ _ => myN); k_dflt (refine' ba_slice (s := ⟨_, _, _, _, _⟩) myF myN ?m ?l ?u ?z ?e ?_; (case m => k_mem); (case l => constructor); (case u => constructor); (case z => walk_at "my size"); (case e => walk_at "my cut")); clear myF myN; intro D' h' F' N' l1; (try k_lt l1); (try k_sweep)))
local macro_rules | `(tactic| walk_at "call type:bytes") => `(tactic| (k_here; (with_reducible show wpAny _ _ (call (Value.type "bytes") [Value.ref _]) _ _ _); k_dflt (refine' bytes_of_baN (xs := _) ?n ?m ?z ?_; (case n => k_asm); (case m => k_mem); (case z => walk_at "my size"))))
local macro_rules | `(tactic| walk_at "call ref") => `(tactic| (k_here; (with_reducible show wpAny _ _ (call (Value.ref 478) [_, Value.bytes (byteArr _) _] _) _ _ _); refine stop_of ?_))
local macro_rules | `(tactic| walk_at "subscriptTail") => `(tactic| (k_here; (with_reducible show wpAny _ _ (subscriptTail _ (Expr.Slice _ _ none _) (Value.bytes (List.toArray _) _) (Value.ref _)) _ _ _); (with_reducible rename Fr _ _ _ _ => myF); (with_reducible rename News _ _ _ _ => myN); k_dflt (refine' by_slice (s := ⟨_, _, _, _, _⟩) myF myN ?l ?u ?z ?e ?_; (case l => constructor); (case u => constructor); (case z => walk_at "my size"); (case e => walk_at "my cut")); clear myF myN; intro h' t' tk' F' N'; (try k_sweep)))
local macro_rules | `(tactic| walk_at "compareOp Eq bytes bytes") => `(tactic| (k_here; (with_reducible show wpAny _ _ (compareOp CmpOp.Eq (Value.bytes (List.toArray _) _) (Value.bytes (List.toArray _) _)) _ _ _); k_dflt (refine' eq_by ?_)))
local macro_rules | `(tactic| walk_at "binaryOp Add ref ref") => `(tactic| (k_here; (with_reducible show wpAny _ _ (binaryOp _ (Value.ref _) (Value.ref _)) _ _ _); k_dflt (refine' kmk_add_lit ?F ?N ?a ?b ?e ?_ ?z; (case F => k_asm); (case N => k_asm); (case a => kmk_list); (case b => kmk_list); (case e => exact cat1 _ _); (case z => walk_at "my size")); intro D' h' F' N' l1; (try k_lt l1); (try k_sweep)))
local macro_rules | `(tactic| walk_at "call ref") => `(tactic| (k_here; (with_reducible show wpAny _ _ (call (Value.ref 499) _ _) _ _ _); refine stop_of ?_))
local macro_rules | `(tactic| walk_at "call builtin:list.append") => `(tactic| (k_here; (with_reducible show wpAny _ _ (call (Value.builtin _) [Value.ref _, _]) _ _ _); k_dflt (refine' append_K ?k1 ?k2 ?k3 ?_ ?z; (case k1 => k_asm); (case k2 => k_asm); (case k3 => k_upd); (case z => walk_at "my size"); k_whole); intro h' F' N'; (try k_sweep)))
local macro_rules | `(tactic| boot_fact) => `(tactic| with_reducible exact boot_bytearray)
local macro_rules | `(tactic| walk_at "call builtin:isinstance") => `(tactic| (k_here; (with_reducible show wpAny _ _ (call (Value.builtin "isinstance") [Value.ref _, Value.type "bytearray"]) _ _ _); k_dflt (refine' isi_baN (xs := _) ?n ?m ?_; (case n => k_asm); (case m => k_mem))))
theorem T_deed3 {prog : Program} {w : World} {A₀ : Around} {base h₀ : Heap} {L : Addr} {m : Str → Option Value} {mg mb : Str → Option Value} {p : Program} {loose : List Str} {mean : ExcName → Option Value} {env : Env} {outer : List Env} {s : Shared} {Q E : Value → Shared → Prop}
    {H dH PL PA U dU Bf S W SA : Addr} {t1 t2 ti tc tm tr ts gt tt pt rt st : Tok} {τ : Nat → Tok} {v : Nat → Value} {nd nw na n7 nww naa : Nat} {wh ah ww aa : List Value} {ns : List Int} {ps : List (List UInt8)} {got : List UInt8} {told place off room rs j way : Nat} {rest : Int} {kt tw : Tok}
    (B : Below A₀ base outer h₀) (F : Fr h₀ L s.heap m) (X : (MineHead.hd.heap_39 w.params).In h₀) (T : Top p loose mean mg mb h₀) (XB : (MineHead.hd.heap_39 w.params).In base) (TB : Top p loose mean mg mb base) (D : KtsDicts (outer.filterMap (·.frame)) h₀) (hf : env.frame = some L) (hke : env.scope.kind = .function)
    (N : News h₀ L s.heap [(H, instObj 481 dH), (dH, dictOf (parD w t1 t2 PL PA) nd), (PL, listOf (List.toArray wh) nw), (PA, listOf (List.toArray ah) na), (U, instObj 445 dU), (dU, dictOf (unpD w τ v H Bf (place - off) ti (told - off) tc room tm rs tr told ts) 22), (Bf, baObj (got.drop off)), (S, listOf #[.bytes (List.toArray got) gt, .int (told : Int) tt, .int (place : Int) pt, .int (room : Int) rt, .ref W, .ref SA, .int (rs : Int) st] n7), (W, listOf (List.toArray ww) nww), (SA, listOf (List.toArray aa) naa)])
    (hd : List.Nodup ([H, dH, PL, PA, U, dU, Bf, S, W, SA] : List Nat)) (hw : BAre wh ps) (hw2 : BAre ww ps) (has : IntsAre ah ns) (has2 : IntsAre aa ns) (I : Inv j got told place off ps ns) (hj : j ≤ 40) (hrs : 1 ≤ rs) (hway : way = 3)
    (hq : ∀ got' told' place' off' ps' ns' h₀' h' tk' wh' ah' ww' aa' W' nd' nw' na' n7' nww' naa' ti' tc' ts' gt' tt' pt', Inv (j + 1) got' told' place' off' ps' ns' → KtsTurn (outer.filterMap (·.frame)) h₀ h₀' → OnlyF [H, dH, PL, PA, U, dU, Bf, S, W, SA] ((env :: outer).filterMap (·.frame)) s.heap h' → Fr h₀' L h' m →
      News h₀' L h' [(H, instObj 481 dH), (dH, dictOf (parD w t1 t2 PL PA) nd'), (PL, listOf (List.toArray wh') nw'), (PA, listOf (List.toArray ah') na'), (U, instObj 445 dU), (dU, dictOf (unpD w τ v H Bf (place' - off') ti' (told' - off') tc' room tm rs tr told' ts') 22), (Bf, baObj (got'.drop off')), (S, listOf #[.bytes (List.toArray got') gt', .int (told' : Int) tt', .int (place' : Int) pt', .int (room : Int) rt, .ref W', .ref SA, .int (rs : Int) st] n7'), (W', listOf (List.toArray ww') nww'), (SA, listOf (List.toArray aa') naa')] → List.Nodup ([H, dH, PL, PA, U, dU, Bf, S, W', SA] : List Nat) →
      BAre wh' ps' → BAre ww' ps' → IntsAre ah' ns' → IntsAre aa' ns' → Below A₀ base outer h₀' → (MineHead.hd.heap_39 w.params).In h₀' → Top p loose mean mg mb h₀' → KtsDicts (outer.filterMap (·.frame)) h₀' → Q (.bool true) { s with heap := h', toks := tk' }) :
    wpO (model prog w) (AA 380 800 env outer) (call (.ref 511) [.ref U, .ref H, .ref S, .int (way : Int) tw, .int rest kt]) Q E s := by
  have hd' := hd
  simp only [List.nodup_cons, List.mem_cons, List.not_mem_nil, or_false, not_or, List.nodup_nil, and_true, not_false_eq_true] at hd'
  obtain ⟨⟨q1, q2, q3, q4, q5, q6, q22, q23, q24⟩, ⟨q7, q8, q9, q10, q11, q25, q26, q27⟩, ⟨q12, q13, q14, q15, q28, q29, q30⟩, ⟨q16, q17, q18, q31, q32, q33⟩, ⟨q19, q20, q34, q35, q36⟩, ⟨q21, q37, q38, q39⟩, ⟨q40, q41, q42⟩, ⟨q43, q44⟩, q45⟩ := hd'
  have hI1 := I.h1
  have hI2 := I.h2
  have hI3 := I.h3
  have hIz := I.z1
  have hI4 := I.z2
  have hI5 := I.z4
  have hwl := hw.length
  have hwl2 := hw2.length
  refine wpO_call ?_
  k_dflt (refine' codeO_defTC ?k1 ?k2 ?k3 ?k4 ?k5 ?XB ?TB ?D ?kA ?kF ?kK ?k6 ?k7 ?k8 ?k9 ?kB ?kD ?_ ?c2 ?c3 ?c4; (case kA => exact rfl); (case kF => exact hf); (case kK => exact hke); (case k1 => k_asm); (case k2 => k_asm); (case k3 => k_asm); (case k4 => k_asm); (case k5 => k_asm); (case XB => exact XB); (case TB => exact TB); (case D => exact D); (case k6 => k_is); (case k7 => k_is); (case k8 => exact Nat.le_of_ble_eq_true rfl); (case k9 => exact BindsTo.of_eq (binds := [(Str.ofString "used", .ref U), (Str.ofString "held", .ref H), (Str.ofString "state", .ref S), (Str.ofString "way", .int (way : Int) tw), (Str.ofString "rest", .int rest kt)]) (by with_unfolding_all rfl)); (case kB => exact rfl); (case kD => decide +kernel); (case c2 => exact rfl); (case c3 => exact rfl); (case c4 => exact rfl))
  intro g' L' h' tk' cells' FG' F' N' Y' B' X' T' D' hlt hO
  k_cells Y'
  (try simp only [List.cons_append, List.nil_append] at N')
  dsimp only
  k_lt hlt
  refine wpO_leaf ?_
  k_steps
  (with_reducible rename Fr g' L' _ _ => F1)
  (with_reducible rename News g' L' _ _ => N1)
  dsimp only at F1 N1
  refine wpO_tok (g := s.gens) (d := s.drawn) (o := s.os) F1 rfl rfl rfl rfl (fun tk1 => ?_)
  obtain ⟨n, hn, hn7⟩ : ∃ n : Nat, rest.fmod 8 = (n : Int) ∧ n ≤ 7 := ⟨(rest.fmod 8).toNat, by have := Int.fmod_nonneg_of_pos rest (show (0 : Int) < 8 by omega); omega, by have := Int.fmod_lt_of_pos rest (show (0 : Int) < 8 by omega); omega⟩
  rw [hn] at F1
  subst hway
  · refine wpO_leaf ?_
    k_steps
    refine wpO_execs_cons (wpO_IfLeaf ?_)
    k_steps
    refine wpO_leaf ?_
    k_steps
    refine go_of ?_
    refine wpAny_upto (d := 405) (u := 1050) (env := envOfC _ _ _ _ _) ⟨rfl, Nat.le_of_ble_eq_true rfl, rfl, Nat.le_of_ble_eq_true rfl⟩ (L_lack (need := n) (insists := false) (S := S) (W := W) (SA := SA) (ps := ps) (ns := ns) (got := got) (told := told) (place := place) (room := room) (rs := rs) B' F1 X' T' rfl rfl (fun q hq => N1 q (List.mem_append_right [_, _, _, _, _, _, _, _] hq)) hw2 has2 q43 q44 q45 (by omega) (by omega) (fun b hb => Nat.le_trans (I.z3 b hb) (by omega)) (by omega) (by omega) (by omega) hrs hI2 hI3 ?hq1)
    case hq1 =>
      intro h2 tk2 wt gt2 pt2 W2 n2 nw2 na2 ws2 as2 O2 F2 N2 hw2' ha2' hW2
      obtain ⟨off2, o1, o2, o3, hR⟩ := sync (rs := rs) (room := room) (n := n) (ps := ps) (ins := false) hI1 hI2 hI3
      have y1 := @lackR_sum rs room got told place ps n false
      have y2 := @lackR_len rs room got told place ps n false
      have y3 := @lackR_mem rs room got told place ps n false 4 I.z3
      have y4 := @lackR_asks rs room got told place ps n false hI3
      have y5 := @lackR_word rs room got told place ps n false
      obtain ⟨⟨wd, got2, place2, ps2, az⟩, hL⟩ : ∃ R, lackR rs room got told place ps n false = R := ⟨_, rfl⟩
      rw [hL] at N2 hw2' ha2' o2 o3 hR y1 y2 y3 y4 y5 ⊢
      dsimp only at N2 hw2' ha2' o2 o3 hR y1 y2 y3 y4 y5
      have I2 : Inv (j + 1) got2 told place2 off2 ps2 (ns ++ az) := ⟨o1, o2, o3, by omega, by omega, y3, by rw [List.length_append]; omega⟩
      have w1 := new_ne hW2 (N1 _ (.tail _ (.head _))).1 q23
      have w2 := new_ne hW2 (N1 _ (.tail _ (.tail _ (.head _)))).1 q26
      have w3 := new_ne hW2 (N1 _ (.tail _ (.tail _ (.tail _ (.head _))))).1 q29
      have w4 := new_ne hW2 (N1 _ (.tail _ (.tail _ (.tail _ (.tail _ (.head _)))))).1 q32
      have w5 := new_ne hW2 (N1 _ (.tail _ (.tail _ (.tail _ (.tail _ (.tail _ (.head _))))))).1 q35
      have w6 := new_ne hW2 (N1 _ (.tail _ (.tail _ (.tail _ (.tail _ (.tail _ (.tail _ (.head _)))))))).1 q38
      have w7 := new_ne hW2 (N1 _ (.tail _ (.tail _ (.tail _ (.tail _ (.tail _ (.tail _ (.tail _ (.head _))))))))).1 q41
      have w8 := new_ne hW2 (N1 _ (.tail _ (.tail _ (.tail _ (.tail _ (.tail _ (.tail _ (.tail _ (.tail _ (.head _)))))))))).1 q43
      have w9 : @Ne Nat W2 SA := fun e => (new_ne hW2 (N1 _ (.tail _ (.tail _ (.tail _ (.tail _ (.tail _ (.tail _ (.tail _ (.tail _ (.tail _ (.tail _ (.head _)))))))))))).1 (fun e => q45 e.symm)) e.symm
      have w0 := new_ne hW2 (N1 _ (.head _)).1 (by omega)
      have N8 := O2.news (News.take8 N1) (fun q hq hm => by
        simp only [List.mem_cons, List.not_mem_nil, or_false] at hq hm
        have z0 : @Ne Nat (L' + 1) S := by omega
        have z1 : @Ne Nat (L' + 1) W := by omega
        have z2 : @Ne Nat (L' + 1) SA := by omega
        rcases hq with rfl | rfl | rfl | rfl | rfl | rfl | rfl | rfl <;> rcases hm with e | e | e <;> first | exact z0 e | exact z1 e | exact z2 e | exact q22 e | exact q23 e | exact q24 e | exact q25 e | exact q26 e | exact q27 e | exact q28 e | exact q29 e | exact q30 e | exact q31 e | exact q32 e | exact q33 e | exact q34 e | exact q35 e | exact q36 e | exact q37 e | exact q38 e | exact q39 e | exact q40 e | exact q41 e | exact q42 e)
      have N9 := News.append N8 N2
      simp only [List.cons_append, List.nil_append] at N9
      clear N1 F1 N2 N8
      k_steps
      (with_reducible rename Fr g' L' _ _ => F3)
      (with_reducible rename News g' L' _ _ => N3)
      (try dsimp only at F3 N3)
      refine wpO_tok (g := s.gens) (d := s.drawn) (o := s.os) F3 rfl rfl rfl rfl (fun tk3 => ?_)
      refine wpO_execs_cons (wpO_Assign_Name (wpO_Call ?_))
      k_steps
      refine wpO_callWith_K X' (by k_dflt k_is) ?_
      k_steps
      refine wpO_upto (d := 385) (u := 850) (env := envOfC _ _ _ _ _) ⟨rfl, Nat.le_of_ble_eq_true rfl, rfl, Nat.le_of_ble_eq_true rfl⟩ (T_try (way := 3) (n := n) (ps := ps) (ns := ns) B' F3 X' T' XB TB D' rfl rfl (News.take7 (News.tail N3)) (nodup7 hd) hw has (by omega) (by omega) (fun b hb => Nat.le_trans (I.z3 b hb) (by omega)) (by rw [List.length_drop]; omega) (by omega) (by rw [List.length_drop]; omega) hrs (by omega) (by rw [List.length_drop]; omega) (by omega) ?hqO ?hqK ?hqP ?hqX)
      case hqK => intro e; exact absurd e (by omega)
      case hqP => intro e; exact absurd e (by omega)
      case hqO =>
        simp only [show decide ((3 : Nat) < 3) = false from rfl]
        rw [hR]
        intro _ Tp g2 h4 tk4 t4 Dr hDr ti4 tc4 nd4 nw4 na4 ws4 as4 hwd T0 O4 F4 hTp N4 hw4 ha4 B4 X4 P4 D4
        dsimp only at hwd N4 hw4 ha4
        obtain rfl : wd = 0 := hwd
        have NB := O4.news (News.cons (News.one N3) (News.drop7 (News.tail N3))) (fun q hq hm => by
          simp only [List.mem_cons, List.not_mem_nil, or_false] at hq hm
          have z1 : @Ne Nat (L' + 1) H := by omega
          have z2 : @Ne Nat (L' + 1) dH := by omega
          have z3 : @Ne Nat (L' + 1) PL := by omega
          have z4 : @Ne Nat (L' + 1) PA := by omega
          have z5 : @Ne Nat (L' + 1) U := by omega
          have z6 : @Ne Nat (L' + 1) dU := by omega
          have z7 : @Ne Nat (L' + 1) Bf := by omega
          rcases hq with rfl | rfl | rfl | rfl <;> rcases hm with e | e | e | e | e | e | e <;> first | exact z1 e | exact z2 e | exact z3 e | exact z4 e | exact z5 e | exact z6 e | exact z7 e | exact q22 e.symm | exact q25 e.symm | exact q28 e.symm | exact q31 e.symm | exact q34 e.symm | exact q37 e.symm | exact q40 e.symm | exact w1 e.symm | exact w2 e.symm | exact w3 e.symm | exact w4 e.symm | exact w5 e.symm | exact w6 e.symm | exact w7 e.symm | exact q24 e.symm | exact q27 e.symm | exact q30 e.symm | exact q33 e.symm | exact q36 e.symm | exact q39 e.symm | exact q42 e.symm) (news_frames B' (News.cons (News.one N3) (News.drop7 (News.tail N3))) rfl) T0
        have f0 := ne_none (N3 _ (.head _)).1 hTp
        have f1 := ne_none (N3 _ (.tail _ (.head _))).1 hTp
        have f2 := ne_none (N3 _ (.tail _ (.tail _ (.head _)))).1 hTp
        have f3 := ne_none (N3 _ (.tail _ (.tail _ (.tail _ (.head _))))).1 hTp
        have f4 := ne_none (N3 _ (.tail _ (.tail _ (.tail _ (.tail _ (.head _)))))).1 hTp
        have f5 := ne_none (N3 _ (.tail _ (.tail _ (.tail _ (.tail _ (.tail _ (.head _))))))).1 hTp
        have f6 := ne_none (N3 _ (.tail _ (.tail _ (.tail _ (.tail _ (.tail _ (.tail _ (.head _)))))))).1 hTp
        have f7 := ne_none (N3 _ (.tail _ (.tail _ (.tail _ (.tail _ (.tail _ (.tail _ (.tail _ (.head _))))))))).1 hTp
        have f8 := ne_none (N3 _ (.tail _ (.tail _ (.tail _ (.tail _ (.tail _ (.tail _ (.tail _ (.tail _ (.head _)))))))))).1 hTp
        have f9 := ne_none (N3 _ (.tail _ (.tail _ (.tail _ (.tail _ (.tail _ (.tail _ (.tail _ (.tail _ (.tail _ (.head _))))))))))).1 hTp
        have f10 := ne_none (N3 _ (.tail _ (.tail _ (.tail _ (.tail _ (.tail _ (.tail _ (.tail _ (.tail _ (.tail _ (.tail _ (.head _)))))))))))).1 hTp
        have e0 := ne_none (N3 _ (.head _)).1 hDr
        have e1 := ne_none (N3 _ (.tail _ (.head _))).1 hDr
        have e2 := ne_none (N3 _ (.tail _ (.tail _ (.head _)))).1 hDr
        have e3 := ne_none (N3 _ (.tail _ (.tail _ (.tail _ (.head _))))).1 hDr
        have e4 := ne_none (N3 _ (.tail _ (.tail _ (.tail _ (.tail _ (.head _)))))).1 hDr
        have e5 := ne_none (N3 _ (.tail _ (.tail _ (.tail _ (.tail _ (.tail _ (.head _))))))).1 hDr
        have e6 := ne_none (N3 _ (.tail _ (.tail _ (.tail _ (.tail _ (.tail _ (.tail _ (.head _)))))))).1 hDr
        have e7 := ne_none (N3 _ (.tail _ (.tail _ (.tail _ (.tail _ (.tail _ (.tail _ (.tail _ (.head _))))))))).1 hDr
        have e8 := ne_none (N3 _ (.tail _ (.tail _ (.tail _ (.tail _ (.tail _ (.tail _ (.tail _ (.tail _ (.head _)))))))))).1 hDr
        have e9 := ne_none (N3 _ (.tail _ (.tail _ (.tail _ (.tail _ (.tail _ (.tail _ (.tail _ (.tail _ (.tail _ (.head _))))))))))).1 hDr
        have e10 := ne_none (N3 _ (.tail _ (.tail _ (.tail _ (.tail _ (.tail _ (.tail _ (.tail _ (.tail _ (.tail _ (.tail _ (.head _)))))))))))).1 hDr
        have e12 : @Ne Nat Tp Dr := fun e => by have e : Tp = Dr := e; have := (N4 _ (.head _)).1.symm.trans (e ▸ (N4 _ (.tail _ (.tail _ (.tail _ (.tail _ (.tail _ (.tail _ (.tail _ (.tail _ (.head _)))))))))).1); exact (nomatch (congrArg Obj.data (Option.some.inj this)))
        have NC := News.append N4 NB
        simp only [List.cons_append, List.nil_append] at NC
        clear N4 NB N3 F3
        simp only [word] at F4
        k_steps
        refine wpO.of ?_
        k_steps
        (with_reducible rename Fr g2 L' _ _ => gF)
        (with_reducible rename News g2 L' _ _ => gN)
        refine ⟨_, _, _, _, T0, gF, gN, fun h₀' T1 kF kN kB kX kT kD => ?_⟩
        rw [show List.drop (place2 - off2) (List.drop off2 got2) = List.drop place2 got2 from by rw [List.drop_drop]; congr 1; omega, show place2 - off2 + ((got2.drop place2).take n).length = place2 + ((got2.drop place2).take n).length - off2 from by omega, ← Int.natCast_add place2 ((got2.drop place2).take n).length] at kN
        rw [show List.drop (place2 - off2) (List.drop off2 got2) = List.drop place2 got2 from by rw [List.drop_drop]; congr 1; omega, beq_self_eq_true]
        refine' hq got2 told (place2 + ((got2.drop place2).take n).length) off2 ps2 (ns ++ az) h₀' _ _ ws4 as4 ws2 as2 W2 _ _ _ _ _ _ _ _ _ _ _ _ I2.moved T1 (fun b o nb nf e => gF.keep b o (T0.other b o (hO b o nb e) nf)) kF (fun q hq => ?n21) (nodup_new hd w1 w2 w3 w4 w5 w6 w7 w8 w9) hw4 hw2' ha4 ha2' kB kX kT kD
        case n21 =>
          simp only [List.mem_cons, List.not_mem_nil, or_false] at hq
          rcases hq with rfl | rfl | rfl | rfl | rfl | rfl | rfl | rfl | rfl | rfl
          · have k6 := kN _ (.tail _ (.head _))
            exact k6
          · have k6 := kN _ (.tail _ (.tail _ (.head _)))
            exact k6
          · have k6 := kN _ (.tail _ (.tail _ (.tail _ (.head _))))
            exact k6
          · have k6 := kN _ (.tail _ (.tail _ (.tail _ (.tail _ (.head _)))))
            exact k6
          · have k6 := kN _ (.tail _ (.tail _ (.tail _ (.tail _ (.tail _ (.head _))))))
            exact k6
          · have k6 := kN _ (.tail _ (.tail _ (.tail _ (.tail _ (.tail _ (.tail _ (.head _)))))))
            exact k6
          · have k6 := kN _ (.tail _ (.tail _ (.tail _ (.tail _ (.tail _ (.tail _ (.tail _ (.head _))))))))
            exact k6
          · have k6 := kN _ (.tail _ (.tail _ (.tail _ (.tail _ (.tail _ (.tail _ (.tail _ (.tail _ (.tail _ (.tail _ (.head _)))))))))))
            exact k6
          · have k6 := kN _ (.tail _ (.tail _ (.tail _ (.tail _ (.tail _ (.tail _ (.tail _ (.tail _ (.tail _ (.tail _ (.tail _ (.head _))))))))))))
            exact k6
          · have k6 := kN _ (.tail _ (.tail _ (.tail _ (.tail _ (.tail _ (.tail _ (.tail _ (.tail _ (.tail _ (.tail _ (.tail _ (.tail _ (.head _)))))))))))))
            exact k6
      case hqX =>
        simp only [show decide ((3 : Nat) < 3) = false from rfl]
        rw [hR]
        intro hwd Tp g2 h4 tk4 t4 ti4 tc4 nd4 nw4 na4 ws4 as4 T0 O4 F4 hTp N4 hw4 ha4 B4 X4 P4 D4
        dsimp only at hwd N4 hw4 ha4
        have NB := O4.news (News.cons (News.one N3) (News.drop7 (News.tail N3))) (fun q hq hm => by
          simp only [List.mem_cons, List.not_mem_nil, or_false] at hq hm
          have z1 : @Ne Nat (L' + 1) H := by omega
          have z2 : @Ne Nat (L' + 1) dH := by omega
          have z3 : @Ne Nat (L' + 1) PL := by omega
          have z4 : @Ne Nat (L' + 1) PA := by omega
          have z5 : @Ne Nat (L' + 1) U := by omega
          have z6 : @Ne Nat (L' + 1) dU := by omega
          have z7 : @Ne Nat (L' + 1) Bf := by omega
          rcases hq with rfl | rfl | rfl | rfl <;> rcases hm with e | e | e | e | e | e | e <;> first | exact z1 e | exact z2 e | exact z3 e | exact z4 e | exact z5 e | exact z6 e | exact z7 e | exact q22 e.symm | exact q25 e.symm | exact q28 e.symm | exact q31 e.symm | exact q34 e.symm | exact q37 e.symm | exact q40 e.symm | exact w1 e.symm | exact w2 e.symm | exact w3 e.symm | exact w4 e.symm | exact w5 e.symm | exact w6 e.symm | exact w7 e.symm | exact q24 e.symm | exact q27 e.symm | exact q30 e.symm | exact q33 e.symm | exact q36 e.symm | exact q39 e.symm | exact q42 e.symm) (news_frames B' (News.cons (News.one N3) (News.drop7 (News.tail N3))) rfl) T0
        have f0 := ne_none (N3 _ (.head _)).1 hTp
        have f1 := ne_none (N3 _ (.tail _ (.head _))).1 hTp
        have f2 := ne_none (N3 _ (.tail _ (.tail _ (.head _)))).1 hTp
        have f3 := ne_none (N3 _ (.tail _ (.tail _ (.tail _ (.head _))))).1 hTp
        have f4 := ne_none (N3 _ (.tail _ (.tail _ (.tail _ (.tail _ (.head _)))))).1 hTp
        have f5 := ne_none (N3 _ (.tail _ (.tail _ (.tail _ (.tail _ (.tail _ (.head _))))))).1 hTp
        have f6 := ne_none (N3 _ (.tail _ (.tail _ (.tail _ (.tail _ (.tail _ (.tail _ (.head _)))))))).1 hTp
        have f7 := ne_none (N3 _ (.tail _ (.tail _ (.tail _ (.tail _ (.tail _ (.tail _ (.tail _ (.head _))))))))).1 hTp
        have f8 := ne_none (N3 _ (.tail _ (.tail _ (.tail _ (.tail _ (.tail _ (.tail _ (.tail _ (.tail _ (.head _)))))))))).1 hTp
        have f9 := ne_none (N3 _ (.tail _ (.tail _ (.tail _ (.tail _ (.tail _ (.tail _ (.tail _ (.tail _ (.tail _ (.head _))))))))))).1 hTp
        have f10 := ne_none (N3 _ (.tail _ (.tail _ (.tail _ (.tail _ (.tail _ (.tail _ (.tail _ (.tail _ (.tail _ (.tail _ (.head _)))))))))))).1 hTp
        have NC := News.append N4 NB
        simp only [List.cons_append, List.nil_append] at NC
        clear N4 NB N3 F3
        obtain rfl | rfl : wd = 1 ∨ wd = 2 := hwd
        · simp only [word] at F4 NC
          k_steps
          refine wpO.of ?_
          k_steps
          (with_reducible rename Fr g2 L' _ _ => gF)
          (with_reducible rename News g2 L' _ _ => gN)
          refine ⟨_, _, _, _, T0, gF, gN, fun h₀' T1 kF kN kB kX kT kD => ?_⟩
          refine' hq got2 told place2 off2 ps2 (ns ++ az) h₀' _ _ ws4 as4 ws2 as2 W2 _ _ _ _ _ _ _ _ _ _ _ _ I2 T1 (fun b o nb nf e => gF.keep b o (T0.other b o (hO b o nb e) nf)) kF (fun q hq => ?n28) (nodup_new hd w1 w2 w3 w4 w5 w6 w7 w8 w9) hw4 hw2' ha4 ha2' kB kX kT kD
          case n28 =>
            simp only [List.mem_cons, List.not_mem_nil, or_false] at hq
            rcases hq with rfl | rfl | rfl | rfl | rfl | rfl | rfl | rfl | rfl | rfl
            · have k6 := kN _ (.tail _ (.tail _ (.head _)))
              exact k6
            · have k6 := kN _ (.tail _ (.tail _ (.tail _ (.head _))))
              exact k6
            · have k6 := kN _ (.tail _ (.tail _ (.tail _ (.tail _ (.head _)))))
              exact k6
            · have k6 := kN _ (.tail _ (.tail _ (.tail _ (.tail _ (.tail _ (.head _))))))
              exact k6
            · have k6 := kN _ (.tail _ (.tail _ (.tail _ (.tail _ (.tail _ (.tail _ (.head _)))))))
              exact k6
            · have k6 := kN _ (.tail _ (.tail _ (.tail _ (.tail _ (.tail _ (.tail _ (.tail _ (.head _))))))))
              exact k6
            · have k6 := kN _ (.tail _ (.tail _ (.tail _ (.tail _ (.tail _ (.tail _ (.tail _ (.tail _ (.head _)))))))))
              exact k6
            · have k6 := kN _ (.tail _ (.tail _ (.tail _ (.tail _ (.tail _ (.tail _ (.tail _ (.tail _ (.tail _ (.tail _ (.head _)))))))))))
              exact k6
            · have k6 := kN _ (.tail _ (.tail _ (.tail _ (.tail _ (.tail _ (.tail _ (.tail _ (.tail _ (.tail _ (.tail _ (.tail _ (.head _))))))))))))
              exact k6
            · have k6 := kN _ (.tail _ (.tail _ (.tail _ (.tail _ (.tail _ (.tail _ (.tail _ (.tail _ (.tail _ (.tail _ (.tail _ (.tail _ (.head _)))))))))))))
              exact k6
        · simp only [word] at F4 NC
          k_steps
          refine wpO.of ?_
          k_steps
          (with_reducible rename Fr g2 L' _ _ => gF)
          (with_reducible rename News g2 L' _ _ => gN)
          refine ⟨_, _, _, _, T0, gF, gN, fun h₀' T1 kF kN kB kX kT kD => ?_⟩
          refine' hq got2 told place2 off2 ps2 (ns ++ az) h₀' _ _ ws4 as4 ws2 as2 W2 _ _ _ _ _ _ _ _ _ _ _ _ I2 T1 (fun b o nb nf e => gF.keep b o (T0.other b o (hO b o nb e) nf)) kF (fun q hq => ?n29) (nodup_new hd w1 w2 w3 w4 w5 w6 w7 w8 w9) hw4 hw2' ha4 ha2' kB kX kT kD
          case n29 =>
            simp only [List.mem_cons, List.not_mem_nil, or_false] at hq
            rcases hq with rfl | rfl | rfl | rfl | rfl | rfl | rfl | rfl | rfl | rfl
            · have k6 := kN _ (.tail _ (.tail _ (.head _)))
              exact k6
            · have k6 := kN _ (.tail _ (.tail _ (.tail _ (.head _))))
              exact k6
            · have k6 := kN _ (.tail _ (.tail _ (.tail _ (.tail _ (.head _)))))
              exact k6
            · have k6 := kN _ (.tail _ (.tail _ (.tail _ (.tail _ (.tail _ (.head _))))))
              exact k6
            · have k6 := kN _ (.tail _ (.tail _ (.tail _ (.tail _ (.tail _ (.tail _ (.head _)))))))
              exact k6
            · have k6 := kN _ (.tail _ (.tail _ (.tail _ (.tail _ (.tail _ (.tail _ (.tail _ (.head _))))))))
              exact k6
            · have k6 := kN _ (.tail _ (.tail _ (.tail _ (.tail _ (.tail _ (.tail _ (.tail _ (.tail _ (.head _)))))))))
              exact k6
            · have k6 := kN _ (.tail _ (.tail _ (.tail _ (.tail _ (.tail _ (.tail _ (.tail _ (.tail _ (.tail _ (.tail _ (.head _)))))))))))
              exact k6
            · have k6 := kN _ (.tail _ (.tail _ (.tail _ (.tail _ (.tail _ (.tail _ (.tail _ (.tail _ (.tail _ (.tail _ (.tail _ (.head _))))))))))))
              exact k6
            · have k6 := kN _ (.tail _ (.tail _ (.tail _ (.tail _ (.tail _ (.tail _ (.tail _ (.tail _ (.tail _ (.tail _ (.tail _ (.tail _ (.head _)))))))))))))
              exact k6
end Mine
namespace Mine
open PySem PySem.W PySem.Calls PyProof.Rows
theorem wt_D4 : True := by
  w_top off
  trivial
local macro_rules | `(tactic| k_ne) => `(tactic| (refine neN ?_; (try dsimp only); first | assumption | (refine Ne.symm ?_; assumption) | omega))
local macro_rules | `(tactic| k_room) => `(tactic| exact Nat.le_of_ble_eq_true rfl)
local macro_rules | `(tactic| walk_at "my size") => `(tactic| ((try simp only [List.length_cons, List.length_nil, List.length_append, List.size_toArray, List.length_take, List.length_drop]); rw [sizeLine_eq]; omega))
local macro_rules | `(tactic| walk_at "call builtin:len") => `(tactic| (k_here; (with_reducible show wpAny _ _ (call (Value.builtin "len") [Value.bytes (List.toArray _) _]) _ _ _); k_dflt (refine' len_by ?z ?_; (case z => walk_at "my size"))))
local macro_rules | `(tactic| walk_at "call builtin:len") => `(tactic| (k_here; (with_reducible show wpAny _ _ (call (Value.builtin "len") [Value.ref _]) _ _ _); k_dflt (refine' len_baN (xs := _) ?n ?m ?z ?_; (case n => k_asm); (case m => k_mem); (case z => walk_at "my size"))))
local macro_rules | `(tactic| walk_at "call builtin:max") => `(tactic| (k_here; (with_reducible show wpAny _ _ (call (Value.builtin "max") [Value.int _ _, Value.int _ _]) _ _ _); k_dflt (refine' max_nat ?k1 ?k2 ?k3 ?_; (case k1 => exact rfl); (case k2 => k_asm); (case k3 => k_asm)); intro h' tk' t' F' N'))
local macro_rules | `(tactic| walk_at "exec Raise some none") => `(tactic| (k_here; (with_reducible show wpAny _ _ (exec (Stmt.Raise (some (Expr.Name _ _)) none _) _) _ _ _); k_dflt (refine' raise_ownK (bmB := [.type "Exception", .type "BaseException", .type "object"]) (newId := "Exception.__new__") ?F ?X ?T ?ex ?q PySem.F.excBase_Exception ?h ?_; (case F => k_asm); (case X => k_asm); (case T => k_asm); (case ex => k_is); (case q => k_exc); (case h => rfl))))
local macro_rules | `(tactic| walk_at "leaving ref") => `(tactic| (k_here; refine stop_of ?_))
local macro_rules | `(tactic| walk_at "truthy bytes") => `(tactic| (k_here; (with_reducible show wpAny _ _ (truthy (Value.bytes (List.toArray _) _)) _ _ _); k_dflt (refine' truthy_by ?z ?_; (case z => walk_at "my size")); (try simp only [List.isEmpty_cons, List.isEmpty_nil, Bool.not_false, Bool.not_true])))
local macro_rules | `(tactic| walk_at "my cut") => `(tactic| first | exact cut_upto _ _ | exact cut_from _ _ | exact cut_run' _ _ _)
local macro_rules | `(tactic| walk_at "subscriptTail") => `(tactic| (k_here; (with_reducible show wpAny _ _ (subscriptTail _ (Expr.Slice _ _ none _) (Value.ref _) (Value.ref _)) _ _ _); (with_reducible rename Fr _ _ _ _ => myF); (with_reducible rename News _ _ _ _ => myN); k_dflt (refine' ba_slice (s := ⟨_, _, _, _, _⟩) myF myN ?m ?l ?u ?z ?e ?_; (case m => k_mem); (case l => constructor); (case u => constructor); (case z => walk_at "my size"); (case e => walk_at "my cut")); clear myF myN; intro D' h' F' N' l1; (try k_lt l1); (try k_sweep)))
local macro_rules | `(tactic| walk_at "call type:bytes") => `(tactic| (k_here; (with_reducible show wpAny _ _ (call (Value.type "bytes") [Value.ref _]) _ _ _); k_dflt (refine' bytes_of_baN (xs := _) ?n ?m ?z ?_; (case n => k_asm); (case m => k_mem); (case z => walk_at "my size"))))
local macro_rules | `(tactic| walk_at "call ref") => `(tactic| (k_here; (with_reducible show wpAny _ _ (call (Value.ref 478) [_, Value.bytes (byteArr _) _] _) _ _ _); refine stop_of ?_))
local macro_rules | `(tactic| walk_at "subscriptTail") => `(tactic| (k_here; (with_reducible show wpAny _ _ (subscriptTail _ (Expr.Slice _ _ none _) (Value.bytes (List.toArray _) _) (Value.ref _)) _ _ _); (with_reducible rename Fr _ _ _ _ => myF); (with_reducible rename News _ _ _ _ => myN); k_dflt (refine' by_slice (s := ⟨_, _, _, _, _⟩) myF myN ?l ?u ?z ?e ?_; (case l => constructor); (case u => constructor); (case z => walk_at "my size"); (case e => walk_at "my cut")); clear myF myN; intro h' t' tk' F' N'; (try k_sweep)))
local macro_rules | `(tactic| walk_at "compareOp Eq bytes bytes") => `(tactic| (k_here; (with_reducible show wpAny _ _ (compareOp CmpOp.Eq (Value.bytes (List.toArray _) _) (Value.bytes (List.toArray _) _)) _ _ _); k_dflt (refine' eq_by ?_)))
local macro_rules | `(tactic| walk_at "binaryOp Add ref ref") => `(tactic| (k_here; (with_reducible show wpAny _ _ (binaryOp _ (Value.ref _) (Value.ref _)) _ _ _); k_dflt (refine' kmk_add_lit ?F ?N ?a ?b ?e ?_ ?z; (case F => k_asm); (case N => k_asm); (case a => kmk_list); (case b => kmk_list); (case e => exact cat1 _ _); (case z => walk_at "my size")); intro D' h' F' N' l1; (try k_lt l1); (try k_sweep)))
local macro_rules | `(tactic| walk_at "call ref") => `(tactic| (k_here; (with_reducible show wpAny _ _ (call (Value.ref 499) _ _) _ _ _); refine stop_of ?_))
local macro_rules | `(tactic| walk_at "call builtin:list.append") => `(tactic| (k_here; (with_reducible show wpAny _ _ (call (Value.builtin _) [Value.ref _, _]) _ _ _); k_dflt (refine' append_K ?k1 ?k2 ?k3 ?_ ?z; (case k1 => k_asm); (case k2 => k_asm); (case k3 => k_upd); (case z => walk_at "my size"); k_whole); intro h' F' N'; (try k_sweep)))
local macro_rules | `(tactic| boot_fact) => `(tactic| with_reducible exact boot_bytearray)
local macro_rules | `(tactic| walk_at "call builtin:isinstance") => `(tactic| (k_here; (with_reducible show wpAny _ _ (call (Value.builtin "isinstance") [Value.ref _, Value.type "bytearray"]) _ _ _); k_dflt (refine' isi_baN (xs := _) ?n ?m ?_; (case n => k_asm); (case m => k_mem))))
theorem T_deed4 {prog : Program} {w : World} {A₀ : Around} {base h₀ : Heap} {L : Addr} {m : Str → Option Value} {mg mb : Str → Option Value} {p : Program} {loose : List Str} {mean : ExcName → Option Value} {env : Env} {outer : List Env} {s : Shared} {Q E : Value → Shared → Prop}
    {H dH PL PA U dU Bf S W SA : Addr} {t1 t2 ti tc tm tr ts gt tt pt rt st : Tok} {τ : Nat → Tok} {v : Nat → Value} {nd nw na n7 nww naa : Nat} {wh ah ww aa : List Value} {ns : List Int} {ps : List (List UInt8)} {got : List UInt8} {told place off room rs j way : Nat} {rest : Int} {kt tw : Tok}
    (B : Below A₀ base outer h₀) (F : Fr h₀ L s.heap m) (X : (MineHead.hd.heap_39 w.params).In h₀) (T : Top p loose mean mg mb h₀) (XB : (MineHead.hd.heap_39 w.params).In base) (TB : Top p loose mean mg mb base) (D : KtsDicts (outer.filterMap (·.frame)) h₀) (hf : env.frame = some L) (hke : env.scope.kind = .function)
    (N : News h₀ L s.heap [(H, instObj 481 dH), (dH, dictOf (parD w t1 t2 PL PA) nd), (PL, listOf (List.toArray wh) nw), (PA, listOf (List.toArray ah) na), (U, instObj 445 dU), (dU, dictOf (unpD w τ v H Bf (place - off) ti (told - off) tc room tm rs tr told ts) 22), (Bf, baObj (got.drop off)), (S, listOf #[.bytes (List.toArray got) gt, .int (told : Int) tt, .int (place : Int) pt, .int (room : Int) rt, .ref W, .ref SA, .int (rs : Int) st] n7), (W, listOf (List.toArray ww) nww), (SA, listOf (List.toArray aa) naa)])
    (hd : List.Nodup ([H, dH, PL, PA, U, dU, Bf, S, W, SA] : List Nat)) (hw : BAre wh ps) (hw2 : BAre ww ps) (has : IntsAre ah ns) (has2 : IntsAre aa ns) (I : Inv j got told place off ps ns) (hj : j ≤ 40) (hrs : 1 ≤ rs) (hway : way = 4)
    (hq : ∀ got' told' place' off' ps' ns' h₀' h' tk' wh' ah' ww' aa' W' nd' nw' na' n7' nww' naa' ti' tc' ts' gt' tt' pt', Inv (j + 1) got' told' place' off' ps' ns' → KtsTurn (outer.filterMap (·.frame)) h₀ h₀' → OnlyF [H, dH, PL, PA, U, dU, Bf, S, W, SA] ((env :: outer).filterMap (·.frame)) s.heap h' → Fr h₀' L h' m →
      News h₀' L h' [(H, instObj 481 dH), (dH, dictOf (parD w t1 t2 PL PA) nd'), (PL, listOf (List.toArray wh') nw'), (PA, listOf (List.toArray ah') na'), (U, instObj 445 dU), (dU, dictOf (unpD w τ v H Bf (place' - off') ti' (told' - off') tc' room tm rs tr told' ts') 22), (Bf, baObj (got'.drop off')), (S, listOf #[.bytes (List.toArray got') gt', .int (told' : Int) tt', .int (place' : Int) pt', .int (room : Int) rt, .ref W', .ref SA, .int (rs : Int) st] n7'), (W', listOf (List.toArray ww') nww'), (SA, listOf (List.toArray aa') naa')] → List.Nodup ([H, dH, PL, PA, U, dU, Bf, S, W', SA] : List Nat) →
      BAre wh' ps' → BAre ww' ps' → IntsAre ah' ns' → IntsAre aa' ns' → Below A₀ base outer h₀' → (MineHead.hd.heap_39 w.params).In h₀' → Top p loose mean mg mb h₀' → KtsDicts (outer.filterMap (·.frame)) h₀' → Q (.bool true) { s with heap := h', toks := tk' }) :
    wpO (model prog w) (AA 380 800 env outer) (call (.ref 511) [.ref U, .ref H, .ref S, .int (way : Int) tw, .int rest kt]) Q E s := by
  have hd' := hd
  simp only [List.nodup_cons, List.mem_cons, List.not_mem_nil, or_false, not_or, List.nodup_nil, and_true, not_false_eq_true] at hd'
  obtain ⟨⟨q1, q2, q3, q4, q5, q6, q22, q23, q24⟩, ⟨q7, q8, q9, q10, q11, q25, q26, q27⟩, ⟨q12, q13, q14, q15, q28, q29, q30⟩, ⟨q16, q17, q18, q31, q32, q33⟩, ⟨q19, q20, q34, q35, q36⟩, ⟨q21, q37, q38, q39⟩, ⟨q40, q41, q42⟩, ⟨q43, q44⟩, q45⟩ := hd'
  have hI1 := I.h1
  have hI2 := I.h2
  have hI3 := I.h3
  have hIz := I.z1
  have hI4 := I.z2
  have hI5 := I.z4
  have hwl := hw.length
  have hwl2 := hw2.length
  refine wpO_call ?_
  k_dflt (refine' codeO_defTC ?k1 ?k2 ?k3 ?k4 ?k5 ?XB ?TB ?D ?kA ?kF ?kK ?k6 ?k7 ?k8 ?k9 ?kB ?kD ?_ ?c2 ?c3 ?c4; (case kA => exact rfl); (case kF => exact hf); (case kK => exact hke); (case k1 => k_asm); (case k2 => k_asm); (case k3 => k_asm); (case k4 => k_asm); (case k5 => k_asm); (case XB => exact XB); (case TB => exact TB); (case D => exact D); (case k6 => k_is); (case k7 => k_is); (case k8 => exact Nat.le_of_ble_eq_true rfl); (case k9 => exact BindsTo.of_eq (binds := [(Str.ofString "used", .ref U), (Str.ofString "held", .ref H), (Str.ofString "state", .ref S), (Str.ofString "way", .int (way : Int) tw), (Str.ofString "rest", .int rest kt)]) (by with_unfolding_all rfl)); (case kB => exact rfl); (case kD => decide +kernel); (case c2 => exact rfl); (case c3 => exact rfl); (case c4 => exact rfl))
  intro g' L' h' tk' cells' FG' F' N' Y' B' X' T' D' hlt hO
  k_cells Y'
  (try simp only [List.cons_append, List.nil_append] at N')
  dsimp only
  k_lt hlt
  refine wpO_leaf ?_
  k_steps
  (with_reducible rename Fr g' L' _ _ => F1)
  (with_reducible rename News g' L' _ _ => N1)
  dsimp only at F1 N1
  refine wpO_tok (g := s.gens) (d := s.drawn) (o := s.os) F1 rfl rfl rfl rfl (fun tk1 => ?_)
  obtain ⟨n, hn, hn7⟩ : ∃ n : Nat, rest.fmod 8 = (n : Int) ∧ n ≤ 7 := ⟨(rest.fmod 8).toNat, by have := Int.fmod_nonneg_of_pos rest (show (0 : Int) < 8 by omega); omega, by have := Int.fmod_lt_of_pos rest (show (0 : Int) < 8 by omega); omega⟩
  rw [hn] at F1
  subst hway
  · refine wpO_leaf ?_
    k_steps
    refine wpO_execs_cons (wpO_IfLeaf ?_)
    k_steps
    refine wpO_leaf ?_
    k_steps
    refine go_of ?_
    refine wpAny_upto (d := 405) (u := 1050) (env := envOfC _ _ _ _ _) ⟨rfl, Nat.le_of_ble_eq_true rfl, rfl, Nat.le_of_ble_eq_true rfl⟩ (L_lack (need := n) (insists := false) (S := S) (W := W) (SA := SA) (ps := ps) (ns := ns) (got := got) (told := told) (place := place) (room := room) (rs := rs) B' F1 X' T' rfl rfl (fun q hq => N1 q (List.mem_append_right [_, _, _, _, _, _, _, _] hq)) hw2 has2 q43 q44 q45 (by omega) (by omega) (fun b hb => Nat.le_trans (I.z3 b hb) (by omega)) (by omega) (by omega) (by omega) hrs hI2 hI3 ?hq1)
    case hq1 =>
      intro h2 tk2 wt gt2 pt2 W2 n2 nw2 na2 ws2 as2 O2 F2 N2 hw2' ha2' hW2
      obtain ⟨off2, o1, o2, o3, hR⟩ := sync (rs := rs) (room := room) (n := n) (ps := ps) (ins := false) hI1 hI2 hI3
      have y1 := @lackR_sum rs room got told place ps n false
      have y2 := @lackR_len rs room got told place ps n false
      have y3 := @lackR_mem rs room got told place ps n false 4 I.z3
      have y4 := @lackR_asks rs room got told place ps n false hI3
      have y5 := @lackR_word rs room got told place ps n false
      obtain ⟨⟨wd, got2, place2, ps2, az⟩, hL⟩ : ∃ R, lackR rs room got told place ps n false = R := ⟨_, rfl⟩
      rw [hL] at N2 hw2' ha2' o2 o3 hR y1 y2 y3 y4 y5 ⊢
      dsimp only at N2 hw2' ha2' o2 o3 hR y1 y2 y3 y4 y5
      have I2 : Inv (j + 1) got2 told place2 off2 ps2 (ns ++ az) := ⟨o1, o2, o3, by omega, by omega, y3, by rw [List.length_append]; omega⟩
      have w1 := new_ne hW2 (N1 _ (.tail _ (.head _))).1 q23
      have w2 := new_ne hW2 (N1 _ (.tail _ (.tail _ (.head _)))).1 q26
      have w3 := new_ne hW2 (N1 _ (.tail _ (.tail _ (.tail _ (.head _))))).1 q29
      have w4 := new_ne hW2 (N1 _ (.tail _ (.tail _ (.tail _ (.tail _ (.head _)))))).1 q32
      have w5 := new_ne hW2 (N1 _ (.tail _ (.tail _ (.tail _ (.tail _ (.tail _ (.head _))))))).1 q35
      have w6 := new_ne hW2 (N1 _ (.tail _ (.tail _ (.tail _ (.tail _ (.tail _ (.tail _ (.head _)))))))).1 q38
      have w7 := new_ne hW2 (N1 _ (.tail _ (.tail _ (.tail _ (.tail _ (.tail _ (.tail _ (.tail _ (.head _))))))))).1 q41
      have w8 := new_ne hW2 (N1 _ (.tail _ (.tail _ (.tail _ (.tail _ (.tail _ (.tail _ (.tail _ (.tail _ (.head _)))))))))).1 q43
      have w9 : @Ne Nat W2 SA := fun e => (new_ne hW2 (N1 _ (.tail _ (.tail _ (.tail _ (.tail _ (.tail _ (.tail _ (.tail _ (.tail _ (.tail _ (.tail _ (.head _)))))))))))).1 (fun e => q45 e.symm)) e.symm
      have w0 := new_ne hW2 (N1 _ (.head _)).1 (by omega)
      have N8 := O2.news (News.take8 N1) (fun q hq hm => by
        simp only [List.mem_cons, List.not_mem_nil, or_false] at hq hm
        have z0 : @Ne Nat (L' + 1) S := by omega
        have z1 : @Ne Nat (L' + 1) W := by omega
        have z2 : @Ne Nat (L' + 1) SA := by omega
        rcases hq with rfl | rfl | rfl | rfl | rfl | rfl | rfl | rfl <;> rcases hm with e | e | e <;> first | exact z0 e | exact z1 e | exact z2 e | exact q22 e | exact q23 e | exact q24 e | exact q25 e | exact q26 e | exact q27 e | exact q28 e | exact q29 e | exact q30 e | exact q31 e | exact q32 e | exact q33 e | exact q34 e | exact q35 e | exact q36 e | exact q37 e | exact q38 e | exact q39 e | exact q40 e | exact q41 e | exact q42 e)
      have N9 := News.append N8 N2
      simp only [List.cons_append, List.nil_append] at N9
      clear N1 F1 N2 N8
      k_steps
      (with_reducible rename Fr g' L' _ _ => F3)
      (with_reducible rename News g' L' _ _ => N3)
      (try dsimp only at F3 N3)
      refine wpO_tok (g := s.gens) (d := s.drawn) (o := s.os) F3 rfl rfl rfl rfl (fun tk3 => ?_)
      refine wpO_execs_cons (wpO_Assign_Name (wpO_Call ?_))
      k_steps
      refine wpO_callWith_K X' (by k_dflt k_is) ?_
      k_steps
      refine wpO_upto (d := 385) (u := 850) (env := envOfC _ _ _ _ _) ⟨rfl, Nat.le_of_ble_eq_true rfl, rfl, Nat.le_of_ble_eq_true rfl⟩ (T_try (way := 4) (n := n) (ps := ps) (ns := ns) B' F3 X' T' XB TB D' rfl rfl (News.take7 (News.tail N3)) (nodup7 hd) hw has (by omega) (by omega) (fun b hb => Nat.le_trans (I.z3 b hb) (by omega)) (by rw [List.length_drop]; omega) (by omega) (by rw [List.length_drop]; omega) hrs (by omega) (by rw [List.length_drop]; omega) (by omega) ?hqO ?hqK ?hqP ?hqX)
      case hqO => intro e; exact absurd e (by omega)
      case hqK => intro e; exact absurd e (by omega)
      case hqP =>
        simp only [show decide ((4 : Nat) < 3) = false from rfl]
        rw [hR]
        intro _ Tp g2 h4 tk4 t4 tr4 ts4 ti4 tc4 nd4 nw4 na4 ws4 as4 hwd T0 O4 F4 hTp N4 hw4 ha4 B4 X4 P4 D4
        dsimp only at hwd N4 hw4 ha4
        obtain rfl : wd = 0 := hwd
        have NB := O4.news (News.cons (News.one N3) (News.drop7 (News.tail N3))) (fun q hq hm => by
          simp only [List.mem_cons, List.not_mem_nil, or_false] at hq hm
          have z1 : @Ne Nat (L' + 1) H := by omega
          have z2 : @Ne Nat (L' + 1) dH := by omega
          have z3 : @Ne Nat (L' + 1) PL := by omega
          have z4 : @Ne Nat (L' + 1) PA := by omega
          have z5 : @Ne Nat (L' + 1) U := by omega
          have z6 : @Ne Nat (L' + 1) dU := by omega
          have z7 : @Ne Nat (L' + 1) Bf := by omega
          rcases hq with rfl | rfl | rfl | rfl <;> rcases hm with e | e | e | e | e | e | e <;> first | exact z1 e | exact z2 e | exact z3 e | exact z4 e | exact z5 e | exact z6 e | exact z7 e | exact q22 e.symm | exact q25 e.symm | exact q28 e.symm | exact q31 e.symm | exact q34 e.symm | exact q37 e.symm | exact q40 e.symm | exact w1 e.symm | exact w2 e.symm | exact w3 e.symm | exact w4 e.symm | exact w5 e.symm | exact w6 e.symm | exact w7 e.symm | exact q24 e.symm | exact q27 e.symm | exact q30 e.symm | exact q33 e.symm | exact q36 e.symm | exact q39 e.symm | exact q42 e.symm) (news_frames B' (News.cons (News.one N3) (News.drop7 (News.tail N3))) rfl) T0
        have f0 := ne_none (N3 _ (.head _)).1 hTp
        have f1 := ne_none (N3 _ (.tail _ (.head _))).1 hTp
        have f2 := ne_none (N3 _ (.tail _ (.tail _ (.head _)))).1 hTp
        have f3 := ne_none (N3 _ (.tail _ (.tail _ (.tail _ (.head _))))).1 hTp
        have f4 := ne_none (N3 _ (.tail _ (.tail _ (.tail _ (.tail _ (.head _)))))).1 hTp
        have f5 := ne_none (N3 _ (.tail _ (.tail _ (.tail _ (.tail _ (.tail _ (.head _))))))).1 hTp
        have f6 := ne_none (N3 _ (.tail _ (.tail _ (.tail _ (.tail _ (.tail _ (.tail _ (.head _)))))))).1 hTp
        have f7 := ne_none (N3 _ (.tail _ (.tail _ (.tail _ (.tail _ (.tail _ (.tail _ (.tail _ (.head _))))))))).1 hTp
        have f8 := ne_none (N3 _ (.tail _ (.tail _ (.tail _ (.tail _ (.tail _ (.tail _ (.tail _ (.tail _ (.head _)))))))))).1 hTp
        have f9 := ne_none (N3 _ (.tail _ (.tail _ (.tail _ (.tail _ (.tail _ (.tail _ (.tail _ (.tail _ (.tail _ (.head _))))))))))).1 hTp
        have f10 := ne_none (N3 _ (.tail _ (.tail _ (.tail _ (.tail _ (.tail _ (.tail _ (.tail _ (.tail _ (.tail _ (.tail _ (.head _)))))))))))).1 hTp
        have NC := News.append N4 NB
        simp only [List.cons_append, List.nil_append] at NC
        clear N4 NB N3 F3
        simp only [word] at F4
        k_steps
        refine wpO.of ?_
        k_steps
        (with_reducible rename Fr g2 L' _ _ => gF)
        (with_reducible rename News g2 L' _ _ => gN)
        refine ⟨_, _, _, _, T0, gF, gN, fun h₀' T1 kF kN kB kX kT kD => ?_⟩
        rw [show List.drop (place2 - off2) (List.drop off2 got2) = List.drop place2 got2 from by rw [List.drop_drop]; congr 1; omega, show place2 - off2 + ((got2.drop place2).take n).length = place2 + ((got2.drop place2).take n).length - off2 from by omega, show told + (place2 + ((got2.drop place2).take n).length - off2 - (told - off2)) = place2 + ((got2.drop place2).take n).length from by omega, ← Int.natCast_add place2 ((got2.drop place2).take n).length] at kN
        rw [show List.drop (place2 - off2) (List.drop off2 got2) = List.drop place2 got2 from by rw [List.drop_drop]; congr 1; omega, beq_self_eq_true]
        refine' hq got2 (place2 + ((got2.drop place2).take n).length) (place2 + ((got2.drop place2).take n).length) off2 ps2 (ns ++ az) h₀' _ _ ws4 as4 ws2 as2 W2 _ _ _ _ _ _ _ _ _ _ _ _ I2.moved.all T1 (fun b o nb nf e => gF.keep b o (T0.other b o (hO b o nb e) nf)) kF (fun q hq => ?n23) (nodup_new hd w1 w2 w3 w4 w5 w6 w7 w8 w9) hw4 hw2' ha4 ha2' kB kX kT kD
        case n23 =>
          simp only [List.mem_cons, List.not_mem_nil, or_false] at hq
          rcases hq with rfl | rfl | rfl | rfl | rfl | rfl | rfl | rfl | rfl | rfl
          · have k6 := kN _ (.tail _ (.head _))
            exact k6
          · have k6 := kN _ (.tail _ (.tail _ (.head _)))
            exact k6
          · have k6 := kN _ (.tail _ (.tail _ (.tail _ (.head _))))
            exact k6
          · have k6 := kN _ (.tail _ (.tail _ (.tail _ (.tail _ (.head _)))))
            exact k6
          · have k6 := kN _ (.tail _ (.tail _ (.tail _ (.tail _ (.tail _ (.head _))))))
            exact k6
          · have k6 := kN _ (.tail _ (.tail _ (.tail _ (.tail _ (.tail _ (.tail _ (.head _)))))))
            exact k6
          · have k6 := kN _ (.tail _ (.tail _ (.tail _ (.tail _ (.tail _ (.tail _ (.tail _ (.head _))))))))
            exact k6
          · have k6 := kN _ (.tail _ (.tail _ (.tail _ (.tail _ (.tail _ (.tail _ (.tail _ (.tail _ (.tail _ (.head _))))))))))
            exact k6
          · have k6 := kN _ (.tail _ (.tail _ (.tail _ (.tail _ (.tail _ (.tail _ (.tail _ (.tail _ (.tail _ (.tail _ (.head _)))))))))))
            exact k6
          · have k6 := kN _ (.tail _ (.tail _ (.tail _ (.tail _ (.tail _ (.tail _ (.tail _ (.tail _ (.tail _ (.tail _ (.tail _ (.head _))))))))))))
            exact k6
      case hqX =>
        simp only [show decide ((4 : Nat) < 3) = false from rfl]
        rw [hR]
        intro hwd Tp g2 h4 tk4 t4 ti4 tc4 nd4 nw4 na4 ws4 as4 T0 O4 F4 hTp N4 hw4 ha4 B4 X4 P4 D4
        dsimp only at hwd N4 hw4 ha4
        have NB := O4.news (News.cons (News.one N3) (News.drop7 (News.tail N3))) (fun q hq hm => by
          simp only [List.mem_cons, List.not_mem_nil, or_false] at hq hm
          have z1 : @Ne Nat (L' + 1) H := by omega
          have z2 : @Ne Nat (L' + 1) dH := by omega
          have z3 : @Ne Nat (L' + 1) PL := by omega
          have z4 : @Ne Nat (L' + 1) PA := by omega
          have z5 : @Ne Nat (L' + 1) U := by omega
          have z6 : @Ne Nat (L' + 1) dU := by omega
          have z7 : @Ne Nat (L' + 1) Bf := by omega
          rcases hq with rfl | rfl | rfl | rfl <;> rcases hm with e | e | e | e | e | e | e <;> first | exact z1 e | exact z2 e | exact z3 e | exact z4 e | exact z5 e | exact z6 e | exact z7 e | exact q22 e.symm | exact q25 e.symm | exact q28 e.symm | exact q31 e.symm | exact q34 e.symm | exact q37 e.symm | exact q40 e.symm | exact w1 e.symm | exact w2 e.symm | exact w3 e.symm | exact w4 e.symm | exact w5 e.symm | exact w6 e.symm | exact w7 e.symm | exact q24 e.symm | exact q27 e.symm | exact q30 e.symm | exact q33 e.symm | exact q36 e.symm | exact q39 e.symm | exact q42 e.symm) (news_frames B' (News.cons (News.one N3) (News.drop7 (News.tail N3))) rfl) T0
        have f0 := ne_none (N3 _ (.head _)).1 hTp
        have f1 := ne_none (N3 _ (.tail _ (.head _))).1 hTp
        have f2 := ne_none (N3 _ (.tail _ (.tail _ (.head _)))).1 hTp
        have f3 := ne_none (N3 _ (.tail _ (.tail _ (.tail _ (.head _))))).1 hTp
        have f4 := ne_none (N3 _ (.tail _ (.tail _ (.tail _ (.tail _ (.head _)))))).1 hTp
        have f5 := ne_none (N3 _ (.tail _ (.tail _ (.tail _ (.tail _ (.tail _ (.head _))))))).1 hTp
        have f6 := ne_none (N3 _ (.tail _ (.tail _ (.tail _ (.tail _ (.tail _ (.tail _ (.head _)))))))).1 hTp
        have f7 := ne_none (N3 _ (.tail _ (.tail _ (.tail _ (.tail _ (.tail _ (.tail _ (.tail _ (.head _))))))))).1 hTp
        have f8 := ne_none (N3 _ (.tail _ (.tail _ (.tail _ (.tail _ (.tail _ (.tail _ (.tail _ (.tail _ (.head _)))))))))).1 hTp
        have f9 := ne_none (N3 _ (.tail _ (.tail _ (.tail _ (.tail _ (.tail _ (.tail _ (.tail _ (.tail _ (.tail _ (.head _))))))))))).1 hTp
        have f10 := ne_none (N3 _ (.tail _ (.tail _ (.tail _ (.tail _ (.tail _ (.tail _ (.tail _ (.tail _ (.tail _ (.tail _ (.head _)))))))))))).1 hTp
        have NC := News.append N4 NB
        simp only [List.cons_append, List.nil_append] at NC
        clear N4 NB N3 F3
        obtain rfl | rfl : wd = 1 ∨ wd = 2 := hwd
        · simp only [word] at F4 NC
          k_steps
          refine wpO.of ?_
          k_steps
          (with_reducible rename Fr g2 L' _ _ => gF)
          (with_reducible rename News g2 L' _ _ => gN)
          refine ⟨_, _, _, _, T0, gF, gN, fun h₀' T1 kF kN kB kX kT kD => ?_⟩
          refine' hq got2 told place2 off2 ps2 (ns ++ az) h₀' _ _ ws4 as4 ws2 as2 W2 _ _ _ _ _ _ _ _ _ _ _ _ I2 T1 (fun b o nb nf e => gF.keep b o (T0.other b o (hO b o nb e) nf)) kF (fun q hq => ?n30) (nodup_new hd w1 w2 w3 w4 w5 w6 w7 w8 w9) hw4 hw2' ha4 ha2' kB kX kT kD
          case n30 =>
            simp only [List.mem_cons, List.not_mem_nil, or_false] at hq
            rcases hq with rfl | rfl | rfl | rfl | rfl | rfl | rfl | rfl | rfl | rfl
            · have k6 := kN _ (.tail _ (.tail _ (.head _)))
              exact k6
            · have k6 := kN _ (.tail _ (.tail _ (.tail _ (.head _))))
              exact k6
            · have k6 := kN _ (.tail _ (.tail _ (.tail _ (.tail _ (.head _)))))
              exact k6
            · have k6 := kN _ (.tail _ (.tail _ (.tail _ (.tail _ (.tail _ (.head _))))))
              exact k6
            · have k6 := kN _ (.tail _ (.tail _ (.tail _ (.tail _ (.tail _ (.tail _ (.head _)))))))
              exact k6
            · have k6 := kN _ (.tail _ (.tail _ (.tail _ (.tail _ (.tail _ (.tail _ (.tail _ (.head _))))))))
              exact k6
            · have k6 := kN _ (.tail _ (.tail _ (.tail _ (.tail _ (.tail _ (.tail _ (.tail _ (.tail _ (.head _)))))))))
              exact k6
            · have k6 := kN _ (.tail _ (.tail _ (.tail _ (.tail _ (.tail _ (.tail _ (.tail _ (.tail _ (.tail _ (.tail _ (.head _)))))))))))
              exact k6
            · have k6 := kN _ (.tail _ (.tail _ (.tail _ (.tail _ (.tail _ (.tail _ (.tail _ (.tail _ (.tail _ (.tail _ (.tail _ (.head _))))))))))))
              exact k6
            · have k6 := kN _ (.tail _ (.tail _ (.tail _ (.tail _ (.tail _ (.tail _ (.tail _ (.tail _ (.tail _ (.tail _ (.tail _ (.tail _ (.head _)))))))))))))
              exact k6
        · simp only [word] at F4 NC
          k_steps
          refine wpO.of ?_
          k_steps
          (with_reducible rename Fr g2 L' _ _ => gF)
          (with_reducible rename News g2 L' _ _ => gN)
          refine ⟨_, _, _, _, T0, gF, gN, fun h₀' T1 kF kN kB kX kT kD => ?_⟩
          refine' hq got2 told place2 off2 ps2 (ns ++ az) h₀' _ _ ws4 as4 ws2 as2 W2 _ _ _ _ _ _ _ _ _ _ _ _ I2 T1 (fun b o nb nf e => gF.keep b o (T0.other b o (hO b o nb e) nf)) kF (fun q hq => ?n31) (nodup_new hd w1 w2 w3 w4 w5 w6 w7 w8 w9) hw4 hw2' ha4 ha2' kB kX kT kD
          case n31 =>
            simp only [List.mem_cons, List.not_mem_nil, or_false] at hq
            rcases hq with rfl | rfl | rfl | rfl | rfl | rfl | rfl | rfl | rfl | rfl
            · have k6 := kN _ (.tail _ (.tail _ (.head _)))
              exact k6
            · have k6 := kN _ (.tail _ (.tail _ (.tail _ (.head _))))
              exact k6
            · have k6 := kN _ (.tail _ (.tail _ (.tail _ (.tail _ (.head _)))))
              exact k6
            · have k6 := kN _ (.tail _ (.tail _ (.tail _ (.tail _ (.tail _ (.head _))))))
              exact k6
            · have k6 := kN _ (.tail _ (.tail _ (.tail _ (.tail _ (.tail _ (.tail _ (.head _)))))))
              exact k6
            · have k6 := kN _ (.tail _ (.tail _ (.tail _ (.tail _ (.tail _ (.tail _ (.tail _ (.head _))))))))
              exact k6
            · have k6 := kN _ (.tail _ (.tail _ (.tail _ (.tail _ (.tail _ (.tail _ (.tail _ (.tail _ (.head _)))))))))
              exact k6
            · have k6 := kN _ (.tail _ (.tail _ (.tail _ (.tail _ (.tail _ (.tail _ (.tail _ (.tail _ (.tail _ (.tail _ (.head _)))))))))))
              exact k6
            · have k6 := kN _ (.tail _ (.tail _ (.tail _ (.tail _ (.tail _ (.tail _ (.tail _ (.tail _ (.tail _ (.tail _ (.tail _ (.head _))))))))))))
              exact k6
            · have k6 := kN _ (.tail _ (.tail _ (.tail _ (.tail _ (.tail _ (.tail _ (.tail _ (.tail _ (.tail _ (.tail _ (.tail _ (.tail _ (.head _)))))))))))))
              exact k6
end Mine
namespace Mine
open PySem PySem.W PySem.Calls PyProof.Rows
theorem wt_D5 : True := by
  w_top off
  trivial
local macro_rules | `(tactic| k_ne) => `(tactic| (refine neN ?_; (try dsimp only); first | assumption | (refine Ne.symm ?_; assumption) | omega))
local macro_rules | `(tactic| k_room) => `(tactic| exact Nat.le_of_ble_eq_true rfl)
local macro_rules | `(tactic| walk_at "my size") => `(tactic| ((try simp only [List.length_cons, List.length_nil, List.length_append, List.size_toArray, List.length_take, List.length_drop]); rw [sizeLine_eq]; omega))
local macro_rules | `(tactic| walk_at "call builtin:len") => `(tactic| (k_here; (with_reducible show wpAny _ _ (call (Value.builtin "len") [Value.bytes (List.toArray _) _]) _ _ _); k_dflt (refine' len_by ?z ?_; (case z => walk_at "my size"))))
local macro_rules | `(tactic| walk_at "call builtin:len") => `(tactic| (k_here; (with_reducible show wpAny _ _ (call (Value.builtin "len") [Value.ref _]) _ _ _); k_dflt (refine' len_baN (xs := _) ?n ?m ?z ?_; (case n => k_asm); (case m => k_mem); (case z => walk_at "my size"))))
local macro_rules | `(tactic| walk_at "call builtin:max") => `(tactic| (k_here; (with_reducible show wpAny _ _ (call (Value.builtin "max") [Value.int _ _, Value.int _ _]) _ _ _); k_dflt (refine' max_nat ?k1 ?k2 ?k3 ?_; (case k1 => exact rfl); (case k2 => k_asm); (case k3 => k_asm)); intro h' tk' t' F' N'))
local macro_rules | `(tactic| walk_at "exec Raise some none") => `(tactic| (k_here; (with_reducible show wpAny _ _ (exec (Stmt.Raise (some (Expr.Name _ _)) none _) _) _ _ _); k_dflt (refine' raise_ownK (bmB := [.type "Exception", .type "BaseException", .type "object"]) (newId := "Exception.__new__") ?F ?X ?T ?ex ?q PySem.F.excBase_Exception ?h ?_; (case F => k_asm); (case X => k_asm); (case T => k_asm); (case ex => k_is); (case q => k_exc); (case h => rfl))))
local macro_rules | `(tactic| walk_at "leaving ref") => `(tactic| (k_here; refine stop_of ?_))
local macro_rules | `(tactic| walk_at "truthy bytes") => `(tactic| (k_here; (with_reducible show wpAny _ _ (truthy (Value.bytes (List.toArray _) _)) _ _ _); k_dflt (refine' truthy_by ?z ?_; (case z => walk_at "my size")); (try simp only [List.isEmpty_cons, List.isEmpty_nil, Bool.not_false, Bool.not_true])))
local macro_rules | `(tactic| walk_at "my cut") => `(tactic| first | exact cut_upto _ _ | exact cut_from _ _ | exact cut_run' _ _ _)
local macro_rules | `(tactic| walk_at "subscriptTail") => `(tactic| (k_here; (with_reducible show wpAny _ _ (subscriptTail _ (Expr.Slice _ _ none _) (Value.ref _) (Value.ref _)) _ _ _); (with_reducible rename Fr _ _ _ _ => myF); (with_reducible rename News _ _ _ _ => myN); k_dflt (refine' ba_slice (s := ⟨_, _, _, _, _⟩) myF myN ?m ?l ?u ?z ?e ?_; (case m => k_mem); (case l => constructor); (case u => constructor); (case z => walk_at "my size"); (case e => walk_at "my cut")); clear myF myN; intro D' h' F' N' l1; (try k_lt l1); (try k_sweep)))
local macro_rules | `(tactic| walk_at "call type:bytes") => `(tactic| (k_here; (with_reducible show wpAny _ _ (call (Value.type "bytes") [Value.ref _]) _ _ _); k_dflt (refine' bytes_of_baN (xs := _) ?n ?m ?z ?_; (case n => k_asm); (case m => k_mem); (case z => walk_at "my size"))))
local macro_rules | `(tactic| walk_at "call ref") => `(tactic| (k_here; (with_reducible show wpAny _ _ (call (Value.ref 478) [_, Value.bytes (byteArr _) _] _) _ _ _); refine stop_of ?_))
local macro_rules | `(tactic| walk_at "subscriptTail") => `(tactic| (k_here; (with_reducible show wpAny _ _ (subscriptTail _ (Expr.Slice _ _ none _) (Value.bytes (List.toArray _) _) (Value.ref _)) _ _ _); (with_reducible rename Fr _ _ _ _ => myF); (with_reducible rename News _ _ _ _ => myN); k_dflt (refine' by_slice (s := ⟨_, _, _, _, _⟩) myF myN ?l ?u ?z ?e ?_; (case l => constructor); (case u => constructor); (case z => walk_at "my size"); (case e => walk_at "my cut")); clear myF myN; intro h' t' tk' F' N'; (try k_sweep)))
local macro_rules | `(tactic| walk_at "compareOp Eq bytes bytes") => `(tactic| (k_here; (with_reducible show wpAny _ _ (compareOp CmpOp.Eq (Value.bytes (List.toArray _) _) (Value.bytes (List.toArray _) _)) _ _ _); k_dflt (refine' eq_by ?_)))
local macro_rules | `(tactic| walk_at "binaryOp Add ref ref") => `(tactic| (k_here; (with_reducible show wpAny _ _ (binaryOp _ (Value.ref _) (Value.ref _)) _ _ _); k_dflt (refine' kmk_add_lit ?F ?N ?a ?b ?e ?_ ?z; (case F => k_asm); (case N => k_asm); (case a => kmk_list); (case b => kmk_list); (case e => exact cat1 _ _); (case z => walk_at "my size")); intro D' h' F' N' l1; (try k_lt l1); (try k_sweep)))
local macro_rules | `(tactic| walk_at "call ref") => `(tactic| (k_here; (with_reducible show wpAny _ _ (call (Value.ref 499) _ _) _ _ _); refine stop_of ?_))
local macro_rules | `(tactic| walk_at "call builtin:list.append") => `(tactic| (k_here; (with_reducible show wpAny _ _ (call (Value.builtin _) [Value.ref _, _]) _ _ _); k_dflt (refine' append_K ?k1 ?k2 ?k3 ?_ ?z; (case k1 => k_asm); (case k2 => k_asm); (case k3 => k_upd); (case z => walk_at "my size"); k_whole); intro h' F' N'; (try k_sweep)))
local macro_rules | `(tactic| boot_fact) => `(tactic| with_reducible exact boot_bytearray)
local macro_rules | `(tactic| walk_at "call builtin:isinstance") => `(tactic| (k_here; (with_reducible show wpAny _ _ (call (Value.builtin "isinstance") [Value.ref _, Value.type "bytearray"]) _ _ _); k_dflt (refine' isi_baN (xs := _) ?n ?m ?_; (case n => k_asm); (case m => k_mem))))
theorem T_deed5 {prog : Program} {w : World} {A₀ : Around} {base h₀ : Heap} {L : Addr} {m : Str → Option Value} {mg mb : Str → Option Value} {p : Program} {loose : List Str} {mean : ExcName → Option Value} {env : Env} {outer : List Env} {s : Shared} {Q E : Value → Shared → Prop}
    {H dH PL PA U dU Bf S W SA : Addr} {t1 t2 ti tc tm tr ts gt tt pt rt st : Tok} {τ : Nat → Tok} {v : Nat → Value} {nd nw na n7 nww naa : Nat} {wh ah ww aa : List Value} {ns : List Int} {ps : List (List UInt8)} {got : List UInt8} {told place off room rs j way : Nat} {rest : Int} {kt tw : Tok}
    (B : Below A₀ base outer h₀) (F : Fr h₀ L s.heap m) (X : (MineHead.hd.heap_39 w.params).In h₀) (T : Top p loose mean mg mb h₀) (XB : (MineHead.hd.heap_39 w.params).In base) (TB : Top p loose mean mg mb base) (D : KtsDicts (outer.filterMap (·.frame)) h₀) (hf : env.frame = some L) (hke : env.scope.kind = .function)
    (N : News h₀ L s.heap [(H, instObj 481 dH), (dH, dictOf (parD w t1 t2 PL PA) nd), (PL, listOf (List.toArray wh) nw), (PA, listOf (List.toArray ah) na), (U, instObj 445 dU), (dU, dictOf (unpD w τ v H Bf (place - off) ti (told - off) tc room tm rs tr told ts) 22), (Bf, baObj (got.drop off)), (S, listOf #[.bytes (List.toArray got) gt, .int (told : Int) tt, .int (place : Int) pt, .int (room : Int) rt, .ref W, .ref SA, .int (rs : Int) st] n7), (W, listOf (List.toArray ww) nww), (SA, listOf (List.toArray aa) naa)])
    (hd : List.Nodup ([H, dH, PL, PA, U, dU, Bf, S, W, SA] : List Nat)) (hw : BAre wh ps) (hw2 : BAre ww ps) (has : IntsAre ah ns) (has2 : IntsAre aa ns) (I : Inv j got told place off ps ns) (hj : j ≤ 40) (hrs : 1 ≤ rs) (hway : way = 5 ∨ way = 6 ∨ way = 7 ∨ way = 8)
    (hq : ∀ got' told' place' off' ps' ns' h₀' h' tk' wh' ah' ww' aa' W' nd' nw' na' n7' nww' naa' ti' tc' ts' gt' tt' pt', Inv (j + 1) got' told' place' off' ps' ns' → KtsTurn (outer.filterMap (·.frame)) h₀ h₀' → OnlyF [H, dH, PL, PA, U, dU, Bf, S, W, SA] ((env :: outer).filterMap (·.frame)) s.heap h' → Fr h₀' L h' m →
      News h₀' L h' [(H, instObj 481 dH), (dH, dictOf (parD w t1 t2 PL PA) nd'), (PL, listOf (List.toArray wh') nw'), (PA, listOf (List.toArray ah') na'), (U, instObj 445 dU), (dU, dictOf (unpD w τ v H Bf (place' - off') ti' (told' - off') tc' room tm rs tr told' ts') 22), (Bf, baObj (got'.drop off')), (S, listOf #[.bytes (List.toArray got') gt', .int (told' : Int) tt', .int (place' : Int) pt', .int (room : Int) rt, .ref W', .ref SA, .int (rs : Int) st] n7'), (W', listOf (List.toArray ww') nww'), (SA, listOf (List.toArray aa') naa')] → List.Nodup ([H, dH, PL, PA, U, dU, Bf, S, W', SA] : List Nat) →
      BAre wh' ps' → BAre ww' ps' → IntsAre ah' ns' → IntsAre aa' ns' → Below A₀ base outer h₀' → (MineHead.hd.heap_39 w.params).In h₀' → Top p loose mean mg mb h₀' → KtsDicts (outer.filterMap (·.frame)) h₀' → Q (.bool true) { s with heap := h', toks := tk' }) :
    wpO (model prog w) (AA 380 800 env outer) (call (.ref 511) [.ref U, .ref H, .ref S, .int (way : Int) tw, .int rest kt]) Q E s := by
  have hd' := hd
  simp only [List.nodup_cons, List.mem_cons, List.not_mem_nil, or_false, not_or, List.nodup_nil, and_true, not_false_eq_true] at hd'
  obtain ⟨⟨q1, q2, q3, q4, q5, q6, q22, q23, q24⟩, ⟨q7, q8, q9, q10, q11, q25, q26, q27⟩, ⟨q12, q13, q14, q15, q28, q29, q30⟩, ⟨q16, q17, q18, q31, q32, q33⟩, ⟨q19, q20, q34, q35, q36⟩, ⟨q21, q37, q38, q39⟩, ⟨q40, q41, q42⟩, ⟨q43, q44⟩, q45⟩ := hd'
  have hI1 := I.h1
  have hI2 := I.h2
  have hI3 := I.h3
  have hIz := I.z1
  have hI4 := I.z2
  have hI5 := I.z4
  have hwl := hw.length
  have hwl2 := hw2.length
  refine wpO_call ?_
  k_dflt (refine' codeO_defTC ?k1 ?k2 ?k3 ?k4 ?k5 ?XB ?TB ?D ?kA ?kF ?kK ?k6 ?k7 ?k8 ?k9 ?kB ?kD ?_ ?c2 ?c3 ?c4; (case kA => exact rfl); (case kF => exact hf); (case kK => exact hke); (case k1 => k_asm); (case k2 => k_asm); (case k3 => k_asm); (case k4 => k_asm); (case k5 => k_asm); (case XB => exact XB); (case TB => exact TB); (case D => exact D); (case k6 => k_is); (case k7 => k_is); (case k8 => exact Nat.le_of_ble_eq_true rfl); (case k9 => exact BindsTo.of_eq (binds := [(Str.ofString "used", .ref U), (Str.ofString "held", .ref H), (Str.ofString "state", .ref S), (Str.ofString "way", .int (way : Int) tw), (Str.ofString "rest", .int rest kt)]) (by with_unfolding_all rfl)); (case kB => exact rfl); (case kD => decide +kernel); (case c2 => exact rfl); (case c3 => exact rfl); (case c4 => exact rfl))
  intro g' L' h' tk' cells' FG' F' N' Y' B' X' T' D' hlt hO
  k_cells Y'
  (try simp only [List.cons_append, List.nil_append] at N')
  dsimp only
  k_lt hlt
  refine wpO_leaf ?_
  k_steps
  (with_reducible rename Fr g' L' _ _ => F1)
  (with_reducible rename News g' L' _ _ => N1)
  dsimp only at F1 N1
  refine wpO_tok (g := s.gens) (d := s.drawn) (o := s.os) F1 rfl rfl rfl rfl (fun tk1 => ?_)
  obtain ⟨n, hn, hn7⟩ : ∃ n : Nat, rest.fmod 8 = (n : Int) ∧ n ≤ 7 := ⟨(rest.fmod 8).toNat, by have := Int.fmod_nonneg_of_pos rest (show (0 : Int) < 8 by omega); omega, by have := Int.fmod_lt_of_pos rest (show (0 : Int) < 8 by omega); omega⟩
  rw [hn] at F1
  obtain rfl | rfl | rfl | rfl := hway
  · refine wpO_leaf ?_
    k_steps
    refine wpO_leaf ?_
    k_steps
    refine wpO_leaf ?_
    k_steps
    (with_reducible rename Fr g' L' _ _ => gF)
    (with_reducible rename News g' L' _ _ => gN)
    refine ⟨_, _, _, _, KtsTurn.refl, gF, gN, fun h₀' T0 kF kN kB kX kT kD => ?_⟩
    dsimp only at kN ⊢
    rw [show ((told : Int) + (((place - off : Nat) : Int) - ((told - off : Nat) : Int)) == (place : Int)) = true from beq_iff_eq.mpr (by omega)]
    rw [show (told : Int) + (((place - off : Nat) : Int) - ((told - off : Nat) : Int)) = (place : Int) from by omega] at kN
    refine' hq got place place off ps ns h₀' _ _ wh ah ww aa W _ _ _ _ _ _ _ _ _ _ _ _ I.told T0 (fun b o nb _ e => gF.keep b o (hO b o nb e)) kF ?n5 hd hw hw2 has has2 kB kX kT kD
    case n5 => (have k6 := News.tail kN; exact k6)
  · refine wpO_leaf ?_
    k_steps
    refine wpO_leaf ?_
    k_steps
    refine wpO_leaf ?_
    k_steps
    refine wpO_leaf ?_
    k_steps
    (with_reducible rename Fr g' L' _ _ => gF)
    (with_reducible rename News g' L' _ _ => gN)
    refine ⟨_, _, _, _, KtsTurn.refl, gF, gN, fun h₀' T0 kF kN kB kX kT kD => ?_⟩
    rw [show (decide (((place - off : Nat) : Int) < ((got.drop off).length : Int)) == decide ((place : Int) < (got.length : Int))) = true from by
      rw [List.length_drop, beq_iff_eq]
      exact decide_eq_decide.mpr (by omega)]
    refine' hq got told place off ps ns h₀' _ _ wh ah ww aa W _ _ _ _ _ _ _ _ _ _ _ _ I.next T0 (fun b o nb _ e => gF.keep b o (hO b o nb e)) kF ?n6 hd hw hw2 has has2 kB kX kT kD
    case n6 => (have k6 := News.tail kN; exact k6)
  · refine wpO_leaf ?_
    k_steps
    refine wpO_leaf ?_
    k_steps
    refine wpO_leaf ?_
    k_steps
    refine wpO_leaf ?_
    k_steps
    refine wpO_leaf ?_
    k_steps
    (with_reducible rename Fr g' L' _ _ => gF)
    (with_reducible rename News g' L' _ _ => gN)
    refine ⟨_, _, _, _, KtsTurn.refl, gF, gN, fun h₀' T0 kF kN kB kX kT kD => ?_⟩
    rw [show (List.drop (place - off) (List.drop off got) == List.drop place got) = true from by rw [List.drop_drop, show off + (place - off) = place from by omega]; exact beq_self_eq_true _]
    refine' hq got told place off ps ns h₀' _ _ wh ah ww aa W _ _ _ _ _ _ _ _ _ _ _ _ I.next T0 (fun b o nb _ e => gF.keep b o (hO b o nb e)) kF ?n7 hd hw hw2 has has2 kB kX kT kD
    case n7 => (have k6 := News.tail (News.tail kN); exact k6)
  · refine wpO_leaf ?_
    k_steps
    refine wpO_leaf ?_
    k_steps
    refine wpO_leaf ?_
    k_steps
    refine wpO_leaf ?_
    k_steps
    refine wpO_leaf ?_
    k_steps
    refine wpO_leaf ?_
    k_steps
    · (with_reducible rename Fr g' L' _ _ => gF)
      (with_reducible rename News g' L' _ _ => gN)
      refine ⟨_, _, _, _, KtsTurn.refl, gF, gN, fun h₀' T0 kF kN kB kX kT kD => ?_⟩
      skip
      refine' hq got told place off ps ns h₀' _ _ wh ah ww aa W _ _ _ _ _ _ _ _ _ _ _ _ I.next T0 (fun b o nb _ e => gF.keep b o (hO b o nb e)) kF ?n8 hd hw hw2 has has2 kB kX kT kD
      case n8 => (have k6 := News.tail kN; exact k6)
    · (with_reducible rename Fr g' L' _ _ => gF)
      (with_reducible rename News g' L' _ _ => gN)
      refine ⟨_, _, _, _, KtsTurn.refl, gF, gN, fun h₀' T0 kF kN kB kX kT kD => ?_⟩
      rw [show ((told : Int) == (told : Int)) = true from beq_self_eq_true _]
      refine' hq got told place off ps ns h₀' _ _ wh ah ww aa W _ _ _ _ _ _ _ _ _ _ _ _ I.next T0 (fun b o nb _ e => gF.keep b o (hO b o nb e)) kF ?n9 hd hw hw2 has has2 kB kX kT kD
      case n9 => (have k6 := News.tail kN; exact k6)
end Mine
namespace Mine
open PySem PySem.W PySem.Calls PyProof.Rows
theorem T_deed {prog : Program} {w : World} {A₀ : Around} {base h₀ : Heap} {L : Addr} {m : Str → Option Value} {mg mb : Str → Option Value} {p : Program} {loose : List Str} {mean : ExcName → Option Value} {env : Env} {outer : List Env} {s : Shared} {Q E : Value → Shared → Prop}
    {H dH PL PA U dU Bf S W SA : Addr} {t1 t2 ti tc tm tr ts gt tt pt rt st : Tok} {τ : Nat → Tok} {v : Nat → Value} {nd nw na n7 nww naa : Nat} {wh ah ww aa : List Value} {ns : List Int} {ps : List (List UInt8)} {got : List UInt8} {told place off room rs j way : Nat} {rest : Int} {kt tw : Tok}
    (B : Below A₀ base outer h₀) (F : Fr h₀ L s.heap m) (X : (MineHead.hd.heap_39 w.params).In h₀) (T : Top p loose mean mg mb h₀) (XB : (MineHead.hd.heap_39 w.params).In base) (TB : Top p loose mean mg mb base) (D : KtsDicts (outer.filterMap (·.frame)) h₀) (hf : env.frame = some L) (hke : env.scope.kind = .function)
    (N : News h₀ L s.heap [(H, instObj 481 dH), (dH, dictOf (parD w t1 t2 PL PA) nd), (PL, listOf (List.toArray wh) nw), (PA, listOf (List.toArray ah) na), (U, instObj 445 dU), (dU, dictOf (unpD w τ v H Bf (place - off) ti (told - off) tc room tm rs tr told ts) 22), (Bf, baObj (got.drop off)), (S, listOf #[.bytes (List.toArray got) gt, .int (told : Int) tt, .int (place : Int) pt, .int (room : Int) rt, .ref W, .ref SA, .int (rs : Int) st] n7), (W, listOf (List.toArray ww) nww), (SA, listOf (List.toArray aa) naa)])
    (hd : List.Nodup ([H, dH, PL, PA, U, dU, Bf, S, W, SA] : List Nat)) (hw : BAre wh ps) (hw2 : BAre ww ps) (has : IntsAre ah ns) (has2 : IntsAre aa ns) (I : Inv j got told place off ps ns) (hj : j ≤ 40) (hrs : 1 ≤ rs) (hway : way ≤ 8)
    (hq : ∀ got' told' place' off' ps' ns' h₀' h' tk' wh' ah' ww' aa' W' nd' nw' na' n7' nww' naa' ti' tc' ts' gt' tt' pt', Inv (j + 1) got' told' place' off' ps' ns' → KtsTurn (outer.filterMap (·.frame)) h₀ h₀' → OnlyF [H, dH, PL, PA, U, dU, Bf, S, W, SA] ((env :: outer).filterMap (·.frame)) s.heap h' → Fr h₀' L h' m →
      News h₀' L h' [(H, instObj 481 dH), (dH, dictOf (parD w t1 t2 PL PA) nd'), (PL, listOf (List.toArray wh') nw'), (PA, listOf (List.toArray ah') na'), (U, instObj 445 dU), (dU, dictOf (unpD w τ v H Bf (place' - off') ti' (told' - off') tc' room tm rs tr told' ts') 22), (Bf, baObj (got'.drop off')), (S, listOf #[.bytes (List.toArray got') gt', .int (told' : Int) tt', .int (place' : Int) pt', .int (room : Int) rt, .ref W', .ref SA, .int (rs : Int) st] n7'), (W', listOf (List.toArray ww') nww'), (SA, listOf (List.toArray aa') naa')] → List.Nodup ([H, dH, PL, PA, U, dU, Bf, S, W', SA] : List Nat) →
      BAre wh' ps' → BAre ww' ps' → IntsAre ah' ns' → IntsAre aa' ns' → Below A₀ base outer h₀' → (MineHead.hd.heap_39 w.params).In h₀' → Top p loose mean mg mb h₀' → KtsDicts (outer.filterMap (·.frame)) h₀' → Q (.bool true) { s with heap := h', toks := tk' }) :
    wpO (model prog w) (AA 380 800 env outer) (call (.ref 511) [.ref U, .ref H, .ref S, .int (way : Int) tw, .int rest kt]) Q E s := by
  obtain h | h | h | h | h | h : way = 0 ∨ way = 1 ∨ way = 2 ∨ way = 3 ∨ way = 4 ∨ (way = 5 ∨ way = 6 ∨ way = 7 ∨ way = 8) := by omega
  · exact T_deed0 B F X T XB TB D hf hke N hd hw hw2 has has2 I hj hrs h hq
  · exact T_deed1 B F X T XB TB D hf hke N hd hw hw2 has has2 I hj hrs h hq
  · exact T_deed2 B F X T XB TB D hf hke N hd hw hw2 has has2 I hj hrs h hq
  · exact T_deed3 B F X T XB TB D hf hke N hd hw hw2 has has2 I hj hrs h hq
  · exact T_deed4 B F X T XB TB D hf hke N hd hw hw2 has has2 I hj hrs h hq
  · exact T_deed5 B F X T XB TB D hf hke N hd hw hw2 has has2 I hj hrs h hq
end Mine
namespace Mine
open PySem PySem.W PySem.Calls PyProof.Rows
theorem enter_callO {M : Model} {A : Around} {s : Shared} {f : Value} {pos : List Value} {kw : List (Str × Value)} {c : ClaimW} {cl : Str → Option Addr} {mean : ExcName → Option Value} {args : List WData} {s₁ : Shared}
    (h : codeO M A (.call f ⟨pos, kw⟩) (GoodWG c cl mean args s₁) s) : wpO M A (PySem.call f pos kw) (fun v s' => GoodWG c cl mean args s₁ (.ok (.ret v)) s') (fun e s' => GoodWG c cl mean args s₁ (.error e) s') s :=
  wpO_call (codeO_mono h fun res s' g => by rcases g.1 with ⟨v, _, _, rfl, _⟩ | ⟨e, _, _, rfl, _⟩ <;> exact g)
theorem call_fullO {prog : Program} {w : World} {A : Around} {R : Result → Shared → Prop} {s : Shared} {name : Str} {params : Arguments} {body : List Stmt} {scope : Scope}
    {dV kV pm cd doc : Value} {a : Addr} {o : Obj} {args : Args} {binds : List (Str × Value)}
    (hroom : A.depth < recursionLimit) (ho : s.heap.get? a = some o) (hdata : o.data = .func { docDef name params body scope pm cd doc with defaults := dV, kwdefaults := kV }) (hlim : s.heap.NoLimit) (hcd : s.heap.CodeRec cd name)
    (hbind : BindsTo s { docDef name params body scope pm cd doc with defaults := dV, kwdefaults := kV } args binds)
    (hloc : ∀ x ∈ binds, scope.names.lookup x.1 = some .local)
    (h : ∀ h₁, Fr s.heap s.heap.objs.size h₁ (fun x => binds.reverse.lookup x) →
      wpO (model prog w) (A.deeper (envOf name scope s.heap.objs.size a cd)) (execs body (envOf name scope s.heap.objs.size a cd))
        (fun f s' => R (.ok (.ret (match f with | .ret v => v | _ => .none))) s')
        (fun e s' => wpAny (model prog w) (A.deeper (envOf name scope s.heap.objs.size a cd)) (leaving (envOf name scope s.heap.objs.size a cd) e)
          (fun _ s'' => R (.error e) s'') (fun e' s'' => R (.error e') s'') s')
        { s with heap := h₁, toks := s.toks + binds.length })
    (hco : scope.isCoroutine = false := by rfl) (hgen : scope.isGenerator = false := by rfl) (hk : scope.kind = .function := by rfl)
    (hcell : ∀ x ∈ scope.names, x.2 ≠ .cell := by decide) :
    codeO (model prog w) A (.call (.ref a) args) R s :=
  codeO_call_def hroom ho hdata hlim hcd rfl hbind hcell hloc (fun h₁ hns hkeep => h h₁ ⟨hns, hkeep, Nat.le_refl _⟩) hco hgen hk
end Mine
namespace Mine
open PySem PySem.W PySem.Calls PyProof.Rows
theorem wpO_exec_join {M : Model} {A : Around} {s : Shared} {E : Value → Shared → Prop} {Q : Flow → Shared → Prop} {env : Env} {st : Stmt} {rest : List Stmt} {h₀ : Heap} {L : Addr} {m0 : Str → Option Value}
    (_F : Fr h₀ L s.heap m0) (P : (Str → Option Value) → Shared → Prop)
    (h : wpAny M A (exec st env) (fun f s' => Stop (f = .next ∧ P m0 s')) E s)
    (k : ∀ s', P m0 s' → wpO M A (execs rest env) Q E s') : wpO M A (execs (st :: rest) env) Q E s :=
  wpO_execs_cons (.of (wpAny_mono h (fun f s' hf => by obtain ⟨rfl, hp⟩ := hf; exact k _ hp) fun _ _ x => x))
theorem room_of (fi : Int) : ∃ n : Nat, 6 + fi.fmod 25 = (n : Int) ∧ 6 ≤ n ∧ n ≤ 30 :=
  ⟨(6 + fi.fmod 25).toNat, by have := Int.fmod_nonneg_of_pos fi (show (0 : Int) < 25 by omega); omega, by have := Int.fmod_nonneg_of_pos fi (show (0 : Int) < 25 by omega); omega, by have := Int.fmod_lt_of_pos fi (show (0 : Int) < 25 by omega); omega⟩
theorem rs_of (x : Int) {room : Nat} (h : 6 ≤ room) : ∃ n : Nat, 1 + x.fmod (room : Int) = (n : Int) ∧ 1 ≤ n ∧ n ≤ room :=
  ⟨(1 + x.fmod (room : Int)).toNat, by have := Int.fmod_nonneg_of_pos x (show (0 : Int) < (room : Int) by omega); omega, by have := Int.fmod_nonneg_of_pos x (show (0 : Int) < (room : Int) by omega); omega, by have := Int.fmod_lt_of_pos x (show (0 : Int) < (room : Int) by omega); omega⟩
theorem news4 {h₀ h : Heap} {L : Addr} {news : List (Addr × Obj)} {a b c d : Addr × Obj} (N : News h₀ L h news) (ha : a ∈ news) (hb : b ∈ news) (hc : c ∈ news) (hd : d ∈ news) : News h₀ L h [a, b, c, d] := fun q hq => by
  simp only [List.mem_cons, List.not_mem_nil, or_false] at hq
  rcases hq with rfl | rfl | rfl | rfl
  · exact N _ ha
  · exact N _ hb
  · exact N _ hc
  · exact N _ hd
abbrev ps0 : List (List UInt8) := [[97, 98, 99, 100], [101, 102, 103], [], [104, 105]]
theorem news_ne {h₀ h : Heap} {L : Addr} {news : List (Addr × Obj)} {a b : Addr} {o o' : Obj} (N : News h₀ L h news) (ha : (a, o) ∈ news) (hb : (b, o') ∈ news) (hd : o.data ≠ o'.data) : ¬ ((a : Nat) = (b : Nat)) := fun e => by
  have e : a = b := e
  have h1 := (N _ ha).1
  have h2 := (N _ hb).1
  rw [e] at h1
  exact hd (congrArg Obj.data (Option.some.inj (h1.symm.trans h2)))
end Mine
namespace Mine
open PySem PySem.W PySem.Calls PyProof.Rows
theorem wpO_For_join {prog : Program} {w : World} {A : Around} {s : Shared} {E : Value → Shared → Prop} {Q : Flow → Shared → Prop} {target iter : Expr} {body rest : List Stmt} {pos : Pos} {env : Env} {h₀ : Heap} {L : Addr} {m0 : Str → Option Value} (_F : Fr h₀ L s.heap m0)
    (I : (Str → Option Value) → Value → Nat → Shared → Prop) (P : (Str → Option Value) → Shared → Prop)
    (h : wpAny (model prog w) A (eval iter env) (fun x s₁ => wpAny (model prog w) A (pyIter x) (fun it s₂ => Stop (∃ n, I m0 it n s₂)) E s₁) E s)
    (turn : ∀ it n s, I m0 it n s → wpAny (model prog w) A (pyNext it) (fun r s₁ => match r with
      | none => Stop (P m0 s₁)
      | some v => wpAny (model prog w) A (assign target env v) (fun _ s₂ => wpO (model prog w) A (execs body env) (fun f s₃ => match f with
          | .next | .cont => Stop (∃ m, m < n ∧ I m0 it m s₃)
          | .brk => Stop (P m0 s₃)
          | .ret _ => False) (notedBy (model prog w) A env (cameBackBy (model prog w) A env E)) s₂) (notedBy (model prog w) A env (cameBackBy (model prog w) A env E)) s₁) (notedBy (model prog w) A env (cameBackBy (model prog w) A env E)) s)
    (k : ∀ s', P m0 s' → wpO (model prog w) A (execs rest env) Q E s')
    (hs : ∀ x, foldedSetIterable iter env x = pure x := by intro _; rfl) (ht : ∀ it v, letOwnedTupleGo target it v = pure () := by intro _ _; rfl) : wpO (model prog w) A (execs (.For target iter body [] pos :: rest) env) Q E s := by
  refine wpO_execs_cons (wpO_For ?_ hs)
  refine wpAny_mono h (fun x s₁ h₁ => wpAny_mono h₁ (fun it s₂ h₂ => ?_) fun _ _ x => x) fun _ _ x => x
  obtain ⟨n, hn⟩ := h₂
  refine codeO_forLoop (I m0 it) (fun n s hI => ?_) n hn (ht it)
  refine wpAny_mono (turn it n s hI) (fun r s₁ hr => ?_) fun _ _ x => x
  cases r with
  | none => exact wpAny_execs_nil (k _ hr)
  | some v =>
    refine wpAny_mono hr (fun _ s₂ h₂ => wpO_mono h₂ (fun f s₃ h₃ => ?_) fun _ _ x => x) fun _ _ x => x
    cases f
    · exact h₃
    · exact k _ h₃
    · exact h₃
    · exact h₃.elim
theorem fr_back {g g' h : Heap} {L : Addr} {m : Str → Option Value} (T : KtsTurn [] g g') (F : Fr g' L h m) : Fr g L h m :=
  ⟨F.ns, fun b o e => F.keep b o (T.other b o e (fun x => nomatch x)), by rw [← T.size]; exact F.above⟩
theorem news_back {g g' h : Heap} {L : Addr} {l : List (Addr × Obj)} (T : KtsTurn [] g g') (N : News g' L h l) : News g L h l :=
  fun p hp => ⟨(N p hp).1, (N p hp).2.1, turn_none T (N p hp).2.2⟩
theorem lack0 {rs room : Nat} (h1 : 1 ≤ rs) (h6 : 6 ≤ room) : (lackR rs room [] 0 0 ps0 2 true).1 = 0 ∧ (lackR rs room [] 0 0 ps0 2 true).2.2.1 = 0 ∧ (lackR rs room [] 0 0 ps0 2 true).2.1.take 2 = [97, 98] := by
  have hk : 2 ≤ max rs 2 := Nat.le_max_right _ _
  have g1 : ((given ps0 (max rs 2)).1).take 2 = [97, 98] ∧ 2 ≤ (given ps0 (max rs 2)).1.length := by
    by_cases c : ((max rs 2 : Nat) : Int) < ([97, 98, 99, 100] : List UInt8).length
    · rw [given_lt c]
      refine ⟨?_, ?_⟩
      · show (List.take (max rs 2) [97, 98, 99, 100]).take 2 = [97, 98]
        rw [List.take_take, Nat.min_eq_left hk]; rfl
      · show 2 ≤ (List.take (max rs 2) ([97, 98, 99, 100] : List UInt8)).length
        rw [List.length_take]; exact Nat.le_min.mpr ⟨hk, by decide⟩
    · rw [given_ge c]; exact ⟨rfl, by decide⟩
  obtain ⟨g2, g3⟩ := g1
  have hne : (given ps0 (max rs 2)).1 ≠ [] := fun e => by rw [e] at g3; exact absurd g3 (by decide)
  have hf : fill rs 2 ps0 = ((given ps0 (max rs 2)).1, (given ps0 (max rs 2)).2, [((max rs 2 : Nat) : Int)], 0) := by
    rw [fill_more (by decide) hne, show 2 - (given ps0 (max rs 2)).1.length = 0 from by omega, fill_zero]
    simp
  rw [lackR_fine (d := (given ps0 (max rs 2)).1) (px := (given ps0 (max rs 2)).2) (az := [((max rs 2 : Nat) : Int)]) (k := 0) (by decide) (by omega) hf (.inl rfl)]
  exact ⟨rfl, rfl, g2⟩
theorem news73 {h₀ h : Heap} {L : Addr} {a b c d e f g i j k : Addr × Obj} (x : News h₀ L h [a, b, c, d, e, f, g]) (y : News h₀ L h [i, j, k]) : News h₀ L h [a, b, c, d, e, f, g, i, j, k] := News.append x y
theorem news_drop3 {h₀ h : Heap} {L : Addr} {a b c : Addr × Obj} {l : List (Addr × Obj)} (N : News h₀ L h (a :: b :: c :: l)) : News h₀ L h l := fun q hq => N q (.tail _ (.tail _ (.tail _ hq)))
theorem news3 {h₀ h : Heap} {L : Addr} {news : List (Addr × Obj)} {a b c : Addr × Obj} (N : News h₀ L h news) (ha : a ∈ news) (hb : b ∈ news) (hc : c ∈ news) : News h₀ L h [a, b, c] := fun q hq => by
  simp only [List.mem_cons, List.not_mem_nil, or_false] at hq
  rcases hq with rfl | rfl | rfl
  · exact N _ ha
  · exact N _ hb
  · exact N _ hc
theorem nodup10 {H dH PL PA U dU Bf S W SA : Addr} (hd : List.Nodup ([H, dH, PL, PA, U, dU, Bf] : List Nat)) (lW : H < W ∧ dH < W ∧ PL < W ∧ PA < W ∧ U < W ∧ dU < W ∧ Bf < W) (l1 : W < SA) (l2 : SA < S) :
    List.Nodup ([H, dH, PL, PA, U, dU, Bf, S, W, SA] : List Nat) := by
  simp only [List.nodup_cons, List.mem_cons, List.not_mem_nil, or_false, not_or, List.nodup_nil, and_true, not_false_eq_true] at hd ⊢
  obtain ⟨⟨q1, q2, q3, q4, q5, q6⟩, ⟨q7, q8, q9, q10, q11⟩, ⟨q12, q13, q14, q15⟩, ⟨q16, q17, q18⟩, ⟨q19, q20⟩, q21⟩ := hd
  obtain ⟨w1, w2, w3, w4, w5, w6, w7⟩ := lW
  have e : @LT.lt Nat _ W S := Nat.lt_trans l1 l2
  have lo : ∀ {x : Nat}, @LT.lt Nat _ x W → ¬ x = S ∧ ¬ x = W ∧ ¬ x = SA := fun {x} h => ⟨Nat.ne_of_lt (Nat.lt_trans h e), Nat.ne_of_lt h, Nat.ne_of_lt (Nat.lt_trans h l1)⟩
  exact ⟨⟨q1, q2, q3, q4, q5, q6, lo w1⟩, ⟨q7, q8, q9, q10, q11, lo w2⟩, ⟨q12, q13, q14, q15, lo w3⟩, ⟨q16, q17, q18, lo w4⟩, ⟨q19, q20, lo w5⟩, ⟨q21, lo w6⟩, lo w7, ⟨Nat.ne_of_gt e, Nat.ne_of_gt l2⟩, Nat.ne_of_lt l1⟩
theorem ne_baN {prog : Program} {w : World} {A : Around} {E : Value → Shared → Prop} {s : Shared} {Q : Value → Shared → Prop} {h₀ : Heap} {L B : Addr} {news : List (Addr × Obj)} {xs ys : List UInt8} {t : Tok} (N : News h₀ L s.heap news) (hB : (B, baObj xs) ∈ news) (hu : A.units < cLine)
    (h : Q (.bool (xs != ys)) s) : wpAny (model prog w) A (compareOp .NotEq (.ref B) (.bytes ys.toArray t)) Q E s := ne_ba_bytes (N _ hB).1 hu h
theorem sync0 {rs room : Nat} (h1 : 1 ≤ rs) (h6 : 6 ≤ room) : ∃ got ps az, lackR rs room [] 0 0 ps0 2 true = (0, got, 0, ps, az) ∧ reserveR rs room [] 0 0 ps0 2 true = (0, got, 0, 0, ps, az) ∧ got.take 2 = [97, 98] ∧ 2 ≤ got.length ∧ got.length + total ps = 9 ∧ ps.length ≤ 4 ∧ (∀ b ∈ ps, b.length ≤ 4) ∧ az.length ≤ 2 := by
  obtain ⟨e0, e1, e2⟩ := lack0 h1 h6
  obtain ⟨off, o1, o2, o3, hR⟩ := sync (rs := rs) (room := room) (got := []) (told := 0) (place := 0) (off := 0) (ps := ps0) (n := 2) (ins := true) (Nat.le_refl _) (Nat.le_refl _) (Nat.zero_le _)
  have y1 := @lackR_sum rs room [] 0 0 ps0 2 true
  have y2 := @lackR_len rs room [] 0 0 ps0 2 true
  have y3 := @lackR_mem rs room [] 0 0 ps0 2 true 4 (by decide)
  have y4 := @lackR_asks rs room [] 0 0 ps0 2 true (Nat.zero_le _)
  obtain ⟨⟨wd, got2, place2, ps2, az⟩, hL⟩ : ∃ R, lackR rs room [] 0 0 ps0 2 true = R := ⟨_, rfl⟩
  rw [hL] at e0 e1 e2 o2 o3 hR y1 y2 y3 y4
  dsimp only at e0 e1 e2 o2 o3 hR y1 y2 y3 y4
  obtain rfl : off = 0 := by omega
  subst e0 e1
  refine ⟨got2, ps2, az, hL, hR, e2, ?_, y1, y2, y3, y4⟩
  have := congrArg List.length e2
  rw [List.length_take] at this
  simp at this
  omega
end Mine
namespace Mine
open PySem PySem.W PySem.Calls PyProof.Rows
/-- what the law keeps between the deeds -/
def CoreN (w : World) (h₀ : Heap) (L : Addr) (hh : Heap) (H dH PL PA U dU Bf S SA : Addr) (t1 t2 tm tr rt st : Tok) (τ : Nat → Tok) (v : Nat → Value) (room rs j : Nat) : Prop :=
  ∃ (W : Addr) (got : List UInt8) (told place off : Nat) (ps : List (List UInt8)) (ns : List Int) (wh ah ww aa : List Value) (nd nw na n7 nww naa : Nat) (ti tc ts gt tt pt : Tok),
    News h₀ L hh [(H, instObj 481 dH), (dH, dictOf (parD w t1 t2 PL PA) nd), (PL, listOf (List.toArray wh) nw), (PA, listOf (List.toArray ah) na), (U, instObj 445 dU), (dU, dictOf (unpD w τ v H Bf (place - off) ti (told - off) tc room tm rs tr told ts) 22), (Bf, baObj (got.drop off)),
      (S, listOf #[.bytes (List.toArray got) gt, .int (told : Int) tt, .int (place : Int) pt, .int (room : Int) rt, .ref W, .ref SA, .int (rs : Int) st] n7), (W, listOf (List.toArray ww) nww), (SA, listOf (List.toArray aa) naa)] ∧
    List.Nodup ([H, dH, PL, PA, U, dU, Bf, S, W, SA] : List Nat) ∧ BAre wh ps ∧ BAre ww ps ∧ IntsAre ah ns ∧ IntsAre aa ns ∧ Inv j got told place off ps ns
/-- the walk over the script: its iterator and list stand apart from all that the deeds turn -/
structure Side (h₀ : Heap) (L : Addr) (fx : List Nat) (itA l : Addr) : Prop where
  i1 : h₀.get? itA = none
  i2 : h₀.get? l = none
  i3 : itA ≠ l
  i4 : L ≠ itA
  i5 : L ≠ l
  i6 : ∀ q ∈ fx, @Ne Nat q itA ∧ @Ne Nat q l
theorem news_same {h₀ h h' : Heap} {L d : Addr} {news : List (Addr × Obj)} (N : News h₀ L h news) (hs : Heap.SameBut d h h') (hd : ∀ p ∈ news, p.1 ≠ d) : News h₀ L h' news :=
  fun p hp => ⟨(hs.2 _ (hd p hp)).trans (N p hp).1, (N p hp).2⟩
theorem news_ext {h₀ h h' : Heap} {L d : Addr} {news : List (Addr × Obj)} (N : News h₀ L h news) (hs : Heap.ExtBut d h h') (hd : ∀ p ∈ news, p.1 ≠ d) : News h₀ L h' news :=
  fun p hp => ⟨hs _ _ (hd p hp) (N p hp).1, (N p hp).2⟩
theorem fr_ext {h₀ h h' : Heap} {L d : Addr} {m : Str → Option Value} (F : Fr h₀ L h m) (hs : Heap.ExtBut d h h') (hL : L ≠ d) (hn : h₀.get? d = none) : Fr h₀ L h' m := by
  obtain ⟨o, es, ep, a, b, c, f⟩ := F.ns
  exact ⟨⟨o, es, ep, hs L o hL a, b, c, f⟩, fun b o e => hs b o (fun q => by rw [q, hn] at e; cases e) (F.keep b o e), F.above⟩
/-- the parts' list is not the iterator -/
theorem ne_iter {h : Heap} {W it l : Addr} {i : Nat} {xs : Array Value} {n : Nat} (hW : h.get? W = some (listOf xs n)) (hi : h.IsListIter it l i) : W ≠ it := fun e => by
  obtain ⟨o, ho, _, hd⟩ := hi
  rw [← e, hW] at ho
  cases ho
  cases hd
/-- a list of texts is not the list of ints walked over -/
theorem ne_ints {h : Heap} {W l : Addr} {ws vs : List Value} {ps : List (List UInt8)} {zs : List Int} {n i : Nat} (hW : h.get? W = some (listOf ws.toArray n)) (hw : BAre ws ps) (hl : h.IsList l vs.toArray) (hv : IntsAre vs zs) (hi : i < zs.length) : W ≠ l := fun e => by
  obtain ⟨o, ho, _, k, hd⟩ := hl
  rw [← e, hW] at ho
  cases ho
  have hd : Data.seq ws.toArray n = Data.seq vs.toArray k := hd
  injection hd with h1 h2
  have h3 : ws = vs := by simpa using h1
  subst h3
  cases hv with
  | nil => exact absurd hi (by simp)
  | cons z t r =>
    cases ps with
    | nil => exact hw
    | cons b bs => obtain ⟨⟨t', ht⟩, _⟩ := hw; cases ht
section
variable {H dH PL PA U dU Bf S W SA d : Addr} {o1 o2 o3 o4 o5 o6 o7 o8 o9 o10 : Obj}
theorem all10 (h : ∀ q ∈ ([H, dH, PL, PA, U, dU, Bf, S, SA] : List Nat), @Ne Nat q d) (hW : W ≠ d) : ∀ p ∈ [(H, o1), (dH, o2), (PL, o3), (PA, o4), (U, o5), (dU, o6), (Bf, o7), (S, o8), (W, o9), (SA, o10)], p.1 ≠ d := fun p hp => by
  simp only [List.mem_cons, List.not_mem_nil, or_false] at hp
  simp only [List.mem_cons, List.not_mem_nil, or_false, forall_eq_or_imp, forall_eq] at h
  obtain ⟨h1, h2, h3, h4, h5, h6, h7, h8, h9⟩ := h
  rcases hp with rfl | rfl | rfl | rfl | rfl | rfl | rfl | rfl | rfl | rfl
  · exact h1
  · exact h2
  · exact h3
  · exact h4
  · exact h5
  · exact h6
  · exact h7
  · exact h8
  · exact hW
  · exact h9
theorem not10 (h : ∀ q ∈ ([H, dH, PL, PA, U, dU, Bf, S, SA] : List Nat), @Ne Nat q d) (hW : W ≠ d) : d ∉ [H, dH, PL, PA, U, dU, Bf, S, W, SA] := fun hp => by
  simp only [List.mem_cons, List.not_mem_nil, or_false] at hp
  simp only [List.mem_cons, List.not_mem_nil, or_false, forall_eq_or_imp, forall_eq] at h
  obtain ⟨h1, h2, h3, h4, h5, h6, h7, h8, h9⟩ := h
  rcases hp with e | e | e | e | e | e | e | e | e | e
  · exact h1 e.symm
  · exact h2 e.symm
  · exact h3 e.symm
  · exact h4 e.symm
  · exact h5 e.symm
  · exact h6 e.symm
  · exact h7 e.symm
  · exact h8 e.symm
  · exact hW e.symm
  · exact h9 e.symm
end
theorem way_of (z : Int) : ∃ n : Nat, z.fmod 9 = (n : Int) ∧ n ≤ 8 :=
  ⟨(z.fmod 9).toNat, by have := Int.fmod_nonneg_of_pos z (show (0 : Int) < 9 by omega); omega, by have := Int.fmod_lt_of_pos z (show (0 : Int) < 9 by omega); omega⟩
theorem take10 {h₀ h : Heap} {L : Addr} {a b c d e f g i j k : Addr × Obj} {l : List (Addr × Obj)} (N : News h₀ L h (a :: b :: c :: d :: e :: f :: g :: i :: j :: k :: l)) : News h₀ L h [a, b, c, d, e, f, g, i, j, k] := fun q hq => N q (List.mem_append_left l hq)
theorem news2 {h₀ h : Heap} {L : Addr} {a b : Addr} {o o' : Obj} (x : h.get? a = some o ∧ a ≠ L ∧ h₀.get? a = none) (y : h.get? b = some o' ∧ b ≠ L ∧ h₀.get? b = none) : News h₀ L h [(a, o), (b, o')] := fun q hq => by
  simp only [List.mem_cons, List.not_mem_nil, or_false] at hq
  rcases hq with rfl | rfl
  · exact x
  · exact y
theorem news10_2 {h₀ h : Heap} {L : Addr} {a b c d e f g i j k x y : Addr × Obj} (N : News h₀ L h [a, b, c, d, e, f, g, i, j, k]) (M : News h₀ L h [x, y]) : News h₀ L h [a, b, c, d, e, f, g, i, j, k, x, y] := News.append N M
end Mine
namespace Mine
open PySem PySem.W PySem.Calls PyProof.Rows
theorem law_post (zs : List Int) : PySem.Challenge.rw_ag6004_01.row.toRowW.claim.post [ofPy (PyData.list (List.map PyData.int zs))] (WData.bool true) [ofPy (PyData.list (List.map PyData.int zs))] = true :=
  postW_of (by wrow_shape) (by wtm_val) (by str_meet; first | done | w_fin)
theorem law_none (zs : List Int) (cls : ExcName) : PySem.Challenge.rw_ag6004_01.row.toRowW.claim.raises [ofPy (PyData.list (List.map PyData.int zs))] cls = false := rfl
end Mine
namespace Mine
open PySem PySem.W PySem.Calls PyProof.Rows
theorem wt_L2 : True := by
  w_top off
  trivial
local macro_rules | `(tactic| k_ne) => `(tactic| (refine neN ?_; (try dsimp only); first | assumption | (refine Ne.symm ?_; assumption) | omega))
local macro_rules | `(tactic| k_room) => `(tactic| exact Nat.le_of_ble_eq_true rfl)
local macro_rules | `(tactic| walk_at "my size") => `(tactic| ((try simp only [List.length_cons, List.length_nil, List.length_append, List.size_toArray, List.length_take, List.length_drop]); rw [sizeLine_eq]; omega))
local macro_rules | `(tactic| walk_at "call builtin:len") => `(tactic| (k_here; (with_reducible show wpAny _ _ (call (Value.builtin "len") [Value.bytes (List.toArray _) _]) _ _ _); k_dflt (refine' len_by ?z ?_; (case z => walk_at "my size"))))
local macro_rules | `(tactic| walk_at "call builtin:len") => `(tactic| (k_here; (with_reducible show wpAny _ _ (call (Value.builtin "len") [Value.ref _]) _ _ _); k_dflt (refine' len_baN (xs := _) ?n ?m ?z ?_; (case n => k_asm); (case m => k_mem); (case z => walk_at "my size"))))
local macro_rules | `(tactic| walk_at "call builtin:max") => `(tactic| (k_here; (with_reducible show wpAny _ _ (call (Value.builtin "max") [Value.int _ _, Value.int _ _]) _ _ _); k_dflt (refine' max_nat ?k1 ?k2 ?k3 ?_; (case k1 => exact rfl); (case k2 => k_asm); (case k3 => k_asm)); intro h' tk' t' F' N'))
local macro_rules | `(tactic| walk_at "exec Raise some none") => `(tactic| (k_here; (with_reducible show wpAny _ _ (exec (Stmt.Raise (some (Expr.Name _ _)) none _) _) _ _ _); k_dflt (refine' raise_ownK (bmB := [.type "Exception", .type "BaseException", .type "object"]) (newId := "Exception.__new__") ?F ?X ?T ?ex ?q PySem.F.excBase_Exception ?h ?_; (case F => k_asm); (case X => k_asm); (case T => k_asm); (case ex => k_is); (case q => k_exc); (case h => rfl))))
local macro_rules | `(tactic| walk_at "leaving ref") => `(tactic| (k_here; refine stop_of ?_))
local macro_rules | `(tactic| walk_at "truthy bytes") => `(tactic| (k_here; (with_reducible show wpAny _ _ (truthy (Value.bytes (List.toArray _) _)) _ _ _); k_dflt (refine' truthy_by ?z ?_; (case z => walk_at "my size")); (try simp only [List.isEmpty_cons, List.isEmpty_nil, Bool.not_false, Bool.not_true])))
local macro_rules | `(tactic| walk_at "my cut") => `(tactic| first | exact cut_upto _ _ | exact cut_from _ _ | exact cut_run' _ _ _)
local macro_rules | `(tactic| walk_at "subscriptTail") => `(tactic| (k_here; (with_reducible show wpAny _ _ (subscriptTail _ (Expr.Slice _ _ none _) (Value.ref _) (Value.ref _)) _ _ _); (with_reducible rename Fr _ _ _ _ => myF); (with_reducible rename News _ _ _ _ => myN); k_dflt (refine' ba_slice (s := ⟨_, _, _, _, _⟩) myF myN ?m ?l ?u ?z ?e ?_; (case m => k_mem); (case l => constructor); (case u => constructor); (case z => walk_at "my size"); (case e => walk_at "my cut")); clear myF myN; intro D' h' F' N' l1; (try k_lt l1); (try k_sweep)))
local macro_rules | `(tactic| walk_at "call type:bytes") => `(tactic| (k_here; (with_reducible show wpAny _ _ (call (Value.type "bytes") [Value.ref _]) _ _ _); k_dflt (refine' bytes_of_baN (xs := _) ?n ?m ?z ?_; (case n => k_asm); (case m => k_mem); (case z => walk_at "my size"))))
local macro_rules | `(tactic| walk_at "call ref") => `(tactic| (k_here; (with_reducible show wpAny _ _ (call (Value.ref 478) [_, Value.bytes (byteArr _) _] _) _ _ _); refine stop_of ?_))
local macro_rules | `(tactic| walk_at "subscriptTail") => `(tactic| (k_here; (with_reducible show wpAny _ _ (subscriptTail _ (Expr.Slice _ _ none _) (Value.bytes (List.toArray _) _) (Value.ref _)) _ _ _); (with_reducible rename Fr _ _ _ _ => myF); (with_reducible rename News _ _ _ _ => myN); k_dflt (refine' by_slice (s := ⟨_, _, _, _, _⟩) myF myN ?l ?u ?z ?e ?_; (case l => constructor); (case u => constructor); (case z => walk_at "my size"); (case e => walk_at "my cut")); clear myF myN; intro h' t' tk' F' N'; (try k_sweep)))
local macro_rules | `(tactic| walk_at "compareOp Eq bytes bytes") => `(tactic| (k_here; (with_reducible show wpAny _ _ (compareOp CmpOp.Eq (Value.bytes (List.toArray _) _) (Value.bytes (List.toArray _) _)) _ _ _); k_dflt (refine' eq_by ?_)))
local macro_rules | `(tactic| walk_at "binaryOp Add ref ref") => `(tactic| (k_here; (with_reducible show wpAny _ _ (binaryOp _ (Value.ref _) (Value.ref _)) _ _ _); k_dflt (refine' kmk_add_lit ?F ?N ?a ?b ?e ?_ ?z; (case F => k_asm); (case N => k_asm); (case a => kmk_list); (case b => kmk_list); (case e => exact cat1 _ _); (case z => walk_at "my size")); intro D' h' F' N' l1; (try k_lt l1); (try k_sweep)))
local macro_rules | `(tactic| walk_at "call ref") => `(tactic| (k_here; (with_reducible show wpAny _ _ (call (Value.ref 499) _ _) _ _ _); refine stop_of ?_))
local macro_rules | `(tactic| walk_at "call builtin:list.append") => `(tactic| (k_here; (with_reducible show wpAny _ _ (call (Value.builtin _) [Value.ref _, _]) _ _ _); k_dflt (refine' append_K ?k1 ?k2 ?k3 ?_ ?z; (case k1 => k_asm); (case k2 => k_asm); (case k3 => k_upd); (case z => walk_at "my size"); k_whole); intro h' F' N'; (try k_sweep)))
local macro_rules | `(tactic| boot_fact) => `(tactic| with_reducible exact boot_bytearray)
local macro_rules | `(tactic| walk_at "call builtin:isinstance") => `(tactic| (k_here; (with_reducible show wpAny _ _ (call (Value.builtin "isinstance") [Value.ref _, Value.type "bytearray"]) _ _ _); k_dflt (refine' isi_baN (xs := _) ?n ?m ?_; (case n => k_asm); (case m => k_mem))))
local macro_rules | `(tactic| boot_fact) => `(tactic| with_reducible exact boot_callable)
local macro_rules | `(tactic| walk_at "call builtin:callable") => `(tactic| (k_here; (with_reducible show wpAny _ _ (call (Value.builtin "callable") [Value.ref _]) _ _ _); k_dflt (first | (refine' callable_method ?n ?m ?_; (case n => k_asm); (case m => k_mem)) | (refine' callable_class ?x ?c ?t ?_; (case x => k_in); (case c => k_is); (case t => rfl)))))
local macro_rules | `(tactic| walk_at "ite") => `(tactic| first | with_reducible refine ite_bnot (by assumption) ?_ | with_reducible refine ite_bgo (by assumption) ?_)
theorem U_make {prog : Program} {w : World} {A₀ : Around} {base h₀ : Heap} {L : Addr} {m : Str → Option Value} {mg mb : Str → Option Value} {p : Program} {loose : List Str} {mean : ExcName → Option Value} {env : Env} {outer : List Env} {s : Shared} {Q E : Value → Shared → Prop}
    {H dH PL PA : Addr} {t1 t2 tm tr : Tok} {nd nw na : Nat} {ws as : List Value} {room rs : Nat}
    (B : Below A₀ base outer h₀) (F : Fr h₀ L s.heap m) (X : (MineHead.hd.heap_39 w.params).In h₀) (T : Top p loose mean mg mb h₀) (hf : env.frame = some L) (hke : env.scope.kind = .function)
    (N : News h₀ L s.heap [(H, instObj 481 dH), (dH, dictOf (parD w t1 t2 PL PA) nd), (PL, listOf ws.toArray nw), (PA, listOf as.toArray na)])
    (hd : List.Nodup ([H, dH, PL, PA] : List Nat)) (hrs : 1 ≤ rs) (hrm : rs ≤ room) (hr6 : 6 ≤ room)
    (hq : ∀ U dU Bf h' tk' ti tc ts τ v, Fr h₀ L h' m → List.Nodup ([H, dH, PL, PA, U, dU, Bf] : List Nat) →
      News h₀ L h' [(H, instObj 481 dH), (dH, dictOf (parD w t1 t2 PL PA) nd), (PL, listOf ws.toArray nw), (PA, listOf as.toArray na), (U, instObj 445 dU), (dU, dictOf (unpD w τ v H Bf 0 ti 0 tc room tm rs tr 0 ts) 22), (Bf, baObj [])] → Q (.ref U) { s with heap := h', toks := tk' }) :
    wpO (model prog w) (AA 405 1050 env outer) (call (.ref 445) [.ref H] [(Str.ofString "read_size", .int (rs : Int) tr), (Str.ofString "max_buffer_size", .int (room : Int) tm)]) Q E s := by
  have hd' := hd
  simp only [List.nodup_cons, List.mem_cons, List.not_mem_nil, or_false, not_or, List.nodup_nil, and_true, not_false_eq_true] at hd'
  obtain ⟨⟨q1, q2, q3⟩, ⟨q4, q5⟩, q6⟩ := hd'
  have hb1 : ((room : Int) != 0) = true := bne_iff_ne.mpr (by omega)
  have hb2 : ((rs : Int) != 0) = true := bne_iff_ne.mpr (by omega)
  refine wpO_call ?_
  refine codeO_make F N (X.keeps F.keep) (by k_dflt k_is) (by k_dflt k_is) (by k_dflt k_is) ?_
  intro x dx h1 F1 N1 hlt1 hx
  k_lt hlt1
  have hx1 : @Ne Nat x dx := Nat.ne_of_gt hx
  have hx2 : @Ne Nat dx H := Nat.ne_of_gt hlt1.1
  have hx3 : @Ne Nat dx dH := Nat.ne_of_gt hlt1.2.1
  have hx4 : @Ne Nat dx PL := Nat.ne_of_gt hlt1.2.2.1
  have hx5 : @Ne Nat dx PA := Nat.ne_of_gt hlt1.2.2.2
  have hx6 : @Ne Nat x H := Nat.ne_of_gt (Nat.lt_trans hlt1.1 hx)
  have hx7 : @Ne Nat x dH := Nat.ne_of_gt (Nat.lt_trans hlt1.2.1 hx)
  have hx8 : @Ne Nat x PL := Nat.ne_of_gt (Nat.lt_trans hlt1.2.2.1 hx)
  have hx9 : @Ne Nat x PA := Nat.ne_of_gt (Nat.lt_trans hlt1.2.2.2 hx)
  k_dflt (refine' codeO_def ?k1 ?k2 ?k3 ?k4 ?k5 ?kA ?kF ?kK ?k6 ?k7 ?k8 ?k9 ?kB ?_ ?c2 ?c3 ?c4 ?c5; (case kA => exact rfl); (case kF => exact hf); (case kK => exact hke); (case k1 => k_asm); (case k2 => k_asm); (case k3 => k_asm); (case k4 => k_asm); (case k5 => k_asm); (case k6 => k_is); (case k7 => k_is); (case k8 => exact Nat.le_of_ble_eq_true rfl); (case k9 => exact kp_binds (binds := [(Str.ofString "self", .ref x), (Str.ofString "file_like", .ref H), (Str.ofString "read_size", .int (rs : Int) tr), (Str.ofString "use_list", .bool true), (Str.ofString "raw", .bool false), (Str.ofString "timestamp", .int 0 800), (Str.ofString "strict_map_key", .bool true), (Str.ofString "object_hook", .none), (Str.ofString "object_pairs_hook", .none), (Str.ofString "list_hook", .none), (Str.ofString "unicode_errors", .none), (Str.ofString "max_buffer_size", .int (room : Int) tm), (Str.ofString "ext_hook", .ref 160), (Str.ofString "max_str_len", .int (-1) 803), (Str.ofString "max_bin_len", .int (-1) 805), (Str.ofString "max_array_len", .int (-1) 807), (Str.ofString "max_map_len", .int (-1) 809), (Str.ofString "max_ext_len", .int (-1) 811)]) (X.keeps F1.keep) (fun S => by kernel_rfl)); (case c5 => decide); (case kB => exact locs rfl); (case c2 => exact rfl); (case c3 => exact rfl); (case c4 => exact rfl))
  intro g' L' h' FG' F' N' B' X' T' hlt hO
  dsimp only
  refine wpO_leaf ?_
  k_steps
  refine wpO_leaf ?_
  k_steps
  (with_reducible rename Fr g' L' _ _ => F2)
  (with_reducible rename News g' L' _ _ => N2)
  (try dsimp only at F2 N2)
  dsimp only
  refine wpO_tok (g := s.gens) (d := s.drawn) (o := s.os) F2 rfl rfl rfl rfl (fun tk2 => ?_)
  refine wpO_execs_cons (wpO_Assign_Attr (wpO_Call ?_))
  k_steps
  refine wpO_callWith_type0 (wpO_bytearray0 F2 N2 ?_)
  intro Bf h3 F3 N3 hB3
  k_lt hB3
  k_steps
  (with_reducible rename Fr g' L' _ _ => F4)
  (with_reducible rename News g' L' _ _ => N4)
  (try dsimp only at F4 N4)
  dsimp only
  refine wpO_tok (g := s.gens) (d := s.drawn) (o := s.os) F4 rfl rfl rfl rfl (fun tk4 => ?_)
  refine wpO.of ?_
  k_steps
  (with_reducible rename Fr h₀ _ _ _ => kF)
  (with_reducible rename News h₀ _ _ _ => kN)
  dsimp only at kN
  refine' hq x dx Bf _ _ ?ti ?tc ?ts (fun k => [?u0, ?u1, ?u2, ?u3, ?u4, ?u5, ?u6, ?u7, ?u8, ?u9, ?u10, ?u11, ?u12, ?u13, ?u14, ?u15, ?u16, ?u17, ?u18, ?u19, ?u20, ?u21].getD k 0) (fun k => [.none, .none, .none, .none, .none, .none, .none, ?w7, ?w8, ?w9, ?w10, ?w11, ?w12, ?w13, ?w14, ?w15, ?w16, ?w17, ?w18, ?w19, ?w20].getD k .none) kF ?nd (fun q hq => ?nn)
  case nn =>
    simp only [List.mem_cons, List.not_mem_nil, or_false] at hq
    rcases hq with rfl | rfl | rfl | rfl | rfl | rfl | rfl
    · have k6 := kN _ (.tail _ (.tail _ (.tail _ (.tail _ (.head _)))))
      exact k6
    · have k6 := kN _ (.tail _ (.tail _ (.tail _ (.tail _ (.tail _ (.head _))))))
      exact k6
    · have k6 := kN _ (.tail _ (.tail _ (.tail _ (.tail _ (.tail _ (.tail _ (.head _)))))))
      exact k6
    · have k6 := kN _ (.tail _ (.tail _ (.tail _ (.tail _ (.tail _ (.tail _ (.tail _ (.head _))))))))
      exact k6
    · have k6 := kN _ (.tail _ (.tail _ (.head _)))
      exact k6
    · have k6 := kN _ (.tail _ (.tail _ (.tail _ (.head _))))
      exact k6
    · have k6 := kN _ (.head _)
      exact k6
  case nd =>
    simp only [List.nodup_cons, List.mem_cons, List.not_mem_nil, or_false, not_or, List.nodup_nil, and_true, not_false_eq_true]
    exact ⟨⟨q1, q2, q3, fun e => hx6 e.symm, fun e => hx2 e.symm, Nat.ne_of_lt hB3.2.2.2.1⟩, ⟨q4, q5, fun e => hx7 e.symm, fun e => hx3 e.symm, Nat.ne_of_lt hB3.2.2.2.2.1⟩, ⟨q6, fun e => hx8 e.symm, fun e => hx4 e.symm, Nat.ne_of_lt hB3.2.2.2.2.2.1⟩, ⟨fun e => hx9 e.symm, fun e => hx5 e.symm, Nat.ne_of_lt hB3.2.2.2.2.2.2⟩, ⟨hx1, Nat.ne_of_lt hB3.2.1⟩, Nat.ne_of_lt hB3.2.2.1⟩
end Mine
namespace Mine
open PySem PySem.W PySem.Calls PyProof.Rows
theorem wt_L3 : True := by
  w_top off
  trivial
local macro_rules | `(tactic| k_ne) => `(tactic| (refine neN ?_; (try dsimp only); first | assumption | (refine Ne.symm ?_; assumption) | omega))
local macro_rules | `(tactic| k_room) => `(tactic| exact Nat.le_of_ble_eq_true rfl)
local macro_rules | `(tactic| walk_at "my size") => `(tactic| ((try simp only [List.length_cons, List.length_nil, List.length_append, List.size_toArray, List.length_take, List.length_drop]); rw [sizeLine_eq]; omega))
local macro_rules | `(tactic| walk_at "call builtin:len") => `(tactic| (k_here; (with_reducible show wpAny _ _ (call (Value.builtin "len") [Value.bytes (List.toArray _) _]) _ _ _); k_dflt (refine' len_by ?z ?_; (case z => walk_at "my size"))))
local macro_rules | `(tactic| walk_at "call builtin:len") => `(tactic| (k_here; (with_reducible show wpAny _ _ (call (Value.builtin "len") [Value.ref _]) _ _ _); k_dflt (refine' len_baN (xs := _) ?n ?m ?z ?_; (case n => k_asm); (case m => k_mem); (case z => walk_at "my size"))))
local macro_rules | `(tactic| walk_at "call builtin:max") => `(tactic| (k_here; (with_reducible show wpAny _ _ (call (Value.builtin "max") [Value.int _ _, Value.int _ _]) _ _ _); k_dflt (refine' max_nat ?k1 ?k2 ?k3 ?_; (case k1 => exact rfl); (case k2 => k_asm); (case k3 => k_asm)); intro h' tk' t' F' N'))
local macro_rules | `(tactic| walk_at "exec Raise some none") => `(tactic| (k_here; (with_reducible show wpAny _ _ (exec (Stmt.Raise (some (Expr.Name _ _)) none _) _) _ _ _); k_dflt (refine' raise_ownK (bmB := [.type "Exception", .type "BaseException", .type "object"]) (newId := "Exception.__new__") ?F ?X ?T ?ex ?q PySem.F.excBase_Exception ?h ?_; (case F => k_asm); (case X => k_asm); (case T => k_asm); (case ex => k_is); (case q => k_exc); (case h => rfl))))
local macro_rules | `(tactic| walk_at "leaving ref") => `(tactic| (k_here; refine stop_of ?_))
local macro_rules | `(tactic| walk_at "truthy bytes") => `(tactic| (k_here; (with_reducible show wpAny _ _ (truthy (Value.bytes (List.toArray _) _)) _ _ _); k_dflt (refine' truthy_by ?z ?_; (case z => walk_at "my size")); (try simp only [List.isEmpty_cons, List.isEmpty_nil, Bool.not_false, Bool.not_true])))
local macro_rules | `(tactic| walk_at "my cut") => `(tactic| first | exact cut_upto _ _ | exact cut_from _ _ | exact cut_run' _ _ _)
local macro_rules | `(tactic| walk_at "subscriptTail") => `(tactic| (k_here; (with_reducible show wpAny _ _ (subscriptTail _ (Expr.Slice _ _ none _) (Value.ref _) (Value.ref _)) _ _ _); (with_reducible rename Fr _ _ _ _ => myF); (with_reducible rename News _ _ _ _ => myN); k_dflt (refine' ba_slice (s := ⟨_, _, _, _, _⟩) myF myN ?m ?l ?u ?z ?e ?_; (case m => k_mem); (case l => constructor); (case u => constructor); (case z => walk_at "my size"); (case e => walk_at "my cut")); clear myF myN; intro D' h' F' N' l1; (try k_lt l1); (try k_sweep)))
local macro_rules | `(tactic| walk_at "call type:bytes") => `(tactic| (k_here; (with_reducible show wpAny _ _ (call (Value.type "bytes") [Value.ref _]) _ _ _); k_dflt (refine' bytes_of_baN (xs := _) ?n ?m ?z ?_; (case n => k_asm); (case m => k_mem); (case z => walk_at "my size"))))
local macro_rules | `(tactic| walk_at "call ref") => `(tactic| (k_here; (with_reducible show wpAny _ _ (call (Value.ref 478) [_, Value.bytes (byteArr _) _] _) _ _ _); refine stop_of ?_))
local macro_rules | `(tactic| walk_at "subscriptTail") => `(tactic| (k_here; (with_reducible show wpAny _ _ (subscriptTail _ (Expr.Slice _ _ none _) (Value.bytes (List.toArray _) _) (Value.ref _)) _ _ _); (with_reducible rename Fr _ _ _ _ => myF); (with_reducible rename News _ _ _ _ => myN); k_dflt (refine' by_slice (s := ⟨_, _, _, _, _⟩) myF myN ?l ?u ?z ?e ?_; (case l => constructor); (case u => constructor); (case z => walk_at "my size"); (case e => walk_at "my cut")); clear myF myN; intro h' t' tk' F' N'; (try k_sweep)))
local macro_rules | `(tactic| walk_at "compareOp Eq bytes bytes") => `(tactic| (k_here; (with_reducible show wpAny _ _ (compareOp CmpOp.Eq (Value.bytes (List.toArray _) _) (Value.bytes (List.toArray _) _)) _ _ _); k_dflt (refine' eq_by ?_)))
local macro_rules | `(tactic| walk_at "binaryOp Add ref ref") => `(tactic| (k_here; (with_reducible show wpAny _ _ (binaryOp _ (Value.ref _) (Value.ref _)) _ _ _); k_dflt (refine' kmk_add_lit ?F ?N ?a ?b ?e ?_ ?z; (case F => k_asm); (case N => k_asm); (case a => kmk_list); (case b => kmk_list); (case e => exact cat1 _ _); (case z => walk_at "my size")); intro D' h' F' N' l1; (try k_lt l1); (try k_sweep)))
local macro_rules | `(tactic| walk_at "call ref") => `(tactic| (k_here; (with_reducible show wpAny _ _ (call (Value.ref 499) _ _) _ _ _); refine stop_of ?_))
local macro_rules | `(tactic| walk_at "call builtin:list.append") => `(tactic| (k_here; (with_reducible show wpAny _ _ (call (Value.builtin _) [Value.ref _, _]) _ _ _); k_dflt (refine' append_K ?k1 ?k2 ?k3 ?_ ?z; (case k1 => k_asm); (case k2 => k_asm); (case k3 => k_upd); (case z => walk_at "my size"); k_whole); intro h' F' N'; (try k_sweep)))
local macro_rules | `(tactic| boot_fact) => `(tactic| with_reducible exact boot_bytearray)
local macro_rules | `(tactic| walk_at "call builtin:isinstance") => `(tactic| (k_here; (with_reducible show wpAny _ _ (call (Value.builtin "isinstance") [Value.ref _, Value.type "bytearray"]) _ _ _); k_dflt (refine' isi_baN (xs := _) ?n ?m ?_; (case n => k_asm); (case m => k_mem))))
local macro_rules | `(tactic| boot_fact) => `(tactic| with_reducible exact boot_callable)
local macro_rules | `(tactic| walk_at "call builtin:callable") => `(tactic| (k_here; (with_reducible show wpAny _ _ (call (Value.builtin "callable") [Value.ref _]) _ _ _); k_dflt (first | (refine' callable_method ?n ?m ?_; (case n => k_asm); (case m => k_mem)) | (refine' callable_class ?x ?c ?t ?_; (case x => k_in); (case c => k_is); (case t => rfl)))))
local macro_rules | `(tactic| walk_at "ite") => `(tactic| first | with_reducible refine ite_bnot (by assumption) ?_ | with_reducible refine ite_bgo (by assumption) ?_)
local macro_rules | `(tactic| k_in) => `(tactic| (refine' Frag.In.keeps ?kx (Fr.keep ?kf); (case kf => with_reducible assumption); (case kx => with_reducible assumption)))
local macro_rules | `(tactic| walk_at "compareOp NotEq ref bytes") => `(tactic| (k_here; (with_reducible show wpAny _ _ (compareOp CmpOp.NotEq (Value.ref _) (Value.bytes _ _)) _ _ _); k_dflt (refine' ne_baN (xs := _) (ys := _) ?n ?m ?u ?_; (case n => k_asm); (case m => k_mem); (case u => exact Nat.le_of_ble_eq_true rfl))))
local macro_rules | `(tactic| walk_at "call ref") => `(tactic| (k_here; (with_reducible show wpAny _ _ (call (Value.ref 511) _ _) _ _ _); refine stop_of ?_))
theorem LAW : PySem.Challenge.rw_ag6004_01.Holds := MineHead.hd (by
  k_fill
  intro w s₀ s₁ mg mb G Y fa o pm cd doc dV kV ho hd hcd hD hmg hg args vals as hpre hlay hrd hwl hlo
  have KX := kIn_of Y
  have X := (Ground.X G).1
  have V := (Ground.X G).2
  refine Ground.open G ?_
  intro T B D TE TW
  try (refine guard_noD D (by decide +kernel) ?_; clear D)
  obtain ⟨_, _, M⟩ := bmod_of_top T
  have TA := at_of_top T
  try (obtain ⟨_, _, he, B0⟩ := based_of_top T rfl hmg ho hd; have he' : cd = _ := he; subst he'; clear he)
  clear hmg
  wrow_args hpre hlay hrd hwl hlo
  refine enter_callO ?_
  w_top on
  have K0 := below_caller (Top.heap T)
  have he := Dflts.none hD rfl
  subst he
  refine call_fullO (by decide) ho hd (Top.nolimit T) hcd (BindsTo.of_eq rfl) (locs rfl) fun h₁ F => ?_
  have N0 := (News.nil : News _ _ _ []).at F
  clear hd TA
  k_drop
  dsimp only
  (with_reducible rename IntsAre _ _ => hI)
  (with_reducible rename Heap.IsList _ _ _ => hL)
  obtain ⟨L, hLe⟩ : ∃ L, s₁.heap.objs.size = L := ⟨_, rfl⟩
  rw [hLe] at F N0 ⊢
  dsimp only at F
  refine wpO_tok (g := s₁.gens) (d := s₁.drawn) (o := s₁.os) F rfl rfl rfl rfl (fun tk0 => ?_)
  refine wpO_exec_join F (fun m0 σ => ∃ (hh : Heap) (tk : Nat) (fi : Int) (ft : Tok), σ = ⟨hh, s₁.gens, s₁.drawn, tk, s₁.os⟩ ∧ Fr s₁.heap L hh (fun y => if y = Str.ofString "first" then some (.int fi ft) else m0 y)) ?st1 ?k1
  case st1 =>
    cases hI with
    | nil =>
      k_steps
      all_goals ((with_reducible rename Fr _ L _ _ => gF); exact go_of ⟨trivial, _, _, _, _, rfl, gF⟩)
    | cons x xs h =>
      k_steps
      all_goals ((with_reducible rename Fr _ L _ _ => gF); exact go_of ⟨trivial, _, _, _, _, rfl, gF⟩)
  case k1 =>
    rintro σ ⟨h2, tk2, fi, ft, rfl, F2⟩
    clear F N0
    have N2 := (News.nil : News _ _ _ []).at F2
    refine wpO_leaf ?_
    k_steps
    (with_reducible rename Fr _ L _ _ => F3)
    obtain ⟨room, hr, hr6, hr30⟩ := room_of fi
    rw [hr] at F3
    dsimp only
    refine wpO_tok (g := s₁.gens) (d := s₁.drawn) (o := s₁.os) F3 rfl rfl rfl rfl (fun tk3 => ?_)
    refine wpO_leaf ?_
    k_steps
    (with_reducible rename Fr _ L _ _ => F4)
    obtain ⟨rs, hs, hs1, hsr⟩ := rs_of (fi.fdiv 25) hr6
    rw [hs] at F4
    dsimp only
    refine wpO_tok (g := s₁.gens) (d := s₁.drawn) (o := s₁.os) F4 rfl rfl rfl rfl (fun tk4 => ?_)
    refine wpO_exec_join F4 (fun m0 σ => ∃ (hh : Heap) (tk : Nat) (H dH PL PA : Addr) (t1 t2 : Tok) (nd nw na : Nat) (ws : List Value), σ = ⟨hh, s₁.gens, s₁.drawn, tk, s₁.os⟩ ∧ Fr s₁.heap L hh (fun y => if y = Str.ofString "held" then some (.ref H) else m0 y) ∧
      News s₁.heap L hh [(H, instObj 481 dH), (dH, dictOf (parD w t1 t2 PL PA) nd), (PL, listOf (List.toArray ws) nw), (PA, listOf (List.toArray []) na)] ∧ BAre ws ps0 ∧ List.Nodup ([H, dH, PL, PA] : List Nat)) ?st2 ?k2
    case st2 =>
      k_steps
      (with_reducible rename Fr _ L _ _ => gF)
      (with_reducible rename News _ L _ _ => gN)
      dsimp only at gN
      refine' go_of ⟨rfl, _, _, _, _, _, _, _, _, _, _, _, [_, _, _, _], rfl, gF, news4 gN (.tail _ (.tail _ (.head _))) (.tail _ (.tail _ (.tail _ (.head _)))) (.tail _ (.head _)) (.head _), ⟨⟨_, rfl⟩, ⟨_, rfl⟩, ⟨_, rfl⟩, ⟨_, rfl⟩, trivial⟩, ?nd⟩
      case nd =>
        simp only [List.nodup_cons, List.mem_cons, List.not_mem_nil, or_false, not_or, List.nodup_nil, and_true, not_false_eq_true]
        exact ⟨⟨news_ne gN (.tail _ (.tail _ (.head _))) (.tail _ (.tail _ (.tail _ (.head _)))) (fun e => nomatch e), by omega, by omega⟩, ⟨by omega, by omega⟩, by omega⟩
    case k2 =>
      rintro σ ⟨h5, tk5, H, dH, PL, PA, t1, t2, nd, nw, na, ws, rfl, F5, N5, hw5, hd5⟩
      clear F4
      refine wpO_execs_cons (wpO_Assign_Name (wpO_Call ?_))
      k_steps
      refine wpO_callWith_KW KX (by k_dflt k_is) rfl ?_
      k_steps
      refine wpO_upto (d := 405) (u := 1050) (env := envOf _ _ _ _ _) (outer := []) ⟨rfl, Nat.le_of_ble_eq_true rfl, rfl, Nat.le_of_ble_eq_true rfl⟩ (U_make (room := room) (rs := rs) K0 F5 KX T rfl rfl N5 hd5 hs1 hsr hr6 ?hq1)
      case hq1 =>
        intro U dU Bf h6 tk6 ti tc ts τ v F6 hd6 N6
        clear F5 N5
        k_steps
        (with_reducible rename Fr _ L _ _ => F7)
        (with_reducible rename News _ L _ _ => N7)
        dsimp only at F7 N7
        dsimp only
        refine wpO_tok (g := s₁.gens) (d := s₁.drawn) (o := s₁.os) F7 rfl rfl rfl rfl (fun tk7 => ?_)
        refine wpO_exec_join F7 (fun m0 σ => ∃ (hh : Heap) (tk : Nat) (S W SA : Addr) (gt tt pt rt st : Tok) (n7 nww naa : Nat) (ww : List Value), σ = ⟨hh, s₁.gens, s₁.drawn, tk, s₁.os⟩ ∧ Fr s₁.heap L hh (fun y => if y = Str.ofString "state" then some (.ref S) else m0 y) ∧
          News s₁.heap L hh [(H, instObj 481 dH), (dH, dictOf (parD w t1 t2 PL PA) nd), (PL, listOf (List.toArray ws) nw), (PA, listOf (List.toArray []) na), (U, instObj 445 dU), (dU, dictOf (unpD w τ v H Bf 0 ti 0 tc room (tk2 + 1 + 1 + 1) rs (tk3 + 1 + 1 + 1 + 1) 0 ts) 22), (Bf, baObj []),
            (S, listOf #[.bytes (List.toArray []) gt, .int ((0 : Nat) : Int) tt, .int ((0 : Nat) : Int) pt, .int (room : Int) rt, .ref W, .ref SA, .int (rs : Int) st] n7), (W, listOf (List.toArray ww) nww), (SA, listOf (List.toArray []) naa)] ∧ BAre ww ps0 ∧ List.Nodup ([H, dH, PL, PA, U, dU, Bf, S, W, SA] : List Nat)) ?st3 ?k3
        case st3 =>
          k_steps
          (with_reducible rename Fr _ L _ _ => gF)
          (with_reducible rename News _ L _ _ => gN)
          dsimp only at gN
          (with_reducible rename _ ∧ _ => l3)
          revert l3
          (with_reducible rename _ ∧ _ => l2)
          revert l2
          (with_reducible rename _ ∧ _ => l1)
          intro l2 l3
          refine' go_of ⟨rfl, _, _, _, _, _, _, _, _, _, _, _, _, _, [_, _, _, _], rfl, gF, news73 (news_drop3 gN) (news3 gN (.head _) (.tail _ (.tail _ (.head _))) (.tail _ (.head _))), ⟨⟨_, rfl⟩, ⟨_, rfl⟩, ⟨_, rfl⟩, ⟨_, rfl⟩, trivial⟩, ?nd3⟩
          case nd3 =>
            exact nodup10 hd6 l1 l2.1 l3.1
        case k3 =>
          rintro σ ⟨h8, tk8, S, W, SA, gt, tt, pt, rt, st, n7, nww, naa, ww, rfl, F8, N8, hw8, hd8⟩
          obtain ⟨got2, ps2, az, hLk, hRs, e2, z1, z2, z3, z4, z5⟩ := sync0 hs1 hr6
          have hd8' := hd8
          simp only [List.nodup_cons, List.mem_cons, List.not_mem_nil, or_false, not_or, List.nodup_nil, and_true, not_false_eq_true] at hd8'
          obtain ⟨⟨q1, q2, q3, q4, q5, q6, q22, q23, q24⟩, ⟨q7, q8, q9, q10, q11, q25, q26, q27⟩, ⟨q12, q13, q14, q15, q28, q29, q30⟩, ⟨q16, q17, q18, q31, q32, q33⟩, ⟨q19, q20, q34, q35, q36⟩, ⟨q21, q37, q38, q39⟩, ⟨q40, q41, q42⟩, ⟨q43, q44⟩, q45⟩ := hd8'
          refine wpO_leaf ?_
          k_steps
          refine go_of ?_
          refine wpAny_upto (d := 405) (u := 1050) (env := envOf _ _ _ _ _) (outer := []) ⟨rfl, Nat.le_of_ble_eq_true rfl, rfl, Nat.le_of_ble_eq_true rfl⟩ (L_lack (need := 2) (insists := true) (S := S) (W := W) (SA := SA) (ps := ps0) (ns := []) (got := []) (told := 0) (place := 0) (room := room) (rs := rs) K0 F8 KX T rfl rfl (News.drop7 N8) hw8 IntsAre.nil q43 q44 q45 (by decide) (by rw [hw8.length]; decide) (by decide) (by decide) (by decide) (by decide) hs1 (Nat.le_refl _) (Nat.zero_le _) ?hq9)
          case hq9 =>
            rw [hLk]
            intro h9 tk9 wt gt9 pt9 W9 n9 nw9 na9 ws9 as9 O9 F9 N9 hw9 ha9 hW9
            have w1 := new_ne hW9 (N8 _ (.head _)).1 q23
            have w2 := new_ne hW9 (N8 _ (.tail _ (.head _))).1 q26
            have w3 := new_ne hW9 (N8 _ (.tail _ (.tail _ (.head _)))).1 q29
            have w4 := new_ne hW9 (N8 _ (.tail _ (.tail _ (.tail _ (.head _))))).1 q32
            have w5 := new_ne hW9 (N8 _ (.tail _ (.tail _ (.tail _ (.tail _ (.head _)))))).1 q35
            have w6 := new_ne hW9 (N8 _ (.tail _ (.tail _ (.tail _ (.tail _ (.tail _ (.head _))))))).1 q38
            have w7 := new_ne hW9 (N8 _ (.tail _ (.tail _ (.tail _ (.tail _ (.tail _ (.tail _ (.head _)))))))).1 q41
            have w8 := new_ne hW9 (N8 _ (.tail _ (.tail _ (.tail _ (.tail _ (.tail _ (.tail _ (.tail _ (.head _))))))))).1 q43
            have w9 : @Ne Nat W9 SA := fun e => (new_ne hW9 (N8 _ (.tail _ (.tail _ (.tail _ (.tail _ (.tail _ (.tail _ (.tail _ (.tail _ (.tail _ (.head _))))))))))).1 (fun e => q45 e.symm)) e.symm
            have hd9 := nodup_new hd8 w1 w2 w3 w4 w5 w6 w7 w8 w9
            have N10 := News.append (O9.news (News.take7 N8) (fun q hq hm => by
              simp only [List.mem_cons, List.not_mem_nil, or_false] at hq hm
              rcases hq with rfl | rfl | rfl | rfl | rfl | rfl | rfl <;> rcases hm with e | e | e <;> first | exact q22 e | exact q23 e | exact q24 e | exact q25 e | exact q26 e | exact q27 e | exact q28 e | exact q29 e | exact q30 e | exact q31 e | exact q32 e | exact q33 e | exact q34 e | exact q35 e | exact q36 e | exact q37 e | exact q38 e | exact q39 e | exact q40 e | exact q41 e | exact q42 e)) N9
            simp only [List.cons_append, List.nil_append] at N10
            dsimp only at hw9 ha9 N10
            clear N9 N8 F8
            k_steps
            dsimp only
            refine wpO_tok (g := s₁.gens) (d := s₁.drawn) (o := s₁.os) F9 rfl rfl rfl rfl (fun tk10 => ?_)
            refine wpO_execs_cons (wpO_If (wpO_isTrue_Compare1 (wpO_methodCall ?_)))
            k_steps
            refine wpO_callWith_K KX (by k_dflt k_is) ?_
            k_steps
            refine wpO_upto (d := 395) (u := 950) (env := envOf _ _ _ _ _) (outer := []) ⟨rfl, Nat.le_of_ble_eq_true rfl, rfl, Nat.le_of_ble_eq_true rfl⟩ (U_read (raise := true) (n := 2) (xs := []) (i := 0) (ck := 0) (ps := ps0) (ns := []) K0 F9 KX T rfl rfl (News.take7 N10) (nodup7 hd9) hw5 IntsAre.nil (by decide) (by rw [hw5.length]; decide) (by decide) (by decide) (by decide) (by decide) hs1 (Nat.le_refl _) (Nat.zero_le _) (.inr ⟨rfl, rfl, rfl⟩) ?hq11 ?hE11)
            case hE11 =>
              rw [hRs]
              intro C e t vs h3 g₂ tk3 ti3 tc3 nd3 nw3 na3 ws3 as3 hC
              rcases hC with ⟨hC, _⟩ | ⟨hC, _⟩
              · exact absurd (show (0 : Nat) = 1 from hC) (by decide)
              · exact absurd (show (0 : Nat) = 2 from hC) (by decide)
            case hq11 =>
              rw [hRs]
              intro D11 h11 tk11 ti11 tc11 nd11 nw11 na11 ws11 as11 hwd11 O11 F11 N11 hD11 hw11 ha11
              dsimp only at hw11 ha11 N11
              simp only [List.drop_zero, e2, List.length_cons, List.length_nil, Nat.zero_add, Nat.reduceAdd] at N11
              have N12 := News.append N11 (O11.news (News.drop7 N10) (fun q hq hm => by
                simp only [List.mem_cons, List.not_mem_nil, or_false] at hq hm
                rcases hq with rfl | rfl | rfl <;> rcases hm with e | e | e | e | e | e | e <;> first | exact q22 e.symm | exact q25 e.symm | exact q28 e.symm | exact q31 e.symm | exact q34 e.symm | exact q37 e.symm | exact q40 e.symm | exact w1 e.symm | exact w2 e.symm | exact w3 e.symm | exact w4 e.symm | exact w5 e.symm | exact w6 e.symm | exact w7 e.symm | exact q24 e.symm | exact q27 e.symm | exact q30 e.symm | exact q33 e.symm | exact q36 e.symm | exact q39 e.symm | exact q42 e.symm))
              simp only [List.cons_append, List.nil_append] at N12
              have v1 := ne_none (N10 _ (.head _)).1 hD11
              have v2 := ne_none (N10 _ (.tail _ (.head _))).1 hD11
              have v3 := ne_none (N10 _ (.tail _ (.tail _ (.head _)))).1 hD11
              have v4 := ne_none (N10 _ (.tail _ (.tail _ (.tail _ (.head _))))).1 hD11
              have v5 := ne_none (N10 _ (.tail _ (.tail _ (.tail _ (.tail _ (.head _)))))).1 hD11
              have v6 := ne_none (N10 _ (.tail _ (.tail _ (.tail _ (.tail _ (.tail _ (.head _))))))).1 hD11
              have v7 := ne_none (N10 _ (.tail _ (.tail _ (.tail _ (.tail _ (.tail _ (.tail _ (.head _)))))))).1 hD11
              have v8 := ne_none (N10 _ (.tail _ (.tail _ (.tail _ (.tail _ (.tail _ (.tail _ (.tail _ (.head _))))))))).1 hD11
              have v9 := ne_none (N10 _ (.tail _ (.tail _ (.tail _ (.tail _ (.tail _ (.tail _ (.tail _ (.tail _ (.head _)))))))))).1 hD11
              have v10 := ne_none (N10 _ (.tail _ (.tail _ (.tail _ (.tail _ (.tail _ (.tail _ (.tail _ (.tail _ (.tail _ (.head _))))))))))).1 hD11
              clear N10 N11 F9
              k_steps
              refine wpO_execs_nil ?_
              (try dsimp only)
              refine wpO_tok (g := s₁.gens) (d := s₁.drawn) (o := s₁.os) F11 rfl rfl rfl rfl (fun tk12 => ?_)
              refine wpO_leaf ?_
              k_steps
              (with_reducible rename Fr _ L _ _ => F13)
              (with_reducible rename News _ L _ _ => N13)
              (try dsimp only at F13 N13)
              (try dsimp only)
              refine wpO_tok (g := s₁.gens) (d := s₁.drawn) (o := s₁.os) F13 rfl rfl rfl rfl (fun tk13 => ?_)
              refine wpO_execs_cons (wpO_IfLeaf ?_)
              k_steps
              · (with_reducible rename (_ != _) = true => hb)
                simp at hb
              (with_reducible rename Fr _ L _ _ => F14)
              (with_reducible rename News _ L _ _ => N14)
              (try dsimp only at F14 N14)
              refine wpO_execs_nil ?_
              (try dsimp only)
              refine wpO_tok (g := s₁.gens) (d := s₁.drawn) (o := s₁.os) F14 rfl rfl rfl rfl (fun tk14 => ?_)
              have N15 := news73 (News.take7 (News.tail N14)) (news3 N14 (.tail _ (.tail _ (.tail _ (.tail _ (.tail _ (.tail _ (.tail _ (.tail _ (.tail _ (.head _)))))))))) (.tail _ (.tail _ (.tail _ (.tail _ (.tail _ (.tail _ (.tail _ (.tail _ (.tail _ (.tail _ (.head _))))))))))) (.tail _ (.tail _ (.tail _ (.tail _ (.tail _ (.tail _ (.tail _ (.tail _ (.tail _ (.tail _ (.tail _ (.head _)))))))))))))
              clear N14 v1 v2 v3 v4 v5 v6 v7 v8 v9 v10
              refine wpO_For_join F14 (fun m0 it n σ => ∃ (hh : Heap) (tk : Nat) (itA l : Addr) (on : Option Value) (vs : List Value) (zs : List Int) (i : Nat), it = .ref itA ∧ σ = ⟨hh, s₁.gens, s₁.drawn, tk, s₁.os⟩ ∧ Fr s₁.heap L hh (fun y => if y = Str.ofString "number" then on else m0 y) ∧
                CoreN w s₁.heap L hh H dH PL PA U dU Bf S SA t1 t2 (tk2 + 1 + 1 + 1) (tk3 + 1 + 1 + 1 + 1) rt st τ v room rs i ∧ Side s₁.heap L [H, dH, PL, PA, U, dU, Bf, S, SA] itA l ∧ hh.IsListIter itA l i ∧ hh.IsList l vs.toArray ∧ IntsAre vs zs ∧ zs.length ≤ 40 ∧ i + n = zs.length)
                (fun m0 σ => ∃ (hh : Heap) (tk : Nat) (on : Option Value) (j : Nat), σ = ⟨hh, s₁.gens, s₁.drawn, tk, s₁.os⟩ ∧ Fr s₁.heap L hh (fun y => if y = Str.ofString "number" then on else m0 y) ∧ CoreN w s₁.heap L hh H dH PL PA U dU Bf S SA t1 t2 (tk2 + 1 + 1 + 1) (tk3 + 1 + 1 + 1 + 1) rt st τ v room rs j ∧ j ≤ 40) ?it1 ?turn1 ?k4 (by intro _; rfl) (by intro _ _; rfl)
              case it1 =>
                k_steps
                (with_reducible rename Fr _ L _ _ => F16)
                (with_reducible rename News _ L _ _ => N16)
                (with_reducible rename _ ∧ _ => l1)
                (with_reducible rename IntsAre _ (List.take 40 _) => hI40)
                refine wpAny_pyIter_list ⟨_, (N16 _ (.head _)).1, rfl, _, rfl⟩ ?_
                refine' go_of ⟨_, _, _, _, _, none, _, _, 0, rfl, rfl, fr_congr (F16.push _) ?mm, ⟨W9, got2, 0, 2, 0, ps2, az, ws11, as11, ws9, as9, _, _, _, _, _, _, _, _, _, _, _, _, News.pushKeep (News.tail N16) _, hd9, hw11, hw9, ha11, ha9, ?inv⟩, ?side, ⟨_, Heap.get?_push_size _ rfl, rfl, rfl⟩, ⟨_, Heap.get?_push_of_some _ (N16 _ (.head _)).1, rfl, _, rfl⟩, hI40, ?len, Nat.zero_add _⟩
                case mm =>
                  intro y
                  by_cases c : y = Str.ofString "number"
                  · subst c; with_unfolding_all rfl
                  · simp only [if_neg c]
                case inv => exact ⟨Nat.le_refl _, Nat.zero_le _, z1, by omega, z3, z4, by omega⟩
                case len => rw [List.length_take]; exact Nat.min_le_left _ _
                case side =>
                  refine ⟨F16.fresh, (N16 _ (.head _)).2.2, fun e => N16.apart _ (.head _) e.symm, Nat.ne_of_lt F16.ns.lt, fun e => (N16 _ (.head _)).2.1 e.symm, fun q hq => ?_⟩
                  simp only [List.mem_cons, List.not_mem_nil, or_false] at hq
                  rcases hq with rfl | rfl | rfl | rfl | rfl | rfl | rfl | rfl | rfl
                  · exact ⟨N16.apart _ (.tail _ (.head _)), Nat.ne_of_lt l1.1⟩
                  · exact ⟨N16.apart _ (.tail _ (.tail _ (.head _))), Nat.ne_of_lt l1.2.1⟩
                  · exact ⟨N16.apart _ (.tail _ (.tail _ (.tail _ (.head _)))), Nat.ne_of_lt l1.2.2.1⟩
                  · exact ⟨N16.apart _ (.tail _ (.tail _ (.tail _ (.tail _ (.head _))))), Nat.ne_of_lt l1.2.2.2.1⟩
                  · exact ⟨N16.apart _ (.tail _ (.tail _ (.tail _ (.tail _ (.tail _ (.head _)))))), Nat.ne_of_lt l1.2.2.2.2.1⟩
                  · exact ⟨N16.apart _ (.tail _ (.tail _ (.tail _ (.tail _ (.tail _ (.tail _ (.head _))))))), Nat.ne_of_lt l1.2.2.2.2.2.1⟩
                  · exact ⟨N16.apart _ (.tail _ (.tail _ (.tail _ (.tail _ (.tail _ (.tail _ (.tail _ (.head _)))))))), Nat.ne_of_lt l1.2.2.2.2.2.2.1⟩
                  · exact ⟨N16.apart _ (.tail _ (.tail _ (.tail _ (.tail _ (.tail _ (.tail _ (.tail _ (.tail _ (.head _))))))))), Nat.ne_of_lt l1.2.2.2.2.2.2.2.1⟩
                  · exact ⟨N16.apart _ (.tail _ (.tail _ (.tail _ (.tail _ (.tail _ (.tail _ (.tail _ (.tail _ (.tail _ (.tail _ (.head _))))))))))), Nat.ne_of_lt l1.2.2.2.2.2.2.2.2.2⟩
              case turn1 =>
                rintro it n σ ⟨hh, tk, itA, l, on, vs, zs, i, rfl, rfl, F, ⟨W, got, told, place, off, ps, ns, wh, ah, ww, aa, nd', nw', na', n7', nww', naa', ti', tc', ts', gt', tt', pt', N, hdd, hw, hww, ha, haa, I⟩, SD, hit, hl, hv, h40, hin⟩
                clear N15 F14
                clear q1 q2 q3 q4 q5 q6 q7 q8 q9 q10 q11 q12 q13 q14 q15 q16 q17 q18 q19 q20 q21 q22 q23 q24 q25 q26 q27 q28 q29 q30 q31 q32 q33 q34 q35 q36 q37 q38 q39 q40 q41 q42 q43 q44 q45 w1 w2 w3 w4 w5 w6 w7 w8 w9 hd9 hd8
                have hWit := ne_iter (N _ (.tail _ (.tail _ (.tail _ (.tail _ (.tail _ (.tail _ (.tail _ (.tail _ (.head _)))))))))).1 hit
                by_cases hlt : i < zs.length
                · obtain ⟨t, hx⟩ := hv.get i zs[i] (by simp [hlt])
                  have hWl := ne_ints (N _ (.tail _ (.tail _ (.tail _ (.tail _ (.tail _ (.tail _ (.tail _ (.tail _ (.head _)))))))))).1 hww hl hv hlt
                  refine wpAny_pyNext_list_item hit hl (x := .int zs[i] t) (by simpa using hx) (fun h1 hit1 hsb => ?_)
                  have F1 := F.change hsb SD.i4.symm SD.i1
                  have N1 := news_same N hsb (all10 (fun q hq => (SD.i6 q hq).1) hWit)
                  obtain ⟨ol, hol, hcl, hdl⟩ := hl
                  have hol1 := (hsb.2 _ SD.i3.symm).trans hol
                  obtain ⟨oi, hoi, hci, hdi⟩ := hit1
                  have N2 := news10_2 N1 (news2 ⟨hoi, SD.i4.symm, SD.i1⟩ ⟨hol1, SD.i5.symm, SD.i2⟩)
                  clear F N N1 hit hsb hol hoi hol1
                  generalize zs[i] = z
                  obtain ⟨wy, hwy, hwy8⟩ := way_of z
                  k_steps
                  refine wpO_execs_cons (wpO_If (wpO_isTrue_not (wpO_isTrue_call (wpO_Call ?_))))
                  k_steps
                  refine wpO_callWith_K KX (by k_dflt k_is) ?_
                  k_steps
                  (with_reducible rename Fr _ L _ _ => F3)
                  (with_reducible rename News _ L _ _ => N3)
                  rw [hwy]
                  refine wpO_upto (d := 380) (u := 800) (env := envOf _ _ _ _ _) (outer := []) ⟨rfl, Nat.le_of_ble_eq_true rfl, rfl, Nat.le_of_ble_eq_true rfl⟩ (T_deed (way := wy) (j := i) (ps := ps) (ns := ns) (got := got) (told := told) (place := place) (off := off) (room := room) (rs := rs) K0 F3 KX T KX T (fun b hb => nomatch hb) rfl rfl (take10 N3) hdd hw hww ha haa I (by omega) hs1 hwy8 ?hqd)
                  case hqd =>
                    intro got3 told3 place3 off3 ps3 ns3 g3 h3 tk3' wh3 ah3 ww3 aa3 W3 nd3 nw3 na3 n73 nww3 naa3 ti3 tc3 ts3 gt3 tt3 pt3 I3 T3 O4 F4 N4 hd4 hw4 hww4 ha4 haa4 _ _ _ _
                    have F5' := fr_back T3 F4
                    have N5' := news_back T3 N4
                    have e1 := O4 itA oi (not10 (fun q hq => (SD.i6 q hq).1) hWit) (fun hm => (frames_mem rfl hm).elim (fun e => SD.i4 e.symm) (fun e => nomatch e)) (N3 _ (.tail _ (.tail _ (.tail _ (.tail _ (.tail _ (.tail _ (.tail _ (.tail _ (.tail _ (.tail _ (.head _)))))))))))).1
                    have e2' := O4 l ol (not10 (fun q hq => (SD.i6 q hq).2) hWl) (fun hm => (frames_mem rfl hm).elim (fun e => SD.i5 e.symm) (fun e => nomatch e)) (N3 _ (.tail _ (.tail _ (.tail _ (.tail _ (.tail _ (.tail _ (.tail _ (.tail _ (.tail _ (.tail _ (.tail _ (.head _))))))))))))).1
                    clear F4 N4 F3 N3
                    k_steps
                    refine wpO_execs_nil ?_
                    (try dsimp only)
                    refine wpO_execs_nil ?_
                    (try dsimp only)
                    refine' go_of ⟨n - 1, by omega, h3, _, itA, l, some (.int z t), vs, zs, i + 1, rfl, rfl, fr_congr F5' (fun y => ?mm2), ⟨W3, got3, told3, place3, off3, ps3, ns3, wh3, ah3, ww3, aa3, nd3, nw3, na3, n73, nww3, naa3, ti3, tc3, ts3, gt3, tt3, pt3, N5', hd4, hw4, hww4, ha4, haa4, I3⟩, SD, ⟨oi, e1, hci, hdi⟩, ⟨ol, e2', hcl, hdl⟩, hv, h40, by omega⟩
                    case mm2 =>
                      by_cases c : y = Str.ofString "number"
                      · subst c; with_unfolding_all rfl
                      · simp only [if_neg c]
                · have hn0 : n = 0 := by omega
                  refine wpAny_pyNext_list_end rfl hit hl (by have := hv.length; simp; omega) (fun h1 hext => ?_)
                  exact go_of ⟨h1, _, on, i, rfl, fr_ext F hext SD.i4 SD.i1, ⟨W, got, told, place, off, ps, ns, wh, ah, ww, aa, nd', nw', na', n7', nww', naa', ti', tc', ts', gt', tt', pt', news_ext N hext (all10 (fun q hq => (SD.i6 q hq).1) hWit), hdd, hw, hww, ha, haa, I⟩, by omega⟩
              case k4 =>
                rintro σ ⟨hh, tk, on, j, rfl, F, ⟨W, got, told, place, off, ps, ns, wh, ah, ww, aa, nd', nw', na', n7', nww', naa', ti', tc', ts', gt', tt', pt', N, hdd, hw, hww, ha, haa, I⟩, hj⟩
                clear N15 F14
                clear q1 q2 q3 q4 q5 q6 q7 q8 q9 q10 q11 q12 q13 q14 q15 q16 q17 q18 q19 q20 q21 q22 q23 q24 q25 q26 q27 q28 q29 q30 q31 q32 q33 q34 q35 q36 q37 q38 q39 q40 q41 q42 q43 q44 q45 w1 w2 w3 w4 w5 w6 w7 w8 w9 hd9 hd8
                have hI1 := I.h1
                have hI2 := I.h2
                have hI3 := I.h3
                have hIz := I.z1
                have hI5 := I.z4
                have hal := ha.length
                have haal := haa.length
                have hdd' := hdd
                simp only [List.nodup_cons, List.mem_cons, List.not_mem_nil, or_false, not_or, List.nodup_nil, and_true, not_false_eq_true] at hdd'
                obtain ⟨⟨r1, r2, r3, r4, r5, r6, r22, r23, r24⟩, ⟨r7, r8, r9, r10, r11, r25, r26, r27⟩, ⟨r12, r13, r14, r15, r28, r29, r30⟩, ⟨r16, r17, r18, r31, r32, r33⟩, ⟨r19, r20, r34, r35, r36⟩, ⟨r21, r37, r38, r39⟩, ⟨r40, r41, r42⟩, ⟨r43, r44⟩, r45⟩ := hdd'
                refine wpO.of ?_
                k_steps
                all_goals ((with_reducible rename Fr _ L _ _ => gF))
                · rw [show (List.drop (place - off) (List.drop off got) == List.drop place got) = true from by rw [List.drop_drop, show off + (place - off) = place from by omega]; exact beq_self_eq_true _]
                  exact GoodW.toG (goodW_bool gF hg (fun _ => rfl) (law_post _) rfl)
                · rw [show ((told : Int) == (told : Int)) = true from beq_self_eq_true _]
                  exact GoodW.toG (goodW_bool gF hg (fun _ => rfl) (law_post _) rfl)
)
end Mine
theorem PySem.Challenge.cw_ag6004_01_holds : PySem.Challenge.rw_ag6004_01.Holds :=
  Mine.LAW
