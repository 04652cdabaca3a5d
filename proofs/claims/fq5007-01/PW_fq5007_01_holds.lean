import PyProof.Rows.All
import Wide.All
import OpenK.AllK
import Wide.FinOn
import KE.IntText
import KE.KIntText
import KE.KxPercent
import KE.KNest
import KE.KBytesWalk
import KE.KRevSl
import KE.LcTurns
import KE.KStateW
import Lean
import PySem.Challenge.RW_fq5007_01
set_option Elab.async false
set_option maxRecDepth 100000
set_option maxHeartbeats 8000000
local macro_rules | `(tactic| walk_at "subscriptTail") => `(tactic| k_extra "subscriptTail")
local macro_rules | `(tactic| walk_at "storeName") => `(tactic| k_extra "storeName")
local macro_rules | `(tactic| walk_at "call builtin:len") => `(tactic| k_extra "call builtin:len")
local macro_rules | `(tactic| walk_at "truthy ref") => `(tactic| k_extra "truthy ref")
local macro_rules | `(tactic| walk_at "call ref") => `(tactic| k_extra "call ref")
local macro_rules | `(tactic| walk_at "InvEndN") => `(tactic| k_extra "InvEndN")
local macro_rules | `(tactic| walk_at "call type:tuple") => `(tactic| k_extra "call type:tuple")
local macro_rules | `(tactic| walk_at "call builtin:list.append") => `(tactic| k_extra "call builtin:list.append")
local macro_rules | `(tactic| walk_at "call builtin:str.join") => `(tactic| k_extra "call builtin:str.join")
local macro_rules | `(tactic| walk_at "eval GeneratorExp") => `(tactic| k_extra "eval GeneratorExp")
local macro_rules | `(tactic| walk_at "call type:bytes") => `(tactic| k_extra "call type:bytes")
local macro_rules | `(tactic| walk_at "call builtin:bytearray.reverse") => `(tactic| k_extra "call builtin:bytearray.reverse")
local macro_rules | `(tactic| walk_at "call builtin:bytearray.append") => `(tactic| k_extra "call builtin:bytearray.append")
local macro_rules | `(tactic| walk_at "getMethod ref") => `(tactic| k_extra "getMethod ref")
local macro_rules | `(tactic| walk_at "subscriptTail Name Slice ref ref") => `(tactic| k_extra "subscriptTail Name Slice ref ref")
local macro_rules | `(tactic| walk_at "call type:list") => `(tactic| k_extra "call type:list")
local macro_rules | `(tactic| walk_at "compareOp NotEq bytes bytes") => `(tactic| k_extra "compareOp NotEq bytes bytes")
local macro_rules | `(tactic| walk_at "binaryOp Pow int int") => `(tactic| k_extra "binaryOp Pow int int")
section
/-! FqC -/
open PySem PySem.W PyProof.Rows
namespace Fq
open Builtin.Bytes (exported)

/-- what `exported` asks of one place of the stack, read off the model itself -/
def exF (self : Value) (x : Code × Pos) : Bool := match exported self with
  | .stack k => (match k [x] with | .pure b => b | _ => true)
  | _ => true
theorem exported_eq (self : Value) : exported self = .stack fun st => .pure (st.any (exF self)) := by
  have h : ∃ F : Value → Code × Pos → Bool, ∀ self, exported self = .stack fun st => .pure (st.any (F self)) := ⟨_, fun _ => rfl⟩
  obtain ⟨F, hF⟩ := h
  rw [hF self]
  have e : F self = exF self := by
    funext x
    unfold exF
    rw [hF self]
    show F self x = (F self x || false)
    rw [Bool.or_false]
  rw [e]

def CleanC (c : Code) : Prop := ∀ self p, exF self (c, p) = false
/-- the claim's own caller, at the foot of the stack -/
def isCaller (c : Code) : Bool := match c with
  | .builtin "claim.caller" _ => true
  | _ => false
def CleanB (l : List (Code × Pos)) : Prop := (∀ x ∈ l, CleanC x.1) ∧ ∃ x ∈ l, isCaller x.1 = true
def Clean (Γ : Ctx) : Prop := CleanB ((Γ.code, default) :: Γ.below)
theorem CleanB.cons {c : Code} {p : Pos} {l : List (Code × Pos)} (kc : CleanC c) (k : CleanB l) : CleanB ((c, p) :: l) :=
  ⟨fun x hx => (List.mem_cons.mp hx).elim (fun e => e ▸ kc) (k.1 x), let ⟨x, hx, e⟩ := k.2; ⟨x, List.mem_cons_of_mem _ hx, e⟩⟩
theorem CleanB.pos {c : Code} {p q : Pos} {l : List (Code × Pos)} (k : CleanB ((c, p) :: l)) : CleanB ((c, q) :: l) := by
  refine ⟨fun x hx => ?_, ?_⟩
  · rcases List.mem_cons.mp hx with e | hx
    · rw [e]; exact k.1 (c, p) List.mem_cons_self
    · exact k.1 x (List.mem_cons_of_mem _ hx)
  · obtain ⟨x, hx, e⟩ := k.2
    rcases List.mem_cons.mp hx with e2 | hx
    · exact ⟨(c, q), List.mem_cons_self, by rw [e2] at e; exact e⟩
    · exact ⟨x, List.mem_cons_of_mem _ hx, e⟩

theorem clean_func (b : List Stmt) (e : Env) : CleanC (.func b e) := fun _ _ => rfl
theorem clean_while (t : Expr) (b o : List Stmt) (e : Env) : CleanC (.whileLoop t b o e) := fun _ _ => rfl
theorem clean_for (t : Expr) (v : Value) (b o : List Stmt) (e : Env) : CleanC (.forLoop t v b o e) := fun _ _ => rfl
theorem clean_block (b : List Stmt) (e : Env) : CleanC (.block b e) := fun _ _ => rfl
theorem clean_call (f : Value) (a : Args) : CleanC (.call f a) := fun _ _ => rfl
theorem clean_caller : CleanC (.builtin "claim.caller" {}) := fun _ _ => rfl
theorem clean_handlers (e : Value) (hs : List ExceptHandler) (env : Env) : CleanC (.handlers e hs env) := fun _ _ => rfl
theorem clean_append (a b : Value) : CleanC (.builtin "bytearray.append" ⟨[a, b], []⟩) := fun self p => by
  show ((_ && Builtin.Bytes.decodersThatHold.contains "bytearray.append") || false) = false
  rw [show Builtin.Bytes.decodersThatHold.contains "bytearray.append" = false from by decide +kernel]
  simp

/-- as wpAny, but of contexts alone on whose stack nothing holds a bytearray -/
def wpC {α : Type} (M : Model) (A : Around) (t : Sem α) (Q : α → Shared → Prop) (E : Value → Shared → Prop) (s : Shared) : Prop :=
  ∀ Γ p, Γ.In A → Clean Γ → Sem.wp M Γ t (fun a _ s' => Q a s') (fun e _ s' => E e s') p s
def codeC (M : Model) (A : Around) (c : Code) (R : Result → Shared → Prop) (s : Shared) : Prop :=
  ∀ Γ p, Γ.code = c → Γ.Below A → CleanB Γ.below → wpCode M Γ R p s

section
variable {α β : Type} {M : Model} {A : Around} {E : Value → Shared → Prop} {s : Shared}
theorem wpC_any {t : Sem α} {Q : α → Shared → Prop} (h : wpAny M A t Q E s) : wpC M A t Q E s := fun Γ p hΓ _ => h Γ p hΓ
theorem codeC_any {c : Code} {R : Result → Shared → Prop} (h : codeAny M A c R s) : codeC M A c R s := fun Γ p hc hΓ _ => h Γ p hc hΓ
theorem wpC_mono {t : Sem α} {Q Q' : α → Shared → Prop} {E' : Value → Shared → Prop} (h : wpC M A t Q E s)
    (hQ : ∀ a s, Q a s → Q' a s) (hE : ∀ e s, E e s → E' e s) : wpC M A t Q' E' s :=
  fun Γ p hΓ k => Sem.wp_mono M Γ t (fun a _ s => hQ a s) (fun e _ s => hE e s) p s (h Γ p hΓ k)
theorem wpC_pure {a : α} {Q : α → Shared → Prop} (h : Q a s) : wpC M A (pure a) Q E s := fun _ _ _ _ => h
theorem wpC_bind {m : Sem α} {f : α → Sem β} {Q : β → Shared → Prop} (h : wpC M A m (fun a s' => wpC M A (f a) Q E s') E s) :
    wpC M A (m >>= f) Q E s := fun Γ p hΓ k => by
  rw [Sem.wp_bind']
  exact Sem.wp_mono M Γ m (fun a p' s' h' => h' Γ p' hΓ k) (fun _ _ _ h' => h') p s (h Γ p hΓ k)
/-- a leaf: the library's rule for the first part, the clean contexts behind it -/
theorem wpC_leaf {m : Sem α} {f : α → Sem β} {Q : β → Shared → Prop} (h : wpAny M A m (fun a s' => wpC M A (f a) Q E s') E s) :
    wpC M A (m >>= f) Q E s := wpC_bind (wpC_any h)
theorem wpC_tryCatch {m : Sem α} {k : Value → Sem α} {Q : α → Shared → Prop} (h : wpC M A m Q (fun e s' => wpC M A (k e) Q E s') s) :
    wpC M A (tryCatch m k) Q E s := fun Γ p hΓ c => by
  rw [Sem.wp_tryCatch']
  exact Sem.wp_mono M Γ m (fun _ _ _ h' => h') (fun e p' s' h' => h' Γ p' hΓ c) p s (h Γ p hΓ c)
theorem wpC_onRaise {m : Sem α} {k : Value → Sem Unit} {Q : α → Shared → Prop}
    (h : wpC M A m Q (fun e s' => wpC M A (k e) (fun _ s'' => E e s'') E s') s) : wpC M A (m.onRaise k) Q E s := fun Γ p hΓ c => by
  rw [Sem.wp_onRaise]
  exact Sem.wp_mono M Γ m (fun _ _ _ h' => h') (fun e p' s' h' => h' Γ p' hΓ c) p s (h Γ p hΓ c)
theorem wpC_attempt {m : Sem α} {Q : Except Value α → Shared → Prop} (h : wpC M A m (fun a => Q (.ok a)) (fun e => Q (.error e)) s) :
    wpC M A m.attempt Q E s := fun Γ p hΓ c => by rw [Sem.wp_attempt]; exact h Γ p hΓ c
theorem wpC_holding {vs : List Value} {m : Sem α} {Q : α → Shared → Prop} (h : wpC M A m Q E s) : wpC M A (holding vs m) Q E s :=
  fun Γ p hΓ c => by rw [Sem.wp_holding]; exact h Γ p hΓ c
theorem wpC_keep {vs : List Value} {m : Sem α} {Q : α → Shared → Prop} (h : wpC M A m Q E s) : wpC M A (m.keep vs) Q E s :=
  fun Γ p hΓ c => by rw [Sem.wp_keep]; exact h Γ p hΓ c
theorem wpC_standAt {pos : Pos} {Q : Unit → Shared → Prop} (h : Q () s) : wpC M A (standAt pos) Q E s := wpC_any (wpAny_standAt h)
/-- the one fact that the library's contexts cannot give -/
theorem wpC_exported {self : Value} {Q : Bool → Shared → Prop} (h : Q false s) : wpC M A (exported self) Q E s := fun Γ p _ k => by
  rw [exported_eq self]
  show Sem.wp M Γ (.stack _) _ _ p s
  rw [Sem.wp_stack, Sem.wp_pure]
  have e : ((Γ.code, p) :: Γ.below).any (exF self) = false := by
    rw [List.any_eq_false]
    intro x hx
    rcases List.mem_cons.mp hx with rfl | hx
    · rw [show exF self (Γ.code, p) = false from k.pos.1 (Γ.code, p) List.mem_cons_self self p]; decide
    · rw [show exF self x = false from k.1 x (List.mem_cons_of_mem _ hx) self x.2]; decide
  rw [e]
  exact h

theorem codeC_mono {c : Code} {R R' : Result → Shared → Prop} (h : codeC M A c R s) (hR : ∀ r s, R r s → R' r s) : codeC M A c R' s :=
  fun Γ p hc hΓ k => wpCode_mono hR (h Γ p hc hΓ k)
theorem wpC_run {c : Code} {h : Option Value} {Q : Flow → Shared → Prop}
    (hc : codeC M (A.mark h) c (fun r s' => match r with | .ok f => Q f s' | .error e => E e s') s) (hnb : h ≠ some byPass := by intro x; cases x) :
    wpC M A (run c h) Q E s := fun Γ p hΓ k => by
  rw [Sem.wp_run]
  refine hc _ p rfl (hΓ.enter c h p hnb) k.pos
theorem wpC_call {f : Value} {pos : List Value} {kw : List (Str × Value)} {Q : Value → Shared → Prop}
    (hc : codeC M A (.call f ⟨pos, kw⟩) (fun r s' => match r with | .ok (.ret v) => Q v s' | .ok _ => False | .error e => E e s') s) :
    wpC M A (call f pos kw) Q E s := fun Γ p hΓ k => by
  show Sem.wp M Γ (runValue _) _ _ p s
  rw [Sem.wp_runValue]
  refine hc _ p rfl (hΓ.enter _ none p (by intro x; cases x)) k.pos
theorem codeC_of_tree {c : Code} {R : Result → Shared → Prop} (kc : CleanC c)
    (h : wpC M (A.under c) (M.den c) (fun fin s' => match fin with | .done f => R (.ok f) s' | .again c' => c'.quiet = true ∧ codeC M A c' R s')
      (fun e s' => R (.error e) s') s) : codeC M A c R s := fun Γ p hc hΓ k => by
  rw [wpCode_iff_wp, hc]
  refine Sem.wp_mono M Γ _ (fun fin p' s' h' => ?_) (fun _ _ _ h' => h') p s (h Γ p (hc ▸ hΓ.in) (k.cons (hc ▸ kc)))
  cases fin with
  | done f => exact h'
  | again c' => exact ⟨h'.1, h'.2 (Γ.goto c') p' rfl (hΓ.goto c') k⟩
/-- the same where the code itself may be unclean: its own tree asks no stack -/
theorem codeC_of_any {c : Code} {R : Result → Shared → Prop}
    (h : wpAny M (A.under c) (M.den c) (fun fin s' => match fin with | .done f => R (.ok f) s' | .again c' => c'.quiet = true ∧ codeC M A c' R s')
      (fun e s' => R (.error e) s') s) : codeC M A c R s := fun Γ p hc hΓ k => by
  rw [wpCode_iff_wp, hc]
  refine Sem.wp_mono M Γ _ (fun fin p' s' h' => ?_) (fun _ _ _ h' => h') p s (h Γ p (hc ▸ hΓ.in))
  cases fin with
  | done f => exact h'
  | again c' => exact ⟨h'.1, h'.2 (Γ.goto c') p' rfl (hΓ.goto c') k⟩
/-- no refusal is marked where the claim's caller stands below -/
theorem wpC_noMark {own : List String} {e : Value} {Q : Unit → Shared → Prop} (h : Q () s) : wpC M A (markTheRefusal own e) Q E s := fun Γ p _ k => by
  unfold markTheRefusal
  show Sem.wp M Γ (Sem.stack fun st => (if pythonCodeMadeTheCall own (st.map (·.1)) = true then _ else pure ())) _ _ p s
  rw [Sem.wp_stack]
  have e : pythonCodeMadeTheCall own (((Γ.code, p) :: Γ.below).map (·.1)) = false := by
    obtain ⟨x, hx, hc⟩ := (CleanB.pos (q := p) k).2
    have hany : (((Γ.code, p) :: Γ.below).map (·.1)).any isCaller = true := List.any_eq_true.mpr ⟨x.1, List.mem_map_of_mem hx, hc⟩
    obtain ⟨b, hb⟩ : ∃ b, pythonCodeMadeTheCall own (((Γ.code, p) :: Γ.below).map (·.1)) = ((!(((Γ.code, p) :: Γ.below).map (·.1)).any isCaller) && b) := ⟨_, Bool.and_assoc _ _ _⟩
    rw [hb, hany]
    rfl
  rw [if_neg (by rw [e]; exact Bool.false_ne_true)]
  exact h
theorem wpC_in1 {t : Sem α} {Q : α → Shared → Prop} (h : wpC M A.in1 t Q E s) : wpC M A t Q E s :=
  fun Γ p hΓ k => h Γ p ⟨hΓ.1, hΓ.2.1, hΓ.2.2.1, hΓ.2.2.2.1, Nat.le_succ_of_le hΓ.2.2.2.2⟩ k
end

section
variable {prog : Program} {w : World} {A : Around} {E : Value → Shared → Prop} {s : Shared} {R : Result → Shared → Prop}
theorem codeC_func {body : List Stmt} {env : Env}
    (h : wpC (model prog w) (A.deeper env) (execs body env) (fun f s' => R (.ok (.ret (match f with | .ret v => v | _ => .none))) s')
      (fun e s' => wpAny (model prog w) (A.deeper env) (leaving env e) (fun _ s'' => R (.error e) s'') (fun e' s'' => R (.error e') s'') s') s) :
    codeC (model prog w) A (.func body env) R s := by
  refine codeC_of_tree (clean_func _ _) ?_
  show wpC _ (A.deeper env) (do point; match ← (execs body env).onRaise (leaving env) with | .ret v => ret v | _ => ret .none) _ _ s
  refine wpC_leaf (wpAny_point (wpC_bind (wpC_onRaise (wpC_mono h (fun f s' h' => ?_) fun _ _ h' => wpC_any h'))))
  cases f <;> exact wpC_pure h'
theorem codeC_call_function {a : Addr} {args : Args} {o : Obj} {fd : FuncData} {body : List Stmt} (hroom : A.depth < recursionLimit)
    (ho : s.heap.get? a = some o) (hd' : o.data = .func fd) (hco : fd.scope.isCoroutine = false) (hgen : fd.scope.isGenerator = false) (hbody : fd.body = .stmts body) (hcd : s.heap.CodeRec fd.code fd.qualname)
    (h : wpAny (model prog w) A.in1 (bindArgs fd args) (fun binds s₁ =>
      wpAny (model prog w) A.in1 (newFunctionEnv fd.scope fd.globals fd.closure binds (fd.qualname ++ ".<locals>.") (some a) fd.code none fd.builtins)
        (fun env s₂ => s₂.heap.NoLimit ∧ codeC (model prog w) A (.func body env) R s₂) (fun e s' => R (.error e) s') s₁) (fun e s' => R (.error e) s') s) :
    codeC (model prog w) A (.call (.ref a) args) R s := by
  refine codeC_of_any ?_
  show wpAny _ A.in1 (callAny (.ref a) args) _ _ s
  simp only [callAny]
  refine wpAny_bind (wpAny_load ho ?_)
  obtain ⟨c, oc, vs, tq, hc, hoc, hdc, hq⟩ := hcd
  simp only [hd', callFunction, hco, hgen, hbody, hc]
  rw [hc] at h
  refine wpAny_bind (m := field (.ref c) 1) (wpAny_field hoc hdc hq (wpAny_bind (wpAny_pure ?_)))
  exact wpAny_bind (wpAny_mono h (fun binds s₁ h₁ => wpAny_bind (wpAny_mono h₁ (fun env s₂ h₂ => wpAny_bind (wpAny_enterFrame h₂.1 hroom
    (wpAny_pure (And.intro rfl h₂.2)))) fun _ _ h' => h')) fun _ _ h' => h')
theorem codeC_call_def {a : Addr} {o : Obj} {fd : FuncData} {body : List Stmt} {args : Args} {binds : List (Str × Value)}
    (hroom : A.depth < recursionLimit) (ho : s.heap.get? a = some o) (hdata : o.data = .func fd) (hlim : s.heap.NoLimit) (hcd : s.heap.CodeRec fd.code fd.qualname)
    (hbody : fd.body = .stmts body) (hbind : BindsTo s fd args binds)
    (hcell : ∀ x ∈ fd.scope.names, x.2 ≠ .cell) (hloc : ∀ x ∈ binds, fd.scope.names.lookup x.1 = some .local)
    (h : ∀ h₀, h₀.Ns s.heap.objs.size (fun x => binds.reverse.lookup x) → (∀ b o, s.heap.get? b = some o → h₀.get? b = some o) →
      wpC (model prog w) (A.deeper (callEnv fd s.heap.objs.size a)) (execs body (callEnv fd s.heap.objs.size a)) (fun f s' => R (.ok (.ret (match f with | .ret v => v | _ => .none))) s')
        (fun e s' => wpAny (model prog w) (A.deeper (callEnv fd s.heap.objs.size a)) (leaving (callEnv fd s.heap.objs.size a) e) (fun _ s'' => R (.error e) s'') (fun e' s'' => R (.error e') s'') s')
        { s with heap := h₀, toks := s.toks + binds.length })
    (hco : fd.scope.isCoroutine = false := by rfl) (hgen : fd.scope.isGenerator = false := by rfl) (hk : fd.scope.kind = .function := by rfl) :
    codeC (model prog w) A (.call (.ref a) args) R s := by
  refine codeC_call_function hroom ho hdata hco hgen hbody hcd (hbind _ _ _ _ ?_)
  refine wpAny_newFunctionEnv hcell hloc (fun h₀ hns₀ hsb₀ => ⟨hlim.fresh _ hsb₀, codeC_func (h h₀ hns₀ fun b o e => ?_)⟩) hk
  exact hsb₀.extBut b o (Nat.ne_of_lt (Heap.lt_size e)) (Heap.get?_push_of_some _ e)
end

section
variable {prog : Program} {w : World} {A₀ A : Around} {s : Shared} {base h₀ : Heap} {outer : List Env} {L : Addr} {m : Str → Option Value} {env : Env} {news : List (Addr × Obj)} {K : Frag}
  {R : Result → Shared → Prop} {name qual : Str} {params : Arguments} {body : List Stmt} {scope : Scope} {dV kV doc pm cdv ct oc : Value} {an od : Option Addr} {osl : Array (Option Value)} {f : Addr} {args : Args} {binds : List (Str × Value)}
  {p : Program} {loose : List Str} {mean : ExcName → Option Value} {mg mb : Str → Option Value}
/-- a def of the text, entered in clean contexts -/
theorem codeC_def (B : Below A₀ base outer h₀) (F : Fr h₀ L s.heap m) (X₀ : K.In h₀) (N : News h₀ L s.heap news) (T : Top p loose mean mg mb h₀) (hA : A.frames = some (env :: outer)) (hf : env.frame = some L) (hke : env.scope.kind = .function)
    (ho : K.lookup f = some ⟨oc, od, .func (fnOf name qual params body scope dV kV doc pm an cdv ct), osl⟩) (hcd : codeIn K cdv qual = true) (hroom : A.depth < recursionLimit)
    (hbind : BindsTo s (fnOf name qual params body scope dV kV doc pm an cdv ct) args binds) (hloc : ∀ y ∈ binds, scope.names.lookup y.1 = some .local)
    (h : ∀ g L' h₁, Fr h₀ L g m → Fr g L' h₁ (fun y => binds.reverse.lookup y) → News g L' h₁ news → Below A base (env :: outer) g → K.In g → Top p loose mean mg mb g →
      wpC (model prog w) (A.deeper (envOf qual scope L' f cdv)) (execs body (envOf qual scope L' f cdv))
        (fun fl s' => LeaveK h₀ L m g R (match fl with | .ret v => v | _ => .none) s')
        (fun e s' => wpAny (model prog w) (A.deeper (envOf qual scope L' f cdv)) (leaving (envOf qual scope L' f cdv) e) (fun _ s'' => R (.error e) s'') (fun e' s'' => R (.error e') s'') s')
        { s with heap := h₁, toks := s.toks + binds.length })
    (hco : scope.isCoroutine = false) (hgen : scope.isGenerator = false) (hk : scope.kind = .function)
    (hcell : ∀ x ∈ scope.names, x.2 ≠ .cell) : codeC (model prog w) A (.call (.ref f) args) R s := by
  obtain ⟨FG, BG, st, lv⟩ := groundX (R := R) B F N hA hf hke
  refine codeC_call_def (fd := fnOf name qual params body scope dV kV doc pm an cdv ct) (body := body) (binds := binds) hroom ((X₀.keeps F.keep) _ _ ho) rfl (T.nolimit.keeps F.keep) (codeRec_of (X₀.keeps F.keep) hcd) rfl hbind hcell hloc (fun h₁ hns hk₁ => ?_) hco hgen hk
  exact wpC_mono (h _ s.heap.objs.size h₁ FG ⟨hns, fun b o e => hk₁ b o (of_hideAll _ e), Nat.le_of_eq (hideAll_size _ _)⟩
    (fun p hp => ⟨hk₁ _ _ (N p hp).1, Nat.ne_of_lt (Heap.lt_size (N p hp).1), hideAll_none _ (List.mem_map_of_mem hp)⟩) BG (X₀.keeps st) (T.keeps st)) (fun fl s' hl => lv _ _ hl) fun _ _ y => y
end
end Fq
end
section
/-! FqHd -/
open PySem PySem.W PySem.Calls PyProof.Rows
namespace Fq

/-- a thread that waits for the claim's call has the clean stack of all: none below it -/
theorem ends_C {prog : Program} {w : World} {t : Sem Fin} {s : Shared} {R : Result → Shared → Prop} (hreg : s.asleep)
    (h : wpC (model prog w) callerA t (fun fin s' => ∃ f, fin = .done f ∧ (R (.ok f) s' ∧ leftWithCleanup s'.gens = false)) (fun e s' => R (.error e) s' ∧ leftWithCleanup s'.gens = false) s) :
    ∃ n r s' s'', runN (denote table) prog w n s ⟨t, .builtin "claim.caller" {}, default, []⟩ = .halted (outcomeOf r) s' ∧
      schedN (denote table) prog w n (.single s ⟨t, .builtin "claim.caller" {}, default, []⟩) = .halted (outcomeOf r) s' ∧ s'.forget = s''.forget ∧ R r s'' := by
  have h0 := h ⟨.builtin "claim.caller" {}, none, none, [], none⟩ default caller_in ⟨fun x hx => by rw [List.mem_singleton.mp hx]; exact clean_caller, _, List.mem_singleton_self _, rfl⟩
  obtain ⟨n, r, s₁, s₂, hs, hn, hfo, hR⟩ := wp_halts_full (M := model prog w) (R := R) hreg
    (Sem.wp_mono _ _ t (fun fin p' s' h' => by obtain ⟨f, rfl, hf⟩ := h'; exact hf) (fun _ _ _ h' => h') default s h0)
  exact ⟨n, r, s₂, s₁, hn, hs, hfo, hR⟩

abbrev WalkC (q : Program) (loose : List Str) (XP : (Str → Option Value) → Heap → Prop) (YP : World → Heap → Prop) (r : RowW) (d : DefRec) (kwd : List (Str × Expr)) : Prop :=
  ∀ (w : World) (s₀ s₁ : Shared) (mg mb : Str → Option Value), Ground q loose r.records XP w s₀ mg mb s₁.heap → YP w s₁.heap → ∀ (a : Addr) (o : Obj) (pm cd doc dV kV : Value), s₁.heap.get? a = some o →
    o.data = .func { docDef d.name d.params d.body d.scope pm cd doc with defaults := dV, kwdefaults := kV } → s₁.heap.CodeRec cd d.name → Dflts mg s₁.heap d.params kwd dV kV → mg d.name = some (.ref a) → s₁.gens = #[] →
    ∀ (args : List WData) (vals : List Value) (as : List Addr), r.claim.pre args = true → WData.layableAll args = true → ReadsAllW r.records (classAt s₀.heap) s₁.heap vals args as → WellAll w.params s₁.heap vals args → (∀ a ∈ as, (a == sysModules) = false) →
      wpC (model r.prog w) callerA (PySem.call (.ref a) vals) (fun v s' => GoodWG r.claim (classAt s₀.heap) (ExcName.means s₀.heap) args s₁ (.ok (.ret v)) s')
        (fun e s' => GoodWG r.claim (classAt s₀.heap) (ExcName.means s₀.heap) args s₁ (.error e) s') s₁

theorem callFrom_C {c : ClaimW} {tree : List Value → Sem Fin} {w : World} {s : Shared} {free : Addr → Prop} {gens : Prop} {kept : Heap → Prop} (hz : s.asleep) (hgens : s.gens = #[])
    (spec : ∀ args, c.pre args = true → WData.layableAll args = true → ∀ ord : List DictEntry → List DictEntry, (∀ l, (ord l).Perm l) →
      ∃ vs s₁, layAllW c.records (classAt s.heap) w.params ord args s = some (vs, s₁) ∧
        wpC (model c.prog w) callerA (tree vs) (fun fin s' => ∃ f, fin = .done f ∧ ((c.Ends s args vs s₁ (.ok f) s' ∧ s'.os = s.os ∧ kept s'.heap) ∧ leftWithCleanup s'.gens = false))
          (fun e s' => (c.Ends s args vs s₁ (.error e) s' ∧ s'.os = s.os ∧ kept s'.heap) ∧ leftWithCleanup s'.gens = false) s₁) :
    c.CallFrom (fun vs => ⟨tree vs, .builtin "claim.caller" {}, default, []⟩) w free gens kept s := by
  intro args hpre hlay ord hord
  obtain ⟨vs, s₁, hl, hc⟩ := spec args hpre hlay ord hord
  have hal := layAllW_rest _ _ _ hl
  obtain ⟨k, r, s', s'', hrun, hsch, hfo, hE, hos, hk⟩ := ends_C (prog := c.prog) (w := w) (s := s₁) (R := fun r s' => c.Ends s args vs s₁ r s' ∧ s'.os = s.os ∧ kept s'.heap) (Shared.asleep_of_life hal.2.2.2 hz) hc
  obtain ⟨eh, _, _, eo, _⟩ := Shared.forget_eq hfo
  have hE := hE.congr eh
  have hk : kept s'.heap := by rw [eh]; exact hk
  have hlife : s'.heap.life = s.heap.life := (runN_life _ _ _ hrun).trans hal.2.2.2
  refine ⟨vs, s₁, hl, k, _, s', hsch, ?_, (fun _ i x hx => by rw [hgens] at hx; simp at hx), hk, by rw [hlife], Shared.rest_eq (eo.trans hos)⟩
  rcases hE with ⟨v, rfl, d1, d2, d3, d4, d5⟩ | ⟨e, ob, cls, rfl, d1, d2, d3, d4, d5⟩
  · exact .inl ⟨v, rfl, d1, d2, d3, fun b o y _ => d4 b o y, d5⟩
  · exact .inr ⟨e, ob, cls, rfl, d1, d2, d3, d4, fun b o y _ => d5 b o y⟩

theorem PySem.W.holds_open {r : OpenRow} {q : Program} {loose : List Str} {Xt : Shared → Bool} {XP : (Str → Option Value) → Heap → Prop} {α : Type} {Yf : Shared → α} {Ya : World → α} {YP : World → Heap → Prop} {d : DefRec} {kwd : List (Str × Expr)} {N : Nat}
    (left : LeftO r.prog q loose Xt Yf Ya N) (hY : ∀ w s, Yf s = Ya w → YP w s.heap) (hYk : ∀ w h h', YP w h → (∀ b o, h.get? b = some o → h'.get? b = some o) → YP w h')
    (hX : ∀ s, Xt s = true → XP (s.heap.nsMap mainGlobals) s.heap) (hXk : ∀ mg h h', XP mg h → (∀ b o, h.get? b = some o → h'.get? b = some o) → XP mg h')
    (hdef : defOf q r.name = some (d, kwd)) (hp : r.prog.theDef r.name = some (d.params, d.body, d.scope)) (hk : kwWritten? d.params.kwonlyargs d.params.kw_defaults = some kwd) (hRf : ∀ s, Xt s = true → RecFacts r.records s.heap) (hwr : (!r.writes || r.records.isEmpty) = true)
    (k1 : r.wellSaid = true) (ok : (chainsOk q && opensWell r.prog && (frees r.toRowW && r.within.isEmpty)) = true) (hb : r.prog.bare) (hw : r.toRowW.promised)
    (call : WalkC q loose XP YP r.toRowW d kwd) : r.Holds := by
  obtain ⟨ok, k5⟩ := Bool.and_eq_true_iff.mp ok
  obtain ⟨hch, o1⟩ := Bool.and_eq_true_iff.mp ok
  obtain ⟨k5, k6⟩ := Bool.and_eq_true_iff.mp k5
  obtain ⟨hsame, hu, ha, hap, hm⟩ := frees_parts k5
  refine ⟨k1, hw, ⟨hb, o1, by show r.toRowW.makers.map _ = []; rw [hm]; rfl⟩, hw.witness, fun w => ⟨(left.behind hX hch w).1, fun s' hs' => ?_⟩⟩
  obtain ⟨s₀, hf, hg0, s, hT, hz, hgens, hg, G00, y⟩ := (left.behind (XP := fun mg h => XP mg h ∧ RecFacts r.records h) (fun s hs => ⟨hX s hs, hRf s hs⟩) hch w).2 s' hs'
  have G0 : Ground q loose [] XP w s (s.heap.nsMap mainGlobals) (s.heap.nsMap builtinsNs) s.heap := ⟨G00.T, G00.B, G00.D, G00.TE, G00.TD, G00.W, G00.X.1, G00.cls, G00.has, G00.apart, G00.once, G00.K⟩
  have RF := G00.X.2
  refine ⟨s₀, hf, hg0, s, hT, fun n hn => ?_, RF.1, RF.2.1, ?_⟩
  · obtain rfl : n = r.name := by split at hn <;> simp_all
    exact pinned_of_view hg G0 hdef hp hk
  have hgens : s.gens = #[] := Array.eq_empty_of_size_eq_zero (beq_iff_eq.mp hgens)
  have G : Ground q loose r.records XP w s _ _ s.heap := RF.ground G0
  refine callFrom_C (c := r.toRowW.claim) hz hgens fun args hpre hlay ord hord => ?_
  obtain ⟨⟨vs, s₁⟩, hlaid⟩ := Option.isSome_iff_exists.mp (layAllW_isSome (P := w.params) (ord := ord) G.has args r.args s (pre_splitW hpre).1)
  have keeps := layAllW_keeps _ _ _ hlaid
  have hal := layAllW_rest _ _ _ hlaid
  obtain ⟨as, hrd, hin, hold⟩ := reads_layAllW hord _ _ _ hlaid hlay s₁.heap (fun _ _ e => e)
  have Ld : Laid r.records w s s₁ args vs as := ⟨⟨ord, hord, hlaid⟩, hrd, hin, hold, keeps, hal.1.trans hgens, hal.2.2.1⟩
  have G₁ := G.keeps hXk keeps
  obtain ⟨a, o, pm, cd, doc, dV, kV, h1, h2, h3, h4, h5⟩ := G₁.fn hdef
  have hwalk := call w s s₁ _ _ G₁ (hYk _ _ _ (hY w s y) keeps) a o pm cd doc dV kV h2 h3 h4 h5 (defOf_name hdef ▸ h1) Ld.gens args vs as hpre hlay Ld.reads Ld.well (Ld.low G.low)
  have hi := ident_freeW hu ha hap
  have hwi : r.toRowW.claim.within = [] := List.isEmpty_iff.mp k6
  refine ⟨vs, s₁, hlaid, wpC_leaf (wpAny_nsGet G₁.T.g ?_)⟩
  rw [h1]
  refine wpC_bind (wpC_mono hwalk (fun v s' g => wpC_pure ?_) fun e s' g => ?_)
  · have z := g.laid (c := r.toRowW.claim) hsame hwi hi Ld
    exact ⟨_, rfl, ⟨z.1, z.2.1, fun q => ⟨namesKept_of hT hg _ keeps g.2.1.old, noTable hwr q⟩⟩, leftWithCleanup_false_of_bare z.2.2⟩
  · have z := g.laid (c := r.toRowW.claim) hsame hwi hi Ld
    exact ⟨⟨z.1, z.2.1, fun q => ⟨namesKept_of hT hg _ keeps g.2.1.old, noTable hwr q⟩⟩, leftWithCleanup_false_of_bare z.2.2⟩
open_top hd for PySem.Challenge.rw_fq5007_01
end Fq
end
section
/-! FqM -/
open PySem PySem.W PySem.Calls PySem.Spec PyProof.Rows
namespace Fq
/-! the plain law -/
def zz (v : Int) : Int := if v < 0 then -2 * v - 1 else 2 * v
def dz (n : Int) : Int := if n % 2 = 0 then n / 2 else -(n / 2) - 1
theorem bitAnd_neg1 (x : Int) : Builtin.bitAnd x (-1) = x := by
  have h := bitAnd_not x 0
  rw [bitAnd_zero, show Builtin.bitNot 0 = -1 from by decide +kernel] at h
  omega
theorem zz_math {v : Int} (h1 : -(2 ^ 63) ≤ v) (h2 : v < 2 ^ 63) : Builtin.bitXor (v * 2 ^ Int.toNat 1) (v.fdiv (2 ^ Int.toNat 63)) = zz v := by
  have e1 : (2 : Int) ^ Int.toNat 1 = 2 := by decide
  have e2 : (2 : Int) ^ Int.toNat 63 = 9223372036854775808 := by decide
  rw [e1, e2, Int.fdiv_eq_ediv_of_nonneg _ (by decide), bitXor_and]
  unfold zz
  by_cases h : v < 0
  · rw [if_pos h]
    have : v / 9223372036854775808 = -1 := by omega
    rw [this, bitAnd_neg1]
    omega
  · rw [if_neg h]
    have : v / 9223372036854775808 = 0 := by omega
    rw [this, bitAnd_zero]
    omega
theorem dz_math {n : Int} (h : 0 ≤ n) : Builtin.bitXor (n.fdiv (2 ^ Int.toNat 1)) (-Builtin.bitAnd n 1) = dz n := by
  have e1 : (2 : Int) ^ Int.toNat 1 = 2 := by decide
  rw [e1, Int.fdiv_eq_ediv_of_nonneg _ (by decide), bitXor_and, bitAnd_m1]
  unfold dz
  by_cases q : n % 2 = 0
  · rw [if_pos q, q, show (-(0 : Int)) = 0 from by decide, bitAnd_zero]
    omega
  · rw [if_neg q]
    have : n % 2 = 1 := by omega
    rw [this, bitAnd_neg1]
    omega
theorem dz_zz (v : Int) : dz (zz v) = v := by
  unfold dz zz
  by_cases h : v < 0
  · rw [if_pos h, if_neg (by omega)]; omega
  · rw [if_neg h, if_pos (by omega)]; omega
theorem zz_nonneg (v : Int) : 0 ≤ zz v := by unfold zz; split <;> omega
theorem zz_lt {v : Int} {k : Nat} (h1 : -(2 ^ k : Int) ≤ v) (h2 : v < 2 ^ k) : zz v < 2 ^ (k + 1) := by
  have : (2 : Int) ^ (k + 1) = 2 * 2 ^ k := by rw [Int.pow_succ]; omega
  unfold zz; split <;> omega
/-- the ones that a byte begins with -/
def ones (b : Int) : Nat := if b < 128 then 0 else if b < 192 then 1 else if b < 224 then 2 else if b < 240 then 3 else if b < 248 then 4 else if b < 252 then 5 else if b < 254 then 6 else if b < 255 then 7 else 8
theorem ones_le (b : Int) : ones b ≤ 8 := by unfold ones; (repeat' split) <;> omega
theorem ones_all : ∀ (b : Fin 256) (k : Fin 8), k.1 ≤ ones (b.1 : Int) → (((b.1 : Int) / 2 ^ (7 - k.1)) % 2 = 1 ↔ k.1 < ones (b.1 : Int)) := by decide +kernel
theorem ones_test {b : Int} {k : Nat} (h0 : 0 ≤ b) (h1 : b < 256) (hk : k < 8) (hle : k ≤ ones b) : (b / 2 ^ (7 - k)) % 2 = 1 ↔ k < ones b := by
  obtain ⟨n, rfl⟩ := Int.eq_ofNat_of_zero_le h0
  exact ones_all ⟨n, by omega⟩ ⟨k, hk⟩ hle
theorem ones_bit {b : Int} {k : Nat} (h0 : 0 ≤ b) (h1 : b < 256) (hk : (k : Int) < 8) (hle : k ≤ ones b) : Builtin.bitAnd (b.fdiv (2 ^ (7 - (k : Int)).toNat)) 1 = 1 ↔ k < ones b := by
  have e : (7 - (k : Int)).toNat = 7 - k := by omega
  have hp : (0 : Int) < 2 ^ (7 - k) := Int.pow_pos (by decide)
  rw [e, bitAnd_m1, Int.fdiv_eq_ediv_of_nonneg _ (Int.le_of_lt hp)]
  exact ones_test h0 h1 (by omega) hle
theorem ones_bits_all : ∀ b : Fin 256, (8 : Int) - (Builtin.Int.intBits (Builtin.bitAnd (Builtin.bitNot (b.1 : Int)) 255) : Nat) = (ones (b.1 : Int) : Nat) := by decide +kernel
theorem ones_bits {b : Int} (h0 : 0 ≤ b) (h1 : b < 256) : (8 : Int) - (Builtin.Int.intBits (Builtin.bitAnd (Builtin.bitNot b) 255) : Nat) = (ones b : Nat) := by
  obtain ⟨n, rfl⟩ := Int.eq_ofNat_of_zero_le h0
  exact ones_bits_all ⟨n, by omega⟩
theorem head_bits_all : ∀ b : Fin 256, Builtin.bitAnd (b.1 : Int) ((255 : Int).fdiv (2 ^ ((ones (b.1 : Int) : Nat) : Int).toNat)) = (b.1 : Int) % 2 ^ (8 - ones (b.1 : Int)) := by decide +kernel
theorem head_bits {b : Int} (h0 : 0 ≤ b) (h1 : b < 256) : Builtin.bitAnd b ((255 : Int).fdiv (2 ^ ((ones b : Nat) : Int).toNat)) = b % 2 ^ (8 - ones b) := by
  obtain ⟨n, rfl⟩ := Int.eq_ofNat_of_zero_le h0
  exact head_bits_all ⟨n, by omega⟩
theorem top_bit_all : ∀ b : Fin 256, Builtin.bitAnd (b.1 : Int) 128 = 0 ↔ ones (b.1 : Int) = 0 := by decide +kernel
theorem top_bit {b : Int} (h0 : 0 ≤ b) (h1 : b < 256) : Builtin.bitAnd b 128 = 0 ↔ ones b = 0 := by
  obtain ⟨n, rfl⟩ := Int.eq_ofNat_of_zero_le h0
  exact top_bit_all ⟨n, by omega⟩
/-- big end first -/
def be (a : Int) (os : List Int) : Int := os.foldl (fun a o => a * 256 + o) a
theorem be_snoc (a : Int) (os : List Int) (o : Int) : be a (os ++ [o]) = be a os * 256 + o := by unfold be; rw [List.foldl_append]; rfl
theorem be_app (a : Int) (os ps : List Int) : be a (os ++ ps) = be (be a os) ps := by unfold be; rw [List.foldl_append]
theorem be_bound {os : List Int} (ho : ∀ o ∈ os, 0 ≤ o ∧ o < 256) : ∀ {a : Int} {k : Nat}, 0 ≤ a → a < 256 ^ k → 0 ≤ be a os ∧ be a os < 256 ^ (k + os.length) := by
  induction os with
  | nil => intro a k h0 h1; exact ⟨h0, h1⟩
  | cons o r ih =>
    intro a k h0 h1
    have h := ho o List.mem_cons_self
    have e : (256 : Int) ^ (k + 1) = 256 ^ k * 256 := Int.pow_succ ..
    have := ih (fun x hx => ho x (List.mem_cons_of_mem _ hx)) (a := a * 256 + o) (k := k + 1) (by omega) (by omega)
    rw [List.length_cons, show k + (r.length + 1) = k + 1 + r.length from by omega]
    exact this
theorem orByte {x o : Int} (h0 : 0 ≤ o) (h1 : o < 256) : Builtin.bitOr (x * 2 ^ Int.toNat 8) (Builtin.bitAnd o 255) = x * 256 + o := by
  have e : (2 : Int) ^ Int.toNat 8 = 256 := by decide
  have h : Builtin.bitAnd (x * 256) o = 0 := by
    have h2 := kbt_mask o 8
    have h3 : o % 256 = o := Int.emod_eq_of_lt h0 h1
    have key : ∀ (k : Nat) (y z : Int), 0 ≤ z → z < 2 ^ k → Builtin.bitAnd (y * 2 ^ k) z = 0 := by
      intro k
      induction k with
      | zero => intro y z a b; have : z = 0 := by simp at b; omega
                rw [this, bitAnd_zero]
      | succ k ih =>
        intro y z a b
        have e2 : (2 : Int) ^ (k + 1) = 2 ^ k * 2 := Int.pow_succ ..
        rw [kbt_halves, e2, ← Int.mul_assoc, Int.mul_ediv_cancel _ (by decide), Int.mul_emod_left]
        rw [ih y (z / 2) (by omega) (by omega)]
        simp
    exact key 8 x o h0 (by simpa using h1)
  rw [e, bitAnd_m8, Int.emod_eq_of_lt h0 h1, bitOr_and, h]
  omega
/-- uvint's reading: none where octets lack -/
def reading (os : List Int) : Option (Int × Nat) := match os with
  | [] => none
  | b :: r => if ones b ≤ r.length then some (be (b % 2 ^ (8 - ones b)) (r.take (ones b)), ones b + 1) else none
theorem head_range_all : ∀ b : Fin 256, 0 ≤ (b.1 : Int) % 2 ^ (8 - ones (b.1 : Int)) ∧ (b.1 : Int) % 2 ^ (8 - ones (b.1 : Int)) < 256 := by decide +kernel
theorem head_range {b : Int} (h0 : 0 ≤ b) (h1 : b < 256) : 0 ≤ b % 2 ^ (8 - ones b) ∧ b % 2 ^ (8 - ones b) < 256 := by
  obtain ⟨n, rfl⟩ := Int.eq_ofNat_of_zero_le h0
  exact head_range_all ⟨n, by omega⟩
theorem pow256_le {l : Nat} (h : l ≤ 6) : (256 : Int) ^ l ≤ 281474976710656 := by
  have : l = 0 ∨ l = 1 ∨ l = 2 ∨ l = 3 ∨ l = 4 ∨ l = 5 ∨ l = 6 := by omega
  rcases this with e | e | e | e | e | e | e <;> rw [e] <;> decide
abbrev UvP (b : Int) (os pre : List Int) (rv : Int) : Prop := rv = be (b % 2 ^ (8 - ones b)) ((os.drop 1).take pre.length) ∧ 0 ≤ rv ∧ rv < 281474976710656
theorem uv_bound {os : List Int} {b : Int} {j : Nat} (ho : ∀ o ∈ os, 0 ≤ o ∧ o < 256) (h0 : 0 ≤ b) (h1 : b < 256) (hj : j ≤ 5) : 0 ≤ be (b % 2 ^ (8 - ones b)) ((os.drop 1).take j) ∧ be (b % 2 ^ (8 - ones b)) ((os.drop 1).take j) < 281474976710656 := by
  obtain ⟨a0, a1⟩ := head_range h0 h1
  have h := be_bound (os := (os.drop 1).take j) (fun o hm => ho o (List.mem_of_mem_drop (List.mem_of_mem_take hm))) (k := 1) a0 (by simpa using a1)
  have hl : ((os.drop 1).take j).length ≤ 5 := by rw [List.length_take]; omega
  have hp := pow256_le (l := 1 + ((os.drop 1).take j).length) (by omega)
  omega
theorem uv_start {os : List Int} {b : Int} (h0 : 0 ≤ b) (h1 : b < 256) : UvP b os [] (b % 2 ^ (8 - ones b)) := by
  have := head_range h0 h1
  exact ⟨rfl, this.1, by omega⟩
theorem uv_turn {os pre : List Int} {b k rv : Int} (ho : ∀ o ∈ os, 0 ≤ o ∧ o < 256) (h0 : 0 ≤ b) (h1 : b < 256) (hz : os.length ≤ 6) (hon : pre.length + 1 < os.length) (hk : k = 1 + (pre.length : Int)) (h : UvP b os pre rv) :
    UvP b os (pre ++ [k]) (Builtin.bitOr (rv * 2 ^ Int.toNat 8) (Builtin.bitAnd (os.getD k.toNat 0) 255)) := by
  have e1 : k.toNat = pre.length + 1 := by omega
  have hm : os.getD (pre.length + 1) 0 ∈ os := by
    rw [List.getD_eq_getElem?_getD, List.getElem?_eq_getElem hon]
    exact List.getElem_mem hon
  obtain ⟨o0, o1⟩ := ho _ hm
  have e2 : (os.drop 1).take (pre ++ [k]).length = (os.drop 1).take pre.length ++ [os.getD (pre.length + 1) 0] := by
    rw [List.length_append, List.length_singleton, List.take_add_one, List.getElem?_drop, show 1 + pre.length = pre.length + 1 from by omega, List.getElem?_eq_getElem hon, List.getD_eq_getElem?_getD, List.getElem?_eq_getElem hon]
    rfl
  have hb := uv_bound (os := os) (j := pre.length + 1) ho h0 h1 (by omega)
  have e3 : Builtin.bitOr (rv * 2 ^ Int.toNat 8) (Builtin.bitAnd (os.getD k.toNat 0) 255) = be (b % 2 ^ (8 - ones b)) ((os.drop 1).take (pre ++ [k]).length) := by
    rw [e1, orByte o0 o1, e2, be_snoc, ← h.1]
  rw [e3]
  rw [List.length_append, List.length_singleton]
  exact ⟨by rw [List.length_append, List.length_singleton], hb⟩
def lawValue (os : List Int) : Int := if 128 ≤ os.getD 0 0 then be 0 os - 256 ^ os.length else be 0 os
abbrev LvP (os pre : List Int) (x : Int) : Prop := x = be 0 pre ∧ 0 ≤ x ∧ x < 281474976710656
theorem lv_bound {os pre post : List Int} (ho : ∀ o ∈ os, 0 ≤ o ∧ o < 256) (hz : os.length ≤ 6) (e : os = pre ++ post) : 0 ≤ be 0 pre ∧ be 0 pre < 281474976710656 := by
  have h := be_bound (os := pre) (fun o hm => ho o (e ▸ List.mem_append_left _ hm)) (a := 0) (k := 0) (Int.le_refl _) (by decide)
  have hl : pre.length ≤ 6 := by have := congrArg List.length e; rw [List.length_append] at this; omega
  have hp := pow256_le (l := 0 + pre.length) (by omega)
  omega
theorem lv_turn {os pre post : List Int} {k x : Int} (ho : ∀ o ∈ os, 0 ≤ o ∧ o < 256) (hz : os.length ≤ 6) (e : os = pre ++ k :: post) (h : LvP os pre x) : LvP os (pre ++ [k]) (x * 256 + k) := by
  have hb := lv_bound (pre := pre ++ [k]) (post := post) ho hz (by rw [e, List.append_assoc]; rfl)
  have e1 : x * 256 + k = be 0 (pre ++ [k]) := by rw [be_snoc, ← h.1]
  rw [e1]
  exact ⟨rfl, hb⟩
abbrev RvP (b : Int) (pre : List Int) (x : Int) : Prop := x = be (b % 2 ^ (8 - ones b)) pre ∧ 0 ≤ x ∧ x < 281474976710656
theorem rv_bound {os pre : List Int} {b : Int} (ho : ∀ o ∈ os, 0 ≤ o ∧ o < 256) (h0 : 0 ≤ b) (h1 : b < 256) (hz : pre.length ≤ 5) (e : ∀ o ∈ pre, o ∈ os) : 0 ≤ be (b % 2 ^ (8 - ones b)) pre ∧ be (b % 2 ^ (8 - ones b)) pre < 281474976710656 := by
  obtain ⟨a0, a1⟩ := head_range h0 h1
  have h := be_bound (os := pre) (fun o hm => ho o (e o hm)) (k := 1) a0 (by simpa using a1)
  have hp := pow256_le (l := 1 + pre.length) (by omega)
  omega
theorem rv_turn {os pre post : List Int} {b k x : Int} {j : Nat} (ho : ∀ o ∈ os, 0 ≤ o ∧ o < 256) (h0 : 0 ≤ b) (h1 : b < 256) (hz : os.length ≤ 6) (e : List.take j (List.drop 1 os) = pre ++ k :: post) (h : RvP b pre x) : RvP b (pre ++ [k]) (x * 256 + k) := by
  have hl : (pre ++ [k]).length ≤ 5 := by
    have := congrArg List.length e
    rw [List.length_take, List.length_drop, List.length_append, List.length_cons] at this
    rw [List.length_append, List.length_singleton]
    omega
  have hb := rv_bound (os := os) (pre := pre ++ [k]) ho h0 h1 hl fun o hm => by
    have : o ∈ List.take j (List.drop 1 os) := by
      rw [e]
      rcases List.mem_append.mp hm with hm | hm
      · exact List.mem_append_left _ hm
      · exact List.mem_append_right _ (List.mem_singleton.mp hm ▸ List.mem_cons_self)
    exact List.mem_of_mem_drop (List.mem_of_mem_take this)
  have e1 : x * 256 + k = be (b % 2 ^ (8 - ones b)) (pre ++ [k]) := by rw [be_snoc, ← h.1]
  rw [e1]
  exact ⟨rfl, hb⟩
theorem rv_start {b : Int} (h0 : 0 ≤ b) (h1 : b < 256) : RvP b [] (b % 2 ^ (8 - ones b)) := by
  have := head_range h0 h1
  exact ⟨rfl, this.1, by omega⟩
theorem head_fmod (b : Int) : b.fmod (2 ^ (8 - ((ones b : Nat) : Int)).toNat) = b % 2 ^ (8 - ones b) := by
  have h8 := ones_le b
  have e : (8 - ((ones b : Nat) : Int)).toNat = 8 - ones b := by omega
  rw [e, Int.fmod_eq_emod_of_nonneg _ (Int.le_of_lt (Int.pow_pos (by decide)))]
theorem head_eight {b : Int} (h : ¬ ((ones b : Nat) : Int) < 8) : (0 : Int) = b % 2 ^ (8 - ones b) := by
  have h8 := ones_le b
  have e : 8 - ones b = 0 := by omega
  rw [e, Int.pow_zero, Int.emod_one]
theorem rest_take {os : List Int} {b : Int} (h : ones b + 1 ≤ os.length) : List.take (min (((ones b : Nat) : Int) + 1).toNat os.length - 1) (List.drop 1 os) = (os.drop 1).take (ones b) := by
  have e : min (((ones b : Nat) : Int) + 1).toNat os.length - 1 = ones b := by omega
  rw [e]
end Fq
end
section
/-! FqB -/
open PySem PySem.W PySem.Calls PySem.Spec PyProof.Rows
namespace Fq
namespace BA
open Builtin
/-! bytearrays: what reads them -/
abbrev baObj (x : Array UInt8) : Obj := { cls := .type "bytearray", data := .bytearray x }
theorem slot_getitem : Slot "bytearray" "__getitem__" "bytearray.__getitem__" :=
  .of (owner := "bytearray") (n := "__getitem__") (by rw [typeLookup_type, builtinLookup_eq_fast]; kernel_rfl) (by decide +kernel) (by decide +kernel) (by decide +kernel)
    (by first | exact .inl (by decide +kernel) | exact .inr (by decide +kernel)) (by rw [isSubtype_type]; kernel_rfl)
theorem slot_len : Slot "bytearray" "__len__" "bytearray.__len__" :=
  .of (owner := "bytearray") (n := "__len__") (by rw [typeLookup_type, builtinLookup_eq_fast]; kernel_rfl) (by decide +kernel) (by decide +kernel) (by decide +kernel)
    (by first | exact .inl (by decide +kernel) | exact .inr (by decide +kernel)) (by rw [isSubtype_type]; kernel_rfl)
theorem slot_iter : Slot "bytearray" "__iter__" "bytearray.__iter__" :=
  .of (owner := "bytearray") (n := "__iter__") (by rw [typeLookup_type, builtinLookup_eq_fast]; kernel_rfl) (by decide +kernel) (by decide +kernel) (by decide +kernel)
    (by first | exact .inl (by decide +kernel) | exact .inr (by decide +kernel)) (by rw [isSubtype_type]; kernel_rfl)
theorem slot_next : Slot "bytearray_iterator" "__next__" "bytearray_iterator.__next__" :=
  .of (owner := "bytearray_iterator") (n := "__next__") (by rw [typeLookup_type, builtinLookup_eq_fast]; kernel_rfl) (by decide +kernel) (by decide +kernel) (by decide +kernel)
    (by first | exact .inl (by decide +kernel) | exact .inr (by decide +kernel)) (by rw [isSubtype_type]; kernel_rfl)
theorem slot_self : Slot "bytearray_iterator" "__iter__" "bytearray_iterator.__iter__" :=
  .of (owner := "bytearray_iterator") (n := "__iter__") (by rw [typeLookup_type, builtinLookup_eq_fast]; kernel_rfl) (by decide +kernel) (by decide +kernel) (by decide +kernel)
    (by first | exact .inl (by decide +kernel) | exact .inr (by decide +kernel)) (by rw [isSubtype_type]; kernel_rfl)
theorem entry_getitem : entryFor table "bytearray.__getitem__" = some Builtin.«bytearray.__getitem__» := entryFor_of_tree (by kernel_rfl)
theorem entry_len : entryFor table "bytearray.__len__" = some Builtin.«bytearray.__len__» := entryFor_of_tree (by kernel_rfl)
theorem entry_iter : entryFor table "bytearray.__iter__" = some Builtin.«bytearray.__iter__» := entryFor_of_tree (by kernel_rfl)
theorem entry_next : entryFor table "bytearray_iterator.__next__" = some Builtin.«bytearray_iterator.__next__» := entryFor_of_tree (by kernel_rfl)
theorem entry_self : entryFor table "bytearray_iterator.__iter__" = some Builtin.«dict_keyiterator.__iter__» := entryFor_alias (id' := "dict_keyiterator.__iter__") (by kernel_rfl) rfl (by decide +kernel) (by kernel_rfl)
theorem args_getitem (a b : Value) : argsOk "bytearray.__getitem__" ⟨[a, b], []⟩ := by unfold argsOk; kernel_rfl
theorem args_len (a : Value) : argsOk "bytearray.__len__" ⟨[a], []⟩ := by unfold argsOk; kernel_rfl
theorem args_iter (a : Value) : argsOk "bytearray.__iter__" ⟨[a], []⟩ := by unfold argsOk; kernel_rfl
theorem args_next (a : Value) : argsOk "bytearray_iterator.__next__" ⟨[a], []⟩ := by unfold argsOk; kernel_rfl
theorem args_self (a : Value) : argsOk "bytearray_iterator.__iter__" ⟨[a], []⟩ := by unfold argsOk; kernel_rfl

section
variable {prog : Program} {w : World} {A : Around} {E : Value → Shared → Prop} {s : Shared} {b : Addr} {x : Array UInt8}
theorem typeIs (hb : s.heap.get? b = some (baObj x)) : s.TypeIs (.ref b) "bytearray" := ⟨_, hb, rfl⟩
theorem payload_ {M : Model} {Q : Array UInt8 → Shared → Prop} (hb : s.heap.get? b = some (baObj x)) (h : Q x s) : wpAny M A (Bytes.payload (.ref b)) Q E s := by
  unfold Bytes.payload Bytes.payload?
  refine wpAny_bind (wpAny_bind (wpAny_load hb ?_))
  exact wpAny_pure (wpAny_pure h)
theorem getItem_in {i : Int} {u : Tok} {c : UInt8} {Q : Value → Shared → Prop} (hb : s.heap.get? b = some (baObj x)) (h0 : 0 ≤ i) (h1 : i < 2 ^ 63) (hx : x[i.toNat]? = some c)
    (h : Q (.int (c.toNat : Int) s.toks) { s with toks := s.toks + 1 }) : wpAny (model prog w) A (getItem (.ref b) (.int i u)) Q E s := by
  refine wpAny_getItem_slot (typeIs hb) (by decide) slot_getitem (wpAny_call_entry slot_getitem (typeIs hb) entry_getitem ?_ (args_getitem _ _))
  show wpAny _ _ (Bytes.subscript? (.int i u) >>= fun r => _) _ _ s
  refine wpAny_bind ?_
  unfold Bytes.subscript?
  refine wpAny_bind (wpAny_specialOf (typeIs_int s i u) F.slot_int_index.lookup ?_)
  have hf : Bytes.fitsIndex i = true := by simp only [Bytes.fitsIndex, Bool.and_eq_true, decide_eq_true_eq]; omega
  show wpAny _ _ (if (!Bytes.fitsIndex i) = true then _ else pure (some i)) _ _ s
  rw [hf]
  refine wpAny_pure ?_
  show wpAny _ _ (Bytes.payload (.ref b) >>= fun r => _) _ _ s
  refine wpAny_bind (payload_ hb ?_)
  have hs : i.toNat < x.size := by
    rcases Nat.lt_or_ge i.toNat x.size with q | q
    · exact q
    · rw [Array.getElem?_eq_none q] at hx; cases hx
  have e : (seqIndex? i x.size).bind (x[·]?) = some c := by
    have hn : ¬ i < 0 := by omega
    have hl : i < (x.size : Int) := by omega
    rw [show seqIndex? i x.size = some i.toNat from by simp [seqIndex?, hn, h0, hl]]
    exact hx
  show wpAny _ _ (match (seqIndex? i x.size).bind (x[·]?) with | some x => retInt x.toNat | none => _) _ _ s
  rw [e]
  exact wpAny_bind (wpAny_mkInt (wpAny_pure ⟨_, rfl, h⟩))
theorem getItem_out {i : Int} {u : Tok} {Q : Value → Shared → Prop} (hA : A.handled = none) (hb : s.heap.get? b = some (baObj x)) (h0 : 0 ≤ i) (h1 : i < 2 ^ 63) (hx : (x.size : Int) ≤ i)
    (hE : ∀ h' tk e, Heap.NewExc s.heap h' e "IndexError" → E (.ref e) { s with heap := h', toks := tk }) : wpAny (model prog w) A (getItem (.ref b) (.int i u)) Q E s := by
  refine wpAny_getItem_slot (typeIs hb) (by decide) slot_getitem (wpAny_call_entry slot_getitem (typeIs hb) entry_getitem ?_ (args_getitem _ _))
  show wpAny _ _ (Bytes.subscript? (.int i u) >>= fun r => _) _ _ s
  refine wpAny_bind ?_
  unfold Bytes.subscript?
  refine wpAny_bind (wpAny_specialOf (typeIs_int s i u) F.slot_int_index.lookup ?_)
  have hf : Bytes.fitsIndex i = true := by simp only [Bytes.fitsIndex, Bool.and_eq_true, decide_eq_true_eq]; omega
  show wpAny _ _ (if (!Bytes.fitsIndex i) = true then _ else pure (some i)) _ _ s
  rw [hf]
  refine wpAny_pure ?_
  show wpAny _ _ (Bytes.payload (.ref b) >>= fun r => _) _ _ s
  refine wpAny_bind (payload_ hb ?_)
  have e : (seqIndex? i x.size).bind (x[·]?) = none := by
    have hn : ¬ i < 0 := by omega
    have hl : ¬ i < (x.size : Int) := by omega
    simp [seqIndex?, hn, hl]
  show wpAny _ _ (match (seqIndex? i x.size).bind (x[·]?) with | some x => retInt x.toNat | none => _) _ _ s
  rw [e]
  wp_step
  wp_delta
  first
    | exact wpAny_bind (wpAny_rule (by exact_raiseError plainExc_IndexError hA hE))
    | exact wpAny_bind (wpAny_rule (wpAny_bind (by exact_raiseError plainExc_IndexError hA hE)))
    | (refine wpAny_rule ?_; exact_raiseError plainExc_IndexError hA hE)
theorem len_ {Q : Value → Shared → Prop} (hb : s.heap.get? b = some (baObj x)) (hz : x.size ≤ sizeLine) (h : Q (.int x.size (s.toks + 1)) { s with toks := s.toks + 1 + 1 }) : wpAny (model prog w) A (call (.builtin "len") [.ref b]) Q E s := by
  refine call_len_slot (typeIs hb) slot_len (fun Q' q => wpAny_call_entry slot_len (typeIs hb) entry_len ?_ (args_len _)) (by omega) (by rw [sizeLine_eq] at hz; omega) h
  show wpAny _ _ (Bytes.payload (.ref b) >>= fun r => _) _ _ s
  exact wpAny_bind (payload_ hb (wpAny_bind (wpAny_mkInt (wpAny_pure ⟨_, rfl, q⟩))))

def IsIter (h : Heap) (a b : Addr) (i : Nat) : Prop := ∃ o, h.get? a = some o ∧ o.cls = .type "bytearray_iterator" ∧ o.data = .fields #[.ref b, .int i 0]
theorem iter_typeIs {a : Addr} {i : Nat} (y : IsIter s.heap a b i) : s.TypeIs (.ref a) "bytearray_iterator" := let ⟨o, ho, hc, _⟩ := y; ⟨o, ho, hc⟩
theorem pyIter_ {Q : Value → Shared → Prop} (hb : s.heap.get? b = some (baObj x)) (hQ : Q (.ref s.heap.objs.size) { s with heap := s.heap.push { cls := .type "bytearray_iterator", data := .fields #[.ref b, .int 0 0] } }) : wpAny (model prog w) A (pyIter (.ref b)) Q E s := by
  refine wpAny_pyIter_slot (typeIs hb) slot_iter (wpAny_call_entry slot_iter (typeIs hb) entry_iter ?_ (args_iter _))
  show wpAny _ _ (do ret (← newFields "bytearray_iterator" [.ref b, rawInt 0])) _ _ s
  exact wpAny_bind (wpAny_newObj_type (wpAny_pure ⟨_, rfl, "bytearray_iterator", _, ⟨_, Heap.get?_push_size _ rfl, rfl⟩, slot_next.lookup, hQ⟩))
theorem pyIter_self {it : Addr} {i : Nat} {Q : Value → Shared → Prop} (hit : IsIter s.heap it b i) (h : Q (.ref it) s) : wpAny (model prog w) A (pyIter (.ref it)) Q E s := by
  refine wpAny_pyIter_slot (iter_typeIs hit) slot_self (wpAny_call_entry slot_self (iter_typeIs hit) entry_self ?_ (args_self _))
  show wpAny _ _ (ret (.ref it)) _ _ s
  exact wpAny_pure ⟨_, rfl, "bytearray_iterator", _, iter_typeIs hit, slot_next.lookup, h⟩
theorem next_item {it : Addr} {i : Nat} {c : UInt8} {Q : Option Value → Shared → Prop} (hit : IsIter s.heap it b i) (hb : s.heap.get? b = some (baObj x)) (hx : x[i]? = some c)
    (hQ : ∀ h', IsIter h' it b (i + 1) → Heap.SameBut it s.heap h' → Q (some (.int (c.toNat : Int) s.toks)) { s with heap := h', toks := s.toks + 1 }) : wpAny (model prog w) A (pyNext (.ref it)) Q E s := by
  obtain ⟨o, ho, hc, hd⟩ := id hit
  unfold pyNext
  refine wpAny_bind (wpAny_attempt (wpAny_callSpecial?_slot (name := Str.ofString "__next__") (iter_typeIs hit) slot_next
    (wpAny_call_entry slot_next (iter_typeIs hit) entry_next ?_ (args_next _))))
  show wpAny _ _ (field (.ref it) 0 >>= _) _ _ s
  refine wpAny_bind (wpAny_field ho hd (x := .ref b) rfl ?_)
  show wpAny _ _ (load b >>= _) _ _ s
  refine wpAny_bind (wpAny_load hb ?_)
  show wpAny _ _ (field (.ref it) 1 >>= _) _ _ s
  refine wpAny_bind (wpAny_field ho hd (x := .int i 0) rfl ?_)
  simp only [Int.toNat_natCast, hx]
  refine wpAny_bind (wpAny_setField ho hd (by simp) (wpAny_bind (wpAny_mkInt (wpAny_pure ⟨_, rfl, wpAny_pure (hQ _ ?_ (Heap.SameBut.update ..))⟩))))
  exact ⟨_, Heap.get?_update_self _ ho (Obj.isFreed_of_fields (Obj.data_mapFields hd _)), (Obj.cls_mapFields ..).trans hc, by
    rw [Obj.data_mapFields hd]; simp [rawInt]⟩
theorem next_end {it : Addr} {i : Nat} {Q : Option Value → Shared → Prop} (hh : A.handled = none) (hit : IsIter s.heap it b i) (hb : s.heap.get? b = some (baObj x)) (hx : x[i]? = none)
    (hQ : ∀ h', Heap.ExtBut it s.heap h' → Q none { s with heap := h' }) : wpAny (model prog w) A (pyNext (.ref it)) Q E s := by
  obtain ⟨o, ho, hc, hd⟩ := id hit
  unfold pyNext
  refine wpAny_bind (wpAny_attempt (wpAny_callSpecial?_slot (name := Str.ofString "__next__") (iter_typeIs hit) slot_next
    (wpAny_call_entry slot_next (iter_typeIs hit) entry_next ?_ (args_next _))))
  show wpAny _ _ (field (.ref it) 0 >>= _) _ _ s
  refine wpAny_bind (wpAny_field ho hd (x := .ref b) rfl ?_)
  show wpAny _ _ (load b >>= _) _ _ s
  refine wpAny_bind (wpAny_load hb ?_)
  show wpAny _ _ (field (.ref it) 1 >>= _) _ _ s
  refine wpAny_bind (wpAny_field ho hd (x := .int i 0) rfl ?_)
  simp only [Int.toNat_natCast, hx]
  refine wpAny_bind (wpAny_rule (wpAny_bind (wpAny_setField ho hd (by simp) ?_)))
  refine wpAny_bind (wpAny_letGo ?_)
  show wpAny _ _ (newExc (.type "StopIteration") [] >>= _) _ _ _
  refine wpAny_bind ?_
  simp only [newExc, newTuple]
  refine wpAny_bind (wpAny_newObj_type ?_ (by size_fits))
  refine wpAny_bind (m := firstArgMember _ _) (wpAny_of_eq (a := Value.none) (by first | rfl | (simp only [firstArgMember]; rfl)) ?_)
  refine wpAny_newObj_type ?_ (by size_fits)
  simp only [raiseNew]
  refine wpAny_bind (wpAny_handled ?_)
  rw [show A.in1.handled = none from hh]
  refine wpAny_bind (wpAny_pure (wpAny_throw ?_))
  refine wpAny_bind (wpAny_isInstance (T := "StopIteration") (b := true) ⟨_, Heap.get?_push_size _ rfl, rfl⟩ isSubtype_stop ?_)
  exact wpAny_pure (hQ _ (((Heap.SameBut.update ..).extBut.push _).push _))
end
theorem walks {prog : Program} {w : World} {A : Around} (hh : A.handled = none) (I b : Addr) (hne : b ≠ I) (x : Array UInt8) :
    Walks prog w A I [I, b] [I] x.size (fun i v => ∃ c u, x[i]? = some c ∧ v = .int (c.toNat : Int) u) (fun i h => IsIter h I b i ∧ h.get? b = some (baObj x)) where
  sub := fun b hb => by simp at hb; simp [hb]
  frame := fun _ _ _ st hk => ⟨let ⟨o, ho, r⟩ := st.1; ⟨o, hk I (by simp) o ho, r⟩, hk b (by simp) _ st.2⟩
  item := fun i s Q E hi st hQ => by
    refine next_item st.1 st.2 (c := x[i]) (by simp [hi]) fun h' hit' hs' => ?_
    exact hQ _ h' (s.toks + 1) ⟨_, _, by simp [hi], rfl⟩ ⟨hit', (hs'.2 b hne).trans st.2⟩ fun b o hb e => hs'.extBut b o (fun h => hb (by simp [h])) e
  done := fun s Q E st hQ => next_end hh st.1 st.2 (by simp) fun h' he' => hQ h' s.toks fun b o hb e => he' b o (fun h => hb (by simp [h])) e
  self := fun _ _ _ _ st hQ => pyIter_self st.1 hQ
end BA

/-! one row of octets, in one of three forms -/
def Octs (os : List Int) : Prop := ∀ o ∈ os, 0 ≤ o ∧ o < 256
inductive SeqB (news : List (Addr × Obj)) : Value → List Int → Prop
  | bytes {os : List Int} (t : Tok) : SeqB news (.bytes (byteArr os) t) os
  | list {l : Addr} {vs : List Value} {n : Nat} {os : List Int} : (l, listOf vs.toArray n) ∈ news → IntsAre vs os → SeqB news (.ref l) os
  | ba {b : Addr} {os : List Int} : (b, BA.baObj (byteArr os)) ∈ news → SeqB news (.ref b) os
def octB (os : List Int) : List UInt8 := os.map fun (n : Int) => n.toNat.toUInt8
theorem byteArr_eq (os : List Int) : byteArr os = (octB os).toArray := rfl
theorem octB_length (os : List Int) : (octB os).length = os.length := by unfold octB; rw [List.length_map]
theorem octet_nat {o : Int} (h : 0 ≤ o ∧ o < 256) : ((o.toNat.toUInt8).toNat : Int) = o := by
  have : o.toNat % 256 = o.toNat := Nat.mod_eq_of_lt (by omega)
  rw [Nat.toUInt8, UInt8.toNat_ofNat', this]
  omega
theorem byteArr_at {os : List Int} {k : Nat} (ho : Octs os) (hk : k < os.length) : ∃ c : UInt8, (byteArr os)[k]? = some c ∧ (c.toNat : Int) = os.getD k 0 := by
  refine ⟨os[k].toNat.toUInt8, by simp [byteArr, hk], ?_⟩
  rw [octet_nat (ho _ (List.getElem_mem hk)), List.getD_eq_getElem?_getD, List.getElem?_eq_getElem hk]
  rfl
section
variable {prog : Program} {w : World} {A : Around} {E : Value → Shared → Prop} {s : Shared} {h₀ : Heap} {L : Addr} {news : List (Addr × Obj)} {v : Value} {os : List Int}
theorem bytes_out {x : Array UInt8} {t u : Tok} {i : Int} {Q : Value → Shared → Prop} (hA : A.handled = none) (h0 : 0 ≤ i) (h1 : i < 2 ^ 63) (hx : (x.size : Int) ≤ i)
    (hE : ∀ h' tk e, Heap.NewExc s.heap h' e "IndexError" → E (.ref e) { s with heap := h', toks := tk }) : wpAny (model prog w) A (getItem (.bytes x t) (.int i u)) Q E s := by
  refine wpAny_getItem_slot (typeIs_bytes s x t) (by decide) FB.slot_bytes_getitem (wpAny_call_entry FB.slot_bytes_getitem (typeIs_bytes s x t) FB.entry_bytes_getitem ?_ (FB.args_bytes_getitem_2 _ _))
  show wpAny _ _ (Builtin.Bytes.payload (.bytes x t) >>= fun r => _) _ _ s
  refine wpAny_bind (wpAny_of_eq (a := x) rfl ?_)
  show wpAny _ _ (Builtin.Bytes.subscript? (.int i u) >>= fun r => _) _ _ s
  refine wpAny_bind ?_
  unfold Builtin.Bytes.subscript?
  refine wpAny_bind (wpAny_specialOf (typeIs_int s i u) F.slot_int_index.lookup ?_)
  have hf : Builtin.Bytes.fitsIndex i = true := by simp only [Builtin.Bytes.fitsIndex, Bool.and_eq_true, decide_eq_true_eq]; omega
  show wpAny _ _ (if (!Builtin.Bytes.fitsIndex i) = true then _ else pure (some i)) _ _ s
  rw [hf]
  refine wpAny_pure ?_
  have e : (seqIndex? i x.size).bind (x[·]?) = none := by
    have hn : ¬ i < 0 := by omega
    have hl : ¬ i < (x.size : Int) := by omega
    simp [seqIndex?, hn, hl]
  show wpAny _ _ (match (seqIndex? i x.size).bind (x[·]?) with | some x => retInt x.toNat | none => _) _ _ s
  rw [e]
  first
    | exact wpAny_bind (wpAny_rule (by exact_raiseError plainExc_IndexError hA hE))
    | exact wpAny_bind (wpAny_rule (wpAny_bind (by exact_raiseError plainExc_IndexError hA hE)))
theorem seqB_get {k : Int} {u : Tok} {Q : Value → Shared → Prop} (N : News h₀ L s.heap news) (S : SeqB news v os) (ho : Octs os) (hz : os.length ≤ 1000) (h0 : 0 ≤ k) (h1 : k < os.length)
    (h : ∀ t tk, Q (.int (os.getD k.toNat 0) t) { s with toks := tk }) : wpAny (model prog w) A (getItem v (.int k u)) Q E s := by
  have hk : k.toNat < os.length := by omega
  obtain ⟨c, hc, hv⟩ := byteArr_at ho hk
  cases S with
  | bytes t =>
    have hl : ((octB os).getD k.toNat 0).toNat = c.toNat := by
      have : (octB os)[k.toNat]? = some c := by rw [byteArr_eq] at hc; simpa using hc
      rw [List.getD_eq_getElem?_getD, this]; rfl
    rw [byteArr_eq]
    refine getItem_bytes (l := octB os) (by rw [octB_length]; omega) h0 (by rw [octB_length]; exact h1) ?_
    rw [hl, hv]
    exact h _ _
  | list hm hi =>
    have hg : s.heap.IsList _ _ := ⟨_, (N _ hm).1, rfl, _, rfl⟩
    have hlt := hi.length
    have hx := List.getElem?_eq_getElem (l := ‹List Value›) (i := k.toNat) (by omega)
    obtain ⟨n, t, e, hn⟩ := IntsAre.at hi k.toNat _ hx
    refine wpAny_getItem_list hg h0 (by omega) ((List.getElem?_toArray ..).trans hx) ?_
    rw [e]
    have : os.getD k.toNat 0 = n := by rw [List.getD_eq_getElem?_getD, hn]; rfl
    rw [← this]
    exact h t s.toks
  | ba hm =>
    refine BA.getItem_in (N _ hm).1 h0 (by omega) hc ?_
    rw [hv]
    exact h _ _
theorem seqB_getOut {k : Int} {u : Tok} {Q : Value → Shared → Prop} (hA : A.handled = none) (N : News h₀ L s.heap news) (S : SeqB news v os) (h0 : 0 ≤ k) (h1 : k < 2 ^ 63) (hx : (os.length : Int) ≤ k)
    (hE : ∀ h' tk e, Heap.NewExc s.heap h' e "IndexError" → E (.ref e) { s with heap := h', toks := tk }) : wpAny (model prog w) A (getItem v (.int k u)) Q E s := by
  cases S with
  | bytes t => exact bytes_out hA h0 h1 (by rw [byteArr_size]; exact hx) hE
  | list hm hi =>
    have hg : s.heap.IsList _ _ := ⟨_, (N _ hm).1, rfl, _, rfl⟩
    have hlt := hi.length
    exact wpAny_getItem_list_out hA hg (.inr (by simp; omega)) (by omega) h1 hE
  | ba hm => exact BA.getItem_out hA (N _ hm).1 h0 h1 (by rw [byteArr_size]; exact hx) hE
theorem seqB_type (N : News h₀ L s.heap news) (S : SeqB news v os) : ∃ T id, s.TypeIs v T ∧ typeLookup (.type T) "__getitem__" = pure (some (.builtin id)) := by
  cases S with
  | bytes t => exact ⟨_, _, typeIs_bytes _ _ _, FB.slot_bytes_getitem.lookup⟩
  | list hm hi => exact ⟨_, _, ⟨_, (N _ hm).1, rfl⟩, slot_list_getitem.lookup⟩
  | ba hm => exact ⟨_, _, BA.typeIs (N _ hm).1, BA.slot_getitem.lookup⟩
theorem seqB_item {value slice : Expr} {k : Int} {u : Tok} {Q : Value → Shared → Prop} (N : News h₀ L s.heap news) (S : SeqB news v os) (ho : Octs os) (hz : os.length ≤ 1000) (h0 : 0 ≤ k) (h1 : k < os.length)
    (h : ∀ t tk, Q (.int (os.getD k.toNat 0) t) { s with toks := tk }) (hs : subscripted slice false v (.int k u) = operate [v, .int k u] (getItem v (.int k u))) :
    wpAny (model prog w) A (subscriptTail value slice v (.int k u)) Q E s := by
  obtain ⟨T, id, hT, hl⟩ := seqB_type N S
  exact tail_any hT hl (seqB_get N S ho hz h0 h1 h) hs
theorem seqB_itemOut {value slice : Expr} {k : Int} {u : Tok} {Q : Value → Shared → Prop} (hA : A.handled = none) (N : News h₀ L s.heap news) (S : SeqB news v os) (h0 : 0 ≤ k) (h1 : k < 2 ^ 63) (hx : (os.length : Int) ≤ k)
    (hE : ∀ h' tk e, Heap.NewExc s.heap h' e "IndexError" → E (.ref e) { s with heap := h', toks := tk }) (hs : subscripted slice false v (.int k u) = operate [v, .int k u] (getItem v (.int k u))) :
    wpAny (model prog w) A (subscriptTail value slice v (.int k u)) Q E s := by
  obtain ⟨T, id, hT, hl⟩ := seqB_type N S
  exact tail_any hT hl (seqB_getOut hA N S h0 h1 hx hE) hs
theorem seqB_len {Q : Value → Shared → Prop} (N : News h₀ L s.heap news) (S : SeqB news v os) (hz : os.length ≤ 1000) (h : ∀ t tk, Q (.int os.length t) { s with toks := tk }) : wpAny (model prog w) A (call (.builtin "len") [v]) Q E s := by
  cases S with
  | bytes t => exact len_bytes (by rw [byteArr_size]; omega) (by rw [byteArr_size]; exact h _ _)
  | list hm hi =>
    have hg : s.heap.IsList _ _ := ⟨_, (N _ hm).1, rfl, _, rfl⟩
    have hlt := hi.length
    refine call_len_list hg (by simp; omega) ?_
    simp only [List.size_toArray, hlt]
    exact h _ _
  | ba hm => exact BA.len_ (N _ hm).1 (by rw [byteArr_size, sizeLine_eq]; omega) (by rw [byteArr_size]; exact h _ _)
theorem SeqB.mono {news' : List (Addr × Obj)} (S : SeqB news v os) (h : ∀ p ∈ news, p ∈ news') : SeqB news' v os := by
  cases S with
  | bytes t => exact .bytes t
  | list hm hi => exact .list (h _ hm) hi
  | ba hm => exact .ba (h _ hm)
theorem seqB_itemS {nx : List (Addr × Obj)} {value slice : Expr} {k : Int} {u : Tok} {Q : Value → Shared → Prop} (N : News h₀ L s.heap nx) (S : SeqB news v os) (hn : ∀ p ∈ news, p ∈ nx) (ho : Octs os) (hz : os.length ≤ 1000) (h0 : 0 ≤ k) (h1 : k < os.length)
    (h : ∀ t tk, Q (.int (os.getD k.toNat 0) t) { s with toks := tk }) (hs : subscripted slice false v (.int k u) = operate [v, .int k u] (getItem v (.int k u))) :
    wpAny (model prog w) A (subscriptTail value slice v (.int k u)) Q E s := seqB_item N (S.mono hn) ho hz h0 h1 h hs
theorem seqB_outS {nx : List (Addr × Obj)} {value slice : Expr} {k : Int} {u : Tok} {Q : Value → Shared → Prop} (hA : A.handled = none) (N : News h₀ L s.heap nx) (S : SeqB news v os) (hn : ∀ p ∈ news, p ∈ nx) (h0 : 0 ≤ k) (h1 : k < 2 ^ 63) (hx : (os.length : Int) ≤ k)
    (hE : ∀ h' tk e, Heap.NewExc s.heap h' e "IndexError" → E (.ref e) { s with heap := h', toks := tk }) (hs : subscripted slice false v (.int k u) = operate [v, .int k u] (getItem v (.int k u))) :
    wpAny (model prog w) A (subscriptTail value slice v (.int k u)) Q E s := seqB_itemOut hA N (S.mono hn) h0 h1 hx hE hs
theorem list_truthy {l : Addr} {vs : List Value} {nn : Nat} {c : Bool} {Q : Bool → Shared → Prop} (N : News h₀ L s.heap news) (hm : (l, listOf vs.toArray nn) ∈ news) (hi : IntsAre vs os) (hz : os.length ≤ 1000) (hc : decide (0 < os.length) = c) (h : ∀ tk, Q c { s with toks := tk }) :
    wpAny (model prog w) A (truthy (.ref l)) Q E s := by
  have hg : s.heap.IsList l vs.toArray := ⟨_, (N _ hm).1, rfl, _, rfl⟩
  have hlt := hi.length
  refine wpAny_truthy_list hg (by simp; omega) ?_
  have e : (!vs.toArray.isEmpty) = c := by
    rw [← hc, ← hlt]
    cases vs with
    | nil => rfl
    | cons _ _ => rfl
  rw [e]
  exact h _
end
end Fq
end
section
/-! FqD -/
open PySem PySem.W PySem.Calls PySem.Spec PyProof.Rows
namespace Fq
/-- what a call's answer is told to: the base and the frames, the caller's frame, the answers -/
abbrev Told1 := Heap → List Env → Heap → Addr → (Str → Option Value) → Shared → (Value → Shared → Prop) → (Value → Shared → Prop) → Prop
/-- the call of a def of the text from a def's frame, at any ledger -/
abbrev ConK (k : Nat) (f : Addr) (vs : List Value) (news : List (Addr × Obj)) (pre : Prop) (ret : Told1) : Prop :=
  ∀ (prog : Program), prog = PySem.Challenge.rw_fq5007_01.prog → ∀ (w : World) (p : Program) (loose : List Str) (mean : ExcName → Option Value) (mg mb : Str → Option Value)
    (dp un : Nat) (gd : Option (List Code)) (cn : Str) (cs : Scope) (a : Addr) (ccd : Value) (cl : List (Str × Addr)) (outer : List Env) (A₀ : Around) (base h₀ : Heap) (L : Addr) (m : Str → Option Value) (s : Shared) (Q E : Value → Shared → Prop),
    Below A₀ base outer h₀ → Fr h₀ L s.heap m → (Fq.hd.heap_39 w.params).In h₀ → News h₀ L s.heap news → Top p loose mean mg mb h₀ → cs.kind = .function →
    pre → dp + k < recursionLimit → un + 20 * k < cLine → ret base (envX cn cs L a ccd cl :: outer) h₀ L m s Q E →
      wpAny (model prog w) (ktrTop dp un gd cn cs L a ccd cl outer) (call (.ref f) vs) Q E s
abbrev Con (f : Addr) (vs : List Value) (news : List (Addr × Obj)) (pre : Prop) (ret : Told1) : Prop := ConK 2 f vs news pre ret
/-- .. it hands a value back and leaves the ledger -/
def Ret (R : Tok → Value) (news : List (Addr × Obj)) : Told1 := fun _ _ h₀ L m s Q _ =>
  ∀ (t : Tok) (h' : Heap) (tk' : Nat), Fr h₀ L h' m → News h₀ L h' news → Q (R t) { s with heap := h', toks := tk' }
theorem Ret.int {news : List (Addr × Obj)} {base : Heap} {fs : List Env} {h₀ : Heap} {L : Addr} {m : Str → Option Value} {s : Shared} {Q E : Value → Shared → Prop} {x y : Int} (h : Ret (fun t => .int x t) news base fs h₀ L m s Q E) (e : y = x) {t : Tok} {h' : Heap} {tk' : Nat} (F : Fr h₀ L h' m) (N : News h₀ L h' news) : Q (.int y t) { s with heap := h', toks := tk' } := e ▸ h t h' tk' F N
abbrev tupOf (vs : List Value) : Obj := { cls := .type "tuple", data := .seq vs.toArray }
/-- .. it hands a new tuple of two ints back -/
def RetPair (x y : Int) (news : List (Addr × Obj)) : Told1 := fun _ _ h₀ L m s Q _ =>
  ∀ (r : Addr) (t u : Tok) (h' : Heap) (tk' : Nat), Fr h₀ L h' m → News h₀ L h' ((r, tupOf [.int x t, .int y u]) :: news) → Q (.ref r) { s with heap := h', toks := tk' }
theorem RetPair.of {x y x' y' : Int} {news : List (Addr × Obj)} {base : Heap} {fs : List Env} {h₀ : Heap} {L : Addr} {m : Str → Option Value} {s : Shared} {Q E : Value → Shared → Prop} (hr : RetPair x y news base fs h₀ L m s Q E) (ex : x' = x) (ey : y' = y) {r : Addr} {t u : Tok} {h' : Heap} {tk' : Nat}
    (F : Fr h₀ L h' m) (N : News h₀ L h' ((r, { cls := .type "tuple", data := .seq #[.int x' t, .int y' u] }) :: news)) : Q (.ref r) { s with heap := h', toks := tk' } := by
  subst ex ey
  exact hr r t u h' tk' F N
/-- .. it raises a built-in exception of the interpreter's -/
def Raises (cls : String) (news : List (Addr × Obj)) : Told1 := fun base fs h₀ L m s _ E =>
  ∀ (e : Addr) (g h' : Heap) (tk' : Nat), Fr h₀ L g m → RaisedN base fs e (.type cls) news h' → g.UpToSlots h' → E (.ref e) { s with heap := h', toks := tk' }
theorem RaisedN.sub {base : Heap} {l : List Env} {e : Addr} {cls : Value} {news nx : List (Addr × Obj)} {h : Heap} (R : RaisedN base l e cls nx h) (hs : ∀ p ∈ news, p ∈ nx) : RaisedN base l e cls news h := by
  obtain ⟨B, a0, h1, h2, h3⟩ := R
  exact ⟨B, a0, h1, fun q hq => h2 q (hs q hq), h3⟩
theorem Raises.of {cls : String} {news nx : List (Addr × Obj)} {base : Heap} {fs : List Env} {h₀ : Heap} {L : Addr} {m : Str → Option Value} {s : Shared} {Q E : Value → Shared → Prop} (hr : Raises cls news base fs h₀ L m s Q E) (hs : ∀ p ∈ news, p ∈ nx) {e : Addr} {g h' : Heap} {tk' : Nat}
    (F : Fr h₀ L g m) (R : RaisedN base fs e (.type cls) nx h') (U : g.UpToSlots h') : E (.ref e) { s with heap := h', toks := tk' } := hr e g h' tk' F (RaisedN.sub R hs) U

theorem encode_c (v : Int) (tv : Tok) (news : List (Addr × Obj)) : Con 28 [.int v tv] news (-(2 ^ 63) ≤ v ∧ v < 2 ^ 63) (Ret (fun t => .int (zz v) t) news) := by
  w_top off
  unfold Con ConK
  k_fill
  intro prog hprog w p loose mean mg mb dp un gd cn cs a ccd cl outer A₀ base h₀ L m s Q E B F X N T hk hpre hd hu hret
  obtain ⟨hv1, hv2⟩ := hpre
  refine wpAny_call ?_
  k_dflt cell_enter
  k_steps
  exact hret.int (zz_math hv1 hv2) (by k_asm) (by k_asm)
theorem decode_c (n : Int) (tv : Tok) (news : List (Addr × Obj)) : Con 35 [.int n tv] news (0 ≤ n ∧ n < 2 ^ 64) (Ret (fun t => .int (dz n) t) news) := by
  unfold Con ConK
  k_fill
  intro prog hprog w p loose mean mg mb dp un gd cn cs a ccd cl outer A₀ base h₀ L m s Q E B F X N T hk hpre hd hu hret
  obtain ⟨hv1, hv2⟩ := hpre
  refine wpAny_call ?_
  k_dflt cell_enter
  k_steps
  exact hret.int (dz_math hv1) (by k_asm) (by k_asm)
theorem ones_c (n : Int) (tv : Tok) (news : List (Addr × Obj)) : Con 75 [.int n tv] news (0 ≤ n ∧ n < 256) (Ret (fun t => .int (ones n : Nat) t) news) := by
  unfold Con ConK
  k_fill
  intro prog hprog w p loose mean mg mb dp un gd cn cs a ccd cl outer A₀ base h₀ L m s Q E B F X N T hk hpre hd hu hret
  obtain ⟨hv1, hv2⟩ := hpre
  refine wpAny_call ?_
  k_dflt cell_enter
  k_with_none
  k_with "exec While BoolOp cons nil" => (
    refine ksw_while (σ := Nat × Tok) (fun _ => news) (fun c => [("ones", .int c.1 c.2)]) (fun _ => True) [] (fun c => c.1 ≤ ones n) (fun c => 8 - c.1) (0, _) (by assumption) (by assumption) trivial (fun p hp => by rw [List.mem_singleton.mp hp]; rfl) (Nat.zero_le _) ?_)
  k_steps
  · rename_i c u h tk3 hT hP h8 hb h2 F2 N2
    have hlt := (ones_bit hv1 hv2 h8 hP).mp hb
    exact ksw_end (c.1 + 1, _) F2 N2 (fun p hp => hp) trivial (fun p hp => by rw [List.mem_singleton.mp hp]; rfl) (fun z hz _ => by have hz1 : z ≠ Str.ofString "ones" := hz _ (List.Mem.head _); simp [kstB, hz1]) hlt (by dsimp only; omega)
  · rename_i c u h tk3 hT hP F1 N1 h8 hb F2 N2 T2 K2
    have hlt := mt (ones_bit hv1 hv2 h8 hP).mpr hb
    exact hret.int (by show (c.1 : Int) = (ones n : Nat); omega) (by k_asm) (by k_asm)
  · rename_i c u h tk3 hT hP F1 N1 h8 F2 N2 T2 K2
    have := ones_le n
    exact hret.int (by show (c.1 : Int) = (ones n : Nat); omega) (by k_asm) (by k_asm)
theorem uvint_c (v : Value) (os : List Int) (b : Int) (news : List (Addr × Obj)) : Con 54 [v] news (SeqB news v os ∧ Octs os ∧ os.length ≤ 6 ∧ os.getD 0 0 = b ∧ ones b + 1 ≤ os.length) (RetPair (be (b % 2 ^ (8 - ones b)) ((os.drop 1).take (ones b))) (ones b + 1 : Nat) news) := by
  unfold Con ConK
  k_fill
  intro prog hprog w p loose mean mg mb dp un gd cn cs a ccd cl outer A₀ base h₀ L m s Q E B F X N T hk hpre hd hu hret
  obtain ⟨hS, hO, hz, hb, hon⟩ := hpre
  have hb' : os.getD (Int.toNat 0) 0 = b := hb
  have h0 : 0 ≤ b ∧ b < 256 := hb ▸ hO (os.getD 0 0) (by cases os with | nil => exact absurd hon (by simp) | cons o r => exact List.mem_cons_self)
  obtain ⟨hb0, hb1⟩ := h0
  have h8 := ones_le b
  refine wpAny_call ?_
  k_dflt cell_enter
  k_with_none
  k_with "subscriptTail" => ((refine' seqB_itemS ?k1 ?k2 ?k9 ?k3 ?k4 ?k5 ?k6 ?_ ?k7; (case k1 => k_asm); (case k2 => with_reducible assumption); (case k9 => first | exact fun _ h => h | exact fun _ h => List.mem_append_left _ h); (case k3 => assumption); (case k4 => omega); (case k5 => first | decide | omega); (case k6 => first | assumption | omega); (case k7 => with_unfolding_all rfl); k_whole); intro _ _)
  k_with "storeName" => (rw [hb'])
  k_with "storeName" => (rw [ones_bits hb0 hb1])
  k_with "storeName" => (rw [head_bits hb0 hb1])
  k_with "state" => (exact uv_turn hO hb0 hb1 hz (by omega) (by assumption) ⟨by assumption, by assumption, by assumption⟩)
  k_with "state" => (exact uv_start hb0 hb1)
  k_with "pyIter ref" => (k_state (fun pre rv => UvP b os pre rv) "rv")
  k_steps
  · have h1 := (top_bit hb0 hb1).mp (by assumption)
    refine hret.of ?_ ?_ (by k_asm) (by k_asm)
    · rw [h1]; show b = b % 256; omega
    · rw [h1]; rfl
  · refine hret.of ?_ ?_ (by k_asm) (by k_asm)
    · (rename (_ : Int) = be _ _ => h)
      have e : ((ones b : Int) + 1 - 1).toNat = ones b := by omega
      rw [h, rangeKs_length, e]
    · omega
theorem seqB_either {prog : Program} {w : World} {A : Around} {E : Value → Shared → Prop} {s : Shared} {h₀ : Heap} {L : Addr} {news : List (Addr × Obj)} {v : Value} {os : List Int} {nx : List (Addr × Obj)} {value slice : Expr} {k : Int} {u : Tok} {Q : Value → Shared → Prop} (hA : A.handled = none) (N : News h₀ L s.heap nx) (S : SeqB news v os) (hn : ∀ p ∈ news, p ∈ nx) (ho : Octs os) (hz : os.length ≤ 1000) (h0 : 0 ≤ k) (h1 : k < 2 ^ 63)
    (h : k < os.length → ∀ t tk, Q (.int (os.getD k.toNat 0) t) { s with toks := tk })
    (hE : (os.length : Int) ≤ k → ∀ h' tk e, Heap.NewExc s.heap h' e "IndexError" → E (.ref e) { s with heap := h', toks := tk }) (hs : subscripted slice false v (.int k u) = operate [v, .int k u] (getItem v (.int k u))) :
    wpAny (model prog w) A (subscriptTail value slice v (.int k u)) Q E s := by
  by_cases q : k < os.length
  · exact seqB_itemS N S hn ho hz h0 q (h q) hs
  · exact seqB_outS hA N S hn h0 h1 (by omega) (hE (by omega)) hs
theorem uvint_no (v : Value) (os : List Int) (b : Int) (news : List (Addr × Obj)) : Con 54 [v] news (SeqB news v os ∧ Octs os ∧ os.length ≤ 6 ∧ os.getD 0 0 = b ∧ (os.length = 0 ∨ os.length < ones b + 1)) (Raises "IndexError" news) := by
  unfold Con ConK
  k_fill
  intro prog hprog w p loose mean mg mb dp un gd cn cs a ccd cl outer A₀ base h₀ L m s Q E B F X N T hk hpre hd hu hret
  obtain ⟨hS, hO, hz, hb, hon⟩ := hpre
  have hb' : os.getD (Int.toNat 0) 0 = b := hb
  have h0 : 0 ≤ b ∧ b < 256 := by
    rw [← hb]
    cases os with
    | nil => exact ⟨Int.le_refl _, by decide⟩
    | cons o r => exact hO o List.mem_cons_self
  obtain ⟨hb0, hb1⟩ := h0
  have h8 := ones_le b
  refine wpAny_call ?_
  k_dflt cell_enter
  k_with_none
  k_with "subscriptTail" => ((refine' seqB_either rfl ?k1 ?k2 ?k9 ?k3 ?k4 ?k5 ?k6 ?_ ?_ ?k7; (case k1 => k_asm); (case k2 => with_reducible assumption); (case k9 => first | exact fun _ h => h | exact fun _ h => List.mem_append_left _ h); (case k3 => assumption); (case k4 => omega); (case k5 => first | decide | omega); (case k6 => first | decide | omega); (case k7 => with_unfolding_all rfl); k_whole) <;> intro _ _)
  k_with "storeName" => (rw [hb'])
  k_with "storeName" => (rw [ones_bits hb0 hb1])
  k_with "storeName" => (rw [head_bits hb0 hb1])
  k_with "state" => (exact ⟨uv_turn hO hb0 hb1 hz (by omega) (by assumption) ⟨by assumption, by assumption, by assumption⟩, by rw [List.length_append, List.length_singleton]; omega⟩)
  k_with "state" => (exact ⟨uv_start hb0 hb1, by show 0 < os.length; omega⟩)
  k_with "pyIter ref" => (k_state (fun pre rv => UvP b os pre rv ∧ pre.length < os.length) "rv")
  k_steps
  · exfalso
    have h1 := (top_bit hb0 hb1).mp (by assumption)
    omega
  · exact hret.of (fun _ h => List.mem_append_left _ h) (by assumption) (by assumption) (by assumption)
  · exfalso
    (rename (rangeKs _ _).length < _ => hl)
    rw [rangeKs_length] at hl
    omega
  · exact hret.of (fun _ h => h) (by assumption) (by assumption) (by assumption)
end Fq
end
section
/-! FqT6 -/
open PySem PySem.W PySem.Calls PySem.Spec PyProof.Rows
namespace Fq
theorem value_c (l : Addr) (vs : List Value) (nn : Nat) (os : List Int) (news : List (Addr × Obj)) : Con 68 [.ref l] news ((l, listOf vs.toArray nn) ∈ news ∧ IntsAre vs os ∧ Octs os ∧ os.length ≤ 6 ∧ 0 < os.length) (Ret (fun t => .int (lawValue os) t) news) := by
  unfold Con ConK
  k_fill
  intro prog hprog w p loose mean mg mb dp un gd cn cs a ccd cl outer A₀ base h₀ L m s Q E B F X N T hk hpre hd hu hret
  obtain ⟨hm, hi, hO, hz, hne⟩ := hpre
  refine wpAny_call ?_
  k_dflt cell_enter
  k_with_none
  k_with "state" => (exact lv_turn hO hz (by assumption) ⟨by assumption, by assumption, by assumption⟩)
  k_with "state" => (exact ⟨rfl, by decide, by decide⟩)
  k_with "pyIter ref" => ((rename Fr _ _ _ _ => lF9); (rename News _ _ _ _ => lN9); (have kMark := kstMark); refine kst_listL (σ := Int × Tok) (fun _ => news) (fun c => [("value", .int c.1 c.2)]) (fun _ => True) [] (fun pre c => LvP os pre c.1) (0, _) rfl (fun _ => hm) hi lF9 lN9 trivial (fun p hp => by rw [List.mem_singleton.mp hp]; rfl) ⟨rfl, Int.le_refl 0, (by decide : (0 : Int) < 281474976710656)⟩ ?_ ?_; (all_goals clear lF9 lN9))
  k_with "call builtin:len" => (refine seqB_len (by k_asm) (SeqB.list hm hi) (by omega) ?_; intro _ _)
  k_steps
  · (rename os = _ ++ _ :: _ => he)
    (rename LvP _ _ _ => hv)
    exact kst_end (_, _) (by assumption) (by assumption) (fun p hp => List.mem_append_left _ hp) (fun p hp => List.mem_append_right _ hp) rfl trivial (fun p hp => by rw [List.mem_singleton.mp hp]; rfl)
      (fun z hz hp _ => by have h1 : z ≠ Str.ofString "value" := hp _ (List.Mem.head _); simp [kstB, h1, hz]) (lv_turn hO hz he hv)
  · (rename LvP _ _ _ => hv)
    (rename 128 ≤ _ => h1)
    exact hret.int (by unfold lawValue; rw [if_pos (show 128 ≤ os.getD 0 0 from h1), hv.1]; rfl) (by k_asm) (by k_asm)
  · (rename LvP _ _ _ => hv)
    (rename ¬ 128 ≤ _ => h1)
    exact hret.int (by unfold lawValue; rw [if_neg (show ¬ 128 ≤ os.getD 0 0 from h1), hv.1]) (by k_asm) (by k_asm)
theorem News_drop2 {h₀ h : Heap} {L : Addr} {x y : Addr × Obj} {news : List (Addr × Obj)} (N : News h₀ L h (x :: y :: news)) : News h₀ L h (x :: news) := fun q hq => N q (by
  rcases List.mem_cons.mp hq with e | hq
  · exact e ▸ List.Mem.head _
  · exact List.Mem.tail _ (List.Mem.tail _ hq))
theorem reading_c (l : Addr) (vs : List Value) (nn : Nat) (os : List Int) (b : Int) (news : List (Addr × Obj)) : ConK 4 82 [.ref l] news ((l, listOf vs.toArray nn) ∈ news ∧ IntsAre vs os ∧ Octs os ∧ os.length ≤ 6 ∧ os.getD 0 0 = b ∧ ones b + 1 ≤ os.length) (RetPair (be (b % 2 ^ (8 - ones b)) ((os.drop 1).take (ones b))) (ones b + 1 : Nat) news) := by
  unfold ConK
  k_fill
  intro prog hprog w p loose mean mg mb dp un gd cn cs a ccd cl outer A₀ base h₀ L m s Q E B F X N T hk hpre hd hu hret
  obtain ⟨hm, hi, hO, hz, hb, hon⟩ := hpre
  have hb' : os.getD (Int.toNat 0) 0 = b := hb
  have h0 : 0 ≤ b ∧ b < 256 := hb ▸ hO (os.getD 0 0) (by cases os with | nil => exact absurd hon (by simp) | cons o r => exact List.mem_cons_self)
  obtain ⟨hb0, hb1⟩ := h0
  have h8 := ones_le b
  have hne : 0 < os.length := by omega
  refine wpAny_call ?_
  k_dflt cell_enter
  k_with_none
  k_with "call builtin:len" => (refine seqB_len (by k_asm) (SeqB.list hm hi) (by omega) ?_; intro _ _)
  k_with "truthy ref" => (refine list_truthy (by k_asm) hm hi (by omega) (decide_eq_true hne) ?_; intro _)
  k_with "storeName" => (rw [hb', head_fmod b])
  k_with "pyIter ref" => ((rename Fr _ _ _ _ => lF9); (rename News _ _ _ (_ :: _) => lN9); (rename IntsAre _ (List.take _ _) => lI9); (have kMark := kstMark); refine kst_listL (σ := Int × Tok) (fun _ => (_, listOf _ 0) :: news) (fun c => [("value", .int c.1 c.2)]) (fun _ => True) [] (fun pre c => RvP b pre c.1) (_, _) rfl (fun _ => List.Mem.head _) lI9 lF9 lN9 trivial (fun p hp => by rw [List.mem_singleton.mp hp]; rfl) (rv_start hb0 hb1) ?_ ?_; (all_goals clear lF9 lN9 lI9))
  k_with "call ref" => (rw [hb']; refine' ones_c b _ news prog hprog w p loose mean mg mb _ _ _ _ _ _ _ _ _ _ _ _ _ _ _ _ _ ?k1 ?k2 ?k3 ?k4 ?k5 rfl ⟨hb0, hb1⟩ ?kd ?ku ?kr; (case k1 => k_asm); (case k2 => k_asm); (case k3 => k_asm); (case k4 => k_asm); (case k5 => k_asm); (case kd => ktr_room); (case ku => ktr_units); intro _ _ _ _ _; (try dsimp only); (try k_fold))
  k_steps
  · (rename List.take _ _ = _ ++ _ :: _ => he)
    (rename RvP _ _ _ => hv)
    exact kst_end (_, _) (by assumption) (by assumption) (fun p hp => List.mem_append_left _ hp) (fun p hp => List.mem_append_right _ hp) rfl trivial (fun p hp => by rw [List.mem_singleton.mp hp]; rfl)
      (fun z hz hp _ => by have h1 : z ≠ Str.ofString "value" := hp _ (List.Mem.head _); simp [kstB, h1, hz]) (rv_turn hO hb0 hb1 hz he hv)
  · (rename RvP _ _ _ => hv)
    (rename News h₀ L _ _ => kN9)
    refine hret.of ?_ ?_ (by k_asm) (News_drop2 kN9)
    · rw [hv.1, rest_take hon]
    · omega
theorem reading_no (l : Addr) (vs : List Value) (nn : Nat) (os : List Int) (b : Int) (news : List (Addr × Obj)) : ConK 4 82 [.ref l] news ((l, listOf vs.toArray nn) ∈ news ∧ IntsAre vs os ∧ Octs os ∧ os.length ≤ 6 ∧ os.getD 0 0 = b ∧ (os.length = 0 ∨ os.length < ones b + 1)) (Ret (fun t => .str (Str.ofString "refused") t) news) := by
  unfold ConK
  k_fill
  intro prog hprog w p loose mean mg mb dp un gd cn cs a ccd cl outer A₀ base h₀ L m s Q E B F X N T hk hpre hd hu hret
  obtain ⟨hm, hi, hO, hz, hb, hon⟩ := hpre
  have hb' : os.getD (Int.toNat 0) 0 = b := hb
  have h0 : 0 ≤ b ∧ b < 256 := by
    rw [← hb]
    cases os with
    | nil => exact ⟨Int.le_refl _, by decide⟩
    | cons o r => exact hO o List.mem_cons_self
  obtain ⟨hb0, hb1⟩ := h0
  have h8 := ones_le b
  by_cases hne : 0 < os.length
  all_goals refine wpAny_call ?_
  all_goals k_dflt cell_enter
  all_goals k_with_none
  · k_with "call builtin:len" => (refine seqB_len (by k_asm) (SeqB.list hm hi) (by omega) ?_; intro _ _)
    k_with "truthy ref" => (refine list_truthy (by k_asm) hm hi (by omega) (decide_eq_true hne) ?_; intro _)
    k_with "call ref" => (rw [hb']; refine' ones_c b _ news prog hprog w p loose mean mg mb _ _ _ _ _ _ _ _ _ _ _ _ _ _ _ _ _ ?k1 ?k2 ?k3 ?k4 ?k5 rfl ⟨hb0, hb1⟩ ?kd ?ku ?kr; (case k1 => k_asm); (case k2 => k_asm); (case k3 => k_asm); (case k4 => k_asm); (case k5 => k_asm); (case kd => ktr_room); (case ku => ktr_units); intro _ _ _ _ _; (try dsimp only); (try k_fold))
    k_steps
    exact hret _ _ _ (by k_asm) (by k_asm)
  · k_with "truthy ref" => (refine list_truthy (by k_asm) hm hi (by omega) (decide_eq_false hne) ?_; intro _)
    k_steps
    exact hret _ _ _ (by k_asm) (by k_asm)
end Fq
end
section
/-! FqN -/
open PySem PySem.W PySem.Calls PySem.Spec PyProof.Rows
namespace Fq
/-! the vint of a number below 2^41, octet by octet -/
abbrev bitsN (z : Int) : Nat := Builtin.Int.intBits z
def ext (z : Int) : Nat := (bitsN z + 6) / 7 - 1
def lows : Nat → Int → List Int
  | 0, _ => []
  | j + 1, z => z / 256 ^ j % 256 :: lows j z
def encHead (e : Nat) (v : Int) : Int := v + (256 - 2 ^ (8 - e))
def enc (z : Int) : List Int := encHead (ext z) (z / 256 ^ ext z) :: lows (ext z) z
def encAll (zs : List Int) : List Int := zs.flatMap enc
theorem lows_length (j : Nat) (z : Int) : (lows j z).length = j := by
  induction j with
  | zero => rfl
  | succ j ih => rw [lows, List.length_cons, ih]
theorem lows_octs (j : Nat) (z : Int) : ∀ o ∈ lows j z, 0 ≤ o ∧ o < 256 := by
  induction j with
  | zero => intro o h; simp [lows] at h
  | succ j ih =>
    intro o h
    rcases List.mem_cons.mp h with rfl | h
    · omega
    · exact ih o h
theorem be_lows (j : Nat) (z : Int) : be (z / 256 ^ j) (lows j z) = z := by
  induction j with
  | zero => simp [be, lows]
  | succ j ih =>
    have e : z / 256 ^ (j + 1) * 256 + z / 256 ^ j % 256 = z / 256 ^ j := by
      rw [Int.pow_succ, ← Int.ediv_ediv_of_nonneg (Int.le_of_lt (Int.pow_pos (by decide)))]
      omega
    show be (z / 256 ^ (j + 1) * 256 + z / 256 ^ j % 256) (lows j z) = z
    rw [e, ih]
theorem bitsN_iff {z : Int} {k : Nat} (h0 : 0 ≤ z) : bitsN z ≤ k ↔ z < 2 ^ k := by
  obtain ⟨n, rfl⟩ := Int.eq_ofNat_of_zero_le h0
  have e : ((2 ^ k : Nat) : Int) = (2 : Int) ^ k := by simp
  show Builtin.Int.intBits (n : Int) ≤ k ↔ _
  rw [PySem.intBits_le_iff, show ((n : Int)).natAbs = n from rfl]
  omega
theorem ext_le {z : Int} (h0 : 0 ≤ z) (h1 : z < 2 ^ 41) : ext z ≤ 5 := by
  have := (bitsN_iff (k := 41) h0).mpr h1
  unfold ext; omega
theorem hi_range {z : Int} (h0 : 0 ≤ z) (h1 : z < 2 ^ 41) : 0 ≤ z / 256 ^ ext z ∧ z / 256 ^ ext z < 2 ^ (7 - ext z) := by
  have he := ext_le h0 h1
  have hb : bitsN z ≤ (7 - ext z) + 8 * ext z := by unfold ext at *; omega
  have hz := (bitsN_iff h0).mp hb
  have e : (256 : Int) ^ ext z = 2 ^ (8 * ext z) := by rw [Int.pow_mul]; rfl
  have hp : (0 : Int) < 256 ^ ext z := Int.pow_pos (by decide)
  refine ⟨Int.ediv_nonneg h0 (Int.le_of_lt hp), Int.ediv_lt_of_lt_mul hp ?_⟩
  rw [e, ← Int.pow_add]
  exact hz
theorem enc_all : ∀ (e : Fin 6) (v : Fin 128), v.1 < 2 ^ (7 - e.1) → (0 ≤ encHead e.1 (v.1 : Int) ∧ encHead e.1 (v.1 : Int) < 256 ∧ ones (encHead e.1 (v.1 : Int)) = e.1 ∧ encHead e.1 (v.1 : Int) % 2 ^ (8 - e.1) = (v.1 : Int) ∧
    Builtin.bitOr (v.1 : Int) ((255 : Int).fdiv (2 ^ ((8 - (e.1 : Int)).toNat)) * 2 ^ ((8 - (e.1 : Int)).toNat)) = encHead e.1 (v.1 : Int)) := by decide +kernel
theorem encHead_all {e : Nat} {v : Int} (he : e ≤ 5) (h0 : 0 ≤ v) (h1 : v < 2 ^ (7 - e)) : (0 ≤ encHead e v ∧ encHead e v < 256 ∧ ones (encHead e v) = e ∧ encHead e v % 2 ^ (8 - e) = v ∧
    Builtin.bitOr v ((255 : Int).fdiv (2 ^ ((8 - (e : Int)).toNat)) * 2 ^ ((8 - (e : Int)).toNat)) = encHead e v) := by
  obtain ⟨n, rfl⟩ := Int.eq_ofNat_of_zero_le h0
  have hn : n < 2 ^ (7 - e) := by
    have : ((2 ^ (7 - e) : Nat) : Int) = (2 : Int) ^ (7 - e) := by simp
    omega
  have h7 : n < 128 := Nat.lt_of_lt_of_le hn (by have : 2 ^ (7 - e) ≤ 2 ^ 7 := Nat.pow_le_pow_right (by decide) (by omega); simpa using this)
  exact enc_all ⟨e, by omega⟩ ⟨n, h7⟩ hn
theorem enc_octs {z : Int} (h0 : 0 ≤ z) (h1 : z < 2 ^ 41) : ∀ o ∈ enc z, 0 ≤ o ∧ o < 256 := by
  obtain ⟨v0, v1⟩ := hi_range h0 h1
  obtain ⟨b0, b1, -⟩ := encHead_all (ext_le h0 h1) v0 v1
  intro o h
  rcases List.mem_cons.mp h with rfl | h
  · exact ⟨b0, b1⟩
  · exact lows_octs _ _ o h
theorem enc_length (z : Int) : (enc z).length = ext z + 1 := by unfold enc; rw [List.length_cons, lows_length]
theorem enc_small {z : Int} (h0 : 0 ≤ z) (h1 : z < 128) : enc z = [z] := by
  have hb : bitsN z ≤ 7 := (bitsN_iff (k := 7) h0).mpr (by simpa using h1)
  have he : ext z = 0 := by unfold ext; omega
  simp [enc, he, lows, encHead]
theorem ext_pos {z : Int} (h0 : 0 ≤ z) (h1 : ¬ z < 128) : 0 < ext z := by
  have hb : ¬ bitsN z ≤ 7 := fun h => h1 (by simpa using (bitsN_iff (k := 7) h0).mp h)
  unfold ext; omega
/-- the head of what is left, and what follows it -/
structure Vint (os : List Int) (n : Nat) (z : Int) : Prop where
  len : n + ext z + 1 ≤ os.length
  head : os.getD n 0 = encHead (ext z) (z / 256 ^ ext z)
  rest : (os.drop (n + 1)).take (ext z) = lows (ext z) z
theorem vint_at (xs ys : List Int) (z : Int) : Vint (xs ++ (enc z ++ ys)) xs.length z := by
  refine ⟨by simp [enc_length]; omega, ?_, ?_⟩
  · rw [List.getD_eq_getElem?_getD, List.getElem?_append_right (Nat.le_refl _), Nat.sub_self]; rfl
  · rw [show xs.length + 1 = xs.length + 1 from rfl, ← List.drop_drop, List.drop_left]
    show List.take (ext z) (lows (ext z) z ++ ys) = _
    exact List.take_left' (lows_length _ _)
theorem encAll_snoc (xs : List Int) (z : Int) : encAll (xs ++ [z]) = encAll xs ++ enc z := by simp [encAll]
theorem encAll_octs {zs : List Int} (h : ∀ z ∈ zs, 0 ≤ z ∧ z < 2 ^ 41) : ∀ o ∈ encAll zs, 0 ≤ o ∧ o < 256 := by
  intro o ho
  obtain ⟨z, hz, ho⟩ := List.mem_flatMap.mp ho
  exact enc_octs (h z hz).1 (h z hz).2 o ho
theorem encAll_length {zs : List Int} (h : ∀ z ∈ zs, 0 ≤ z ∧ z < 2 ^ 41) : (encAll zs).length ≤ 6 * zs.length := by
  induction zs with
  | nil => exact Nat.le_refl _
  | cons z r ih =>
    have h1 := ext_le (h z List.mem_cons_self).1 (h z List.mem_cons_self).2
    have h2 := ih fun x hx => h x (List.mem_cons_of_mem _ hx)
    show (enc z ++ encAll r).length ≤ _
    rw [List.length_append, enc_length, List.length_cons]
    omega
theorem unp_at {zs done rest : List Int} {n : Nat} (e : zs = done ++ rest) (hn : n = (encAll done).length) (h : n < (encAll zs).length) : ∃ z r, rest = z :: r ∧ Vint (encAll zs) n z := by
  subst e hn
  cases rest with
  | nil => rw [List.append_nil] at h; omega
  | cons z r =>
    refine ⟨z, r, rfl, ?_⟩
    have : encAll (done ++ z :: r) = encAll done ++ (enc z ++ encAll r) := by simp [encAll]
    rw [this]
    exact vint_at _ _ _
theorem unp_end {zs done rest : List Int} {n : Nat} (e : zs = done ++ rest) (hn : n = (encAll done).length) (h : ¬ n < (encAll zs).length) : done = zs := by
  subst e hn
  cases rest with
  | nil => rw [List.append_nil]
  | cons z r =>
    exfalso
    have : encAll (done ++ z :: r) = encAll done ++ (enc z ++ encAll r) := by simp [encAll]
    rw [this, List.length_append, List.length_append, enc_length] at h
    omega
/-- the inner loop: j of the extra octets are read -/
abbrev VnP (os : List Int) (n0 : Nat) (z : Int) (j : Nat) (n val : Int) : Prop := j ≤ ext z ∧ n = n0 + j ∧ val = be (z / 256 ^ ext z) ((lows (ext z) z).take j) ∧ 0 ≤ val ∧ val < 281474976710656
theorem vn_bound {z : Int} (h0 : 0 ≤ z) (h1 : z < 2 ^ 41) (j : Nat) : 0 ≤ be (z / 256 ^ ext z) ((lows (ext z) z).take j) ∧ be (z / 256 ^ ext z) ((lows (ext z) z).take j) < 281474976710656 := by
  obtain ⟨v0, v1⟩ := hi_range h0 h1
  have he := ext_le h0 h1
  have h := be_bound (os := (lows (ext z) z).take j) (fun o hm => lows_octs _ _ o (List.mem_of_mem_take hm)) (k := 1) v0 (by
    have e7 : ∀ k : Fin 8, (2 : Int) ^ k.1 ≤ 128 := by decide
    have := e7 ⟨7 - ext z, by omega⟩
    dsimp only at this
    omega)
  have hl : ((lows (ext z) z).take j).length ≤ 5 := by rw [List.length_take, lows_length]; omega
  have hp := pow256_le (l := 1 + ((lows (ext z) z).take j).length) (by omega)
  omega
theorem vn_start {os : List Int} {n0 : Nat} {z : Int} (h0 : 0 ≤ z) (h1 : z < 2 ^ 41) : VnP os n0 z 0 n0 (z / 256 ^ ext z) := ⟨Nat.zero_le _, by omega, rfl, (vn_bound h0 h1 0).1, (vn_bound h0 h1 0).2⟩
theorem vn_item {os : List Int} {n0 : Nat} {z n val : Int} {j : Nat} (V : Vint os n0 z) (h : VnP os n0 z j n val) (hn : n < n0 + ext z) : ∃ o, (lows (ext z) z)[j]? = some o ∧ os.getD (n + 1).toNat 0 = o := by
  have hj : j < ext z := by have := h.2.1; omega
  have e : (n + 1).toNat = n0 + 1 + j := by have := h.2.1; omega
  have hl : j < (lows (ext z) z).length := by rw [lows_length]; exact hj
  refine ⟨_, List.getElem?_eq_getElem hl, ?_⟩
  have hr := congrArg (fun l => l[j]?) V.rest
  simp only [List.getElem?_take, List.getElem?_drop, hj, if_true] at hr
  rw [e, List.getD_eq_getElem?_getD, hr, List.getElem?_eq_getElem hl]
  rfl
theorem vn_turn {os : List Int} {n0 : Nat} {z n val : Int} {j : Nat} (h0 : 0 ≤ z) (h1 : z < 2 ^ 41) (V : Vint os n0 z) (h : VnP os n0 z j n val) (hn : n < n0 + ext z) :
    VnP os n0 z (j + 1) (n + 1) (Builtin.bitOr (val * 2 ^ Int.toNat 8) (Builtin.bitAnd (os.getD (n + 1).toNat 0) 255)) := by
  obtain ⟨o, hj, ho⟩ := vn_item V h hn
  have hb := lows_octs _ _ o (List.mem_of_getElem? hj)
  have hjl : j < ext z := by have := h.2.1; omega
  have e2 : (lows (ext z) z).take (j + 1) = (lows (ext z) z).take j ++ [o] := by rw [List.take_add_one, hj]; rfl
  have e3 : Builtin.bitOr (val * 2 ^ Int.toNat 8) (Builtin.bitAnd (os.getD (n + 1).toNat 0) 255) = be (z / 256 ^ ext z) ((lows (ext z) z).take (j + 1)) := by
    rw [ho, orByte hb.1 hb.2, e2, be_snoc, ← h.2.2.1]
  rw [e3]
  have := vn_bound h0 h1 (j + 1)
  exact ⟨hjl, by have := h.2.1; omega, rfl, this.1, this.2⟩
theorem vn_done {os : List Int} {n0 : Nat} {z n val : Int} {j : Nat} (h : VnP os n0 z j n val) (hn : ¬ n < n0 + ext z) : val = z ∧ n = n0 + ext z := by
  have hj : j = ext z := by have := h.1; have := h.2.1; omega
  refine ⟨?_, by have := h.2.1; omega⟩
  rw [h.2.2.1, hj, List.take_of_length_le (by rw [lows_length]; exact Nat.le_refl _), be_lows]
end Fq
end
section
/-! FqT7 -/
open PySem PySem.W PySem.Calls PySem.Spec PyProof.Rows
namespace Fq
/-- .. a new tuple of ints -/
def RetInts (ns : List Int) (news : List (Addr × Obj)) : Told1 := fun _ _ h₀ L m s Q _ =>
  ∀ (r : Addr) (vs : List Value) (h' : Heap) (tk' : Nat), IntsAre vs ns → Fr h₀ L h' m → News h₀ L h' ((r, tupOf vs) :: news) → Q (.ref r) { s with heap := h', toks := tk' }
theorem int_at {o : Option Value} {a b : Int} {t : Tok} (h : o = some (.int a t)) (e : a = b) : o = some (.int b t) := e ▸ h
theorem unp_len {done : List Int} {z : Int} : (encAll (done ++ [z])).length = (encAll done).length + ext z + 1 := by rw [encAll_snoc, List.length_append, enc_length]; rfl
theorem unp_zs {zs done rest r : List Int} {z : Int} (e : zs = done ++ rest) (hr : rest = z :: r) : zs = (done ++ [z]) ++ r := by rw [e, hr, List.append_assoc]; rfl
theorem unp_vs {vs : List Value} {done : List Int} {z x : Int} {t : Tok} (h : IntsAre vs (done.map dz)) (e : x = dz z) : IntsAre (vs ++ [.int x t]) ((done ++ [z]).map dz) := by
  rw [List.map_append, e]
  exact IntsAre.append h (.cons _ _ .nil)
theorem unp_c (v : Value) (zs : List Int) (news : List (Addr × Obj)) : ConK 4 42 [v] news (SeqB news v (encAll zs) ∧ (∀ z ∈ zs, 0 ≤ z ∧ z < 2 ^ 41) ∧ zs.length ≤ 2) (RetInts (zs.map dz) news) := by
  unfold ConK
  k_fill
  intro prog hprog w p loose mean mg mb dp un gd cn cs a ccd cl outer A₀ base h₀ L m s Q E B F X N T hk hpre hd hu hret
  obtain ⟨hS, hz, hl2⟩ := hpre
  have hO : Octs (encAll zs) := encAll_octs hz
  have hlen := encAll_length hz
  refine wpAny_call ?_
  k_dflt cell_enter
  k_with_none
  k_with "call builtin:len" => ((rename News _ _ _ (_ :: _) => lN9); (refine seqB_len lN9 (hS.mono (fun p hp => List.mem_cons_of_mem _ hp)) (by omega) ?_); intro _ _)
  k_with "call type:tuple" => (
    (rename Fr _ _ _ _ => lF9); (rename News _ _ _ (_ :: _) => lN9); (rename zs = _ ++ _ ∧ _ => hp9); (have hi9 := hp9.2.length);
    (refine tuple_ofL lF9 lN9 ⟨_, (lN9 _ (List.Mem.head _)).1, rfl, _, rfl⟩ ?_ ?_); (rotate_left); (rw [hi9, sizeLine_eq, List.length_map]; have := congrArg List.length hp9.1; rw [List.length_append] at this; omega); (intro _ _ _ _ _))
  k_with "exec While Compare cons nil" => (
    (rename Fr _ _ _ _ => lF9); (rename News _ _ _ (_ :: _) => lN9);
    refine ksw_while (σ := List Int × List Int × List Value × Nat × Tok) (fun c => (_, listOf c.2.2.1.toArray c.2.2.2.1) :: news) (fun c => [("n", .int ((encAll c.1).length : Nat) c.2.2.2.2)]) (fun _ => True) ["first_byte", "val", "num_extra_bytes", "end"]
      (fun c => zs = c.1 ++ c.2.1 ∧ IntsAre c.2.2.1 (c.1.map dz)) (fun c => c.2.1.length) ([], zs, [], _, _) lF9 lN9 trivial (fun p hp => by rw [List.mem_singleton.mp hp]; rfl) ⟨rfl, .nil⟩ ?_; (clear lF9 lN9))
  k_with "exec While Compare cons nil" => (
    (rename Fr _ _ _ _ => lF9); (rename News _ _ _ (_ :: _) => lN9);
    refine ksw_while (σ := Nat × Int × Int × Tok × Tok) (fun _ => (_, listOf _ _) :: news) (fun c => [("n", .int c.2.1 c.2.2.2.1), ("val", .int c.2.2.1 c.2.2.2.2)]) (fun _ => True) []
      (fun c => VnP (encAll zs) _ z c.1 c.2.1 c.2.2.1) (fun c => ext z - c.1) (0, _, _, _, _) lF9 lN9 trivial (fun p hp => by rcases List.mem_cons.mp hp with e | hp; (rw [e]; rfl); (rw [List.mem_singleton.mp hp]; rfl)) (vn_start hzz.1 hzz.2) ?_; (clear lF9 lN9))
  k_with "subscriptTail" => (
    (rename VnP _ _ _ _ _ _ => hp9);
    (rename News _ _ _ (_ :: _) => lN9); (have hv9 := hV.len);
    (refine' seqB_itemS lN9 hS (fun p hp => List.mem_cons_of_mem _ hp) hO ?k4 ?k5 ?k6 ?_ ?k7); (case k4 => omega); (case k5 => omega); (case k6 => omega); (case k7 => with_unfolding_all rfl); (intro _ _); k_whole)
  k_with "subscriptTail" => (
    (rename zs = _ ++ _ ∧ _ => hp9);
    (rename ((_ : Nat) : Int) < _ => hl9); (obtain ⟨z, r, hr, hV⟩ := unp_at (n := (encAll _).length) hp9.1 rfl (by omega));
    (have hzz := hz z (by rw [hp9.1, hr]; simp)); (obtain ⟨v0, v1⟩ := hi_range hzz.1 hzz.2); (have hE9 := encHead_all (ext_le hzz.1 hzz.2) v0 v1); (obtain ⟨b, hb⟩ : ∃ b, b = encHead (ext z) (z / 256 ^ ext z) := ⟨_, rfl⟩); (rw [← hb] at hE9); (have hh9 := hV.head.trans hb.symm);
    (rename News _ _ _ (_ :: _) => lN9); (have hv9 := hV.len);
    (refine' seqB_itemS lN9 hS (fun p hp => List.mem_cons_of_mem _ hp) hO ?k4 ?k5 ?k6 ?_ ?k7); (case k4 => omega); (case k5 => omega); (case k6 => omega); (case k7 => with_unfolding_all rfl); (intro _ _); (rw [Int.toNat_natCast, hh9]); k_whole)
  k_with "storeName" => (rw [ones_bits hE9.1 hE9.2.1, hE9.2.2.1])
  k_with "storeName" => (rw [← hE9.2.2.1, head_bits hE9.1 hE9.2.1, hE9.2.2.1, hE9.2.2.2.1])
  k_with "call ref" => ((refine (decode_c _ _ _ prog hprog w p loose mean mg mb) _ _ _ _ _ _ _ _ _ _ _ _ _ _ _ _ _ (by k_asm) (by k_asm) (by k_asm) (by k_asm) (by k_asm) rfl ?_ (by ktr_room) (by ktr_units) ?_); (first | ((rename VnP _ _ _ _ _ _ => hp9); have := hp9.2.2.2; omega) | (have := hE9.1; have := hE9.2.1; omega)); (intro _ _ _ _ _); (try dsimp only); (try k_fold))
  k_with "call builtin:list.append" => (
    (rename Fr _ _ _ _ => lF9); (rename News _ _ _ (_ :: _) => lN9); (rename ∀ (p : Addr × Obj), p ∈ _ → p.1 < _ => l19); (rename zs = _ ++ _ ∧ _ => hp9); (have hi9 := hp9.2.length);
    (refine append_head lF9 lN9 (fun p hp => Nat.ne_of_lt (l19 p hp)) ?_ ?_); (rotate_left);
    (rw [List.size_toArray, hi9, sizeLine_eq, List.length_map]; have := congrArg List.length hp9.1; rw [List.length_append] at this; omega); (intro _ _ _))
  k_steps
  · have h0 := (top_bit hE9.1 hE9.2.1).mp (by assumption)
    have he : ext z = 0 := by rw [← hE9.2.2.1, h0]
    have hbz : b = z := by
      have := hE9.2.2.2.1
      rw [he] at this
      have h8 : (2 : Int) ^ (8 - 0) = 256 := by decide
      rw [h8, Int.pow_zero, Int.ediv_one] at this
      have := hE9.1; have := hE9.2.1; omega
    rename List Int × List Int × List Value × Nat × Tok => c
    exact ksw_end (c.1 ++ [z], r, c.2.2.1 ++ [.int (dz b) _], c.2.2.2.1 + 1, _) (by k_asm) (by k_asm) (by ((intro p hp; rcases List.mem_cons.mp hp with e | hp; (rw [e]; dsimp only; rw [← List.push_toArray]; exact List.Mem.head _); exact List.Mem.tail _ hp))) trivial (by ((intro p hp; rw [List.mem_singleton.mp hp]; refine int_at rfl ?_; dsimp only; rw [unp_len]; have := he; omega))) (by ((intro z hz hs; have h1 : z ≠ Str.ofString "n" := hz _ (List.Mem.head _); have h2 : z ≠ Str.ofString "val" := (fun e => by rw [e] at hs; exact absurd hs (by decide +kernel)); have h3 : z ≠ Str.ofString "first_byte" := (fun e => by rw [e] at hs; exact absurd hs (by decide +kernel)); have h4 : z ≠ Str.ofString "num_extra_bytes" := (fun e => by rw [e] at hs; exact absurd hs (by decide +kernel)); have h5 : z ≠ Str.ofString "end" := (fun e => by rw [e] at hs; exact absurd hs (by decide +kernel)); simp [kstB, h1, h2, h3, h4, h5, hs]))) ⟨unp_zs hp9.1 hr, unp_vs hp9.2 (by rw [hbz])⟩ (by show r.length < c.2.1.length; rw [hr]; exact Nat.lt_succ_self _)
  · (rename VnP _ _ _ _ _ _ => hp9)
    exact ksw_end (c := _) (_, _, _, _, _) (by k_asm) (by k_asm) (fun p hp => hp) trivial (fun p hp => by rcases List.mem_cons.mp hp with e | hp; (rw [e]; rfl); (rw [List.mem_singleton.mp hp]; rfl))
      (fun z hz _ => by have h1 : z ≠ Str.ofString "n" := hz _ (List.Mem.head _); have h2 : z ≠ Str.ofString "val" := hz _ (List.Mem.tail _ (List.Mem.head _)); simp [kstB, h1, h2]) (vn_turn hzz.1 hzz.2 hV hp9 (by assumption)) (by have := hp9.2.1; dsimp only; omega)
  · rename List Int × List Int × List Value × Nat × Tok => c
    rename Nat × Int × Int × Tok × Tok => d
    (rename VnP _ _ _ _ _ _ => hq9)
    obtain ⟨e1, e2⟩ := vn_done hq9 (by assumption)
    exact ksw_end (c.1 ++ [z], r, c.2.2.1 ++ [.int (dz d.2.2.1) _], c.2.2.2.1 + 1, _) (by k_asm) (by k_asm) (by ((intro p hp; rcases List.mem_cons.mp hp with e | hp; (rw [e]; dsimp only; rw [← List.push_toArray]; exact List.Mem.head _); exact List.Mem.tail _ hp))) trivial (by ((intro p hp; rw [List.mem_singleton.mp hp]; refine int_at rfl ?_; dsimp only; rw [unp_len]; have := e2; omega))) (by ((intro z hz hs; have h1 : z ≠ Str.ofString "n" := hz _ (List.Mem.head _); have h2 : z ≠ Str.ofString "val" := (fun e => by rw [e] at hs; exact absurd hs (by decide +kernel)); have h3 : z ≠ Str.ofString "first_byte" := (fun e => by rw [e] at hs; exact absurd hs (by decide +kernel)); have h4 : z ≠ Str.ofString "num_extra_bytes" := (fun e => by rw [e] at hs; exact absurd hs (by decide +kernel)); have h5 : z ≠ Str.ofString "end" := (fun e => by rw [e] at hs; exact absurd hs (by decide +kernel)); simp [kstB, h1, h2, h3, h4, h5, hs]))) ⟨unp_zs hp9.1 hr, unp_vs hp9.2 (by rw [e1])⟩ (by show r.length < c.2.1.length; rw [hr]; exact Nat.lt_succ_self _)
  · refine hret _ _ _ _ ?_ (by k_asm) (News_drop2 (by k_asm))
    rw [← unp_end hp9.1 rfl (by omega)]
    exact hp9.2
end Fq
end
section
/-! FqV1 -/
open PySem PySem.W PySem.NumText
namespace Fq
/-! hex digits -/
def hdg (d : Nat) : Nat := (Nat.digitChar d).toNat
def hex2 (o : Int) : List Nat := [hdg (o.toNat / 16), hdg (o.toNat % 16)]
def hexAll (os : List Int) : List Nat := os.flatMap hex2
def digs (os : List Int) : List Nat := os.flatMap fun o => [o.toNat / 16, o.toNat % 16]
theorem hdg_all : ∀ d : Fin 16, digit? (hdg d.1) = some d.1 ∧ (hdg d.1 == 95) = false ∧ blank (hdg d.1) = false ∧ hdg d.1 ≠ 45 ∧ hdg d.1 ≠ 43 ∧ (hdg d.1 != 0) = true ∧ hdg d.1 < 128 ∧ (hdg d.1 == 120) = false ∧ (hdg d.1 == 88) = false := by decide +kernel
theorem hdg_of {d : Nat} (h : d < 16) : digit? (hdg d) = some d ∧ (hdg d == 95) = false ∧ blank (hdg d) = false ∧ hdg d ≠ 45 ∧ hdg d ≠ 43 ∧ (hdg d != 0) = true ∧ hdg d < 128 ∧ (hdg d == 120) = false ∧ (hdg d == 88) = false := hdg_all ⟨d, h⟩
theorem nib {o : Int} (h : 0 ≤ o ∧ o < 256) : o.toNat / 16 < 16 ∧ o.toNat % 16 < 16 := ⟨by omega, by omega⟩
theorem step_hex {ds : Array Nat} {b : Bool} {d : Nat} (h : d < 16) : NumText.step 16 (ds, b) (hdg d) = some (ds.push d, true) := by
  obtain ⟨h1, h2, -⟩ := hdg_of h
  unfold NumText.step
  rw [if_neg (by rw [h2]; exact Bool.false_ne_true), h1]
  exact if_pos h
theorem fold_hex : ∀ (os : List Int) (ds : Array Nat) (b : Bool), (∀ o ∈ os, 0 ≤ o ∧ o < 256) → (hexAll os).foldlM (NumText.step 16) (ds, b) = some ((ds.toList ++ digs os).toArray, b || !os.isEmpty)
  | [], ds, b, _ => by simp [hexAll, digs]
  | o :: r, ds, b, h => by
    have ho := nib (h o List.mem_cons_self)
    have e : hexAll (o :: r) = hdg (o.toNat / 16) :: hdg (o.toNat % 16) :: hexAll r := rfl
    rw [e, List.foldlM_cons, step_hex ho.1]
    show (List.foldlM (NumText.step 16) (ds.push (o.toNat / 16), true) (hdg (o.toNat % 16) :: hexAll r)) = _
    rw [List.foldlM_cons, step_hex ho.2]
    show List.foldlM (NumText.step 16) ((ds.push (o.toNat / 16)).push (o.toNat % 16), true) (hexAll r) = _
    rw [fold_hex r _ _ fun x hx => h x (List.mem_cons_of_mem _ hx)]
    simp [digs]
theorem digits_hex {os : List Int} (h : ∀ o ∈ os, 0 ≤ o ∧ o < 256) (hne : os ≠ []) : digits? 16 (hexAll os) = some (digs os).toArray := by
  unfold digits?
  rw [fold_hex os _ _ h]
  cases os with
  | nil => exact absurd rfl hne
  | cons o r => rfl
theorem hex_mem {os : List Int} (h : ∀ o ∈ os, 0 ≤ o ∧ o < 256) : ∀ c ∈ hexAll os, ∃ d, d < 16 ∧ c = hdg d := by
  intro c hc
  obtain ⟨o, ho, hc⟩ := List.mem_flatMap.mp hc
  have hn := nib (h o ho)
  rcases List.mem_cons.mp hc with rfl | hc
  · exact ⟨_, hn.1, rfl⟩
  · exact ⟨_, hn.2, List.mem_singleton.mp hc⟩
theorem drop_hex {l : List Nat} (h : ∀ c ∈ l, ∃ d, d < 16 ∧ c = hdg d) : l.dropWhile blank = l := by
  cases l with
  | nil => rfl
  | cons c r =>
    obtain ⟨d, hd, rfl⟩ := h _ List.mem_cons_self
    rw [List.dropWhile_cons, (hdg_of hd).2.2.1]
    rfl
theorem sign_hex {l : List Nat} (h : ∀ c ∈ l, ∃ d, d < 16 ∧ c = hdg d) : sign l = (false, l) := by
  cases l with
  | nil => rfl
  | cons c r =>
    obtain ⟨d, hd, e⟩ := h _ List.mem_cons_self
    have h1 := (hdg_of hd).2.2.2.1
    have h2 := (hdg_of hd).2.2.2.2.1
    rw [← e] at h1 h2
    unfold sign
    split
    · rename_i he; cases he; exact absurd rfl h1
    · rename_i he; cases he; exact absurd rfl h2
    · rfl
theorem based_hex {l : List Nat} (h : ∀ c ∈ l, ∃ d, d < 16 ∧ c = hdg d) : based 16 l = (16, false, l) := by
  have hp : ∀ p, prefix? l = some p → p ≠ 16 := by
    intro p hp
    unfold prefix? at hp
    split at hp
    · rename_i c r
      obtain ⟨d, hd, e⟩ := h c (List.mem_cons_of_mem _ List.mem_cons_self)
      have h1 := (hdg_of hd).2.2.2.2.2.2.2
      rw [← e] at h1
      rw [if_neg (by rw [h1.1, h1.2]; exact Bool.false_ne_true)] at hp
      repeat' split at hp
      all_goals first
        | (cases hp; decide)
        | cases hp
    · cases hp
  unfold based
  split
  · rename_i p hp'
    have hne : ((16 : Nat) == 0 || (16 : Nat) == p) = false := Bool.or_eq_false_iff.mpr ⟨rfl, beq_eq_false_iff_ne.mpr fun e => hp p hp' e.symm⟩
    rw [hne]; rfl
  · rfl
theorem digs_val : ∀ (os : List Int) (a : Nat), (∀ o ∈ os, 0 ≤ o ∧ o < 256) → (((digs os).foldl (fun acc d => acc * 16 + d) a : Nat) : Int) = be (a : Int) os
  | [], a, _ => rfl
  | o :: r, a, h => by
    have ho := h o List.mem_cons_self
    show (((digs r).foldl (fun acc d => acc * 16 + d) ((a * 16 + o.toNat / 16) * 16 + o.toNat % 16) : Nat) : Int) = be ((a : Int) * 256 + o) r
    rw [digs_val r _ fun x hx => h x (List.mem_cons_of_mem _ hx)]
    congr 1
    omega
theorem read_hex {os : List Int} (h : ∀ o ∈ os, 0 ≤ o ∧ o < 256) (hne : os ≠ []) (hl : os.length ≤ 1000) : (int_private% "readNumeral") 0 16 (hexAll os) = (int_private% "Numeral.value") (be 0 os) := by
  have hm := hex_mem h
  have hr : ∀ c ∈ (hexAll os).reverse, ∃ d, d < 16 ∧ c = hdg d := fun c hc => hm c (List.mem_reverse.mp hc)
  rw [readNumeral_eq, drop_hex hm, sign_hex hm]
  dsimp only
  rw [based_hex hm]
  dsimp only
  rw [drop_hex hr, List.reverse_reverse, digits_hex h hne]
  have e := digs_val os 0 h
  unfold judge
  dsimp only
  rw [if_neg (show ¬ ((!List.contains [2, 4, 8, 16, 32] 16 && (0 : Nat) != 0 && decide ((digs os).toArray.size > 0)) = true) from Bool.false_ne_true), if_neg (show ¬ (((16 : Nat) == 10 && decide ((digs os).toArray.size > 6000)) = true) from Bool.false_ne_true)]
  show (int_private% "Numeral.value") _ = _
  rw [if_neg Bool.false_ne_true, List.foldl_toArray, e]
  rfl
theorem hexAll_length (os : List Int) : (hexAll os).length = 2 * os.length := by
  induction os with
  | nil => rfl
  | cons o r ih =>
    show (hex2 o ++ hexAll r).length = _
    rw [List.length_append, ih, List.length_cons]
    show 2 + _ = _
    omega
theorem hex_take {os : List Int} (h : ∀ o ∈ os, 0 ≤ o ∧ o < 256) : (hexAll os).takeWhile (· != 0) = hexAll os := by
  have hm := hex_mem h
  generalize hexAll os = l at hm ⊢
  induction l with
  | nil => rfl
  | cons c r ih =>
    obtain ⟨d, hd, rfl⟩ := hm _ List.mem_cons_self
    rw [List.takeWhile_cons, (hdg_of hd).2.2.2.2.2.1, ih fun x hx => hm x (List.mem_cons_of_mem _ hx)]
    rfl
theorem hex_ascii {os : List Int} (h : ∀ o ∈ os, 0 ≤ o ∧ o < 256) : (hexAll os).toArray.all (· < 128) = true := by
  rw [Array.all_eq_true']
  intro c hc
  obtain ⟨d, hd, e⟩ := hex_mem h c (by simpa using hc)
  rw [e]
  exact decide_eq_true (hdg_of hd).2.2.2.2.2.2.1
theorem read_none : (int_private% "readNumeral") 0 16 [] = int_private% "Numeral.invalid" := rfl
theorem read_x : (int_private% "readNumeral") 0 10 [120] = int_private% "Numeral.invalid" := rfl
end Fq
end
section
/-! FqE -/
open PySem PySem.W PySem.Calls PySem.Spec PyProof.Rows
namespace Fq
/-! the rules of the clean contexts -/
section
variable {α β : Type} {M : Model} {A : Around} {E : Value → Shared → Prop} {s : Shared} {env : Env}
theorem wpC_of_eq {t : Sem α} {a : α} {Q : α → Shared → Prop} (e : t = pure a) (h : Q a s) : wpC M A t Q E s := by rw [e]; exact wpC_pure h
theorem wpC_seq {m : Sem α} {f : α → Sem β} {R : α → Shared → Prop} {Q : β → Shared → Prop} (h : wpC M A m R E s) (k : ∀ a s', R a s' → wpC M A (f a) Q E s') : wpC M A (m >>= f) Q E s :=
  wpC_bind (wpC_mono h k fun _ _ x => x)
theorem wpC_at {pos : Pos} {f : Unit → Sem β} {Q : β → Shared → Prop} (h : wpC M A (f ()) Q E s) : wpC M A (standAt pos >>= f) Q E s := wpC_bind (wpC_standAt h)
theorem wpC_execs_nil {Q : Flow → Shared → Prop} (h : Q .next s) : wpC M A (execs [] env) Q E s := fun _ _ _ _ => h
theorem wpC_execs_cons {st rest} {Q : Flow → Shared → Prop} (h : wpC M A (exec st env) (fun f s' => match f with | .next => wpC M A (execs rest env) Q E s' | f => Q f s') E s) :
    wpC M A (execs (st :: rest) env) Q E s := by
  rw [arm_execs_cons]
  refine wpC_seq h fun f s' h' => ?_
  cases f <;> first | exact h' | exact wpC_pure h'
/-- a leaf statement, by the library's walk -/
theorem wpC_leafS {st rest} {Q : Flow → Shared → Prop} (h : wpAny M A (exec st env) (fun f s' => match f with | .next => wpC M A (execs rest env) Q E s' | f => Q f s') E s) :
    wpC M A (execs (st :: rest) env) Q E s := wpC_execs_cons (wpC_any h)
theorem wpC_Return {e pos} {Q : Flow → Shared → Prop} (h : wpC M A (eval e env) (fun v => Q (.ret v)) E s) : wpC M A (exec (.Return (some e) pos) env) Q E s := by
  rw [arm_exec_Return]
  exact wpC_at (wpC_seq h fun v s' h' => wpC_pure h')
theorem wpC_Assign {x pos' value pos} {Q : Flow → Shared → Prop} (h : wpC M A (eval value env) (fun v s₁ => wpAny M A (storeName env x v) (fun _ => Q .next) E s₁) E s)
    (hs : swapsWith value (some (.Name x pos')) pos.line env = pure false := by rfl) : wpC M A (exec (.Assign [.Name x pos'] value pos) env) Q E s := by
  rw [exec_Assign_Name env x pos' value pos hs]
  exact wpC_at (wpC_seq h fun v s' h' => wpC_at (wpC_leaf (wpAny_bindName (wpAny_mono h' (fun _ _ q => wpC_pure q) fun _ _ x => x))))
theorem wpC_If {test body orelse pos} {Q : Flow → Shared → Prop} (h : wpC M A (isTrue test env (eval test env)) (fun b s₂ => if b = true then wpC M A (execs body env) Q E s₂ else wpC M A (execs orelse env) Q E s₂) E s) :
    wpC M A (exec (.If test body orelse pos) env) Q E s := by
  rw [arm_exec_If]
  refine wpC_at (wpC_seq h fun b s' h' => ?_)
  cases b <;> exact h'
theorem wpC_Call {func : Expr} {args : List Expr} {pos : Pos} {Q : Value → Shared → Prop}
    (h : wpAny M A (eval func env) (fun f s₁ => wpC M A (callWith pos f [] (backTo pos (starEach args env)) []) Q E s₁) E s)
    (he : eval (.Call func args [] pos) env = (do callWith pos (← eval func env) [] (backTo pos (starEach args env)) (backToKw pos (keywordEach [] env))) := by rfl) : wpC M A (eval (.Call func args [] pos) env) Q E s := by
  rw [he]; exact wpC_leaf h
theorem wpC_MethodCall {o : Expr} {name : Str} {apos pos : Pos} {args : List Expr} {pl : Sem Bool} {Q : Value → Shared → Prop}
    (h : wpAny M A (eval o env) (fun ov s₁ => wpAny M A (getMethod ov name pl) (fun fx s₂ => wpC M A (callWith pos fx.1 fx.2 (backTo pos (starEach args env)) []) Q E s₂) E s₁) E s)
    (he : eval (.Call (.Attribute o name apos) args [] pos) env = (do
      let ov ← eval o env
      standAt apos.atName
      let (f, first) ← holding [ov] (getMethod ov name pl)
      callWith pos f first (backTo pos (starEach args env)) []) := by rfl) : wpC M A (eval (.Call (.Attribute o name apos) args [] pos) env) Q E s := by
  rw [he]
  exact wpC_leaf (wpAny_mono h (fun ov s₁ h₁ => wpC_at (wpC_leaf (wpAny_holding (wpAny_mono h₁ (fun fx s₂ h₂ => h₂) fun _ _ x => x)))) fun _ _ x => x)
theorem wpC_tail {t : Sem Value} {Q : Value → Shared → Prop} (h : wpC M A t Q E s) : wpC M A (t >>= fun r => holding [r] point >>= fun _ => pure r) Q E s :=
  wpC_seq h fun r s₂ hr => wpC_leaf (wpAny_holding (wpAny_point (wpC_pure hr)))
theorem wpC_marked {mark : Value} {f : Value} {pos : List Value} {kw : List (Str × Value)} {Q : Value → Shared → Prop} (h : wpC M A (call f pos kw) Q E s) : wpC M A (callMarked mark f pos kw) Q E s := by
  unfold callMarked; exact wpC_keep h
theorem wpC_callWith_builtin {pos : Pos} {id : String} {first : List Value} {args : List (Bool × Sem Value)} {Q : Value → Shared → Prop} (hplain : args.any (·.1) = false)
    (h : wpAny M A (evalArgs (.builtin id) true args []) (fun a s₁ => wpC M A (call (.builtin id) (first ++ a.pos) a.kw) Q E s₁) E s) : wpC M A (callWith pos (.builtin id) first args []) Q E s := by
  unfold callWith
  refine wpC_leaf (wpAny_holding (wpAny_mono h (fun a s₁ h₁ => wpC_at ?_) fun _ _ x => x))
  simp only [hplain, List.any_nil, Bool.or_false]
  refine wpC_bind (wpC_pure ?_)
  exact wpC_tail h₁
theorem wpC_callWith_type {pos : Pos} {T : String} {first : List Value} {args : List (Bool × Sem Value)} {Q : Value → Shared → Prop} (hplain : args.any (·.1) = false)
    (h : wpAny M A (evalArgs (.type T) true args []) (fun a s₁ => wpC M A (call (.type T) (first ++ a.pos) a.kw) Q E s₁) E s) : wpC M A (callWith pos (.type T) first args []) Q E s := by
  unfold callWith
  refine wpC_leaf (wpAny_holding (wpAny_mono h (fun a s₁ h₁ => wpC_at ?_) fun _ _ x => x))
  simp only [hplain, List.any_nil, Bool.or_false]
  refine wpC_bind (wpC_pure ?_)
  exact wpC_tail h₁
theorem wpC_callWith_function {pos : Pos} {a : Addr} {o : Obj} {fd : FuncData} {first : List Value} {args : List (Bool × Sem Value)} {Q : Value → Shared → Prop}
    (h : wpAny M A (evalArgs (.ref a) true args []) (fun x s₁ => (s₁.heap.get? a = some o ∧ o.data = .func fd) ∧ wpC M A (call (.ref a) (first ++ x.pos) x.kw) Q E s₁) E s) : wpC M A (callWith pos (.ref a) first args []) Q E s := by
  unfold callWith
  refine wpC_leaf (wpAny_holding (wpAny_mono h (fun x s₁ h₁ => wpC_at ?_) fun _ _ x => x))
  cases hs : args.any (·.1) <;> simp only [List.any_nil, Bool.or_false] <;>
    refine wpC_leaf (m := keeperOf (.ref a)) ?_ <;> unfold keeperOf <;>
    refine wpAny_bind (wpAny_load h₁.1.1 ?_) <;> rw [h₁.1.2] <;> refine wpAny_pure ?_
  · dsimp only
    split
    · exact wpC_tail h₁.2
    · exact wpC_tail (wpC_marked h₁.2)
  · exact wpC_tail (wpC_marked h₁.2)
/-- the arguments are leaves -/
theorem wpC_args {f : Value} {e : Expr} {rest : List Expr} {pos : Pos} {Q : Args → Shared → Prop} (h : wpAny M A (spliced (backTo pos (starEach (e :: rest) env))) (fun vs s' => Q ⟨vs, []⟩ s') E s)
    (he : starEach (e :: rest) env = (false, eval e env) :: starEach rest env := by rfl) : wpAny M A (evalArgs f true (backTo pos (starEach (e :: rest) env)) []) Q E s := by
  rw [he] at h ⊢
  exact evalArgs_plain h
theorem wpC_def {pos : Pos} {f : Addr} {o : Obj} {fd : FuncData} {e : Expr} {rest : List Expr} {Q : Value → Shared → Prop} (hdat : o.data = .func fd)
    (h : wpAny M A (spliced (backTo pos (starEach (e :: rest) env))) (fun vs s₁ => s₁.heap.get? f = some o ∧ wpC M A (call (.ref f) vs) Q E s₁) E s)
    (he : starEach (e :: rest) env = (false, eval e env) :: starEach rest env := by rfl) : wpC M A (callWith pos (.ref f) [] (backTo pos (starEach (e :: rest) env)) []) Q E s :=
  wpC_callWith_function (o := o) (fd := fd) (wpC_args (wpAny_mono h (fun vs s₁ h₁ => ⟨⟨h₁.1, hdat⟩, h₁.2⟩) fun _ _ x => x) he)
theorem codeC_loop {c : Code} {R : Result → Shared → Prop} (kc : CleanC c) (hq : c.quiet = true) (I : Nat → Shared → Prop)
    (turn : ∀ n s, I n s → wpC M (A.under c) (M.den c)
      (fun fin s' => match fin with | .done f => R (.ok f) s' | .again c' => (c' = c ∧ ∃ m, m < n ∧ I m s') ∨ (c'.quiet = true ∧ codeC M A c' R s')) (fun e s' => R (.error e) s') s)
    (n : Nat) (h : I n s) : codeC M A c R s := by
  induction n using Nat.strongRecOn generalizing s with
  | ind n ih =>
    refine codeC_of_tree kc (wpC_mono (turn n s h) (fun fin s' hf => ?_) fun _ _ h' => h')
    cases fin with
    | done f => exact hf
    | again c' =>
      rcases hf with ⟨rfl, m, hm, hI⟩ | hf
      · exact ⟨hq, ih m hm hI⟩
      · exact hf
theorem wpC_runOwn {c : Code} {h : Option Value} {Q : Flow → Shared → Prop}
    (hc : codeC M (A.mark h) c (fun r s' => match r with | .ok f => Q f s' | .error e => cameBackBy M A env E e s') s) (hnb : h ≠ some byPass := by intro x; cases x) : wpC M A (runOwn c env h) Q E s := by
  unfold runOwn
  exact wpC_onRaise (wpC_mono (wpC_run hc hnb) (fun _ _ q => q) fun _ _ e => wpC_any e)
theorem wpC_noted {m : Sem α} {Q : α → Shared → Prop} (h : wpC M A m Q (notedBy M A env E) s) : wpC M A (m.onRaise fun x => do noteFrame x env; theTreesLotGoes x) Q E s :=
  wpC_onRaise (wpC_mono h (fun _ _ q => q) fun _ _ hx => wpC_any (wpAny_bind (wpAny_mono hx (fun _ _ e => wpAny_theTreesLotGoes e) fun _ _ e => e)))
theorem wpC_tryStmt {body orelse : Sem Flow} {h₀ : ExceptHandler} {hs : List ExceptHandler} {Q : Flow → Shared → Prop}
    (h : wpC M A body (fun f s₁ => match f with | .next => wpC M A orelse Q E s₁ | f => Q f s₁)
      (fun e s₁ => wpAny M A (noteFrame e env) (fun _ s₂ => wpAny M A (setFlight e none) (fun _ s₃ => wpAny M A (handleBy e env (h₀ :: hs)) Q E s₃) E s₂) E s₁) s) :
    wpC M A (tryStmt false body (h₀ :: hs) orelse [] env) Q E s := by
  unfold tryStmt
  simp only [List.isEmpty_nil, if_true, List.isEmpty_cons, Bool.false_and, Bool.false_eq_true, if_false]
  refine wpC_bind (wpC_attempt (wpC_mono h (fun f s₁ h₁ => ?_) fun e s₁ h₁ => ?_))
  · cases f <;> first | exact h₁ | exact wpC_pure h₁
  · exact wpC_leaf (wpAny_mono h₁ (fun _ _ h₂ => wpC_leaf (wpAny_mono h₂ (fun _ _ h₃ => wpC_any h₃) fun _ _ x => x)) fun _ _ x => x)
theorem wpC_Try {body orelse : List Stmt} {h₀ : ExceptHandler} {hs : List ExceptHandler} {pos : Pos} {Q : Flow → Shared → Prop}
    (h : wpC M A (execs body env) (fun f s₁ => match f with | .next => wpC M A (execs orelse env) Q E s₁ | f => Q f s₁)
      (fun e s₁ => wpAny M A (noteFrame e env) (fun _ s₂ => wpAny M A (setFlight e none) (fun _ s₃ => wpAny M A (handleBy e env (h₀ :: hs)) Q E s₃) E s₂) E s₁) s) :
    wpC M A (exec (.Try body (h₀ :: hs) orelse [] pos) env) Q E s := by
  rw [arm_exec_Try]
  exact wpC_at (wpC_tryStmt h)
end

section
variable {prog : Program} {w : World} {A : Around} {E : Value → Shared → Prop} {s : Shared} {R : Result → Shared → Prop} {env : Env}
theorem wpC_Expr {e pos} {Q : Flow → Shared → Prop} (h : wpC (model prog w) A (eval e env) (fun _ => Q .next) E s)
    (hi : interactive env = false := by rfl) (hs : swapsWith e none pos.line env = pure false := by rfl) : wpC (model prog w) A (exec (.Expr e pos) env) Q E s := by
  rw [exec_Expr env e pos hi hs]
  exact wpC_at (wpC_seq h fun v s' h' => wpC_any (wpAny_dropValue h'))
theorem codeC_builtin {id : String} {args : Args} {b : Builtin} (kc : CleanC (.builtin id args)) (hb : entryFor table id = some b)
    (h : wpC (model prog w) (A.under (.builtin id args)) (b args)
      (fun fin s' => match fin with | .done f => R (.ok f) s' | .again c' => c'.quiet = true ∧ codeC (model prog w) A c' R s') (fun e s' => R (.error e) s') s) : codeC (model prog w) A (.builtin id args) R s := by
  refine codeC_of_tree kc ?_
  show wpC _ _ (match entryFor table id with | some b => b args | none => unsupported ((withoutEnding? id "#data").getD id)) _ _ s
  rw [hb]; exact h
theorem codeC_call_builtin_code {id : String} {args : Args} (hq : (Code.builtin id args).quiet = true)
    (h : wpAny (model prog w) A.in1 (checkBuiltinCall id args) (fun _ s₁ => codeC (model prog w) A (.builtin id args) R s₁) (fun e s' => R (.error e) s') s) : codeC (model prog w) A (.call (.builtin id) args) R s := by
  refine codeC_of_any ?_
  show wpAny _ A.in1 (do checkBuiltinCall id args; again (.builtin id args)) _ _ s
  exact wpAny_bind (wpAny_mono h (fun _ s₁ h₁ => wpAny_pure (And.intro hq h₁)) fun _ _ h' => h')
theorem codeC_while {test : Expr} {body : List Stmt} (I : Nat → Shared → Prop)
    (turn : ∀ n s, I n s → wpC (model prog w) A (isTrue test env (eval test env)) (fun b s₂ =>
        if b = true then wpC (model prog w) A (execs body env) (fun f s₃ => match f with
            | .next | .cont => ∃ m, m < n ∧ I m s₃
            | .brk => R (.ok .next) s₃
            | .ret v => R (.ok (.ret v)) s₃) (notedBy (model prog w) A env fun e s' => R (.error e) s') s₂
        else R (.ok .next) s₂) (notedBy (model prog w) A env fun e s' => R (.error e) s') s)
    (n : Nat) (h : I n s) : codeC (model prog w) A (.whileLoop test body [] env) R s := by
  refine codeC_loop (clean_while _ _ _ _) rfl I (fun n s hI => ?_) n h
  show wpC _ A ((whileTurn test body [] env).onRaise (fun x => do noteFrame x env; theTreesLotGoes x)) _ _ s
  refine wpC_noted ?_
  simp only [whileTurn]
  refine wpC_seq (turn n s hI) fun b s₂ h₂ => ?_
  cases b with
  | false =>
    simp only [Bool.false_eq_true, if_false] at h₂ ⊢
    exact wpC_bind (wpC_execs_nil (wpC_pure h₂))
  | true =>
    simp only [if_true] at h₂ ⊢
    refine wpC_seq h₂ fun f s₃ h₃ => ?_
    cases f with
    | next => exact wpC_pure (.inl ⟨rfl, h₃⟩)
    | cont => exact wpC_pure (.inl ⟨rfl, h₃⟩)
    | brk => exact wpC_pure h₃
    | ret v => exact wpC_pure h₃
theorem wpC_While {test body pos} {Q : Flow → Shared → Prop}
    (h : codeC (model prog w) A (.whileLoop test body [] env) (fun r s' => match r with | .ok f => Q f s' | .error e => cameBackBy (model prog w) A env E e s') s) : wpC (model prog w) A (exec (.While test body [] pos) env) Q E s := by
  rw [arm_exec_While]; exact wpC_at (wpC_runOwn h)
theorem codeC_for {target : Expr} {it : Value} {body : List Stmt} (I : Nat → Shared → Prop)
    (turn : ∀ n s, I n s → wpAny (model prog w) A (pyNext it) (fun r s₁ => match r with
      | none => R (.ok .next) s₁
      | some v => wpAny (model prog w) A (assign target env v) (fun _ s₂ => wpC (model prog w) A (execs body env) (fun f s₃ => match f with
          | .next | .cont => ∃ m, m < n ∧ I m s₃
          | .brk => R (.ok .next) s₃
          | .ret v => R (.ok (.ret v)) s₃) (notedBy (model prog w) A env fun e s' => R (.error e) s') s₂) (notedBy (model prog w) A env fun e s' => R (.error e) s') s₁) (notedBy (model prog w) A env fun e s' => R (.error e) s') s)
    (n : Nat) (h : I n s) (ht : ∀ v, letOwnedTupleGo target it v = pure () := by intro _; rfl) : codeC (model prog w) A (.forLoop target it body [] env) R s := by
  refine codeC_loop (clean_for _ _ _ _ _) rfl I (fun n s hI => ?_) n h
  show wpC _ _ ((forTurn target it body [] env).onRaise (fun x => do noteFrame x env; theTreesLotGoes x)) _ _ s
  refine wpC_noted ?_
  simp only [forTurn]
  refine wpC_at (wpC_leaf (wpAny_onRaise (wpAny_mono (turn n s hI) (fun r s₁ h₁ => ?_) fun _ _ h' => wpAny_standAt h')))
  cases r with
  | none => exact wpC_pure (.inr ⟨rfl, codeC_any (codeAny_block (wpAny_execs_nil h₁))⟩)
  | some v =>
    refine wpC_bind (wpC_of_eq (ht v) ?_)
    refine wpC_leaf (wpAny_mono h₁ (fun _ s₂ h₂ => wpC_seq h₂ fun f s₃ h₃ => ?_) fun _ _ h' => h')
    cases f with
    | next => exact wpC_pure (.inl ⟨rfl, h₃⟩)
    | cont => exact wpC_pure (.inl ⟨rfl, h₃⟩)
    | brk => exact wpC_pure h₃
    | ret v => exact wpC_pure h₃
theorem wpC_For {target iter body pos} {Q : Flow → Shared → Prop}
    (h : wpC (model prog w) A (eval iter env) (fun x s₁ => wpAny (model prog w) A (pyIter x) (fun it s₂ =>
      codeC (model prog w) A (.forLoop target it body [] env) (fun r s' => match r with | .ok f => Q f s' | .error e => cameBackBy (model prog w) A env E e s') s₂) E s₁) E s)
    (hs : ∀ x, foldedSetIterable iter env x = pure x := by intro _; rfl) : wpC (model prog w) A (exec (.For target iter body [] pos) env) Q E s := by
  rw [arm_exec_For]
  exact wpC_at (wpC_seq h fun x s₁ h₁ => wpC_bind (wpC_of_eq (hs x) (wpC_at (wpC_leaf (wpAny_holding (wpAny_mono h₁ (fun it s₂ h₂ => wpC_runOwn h₂) fun _ _ x => x))))))
end
end Fq
end
section
/-! FqF -/
open PySem PySem.W PySem.Calls PySem.Spec PyProof.Rows
namespace Fq
namespace BA
open Builtin
theorem slot_append : Slot "bytearray" "append" "bytearray.append" :=
  .of (owner := "bytearray") (n := "append") (by rw [typeLookup_type, builtinLookup_eq_fast]; kernel_rfl) (by decide +kernel) (by decide +kernel) (by decide +kernel)
    (by first | exact .inl (by decide +kernel) | exact .inr (by decide +kernel)) (by rw [isSubtype_type]; kernel_rfl)
theorem slot_reverse : Slot "bytearray" "reverse" "bytearray.reverse" :=
  .of (owner := "bytearray") (n := "reverse") (by rw [typeLookup_type, builtinLookup_eq_fast]; kernel_rfl) (by decide +kernel) (by decide +kernel) (by decide +kernel)
    (by first | exact .inl (by decide +kernel) | exact .inr (by decide +kernel)) (by rw [isSubtype_type]; kernel_rfl)
theorem entry_append : entryFor table "bytearray.append" = some Builtin.«bytearray.append» := entryFor_of_tree (by kernel_rfl)
theorem entry_reverse : entryFor table "bytearray.reverse" = some Builtin.«bytearray.reverse» := entryFor_of_tree (by kernel_rfl)
theorem entry_init : entryFor table "bytearray.__init__" = some Builtin.«bytearray.__init__» := entryFor_of_tree (by kernel_rfl)
theorem args_reverse (a : Value) : argsOk "bytearray.reverse" ⟨[a], []⟩ := by unfold argsOk; kernel_rfl
theorem args_append (a b : Value) : argsOk "bytearray.append" ⟨[a, b], []⟩ := by unfold argsOk; kernel_rfl
section
variable {prog : Program} {w : World} {A : Around} {E : Value → Shared → Prop} {s : Shared} {b : Addr} {x : Array UInt8}
theorem write_ {M : Model} {f : Array UInt8 → Array UInt8} {Q : Unit → Shared → Prop} (hb : s.heap.get? b = some (baObj x)) (hz : (f x).size ≤ sizeLine)
    (h : ∀ h', Heap.SameBut b s.heap h' → h'.get? b = some (baObj (f x)) → Q () { s with heap := h' }) : wpAny M A (Bytes.write (.ref b) f) Q E s := by
  show wpAny _ _ (updateBytearray b f) _ _ _
  unfold updateBytearray
  refine wpAny_bind (wpAny_load hb ?_)
  show wpAny _ _ (update b (Obj.mapBytearray f) >>= fun _ => lookBehind b) _ _ _
  refine wpAny_bind (wpAny_update hb ?_)
  have h2 : (s.heap.update b (Obj.mapBytearray f)).get? b = some (baObj (f x)) := Heap.get?_update_self (Obj.mapBytearray f) hb rfl
  refine wpAny_lookBehind h2 ?_ (h _ (Heap.SameBut.update ..) h2)
  show (if (f x).size > sizeLine then some "bytearray:memory" else none) = none
  exact if_neg (by omega)
theorem byteValue_ {M : Model} {n : Int} {u : Tok} {Q : UInt8 → Shared → Prop} (h0 : 0 ≤ n) (h1 : n < 256) (h : Q n.toNat.toUInt8 s) : wpAny M A (Bytes.byteValue (.int n u)) Q E s := by
  unfold Bytes.byteValue
  refine wpAny_bind (wpAny_of_eq (rfl : asIndex (.int n u) = pure n) ?_)
  have e : (decide (n < 0) || decide (n ≥ 256)) = false := by simp only [Bool.or_eq_false_iff, decide_eq_false_iff_not]; omega
  show wpAny _ _ (if (decide (n < 0) || decide (n ≥ 256)) = true then _ else _) _ _ _
  rw [e]
  exact wpAny_pure h
theorem checkResize_ {M : Model} {Q : Unit → Shared → Prop} (hb : s.heap.get? b = some (baObj x)) (h : Q () s) : wpC M A (Bytes.checkResize (.ref b)) Q E s := by
  unfold Bytes.checkResize
  refine wpC_bind ?_
  show wpC M A (Bytes.exported (.ref b) >>= fun r => _) _ E s
  refine wpC_bind (wpC_exported ?_)
  refine wpC_any ?_
  show wpAny M A (Bytes.exportsOf (.ref b) >>= fun r => _) _ E s
  unfold Bytes.exportsOf
  refine wpAny_bind (wpAny_bind (wpAny_load hb ?_))
  refine wpAny_pure (wpAny_pure ?_)
  exact wpC_any (wpAny_pure h)
theorem call_slotC {T nm id : String} {self : Value} {rest : List Value} {B : Builtin} {Q : Value → Shared → Prop} (sl : Slot T nm id) (hT : s.TypeIs self T) (ha : argsOk id ⟨self :: rest, []⟩) (he : entryFor table id = some B) (kc : CleanC (.builtin id ⟨self :: rest, []⟩))
    (h : wpC (model prog w) A.in1 (B ⟨self :: rest, []⟩) (fun fin s' => ∃ v, fin = .done (.ret v) ∧ Q v s') E s) : wpC (model prog w) A (call (.builtin id) (self :: rest)) Q E s := by
  refine wpC_call (codeC_call_builtin_code (plainId_quiet sl.plain _) (sl.check _ _ _ _ _ _ _ _ hT ha (codeC_builtin kc he ?_)))
  rw [Around.under_plainId sl.plain _]
  refine wpC_mono h (fun fin s' hf => ?_) fun _ _ x => x
  obtain ⟨v, rfl, q⟩ := hf
  exact q
theorem append_ {n : Int} {u : Tok} {Q : Value → Shared → Prop} (hb : s.heap.get? b = some (baObj x)) (h0 : 0 ≤ n) (h1 : n < 256) (hz : x.size < sizeLine)
    (h : ∀ h', Heap.SameBut b s.heap h' → h'.get? b = some (baObj (x.push n.toNat.toUInt8)) → Q .none { s with heap := h' }) : wpC (model prog w) A (call (.builtin "bytearray.append") [.ref b, .int n u]) Q E s := by
  refine call_slotC slot_append (typeIs hb) (args_append _ _) entry_append (clean_append _ _) ?_
  show wpC _ _ (Bytes.byteValue (.int n u) >>= fun c => Bytes.checkResize (.ref b) >>= fun _ => Bytes.write (.ref b) (·.push c) >>= fun _ => ret .none) _ _ _
  refine wpC_leaf (byteValue_ h0 h1 (wpC_bind (checkResize_ hb (wpC_leaf (write_ hb ?_ fun h' hs hg => wpC_pure ⟨_, rfl, h h' hs hg⟩)))))
  rw [Array.size_push]
  exact hz
theorem append_bad {n : Int} {u : Tok} {Q : Value → Shared → Prop} (hA : A.handled = none) (hb : s.heap.get? b = some (baObj x)) (h0 : n < 0)
    (hE : ∀ h' tk e, Heap.NewExc s.heap h' e "ValueError" → E (.ref e) { s with heap := h', toks := tk }) : wpAny (model prog w) A (call (.builtin "bytearray.append") [.ref b, .int n u]) Q E s := by
  refine wpAny_call_entry slot_append (typeIs hb) entry_append ?_ (args_append _ _)
  show wpAny _ _ (Bytes.byteValue (.int n u) >>= fun c => _) _ _ _
  refine wpAny_bind ?_
  unfold Bytes.byteValue
  refine wpAny_bind (wpAny_of_eq (rfl : asIndex (.int n u) = pure n) ?_)
  have e : (decide (n < 0) || decide (n ≥ 256)) = true := by simp only [Bool.or_eq_true, decide_eq_true_eq]; omega
  show wpAny _ _ (if (decide (n < 0) || decide (n ≥ 256)) = true then _ else _) _ _ _
  rw [e]
  first
    | exact wpAny_bind (wpAny_rule (by exact_raiseError plainExc_ValueError hA hE))
    | exact wpAny_bind (wpAny_rule (wpAny_bind (by exact_raiseError plainExc_ValueError hA hE)))
theorem reverse_ {Q : Value → Shared → Prop} (hb : s.heap.get? b = some (baObj x)) (hz : x.size ≤ sizeLine)
    (h : ∀ h', Heap.SameBut b s.heap h' → h'.get? b = some (baObj x.reverse) → Q .none { s with heap := h' }) : wpAny (model prog w) A (call (.builtin "bytearray.reverse") [.ref b]) Q E s := by
  refine wpAny_call_entry slot_reverse (typeIs hb) entry_reverse ?_ (args_reverse _)
  show wpAny _ _ (Bytes.write (.ref b) (·.reverse) >>= fun _ => ret .none) _ _ _
  refine wpAny_bind (write_ hb (by rw [Array.size_reverse]; exact hz) fun h' hs hg => wpAny_pure ⟨_, rfl, h h' hs hg⟩)
end
end BA
end Fq
end
section
/-! FqG -/
open PySem PySem.W PySem.Calls PySem.Spec PyProof.Rows
namespace Fq
section
variable {prog : Program} {w : World} {A : Around} {E : Value → Shared → Prop} {s : Shared}
theorem clean_typeCall (T : String) (args : List Value) : CleanC (.builtin "type.__call__" ⟨.type T :: args, []⟩) := fun self p => by
  cases args with
  | nil => rfl
  | cons a r => rfl
theorem callType_C {T newId initId : String} {args : List Value} {Q Q₁ : Value → Shared → Prop} (ft : TypeCalled T newId initId)
    (hct : checkTypeCall T ⟨args, []⟩ = pure ())
    (hnew : wpC (model prog w) A.in1 (call (.builtin newId) (.type T :: args)) Q₁ E s)
    (hnext : ∀ obj s₁, Q₁ obj s₁ → s₁.TypeIs obj T ∧ wpC (model prog w) A.in1 (call (.builtin initId) (obj :: args)) (fun r s₂ => r = .none ∧ Q obj s₂) E s₁) :
    wpC (model prog w) A (call (.type T) args) Q E s := by
  obtain ⟨c, tl, hmro⟩ := ft.mro
  have hmade := ft.made
  have hsub := ft.sub
  have h1 := ft.notType
  have h2 := ft.canCreate
  refine wpC_call (codeC_of_any ?_)
  show wpAny _ _ (callAny (.type T) _) _ _ _
  refine wpAny_pure ⟨Code.quiet_builtin _ (by decide +kernel), codeC_builtin (clean_typeCall T args) F.entry_type_call ?_⟩
  rw [Around.under_plain (weight_type_call_type T args []) rfl]
  unfold Builtin.«type.__call__»
  dsimp only
  rw [if_neg (by rw [h1]; exact Bool.false_ne_true), h2]
  rw [if_neg Bool.false_ne_true]
  refine wpC_bind (wpC_of_eq hct ?_)
  refine wpC_bind (wpC_of_eq hmro ?_)
  rw [if_neg (show ¬ ((c :: tl).isEmpty = true) from Bool.false_ne_true)]
  refine wpC_bind (wpC_of_eq hmade ?_)
  dsimp only
  refine wpC_bind (wpC_pure ?_)
  refine wpC_seq (wpC_holding hnew) fun obj s₁ hq => ?_
  obtain ⟨hT, hi⟩ := hnext obj s₁ hq
  refine wpC_leaf (wpAny_isInstance hT hsub ?_)
  rw [if_neg (show ¬ ((!true) = true) from Bool.false_ne_true)]
  refine wpC_bind (wpC_holding ?_)
  unfold callSpecial?
  refine wpC_leaf (wpAny_specialOf hT ft.init.lookup ?_)
  dsimp only
  refine wpC_holding ?_
  refine wpC_bind (wpC_of_eq (ft.init.bind obj) ?_)
  dsimp only
  refine wpC_seq hi fun r s₂ hr => ?_
  obtain ⟨rfl, hr⟩ := hr
  refine wpC_pure ?_
  dsimp only
  rw [if_neg (show ¬ ((Value.none != Value.none) = true) from by decide)]
  exact wpC_pure hr
end
namespace BA
open Builtin
theorem mro_ba : mroOf (.type "bytearray") = pure [.type "bytearray", .type "object"] := by rw [mroOf_type]; kernel_rfl
theorem lookup_new : typeLookup (.type "bytearray") "__new__" = pure (some (.builtin "bytearray.__new__")) := by rw [typeLookup_type, builtinLookup_eq_fast]; kernel_rfl
theorem slot_init : Slot "bytearray" "__init__" "bytearray.__init__" :=
  .of (owner := "bytearray") (n := "__init__") (by rw [typeLookup_type, builtinLookup_eq_fast]; kernel_rfl) (by decide +kernel) (by decide +kernel) (by decide +kernel)
    (by first | exact .inl (by decide +kernel) | exact .inr (by decide +kernel)) (by rw [isSubtype_type]; kernel_rfl)
theorem called : TypeCalled "bytearray" "bytearray.__new__" "bytearray.__init__" :=
  ⟨by decide +kernel, by decide +kernel, ⟨_, _, mro_ba⟩, madeBy_type mro_ba lookup_new (by decide +kernel), by decide +kernel, by rw [isSubtype_type]; kernel_rfl, slot_init⟩
theorem typeCall_0 : checkTypeCall "bytearray" ⟨[], []⟩ = pure () := by kernel_rfl
theorem typeCall_1 (a : Value) : checkTypeCall "bytearray" ⟨[a], []⟩ = pure () := by kernel_rfl
theorem newCall_0 : checkBuiltinCall "bytearray.__new__" ⟨[.type "bytearray"], []⟩ = pure () := by kernel_rfl
theorem newCall_1 (a : Value) : checkBuiltinCall "bytearray.__new__" ⟨[.type "bytearray", a], []⟩ = pure () := by kernel_rfl
theorem plain_new : plainId "bytearray.__new__" = true := by decide +kernel
theorem entry_new : entryFor table "bytearray.__new__" = some Builtin.«list.__new__» := entryFor_alias (id' := "list.__new__") (by kernel_rfl) rfl (by decide +kernel) (by kernel_rfl)
set_option maxRecDepth 1000000 in
theorem owner_new : ("bytearray.__new__".splitOn ".__new__").headD "" = "bytearray" := by simp +decide [String.splitOn, String.splitOnAux]
theorem sub_self : isSubtype (.type "bytearray") (.type "bytearray") = pure true := by rw [isSubtype_type]; kernel_rfl
theorem args_init_1 (a : Value) : argsOk "bytearray.__init__" ⟨[a], []⟩ := by unfold argsOk; kernel_rfl
theorem args_init_2 (a b : Value) : argsOk "bytearray.__init__" ⟨[a, b], []⟩ := by unfold argsOk; kernel_rfl
section
variable {prog : Program} {w : World} {A : Around} {E : Value → Shared → Prop} {s : Shared}
theorem code_new (args : List Value) (hc : checkBuiltinCall "bytearray.__new__" ⟨.type "bytearray" :: args, []⟩ = pure ()) {Q₁ : Value → Shared → Prop}
    (h : Q₁ (.ref s.heap.objs.size) { s with heap := s.heap.push (baObj #[]) }) :
    codeAny (model prog w) A (.call (.builtin "bytearray.__new__") ⟨.type "bytearray" :: args, []⟩) (wants Q₁ E) s := by
  refine codeAny_of_tree ?_
  show wpAny _ A.in1 (do checkBuiltinCall "bytearray.__new__" ⟨.type "bytearray" :: args, []⟩; again (.builtin "bytearray.__new__" ⟨.type "bytearray" :: args, []⟩)) _ _ s
  refine wpAny_bind (wpAny_of_eq hc (wpAny_pure ⟨plainId_quiet plain_new _, codeAny_builtin_stack entry_new rfl fun p st => ?_⟩))
  rw [Around.under_plainId plain_new _]
  have hsub := sub_self
  have hown := owner_new
  obtain ⟨hp, g, d, tk, os⟩ := s
  simp only [hown]
  wp_walk
  exact h
end
end BA
end Fq
end
section
/-! FqG2 -/
open PySem PySem.W PySem.Calls PySem.Spec PyProof.Rows
namespace Fq
namespace BA
open Builtin
theorem clean_init (a : Addr) (r : List Value) : CleanC (.builtin "bytearray.__init__" ⟨.ref a :: r, []⟩) := fun self p => by
  have e : Builtin.Bytes.decodersThatHold.contains "bytearray.__init__" = false := by decide +kernel
  cases r with
  | nil =>
    show ((_ && Builtin.Bytes.decodersThatHold.contains "bytearray.__init__") || false) = false
    rw [e, Bool.and_false]; rfl
  | cons a r =>
    show ((_ && Builtin.Bytes.decodersThatHold.contains "bytearray.__init__") || false) = false
    rw [e, Bool.and_false]; rfl
section
variable {prog : Program} {w : World} {A : Around} {E : Value → Shared → Prop} {s : Shared} {b : Addr} {x : Array UInt8}
theorem look_release : typeLookup (.type "bytearray") "__release_buffer__" = pure (some (.builtin "bytearray.__release_buffer__")) := by rw [typeLookup_type, builtinLookup_eq_fast]; kernel_rfl
theorem rel_ends : ("bytearray.__release_buffer__".endsWith ("." ++ "__release_buffer__")) = true := by decide +kernel
theorem rel_drop : ("bytearray.__release_buffer__".dropRight ("__release_buffer__".length + 1)) = "bytearray" := by decide +kernel
theorem ownRelease_ {M : Model} {Q : Bool → Shared → Prop} (hb : s.heap.get? b = some (baObj x)) (h : Q false s) : wpAny M A (Bytes.ownRelease (.ref b)) Q E s := by
  unfold Bytes.ownRelease Bytes.slotIsOwn
  refine wpAny_bind (wpAny_bind (wpAny_specialOf (typeIs hb) look_release ?_))
  dsimp only
  rw [rel_ends, rel_drop]
  refine wpAny_isInstance (typeIs hb) sub_self ?_
  exact wpAny_pure h
theorem exported_ {M : Model} {Q : Bool → Shared → Prop} (hb : s.heap.get? b = some (baObj x)) (h : Q false s) : wpC M A (Bytes.exported (.ref b) <||> (do return (← Bytes.exportsOf (.ref b)) > 0)) Q E s := by
  show wpC M A (Bytes.exported (.ref b) >>= fun r => _) _ E s
  refine wpC_bind (wpC_exported ?_)
  refine wpC_any ?_
  show wpAny M A (Bytes.exportsOf (.ref b) >>= fun r => _) _ E s
  unfold Bytes.exportsOf
  refine wpAny_bind (wpAny_bind (wpAny_load hb ?_))
  exact wpAny_pure (wpAny_pure h)
theorem bind_0 : Bytes.bindOptional "bytearray.__init__" "bytearray" ["source", "encoding", "errors"] [] [] = pure [none, none, none] := by kernel_rfl
theorem bind_1 (v : Value) : Bytes.bindOptional "bytearray.__init__" "bytearray" ["source", "encoding", "errors"] [v] [] = pure [some v, none, none] := by kernel_rfl
theorem init_0 {Q : Value → Shared → Prop} (hb : s.heap.get? b = some (baObj x))
    (h : ∀ h', Heap.SameBut b s.heap h' → h'.get? b = some (baObj #[]) → Q .none { s with heap := h' }) : wpC (model prog w) A (call (.builtin "bytearray.__init__") [.ref b]) Q E s := by
  refine call_slotC slot_init (typeIs hb) (args_init_1 _) entry_init (clean_init _ _) ?_
  unfold Builtin.«bytearray.__init__»
  dsimp only
  refine wpC_leaf (ownRelease_ hb ?_)
  rw [if_neg Bool.false_ne_true]
  refine wpC_bind (wpC_of_eq bind_0 ?_)
  dsimp only
  refine wpC_bind (wpC_of_eq (a := ()) rfl ?_)
  refine wpC_bind (wpC_of_eq (a := ()) rfl ?_)
  refine wpC_bind (exported_ hb ?_)
  rw [if_neg Bool.false_ne_true]
  refine wpC_leaf (write_ hb (Nat.zero_le _) fun h' hs hg => ?_)
  exact wpC_pure ⟨_, rfl, h h' hs hg⟩
theorem intsGood {vs : List Value} {os : List Int} (hi : IntsAre vs os) (ho : Octs os) :
    vs.takeWhile (fun v => match v with | .int i _ => decide (0 ≤ i) && decide (i < 256) | _ => false) = vs := by
  induction hi with
  | nil => rfl
  | @cons n t vs ns _ ih =>
    have h := ho n List.mem_cons_self
    rw [List.takeWhile_cons]
    have e : (decide (0 ≤ n) && decide (n < 256)) = true := by simp [h.1, h.2]
    refine (if_pos e).trans ?_
    rw [ih fun o ho' => ho o (List.mem_cons_of_mem _ ho')]
theorem intsBytes {vs : List Value} {os : List Int} (hi : IntsAre vs os) :
    (vs.filterMap (fun v => match v with | .int i _ => some i.toNat.toUInt8 | _ => none)).toArray = byteArr os := by
  rw [byteArr_eq]
  congr 1
  induction hi with
  | nil => rfl
  | @cons n t vs ns _ ih => rw [List.filterMap_cons]; show _ :: _ = _; rw [ih]; rfl
theorem init_list {l : Addr} {vs : List Value} {nn : Nat} {os : List Int} {Q : Value → Shared → Prop} (hb : s.heap.get? b = some (baObj x)) (hne : l ≠ b) (hl : s.heap.get? l = some (listOf vs.toArray nn)) (hi : IntsAre vs os) (ho : Octs os) (hz : os.length ≤ 1000)
    (h : ∀ h', Heap.SameBut b s.heap h' → h'.get? b = some (baObj (byteArr os)) → Q .none { s with heap := h' }) : wpC (model prog w) A (call (.builtin "bytearray.__init__") [.ref b, .ref l]) Q E s := by
  refine call_slotC slot_init (typeIs hb) (args_init_2 _ _) entry_init (clean_init _ _) ?_
  unfold Builtin.«bytearray.__init__»
  dsimp only
  refine wpC_leaf (ownRelease_ hb ?_)
  rw [if_neg Bool.false_ne_true]
  refine wpC_bind (wpC_of_eq (bind_1 _) ?_)
  dsimp only
  refine wpC_bind (wpC_of_eq (a := ()) rfl ?_)
  refine wpC_bind (wpC_of_eq (a := ()) rfl ?_)
  refine wpC_bind (exported_ hb ?_)
  rw [if_neg Bool.false_ne_true]
  refine wpC_any ?_
  refine wpAny_bind (write_ hb (Nat.zero_le _) fun h' hs hg => ?_)
  have hl' : h'.get? l = some (listOf vs.toArray nn) := (hs.2 l hne).trans hl
  have hT : ({ s with heap := h' } : Shared).TypeIs (.ref l) "list" := ⟨_, hl', rfl⟩
  refine wpAny_bind ?_
  show wpAny _ _ (load l >>= _) _ _ _
  refine wpAny_bind (wpAny_load hl' ?_)
  refine wpAny_pure ?_
  rw [if_neg (show ¬ ((none : Option PySem.Str).isSome = true) from Bool.false_ne_true)]
  rw [if_neg (show ¬ ((none : Option Value).isSome = true) from Bool.false_ne_true)]
  refine wpAny_bind (wpAny_of_eq (a := ()) rfl ?_)
  refine wpAny_bind (wpAny_specialOf hT F.bm_no_index ?_)
  rw [if_neg (show ¬ ((none : Option Value).isSome = true) from Bool.false_ne_true)]
  refine wpAny_bind ?_
  unfold Builtin.Bytes.buffer?
  refine wpAny_bind (wpAny_specialOf hT F.bm_no_buffer ?_)
  dsimp only
  refine wpAny_bind (wpAny_specialOf hT F.bm_no_buffer ?_)
  refine wpAny_pure ?_
  dsimp only
  refine wpAny_bind (wpAny_typeOf hT ?_)
  rw [if_pos (show ((Value.type "list" == Value.type "list" || Value.type "list" == Value.type "tuple") = true) from by decide)]
  refine wpAny_bind ?_
  unfold seqItems?
  refine wpAny_bind (wpAny_load hl' ?_)
  refine wpAny_pure ?_
  dsimp only
  have hn : vs.toArray[vs.length]? = none := by simp
  generalize hgd : List.takeWhile _ vs = gd
  have hgd' : gd = vs := hgd.symm.trans (intsGood hi ho)
  rw [hgd', hn]
  dsimp only
  refine wpAny_bind (wpAny_rule ?_)
  generalize hbs : (List.filterMap _ vs).toArray = bs
  have hbs' : bs = byteArr os := hbs.symm.trans (intsBytes hi)
  rw [hbs']
  refine wpAny_bind (write_ hg (by rw [byteArr_size, sizeLine_eq]; omega) fun h2 hs2 hg2 => ?_)
  have fin := h h2 ⟨hs2.1.trans hs.1, fun c hc => (hs2.2 c hc).trans (hs.2 c hc)⟩ hg2
  exact wpAny_pure ⟨_, rfl, fin⟩
theorem new_ (args : List Value) (hc : checkBuiltinCall "bytearray.__new__" ⟨.type "bytearray" :: args, []⟩ = pure ()) :
    wpC (model prog w) A (call (.builtin "bytearray.__new__") (.type "bytearray" :: args)) (fun obj s₁ => obj = .ref s.heap.objs.size ∧ s₁ = { s with heap := s.heap.push (baObj #[]) }) E s := by
  refine wpC_any (wpAny_call (codeAny_mono (code_new (E := E) (Q₁ := fun obj s₁ => obj = .ref s.heap.objs.size ∧ s₁ = { s with heap := s.heap.push (baObj #[]) }) args hc ⟨rfl, rfl⟩) fun r s' hr => ?_))
  cases r with
  | error e => exact hr
  | ok f => cases f <;> exact hr
variable {h₀ : Heap} {L : Addr} {m : Str → Option Value} {news : List (Addr × Obj)}
theorem make_0 {Q : Value → Shared → Prop} (F : Fr h₀ L s.heap m) (N : News h₀ L s.heap news)
    (h : ∀ b h', Fr h₀ L h' m → News h₀ L h' ((b, baObj #[]) :: news) → (∀ p ∈ news, p.1 < b) → Q (.ref b) { s with heap := h' }) : wpC (model prog w) A (call (.type "bytearray") []) Q E s := by
  refine callType_C (Q₁ := fun obj s₁ => obj = .ref s.heap.objs.size ∧ s₁ = { s with heap := s.heap.push (baObj #[]) }) called typeCall_0 (new_ [] newCall_0) fun obj s₁ h₁ => ?_
  obtain ⟨rfl, rfl⟩ := h₁
  have F1 := F.push (baObj #[])
  have N1 := N.push F (baObj #[])
  have hlt : ∀ p ∈ news, p.1 < s.heap.objs.size := fun p hp => Heap.lt_size (N p hp).1
  have hg := (N1 _ (List.Mem.head _)).1
  refine ⟨⟨_, hg, rfl⟩, init_0 hg fun h' hs hg' => ⟨rfl, ?_⟩⟩
  exact h _ h' (F1.change hs (N1 _ (.head _)).2.1 (N1 _ (.head _)).2.2) (N1.setHead (fun p hp => Nat.ne_of_lt (hlt p hp)) hs hg') hlt
theorem make_list {l : Addr} {vs : List Value} {nn : Nat} {os : List Int} {Q : Value → Shared → Prop} (F : Fr h₀ L s.heap m) (N : News h₀ L s.heap news) (hm : (l, listOf vs.toArray nn) ∈ news) (hi : IntsAre vs os) (ho : Octs os) (hz : os.length ≤ 1000)
    (h : ∀ b h', Fr h₀ L h' m → News h₀ L h' ((b, baObj (byteArr os)) :: news) → (∀ p ∈ news, p.1 < b) → Q (.ref b) { s with heap := h' }) : wpC (model prog w) A (call (.type "bytearray") [.ref l]) Q E s := by
  refine callType_C (Q₁ := fun obj s₁ => obj = .ref s.heap.objs.size ∧ s₁ = { s with heap := s.heap.push (baObj #[]) }) called (typeCall_1 _) (new_ [.ref l] (newCall_1 _)) fun obj s₁ h₁ => ?_
  obtain ⟨rfl, rfl⟩ := h₁
  have F1 := F.push (baObj #[])
  have N1 := N.push F (baObj #[])
  have hlt : ∀ p ∈ news, p.1 < s.heap.objs.size := fun p hp => Heap.lt_size (N p hp).1
  have hg := (N1 _ (List.Mem.head _)).1
  have hl := (N1 _ (List.Mem.tail _ hm)).1
  refine ⟨⟨_, hg, rfl⟩, init_list hg (Nat.ne_of_lt (hlt _ hm)) hl hi ho hz fun h' hs hg' => ⟨rfl, ?_⟩⟩
  exact h _ h' (F1.change hs (N1 _ (.head _)).2.1 (N1 _ (.head _)).2.2) (N1.setHead (fun p hp => Nat.ne_of_lt (hlt p hp)) hs hg') hlt
theorem append_N {b : Addr} {x : Array UInt8} {n : Int} {u : Tok} {Q : Value → Shared → Prop} (F : Fr h₀ L s.heap m) (N : News h₀ L s.heap ((b, baObj x) :: news)) (hap : ∀ p ∈ news, p.1 ≠ b) (h0 : 0 ≤ n) (h1 : n < 256) (hz : x.size < sizeLine)
    (h : ∀ h', Fr h₀ L h' m → News h₀ L h' ((b, baObj (x.push n.toNat.toUInt8)) :: news) → Q .none { s with heap := h' }) : wpC (model prog w) A (call (.builtin "bytearray.append") [.ref b, .int n u]) Q E s :=
  append_ (N _ (.head _)).1 h0 h1 hz fun h' hs hg => h h' (F.change hs (N _ (.head _)).2.1 (N _ (.head _)).2.2) (N.setHead hap hs hg)
theorem reverse_N {b : Addr} {x : Array UInt8} {Q : Value → Shared → Prop} (F : Fr h₀ L s.heap m) (N : News h₀ L s.heap ((b, baObj x) :: news)) (hap : ∀ p ∈ news, p.1 ≠ b) (hz : x.size ≤ sizeLine)
    (h : ∀ h', Fr h₀ L h' m → News h₀ L h' ((b, baObj x.reverse) :: news) → Q .none { s with heap := h' }) : wpAny (model prog w) A (call (.builtin "bytearray.reverse") [.ref b]) Q E s :=
  reverse_ (N _ (.head _)).1 hz fun h' hs hg => h h' (F.change hs (N _ (.head _)).2.1 (N _ (.head _)).2.2) (N.setHead hap hs hg)
end
end BA
end Fq
end
section
/-! FqG3 -/
open PySem PySem.W PySem.Calls PySem.Spec PyProof.Rows
namespace Fq
namespace BA
open Builtin
section
variable {prog : Program} {w : World} {A : Around} {E : Value → Shared → Prop} {s : Shared} {b : Addr} {x : Array UInt8}
theorem no_bytes : typeLookup (.type "bytearray") "__bytes__" = pure none := by rw [typeLookup_type, builtinLookup_eq_fast]; kernel_rfl
theorem no_idx : typeLookup (.type "bytearray") "__index__" = pure none := by rw [typeLookup_type, builtinLookup_eq_fast]; kernel_rfl
theorem look_buffer : typeLookup (.type "bytearray") "__buffer__" = pure (some (.builtin "bytearray.__buffer__")) := by rw [typeLookup_type, builtinLookup_eq_fast]; kernel_rfl
theorem buf_ends : ("bytearray.__buffer__".endsWith ("." ++ "__buffer__")) = true := by decide +kernel
theorem buf_drop : ("bytearray.__buffer__".dropRight ("__buffer__".length + 1)) = "bytearray" := by decide +kernel
theorem bytes_new {Q : Value → Shared → Prop} (hb : s.heap.get? b = some (baObj x)) (hz : x.size ≤ sizeLine)
    (hQ : ∀ t k, Q (.bytes x t) { s with toks := k }) :
    codeAny (model prog w) A (.call (.builtin "bytes.__new__") ⟨[.type "bytes", .ref b], []⟩) (wants Q E) s := by
  refine codeAny_of_tree ?_
  show wpAny _ A.in1 (do checkBuiltinCall "bytes.__new__" ⟨[.type "bytes", .ref b], []⟩; again (.builtin "bytes.__new__" ⟨[.type "bytes", .ref b], []⟩)) _ _ s
  refine wpAny_bind (wpAny_of_eq (F.bm_newCall _) (wpAny_pure ⟨plainId_quiet F.bm_plain _, codeAny_builtin F.bm_entry ?_⟩))
  rw [Around.under_plainId F.bm_plain _]
  have hT := typeIs hb
  unfold Builtin.«bytes.__new__»
  refine wpAny_bind (wpAny_of_eq (a := true) rfl ?_)
  rw [if_neg (show ¬ ((!true) = true) from Bool.false_ne_true)]
  refine wpAny_bind (wpAny_of_eq F.bm_sub ?_)
  rw [if_neg (show ¬ ((!true) = true) from Bool.false_ne_true)]
  refine wpAny_bind (wpAny_of_eq (F.bm_bind _) ?_)
  refine wpAny_bind (wpAny_of_eq (a := ()) rfl ?_)
  refine wpAny_bind (wpAny_of_eq (a := ()) rfl ?_)
  dsimp only
  rw [if_neg (show ¬ ((none : Option Value).isSome = true) from Bool.false_ne_true)]
  refine wpAny_bind (wpAny_specialOf hT no_bytes ?_)
  dsimp only
  refine wpAny_bind (wpAny_bind ?_)
  show wpAny _ _ (load b >>= _) _ _ _
  refine wpAny_bind (wpAny_load hb ?_)
  refine wpAny_pure (wpAny_pure ?_)
  rw [if_neg (show ¬ ((none : Option PySem.Str).isSome = true) from Bool.false_ne_true)]
  refine wpAny_bind (wpAny_specialOf hT no_idx ?_)
  rw [if_pos (show ((none : Option Value).isNone = true) from rfl)]
  first
    | show wpAny _ _ (Builtin.Bytes.buffer? "bytes.__new__" (.ref b) true >>= _) _ _ _
    | (refine wpAny_bind ?_; show wpAny _ _ (Builtin.Bytes.buffer? "bytes.__new__" (.ref b) true >>= _) _ _ _)
  refine wpAny_bind ?_
  unfold Builtin.Bytes.buffer? Bytes.slotIsOwn
  refine wpAny_bind (wpAny_specialOf hT look_buffer ?_)
  dsimp only
  refine wpAny_bind (wpAny_bind (wpAny_specialOf hT look_buffer ?_))
  dsimp only
  rw [buf_ends, buf_drop]
  refine wpAny_isInstance hT sub_self ?_
  rw [if_neg (show ¬ ((!true) = true) from Bool.false_ne_true)]
  refine wpAny_bind (wpAny_specialOf hT look_buffer ?_)
  refine wpAny_bind (ownRelease_ hb ?_)
  rw [if_neg Bool.false_ne_true]
  refine wpAny_bind (payload_ hb ?_)
  refine wpAny_pure ?_
  dsimp only
  refine wpAny_bind (wpAny_rule ?_)
  refine wpAny_bind (wpAny_mkBytes ?_ hz)
  show wpAny _ _ (if (Value.type "bytes" == Value.type "bytes") = true then _ else _) _ _ _
  rw [if_pos (show ((Value.type "bytes" == Value.type "bytes") = true) from by decide)]
  first
    | exact wpAny_pure (hQ _ _)
    | exact wpAny_bind (wpAny_pure (wpAny_pure (hQ _ _)))
theorem bytes_of {Q : Value → Shared → Prop} (hb : s.heap.get? b = some (baObj x)) (hz : x.size ≤ sizeLine) (hQ : ∀ t k, Q (.bytes x t) { s with toks := k }) :
    wpAny (model prog w) A (call (.type "bytes") [.ref b]) Q E s := by
  refine callType_codes (Q₁ := fun obj s₁ => s₁.TypeIs obj "bytes" ∧ Q obj s₁) F.bm_called (F.bm_typeCall _) F.entry_object_init
    (bytes_new hb hz fun t k => ⟨PySem.W.typeIs_bytes _ _ _, hQ t k⟩) fun obj s₁ h₁ => ?_
  exact ⟨h₁.1, F.args_object_init_2 obj _, object_init_meets F.bm_called.init.lookup F.bm_called.made (by decide) prog w A.in1 _ s₁ ⟨h₁.1, rfl, h₁.2⟩⟩
end
end BA
end Fq
end
section
/-! FqI -/
open PySem PySem.W PySem.Calls PySem.Spec PyProof.Rows
namespace Fq
section
variable {prog : Program} {w : World} {A : Around} {E : Value → Shared → Prop} {s : Shared}
theorem fromText_bad {x : PySem.Str} {t : Tok} {text : List Nat} {base : Nat} {Q : Value → Shared → Prop} (hA : A.handled = none) (hs : (text.takeWhile (· != 0)).length ≤ 640)
    (hr : (int_private% "readNumeral") 0 base (text.takeWhile (· != 0)) = int_private% "Numeral.invalid") (hx : (reprText x).length ≤ 1000) (hm : ((Str.ofString s!"invalid literal for int() with base {base}: ").length) ≤ 1000)
    (hE : ∀ h' tk e, Heap.NewExc s.heap h' e "ValueError" → E (.ref e) { s with heap := h', toks := tk }) : wpC (model prog w) A ((int_private% "intFromText") (.str x t) text base) Q E s := by
  show wpC _ _ (if (text.takeWhile (· != 0)).length ≤ 640 then _ else _) _ _ _
  rw [if_pos hs]
  refine wpC_bind (wpC_pure ?_)
  dsimp only
  rw [hr]
  dsimp only
  refine wpC_bind (wpC_of_eq (a := none) rfl ?_)
  rw [if_neg (show ¬ ((Option.isSome (none : Option (Array UInt8)) && (List.take 200 (List.takeWhile (fun x => x != 0) text)).any fun x => decide (x ≥ 128)) = true) from Bool.false_ne_true)]
  refine wpC_leaf (wpAny_rule ?_)
  refine wpC_bind (wpC_of_eq (a := none) rfl ?_)
  dsimp only
  refine wpC_leaf (wpAny_pyRepr_str ?_ (by rw [sizeLine_eq]; omega))
  refine wpC_leaf (wpAny_mkStr ?_ ?_)
  · refine wpC_leaf (wpAny_newExc_plain plainExc_ValueError fun h' e hm => ?_)
    refine wpC_bind (wpC_noMark ?_)
    refine wpC_any (wpAny_raiseNew_none hA ?_)
    exact hE _ _ _ hm.newExc
  · rw [PySem.Str.length_append, sizeLine_eq]
    have e : (PySem.Str.mk ((reprText x).cps.extract 0 200)).length ≤ 200 := by
      show ((reprText x).cps.extract 0 200).size ≤ 200
      rw [Array.size_extract]; omega
    omega
theorem fromText_ok {v : Value} {text : List Nat} {base : Nat} {n : Int} {M : Model} {Q : Value → Shared → Prop} (hs : (text.takeWhile (· != 0)).length ≤ 640)
    (hr : (int_private% "readNumeral") 0 base (text.takeWhile (· != 0)) = (int_private% "Numeral.value") n) (ha : ((text.takeWhile (· != 0)).length == text.length) = true)
    (h : Q (.int n s.toks) { s with toks := s.toks + 1 }) : wpAny M A ((int_private% "intFromText") v text base) Q E s := by
  show wpAny _ _ (if (text.takeWhile (· != 0)).length ≤ 640 then _ else _) _ _ _
  rw [if_pos hs]
  refine wpAny_bind (wpAny_pure ?_)
  dsimp only
  rw [hr]
  dsimp only
  rw [if_pos ha]
  exact wpAny_mkInt h
theorem typeCall_int_2 (a b : Value) : checkTypeCall "int" ⟨[a, b], []⟩ = pure () := by kernel_rfl
theorem newCall_int_2 (a b : Value) : checkBuiltinCall "int.__new__" ⟨[.type "int", a, b], []⟩ = pure () := by kernel_rfl
theorem plain_int_new : plainId "int.__new__" = true := by decide +kernel
theorem clean_int_new (r : List Value) : CleanC (.builtin "int.__new__" ⟨.type "int" :: r, []⟩) := fun self p => by
  cases r with
  | nil => rfl
  | cons a r => rfl
theorem int_new2 {x : PySem.Str} {t u : Tok} {Q : Value → Shared → Prop} (hx : x.cps.all (· < 128) = true) (h : wpC (model prog w) A.in1 ((int_private% "intFromText") (.str x t) x.cps.toList 16) Q E s) :
    wpC (model prog w) A (call (.builtin "int.__new__") [.type "int", .str x t, .int 16 u]) Q E s := by
  refine wpC_call (codeC_call_builtin_code (plainId_quiet plain_int_new _) (wpAny_of_eq (newCall_int_2 _ _) (codeC_builtin (clean_int_new _) F.entry_int_new ?_)))
  rw [Around.under_plainId plain_int_new _]
  unfold Builtin.«int.__new__»
  dsimp only
  refine wpC_bind (wpC_of_eq (a := true) rfl ?_)
  rw [if_neg (show ¬ ((!true) = true) from Bool.false_ne_true)]
  refine wpC_bind (wpC_of_eq F.conv_sub_int ?_)
  rw [if_neg (show ¬ ((!true) = true) from Bool.false_ne_true)]
  refine wpC_bind (wpC_of_eq F.madeHere_int ?_)
  rw [if_neg (show ¬ ((Value.type "int" == Value.type "int" && ([] : List (Str × Value)).isEmpty && decide ([Value.str x t, Value.int 16 u].length > 2)) = true) from Bool.false_ne_true)]
  rw [if_neg (show ¬ ([Value.str x t, Value.int 16 u].length + ([] : List (Str × Value)).length > 2) from by show ¬ (2 > 2); omega)]
  refine wpC_bind (wpC_of_eq (a := PUnit.unit) rfl ?_)
  show wpC _ _ (Builtin.Int.intIndex "int.__new__" (.int 16 u) >>= fun base => _) _ _ _
  refine wpC_bind (wpC_of_eq (a := 16) rfl ?_)
  rw [if_neg (show ¬ (((16 : Int) != 0 && decide ((16 : Int) < 2) || decide ((16 : Int) > 36)) = true) from by decide)]
  refine wpC_bind (wpC_of_eq (a := some (if x.cps.all (· < 128) then x.cps.toList else Unicode.numberText x.cps.toList)) rfl ?_)
  rw [if_pos hx]
  dsimp only
  refine wpC_seq h fun v s' hq => ?_
  rw [if_pos (show ((Value.type "int" == Value.type "int") = true) from by decide)]
  exact wpC_pure hq
theorem object_init_C {T newId : String} {obj : Value} {args : List Value} {Q : Value → Shared → Prop} (ft : TypeCalled T newId "object.__init__") (hne : (some newId != some "object.__new__") = true) (hT : s.TypeIs obj T) (ha : argsOk "object.__init__" ⟨obj :: args, []⟩) (h : Q .none s) :
    wpAny (model prog w) A (call (.builtin "object.__init__") (obj :: args)) Q E s := by
  exact wpAny_call (codeAny_call_builtin ft.init.plain F.entry_object_init (ft.init.check _ _ _ _ _ _ _ _ hT ha (object_init_meets ft.init.lookup ft.made hne prog w A (fun r s' => match r with | .ok (.ret v) => Q v s' | .ok _ => False | .error e => E e s') s ⟨hT, h⟩)))
theorem args_object_init_3 (a b c : Value) : argsOk "object.__init__" ⟨[a, b, c], []⟩ := by unfold argsOk; kernel_rfl
theorem int_call2 {x : PySem.Str} {t u : Tok} {Q : Value → Shared → Prop} (hx : x.cps.all (· < 128) = true) (h : wpC (model prog w) A.in1.in1 ((int_private% "intFromText") (.str x t) x.cps.toList 16) (fun v s' => (∃ n k, v = .int n k) ∧ Q v s') E s) :
    wpC (model prog w) A (call (.type "int") [.str x t, .int 16 u]) Q E s := by
  refine callType_C (Q₁ := fun v s' => (∃ n k, v = .int n k) ∧ Q v s') F.called_int (typeCall_int_2 _ _) (int_new2 hx h) fun obj s₁ h₁ => ?_
  obtain ⟨⟨n, k, rfl⟩, hq⟩ := h₁
  exact ⟨typeIs_int _ _ _, wpC_any (object_init_C F.called_int F.newNe_int (typeIs_int _ _ _) (args_object_init_3 _ _ _) ⟨rfl, hq⟩)⟩
theorem int_new1 {x : PySem.Str} {t : Tok} {Q : Value → Shared → Prop} (hx : x.cps.all (· < 128) = true) (h : wpC (model prog w) A.in1 ((int_private% "intFromText") (.str x t) x.cps.toList 10) Q E s) :
    wpC (model prog w) A (call (.builtin "int.__new__") [.type "int", .str x t]) Q E s := by
  refine wpC_call (codeC_call_builtin_code (plainId_quiet plain_int_new _) (wpAny_of_eq (F.newCall_int_1 _) (codeC_builtin (clean_int_new _) F.entry_int_new ?_)))
  rw [Around.under_plainId plain_int_new _]
  unfold Builtin.«int.__new__»
  dsimp only
  refine wpC_bind (wpC_of_eq (a := true) rfl ?_)
  rw [if_neg (show ¬ ((!true) = true) from Bool.false_ne_true)]
  refine wpC_bind (wpC_of_eq F.conv_sub_int ?_)
  rw [if_neg (show ¬ ((!true) = true) from Bool.false_ne_true)]
  refine wpC_bind (wpC_of_eq F.madeHere_int ?_)
  rw [if_neg (show ¬ ((Value.type "int" == Value.type "int" && ([] : List (Str × Value)).isEmpty && decide ([Value.str x t].length > 2)) = true) from Bool.false_ne_true)]
  rw [if_neg (show ¬ ([Value.str x t].length + ([] : List (Str × Value)).length > 2) from by show ¬ (1 > 2); omega)]
  refine wpC_bind (wpC_of_eq (a := PUnit.unit) rfl ?_)
  have hT := typeIs_str s x t
  show wpC _ _ ((int_private% "intFromObject") (.str x t) >>= fun v => _) _ _ _
  refine wpC_bind ?_
  show wpC _ _ (callSpecial? (.str x t) "__int__" >>= fun r => _) _ _ _
  refine wpC_leaf ?_
  unfold callSpecial?
  refine wpAny_bind (wpAny_specialOf hT KIN.str_int ?_)
  refine wpAny_pure ?_
  refine wpC_leaf (wpAny_specialOf hT KIN.str_idx ?_)
  rw [if_neg (show ¬ ((none : Option Value).isSome = true) from Bool.false_ne_true)]
  refine wpC_leaf (wpAny_specialOf hT KIN.str_trunc ?_)
  dsimp only
  refine wpC_bind (wpC_of_eq (a := some (if x.cps.all (· < 128) then x.cps.toList else Unicode.numberText x.cps.toList)) rfl ?_)
  rw [if_pos hx]
  dsimp only
  refine wpC_mono h (fun v s' hq => ?_) fun _ _ e => e
  rw [if_pos (show ((Value.type "int" == Value.type "int") = true) from by decide)]
  exact wpC_pure hq
theorem int_call1 {x : PySem.Str} {t : Tok} {Q : Value → Shared → Prop} (hx : x.cps.all (· < 128) = true) (h : wpC (model prog w) A.in1.in1 ((int_private% "intFromText") (.str x t) x.cps.toList 10) (fun v s' => (∃ n k, v = .int n k) ∧ Q v s') E s) :
    wpC (model prog w) A (call (.type "int") [.str x t]) Q E s := by
  refine callType_C (Q₁ := fun v s' => (∃ n k, v = .int n k) ∧ Q v s') F.called_int (F.typeCall_int_1 _) (int_new1 hx h) fun obj s₁ h₁ => ?_
  obtain ⟨⟨n, k, rfl⟩, hq⟩ := h₁
  exact ⟨typeIs_int _ _ _, wpC_any (object_init_C F.called_int F.newNe_int (typeIs_int _ _ _) (F.args_object_init_2 _ _) ⟨rfl, hq⟩)⟩
/-- a text of hex digits, read -/
theorem int_hex {os : List Int} {t u : Tok} {Q : Value → Shared → Prop} (ho : Octs os) (hne : os ≠ []) (hl : os.length ≤ 100) (h : ∀ t tk, Q (.int (be 0 os) t) { s with toks := tk }) :
    wpC (model prog w) A (call (.type "int") [.str ⟨(hexAll os).toArray⟩ t, .int 16 u]) Q E s := by
  refine int_call2 (hex_ascii ho) (wpC_any ?_)
  have e : (PySem.Str.mk (hexAll os).toArray).cps.toList = hexAll os := rfl
  rw [e]
  refine fromText_ok (n := be 0 os) ?_ ?_ ?_ ⟨⟨_, _, rfl⟩, h _ _⟩
  · rw [hex_take ho, hexAll_length]; omega
  · rw [hex_take ho]; exact read_hex ho hne (by omega)
  · rw [hex_take ho]; exact beq_self_eq_true _
theorem int_none {t u : Tok} {Q : Value → Shared → Prop} (hA : A.handled = none) (hE : ∀ h' tk e, Heap.NewExc s.heap h' e "ValueError" → E (.ref e) { s with heap := h', toks := tk }) :
    wpC (model prog w) A (call (.type "int") [.str ⟨#[]⟩ t, .int 16 u]) Q E s := by
  refine int_call2 (by decide +kernel) ?_
  exact fromText_bad hA (by decide) read_none (by decide +kernel) (by decide +kernel) hE
theorem int_x {t : Tok} {Q : Value → Shared → Prop} (hA : A.handled = none) (hE : ∀ h' tk e, Heap.NewExc s.heap h' e "ValueError" → E (.ref e) { s with heap := h', toks := tk }) :
    wpC (model prog w) A (call (.type "int") [.str (PySem.Str.ofString "x") t]) Q E s := by
  have e : PySem.Str.ofString "x" = ⟨#[120]⟩ := by decide +kernel
  rw [e]
  refine int_call1 (by decide +kernel) ?_
  exact fromText_bad hA (by decide) read_x (by decide +kernel) (by decide +kernel) hE
end
end Fq
end
section
/-! FqJ -/
open PySem PySem.W PySem.Calls PySem.Spec PyProof.Rows
namespace Fq
open Builtin Builtin.Str
def hexF : Percent := { zero := true, width := some 2, type := 120 }
def hexT (n : Int) : List Nat := percentInt hexF (decide (n < 0)) ((Nat.toDigits 16 n.natAbs).map Char.toNat)
theorem hex_field_all : ∀ i : Fin 256, (percentField hexF true (hexT (i.1 : Int)) = none ∧ hexT (i.1 : Int) = hex2 (i.1 : Int)) ∨ percentField hexF true (hexT (i.1 : Int)) = some (hex2 (i.1 : Int)) := by decide +kernel
theorem hex_field {n : Int} (h0 : 0 ≤ n) (h1 : n < 256) : (percentField hexF true (hexT n) = none ∧ hexT n = hex2 n) ∨ percentField hexF true (hexT n) = some (hex2 n) := by
  obtain ⟨k, rfl⟩ := Int.eq_ofNat_of_zero_le h0
  exact hex_field_all ⟨k, by omega⟩
theorem hex_none {n : Int} (h0 : 0 ≤ n) (h1 : n < 256) (h : percentField hexF true (hexT n) = none) : hexT n = hex2 n := by
  rcases hex_field h0 h1 with e | e
  · exact e.2
  · rw [h] at e; cases e
theorem hex_some {n : Int} {l : List Nat} (h0 : 0 ≤ n) (h1 : n < 256) (h : percentField hexF true (hexT n) = some l) : l = hex2 n := by
  rcases hex_field h0 h1 with e | e
  · rw [h] at e; cases e.1
  · rw [h] at e; exact Option.some.inj e
theorem hex_meets {n : Int} {t u : Tok} (h0 : 0 ≤ n) (h1 : n < 256) : Meets («str.__mod__» ⟨[.str (PySem.Str.mk #[37, 48, 50, 120]) t, .int n u], []⟩) (fun _ R s => ∀ t' k, R (.ok (.ret (.str ⟨(hex2 n).toArray⟩ t'))) { s with toks := k }) := by
  apply KPc.meets_of
  intro _ _ _ _ _ _ hQ
  rw [KPc.entry_is]
  unfold Builtin.Str.percentFormat
  refine wpAny_bind (wpAny_isInstance (typeIs_int _ _ _) F.sub_int_tuple ?_)
  refine wpAny_bind (wpAny_of_eq (a := none) rfl ?_)
  refine wpAny_bind (wpAny_of_eq (KPc.fills _ _) ?_)
  kpc_if
  refine wpAny_bind (wpAny_pure ?_)
  refine wpAny_bind ?_
  rw [KPc.range_list]
  refine KPc.start ?_
  intro w g
  refine KPc.turn ?_
  kpc_check
  repeat kpc_if
  refine wpAny_bind ?_
  refine wpAny_holding ?_
  repeat kpc_if
  refine wpAny_bind (wpAny_of_eq (a := _) rfl ?_)
  repeat kpc_if
  refine wpAny_pure ?_
  show wpAny _ _ (match percentField hexF true (hexT n) with | none => _ | some laid => _) _ _ _
  split
  · rename_i e
    refine wpAny_pure ?_
    refine KPc.after_add0 (y := ⟨(hex2 n).toArray⟩) g (congrArg (fun l => PySem.Str.mk l.toArray) (hex_none h0 h1 e)) (by kpc_obj) ?_
    intro w' g'
    refine KPc.turn ?_
    refine wpAny_ite (KPc.ite_no (KPc.short_good g' (by show 0 + 2 ≤ 16777216; decide)) ?_)
    repeat kpc_if
    refine wpAny_pure ?_
    kpc_if
    exact KPc.finish_ok g' (by show 0 + 2 ≤ 16777216; decide) rfl (fun t k => hQ t k)
  · rename_i laid e
    refine wpAny_pure ?_
    refine KPc.after_add0 (y := ⟨(hex2 n).toArray⟩) g (congrArg (fun l => PySem.Str.mk l.toArray) (hex_some h0 h1 e)) (by kpc_obj) ?_
    intro w' g'
    refine KPc.turn ?_
    refine wpAny_ite (KPc.ite_no (KPc.short_good g' (by show 0 + 2 ≤ 16777216; decide)) ?_)
    repeat kpc_if
    refine wpAny_pure ?_
    kpc_if
    exact KPc.finish_ok g' (by show 0 + 2 ≤ 16777216; decide) rfl (fun t k => hQ t k)
section
variable {prog : Program} {w : World} {A : Around} {E : Value → Shared → Prop} {s : Shared}
theorem mod_hex {n : Int} {t u : Tok} {Q : Value → Shared → Prop} (h0 : 0 ≤ n) (h1 : n < 256) (h : ∀ t' k, Q (.str ⟨(hex2 n).toArray⟩ t') { s with toks := k }) :
    wpAny (model prog w) A (binaryOp .Mod (.str (PySem.Str.ofString "%02x") t) (.int n u)) Q E s := by
  refine KPc.mod_lit (X' := PySem.Str.mk #[37, 48, 50, 120]) (by decide +kernel) ?_ (fun _ _ => hex_meets h0 h1) h
  obtain ⟨k, rfl⟩ := Int.eq_ofNat_of_zero_le h0
  show Nat.log2 k < 1920
  have : Nat.log2 k ≤ k := Nat.log2_le_self k
  omega
end
end Fq
end
section
/-! FqK -/
open PySem PySem.W PySem.Calls PySem.Spec PyProof.Rows
namespace Fq
theorem walks_map {prog : Program} {w : World} {A : Around} {I : Addr} {fp wr : List Addr} {n : Nat} {P P' : Nat → Value → Prop} {St : Nat → Heap → Prop} (W : Walks prog w A I fp wr n P St) (hp : ∀ i v, P i v → P' i v) : Walks prog w A I fp wr n P' St where
  sub := W.sub
  frame := W.frame
  item := fun i s Q E hi st hQ => W.item i s Q E hi st fun v h' tk p => hQ v h' tk (hp i v p)
  done := W.done
  self := W.self
theorem walksS_map {prog : Program} {w : World} {A : Around} {I : Addr} {fp wr : List Addr} {G : Array GenState → Array GenState → Prop} {n : Nat} {P P' : Nat → Value → Prop} {St : Nat → Shared → Prop} (W : WalksS prog w A I fp wr G n P St) (hp : ∀ i v, P i v → P' i v) : WalksS prog w A I fp wr G n P' St where
  sub := W.sub
  grefl := W.grefl
  gtrans := W.gtrans
  frame := W.frame
  item := fun i s Q E hi st hQ => W.item i s Q E hi st fun v s' p => hQ v s' (hp i v p)
  done := W.done
  self := W.self
theorem passing_all (n : Nat) : passing (fun _ => true) n 0 = List.range n := by
  unfold passing; rw [List.drop_zero]; exact List.filter_eq_self.mpr fun _ _ => rfl
abbrev ItemP (os : List Int) (i : Nat) (v : Value) : Prop := ∃ o u, os[i]? = some o ∧ v = .int o u
section
variable {prog : Program} {w : World} {A : Around} {E : Value → Shared → Prop} {s : Shared} {h₀ : Heap} {L : Addr} {news : List (Addr × Obj)} {v : Value} {os : List Int}
theorem byteArr_item {i : Nat} {c : UInt8} (ho : Octs os) (h : (byteArr os)[i]? = some c) : ∃ o, os[i]? = some o ∧ (c.toNat : Int) = o := by
  have hi : i < os.length := by
    have := (Array.getElem?_eq_some_iff.mp h).1
    rw [byteArr_size] at this; exact this
  obtain ⟨c', h1, h2⟩ := byteArr_at ho hi
  rw [h] at h1
  cases h1
  refine ⟨os[i], List.getElem?_eq_getElem hi, ?_⟩
  rw [h2, List.getD_eq_getElem?_getD, List.getElem?_eq_getElem hi]; rfl
/-- what a for over the octets walks, in each of the forms -/
theorem seqB_src {P : Addr} {ps : Array Value} {Q : Value → Shared → Prop} (N : News h₀ L s.heap news) (S : SeqB news v os) (ho : Octs os) (hP : s.heap.get? P = some (tabObj ps))
    (h : ∀ I h' fp wr St₀, (∀ b o, s.heap.get? b = some o → h'.get? b = some o) → s.heap.objs.size ≤ h'.objs.size → (∀ A' : Around, A'.handled = none → Walks prog w A' I fp wr os.length (ItemP os) St₀) → St₀ 0 h' → (∀ b ∈ fp, b < h'.objs.size) → (∀ b ∈ wr, s.heap.objs.size ≤ b) → P ∉ fp → Q (.ref I) { s with heap := h' }) :
    wpAny (model prog w) A (pyIter v) Q E s := by
  have hPlt : P < s.heap.objs.size := Heap.lt_size hP
  cases S with
  | bytes t =>
    refine KBw.pyIter_bytes ?_
    refine h _ _ [s.heap.objs.size] [s.heap.objs.size] (fun i h => KBw.IsBytesIter h s.heap.objs.size (byteArr os) t i) (fun b o e => Heap.get?_push_of_some _ e) (by rw [Heap.size_push]; exact Nat.le_succ _) (fun A' hA => by
      have W := KBw.walks (prog := prog) (w := w) hA s.heap.objs.size (byteArr os) t
      rw [byteArr_size] at W
      exact walks_map W fun i v hv => by
        obtain ⟨c, u, hc, e⟩ := hv
        obtain ⟨o, h1, h2⟩ := byteArr_item ho hc
        exact ⟨o, u, h1, by rw [e, h2]⟩) ⟨_, Heap.get?_push_size _ rfl, rfl, rfl⟩ (fun b hb => by rw [List.mem_singleton.mp hb, Heap.size_push]; exact Nat.lt_succ_self _) (fun b hb => by rw [List.mem_singleton.mp hb]; exact Nat.le_refl _)
      fun hb => by rw [List.mem_singleton.mp hb] at hPlt; exact Nat.lt_irrefl _ hPlt
  | @list l vs nn _ hm hi =>
    have hg := (N _ hm).1
    have hl : s.heap.IsList l vs.toArray := ⟨_, hg, rfl, _, rfl⟩
    have hlt := Heap.lt_size hg
    refine wpAny_pyIter_list hl ?_
    refine h _ _ [s.heap.objs.size, l] [s.heap.objs.size] (fun i h => h.IsListIter s.heap.objs.size l i ∧ h.IsList l vs.toArray) (fun b o e => Heap.get?_push_of_some _ e) (by rw [Heap.size_push]; exact Nat.le_succ _) (fun A' hA => by
      have W := Walks.list (prog := prog) (w := w) hA s.heap.objs.size l (Nat.ne_of_lt hlt) vs.toArray
      rw [show vs.toArray.size = os.length from by rw [List.size_toArray, hi.length]] at W
      exact walks_map W fun i v hv => by
        obtain ⟨o, u, e, h1⟩ := IntsAre.at hi i v (by simpa using hv)
        exact ⟨o, u, h1, e⟩) ⟨⟨_, Heap.get?_push_size _ rfl, rfl, rfl⟩, hl.push _⟩ ?_ (fun b hb => by rw [List.mem_singleton.mp hb]; exact Nat.le_refl _) ?_
    · intro b hb
      rw [Heap.size_push]
      rcases List.mem_cons.mp hb with e | hb
      · rw [e]; exact Nat.lt_succ_self _
      · rw [List.mem_singleton.mp hb]; exact Nat.lt_succ_of_lt hlt
    · intro hb
      rcases List.mem_cons.mp hb with e | hb
      · rw [e] at hPlt; exact Nat.lt_irrefl _ hPlt
      · rw [List.mem_singleton.mp hb, hg] at hP
        have := congrArg (Option.map Obj.cls) hP
        cases this
  | @ba b _ hm =>
    have hg := (N _ hm).1
    have hlt := Heap.lt_size hg
    refine BA.pyIter_ hg ?_
    refine h _ _ [s.heap.objs.size, b] [s.heap.objs.size] (fun i h => BA.IsIter h s.heap.objs.size b i ∧ h.get? b = some (BA.baObj (byteArr os))) (fun b o e => Heap.get?_push_of_some _ e) (by rw [Heap.size_push]; exact Nat.le_succ _) (fun A' hA => by
      have W := BA.walks (prog := prog) (w := w) hA s.heap.objs.size b (Nat.ne_of_lt hlt) (byteArr os)
      rw [byteArr_size] at W
      exact walks_map W fun i v hv => by
        obtain ⟨c, u, hc, e⟩ := hv
        obtain ⟨o, h1, h2⟩ := byteArr_item ho hc
        exact ⟨o, u, h1, by rw [e, h2]⟩) ⟨⟨_, Heap.get?_push_size _ rfl, rfl, rfl⟩, Heap.get?_push_of_some _ hg⟩ ?_ (fun b hb => by rw [List.mem_singleton.mp hb]; exact Nat.le_refl _) ?_
    · intro b' hb
      rw [Heap.size_push]
      rcases List.mem_cons.mp hb with e | hb
      · rw [e]; exact Nat.lt_succ_self _
      · rw [List.mem_singleton.mp hb]; exact Nat.lt_succ_of_lt hlt
    · intro hb
      rcases List.mem_cons.mp hb with e | hb
      · rw [e] at hPlt; exact Nat.lt_irrefl _ hPlt
      · rw [List.mem_singleton.mp hb, hg] at hP
        have := congrArg (Option.map Obj.cls) hP
        cases this
/-- a generator of the octets' hex texts -/
structure HexGen (prog : Program) (w : World) (A : Around) (P : Addr) (s : Shared) (os : List Int) (a : Addr) (s₅ : Shared) : Prop where
  gen : ∃ fp wr g St, WalksS prog w A.in4 a fp wr (GenOnlyQ g) os.length (fun j y => ∃ o u, os[j]? = some o ∧ y = .str ⟨(hex2 o).toArray⟩ u) St ∧ St 0 s₅ ∧ (∀ i s', St i s' → s'.TypeIs (.ref a) "generator") ∧ a ∈ fp ∧ (∀ b ∈ fp, b < s₅.heap.objs.size) ∧ ∀ b ∈ wr, s.heap.objs.size ≤ b
  keeps : ∀ b o, b ≠ P → s.heap.get? b = some o → s₅.heap.get? b = some o
  tab : ∃ ps', s₅.heap.get? P = some (tabObj ps') ∧ TriplesOk ps'.toList
  bare : AllBare s₅.gens
  os : s₅.os = s.os
theorem genexprCode_ {M : Model} {env : Env} {c P : Addr} {ps : Array Value} {pos : Pos} {qualname : Str} {scope : Scope} {Q : Value → Shared → Prop} (hc : env.code = .ref c) (hd : CodeHd s.heap c P) (hP : s.heap.get? P = some (tabObj ps)) (ht : TriplesOk ps.toList)
    (hQ : ∀ code h' tk ps', Heap.ExtBut P s.heap h' → s.heap.objs.size ≤ h'.objs.size → h'.get? P = some (tabObj ps') → TriplesOk ps'.toList → Q code { s with heap := h', toks := tk }) : wpAny M A (genexprCode env pos qualname scope) Q E s := by
  have hok := hd.code hP ht
  have htab := hd.tab hP
  cases hnf : codeAmong pos ps.toList with
  | none =>
    refine wpAny_genexprCodeX hc hok htab hnf fun c' h' tk hx h1 h2 hcode _ htab' _ => ?_
    refine hQ _ h' tk _ hx (Nat.le_trans h1 (Nat.le_of_lt h2)) htab'.2 ?_
    obtain ⟨_, _, _, _, _, _, _, _, _, _, _, _, _, _, _, _, _, _, _, htr, _⟩ := hcode
    exact htr
  | some cv =>
    obtain ⟨o, vs, file, tf, flags, tg, inF, text, tt, op, ho, hd', h11, h2, h7, h9, h10, hop, hpd, htr, hne⟩ := id hok
    unfold genexprCode codeAt
    rw [hc, if_neg (show ¬ ((Value.ref c == Value.none) = true) from Bool.false_ne_true)]
    refine wpAny_bind (wpAny_fieldsOf ho hd' ?_)
    rw [h11]
    refine wpAny_bind (wpAny_fieldsOf hop hpd ?_)
    rw [hnf]
    exact wpAny_pure (hQ cv s.heap s.toks ps (Heap.ExtBut.refl _ _) (Nat.le_refl _) hP ht)
theorem genexp_hex {env : Env} {c P : Addr} {ps : Array Value} {scope : Scope} {x y : Str} {k : Nat} {p1 p2 p3 p4 px pos : Pos} {m mg : Str → Option Value} {bm : Addr} {ob : Obj} {Q : Value → Shared → Prop}
    (hh : A.handled = none) (hco : scope.isCoroutine = false) (hclos : closureFor scope env = pure []) (hcell : ∀ y ∈ scope.names, y.2 ≠ .cell) (h0 : scope.names.lookup (".0" : Str) = some NameKind.local)
    (hx : scope.names.lookup x = some .local) (hkind : scope.kind = .function) (hroom : A.depth < recursionLimit) (hxd : (x == ("__debug__" : Str)) = false) 
    (hc : env.code = .ref c) (hd : CodeHd s.heap c P) (hP : s.heap.get? P = some (tabObj ps)) (ht : TriplesOk ps.toList) (M : BMod s.heap env.globals mg bm ob) (hlim : s.heap.NoLimit) (G : AllBare s.gens) (hcs : cStatics < s.heap.objs.size)
    (hek : env.scope.kind = .function) (hy : env.kindOf y = some .local) (hyd : (y == ("__debug__" : Str)) = false) (hns : s.heap.Ns env.locals m) (hv : m y = some v)
    (N : News h₀ L s.heap news) (S : SeqB news v os) (ho : Octs os)
    (hQ : ∀ a s₅, HexGen prog w A P s os a s₅ → Q (.ref a) s₅) :
    wpAny (model prog w) A (eval (.GeneratorExp (.BinOp (.Constant (.str "%02x") k p1) .Mod (.Name x p2) p3) [⟨.Name x px, .Name y p4, [], 0⟩] scope pos) env) Q E s := by
  refine wpAny_GeneratorExp_walksQ hh hco hclos hcell h0 hx hkind hroom (wpAny_Name (wpAny_loadName_local hek hy hns hv ?_) hyd) (fun _ => rfl)
  refine seqB_src N S ho hP fun I h₂ fp wr St₀ hk₂ hz₂ W hst hfp hwr hPf => ?_
  have hP₂ := hk₂ _ _ hP
  refine ⟨hlim.keeps hk₂, genexprCode_ hc (hd.keeps hk₂) hP₂ ht fun code h₃ tk₃ ps' hx₃ hge hP₃ ht₃ => ?_⟩
  have hT₂ := (hd.keeps hk₂).tab hP₂
  have M₃ := (M.keeps hk₂).extBut hT₂ hx₃
  have hcP : cStatics ≠ P := fun e => by
    obtain ⟨_, hns, _⟩ := hlim
    obtain ⟨o, es, ep, ho, hd, _⟩ := hns
    rw [e, hP] at ho; cases ho; cases hd
  have hl₃ := (hlim.keeps hk₂).extBut hx₃ hcP
  have hcw : cStatics ∉ wr := fun hm => absurd hcs (Nat.not_lt.mpr (hwr _ hm))
  refine wpAny_builtinsFor M₃.ns M₃.name M₃.ne M₃.obj M₃.cls M₃.dict M₃.data ?_
  refine ⟨I, fp, wr, os.length, ItemP os, St₀, (fun _ => true), (fun i y => ∃ o u, os[i]? = some o ∧ y = .str ⟨(hex2 o).toArray⟩ u), rfl, W, (W A hh).frame _ _ _ hst (fun b hb o e => hx₃ b o (fun e' => hPf (e' ▸ hb)) e), (fun b hb => Nat.lt_of_lt_of_le (hfp b hb) hge), hl₃, hcw, ?_, ?_⟩
  · intro href hhref
    refine ⟨fun A' E' i v s₂ m₂ hA' hPv hn hm _ => ?_, fun A' E' i v s₂ m₂ hA' hPv _ hn hm _ => ?_⟩
    · rw [List.forIn_nil]
      exact wpAny_pure ⟨rfl, _, _, rfl, fun _ _ e => e⟩
    · obtain ⟨o, u, ho1, rfl⟩ := hPv
      obtain ⟨o0, o1⟩ := ho o (List.mem_of_getElem? ho1)
      refine wpAny_BinOp (Calls.Constant_str ?_)
      refine wpAny_Name (wpAny_loadName_local hkind hx hn hm ?_) hxd
      exact mod_hex o0 o1 fun t' k => ⟨⟨o, t', ho1, rfl⟩, _, _, rfl, fun _ _ e => e⟩
  · intro a h₅ tk gs hgb hag hsz₅ hk₅ Wg hat
    rw [passing_all] at Wg
    rw [List.length_range] at Wg
    have Wg' := walksS_map Wg (P' := fun j y => ∃ o u, os[j]? = some o ∧ y = .str ⟨(hex2 o).toArray⟩ u) fun j y hj => by
      obtain ⟨i, h1, h2⟩ := hj
      have : i = j := by
        rw [List.getElem?_range] at h1
        · exact (Option.some.inj h1).symm
        · obtain ⟨hlt, _⟩ := List.getElem?_eq_some_iff.mp h1
          rw [List.length_range] at hlt; exact hlt
      rw [← this]; exact h2
    refine hQ a _ ⟨⟨_, _, _, _, Wg', hat, (fun i s' st => st.1.typeIs), List.mem_cons_self, ?_, ?_⟩, ?_, ⟨ps', hk₅ _ _ hP₃, ht₃⟩, G.push hgb, rfl⟩
    · intro b hb
      show b < h₅.objs.size
      rw [hsz₅]
      rcases List.mem_cons.mp hb with e | hb
      · rw [e]; exact Nat.lt_succ_self _
      · rcases List.mem_cons.mp hb with e | hb
        · rw [e]; exact Nat.lt_succ_of_lt hag
        · exact Nat.lt_succ_of_lt (Nat.lt_trans (List.mem_range.mp hb) hag)
    · have h2 : s.heap.objs.size ≤ h₃.objs.size := Nat.le_trans hz₂ hge
      intro b hb
      rcases List.mem_cons.mp hb with e | hb
      · rw [e]; exact h2
      · exact hwr b hb
    · exact fun b o hb e => hk₅ _ _ (hx₃ b o hb (hk₂ b o e))
theorem join_cps (e : PySem.Str) (he : e.cps = #[]) : ∀ l : List PySem.Str, (Str.join e l).cps.toList = l.flatMap fun x => x.cps.toList
  | [] => rfl
  | [x] => by show x.cps.toList = _; simp
  | x :: y :: r => by
    show (x ++ e ++ Str.join e (y :: r)).cps.toList = _
    rw [PySem.Str.cps_append, PySem.Str.cps_append, he, Array.append_empty, Array.toList_append, join_cps e he (y :: r)]
    rfl
theorem join_text (os : List Int) : Txt.join (PySem.Str.ofString "") (os.map fun o => (⟨(hex2 o).toArray⟩ : PySem.Str)) = ⟨(hexAll os).toArray⟩ := by
  have e : (PySem.Str.ofString "").cps = #[] := by decide +kernel
  have h : Txt.join (PySem.Str.ofString "") (os.map fun o => (⟨(hex2 o).toArray⟩ : PySem.Str)) = Str.join (PySem.Str.ofString "") (os.map fun o => (⟨(hex2 o).toArray⟩ : PySem.Str)) := StrLaws.glued_eq_join _ _
  rw [h]
  have h2 := join_cps _ e (os.map fun o => (⟨(hex2 o).toArray⟩ : PySem.Str))
  rw [List.flatMap_map] at h2
  refine congrArg PySem.Str.mk ?_
  rw [← Array.toArray_toList (xs := (Str.join _ _).cps), h2]
  rfl
theorem join_ok {os : List Int} (hz : os.length ≤ 1000) : JoinOk (PySem.Str.ofString "") (os.map fun o => (⟨(hex2 o).toArray⟩ : PySem.Str)) = true := by
  unfold JoinOk
  rw [StrLaws.joinTotal]
  have e : (PySem.Str.ofString "").length = 0 := by decide +kernel
  rw [e]
  have h2 : ((os.map fun o => (⟨(hex2 o).toArray⟩ : PySem.Str)).map (·.length)).sum = 2 * os.length := by
    induction os with
    | nil => rfl
    | cons o r ih =>
      rw [List.map_cons, List.map_cons, List.sum_cons, ih (by rw [List.length_cons] at hz; omega), List.length_cons]
      show 2 + _ = _
      omega
  rw [h2]
  unfold Builtin.Str.tooLong
  rw [sizeLine_eq]
  simp
  omega
theorem join_hex {P a : Addr} {s₅ : Shared} {t : Tok} {Q : Value → Shared → Prop} (X : HexGen prog w A P s os a s₅) (hz : os.length ≤ 1000) (hP : P < s.heap.objs.size)
    (hQ : ∀ s' t', (∀ b o, b ≠ P → s.heap.get? b = some o → s'.heap.get? b = some o) → (∃ ps', s'.heap.get? P = some (tabObj ps') ∧ TriplesOk ps'.toList) → AllBare s'.gens → s'.os = s.os → Q (.str ⟨(hexAll os).toArray⟩ t') s') :
    wpAny (model prog w) A (call (.builtin "str.join") [.str (PySem.Str.ofString "") t, .ref a]) Q E s₅ := by
  obtain ⟨⟨fp, wr, g, St, W, hst, hT, ha, hfp, hwr⟩, hk, ⟨ps', hP', ht'⟩, G, hos⟩ := X
  have W := W.in4_2
  refine SC.joinGen W hT hst hfp ha (fun j v hv => let ⟨o, u, _, e⟩ := hv; ⟨_, u, e⟩) (fun s' lt hm hacc => ?_) (by rw [sizeLine_eq]; omega)
  have hl : lt.map (·.1) = os.map fun o => (⟨(hex2 o).toArray⟩ : PySem.Str) := by
    apply List.ext_getElem?
    intro j
    have hsz : lt.length = os.length := by simpa [strValues] using hacc.1
    by_cases hj : j < os.length
    · have hj' : j < lt.length := hsz ▸ hj
      obtain ⟨o, u, h1, hv⟩ := hacc.2 j (.str lt[j].1 lt[j].2) (by simp [strValues, List.getElem?_eq_getElem hj'])
      injection hv with h2 _
      rw [List.getElem?_map, List.getElem?_map, List.getElem?_eq_getElem hj', h1]
      exact congrArg some h2
    · rw [List.getElem?_eq_none (by simpa [hsz] using Nat.le_of_not_lt hj), List.getElem?_eq_none (by simpa using Nat.le_of_not_lt hj)]
  rw [hl, join_text]
  refine ⟨join_ok hz, fun t' k => hQ { s' with toks := k } t' (fun b o hb e => hm.heap b o (fun hw => ?_) (hk b o hb e)) ⟨ps', hm.heap _ _ (fun hw => ?_) hP', ht'⟩ (G.moved hm.gens) (hm.os.trans hos)⟩
  · have := hwr b hw
    exact absurd (Heap.lt_size e) (Nat.not_lt.mpr this)
  · exact absurd hP (Nat.not_lt.mpr (hwr P hw))
end
end Fq
end
section
/-! FqL -/
open PySem PySem.W PySem.Calls PySem.Spec PyProof.Rows
namespace Fq
/-- the call of a def of the text in clean contexts, where the ledger holds the table of varint_unpack's code at its foot -/
abbrev ConC (k : Nat) (f : Addr) (vs : List Value) (news : List (Addr × Obj)) (P : Addr) (pre : Prop) (ret : Heap → List Env → Heap → Addr → (Str → Option Value) → Shared → (Value → Shared → Prop) → (Value → Shared → Prop) → Prop) : Prop :=
  ∀ (prog : Program), prog = PySem.Challenge.rw_fq5007_01.prog → ∀ (w : World) (p : Program) (loose : List Str) (mean : ExcName → Option Value) (mg mb : Str → Option Value)
    (dp un : Nat) (gd : Option (List Code)) (cn : Str) (cs : Scope) (a : Addr) (ccd : Value) (cl : List (Str × Addr)) (outer : List Env) (A₀ : Around) (base h₀ : Heap) (L : Addr) (m : Str → Option Value) (s : Shared) (Q E : Value → Shared → Prop) (ps : Array Value),
    Below A₀ base outer h₀ → Fr h₀ L s.heap m → (Fq.hd.heap_39 w.params).In h₀ → News h₀ L s.heap (news ++ [(P, tabObj ps)]) → Top p loose mean mg mb h₀ → cs.kind = .function → CodeHd h₀ 20 P → TriplesOk ps.toList → AllBare s.gens → (∀ q ∈ news, q.1 ≠ P) →
    pre → dp + k < recursionLimit → un + 20 * k < cLine → ret base (envX cn cs L a ccd cl :: outer) h₀ L m s Q E →
      wpC (model prog w) (ktrTop dp un gd cn cs L a ccd cl outer) (call (.ref f) vs) Q E s
def RetC (R : Tok → Value) (news : List (Addr × Obj)) (P : Addr) : Heap → List Env → Heap → Addr → (Str → Option Value) → Shared → (Value → Shared → Prop) → (Value → Shared → Prop) → Prop := fun _ _ h₀ L m s Q _ =>
  ∀ (t : Tok) (s' : Shared) (ps' : Array Value), Fr h₀ L s'.heap m → News h₀ L s'.heap (news ++ [(P, tabObj ps')]) → TriplesOk ps'.toList → AllBare s'.gens → s'.os = s.os → Q (R t) s'
def RaisesC (cls : String) (news : List (Addr × Obj)) (P : Addr) : Heap → List Env → Heap → Addr → (Str → Option Value) → Shared → (Value → Shared → Prop) → (Value → Shared → Prop) → Prop := fun base fs h₀ L m s _ E =>
  ∀ (e : Addr) (g : Heap) (s' : Shared) (ps' : Array Value), Fr h₀ L g m → RaisedN base fs e (.type cls) (news ++ [(P, tabObj ps')]) s'.heap → g.UpToSlots s'.heap → TriplesOk ps'.toList → AllBare s'.gens → s'.os = s.os → E (.ref e) s'
theorem RetC.int {news : List (Addr × Obj)} {P : Addr} {base : Heap} {fs : List Env} {h₀ : Heap} {L : Addr} {m : Str → Option Value} {s : Shared} {Q E : Value → Shared → Prop} {x y : Int} (h : RetC (fun t => .int x t) news P base fs h₀ L m s Q E) (e : y = x) {t : Tok} {s' : Shared} {ps' : Array Value}
    (F : Fr h₀ L s'.heap m) (N : News h₀ L s'.heap (news ++ [(P, tabObj ps')])) (ht : TriplesOk ps'.toList) (G : AllBare s'.gens) (o : s'.os = s.os) : Q (.int y t) s' := e ▸ h t s' ps' F N ht G o
theorem shift_bytes (a : Int) (n : Nat) : a - 1 * 2 ^ ((n : Int) * 8).toNat = a - 256 ^ n := by
  have e : ((n : Int) * 8).toNat = 8 * n := by omega
  rw [e, Int.pow_mul, Int.one_mul]
  rfl
theorem Fr_but {g h h' : Heap} {L P : Addr} {m : Str → Option Value} (F : Fr g L h m) (hk : ∀ b o, b ≠ P → h.get? b = some o → h'.get? b = some o) (hP : g.get? P = none) (hne : P ≠ L) : Fr g L h' m := by
  obtain ⟨oL, a1, a2, hL, a3⟩ := F.ns
  refine ⟨⟨oL, a1, a2, hk _ _ (Ne.symm hne) hL, a3⟩, fun b o e => hk b o (fun q => ?_) (F.keep b o e), F.above⟩
  rw [q, hP] at e; cases e
theorem News_but {g h h' : Heap} {L P : Addr} {x y : Obj} {news : List (Addr × Obj)} (N : News g L h (news ++ [(P, x)])) (hk : ∀ b o, b ≠ P → h.get? b = some o → h'.get? b = some o) (hn : ∀ q ∈ news, q.1 ≠ P) (hP : h'.get? P = some y) : News g L h' (news ++ [(P, y)]) := fun q hq => by
  rcases List.mem_append.mp hq with hq | hq
  · have := N q (List.mem_append_left _ hq)
    exact ⟨hk _ _ (hn q hq) this.1, this.2.1, this.2.2⟩
  · rw [List.mem_singleton.mp hq]
    have := N (P, x) (List.mem_append_right _ (List.mem_singleton_self _))
    exact ⟨hP, this.2.1, this.2.2⟩
theorem topBit128 : ∀ b : Fin 256, Builtin.bitAnd (b.1 : Int) 128 = 0 ↔ (b.1 : Int) < 128 := by decide +kernel
theorem var_pos {os : List Int} (ho : Octs os) (hne : 0 < os.length) : Builtin.bitAnd (os.getD 0 0) 128 = 0 ↔ os.getD 0 0 < 128 := by
  have hm : os.getD 0 0 ∈ os := by
    rw [List.getD_eq_getElem?_getD, List.getElem?_eq_getElem hne]; exact List.getElem_mem hne
  obtain ⟨a, b⟩ := ho _ hm
  generalize os.getD 0 0 = o at a b ⊢
  obtain ⟨n, rfl⟩ := Int.eq_ofNat_of_zero_le a
  exact topBit128 ⟨n, by omega⟩
theorem var_c (v : Value) (os : List Int) (news : List (Addr × Obj)) (P : Addr) : ConC 4 21 [v] news P (SeqB news v os ∧ Octs os ∧ os.length ≤ 6 ∧ 0 < os.length) (RetC (fun t => .int (lawValue os) t) news P) := by
  unfold ConC
  k_fill
  intro prog hprog w p loose mean mg mb dp un gd cn cs a ccd cl outer A₀ base h₀ L m s Q E ps B F X N T hk hcd htr hG hnP hpre hd hu hret
  obtain ⟨hS, hO, hz, hne⟩ := hpre
  refine wpC_call ?_
  k_dflt ((refine' codeC_def ?k1 ?k2 ?k3 ?k4 ?k5 ?kA ?kF ?kK ?k6 ?k7 ?k8 ?k9 ?kB ?_ ?c2 ?c3 ?c4 ?c5; (case kA => exact rfl); (case kF => exact rfl); (case kK => assumption); (case k1 => k_asm); (case k2 => k_asm); (case k3 => k_asm); (case k4 => k_asm); (case k5 => k_asm); (case k6 => k_is); (case k7 => k_is); (case k8 => ktr_room); (case k9 => exact BindsTo.of_eq rfl); (case c5 => decide); (case kB => exact locs rfl); (case c2 => exact rfl); (case c3 => exact rfl); (case c4 => exact rfl); intro g' L' h' FG' F' N' B' X' T'; (try dsimp only); (try k_lift B'); (try k_fold)))
  rename Top _ _ _ _ _ _ => T1
  rename (Frag.In _ _) => X1
  rename Below _ _ _ _ => B1
  rename News _ _ _ _ => N1
  rename Fr _ _ _ _ => F1
  rename Fr h₀ L _ m => FG1
  obtain ⟨bm, ob, M1⟩ := bmod_of_top T1
  have hlim := T1.nolimit.keeps F1.keep
  have hcs : cStatics < _ := let ⟨_, hn, _⟩ := hlim; hn.lt
  have hd1 := (hcd.keeps FG1.keep).keeps F1.keep
  have hP := (N1 _ (List.mem_append_right _ (List.mem_singleton_self _))).1
  have hS1 := hS.mono (news' := news ++ [(P, tabObj ps)]) fun p hp => List.mem_append_left _ hp
  k_with_none
  k_with "eval GeneratorExp" => (refine genexp_hex (A := _) rfl rfl rfl (by decide) rfl rfl rfl (by ktr_room) (by decide) rfl hd1 hP htr (M1.keeps F1.keep) hlim hG hcs rfl rfl (by decide) F1.ns rfl N1 hS1 hO ?_; intro a5 s5 X5)
  k_with "call builtin:str.join" => (refine join_hex X5 (by omega) (Heap.lt_size hP) ?_; intro s6 t6 k6 hP6 hG6 ho6)
  refine wpC_execs_cons (wpC_Assign (wpC_Call ?_))
  k_steps
  refine wpC_callWith_type rfl (wpC_args ?_)
  k_steps
  refine int_hex hO (by intro e; rw [e] at hne; exact absurd hne (by decide)) (by omega) ?_
  intro t7 tk7
  obtain ⟨ps', hP7, ht7⟩ := hP6
  have F6 := Fr_but F1 k6 (N1 _ (List.mem_append_right _ (List.mem_singleton_self _))).2.2 (N1 _ (List.mem_append_right _ (List.mem_singleton_self _))).2.1
  have N6 := News_but N1 k6 hnP hP7
  have hS6 := hS.mono (news' := news ++ [(P, tabObj ps')]) fun p hp => List.mem_append_left _ hp
  have hb6 := be_bound (os := os) hO (a := 0) (k := 0) (Int.le_refl _) (by decide)
  have hp6 := pow256_le (l := 0 + os.length) (by omega)
  clear hcs hd1 hP
  k_with "subscriptTail" => ((rename News _ _ _ _ => lN9); refine seqB_itemS lN9 hS6 (fun _ h => h) hO (by omega) (by omega) (by omega) ?_ (by with_unfolding_all rfl); intro _ _)
  k_with "call builtin:len" => ((rename News _ _ _ _ => lN9); refine seqB_len lN9 hS6 (by omega) ?_; intro _ _)
  have hb7 : 0 ≤ be 0 os ∧ be 0 os < 281474976710656 := ⟨hb6.1, by omega⟩
  k_steps
  refine wpC_any ?_
  k_steps
  · (rename Builtin.bitAnd _ _ ≠ 0 => h9)
    refine hret.int ?_ (by k_asm) (by k_asm) ht7 hG6 ho6
    have := mt (var_pos hO hne).mpr h9
    unfold lawValue
    rw [if_pos (by omega), shift_bytes]
  · (rename Builtin.bitAnd _ _ = 0 => h9)
    refine hret.int ?_ (by k_asm) (by k_asm) ht7 hG6 ho6
    have := (var_pos hO hne).mp h9
    unfold lawValue
    rw [if_neg (by omega)]
theorem var_no (v : Value) (os : List Int) (news : List (Addr × Obj)) (P : Addr) : ConC 4 21 [v] news P (SeqB news v os ∧ Octs os ∧ os = []) (RaisesC "ValueError" news P) := by
  unfold ConC
  k_fill
  intro prog hprog w p loose mean mg mb dp un gd cn cs a ccd cl outer A₀ base h₀ L m s Q E ps B F X N T hk hcd htr hG hnP hpre hd hu hret
  obtain ⟨hS, hO, he0⟩ := hpre
  have hz : os.length ≤ 6 := by rw [he0]; decide
  refine wpC_call ?_
  k_dflt ((refine' codeC_def ?k1 ?k2 ?k3 ?k4 ?k5 ?kA ?kF ?kK ?k6 ?k7 ?k8 ?k9 ?kB ?_ ?c2 ?c3 ?c4 ?c5; (case kA => exact rfl); (case kF => exact rfl); (case kK => assumption); (case k1 => k_asm); (case k2 => k_asm); (case k3 => k_asm); (case k4 => k_asm); (case k5 => k_asm); (case k6 => k_is); (case k7 => k_is); (case k8 => ktr_room); (case k9 => exact BindsTo.of_eq rfl); (case c5 => decide); (case kB => exact locs rfl); (case c2 => exact rfl); (case c3 => exact rfl); (case c4 => exact rfl); intro g' L' h' FG' F' N' B' X' T'; (try dsimp only); (try k_lift B'); (try k_fold)))
  rename Top _ _ _ _ _ _ => T1
  rename (Frag.In _ _) => X1
  rename Below _ _ _ _ => B1
  rename News _ _ _ _ => N1
  rename Fr _ _ _ _ => F1
  rename Fr h₀ L _ m => FG1
  obtain ⟨bm, ob, M1⟩ := bmod_of_top T1
  have hlim := T1.nolimit.keeps F1.keep
  have hcs : cStatics < _ := let ⟨_, hn, _⟩ := hlim; hn.lt
  have hd1 := (hcd.keeps FG1.keep).keeps F1.keep
  have hP := (N1 _ (List.mem_append_right _ (List.mem_singleton_self _))).1
  have hS1 := hS.mono (news' := news ++ [(P, tabObj ps)]) fun p hp => List.mem_append_left _ hp
  k_with_none
  k_with "eval GeneratorExp" => (refine genexp_hex (A := _) rfl rfl rfl (by decide) rfl rfl rfl (by ktr_room) (by decide) rfl hd1 hP htr (M1.keeps F1.keep) hlim hG hcs rfl rfl (by decide) F1.ns rfl N1 hS1 hO ?_; intro a5 s5 X5)
  k_with "call builtin:str.join" => (refine join_hex X5 (by omega) (Heap.lt_size hP) ?_; intro s6 t6 k6 hP6 hG6 ho6)
  refine wpC_execs_cons (wpC_Assign (wpC_Call ?_))
  k_steps
  refine wpC_callWith_type rfl (wpC_args ?_)
  k_steps
  have e0 : (hexAll os).toArray = #[] := by rw [he0]; rfl
  rw [e0]
  refine int_none rfl ?_
  intro h7 tk7 e7 x7
  obtain ⟨ps', hP7, ht7⟩ := hP6
  have F6 := Fr_but F1 k6 (N1 _ (List.mem_append_right _ (List.mem_singleton_self _))).2.2 (N1 _ (List.mem_append_right _ (List.mem_singleton_self _))).2.1
  have N6 := News_but N1 k6 hnP hP7
  clear hcs hd1 hP
  k_steps
  exact hret e7 _ _ ps' FG1 (by assumption) (by assumption) ht7 hG6 ho6
end Fq
end
section
/-! FqU -/
open PySem PySem.W PySem.Calls PySem.Spec PyProof.Rows
namespace Fq
/-- the call of a def of the text in clean contexts -/
abbrev ConD (k : Nat) (f : Addr) (vs : List Value) (news : List (Addr × Obj)) (pre : Prop) (ret : Told1) : Prop :=
  ∀ (prog : Program), prog = PySem.Challenge.rw_fq5007_01.prog → ∀ (w : World) (p : Program) (loose : List Str) (mean : ExcName → Option Value) (mg mb : Str → Option Value)
    (dp un : Nat) (gd : Option (List Code)) (cn : Str) (cs : Scope) (a : Addr) (ccd : Value) (cl : List (Str × Addr)) (outer : List Env) (A₀ : Around) (base h₀ : Heap) (L : Addr) (m : Str → Option Value) (s : Shared) (Q E : Value → Shared → Prop),
    Below A₀ base outer h₀ → Fr h₀ L s.heap m → (Fq.hd.heap_39 w.params).In h₀ → News h₀ L s.heap news → Top p loose mean mg mb h₀ → cs.kind = .function →
    pre → dp + k < recursionLimit → un + 20 * k < cLine → ret base (envX cn cs L a ccd cl :: outer) h₀ L m s Q E →
      wpC (model prog w) (ktrTop dp un gd cn cs L a ccd cl outer) (call (.ref f) vs) Q E s
theorem wpC_args0 {M : Model} {A : Around} {E : Value → Shared → Prop} {s : Shared} {env : Env} {f : Value} {pos : Pos} {Q : Args → Shared → Prop} (h : Q ⟨[], []⟩ s) : wpAny M A (evalArgs f true (backTo pos (starEach [] env)) []) Q E s := by
  exact PySem.evalArgs_none h
theorem plainAttrs_ba : PlainAttrs "bytearray" :=
  ⟨⟨"bytearray.__getattribute__", by rw [typeLookup_type, builtinLookup_eq_fast]; kernel_rfl, by decide +kernel⟩, by rw [typeLookup_type, builtinLookup_eq_fast]; kernel_rfl⟩
theorem ty_append : typeOf (.builtin "bytearray.append") = pure (.type "method_descriptor") := by show builtinType _ = _; rw [builtinType_eq_fast]; kernel_rfl
theorem ty_reverse : typeOf (.builtin "bytearray.reverse") = pure (.type "method_descriptor") := by show builtinType _ = _; rw [builtinType_eq_fast]; kernel_rfl
section
variable {prog : Program} {w : World} {A : Around} {E : Value → Shared → Prop} {s : Shared} {h₀ : Heap} {L : Addr} {news : List (Addr × Obj)} {b : Addr} {x : Array UInt8}
theorem baMethod {name : PySem.Str} {id : String} {pl : Sem Bool} {Q : Value × List Value → Shared → Prop} (N : News h₀ L s.heap ((b, BA.baObj x) :: news)) (slot : Slot "bytearray" name id) (hty : typeOf (.builtin id) = pure (.type "method_descriptor"))
    (h : Q (.builtin id, [.ref b]) s) : wpAny (model prog w) A (getMethod (.ref b) name pl) Q E s :=
  getMethod_builtin ⟨_, (N _ (.head _)).1, rfl⟩ plainAttrs_ba slot hty (fun a e => by cases e; exact ⟨_, (N _ (.head _)).1, rfl⟩) h
end
theorem one_rev (n : Int) : (#[].push n.toNat.toUInt8 : Array UInt8).reverse = byteArr [n] := by simp [byteArr]
theorem News_tail {h₀ h : Heap} {L : Addr} {x : Addr × Obj} {news : List (Addr × Obj)} (N : News h₀ L h (x :: news)) : News h₀ L h news := fun q hq => N q (List.Mem.tail _ hq)
theorem upack_c (n : Int) (t : Tok) (news : List (Addr × Obj)) : ConD 4 61 [.int n t] news (0 ≤ n ∧ n < 128) (Ret (fun t => .bytes (byteArr [n]) t) news) := by
  unfold ConD
  k_fill
  intro prog hprog w p loose mean mg mb dp un gd cn cs a ccd cl outer A₀ base h₀ L m s Q E B F X N T hk hpre hd hu hret
  obtain ⟨hn0, hn1⟩ := hpre
  refine wpC_call ?_
  k_dflt ((refine' codeC_def ?k1 ?k2 ?k3 ?k4 ?k5 ?kA ?kF ?kK ?k6 ?k7 ?k8 ?k9 ?kB ?_ ?c2 ?c3 ?c4 ?c5; (case kA => exact rfl); (case kF => exact rfl); (case kK => assumption); (case k1 => k_asm); (case k2 => k_asm); (case k3 => k_asm); (case k4 => k_asm); (case k5 => k_asm); (case k6 => k_is); (case k7 => k_is); (case k8 => ktr_room); (case k9 => exact BindsTo.of_eq rfl); (case c5 => decide); (case kB => exact locs rfl); (case c2 => exact rfl); (case c3 => exact rfl); (case c4 => exact rfl); intro g' L' h' FG' F' N' B' X' T'; (try dsimp only); (try k_lift B'); (try k_fold)))
  k_with_none
  refine wpC_execs_cons (wpC_Assign (wpC_Call ?_))
  k_steps
  refine wpC_callWith_type rfl (wpC_args0 ?_)
  refine BA.make_0 (by k_asm) (by k_asm) ?_
  intro b1 h1 F1 N1 hl1
  k_steps
  refine wpC_execs_cons (wpC_If ?_)
  refine wpC_any ?_
  k_steps
  k_with "getMethod ref" => ((rename News _ _ _ ((_, BA.baObj _) :: _) => lN9); first | refine baMethod lN9 BA.slot_append ty_append ?_ | refine baMethod lN9 BA.slot_reverse ty_reverse ?_)
  refine wpC_execs_cons (wpC_Expr (wpC_MethodCall ?_))
  k_steps
  refine wpC_callWith_builtin rfl (wpC_args ?_)
  k_steps
  (rename News _ _ _ ((_, BA.baObj _) :: _) => lN9)
  refine BA.append_N (by k_asm) lN9 (fun p hp => Nat.ne_of_lt (hl1 p hp)) hn0 (by omega) (by rw [sizeLine_eq]; decide) ?_
  intro h2 F2 N2
  dsimp only
  refine wpC_execs_nil ?_
  dsimp only
  refine wpC_any ?_
  k_with "call builtin:bytearray.reverse" => ((rename News _ _ _ ((_, BA.baObj _) :: _) => lN9); (refine BA.reverse_N (by k_asm) lN9 (fun p hp => Nat.ne_of_lt (hl1 p hp)) (by rw [sizeLine_eq]; show 1 ≤ _; decide) ?_); intro _ _ _)
  k_with "call type:bytes" => ((rename News _ _ _ ((_, BA.baObj _) :: _) => lN9); (refine BA.bytes_of (lN9 _ (.head _)).1 (by rw [sizeLine_eq, Array.size_reverse]; show 1 ≤ _; decide) ?_); intro _ _)
  k_steps
  rw [one_rev]
  exact hret _ _ _ (by k_asm) (News_tail (by k_asm))
theorem upack_no (n : Int) (t : Tok) (news : List (Addr × Obj)) : ConD 4 61 [.int n t] news (n < 0) (Raises "ValueError" news) := by
  unfold ConD
  k_fill
  intro prog hprog w p loose mean mg mb dp un gd cn cs a ccd cl outer A₀ base h₀ L m s Q E B F X N T hk hpre hd hu hret
  have hn0 := hpre
  refine wpC_call ?_
  k_dflt ((refine' codeC_def ?k1 ?k2 ?k3 ?k4 ?k5 ?kA ?kF ?kK ?k6 ?k7 ?k8 ?k9 ?kB ?_ ?c2 ?c3 ?c4 ?c5; (case kA => exact rfl); (case kF => exact rfl); (case kK => assumption); (case k1 => k_asm); (case k2 => k_asm); (case k3 => k_asm); (case k4 => k_asm); (case k5 => k_asm); (case k6 => k_is); (case k7 => k_is); (case k8 => ktr_room); (case k9 => exact BindsTo.of_eq rfl); (case c5 => decide); (case kB => exact locs rfl); (case c2 => exact rfl); (case c3 => exact rfl); (case c4 => exact rfl); intro g' L' h' FG' F' N' B' X' T'; (try dsimp only); (try k_lift B'); (try k_fold)))
  k_with_none
  refine wpC_execs_cons (wpC_Assign (wpC_Call ?_))
  k_steps
  refine wpC_callWith_type rfl (wpC_args0 ?_)
  refine BA.make_0 (by k_asm) (by k_asm) ?_
  intro b1 h1 F1 N1 hl1
  k_steps
  refine wpC_execs_cons (wpC_If ?_)
  refine wpC_any ?_
  k_steps
  k_with "getMethod ref" => ((rename News _ _ _ ((_, BA.baObj _) :: _) => lN9); first | refine baMethod lN9 BA.slot_append ty_append ?_ | refine baMethod lN9 BA.slot_reverse ty_reverse ?_)
  refine wpC_execs_cons (wpC_Expr (wpC_MethodCall ?_))
  k_steps
  refine wpC_callWith_builtin rfl (wpC_args ?_)
  k_steps
  (rename News _ _ _ ((_, BA.baObj _) :: _) => lN9)
  refine wpC_any (BA.append_bad rfl (lN9 _ (.head _)).1 hn0 ?_)
  intro h7 tk7 e7 x7
  k_steps
  exact hret.of (fun _ h => List.mem_cons_of_mem _ h) (by assumption) (by assumption) (by assumption)
end Fq
end
section
/-! FqY -/
open PySem PySem.W PySem.Calls PySem.Spec PyProof.Rows
namespace Fq
/-! a refusal within an inlined comprehension -/
section
variable {M : Model} {A : Around} {E : Value → Shared → Prop} {s' : Shared} {base g h : Heap} {outer : List Env} {L a e C : Addr} {m mC : Str → Option Value} {name : Str} {scope : Scope} {cd : Value} {news : List (Addr × Obj)} {cenv : Env}
/-- the exception held in the function's own frame, the comprehension's dict beside it -/
def HeldC (base : Heap) (outer : List Env) (env : Env) (g : Heap) (L e C : Addr) (cls : Value) (news : List (Addr × Obj)) (h : Heap) : Prop :=
  ∃ B a0, Heap.HeldW B (env :: outer) e cls a0 L h ∧ base.StaysIn B ∧ B.get? C = none ∧ (∀ q ∈ news, B.get? q.1 = some q.2 ∧ base.get? q.1 = none) ∧ g.UpToSlots h ∧ (∃ mC, h.Ns C mC)
theorem frameOf_same {env : Env} (hf : cenv.frame = env.frame) : PySem.frameOf cenv = PySem.frameOf env := by unfold PySem.frameOf; rw [hf]
theorem comp_held {cls : String} (K : Below A base outer g) (hx : Heap.NewExc h s'.heap e cls) (F : Fr g L h m) (N : News g L h news) (hC₀ : g.get? C = none) (hCL : C ≠ L) (hCn : ∀ q ∈ news, q.1 ≠ C) (hC : h.Ns C mC)
    (hfrm : cenv.frame = some L) (hk : scope.kind = .function := by rfl) {Q : Unit → Shared → Prop}
    (hQ : ∀ h₁, HeldC base outer (envOf name scope L a cd) g L e C (.type cls) news h₁ → Q () { s' with heap := h₁ }) :
    wpAny M (A.deeper (envOf name scope L a cd)) (noteFrame (.ref e) cenv) Q E s' := by
  have K' := K.push (name := name) (a := a) (cd := cd) F hk
  have hin : ∀ env ∈ (envOf name scope L a cd :: outer), ∀ b, env.frame = some b → b ∈ C :: (envOf name scope L a cd :: outer).filterMap (·.frame) := fun env he b hb => List.mem_cons_of_mem _ (List.mem_filterMap.mpr ⟨env, he, hb⟩)
  have hbC : base.get? C = none := fresh_of_stays K.stays hC₀
  have st : base.StaysIn (hideAll h (C :: (envOf name scope L a cd :: outer).filterMap (·.frame))) := fun b o q => hideAll_get _ (K'.stays b o q) fun hm => by
    rcases List.mem_cons.mp hm with e1 | hm
    · rw [e1, hbC] at q; cases q
    · rw [(K'.frames.mem hm).1] at q; cases q
  have hl : ∀ q ∈ news, (hideAll h (C :: (envOf name scope L a cd :: outer).filterMap (·.frame))).get? q.1 = some q.2 ∧ base.get? q.1 = none := fun q hq => by
    refine ⟨hideAll_get _ (N q hq).1 fun hm => ?_, fresh_of_stays K.stays (N q hq).2.2⟩
    rcases List.mem_cons.mp hm with e1 | hm
    · exact hCn q hq e1
    · obtain ⟨env, he, hf⟩ := List.mem_filterMap.mp hm
      rcases List.mem_cons.mp he with rfl | he
      · exact (N q hq).2.1 (Option.some.inj hf).symm
      · obtain ⟨o, ho, _⟩ := (K.frames.mem (List.mem_filterMap.mpr ⟨env, he, hf⟩)).2
        rw [(N q hq).2.2] at ho; cases ho
  obtain ⟨ob, tp, he, hcls, hd⟩ := hx.there
  have hen : (hideAll h (C :: (envOf name scope L a cd :: outer).filterMap (·.frame))).get? e = none := by
    cases q : (hideAll h (C :: (envOf name scope L a cd :: outer).filterMap (·.frame))).get? e with
    | none => rfl
    | some o => have := of_hideAll _ q; rw [hx.new] at this; cases this
  have hBC : (hideAll h (C :: (envOf name scope L a cd :: outer).filterMap (·.frame))).get? C = none := hideAll_none _ List.mem_cons_self
  have hFF : s'.heap.FunFrames (hideAll h (C :: (envOf name scope L a cd :: outer).filterMap (·.frame))) (envOf name scope L a cd :: outer) := (funFrames_hide K'.frames hin).of_keeps fun b o hb _ => ⟨o, hx.keeps b o hb, rfl⟩
  unfold noteFrame
  simp only [hfrm]
  have h1 : (#[tp, Value.none, .none, .none, .bool false, .none] : Array Value)[1]? = some .none := rfl
  refine wpAny_bind (wpAny_field he hd h1 ?_)
  rw [if_neg (by decide)]
  rw [frameOf_same (env := envOf name scope L a cd) hfrm]
  refine wpAny_entryW (a0 := tp) K'.stack hFF rfl he (fun b o hb => hx.keeps b o (of_hideAll _ hb)) hen hd (by show 1 < 6; decide) rfl fun h' hN => ?_
  obtain ⟨k1, k2, k3, k4⟩ := hN
  have up : g.UpToSlots h' := ((Heap.UpToSlots.of_keeps F.keep).trans (Heap.UpToSlots.of_keeps hx.keeps)).trans k4
  have upC : h.UpToSlots h' := (Heap.UpToSlots.of_keeps hx.keeps).trans k4
  exact hQ h' ⟨_, tp, ⟨k1, hen, k2, by rw [← hcls]; exact k3⟩, st, hBC, hl, up, _, upC.ns hC⟩
theorem HeldC.same {env : Env} {cls : Value} {h₁ h' : Heap} (X : HeldC base outer env g L e C cls news h₁) (hs : Heap.SameBut C h₁ h') (hfr : ∀ b ∈ (env :: outer).filterMap (·.frame), b ≠ C) (hC₀ : g.get? C = none) (hn' : ∃ mC, h'.Ns C mC) : HeldC base outer env g L e C cls news h' := by
  obtain ⟨B, a0, ⟨f1, f2, f3, f4⟩, st, hBC, hl, up, mC, hns⟩ := X
  have notC : ∀ b o vs, h₁.get? b = some o → o.data = .fields vs → b ≠ C := fun b o vs hb hd q => by
    obtain ⟨oC, es, ep, hoC, hdC, _⟩ := hns
    rw [q, hoC] at hb; cases hb; rw [hd] at hdC; cases hdC
  refine ⟨B, a0, ⟨fun b o hb => (hs.2 b fun q => by rw [q, hBC] at hb; cases hb).trans (f1 b o hb), f2, ?_, ?_⟩, st, hBC, hl, ?_, hn'⟩
  · have go : ∀ l : List Env, (∀ b ∈ l.filterMap (·.frame), b ≠ C) → h₁.FunFrames B l → h'.FunFrames B l := by
      intro l
      induction l with
      | nil => intro _ _; trivial
      | cons v r ih =>
        intro hl' hF
        obtain ⟨x1, ⟨L', o, x2, x3, x4, x5⟩, x6⟩ := hF
        refine ⟨x1, ⟨L', o, x2, x3, (hs.2 L' (hl' L' (List.mem_filterMap.mpr ⟨v, List.mem_cons_self, x2⟩))).trans x4, x5⟩, ih (fun b hb => hl' b ?_) x6⟩
        obtain ⟨v', hv', hf'⟩ := List.mem_filterMap.mp hb
        exact List.mem_filterMap.mpr ⟨v', List.mem_cons_of_mem _ hv', hf'⟩
    exact go _ hfr f3
  · obtain ⟨oe, vs, T, oT, ts, he, hcls, hd, h1, hnT, hTe, hT, hdT, h3⟩ := f4
    exact ⟨oe, vs, T, oT, ts, (hs.2 e (notC e oe vs he hd)).trans he, hcls, hd, h1, hnT, hTe, (hs.2 T (notC T oT ts hT hdT)).trans hT, hdT, h3⟩
  · intro b o hb hnf
    obtain ⟨sl, hsl⟩ := up b o hb hnf
    exact ⟨sl, (hs.2 b fun q => by rw [q, hC₀] at hb; cases hb).trans hsl⟩
/-- it passes on out of the comprehension, and leaves the function -/
theorem HeldC.pass {α : Type} {A₂ : Around} {cls : Value} {what : String} {Q : Unit → Shared → Prop} {E₁ Ex : Value → Shared → Prop} (X : HeldC base outer (envOf name scope L a cd) g L e C cls news s'.heap) (hfrm : cenv.frame = some L)
    (hEx : wpAny M (A.deeper (envOf name scope L a cd)) (leaving (envOf name scope L a cd) (.ref e)) Q E₁ s' → Ex (.ref e) s') (hQ : ∀ h', RaisedN base outer e cls news h' → g.UpToSlots h' → Q () { s' with heap := h' }) :
    wpAny M A₂ (PySem.passOn what (.ref e) cenv : Sem α) (fun _ _ => False) Ex s' := by
  obtain ⟨B, a0, hH, st, hBC, hl, up, mC, hns⟩ := X
  obtain ⟨f1, f2, f3, f4⟩ := id hH
  obtain ⟨oe, vs, T, oT, ts, he, hcls, hd, h1, hnT, hTe, hT, hdT, h3⟩ := id f4
  unfold PySem.passOn
  refine wpAny_bind (wpAny_field he hd h1 ?_)
  rw [if_neg (show ¬ ((Value.ref T == Value.none) = true) from by simp)]
  refine wpAny_bind ?_
  unfold setFlight
  refine wpAny_bind (wpAny_field he hd h1 ?_)
  rw [if_pos (show (Value.ref T != Value.none) = true from by simp), hfrm]
  show wpAny M A₂ (setField (.ref T) 3 (rawInt L)) _ _ _
  refine wpAny_setField hT hdT (Array.getElem?_eq_some_iff.mp h3).1 ?_
  rw [Heap.update_setField_same s'.heap T oT ts 3 (rawInt L) hT hdT h3]
  refine wpAny_throw (hEx ?_)
  unfold leaving
  refine wpAny_bind (wpAny_noteFrame_againW (L := L) rfl hH.2.2.2 ?_)
  refine wpAny_landsW hH fun h' hfl up2 => ?_
  obtain ⟨k1, k2, ⟨_, _, k3⟩, k4⟩ := hfl
  exact hQ h' ⟨B, a0, st, hl, ⟨k1, k2, k3, k4⟩⟩ (up.trans up2)
end
end Fq
end
section
/-! FqZ -/
open PySem PySem.W PySem.Calls PySem.Spec PyProof.Rows
namespace Fq
section
variable {M : Model} {A : Around} {E : Value → Shared → Prop} {s : Shared} {env : Env}
def compPostC (M : Model) (A : Around) (E : Value → Shared → Prop) (Q : Value → Shared → Prop) (acc : Value) (cenv : Env) (r : Result) (s' : Shared) : Prop :=
  match r with
  | .ok _ => ∃ m, s'.heap.Ns cenv.locals m ∧ ∀ h', Heap.SameBut cenv.locals s'.heap h' → Q acc { s' with heap := h' }
  | .error x => ∃ m, s'.heap.Ns cenv.locals m ∧ ∀ h' m', h'.Ns cenv.locals m' → Heap.SameBut cenv.locals s'.heap h' → wpAny M A (PySem.passOn "comprehension.variables-let-go" x cenv : Sem Value) (fun _ _ => False) E { s' with heap := h' }
theorem wpC_comprehension {e : Expr} {scope : Scope} {pos : Pos} {newAcc first : Sem Value} {g : Comprehension} {gs : List Comprehension} {cl : List (Str × Addr)} {Q : Value → Shared → Prop}
    (hcl : clausesOf e = g :: gs) (hs : ∀ x, foldedSetIterable g.iter env x = pure x) (hclos : closureFor scope env = pure cl)
    (hkind : scope.kind = .function) (hnames : ∀ x ∈ scope.names, x.2 = .local → scope.names.lookup x.1 = some .local)
    (h : wpAny M A first (fun x s₁ => wpAny M A (pyIter x) (fun it s₂ => wpAny M A newAcc (fun acc s₃ =>
      wpAny M A (newFunctionEnv scope env.globals cl [] env.qual none .none (some env)) (fun cenv s₄ =>
        codeC M A (.compStart e 0 it acc { cenv with scope := relabel scope env }) (compPostC M A E Q acc { cenv with scope := relabel scope env }) s₄) E s₃) E s₂) E s₁) E s) :
    wpC M A (comprehension e scope env pos newAcc false first none) Q E s := by
  unfold comprehension
  rw [hclos, hcl]
  refine wpC_leaf (wpAny_mono h (fun x s₁ h₁ => wpC_at (wpC_bind (wpC_of_eq (hs x) (wpC_leaf (wpAny_holding (wpAny_mono h₁ (fun it s₂ h₂ => ?_) fun _ _ h' => h')))))) fun _ _ h' => h')
  show wpC M A (newAcc >>= _) Q E s₂
  refine wpC_leaf (wpAny_mono h₂ (fun acc s₃ h₃ => wpC_bind (wpC_pure (wpC_leaf (wpAny_mono h₃ (fun cenv s₄ h₄ => ?_) fun _ _ h' => h')))) fun _ _ h' => h')
  dsimp only
  have hv : ∀ x ∈ (scope.names.filter fun x => (x.2 == .local || x.2 == .cell) && x.1 != (".0" : Str)).reverse, x.2 = .local →
      Env.kindOf { cenv with scope := relabel scope env } x.1 = some .local := fun x hx hl => lookup_relabel_local (hnames x (List.mem_filter.mp (List.mem_reverse.mp hx)).1 hl)
  refine wpC_holding (wpC_bind (wpC_attempt (wpC_holding (wpC_run (codeC_mono h₄ fun r s' hr => ?_)))))
  cases r with
  | ok f =>
    obtain ⟨m, hn, hr⟩ := hr
    exact wpC_leaf (wpAny_holding (wpAny_comp_letGo (cenv := { cenv with scope := relabel scope env }) hkind _ s' m hv hn fun h' m' _ hs' => wpC_pure (hr h' hs')))
  | error x =>
    obtain ⟨m, hn, hr⟩ := hr
    exact wpC_leaf (wpAny_holding (wpAny_comp_letGo (cenv := { cenv with scope := relabel scope env }) hkind _ s' m hv hn fun h' m' hn' hs' => wpC_any (wpAny_mono (hr h' m' hn' hs') (fun _ _ f => f.elim) fun _ _ y => y)))
def compPostU (M : Model) (A : Around) (E : Value → Shared → Prop) (u : Value → Sem Unit) (Q : Value → Shared → Prop) (acc : Value) (cenv : Env) (r : Result) (s' : Shared) : Prop :=
  match r with
  | .ok _ => wpAny M A (u acc) (fun _ s'' => ∃ m, s''.heap.Ns cenv.locals m ∧ ∀ h', Heap.SameBut cenv.locals s''.heap h' → Q .none { s'' with heap := h' }) E s'
  | .error x => ∃ m, s'.heap.Ns cenv.locals m ∧ ∀ h' m', h'.Ns cenv.locals m' → Heap.SameBut cenv.locals s'.heap h' → wpAny M A (PySem.passOn "comprehension.variables-let-go" x cenv : Sem Value) (fun _ _ => False) E { s' with heap := h' }
theorem wpC_comprehension_use {e : Expr} {scope : Scope} {pos : Pos} {newAcc first : Sem Value} {g : Comprehension} {gs : List Comprehension} {cl : List (Str × Addr)} {u : Value → Sem Unit} {Q : Value → Shared → Prop}
    (hcl : clausesOf e = g :: gs) (hs : ∀ x, foldedSetIterable g.iter env x = pure x) (hclos : closureFor scope env = pure cl)
    (hkind : scope.kind = .function) (hnames : ∀ x ∈ scope.names, x.2 = .local → scope.names.lookup x.1 = some .local)
    (h : wpAny M A first (fun x s₁ => wpAny M A (pyIter x) (fun it s₂ => wpAny M A newAcc (fun acc s₃ =>
      wpAny M A (newFunctionEnv scope env.globals cl [] env.qual none .none (some env)) (fun cenv s₄ =>
        codeC M A (.compStart e 0 it acc { cenv with scope := relabel scope env }) (compPostU M A E u Q acc { cenv with scope := relabel scope env }) s₄) E s₃) E s₂) E s₁) E s) :
    wpC M A (comprehension e scope env pos newAcc false first (some u)) Q E s := by
  unfold comprehension
  rw [hclos, hcl]
  refine wpC_leaf (wpAny_mono h (fun x s₁ h₁ => wpC_at (wpC_bind (wpC_of_eq (hs x) (wpC_leaf (wpAny_holding (wpAny_mono h₁ (fun it s₂ h₂ => ?_) fun _ _ h' => h')))))) fun _ _ h' => h')
  show wpC M A (standAt e.pos >>= fun _ => newAcc >>= _) Q E s₂
  refine wpC_at (wpC_leaf (wpAny_mono h₂ (fun acc s₃ h₃ => wpC_bind (wpC_pure (wpC_leaf (wpAny_mono h₃ (fun cenv s₄ h₄ => ?_) fun _ _ h' => h')))) fun _ _ h' => h'))
  dsimp only
  have hv : ∀ x ∈ (scope.names.filter fun x => (x.2 == .local || x.2 == .cell) && x.1 != (".0" : Str)).reverse, x.2 = .local →
      Env.kindOf { cenv with scope := relabel scope env } x.1 = some .local := fun x hx hl => lookup_relabel_local (hnames x (List.mem_filter.mp (List.mem_reverse.mp hx)).1 hl)
  have hv' : ∀ x ∈ (scope.names.filter fun x => (x.2 == .local || x.2 == .cell) && x.1 != (".0" : Str)).reverse.drop 1 ++ (scope.names.filter fun x => (x.2 == .local || x.2 == .cell) && x.1 != (".0" : Str)).reverse.take 1,
      x.2 = .local → Env.kindOf { cenv with scope := relabel scope env } x.1 = some .local := fun x hx hl => by
    rcases List.mem_append.mp hx with h1 | h1
    · exact hv x (List.mem_of_mem_drop h1) hl
    · exact hv x (List.mem_of_mem_take h1) hl
  refine wpC_holding (wpC_bind (wpC_attempt (wpC_holding (wpC_run (codeC_mono h₄ fun r s' hr => ?_)))))
  cases r with
  | ok f =>
    refine wpC_leaf (wpAny_rule (wpC_leaf (wpAny_holding (wpAny_mono hr (fun _ s'' hr' => ?_) fun _ _ h' => h'))))
    obtain ⟨m, hn, hr'⟩ := hr'
    exact wpC_leaf (wpAny_comp_letGo (cenv := { cenv with scope := relabel scope env }) hkind _ s'' m hv' hn fun h' m' _ hs' => wpC_pure (hr' h' hs'))
  | error x =>
    obtain ⟨m, hn, hr⟩ := hr
    exact wpC_leaf (wpAny_holding (wpAny_comp_letGo (cenv := { cenv with scope := relabel scope env }) hkind _ s' m hv hn fun h' m' hn' hs' => wpC_any (wpAny_mono (hr h' m' hn' hs') (fun _ _ f => f.elim) fun _ _ y => y)))
end
section
variable {prog : Program} {w : World} {A : Around} {E : Value → Shared → Prop} {s : Shared} {R : Result → Shared → Prop} {env : Env}
theorem clean_compStart (e : Expr) (n : Nat) (it acc : Value) (env : Env) : CleanC (.compStart e n it acc env) := fun _ _ => rfl
theorem clean_compLoop (e : Expr) (n : Nat) (it acc : Value) (env : Env) : CleanC (.compLoop e n it acc env) := fun _ _ => rfl
theorem wpC_notedAt {α : Type} {M : Model} {m : Sem α} {pos : Pos} {Q : α → Shared → Prop} (h : wpC M A m Q (notedBy M A env E) s) : wpC M A (m.onRaise fun x => do noteFrame x env; standAt pos) Q E s :=
  wpC_onRaise (wpC_mono h (fun _ _ q => q) fun _ _ hx => wpC_any (wpAny_bind (wpAny_mono hx (fun _ _ e => wpAny_standAt e) fun _ _ e => e)))
theorem codeC_compStart {elt target iter ifs rest scope pos it acc}
    (h0 : codeC (model prog w) A (.compLoop (.ListComp elt (⟨target, iter, ifs, 0⟩ :: rest) scope pos) 0 it acc env) R s)
    (h : wpAny (model prog w) A (pyIter it) (fun it' s' => codeC (model prog w) A (.compLoop (.ListComp elt (⟨target, iter, ifs, 0⟩ :: rest) scope pos) 0 it' acc env) R s') (notedBy (model prog w) A env fun x s' => R (.error x) s') s) :
    codeC (model prog w) A (.compStart (.ListComp elt (⟨target, iter, ifs, 0⟩ :: rest) scope pos) 0 it acc env) R s := by
  refine codeC_of_any ?_
  show wpAny _ _ ((compStart (.ListComp elt (⟨target, iter, ifs, 0⟩ :: rest) scope pos) 0 it acc env).onRaise (fun x => do noteFrame x env; standAt theWindowsPlace)) _ _ s
  refine wpAny_notedAt ?_
  unfold compStart
  show wpAny _ _ (ask >>= _) _ _ s
  refine wpAny_bind (wpAny_askSetting (wpAny_ite ?_))
  split
  · first
      | exact wpAny_bind (wpAny_pure (wpAny_pure (And.intro rfl h0)))
      | exact wpAny_pure (And.intro rfl h0)
  · first
      | exact wpAny_bind (wpAny_rule (wpAny_bind (wpAny_standAt (wpAny_bind (wpAny_mono h (fun it' s' h' => wpAny_pure (And.intro rfl h')) fun _ _ x => x)))))
      | (refine wpAny_bind (wpAny_rule ?_); show wpAny _ _ (standAt iter.pos >>= _) _ _ s; exact wpAny_bind (wpAny_standAt (wpAny_bind (wpAny_mono h (fun it' s' h' => wpAny_pure (And.intro rfl h')) fun _ _ x => x))))
theorem codeC_compLoop {elt target iter : Expr} {scope : Scope} {pos : Pos} {it acc : Value} (I : Nat → Shared → Prop)
    (turn : ∀ n s, I n s → wpAny (model prog w) A (pyNext it) (fun r s₁ => match r with
      | none => R (.ok .next) s₁
      | some v => wpAny (model prog w) A (assign target env v) (fun _ s₂ => wpC (model prog w) A (eval elt env) (fun x s₃ =>
          wpAny (model prog w) A (call (.builtin "list.append") [acc, x]) (fun _ s₄ => ∃ m, m < n ∧ I m s₄) (notedBy (model prog w) A env fun e s' => R (.error e) s') s₃)
          (notedBy (model prog w) A env fun e s' => R (.error e) s') s₂) (notedBy (model prog w) A env fun e s' => R (.error e) s') s₁) (notedBy (model prog w) A env fun e s' => R (.error e) s') s)
    (n : Nat) (h : I n s) (ht : ∀ v, letOwnedTupleGo target it v = pure () := by intro _; rfl) :
    codeC (model prog w) A (.compLoop (.ListComp elt [⟨target, iter, [], 0⟩] scope pos) 0 it acc env) R s := by
  refine codeC_loop (clean_compLoop _ _ _ _ _) rfl I (fun n s hI => ?_) n h
  show wpC _ _ ((compTurn (.ListComp elt [⟨target, iter, [], 0⟩] scope pos) 0 it acc env).onRaise (fun x => do noteFrame x env; theTreesLotGoes x)) _ _ s
  refine wpC_noted ?_
  rw [compTurn_list1]
  refine wpC_at (wpC_leaf (wpAny_mono (turn n s hI) (fun r s₁ h₁ => ?_) fun _ _ h' => h'))
  cases r with
  | none => exact wpC_pure h₁
  | some v =>
    refine wpC_bind (wpC_of_eq (ht v) ?_)
    refine wpC_leaf (wpAny_mono h₁ (fun _ s₂ h₂ => ?_) fun _ _ h' => h')
    refine wpC_bind (wpC_seq h₂ fun x s₃ h₃ => ?_)
    exact wpC_leaf (wpAny_mono h₃ (fun _ s₄ h₄ => wpC_pure (wpC_pure (.inl ⟨rfl, h₄⟩))) fun _ _ h' => h')
end
end Fq
end
section
/-! FqS -/
open PySem PySem.W PySem.Calls PySem.Spec PyProof.Rows
namespace Fq
/-! a made list or tuple of the same items -/
inductive SeqO (its : Array Value) : Obj → Prop
  | list (nn : Nat) : SeqO its (listOf its nn)
  | tuple (h : 0 < its.size) : SeqO its { cls := .type "tuple", data := .seq its }
theorem fm_congr {α β : Type} {f g : α → Option β} : ∀ {l : List α}, (∀ x ∈ l, f x = g x) → l.filterMap f = l.filterMap g
  | [], _ => rfl
  | x :: l, h => by rw [List.filterMap_cons, List.filterMap_cons, h x List.mem_cons_self, fm_congr fun y hy => h y (List.mem_cons_of_mem _ hy)]
theorem pick_back (xs : Array Value) : ((List.range xs.size).filterMap fun (k : Nat) => xs[(((xs.size : Int) - 1) + (k : Int) * -1).toNat]?).toArray = xs.toList.reverse.toArray := by
  congr 1
  have e : (List.range xs.size).filterMap (fun (k : Nat) => xs[(((xs.size : Int) - 1) + (k : Int) * -1).toNat]?) = ((List.range xs.size).map (fun k => xs.size - 1 - k)).filterMap (xs[·]?) := by
    rw [List.filterMap_map]
    apply fm_congr
    intro k hk
    have := List.mem_range.mp hk
    have e : (((xs.size : Int) - 1) + (k : Int) * -1).toNat = xs.size - 1 - k := by omega
    show xs[_]? = xs[_]?
    rw [e]
  rw [e, krv_range, List.filterMap_reverse, krv_all]
section
variable {prog : Program} {w : World} {A : Around} {E : Value → Shared → Prop} {s : Shared} {h₀ : Heap} {L : Addr} {m : Str → Option Value} {news : List (Addr × Obj)}
theorem adjust_back (n : Nat) : Builtin.Slice.sliceAdjust none none (-1) (n : Int) = ((n : Int) - 1, -1) := rfl
theorem places_back (n : Nat) : Builtin.Slice.slicePlaces ((n : Int) - 1) (-1) (-1) = n := by
  unfold Builtin.Slice.slicePlaces
  rw [if_neg (by decide)]
  by_cases h : (n : Int) - 1 > -1
  · rw [if_pos h]
    have : ((n : Int) - 1 - -1 - 1) / (- -1) + 1 = (n : Int) := by
      rw [show (- -1 : Int) = 1 by decide, Int.ediv_one]; omega
    rw [this]; rfl
  · rw [if_neg h]
    have : n = 0 := by omega
    rw [this]; rfl
theorem sliceApplied_back {sl : Addr} {n : Nat} {u : Tok} {Q : Int × Int × Nat → Shared → Prop} (hs : s.heap.IsSliceOf sl .none .none (.int (-1) u)) (h : Q ((n : Int) - 1, -1, n) s) :
    wpAny (model prog w) A (Builtin.Slice.sliceApplied (.ref sl) (pure (n : Int))) Q E s := by
  obtain ⟨os, hos, hcs, hds⟩ := id hs
  unfold Builtin.Slice.sliceApplied Builtin.Slice.sliceFields
  refine wpAny_bind (wpAny_bind (wpAny_field hos hds (x := .none) rfl (wpAny_bind (wpAny_field hos hds (x := .none) rfl (wpAny_bind (wpAny_field hos hds (x := .int (-1) u) rfl (wpAny_pure ?_)))))))
  refine wpAny_bind (slicePart_int ?_)
  show wpAny _ _ (if ((-1 : Int) == 0) = true then _ else _) _ _ s
  rw [if_neg (by decide)]
  refine wpAny_bind (slicePart_none (wpAny_bind (slicePart_none (wpAny_bind (wpAny_pure ?_)))))
  show wpAny _ _ (match Builtin.Slice.sliceAdjust none none (-1) (n : Int) with | (lo, hi) => pure (lo, (-1 : Int), Builtin.Slice.slicePlaces lo hi (-1))) _ _ s
  rw [adjust_back n]
  show wpAny _ _ (pure ((n : Int) - 1, (-1 : Int), Builtin.Slice.slicePlaces ((n : Int) - 1) (-1) (-1))) _ _ s
  rw [places_back n]
  exact wpAny_pure h
theorem getItem_tuple_back {t sl : Addr} {items : Array Value} {u : Tok} {Q : Value → Shared → Prop} (ht : IsTup s.heap t items) (hs : s.heap.IsSliceOf sl .none .none (.int (-1) u)) (h1 : 1 ≤ items.size)
    (h : Q (.ref s.heap.objs.size) { s with heap := s.heap.push { cls := .type "tuple", data := .seq items.toList.reverse.toArray } })
    (hsz : items.size ≤ sizeLine) : wpAny (model prog w) A (getItem (.ref t) (.ref sl)) Q E s := by
  have hdrop : sizeOk (.seq items.toList.reverse.toArray) := by
    show items.toList.reverse.toArray.size ≤ sizeLine
    rw [List.size_toArray, List.length_reverse, Array.length_toList]
    omega
  obtain ⟨os, hos, hcs, hds⟩ := id hs
  have hTs : s.TypeIs (.ref sl) "slice" := ⟨os, hos, hcs⟩
  unfold getItem
  try with_reducible refine wpAny_holding ?_
  first | refine wpAny_bind (wpAny_pure ?_) | skip
  refine wpAny_bind (wpAny_sequenceKey ht.typeIs (by decide) ?_)
  refine wpAny_bind (wpAny_callSpecial?_slot (name := Str.ofString "__getitem__") ht.typeIs slot_tuple_getitem
    (wpAny_call_entry slot_tuple_getitem ht.typeIs entry_tuple_getitem ?_ (args_tuple_getitem _ _)))
  show wpAny _ _ (Builtin.Tuple.tupleItemsOf (.ref t) >>= _) _ _ s
  refine wpAny_bind (tupleItemsOf_ ht ?_)
  refine wpAny_bind (wpAny_typeOf hTs ?_)
  rw [if_pos (by decide)]
  refine wpAny_bind (sliceApplied_back hs ?_)
  have hno : ¬ (((items.size : Int) - 1 == 0 && (-1 : Int) == 1 && items.size == items.size) = true) := by
    rw [show ((-1 : Int) == 1) = false from rfl, Bool.and_false, Bool.false_and]; exact Bool.false_ne_true
  show wpAny _ _ (if ((items.size : Int) - 1 == 0 && (-1 : Int) == 1 && items.size == items.size) = true then _ else _) _ _ s
  rw [if_neg hno, pick_back items]
  first
    | exact wpAny_bind (m := Builtin.Tuple.tupleExact _) (wpAny_newObj_type (wpAny_pure ⟨_, rfl, wpAny_pure h⟩) hdrop)
    | exact wpAny_bind (m := Builtin.Tuple.tupleExact _) (wpAny_newObj_type (wpAny_bind (wpAny_pure (wpAny_pure ⟨_, rfl, wpAny_pure h⟩))) hdrop)
    | exact wpAny_bind (wpAny_bind (m := Builtin.Tuple.tupleExact _) (wpAny_newObj_type (wpAny_pure (wpAny_pure ⟨_, rfl, wpAny_pure h⟩)) hdrop))
    | exact wpAny_bind (wpAny_bind (m := Builtin.Tuple.tupleExact _) (wpAny_newObj_type (wpAny_pure ⟨_, rfl, wpAny_pure h⟩) hdrop))
/-- the slice [::-1] of a list or a tuple -/
theorem slice_back {value slice : Expr} {l : Addr} {its : Array Value} {o : Obj} {zs : List Value} {vk : Value} {ops : List Value} {Q : Value → Shared → Prop} (F : Fr h₀ L s.heap m) (N : News h₀ L s.heap news) (hg : s.heap.get? l = some o) (S : SeqO its o) (pk : IsPart vk (some (-1))) (e : its.toList.reverse = zs)
    (h : ∀ D o' h', SeqO zs.toArray o' → Fr h₀ L h' m → News h₀ L h' ((D, o') :: news) → (∀ p ∈ news, p.1 < D) → Q (.ref D) { s with heap := h' })
    (hs : subscripted slice false (.ref l) (.ref s.heap.objs.size) = operate ops (getItem (.ref l) (.ref s.heap.objs.size))) (ht : ∀ r, letTemporaryGo value (.ref l) r = pure ()) (hz : its.size ≤ sizeLine) :
    wpAny (model prog w) A (subscriptTail value slice (.ref l) (.ref s.heap.objs.size)) Q E { s with heap := s.heap.push { cls := .type "slice", data := .fields #[.none, .none, vk] } } := by
  cases S with
  | list nn =>
    exact krv_lit F N ⟨_, hg, rfl, _, rfl⟩ pk e (fun D h' F' N' hl => h D _ h' (.list 0) F' N' hl) hs ht hz
  | tuple hne =>
    subst e
    cases pk with
    | int _ vk =>
    have ht0 : IsTup s.heap l its := ⟨_, hg, rfl, _, rfl⟩
    have ht' : IsTup (s.heap.push { cls := .type "slice", data := .fields #[.none, .none, .int (-1) vk] }) l its := ht0.keeps fun _ _ e => Heap.get?_push_of_some _ e
    refine subscriptTail_ops (s := { s with heap := s.heap.push { cls := .type "slice", data := .fields #[.none, .none, .int (-1) vk] } }) ht'.typeIs slot_tuple_getitem.lookup
      (getItem_tuple_back ht' (Heap.IsSliceOf.new ..) hne ?_ hz) hs ht
    have N1 := News.push (F.push { cls := .type "slice", data := .fields #[.none, .none, .int (-1) vk] }) (N.grown fun _ _ e => Heap.get?_push_of_some _ e) { cls := .type "tuple", data := .seq its.toList.reverse.toArray }
    rw [Heap.size_push] at N1
    show Q (.ref (s.heap.push _).objs.size) _
    rw [Heap.size_push]
    exact h _ _ _ (.tuple (by rw [List.size_toArray, List.length_reverse, Array.length_toList]; exact hne)) ((F.push _).push _) N1 fun p hp => Nat.lt_succ_of_lt (Heap.lt_size (N p hp).1)
/-- the iterator of it -/
theorem seqO_iter {its : Array Value} {ax : Addr} {o : Obj} {Q : Value → Shared → Prop} (hg : s.heap.get? ax = some o) (S : SeqO its o)
    (h : ∀ (oI : Obj) (St : Nat → Heap → Prop), oI.isFreed = false → (∀ A' : Around, A'.handled = none → Walks prog w A' s.heap.objs.size [s.heap.objs.size, ax] [s.heap.objs.size] its.size (fun i v => its[i]? = some v) St) →
      (∀ h', h'.get? s.heap.objs.size = some oI → h'.get? ax = some o → St 0 h') → Q (.ref s.heap.objs.size) { s with heap := s.heap.push oI }) : wpAny (model prog w) A (pyIter (.ref ax)) Q E s := by
  have hlt := Heap.lt_size hg
  cases S with
  | list nn =>
    refine wpAny_pyIter_list ⟨_, hg, rfl, _, rfl⟩ ?_
    exact h _ _ rfl (fun A' hA => Walks.list hA _ ax (Nat.ne_of_lt hlt) its) fun h' h1 h2 => ⟨⟨_, h1, rfl, rfl⟩, ⟨_, h2, rfl, _, rfl⟩⟩
  | tuple hne =>
    refine wpAny_pyIter_tuple ⟨_, hg, rfl, _, rfl⟩ ?_
    exact h _ _ rfl (fun A' hA => Walks.tuple hA _ ax (Nat.ne_of_lt hlt) its) fun h' h1 h2 => ⟨⟨_, h1, rfl, rfl⟩, ⟨_, h2, rfl, _, rfl⟩⟩
end
end Fq
end
section
/-! FqZ3 -/
open PySem PySem.W PySem.Calls PySem.Spec PyProof.Rows
namespace Fq
open PyProof.Rows.LCg (lst lst_snoc)
/-- a fact that the walk leaves whole -/
structure Boxed (p : Prop) : Prop where
  out : p
section
variable {prog : Program} {w : World} {A : Around} {s : Shared} {base h₀ : Heap} {outer : List Env} {L a : Addr} {name : Str} {scopeF : Scope} {cd : Value}
/-- a comprehension over a made list whose element leaves the heap, or refuses -/
theorem comp_assign {y : Str} {py apos : Pos} {elt iter : Expr} {x : Str} {px : Pos} {scope : Scope} {cl : List (Str × Addr)} {pos : Pos} {Q : Flow → Shared → Prop} {QE E₁ : Value → Shared → Prop}
    (K : Below A base outer h₀) (hA : A.handled = none) (hkF : scopeF.kind = .function)
    (hclos : closureFor scope (envOf name scopeF L a cd) = pure cl) (hcell : ∀ z ∈ scope.names, z.2 ≠ .cell) (hkind : scope.kind = .function)
    (hnames : ∀ z ∈ scope.names, z.2 = .local → scope.names.lookup z.1 = some .local) (hx : scope.names.lookup x = some .local)
    (hs : ∀ x, foldedSetIterable iter (envOf name scopeF L a cd) x = pure x)
    (hsw : swapsWith (.ListComp elt [⟨.Name x px, iter, [], 0⟩] scope pos) (some (.Name y py)) apos.line (envOf name scopeF L a cd) = pure true) (hy : (envOf name scopeF L a cd).kindOf y = some .local)
    (h : wpAny (model prog w) (A.deeper (envOf name scopeF L a cd)) (eval iter (envOf name scopeF L a cd)) (fun xv s => Boxed (∃ (m : Str → Option Value) (ax : Addr) (its : Array Value) (news : List (Addr × Obj)) (oa : Obj) (F : Nat → Value → Prop) (cls : String), xv = .ref ax ∧ its.size ≤ 1000 ∧ Fr h₀ L s.heap m ∧ News h₀ L s.heap news ∧ (ax, oa) ∈ news ∧ SeqO its oa ∧
      (∀ i v h tk C mC (Q' E' : Value → Shared → Prop), its[i]? = some v → h.Ns C mC → mC x = some v → Fr h₀ L h m →
      (∀ tk' z, F i z → Q' z { s with heap := h, toks := tk' }) → (∀ h' tk' e, Heap.NewExc h h' e cls → (∀ z, ¬ F i z) → E' (.ref e) { s with heap := h', toks := tk' }) →
      wpC (model prog w) (A.deeper (envOf name scopeF L a cd)) (eval elt (compEnvC scope cl C (envOf name scopeF L a cd))) Q' E' { s with heap := h, toks := tk }) ∧
      (∀ D (ys : List Value) h' tk', ys.length = its.size → (∀ i z, ys[i]? = some z → F i z) → Fr h₀ L h' (fun z => if z = y then some (.ref D) else m z) → News h₀ L h' ((D, lst ys) :: news) → (∀ p ∈ news, p.1 < D) → Q .next { s with heap := h', toks := tk' }) ∧
      (∀ i e h' tk', i < its.size → (∀ z, ¬ F i z) → RaisedN base outer e (.type cls) news h' → h₀.UpToSlots h' → QE (.ref e) { s with heap := h', toks := tk' })))
      (fun e s' => wpAny (model prog w) (A.deeper (envOf name scopeF L a cd)) (leaving (envOf name scopeF L a cd) e) (fun _ s'' => QE e s'') E₁ s') s) :
    wpC (model prog w) (A.deeper (envOf name scopeF L a cd)) (exec (.Assign [.Name y py] (.ListComp elt [⟨.Name x px, iter, [], 0⟩] scope pos) apos) (envOf name scopeF L a cd)) Q
      (fun e s' => wpAny (model prog w) (A.deeper (envOf name scopeF L a cd)) (leaving (envOf name scopeF L a cd) e) (fun _ s'' => QE e s'') E₁ s') s := by
  rw [exec_Assign_Name_used _ _ _ _ hsw]
  refine wpC_at (wpC_bind ?_)
  rw [arm_evalThenUse_ListComp]
  refine wpC_bind ?_
  refine wpC_comprehension_use (Q := fun _ s' => wpC (model prog w) (A.deeper (envOf name scopeF L a cd)) (pure ()) _ _ s') rfl hs hclos hkind hnames (wpAny_mono h (fun xv s h₁ => ?_) fun _ _ e => e)
  obtain ⟨⟨m, ax, its, news, oa, F, cls, rfl, hsz, F₀, N₀, hm, hSq, helt, hQ, hE⟩⟩ := h₁
  have hax := (N₀ _ hm).1
  have hlt : ax < s.heap.objs.size := Heap.lt_size hax
  refine seqO_iter hax hSq fun oI St hoI hW hSt0 => ?_
  refine wpAny_newObj_type (wpAny_newFunctionEnv hcell (by intro z hz; simp at hz) (fun h₁ hns₁ hsb₁ => ?_) hkind)
  dsimp only at hns₁ hsb₁ ⊢
  generalize hH1 : s.heap.push oI = H1 at hns₁ hsb₁ ⊢
  have hI1 : H1.objs.size = s.heap.objs.size + 1 := by rw [← hH1, Heap.size_push]
  have hIg : H1.get? s.heap.objs.size = some oI := by rw [← hH1]; exact Heap.get?_push_size _ hoI
  have up1 : ∀ b o, s.heap.get? b = some o → H1.get? b = some o := fun b o e => by rw [← hH1]; exact Heap.get?_push_of_some _ e
  generalize hH2 : H1.push { cls := .type "list", data := .seq #[] } = H2 at hns₁ hsb₁ ⊢
  have hI2 : H2.objs.size = s.heap.objs.size + 2 := by rw [← hH2, Heap.size_push, hI1]
  have hDg : H2.get? H1.objs.size = some (lst []) := by rw [← hH2]; exact Heap.get?_push_size _ rfl
  have up2 : ∀ b o, H1.get? b = some o → H2.get? b = some o := fun b o e => by rw [← hH2]; exact Heap.get?_push_of_some _ e
  have neC : ∀ b o, H2.get? b = some o → b ≠ H2.objs.size := fun b o e => Nat.ne_of_lt (Heap.lt_size e)
  have up3 : ∀ b o, H2.get? b = some o → h₁.get? b = some o := fun b o e => hsb₁.extBut b o (neC b o e) (Heap.get?_push_of_some _ e)
  have old : ∀ b o, s.heap.get? b = some o → h₁.get? b = some o := fun b o e => up3 _ _ (up2 _ _ (up1 _ _ e))
  have fresh₀ : ∀ b, s.heap.objs.size ≤ b → h₀.get? b = none := fun b hb => by
    cases e : h₀.get? b with
    | none => rfl
    | some o => exact absurd (Heap.lt_size (F₀.keep b o e)) (Nat.not_lt.mpr hb)
  have hLlt : L < s.heap.objs.size := F₀.ns.lt
  have hnewlt : ∀ p ∈ news, p.1 < s.heap.objs.size := fun p hp => Heap.lt_size (N₀ p hp).1
  generalize hIe : s.heap.objs.size = I at *
  generalize hDe : H1.objs.size = D at *
  generalize hCe : H2.objs.size = C at *
  have hCI : C ≠ I := Nat.ne_of_gt (show I < C by omega)
  have hDI : D ≠ I := Nat.ne_of_gt (show I < D by omega)
  have hCD : C ≠ D := Nat.ne_of_gt (show D < C by omega)
  have hLC : L ≠ C := Nat.ne_of_lt (Nat.lt_of_lt_of_le hLlt (by rw [hI2]; exact Nat.le_add_right _ _))
  have hLD : L ≠ D := Nat.ne_of_lt (Nat.lt_of_lt_of_le hLlt (by rw [hI1]; exact Nat.le_add_right _ _))
  have hLI : L ≠ I := Nat.ne_of_lt hLlt
  have hC₀ := fresh₀ C (by omega)
  have hD₀ := fresh₀ D (by omega)
  have hI₀ := fresh₀ I (by omega)
  have W := hW (A.deeper (envOf name scopeF L a cd)) hA
  have fpC : ∀ b ∈ [I, ax], b ≠ C := fun b hb => by
    rcases List.mem_cons.mp hb with e | hb
    · rw [e]; exact Ne.symm hCI
    · rw [List.mem_singleton.mp hb]; exact Nat.ne_of_lt (Nat.lt_trans hlt (by rw [hI2]; exact Nat.lt_add_of_pos_right (by decide)))
  have fpD : ∀ b ∈ [I, ax], b ≠ D := fun b hb => by
    rcases List.mem_cons.mp hb with e | hb
    · rw [e]; exact Ne.symm hDI
    · rw [List.mem_singleton.mp hb]; exact Nat.ne_of_lt (Nat.lt_trans hlt (by rw [hI1]; exact Nat.lt_succ_self _))
  have loop : codeC (model prog w) (A.deeper (envOf name scopeF L a cd)) (.compLoop (.ListComp elt [⟨.Name x px, iter, [], 0⟩] scope pos) 0 (.ref I) (.ref D) (compEnvC scope cl C (envOf name scopeF L a cd)))
      (compPostU (model prog w) (A.deeper (envOf name scopeF L a cd)) (fun e s' => wpAny (model prog w) (A.deeper (envOf name scopeF L a cd)) (leaving (envOf name scopeF L a cd) e) (fun _ s'' => QE e s'') E₁ s') (assign (.Name y py) (envOf name scopeF L a cd)) (fun _ s' => wpC (model prog w) (A.deeper (envOf name scopeF L a cd)) (pure ()) (fun _ s' => wpC (model prog w) (A.deeper (envOf name scopeF L a cd)) (pure .next) Q (fun e s' => wpAny (model prog w) (A.deeper (envOf name scopeF L a cd)) (leaving (envOf name scopeF L a cd) e) (fun _ s'' => QE e s'') E₁ s') s') (fun e s' => wpAny (model prog w) (A.deeper (envOf name scopeF L a cd)) (leaving (envOf name scopeF L a cd) e) (fun _ s'' => QE e s'') E₁ s') s') (.ref D) (compEnvC scope cl C (envOf name scopeF L a cd)))
      { s with heap := h₁, toks := s.toks + ([] : List (Str × Value)).length } := by
    refine codeC_compLoop (fun k s' => ∃ h' tk i ys m', s' = { s with heap := h', toks := tk } ∧ i ≤ its.size ∧ k = its.size + 1 - i ∧ ys.length = i ∧ (∀ j z, ys[j]? = some z → F j z) ∧ St i h' ∧ Fr h₀ L h' m ∧ h'.Ns C m' ∧ News h₀ L h' ((D, lst ys) :: news)) ?_ (its.size + 1)
      ⟨h₁, _, 0, [], _, rfl, Nat.zero_le _, rfl, rfl, (fun j z hj => nomatch hj), (hSt0 _ (up3 _ _ (up2 _ _ hIg)) (old _ _ hax)), F₀.keeps old, hns₁, fun p hp => ?_⟩
    · rintro k s' ⟨h', tk, i, ys, m', rfl, hi', rfl, hyl, hF, hst, F', hn', N'⟩
      by_cases hlt' : i < its.size
      · refine W.item i _ _ _ hlt' hst fun v h₂ tk₂ hPv hst₂ hk₂ => ?_
        refine wpAny_assign_Name (wpAny_storeName_local (lookup_relabel_local hx) (hn'.at' fun o e => hk₂ _ o (by simpa using hCI) e) (fun h₃ hn₃ hs₃ => ?_) (by simp [compEnvC, relabel, hkind]))
        have k3 : ∀ b o, b ≠ I → b ≠ C → h'.get? b = some o → h₃.get? b = some o := fun b o h1 h2 e => (hs₃.2 b h2).trans (hk₂ b o (by simpa using h1) e)
        have F₃ : Fr h₀ L h₃ m := ((LCg.fr_but F' hk₂ hLI hI₀).change hs₃ (Ne.symm hLC) hC₀)
        have N₃ : News h₀ L h₃ ((D, lst ys) :: news) := fun p hp => by
          have z := N' p hp
          refine ⟨k3 _ _ ?_ ?_ z.1, z.2⟩
          · rcases List.mem_cons.mp hp with e | hp
            · rw [e]; exact hDI
            · exact Nat.ne_of_lt (hnewlt p hp)
          · rcases List.mem_cons.mp hp with e | hp
            · rw [e]; exact Ne.symm hCD
            · exact Nat.ne_of_lt (Nat.lt_trans (hnewlt p hp) (by rw [hI2]; exact Nat.lt_add_of_pos_right (by decide)))
        have hst₃ := W.frame _ _ _ hst₂ fun b hb o e => (hs₃.2 b (fpC b hb)).trans e
        refine helt i v h₃ _ C _ _ _ hPv hn₃ (by simp) F₃ (fun tk' z9 hFy => ?_) fun h6 tk' e hx6 hnF => ?_
        · refine append_at (hsz := by show ys.toArray.size ≤ sizeLine; rw [List.size_toArray, hyl, sizeLine_eq]; omega) (N₃ _ (.head _)).1 fun h₅ hs₅ hD₅ => ?_
          refine ⟨its.size + 1 - (i + 1), by omega, h₅, tk', i + 1, ys ++ [z9], _, rfl, hlt', rfl, by rw [List.length_append, List.length_singleton, hyl], ?_, W.frame _ _ _ hst₃ (fun b hb o e => (hs₅.2 b (fpD b hb)).trans e), F₃.change hs₅ (Ne.symm hLD) hD₀, hn₃.sameBut hs₅ hCD, ?_⟩
          · intro j z hj
            by_cases q : j < ys.length
            · rw [List.getElem?_append_left q] at hj; exact hF j z hj
            · have : j = ys.length := by
                have := (List.getElem?_eq_some_iff.mp hj).1
                rw [List.length_append, List.length_singleton] at this; omega
              rw [this, List.getElem?_append_right (Nat.le_refl _), Nat.sub_self] at hj
              cases hj
              rw [this, hyl]; exact hFy
          · have := N₃.setHead (fun p hp => Nat.ne_of_lt (Nat.lt_trans (hnewlt p hp) (by rw [hI1]; exact Nat.lt_succ_self _))) hs₅ hD₅
            rw [lst_snoc] at this
            exact this
        · refine comp_held (cls := cls) K hx6 F₃ (fun p hp => N₃ p (.tail _ hp)) hC₀ (Ne.symm hLC) (fun q hq => Nat.ne_of_lt (Nat.lt_trans (hnewlt q hq) (by rw [hI2]; exact Nat.lt_add_of_pos_right (by decide)))) hn₃ rfl hkF ?_
          intro h7 X7
          refine ⟨_, X7.choose_spec.choose_spec.2.2.2.2.2.choose_spec, fun h8 m8 hn8 hs8 => ?_⟩
          have X8 := X7.same hs8 ?_ hC₀ ⟨m8, hn8⟩
          · refine HeldC.pass (A := A) (E₁ := E₁) (Q := fun _ s'' => QE (.ref e) s'') X8 rfl (fun h => h) fun h9 R9 U9 => hE i e h9 _ hlt' hnF R9 U9
          · intro b hb
            obtain ⟨v', hv', hf'⟩ := List.mem_filterMap.mp hb
            rcases List.mem_cons.mp hv' with rfl | hv'
            · cases hf'; exact hLC
            · obtain ⟨o, ho, _⟩ := (K.frames.mem (List.mem_filterMap.mpr ⟨v', hv', hf'⟩)).2
              intro q
              rw [q, hC₀] at ho; cases ho
      · obtain rfl : i = its.size := Nat.le_antisymm hi' (Nat.not_lt.mp hlt')
        refine W.done _ _ _ hst fun h₂ tk₂ hk₂ => ?_
        have F₂ := LCg.fr_but F' hk₂ hLI hI₀
        have N₂ : News h₀ L h₂ ((D, lst ys) :: news) := LCg.news_but N' hk₂ fun p hp => by
          rcases List.mem_cons.mp hp with e | hp
          · rw [e]; exact hDI
          · exact Nat.ne_of_lt (hnewlt p hp)
        refine wpAny_assign_Name (wpAny_storeName_local hy F₂.ns (fun h₃ hn₃ hs₃ => ?_) (by simp [envOf, hkF]))
        have F₃ : Fr h₀ L h₃ (fun z => if z = y then some (.ref D) else m z) := F₂.set hn₃ hs₃
        have N₃ : News h₀ L h₃ ((D, lst ys) :: news) := N₂.set hs₃
        refine ⟨_, (hn'.at' fun o e => hk₂ _ o (by simpa using hCI) e).sameBut hs₃ (Ne.symm hLC), fun h'' hs'' => wpC_pure (wpC_pure ?_)⟩
        refine hQ D ys h'' _ hyl hF (F₃.change hs'' (Ne.symm hLC) hC₀) (fun p hp => ⟨(hs''.2 _ ?_).trans (N₃ p hp).1, (N₃ p hp).2⟩) fun p hp => Nat.lt_trans (hnewlt p hp) (by rw [hI1]; exact Nat.lt_succ_self _)
        rcases List.mem_cons.mp hp with e | hp
        · rw [e]; exact Ne.symm hCD
        · exact Nat.ne_of_lt (Nat.lt_trans (hnewlt p hp) (by rw [hI2]; exact Nat.lt_add_of_pos_right (by decide)))
    · rcases List.mem_cons.mp hp with e | hp
      · rw [e]; exact ⟨up3 _ _ hDg, Ne.symm hLD, hD₀⟩
      · exact ⟨old _ _ (N₀ p hp).1, (N₀ p hp).2⟩
  exact codeC_compStart loop (W.self 0 _ _ _ (hSt0 _ (up3 _ _ (up2 _ _ hIg)) (old _ _ hax)) loop)
end
end Fq
end
section
/-! FqI2 -/
open PySem PySem.W PySem.Calls PySem.Spec PyProof.Rows
namespace Fq
section
variable {prog : Program} {w : World} {A : Around} {E : Value → Shared → Prop} {s : Shared}
theorem none_int : typeLookup (.type "NoneType") "__int__" = pure none := by rw [typeLookup_type, builtinLookup_eq_fast]; kernel_rfl
theorem none_idx : typeLookup (.type "NoneType") "__index__" = pure none := by rw [typeLookup_type, builtinLookup_eq_fast]; kernel_rfl
theorem none_trunc : typeLookup (.type "NoneType") "__trunc__" = pure none := by rw [typeLookup_type, builtinLookup_eq_fast]; kernel_rfl
theorem none_buffer : typeLookup (.type "NoneType") "__buffer__" = pure none := by rw [typeLookup_type, builtinLookup_eq_fast]; kernel_rfl
theorem none_name : typeName (.type "NoneType") = pure "NoneType" := by unfold typeName; rw [find?_eq_fast]; kernel_rfl
theorem int_None {Q : Value → Shared → Prop} (hA : A.handled = none) (hE : ∀ h' tk e, Heap.NewExc s.heap h' e "TypeError" → E (.ref e) { s with heap := h', toks := tk }) :
    wpC (model prog w) A (call (.type "int") [.none]) Q E s := by
  refine callType_C (Q₁ := fun _ _ => False) F.called_int (F.typeCall_int_1 _) ?_ fun obj s₁ h₁ => h₁.elim
  refine wpC_call (codeC_call_builtin_code (plainId_quiet plain_int_new _) (wpAny_of_eq (F.newCall_int_1 _) (codeC_builtin (clean_int_new _) F.entry_int_new ?_)))
  rw [Around.under_plainId plain_int_new _]
  unfold Builtin.«int.__new__»
  dsimp only
  refine wpC_any ?_
  refine wpAny_bind (wpAny_of_eq (a := true) rfl ?_)
  rw [if_neg (show ¬ ((!true) = true) from Bool.false_ne_true)]
  refine wpAny_bind (wpAny_of_eq F.conv_sub_int ?_)
  rw [if_neg (show ¬ ((!true) = true) from Bool.false_ne_true)]
  refine wpAny_bind (wpAny_of_eq F.madeHere_int ?_)
  rw [if_neg (show ¬ ((Value.type "int" == Value.type "int" && ([] : List (Str × Value)).isEmpty && decide ([Value.none].length > 2)) = true) from Bool.false_ne_true)]
  rw [if_neg (show ¬ ([Value.none].length + ([] : List (Str × Value)).length > 2) from by show ¬ (1 > 2); omega)]
  refine wpAny_bind (wpAny_of_eq (a := PUnit.unit) rfl ?_)
  have hT : s.TypeIs .none "NoneType" := by trivial
  show wpAny _ _ ((int_private% "intFromObject") .none >>= fun v => _) _ _ _
  refine wpAny_bind ?_
  show wpAny _ _ (callSpecial? .none "__int__" >>= fun r => _) _ _ _
  refine wpAny_bind ?_
  unfold callSpecial?
  refine wpAny_bind (wpAny_specialOf hT none_int ?_)
  refine wpAny_pure ?_
  refine wpAny_bind (wpAny_specialOf hT none_idx ?_)
  rw [if_neg (show ¬ ((none : Option Value).isSome = true) from Bool.false_ne_true)]
  refine wpAny_bind (wpAny_specialOf hT none_trunc ?_)
  dsimp only
  refine wpAny_bind (wpAny_of_eq (a := none) rfl ?_)
  dsimp only
  refine wpAny_bind (wpAny_specialOf hT none_buffer ?_)
  dsimp only
  refine wpAny_bind (wpAny_rule ?_)
  refine wpAny_bind (wpAny_of_eq (a := "NoneType") (by unfold PySem.typeNameOf; exact none_name) ?_)
  exact wpAny_raiseErrorMade plainExc_TypeError hA hE (by rw [sizeLine_eq]; decide +kernel)
end
end Fq
end
section
/-! FqX -/
open PySem PySem.W PySem.Calls PySem.Spec PyProof.Rows
namespace Fq
theorem vp_x (l : Addr) (x y : Int) (t u v : Tok) (nn : Nat) (news : List (Addr × Obj)) : ConD 6 47 [.ref l] news ((l, listOf #[.int x t, .str (Str.ofString "x") u, .int y v] nn) ∈ news) (Raises "ValueError" news) := by
  unfold ConD
  k_fill
  intro prog hprog w p loose mean mg mb dp un gd cn cs a ccd cl outer A₀ base h₀ L m s Q E B F X N T hk hpre hd hu hret
  have hm := hpre
  refine wpC_call ?_
  k_dflt ((refine' codeC_def ?k1 ?k2 ?k3 ?k4 ?k5 ?kA ?kF ?kK ?k6 ?k7 ?k8 ?k9 ?kB ?_ ?c2 ?c3 ?c4 ?c5; (case kA => exact rfl); (case kF => exact rfl); (case kK => assumption); (case k1 => k_asm); (case k2 => k_asm); (case k3 => k_asm); (case k4 => k_asm); (case k5 => k_asm); (case k6 => k_is); (case k7 => k_is); (case k8 => ktr_room); (case k9 => exact BindsTo.of_eq rfl); (case c5 => decide); (case kB => exact locs rfl); (case c2 => exact rfl); (case c3 => exact rfl); (case c4 => exact rfl); intro g' L' h' FG' F' N' B' X' T'; (try dsimp only); (try k_lift B'); (try k_fold)))
  k_with_none
  refine wpC_execs_cons (wpC_Assign (wpC_Call ?_))
  k_steps
  refine wpC_callWith_type rfl (wpC_args0 ?_)
  refine BA.make_0 (by k_asm) (by k_asm) ?_
  intro b1 h1 F1 N1 hl1
  k_steps
  rename Below _ _ _ _ => B1
  refine wpC_execs_cons ?_
  refine comp_assign B1 rfl rfl rfl (by decide) rfl (by decide) rfl (fun _ => rfl) rfl rfl ?_
  k_with "subscriptTail Name Slice ref ref" => ((rename Fr _ _ _ _ => lF9); (rename News _ _ _ _ => lN9); refine krv_lit (zs := [.int y v, .str (Str.ofString "x") u, .int x t]) lF9 lN9 ⟨_, (lN9 _ (List.mem_cons_of_mem _ hm)).1, rfl, _, rfl⟩ (IsPart.int _ _) rfl ?_ (by with_unfolding_all rfl) (by kmk_pure) (by rw [sizeLine_eq]; show 3 ≤ _; decide); intro D2 h2 F2 N2 l2)
  k_steps
  refine ⟨_, _, _, _, _, (fun i z => match (#[.int y v, .str (Str.ofString "x") u, .int x t] : Array Value)[i]? with | some (.int n _) => ∃ k, z = .int n k | _ => False), "ValueError", rfl, by show 3 ≤ 1000; decide, F2, N2, List.Mem.head _, .list _, ?_, ?_, ?_⟩
  · intro i v2 h5 tk5 C5 mC5 Q5 E5 hv5 hn5 hx5 F5 ok5 bad5
    refine wpC_Call ?_
    k_steps
    refine wpC_callWith_type rfl (wpC_args (spliced_more (wpAny_Name (wpAny_loadName_local rfl rfl hn5 hx5 (spliced_none ?_)) (by decide))))
    match i, hv5 with
    | 0, hv5 => cases hv5; exact wpC_any (call_int_int (ok5 _ _ ⟨_, rfl⟩))
    | 1, hv5 => cases hv5; exact int_x rfl fun h' tk' e hx => bad5 h' tk' e hx fun z hz => hz
    | 2, hv5 => cases hv5; exact wpC_any (call_int_int (ok5 _ _ ⟨_, rfl⟩))
  · intro D5 ys h5 tk5 hlen hF5 F5 N5 hlt5
    exfalso
    have := hF5 1 _ (List.getElem?_eq_getElem (by rw [hlen]; show 1 < 3; decide))
    exact this
  · intro i e5 h5 tk5 hi5 hn5 R5 U5
    exact hret.of (fun _ h => List.mem_cons_of_mem _ (List.mem_cons_of_mem _ h)) (by assumption) R5 U5
theorem vp_none (l : Addr) (x : Int) (t : Tok) (nn : Nat) (news : List (Addr × Obj)) : ConD 6 47 [.ref l] news ((l, listOf #[.int x t, .none] nn) ∈ news) (Raises "TypeError" news) := by
  unfold ConD
  k_fill
  intro prog hprog w p loose mean mg mb dp un gd cn cs a ccd cl outer A₀ base h₀ L m s Q E B F X N T hk hpre hd hu hret
  have hm := hpre
  refine wpC_call ?_
  k_dflt ((refine' codeC_def ?k1 ?k2 ?k3 ?k4 ?k5 ?kA ?kF ?kK ?k6 ?k7 ?k8 ?k9 ?kB ?_ ?c2 ?c3 ?c4 ?c5; (case kA => exact rfl); (case kF => exact rfl); (case kK => assumption); (case k1 => k_asm); (case k2 => k_asm); (case k3 => k_asm); (case k4 => k_asm); (case k5 => k_asm); (case k6 => k_is); (case k7 => k_is); (case k8 => ktr_room); (case k9 => exact BindsTo.of_eq rfl); (case c5 => decide); (case kB => exact locs rfl); (case c2 => exact rfl); (case c3 => exact rfl); (case c4 => exact rfl); intro g' L' h' FG' F' N' B' X' T'; (try dsimp only); (try k_lift B'); (try k_fold)))
  k_with_none
  refine wpC_execs_cons (wpC_Assign (wpC_Call ?_))
  k_steps
  refine wpC_callWith_type rfl (wpC_args0 ?_)
  refine BA.make_0 (by k_asm) (by k_asm) ?_
  intro b1 h1 F1 N1 hl1
  k_steps
  rename Below _ _ _ _ => B1
  refine wpC_execs_cons ?_
  refine comp_assign B1 rfl rfl rfl (by decide) rfl (by decide) rfl (fun _ => rfl) rfl rfl ?_
  k_with "subscriptTail Name Slice ref ref" => ((rename Fr _ _ _ _ => lF9); (rename News _ _ _ _ => lN9); refine krv_lit (zs := [.none, .int x t]) lF9 lN9 ⟨_, (lN9 _ (List.mem_cons_of_mem _ hm)).1, rfl, _, rfl⟩ (IsPart.int _ _) rfl ?_ (by with_unfolding_all rfl) (by kmk_pure) (by rw [sizeLine_eq]; show 2 ≤ _; decide); intro D2 h2 F2 N2 l2)
  k_steps
  refine ⟨_, _, _, _, _, (fun i z => match (#[.none, .int x t] : Array Value)[i]? with | some (.int n _) => ∃ k, z = .int n k | _ => False), "TypeError", rfl, by show 2 ≤ 1000; decide, F2, N2, List.Mem.head _, .list _, ?_, ?_, ?_⟩
  · intro i v2 h5 tk5 C5 mC5 Q5 E5 hv5 hn5 hx5 F5 ok5 bad5
    refine wpC_Call ?_
    k_steps
    refine wpC_callWith_type rfl (wpC_args (spliced_more (wpAny_Name (wpAny_loadName_local rfl rfl hn5 hx5 (spliced_none ?_)) (by decide))))
    match i, hv5 with
    | 0, hv5 => cases hv5; exact int_None rfl fun h' tk' e hx => bad5 h' tk' e hx fun z hz => hz
    | 1, hv5 => cases hv5; exact wpC_any (call_int_int (ok5 _ _ ⟨_, rfl⟩))
  · intro D5 ys h5 tk5 hlen hF5 F5 N5 hlt5
    exfalso
    have := hF5 0 _ (List.getElem?_eq_getElem (by rw [hlen]; show 0 < 2; decide))
    exact this
  · intro i e5 h5 tk5 hi5 hn5 R5 U5
    exact hret.of (fun _ h => List.mem_cons_of_mem _ (List.mem_cons_of_mem _ h)) (by assumption) R5 U5
end Fq
end
section
/-! FqW -/
open PySem PySem.W PySem.Calls PySem.Spec PyProof.Rows
namespace Fq
section
variable {prog : Program} {w : World} {A : Around} {E : Value → Shared → Prop} {s : Shared} {env : Env} {h₀ : Heap} {L : Addr} {Q : Flow → Shared → Prop}
/-- a while whose state is named values, in clean contexts -/
theorem wpC_while_st {σ : Type} {test : Expr} {body : List Stmt} {pos : Pos} {m₀ : Str → Option Value} (Led : σ → List (Addr × Obj)) (ps : σ → List (Str × Value)) (Facts : σ → Prop) (stored : List Str) (P : σ → Prop) (μ : σ → Nat) (c₀ : σ)
    (F : Fr h₀ L s.heap m₀) (N : News h₀ L s.heap (Led c₀)) (hf : Facts c₀) (hk : ∀ p ∈ ps c₀, m₀ p.1 = some p.2) (hp : P c₀)
    (turn : ∀ (c : σ) (u : Str → Option Value) h tk, Facts c → P c → Fr h₀ L h (kstB (fun z => if stored.contains z then u z else m₀ z) (ps c)) → News h₀ L h (Led c) →
      wpC (model prog w) A (isTrue test env (eval test env)) (fun b s₂ =>
        if b = true then wpC (model prog w) A (execs body env) (KswPost h₀ L s Led ps Facts stored m₀ P μ Q c) E s₂ else Q .next s₂) E { s with heap := h, toks := tk })
    (hE : PassesOwn (model prog w) A env E := by passes_own) :
    wpC (model prog w) A (exec (.While test body [] pos) env) Q E s := by
  refine wpC_While (codeC_while (fun n s' => ∃ h tk c m, s' = { s with heap := h, toks := tk } ∧ μ c = n ∧ Facts c ∧ (∀ p ∈ ps c, m p.1 = some p.2) ∧ (∀ z, (∀ p ∈ ps c, z ≠ p.1) → stored.contains z = false → m z = m₀ z) ∧ P c ∧ Fr h₀ L h m ∧ News h₀ L h (Led c)) ?_ (μ c₀)
    ⟨s.heap, s.toks, c₀, m₀, rfl, rfl, hf, hk, fun _ _ _ => rfl, hp, F, N⟩)
  rintro n s' ⟨h, tk, c, m, rfl, rfl, hf', h1, h2, hp', F', N'⟩
  refine wpC_mono (turn c m h tk hf' hp' (ksw_fr h1 h2 F') N') (fun b s₂ q => ?_) hE
  cases b with
  | false => simpa using q
  | true =>
    simp only [if_true] at q ⊢
    refine wpC_mono q (fun f s₃ q3 => ?_) hE
    have go : KswEnd h₀ L s Led ps Facts stored m₀ P μ c s₃ → ∃ m, m < μ c ∧ ∃ h tk c m_1, s₃ = { s with heap := h, toks := tk } ∧ μ c = m ∧ Facts c ∧ (∀ p ∈ ps c, m_1 p.1 = some p.2) ∧ (∀ z, (∀ p ∈ ps c, z ≠ p.1) → stored.contains z = false → m_1 z = m₀ z) ∧ P c ∧ Fr h₀ L h m_1 ∧ News h₀ L h (Led c) := by
      rintro ⟨c', h', tk', m', news', e, F2, N2, hn, hf2, hk2, hr2, hp2, hm2⟩
      exact ⟨μ c', hm2, h', tk', c', m', e, rfl, hf2, hk2, hr2, hp2, F2, fun p hp => N2 p (hn p hp)⟩
    cases f with
    | next => exact go q3
    | cont => exact go q3
    | brk => exact q3
    | ret v => exact q3
theorem for_end {σ : Type} {s : Shared} {I : Addr} {oI : Obj} {Led : σ → List (Addr × Obj)} {ps : σ → List (Str × Value)} {stored : List Str} {m₀ m' : Str → Option Value} {P : σ → Prop} {h' : Heap} {tk' : Nat} {news' : List (Addr × Obj)} (c' : σ)
    (F : Fr h₀ L h' m') (N : News h₀ L h' news') (hn : ∀ p ∈ (I, oI) :: Led c', p ∈ news') (hk : ∀ p ∈ ps c', m' p.1 = some p.2) (hr : ∀ z, (∀ p ∈ ps c', z ≠ p.1) → stored.contains z = false → m' z = m₀ z) (hp : P c') :
    ∃ (c' : σ) (h'' : Heap) (tk'' : Nat) (m' : Str → Option Value) (news' : List (Addr × Obj)), { s with heap := h', toks := tk' } = { s with heap := h'', toks := tk'' } ∧ Fr h₀ L h'' m' ∧ News h₀ L h'' news' ∧ (∀ p ∈ (I, oI) :: Led c', p ∈ news') ∧ (∀ p ∈ ps c', m' p.1 = some p.2) ∧ (∀ z, (∀ p ∈ ps c', z ≠ p.1) → stored.contains z = false → m' z = m₀ z) ∧ P c' :=
  ⟨c', h', tk', m', news', rfl, F, N, hn, hk, hr, hp⟩
abbrev iterO (D : Addr) (i : Nat) : Obj := { cls := .type "list_iterator", data := .fields #[.ref D, .int i 0] }
/-- a for over a made list whose state is named values, in clean contexts -/
theorem wpC_for_st {σ : Type} {x : Str} {px pos : Pos} {iter : Expr} {body : List Stmt} {D : Addr} {its : Array Value} {nn : Nat} {m₀ : Str → Option Value} (Led : σ → List (Addr × Obj)) (ps : σ → List (Str × Value)) (stored : List Str) (P : Nat → σ → Prop) (c₀ : σ)
    (hA : A.handled = none) (hL : env.locals = L) (hx : env.kindOf x = some .local) (hk0 : env.scope.kind = .function) (hxs : stored.contains x = true)
    (F : Fr h₀ L s.heap m₀) (N : News h₀ L s.heap (Led c₀)) (hD : ∀ c, (D, listOf its nn) ∈ Led c) (hadr : ∀ c, (Led c).map (·.1) = (Led c₀).map (·.1)) (hk : ∀ p ∈ ps c₀, m₀ p.1 = some p.2) (hxp : ∀ c, ∀ p ∈ ps c, p.1 ≠ x) (hp : P 0 c₀)
    (turn : ∀ (c : σ) (i : Nat) (v : Value) (I : Addr) (oI : Obj) (u : Str → Option Value) h tk, its[i]? = some v → P i c → (∀ p ∈ Led c₀, p.1 < I) → Fr h₀ L h (fun y => if y = x then some v else kstB (fun z => if stored.contains z then u z else m₀ z) (ps c) y) → News h₀ L h ((I, oI) :: Led c) →
      wpC (model prog w) A (execs body env) (fun f s₃ => match f with
        | .ret v => Q (.ret v) s₃
        | .brk => Q .next s₃
        | _ => ∃ (c' : σ) (h' : Heap) (tk' : Nat) (m' : Str → Option Value) (news' : List (Addr × Obj)), s₃ = { s with heap := h', toks := tk' } ∧ Fr h₀ L h' m' ∧ News h₀ L h' news' ∧ (∀ p ∈ (I, oI) :: Led c', p ∈ news') ∧ (∀ p ∈ ps c', m' p.1 = some p.2) ∧ (∀ z, (∀ p ∈ ps c', z ≠ p.1) → stored.contains z = false → m' z = m₀ z) ∧ P (i + 1) c') E { s with heap := h, toks := tk })
    (done : ∀ (c : σ) (u : Str → Option Value) h tk, P its.size c → Fr h₀ L h (kstB (fun z => if stored.contains z then u z else m₀ z) (ps c)) → News h₀ L h (Led c) → Q .next { s with heap := h, toks := tk })
    (hi : wpAny (model prog w) A (eval iter env) (fun xv s₁ => xv = .ref D ∧ s₁ = s) E s)
    (hs : ∀ x, foldedSetIterable iter env x = pure x := by intro _; rfl) (hE : PassesOwn (model prog w) A env E := by passes_own) :
    wpC (model prog w) A (exec (.For (.Name x px) iter body [] pos) env) Q E s := by
  refine wpC_For (wpC_any (wpAny_mono hi (fun xv s₁ h => ?_) fun _ _ e => e)) hs
  obtain ⟨rfl, rfl⟩ := h
  have hg := (N _ (hD c₀)).1
  have hl : s₁.heap.IsList D its := ⟨_, hg, rfl, _, rfl⟩
  have hltD := Heap.lt_size hg
  refine wpAny_pyIter_list hl ?_
  have hLlt : L < s₁.heap.objs.size := F.ns.lt
  have hlt : ∀ p ∈ Led c₀, p.1 < s₁.heap.objs.size := fun p hp => Heap.lt_size (N p hp).1
  have hltc : ∀ c, ∀ p ∈ Led c, p.1 < s₁.heap.objs.size := fun c p hp => by
    have : p.1 ∈ (Led c₀).map (·.1) := by rw [← hadr c]; exact List.mem_map_of_mem hp
    obtain ⟨q, hq, e⟩ := List.mem_map.mp this
    rw [← e]; exact hlt q hq
  have hI₀ : h₀.get? s₁.heap.objs.size = none := next_is_new F
  have W := Walks.list (prog := prog) (w := w) hA s₁.heap.objs.size D (Nat.ne_of_lt hltD) its
  refine codeC_for (fun n s' => ∃ h tk i c m oI, s' = { s₁ with heap := h, toks := tk } ∧ i ≤ its.size ∧ n = its.size + 1 - i ∧ (∀ p ∈ ps c, m p.1 = some p.2) ∧ (∀ z, (∀ p ∈ ps c, z ≠ p.1) → stored.contains z = false → m z = m₀ z) ∧ P i c ∧ Fr h₀ L h m ∧ h.IsListIter s₁.heap.objs.size D i ∧ News h₀ L h ((s₁.heap.objs.size, oI) :: Led c)) ?_ (its.size + 1)
    ⟨_, _, 0, c₀, m₀, _, rfl, Nat.zero_le _, rfl, hk, fun _ _ _ => rfl, hp, F.push _, ⟨_, Heap.get?_push_size _ rfl, rfl, rfl⟩, N.push F _⟩
  rintro n s' ⟨h, tk, i, c, m, oI, rfl, hi', rfl, h1, h2, hp', F', hit, N'⟩
  have hls : h.IsList D its := ⟨_, (N' _ (.tail _ (hD c))).1, rfl, _, rfl⟩
  by_cases hlt' : i < its.size
  · refine W.item i _ _ _ hlt' ⟨hit, hls⟩ fun v h₂ tk₂ hPv hst₂ hk₂ => ?_
    have hLI : L ≠ s₁.heap.objs.size := Nat.ne_of_lt hLlt
    have F₂ := LCg.fr_but F' hk₂ hLI hI₀
    obtain ⟨o2, ho2, r2⟩ := id hst₂.1
    have N₂ : News h₀ L h₂ ((s₁.heap.objs.size, o2) :: Led c) := fun p hp => by
      rcases List.mem_cons.mp hp with e | hp
      · rw [e]; exact ⟨ho2, Ne.symm hLI, hI₀⟩
      · have z := N' p (.tail _ hp)
        exact ⟨hk₂ _ _ (by simpa using Nat.ne_of_lt (hltc c p hp)) z.1, z.2⟩
    have hFx := ksw_fr h1 h2 F₂
    refine wpAny_assign_Name (wpAny_storeName_local hx (hL ▸ hFx.ns) (fun h₃ hn₃ hs₃ => ?_) (by simp [hk0]))
    rw [hL] at hn₃ hs₃
    have F₃ := hFx.set hn₃ hs₃
    have N₃ := N₂.set hs₃
    refine wpC_mono (turn c i v s₁.heap.objs.size o2 _ h₃ _ hPv hp' hlt F₃ N₃) (fun f s₃ q => ?_) hE
    have go : (∃ (c' : σ) (h' : Heap) (tk' : Nat) (m' : Str → Option Value) (news' : List (Addr × Obj)), s₃ = { s₁ with heap := h', toks := tk' } ∧ Fr h₀ L h' m' ∧ News h₀ L h' news' ∧ (∀ p ∈ (s₁.heap.objs.size, o2) :: Led c', p ∈ news') ∧ (∀ p ∈ ps c', m' p.1 = some p.2) ∧ (∀ z, (∀ p ∈ ps c', z ≠ p.1) → stored.contains z = false → m' z = m₀ z) ∧ P (i + 1) c') →
        ∃ m_1, m_1 < its.size + 1 - i ∧ ∃ h tk i c m oI, s₃ = { s₁ with heap := h, toks := tk } ∧ i ≤ its.size ∧ m_1 = its.size + 1 - i ∧ (∀ p ∈ ps c, m p.1 = some p.2) ∧ (∀ z, (∀ p ∈ ps c, z ≠ p.1) → stored.contains z = false → m z = m₀ z) ∧ P i c ∧ Fr h₀ L h m ∧ h.IsListIter s₁.heap.objs.size D i ∧ News h₀ L h ((s₁.heap.objs.size, oI) :: Led c) := by
      rintro ⟨c', h', tk', m', news', e, F5, N5, hn5, hk5, hr5, hp5⟩
      have N6 : News h₀ L h' ((s₁.heap.objs.size, o2) :: Led c') := fun p hp => N5 p (hn5 p hp)
      exact ⟨its.size + 1 - (i + 1), by omega, h', tk', i + 1, c', m', o2, e, hlt', rfl, hk5, hr5, hp5, F5, ⟨o2, (N6 _ (.head _)).1, r2⟩, N6⟩
    cases f with
    | next => exact go q
    | cont => exact go q
    | brk => exact q
    | ret v => exact q
  · obtain rfl : i = its.size := Nat.le_antisymm hi' (Nat.not_lt.mp hlt')
    refine W.done _ _ _ ⟨hit, hls⟩ fun h₂ tk₂ hk₂ => ?_
    have hLI : L ≠ s₁.heap.objs.size := Nat.ne_of_lt hLlt
    have F₂ := LCg.fr_but F' hk₂ hLI hI₀
    exact done c _ h₂ _ hp' (ksw_fr h1 h2 F₂) fun p hp => by
      have z := N' p (.tail _ hp)
      exact ⟨hk₂ _ _ (by simpa using Nat.ne_of_lt (hltc c p hp)) z.1, z.2⟩
end
end Fq
end
section
/-! FqN2 -/
open PySem PySem.W PySem.Calls PySem.Spec PyProof.Rows
namespace Fq
/-! the packer's steps -/
theorem byteArr_push (os : List Int) (n : Int) : (byteArr os).push n.toNat.toUInt8 = byteArr (os ++ [n]) := by simp [byteArr]
theorem byteArr_reverse (os : List Int) : (byteArr os).reverse = byteArr os.reverse := by simp [byteArr]
theorem lows_rev (j : Nat) (z : Int) : (lows (j + 1) z).reverse = (lows j z).reverse ++ [z / 256 ^ j % 256] := by rw [lows, List.reverse_cons]
theorem low_and {v : Int} (h : 0 ≤ v) : Builtin.bitAnd v 255 = v % 256 := by rw [bitAnd_m8]
theorem low_shift (z : Int) (j : Nat) : (z / 256 ^ j).fdiv (2 ^ Int.toNat 8) = z / 256 ^ (j + 1) := by
  have e : (2 : Int) ^ Int.toNat 8 = 256 := by decide
  rw [e, Int.fdiv_eq_ediv_of_nonneg _ (by decide), Int.pow_succ, ← Int.ediv_ediv_of_nonneg (Int.le_of_lt (Int.pow_pos (by decide)))]
/-- the packer's loop goes on -/
theorem pack_on {z : Int} {j : Nat} (h0 : 0 ≤ z) (h1 : z < 2 ^ 41) (hj : j ≤ ext z) : ((bitsN z : Int) - 8 * j > 8 - ((j : Int) + 1) ↔ j < ext z) := by
  have he := ext_le h0 h1
  unfold ext at *
  omega
theorem enc_rev (z : Int) : (enc z).reverse = (lows (ext z) z).reverse ++ [encHead (ext z) (z / 256 ^ ext z)] := by unfold enc; rw [List.reverse_cons]
end Fq
end
section
/-! FqX2 -/
open PySem PySem.W PySem.Calls PySem.Spec PyProof.Rows
namespace Fq

def packed (ws : List Int) : List Int := ws.flatMap fun z => (enc (zz z)).reverse
theorem packed_snoc (ws : List Int) (z : Int) : packed (ws ++ [z]) = packed ws ++ (enc (zz z)).reverse := by simp [packed]
theorem packed_rev : ∀ zs : List Int, packed zs.reverse = (encAll (zs.map zz)).reverse
  | [] => rfl
  | z :: r => by
    rw [List.reverse_cons, packed_snoc, packed_rev r]
    show _ = (enc (zz z) ++ encAll (r.map zz)).reverse
    rw [List.reverse_append]
theorem ints_of : ∀ {ys : List Value} {zs : List Int}, ys.length = zs.length → (∀ (i : Nat) (z : Value), ys[i]? = some z → ∃ n k, zs[i]? = some n ∧ z = Value.int n k) → IntsAre ys zs
  | [], [], _, _ => .nil
  | y :: ys, z :: zs, hl, h => by
    obtain ⟨n, k, e1, e2⟩ := h 0 y rfl
    cases e1
    rw [e2]
    exact .cons _ _ (ints_of (Nat.succ.inj hl) fun i v hv => h (i + 1) v hv)
abbrev VpP (z : Int) (j : Nat) (v nb : Int) : Prop := j ≤ ext z ∧ v = z / 256 ^ j ∧ nb = (bitsN z : Int) - 8 * j ∧ 0 ≤ v ∧ v < 2199023255552
theorem vp_start {z : Int} (h0 : 0 ≤ z) (h1 : z < 2 ^ 41) : VpP z 0 z (bitsN z : Nat) := ⟨Nat.zero_le _, by simp, by omega, h0, by simpa using h1⟩
theorem vp_turn {z v nb : Int} {j : Nat} (h : VpP z j v nb) (hj : j < ext z) : VpP z (j + 1) (v.fdiv (2 ^ Int.toNat 8)) (nb - 8) := by
  obtain ⟨_, h2, h3, h4, h5⟩ := h
  refine ⟨hj, by rw [h2, low_shift], by omega, ?_, ?_⟩ <;> rw [show (2 : Int) ^ Int.toNat 8 = 256 from by decide, Int.fdiv_eq_ediv_of_nonneg _ (by decide)] <;> omega
theorem contains_ne {stored : List Str} {x y : Str} (hy : stored.contains y = false) (hx : stored.contains x = true) : y ≠ x := fun e => by rw [e, hx] at hy; cases hy
theorem all4 {α : Type} {a b c d : α} {P : α → Prop} (h1 : P a) (h2 : P b) (h3 : P c) (h4 : P d) : ∀ p ∈ [a, b, c, d], P p := by
  intro p hp
  simp only [List.mem_cons, List.not_mem_nil, or_false] at hp
  rcases hp with e | e | e | e <;> rw [e] <;> assumption
theorem res_at {a : Int} {t u : Tok} (h : ¬ 8 < a) : some (Value.int (if 8 < a then 8 else a) (if 8 < a then t else u)) = some (.int a u) := by rw [if_neg h, if_neg h]
theorem packed_le : ∀ {l : List Int} {k : Nat}, (∀ x ∈ l, 0 ≤ zz x ∧ zz x < 2 ^ 41) → l.length ≤ k → (packed l).length ≤ 6 * k
  | [], _, _, _ => Nat.zero_le _
  | x :: l, 0, _, h => absurd h (by simp)
  | x :: l, k + 1, hx, h => by
    have ih := packed_le (l := l) (k := k) (fun y hy => hx y (List.mem_cons_of_mem _ hy)) (by simpa using h)
    have h1 := ext_le (hx x List.mem_cons_self).1 (hx x List.mem_cons_self).2
    show ((enc (zz x)).reverse ++ packed l).length ≤ _
    rw [List.length_append, List.length_reverse, enc_length]
    omega
theorem vp_c (l : Addr) (o : Obj) (vs : List Value) (zs : List Int) (news : List (Addr × Obj)) : ConD 6 47 [.ref l] news ((l, o) ∈ news ∧ SeqO vs.toArray o ∧ IntsAre vs zs ∧ (∀ z ∈ zs, -(2 ^ 39) ≤ z ∧ z < 2 ^ 39) ∧ zs.length ≤ 2) (Ret (fun t => .bytes (byteArr (encAll (zs.map zz))) t) news) := by
  unfold ConD
  k_fill
  intro prog hprog w p loose mean mg mb dp un gd cn cs a ccd cl outer A₀ base h₀ L m s Q E B F X N T hk hpre hd hu hret
  obtain ⟨hm, hSq, hiv, hr, hl2⟩ := hpre
  have hlv := hiv.length
  refine wpC_call ?_
  k_dflt ((refine' codeC_def ?k1 ?k2 ?k3 ?k4 ?k5 ?kA ?kF ?kK ?k6 ?k7 ?k8 ?k9 ?kB ?_ ?c2 ?c3 ?c4 ?c5; (case kA => exact rfl); (case kF => exact rfl); (case kK => assumption); (case k1 => k_asm); (case k2 => k_asm); (case k3 => k_asm); (case k4 => k_asm); (case k5 => k_asm); (case k6 => k_is); (case k7 => k_is); (case k8 => ktr_room); (case k9 => exact BindsTo.of_eq rfl); (case c5 => decide); (case kB => exact locs rfl); (case c2 => exact rfl); (case c3 => exact rfl); (case c4 => exact rfl); intro g' L' h' FG' F' N' B' X' T'; (try dsimp only); (try k_lift B'); (try k_fold)))
  k_with_none
  refine wpC_execs_cons (wpC_Assign (wpC_Call ?_))
  k_steps
  refine wpC_callWith_type rfl (wpC_args0 ?_)
  refine BA.make_0 (by k_asm) (by k_asm) ?_
  intro b1 h1 F1 N1 hl1
  k_steps
  rename Below _ _ _ _ => B1
  rename Top _ _ _ _ _ _ => T1
  rename (Frag.In _ _) => X1
  refine wpC_execs_cons ?_
  refine comp_assign B1 rfl rfl rfl (by decide) rfl (by decide) rfl (fun _ => rfl) rfl rfl ?_
  k_with "subscriptTail Name Slice ref ref" => ((rename Fr _ _ _ _ => lF9); (rename News _ _ _ _ => lN9); refine slice_back (zs := vs.reverse) lF9 lN9 (lN9 _ (List.mem_cons_of_mem _ hm)).1 hSq (IsPart.int _ _) rfl ?_ (by with_unfolding_all rfl) (by kmk_pure) (by rw [sizeLine_eq, List.size_toArray]; omega); intro D2 o2 h2 S2 F2 N2 l2)
  k_steps
  have hiw := hiv.reverse
  refine ⟨_, _, _, _, _, (fun i z => ∃ n k, zs.reverse[i]? = some n ∧ z = .int n k), "ValueError", rfl, by rw [List.size_toArray, List.length_reverse]; omega, F2, N2, List.Mem.head _, S2, ?_, ?_, ?_⟩
  · intro i v2 h5 tk5 C5 mC5 Q5 E5 hv5 hn5 hx5 F5 ok5 bad5
    obtain ⟨n5, t5, e5, hn6⟩ := IntsAre.at hiw i v2 (by simpa using hv5)
    subst e5
    refine wpC_Call ?_
    k_steps
    refine wpC_callWith_type rfl (wpC_args (spliced_more (wpAny_Name (wpAny_loadName_local rfl rfl hn5 hx5 (spliced_none ?_)) (by decide))))
    exact wpC_any (call_int_int (ok5 _ _ ⟨_, _, hn6, rfl⟩))
  · intro D5 ys h5 tk5 hlen hF5 F5 N5 hlt5
    rw [List.size_toArray, List.length_reverse] at hlen
    have hiy : IntsAre ys zs.reverse := ints_of (by rw [List.length_reverse]; omega) hF5
    have N6 : News _ _ h5 ((b1, BA.baObj (byteArr [])) :: (D5, LCg.lst ys) :: news) := fun p hp => by
      rcases List.mem_cons.mp hp with e | hp
      · rw [e]; exact N5 _ (.tail _ (.tail _ (.head _)))
      · rcases List.mem_cons.mp hp with e | hp
        · rw [e]; exact N5 _ (.head _)
        · exact N5 _ (.tail _ (.tail _ (.tail _ hp)))
    have hbD : b1 < D5 := hlt5 (b1, BA.baObj #[]) (.tail _ (.head _))
    have hap : ∀ p ∈ ((D5, LCg.lst ys) :: news : List (Addr × Obj)), p.1 ≠ b1 := fun p hp => by
      rcases List.mem_cons.mp hp with e | hp
      · rw [e]; exact Nat.ne_of_gt hbD
      · exact Nat.ne_of_lt (hl1 p hp)
    clear N5 hlt5
    refine wpC_execs_cons ?_
    refine wpC_for_st (σ := List Int) (D := D5) (its := ys.toArray) (nn := ys.length) (fun c => (b1, BA.baObj (byteArr c)) :: (D5, LCg.lst ys) :: news) (fun _ => []) ["value", "v", "num_extra_bytes", "num_bits", "reserved_bits", "n"]
      (fun i c => c = packed (zs.reverse.take i)) [] rfl rfl rfl rfl (by decide +kernel) F5 N6 (fun c => .tail _ (.head _)) (fun c => rfl) (fun p hp => nomatch hp) (fun _ p hp => nomatch hp) rfl ?_ ?_ ?_
    · intro c i v2 I oI u6 h6 tk6 hv6 hP6 hI6 F6 N7
      obtain ⟨z, kz, ez, hz6⟩ := IntsAre.at hiy i v2 (by simpa using hv6)
      subst ez
      have hrz := hr z (List.mem_reverse.mp (List.mem_of_getElem? hz6))
      have hz0 := zz_nonneg z
      have hz1 : zz z < 2 ^ 41 := Int.lt_trans (zz_lt hrz.1 hrz.2) (by decide)
      have e7 : zs.reverse.take (i + 1) = zs.reverse.take i ++ [z] := by rw [List.take_add_one, hz6]; rfl
      have hIb : b1 < I := hI6 (b1, BA.baObj (byteArr [])) (.head _)
      have hcl : (byteArr c).size ≤ 12 := by
        rw [byteArr_size, hP6]
        refine packed_le (l := zs.reverse.take i) (k := 2) (fun x hx => ?_) ?_
        · have hxz := hr x (List.mem_reverse.mp (List.mem_of_mem_take hx))
          exact ⟨zz_nonneg x, Int.lt_trans (zz_lt hxz.1 hxz.2) (by decide)⟩
        · rw [List.length_take, List.length_reverse]; omega
      have N8 : News _ _ h6 ((b1, BA.baObj (byteArr c)) :: (I, oI) :: (D5, LCg.lst ys) :: news) := fun p hp => by
        rcases List.mem_cons.mp hp with e | hp
        · rw [e]; exact N7 _ (.tail _ (.head _))
        · rcases List.mem_cons.mp hp with e | hp
          · rw [e]; exact N7 _ (.head _)
          · exact N7 _ (.tail _ (.tail _ hp))
      have hap7 : ∀ p ∈ ((I, oI) :: (D5, LCg.lst ys) :: news : List (Addr × Obj)), p.1 ≠ b1 := fun p hp => by
        rcases List.mem_cons.mp hp with e | hp
        · rw [e]; exact Nat.ne_of_gt hIb
        · exact hap p hp
      clear N7 N6 F5
      refine wpC_leafS ?_
      k_with "call ref" => ((refine (encode_c _ _ _ prog hprog w p loose mean mg mb) _ _ _ _ _ _ _ _ _ _ _ _ _ _ _ _ _ (by k_asm) (by k_asm) (by k_asm) (by k_asm) (by k_asm) rfl ?_ (by ktr_room) (by ktr_units) ?_); (exact ⟨by omega, by omega⟩); (intro _ _ _ _ _); (try dsimp only); (try k_fold))
      k_steps
      k_with "getMethod ref" => ((rename News _ _ _ ((_, BA.baObj _) :: _) => lN9); first | refine baMethod lN9 BA.slot_append ty_append ?_ | refine baMethod lN9 BA.slot_reverse ty_reverse ?_)
      refine wpC_execs_cons (wpC_If ?_)
      refine wpC_any ?_
      k_steps
      · refine wpC_execs_cons (wpC_Expr (wpC_MethodCall ?_))
        k_steps
        refine wpC_callWith_builtin rfl (wpC_args ?_)
        k_steps
        (rename News _ _ _ ((_, BA.baObj _) :: _) => lN9)
        refine BA.append_N (by k_asm) lN9 hap7 hz0 (by omega) (by rw [sizeLine_eq]; omega) ?_
        intro h2 F2 N2
        dsimp only
        refine wpC_execs_nil ?_
        dsimp only
        refine wpC_execs_nil ?_
        dsimp only
        refine for_end (packed (zs.reverse.take (i + 1))) F2 N2 ?_ (fun p hp => nomatch hp) ?_ rfl
        · rw [byteArr_push, e7, packed_snoc, ← hP6, enc_small hz0 (by assumption)]
          exact fun p hp => by
            rcases List.mem_cons.mp hp with e | hp
            · rw [e]; exact .tail _ (.head _)
            · rcases List.mem_cons.mp hp with e | hp
              · rw [e]; exact .head _
              · exact .tail _ (.tail _ hp)
        · intro y _ hs
          have h1 := contains_ne (x := Str.ofString "value") hs (by decide +kernel)
          have h2 := contains_ne (x := Str.ofString "v") hs (by decide +kernel)
          have h3 := contains_ne (x := Str.ofString "num_extra_bytes") hs (by decide +kernel)
          have h4 := contains_ne (x := Str.ofString "num_bits") hs (by decide +kernel)
          have h5 := contains_ne (x := Str.ofString "reserved_bits") hs (by decide +kernel)
          have h6 := contains_ne (x := Str.ofString "n") hs (by decide +kernel)
          simp [kstB, h1, h2, h3, h4, h5, h6]
      · refine wpC_leafS ?_
        k_steps
        refine wpC_leafS ?_
        k_steps
        refine wpC_leafS ?_
        k_steps
        dsimp only
        (rename Fr _ _ _ _ => lF9); (rename News _ _ _ ((_, BA.baObj _) :: _) => lN9)
        refine wpC_execs_cons (wpC_while_st (σ := Nat × Int × Int × Tok × Tok × Tok × Tok) (fun d => (b1, BA.baObj (byteArr (c ++ (lows d.1 (zz z)).reverse))) :: (I, oI) :: (D5, LCg.lst ys) :: news)
          (fun d => [("num_extra_bytes", .int (d.1 : Nat) d.2.2.2.1), ("num_bits", .int d.2.2.1 d.2.2.2.2.1), ("reserved_bits", .int ((d.1 : Nat) + 1) d.2.2.2.2.2.1), ("v", .int d.2.1 d.2.2.2.2.2.2)]) (fun _ => True) [] (fun d => VpP (zz z) d.1 d.2.1 d.2.2.1) (fun d => ext (zz z) - d.1)
          (0, zz z, (bitsN (zz z) : Nat), _, _, _, _) lF9 (by rw [show (lows 0 (zz z)).reverse = [] from rfl, List.append_nil]; exact lN9) trivial (all4 rfl rfl rfl rfl) (vp_start hz0 hz1) ?_)
        · clear lF9 lN9
          intro d u7 h7 tk7 _ hV7 F7 N7
          obtain ⟨j, v, nb, t1, t2, t3, t4⟩ := d
          dsimp only at hV7 F7 N7 ⊢
          obtain ⟨V1, V2, V3, V4, V5⟩ := id hV7
          have hon := pack_on hz0 hz1 V1
          have hext := ext_le hz0 hz1
          have hbits := (bitsN_iff (k := 41) hz0).mpr hz1
          refine wpC_any ?_
          k_steps
          · dsimp only
            have hlt := hon.mp (by omega)
            refine wpC_leafS ?_
            k_steps
            refine wpC_leafS ?_
            k_steps
            refine wpC_leafS ?_
            k_steps
            dsimp only
            refine wpC_execs_cons (wpC_Expr (wpC_MethodCall ?_))
            k_steps
            refine wpC_callWith_builtin rfl (wpC_args ?_)
            k_steps
            rw [low_and V4]
            (rename News _ _ _ ((_, BA.baObj _) :: _) => lN9)
            refine BA.append_N (by k_asm) lN9 hap7 (by omega) (by omega) (by rw [byteArr_size, List.length_append, List.length_reverse, lows_length, sizeLine_eq]; rw [byteArr_size] at hcl; omega) ?_
            intro h2 F2 N2
            dsimp only
            refine wpC_leafS ?_
            k_steps
            dsimp only
            refine wpC_execs_nil ?_
            (rename Fr _ _ _ _ => lF9)
            (rename News _ _ _ ((_, BA.baObj _) :: _) => lN9)
            refine ksw_end (j + 1, v.fdiv (2 ^ Int.toNat 8), nb - 8, _, _, _, _) lF9 lN9 ?_ trivial (by
              intro p hp
              simp only [List.mem_cons, List.not_mem_nil, or_false] at hp
              rcases hp with e | e | e | e
              · rw [e]; rfl
              · rw [e]; rfl
              · rw [e]; exact res_at (by omega)
              · rw [e]; rfl) ?_ (vp_turn hV7 hlt) (by dsimp only; omega)
            · have eL : byteArr (c ++ (lows (j + 1) (zz z)).reverse) = (byteArr (c ++ (lows j (zz z)).reverse)).push (v % 256).toNat.toUInt8 := by rw [byteArr_push, lows_rev, List.append_assoc, V2]
              dsimp only
              rw [eL]
              exact fun p hp => hp
            · intro y hy _
              have h1 : y ≠ Str.ofString "num_extra_bytes" := hy _ (.head _)
              have h2 : y ≠ Str.ofString "num_bits" := hy _ (.tail _ (.head _))
              have h3 : y ≠ Str.ofString "reserved_bits" := hy _ (.tail _ (.tail _ (.head _)))
              have h4 : y ≠ Str.ofString "v" := hy _ (.tail _ (.tail _ (.tail _ (.head _))))
              simp [kstB, h1, h2, h3, h4]
          · dsimp only
            have hge := mt hon.mpr (by omega)
            have hje : j = ext (zz z) := by omega
            refine wpC_leafS ?_
            k_steps
            refine wpC_leafS ?_
            k_steps
            refine wpC_leafS ?_
            k_steps
            dsimp only
            refine wpC_execs_cons (wpC_Expr (wpC_MethodCall ?_))
            k_steps
            refine wpC_callWith_builtin rfl (wpC_args ?_)
            k_steps
            have hv := hi_range hz0 hz1
            obtain ⟨hE1, hE2, -, -, hE3⟩ := encHead_all hext hv.1 hv.2
            rw [← hje, ← V2] at hE3
            rw [hE3, V2, hje, if_neg (by omega)]
            (rename News _ _ _ ((_, BA.baObj _) :: _) => lN9)
            refine BA.append_N (by k_asm) lN9 hap7 hE1 hE2 (by rw [byteArr_size, List.length_append, List.length_reverse, lows_length, sizeLine_eq]; rw [byteArr_size] at hcl; omega) ?_
            intro h2 F2 N2
            dsimp only
            refine wpC_execs_nil ?_
            dsimp only
            refine wpC_execs_nil ?_
            dsimp only
            refine for_end (packed (zs.reverse.take (i + 1))) F2 N2 ?_ (fun p hp => nomatch hp) ?_ rfl
            · rw [byteArr_push, e7, packed_snoc, ← hP6, enc_rev, hje, List.append_assoc]
              exact fun p hp => by
                rcases List.mem_cons.mp hp with e | hp
                · rw [e]; exact .tail _ (.head _)
                · rcases List.mem_cons.mp hp with e | hp
                  · rw [e]; exact .head _
                  · exact .tail _ (.tail _ hp)
            · intro y _ hs
              have h1 := contains_ne (x := Str.ofString "value") hs (by decide +kernel)
              have h2 := contains_ne (x := Str.ofString "v") hs (by decide +kernel)
              have h3 := contains_ne (x := Str.ofString "num_extra_bytes") hs (by decide +kernel)
              have h4 := contains_ne (x := Str.ofString "num_bits") hs (by decide +kernel)
              have h5 := contains_ne (x := Str.ofString "reserved_bits") hs (by decide +kernel)
              have h6 := contains_ne (x := Str.ofString "n") hs (by decide +kernel)
              simp [kstB, h1, h2, h3, h4, h5, h6]
    · intro c u6 h6 tk6 hP6 F6 N7
      have ec : c = (encAll (zs.map zz)).reverse := by
        rw [hP6, List.size_toArray, hiy.length, List.take_length, packed_rev]
      rw [ec] at N7
      dsimp only at N7 F6
      dsimp only
      refine wpC_any ?_
      have hz41 : ∀ z ∈ zs.map zz, 0 ≤ z ∧ z < 2 ^ 41 := by
        intro z hz
        obtain ⟨x, hx, e⟩ := List.mem_map.mp hz
        rw [← e]; exact ⟨zz_nonneg x, Int.lt_trans (zz_lt (hr x hx).1 (hr x hx).2) (by decide)⟩
      have hlen9 := encAll_length hz41
      rw [List.length_map] at hlen9
      have hs9 : (byteArr (encAll (zs.map zz)).reverse).size ≤ sizeLine := by rw [byteArr_size, List.length_reverse, sizeLine_eq]; omega
      k_with "getMethod ref" => ((rename News _ _ _ ((_, BA.baObj _) :: _) => lN9); first | refine baMethod lN9 BA.slot_append ty_append ?_ | refine baMethod lN9 BA.slot_reverse ty_reverse ?_)
      k_with "call builtin:bytearray.reverse" => ((rename News _ _ _ ((_, BA.baObj _) :: _) => lN9); (refine BA.reverse_N (by k_asm) lN9 hap hs9 ?_); intro _ _ _)
      k_with "call type:bytes" => ((rename News _ _ _ ((_, BA.baObj _) :: _) => lN9); (refine BA.bytes_of (lN9 _ (.head _)).1 (by rw [Array.size_reverse]; exact hs9) ?_); intro _ _)
      k_steps
      rw [byteArr_reverse, List.reverse_reverse]
      exact hret _ _ _ (by k_asm) (News_tail (News_tail (by k_asm)))
    · k_steps
  · intro i e5 h5 tk5 hi5 hn5 R5 U5
    exfalso
    rw [List.size_toArray, List.length_reverse, hlv] at hi5
    exact hn5 (.int (zs.reverse[i]'(by rw [List.length_reverse]; exact hi5)) 0) ⟨_, _, List.getElem?_eq_getElem _, rfl⟩
end Fq
end
section
/-! FqA -/
open PySem PySem.W PySem.Calls PySem.Spec PyProof.Rows
namespace Fq
section
variable {prog : Program} {w : World} {A : Around} {R : Result → Shared → Prop} {s : Shared}
/-- the law's own def, entered in clean contexts: its cells stand on the ledger -/
theorem codeC_cells {name : Str} {params : Arguments} {body : List Stmt} {scope : Scope} {pm cd doc : Value} {a : Addr} {o : Obj} {args : List Value} {binds : List (Str × Value)}
    (hroom : A.depth < recursionLimit) (ho : s.heap.get? a = some o) (hdata : o.data = .func (Calls.docDef name params body scope pm cd doc)) (hlim : s.heap.NoLimit) (hcd : s.heap.CodeRec cd name)
    (hbind : bindArgs (Calls.docDef name params body scope pm cd doc) ⟨args, []⟩ = pure binds)
    (hkind : ∀ x ∈ binds, scope.names.lookup x.1 = some .local ∨ (scope.names.lookup x.1 = some .cell ∧ ((cellsFrom (s.heap.objs.size + 1) scope.names []).lookup x.1).isSome = true))
    (hnd : ((cellsFrom 0 scope.names []).map (·.1)).Nodup)
    (h : ∀ h₁ tk cells, Fr s.heap s.heap.objs.size h₁ (bindL (envOfC name scope s.heap.objs.size a cd).kindOf binds fun _ => none) → News s.heap s.heap.objs.size h₁ cells →
      CellsAre (bindC (envOfC name scope s.heap.objs.size a cd).kindOf binds fun _ => none) (cellsFrom (s.heap.objs.size + 1) scope.names []) cells →
      wpC (model prog w) (A.deeper (envOfC name scope s.heap.objs.size a cd)) (execs body (envOfC name scope s.heap.objs.size a cd))
        (fun f s' => R (.ok (.ret (match f with | .ret v => v | _ => .none))) s')
        (fun e s' => wpAny (model prog w) (A.deeper (envOfC name scope s.heap.objs.size a cd)) (leaving (envOfC name scope s.heap.objs.size a cd) e) (fun _ s'' => R (.error e) s'') (fun e' s'' => R (.error e') s'') s')
        { s with heap := h₁, toks := tk })
    (hco : scope.isCoroutine = false := by rfl) (hgen : scope.isGenerator = false := by rfl) (hk : scope.kind = .function := by rfl) : codeC (model prog w) A (.call (.ref a) ⟨args, []⟩) R s := by
  refine codeC_call_function hroom ho hdata hco hgen rfl hcd (wpAny_of_eq hbind (wpAny_newFunctionEnv_cells hk hkind fun env' he s' x => ?_))
  subst he
  refine ⟨hlim.keeps x.toInCall.keep, codeC_func ?_⟩
  obtain ⟨h₁, tk, rfl, _⟩ := x.done
  obtain ⟨cells, NC, Y⟩ := Cl.news (h₀ := s.heap) (Nat.le_refl _) fun n c hm => ⟨x.cell n c (lookup_of_mem_nodup (cellsFrom_names scope.names 0 (s.heap.objs.size + 1) [] [] rfl ▸ hnd) hm), x.above n c hm⟩
  exact h h₁ tk cells ⟨x.toInCall.ns, x.toInCall.keep, Nat.le_refl _⟩ NC Y
end
theorem enterC {M : Model} {A : Around} {s s₁ : Shared} {f : Value} {pos : List Value} {kw : List (Str × Value)} {c : ClaimW} {cl : Str → Option Addr} {mean : ExcName → Option Value} {args : List WData}
    (h : codeC M A (.call f ⟨pos, kw⟩) (GoodWG c cl mean args s₁) s) : wpC M A (PySem.call f pos kw) (fun v s' => GoodWG c cl mean args s₁ (.ok (.ret v)) s') (fun e s' => GoodWG c cl mean args s₁ (.error e) s') s :=
  wpC_call (codeC_mono h fun res s' g => by
    rcases id g with ⟨⟨v, _, _, e, _⟩ | ⟨v, _, _, e, _⟩, _⟩ <;> (rw [e] at g ⊢; exact g))
/-- the law's end: True, and the table of the code of varint_unpack may have grown -/
theorem good_true {cw : ClaimW} {cl : Str → Option Addr} {mean : ExcName → Option Value} {args : List WData} {s₁ s' : Shared} {c P L : Addr} {ps : Array Value} {m : Str → Option Value} {news : List (Addr × Obj)}
    (hT : TabsAt [(c, P)] s₁.heap) (F : Fr (ghostOf s₁.heap [(c, P)]) L s'.heap m) (N : News (ghostOf s₁.heap [(c, P)]) L s'.heap news) (hm : (P, tabObj ps) ∈ news) (hg : AllBare s'.gens) (hos : s'.os = s₁.os)
    (hn : ∀ x, cw.raises args x = false) (hp : cw.post args (.bool true) args = true) : GoodWG cw cl mean args s₁ (.ok (.ret (.bool true))) s' := by
  have hP := (hT (c, P) (.head _)).2
  have hP' := (N _ hm).1
  have keep : ∀ b o, b ≠ P → s₁.heap.get? b = some o → s'.heap.get? b = some o := fun b o hb e => F.keep b o (ghost_ne e fun q => hb (List.mem_singleton.mp q))
  refine ⟨.inl ⟨_, _, [], rfl, hn, .bool true, hp, unshared_nil⟩, ⟨fun b o e => ?_, fun b o e => ?_⟩, hos, hg⟩
  · by_cases hb : b = P
    · subst hb
      rw [hP] at e; cases e
      exact .inr (.inl ⟨((hT _ (.head _)).1.tab hP).isCodeTable, rfl, #[], ps, rfl, by rw [Array.empty_append]; exact hP'⟩)
    · exact .inl (keep b o hb e)
  · by_cases hb : b = P
    · subst hb; exact ⟨_, hP'⟩
    · exact ⟨o, keep b o hb e⟩
end Fq
end
section
/-! FqA2 -/
open PySem PySem.W PySem.Calls PySem.Spec PyProof.Rows
namespace Fq
section
variable {M : Model} {A : Around} {E : Value → Shared → Prop} {s : Shared} {env : Env}
theorem wpC_spliced_nil {pos : Pos} {Q : List Value → Shared → Prop} (h : Q [] s) : wpC M A (spliced (backTo pos (starEach [] env))) Q E s := wpC_any (spliced_none h)
theorem wpC_spliced {e : Expr} {rest : List Expr} {pos : Pos} {Q : List Value → Shared → Prop}
    (h : wpC M A (eval e env) (fun v s₁ => wpC M A (spliced (backTo pos (starEach rest env))) (fun vs s₂ => Q (v :: vs) s₂) E s₁) E s)
    (he : starEach (e :: rest) env = (false, eval e env) :: starEach rest env := by rfl) : wpC M A (spliced (backTo pos (starEach (e :: rest) env))) Q E s := by
  rw [he]
  show wpC M A (do
    let v ← eval e env
    let here ← (pure [v] : Sem (List Value))
    return here ++ (← holding here (spliced (backTo pos (starEach rest env))))) Q E s
  exact wpC_seq h fun v s₁ h₁ => wpC_bind (wpC_pure (wpC_seq (wpC_holding h₁) fun vs s₂ h₂ => wpC_pure h₂))
theorem wpC_Tuple {elts : List Expr} {k : Nat} {pos : Pos} {Q : Value → Shared → Prop}
    (h : wpC M A (spliced (backTo pos (starEach elts env)))
      (fun vs s₁ => vs.length ≤ sizeLine ∧ Q (.ref s₁.heap.objs.size) { s₁ with heap := s₁.heap.push { cls := .type "tuple", data := .seq vs.toArray } }) E s) : wpC M A (eval (.Tuple elts k pos) env) Q E s := by
  rw [arm_eval_Tuple]
  exact wpC_at (wpC_seq h fun vs s₁ h₁ => wpC_any (wpAny_newTuple h₁.2 h₁.1))
theorem wpC_isTrue_BoolOp {op : BoolOp} {values : List Expr} {pos : Pos} {whole : Sem Value} {Q : Bool → Shared → Prop} (h : wpC M A (allTrue op values env) Q E s) :
    wpC M A (isTrue (.BoolOp op values pos) env whole) Q E s := by rw [arm_isTrue_BoolOp]; exact h
theorem wpC_Or_nil {Q : Bool → Shared → Prop} (h : Q false s) : wpC M A (allTrue .Or [] env) Q E s := wpC_pure h
theorem wpC_Or_cons {x : Expr} {rest : List Expr} {Q : Bool → Shared → Prop}
    (h : wpC M A (isTrue x env (eval x env)) (fun b s₁ => if b = true then Q true s₁ else wpC M A (allTrue .Or rest env) Q E s₁) E s) : wpC M A (allTrue .Or (x :: rest) env) Q E s := by
  rw [arm_allTrue_cons]
  refine wpC_seq h fun b s₁ h₁ => ?_
  cases b
  · exact h₁
  · exact wpC_pure h₁
theorem wpC_Compare {l : Expr} {op : CmpOp} {r : Expr} {pos : Pos} {whole : Sem Value} {Q : Bool → Shared → Prop}
    (h : wpC M A (eval l env) (fun a s₁ => wpAny M A (eval r env) (fun b s₂ => wpAny M A (compareOp op a b) (fun c s₃ => wpAny M A (truthy c) Q E s₃) E s₂) E s₁) E s)
    (hm : behindInMarks op r = false := by with_unfolding_all rfl) : wpC M A (isTrue (.Compare l [op] [r] pos) env whole) Q E s := by
  rw [isTrue_Compare1, markedBehindIn_of_false hm]
  refine wpC_seq h fun a s₁ h₁ => wpC_leaf (wpAny_holding (wpAny_mono h₁ (fun b s₂ h₂ => ?_) fun _ _ x => x))
  exact wpC_at (wpC_leaf (wpAny_operating (wpAny_mono h₂ (fun c s₃ h₃ => wpC_holding (wpC_any h₃)) fun _ _ x => x)))
end
section
variable {prog : Program} {w : World} {A₀ : Around} {E : Value → Shared → Prop} {s' : Shared} {h₀ h : Heap} {outer : List Env} {L a e : Addr} {m : Str → Option Value} {cn : Str} {cs : Scope} {ccd : Value} {cl : List (Str × Addr)}
  {b₀ : Stmt} {suite : List Stmt} {pos np : Pos} {rest : List ExceptHandler} {Q : Flow → Shared → Prop} {news : List (Addr × Obj)} {Kf : Frag}
  {p : Program} {loose : List Str} {mean : ExcName → Option Value} {mg mb : Str → Option Value} {x : Str} {X T' : String}
/-- a built-in exception out of a called def, caught in a frame that may hold cells -/
theorem caught_X (K : Below A₀ h₀ outer h₀) (F : Fr h₀ L h m) (hsm : h.UpToSlots s'.heap) (R : RaisedN h₀ (envX cn cs L a ccd cl :: outer) e (.type X) news s'.heap) (X₀ : Kf.In h₀) (T : Top p loose mean mg mb h₀)
    (hno : nsIn Kf mainGlobals x = some none) (hv : bootBuiltins x = some (.type T'))
    (hexc : isSubtype (.type T') (.type "BaseException") = pure true) (hnt : isSubtype (.type ((Manifest.find? T').elim "type" fun y => y.metatype)) (.type "tuple") = pure false) (hsub : isSubtype (.type X) (.type T') = pure true)
    (k : ∀ h', Fr h₀ L h' m → News h₀ L h' news →
      wpAny (model prog w) ((A₀.deeper (envX cn cs L a ccd cl)).mark (some (.ref e))) (execs (b₀ :: suite) (envX cn cs L a ccd cl)) Q E { s' with heap := h' })
    (hn : x ≠ "__name__" := by decide +kernel) (hk : cs.kind = .function := by rfl) (hx : (envX cn cs L a ccd cl).kindOf x = some .globalImplicit := by rfl) (hd : (x == ("__debug__" : Str)) = false := by decide)
    (hE : PassesOwnAt (model prog w) ((A₀.deeper (envX cn cs L a ccd cl)).mark (some (.ref e))) (A₀.deeper (envX cn cs L a ccd cl)) (envX cn cs L a ccd cl) E := by passes_own) :
    wpAny (model prog w) (A₀.deeper (envX cn cs L a ccd cl)) (noteFrame (.ref e) (envX cn cs L a ccd cl))
      (fun _ s₂ => wpAny (model prog w) (A₀.deeper (envX cn cs L a ccd cl)) (setFlight (.ref e) none) (fun _ s₃ =>
        wpAny (model prog w) (A₀.deeper (envX cn cs L a ccd cl)) (handleBy (.ref e) (envX cn cs L a ccd cl) (.ExceptHandler (some (.Name x np)) none (b₀ :: suite) pos :: rest)) Q E s₃) E s₂) E s' := by
  obtain ⟨B, a0, hB, hl, hfl⟩ := R
  have hL : B.get? L = none := by
    obtain ⟨_, ⟨L', _, hf, hn', _⟩, _⟩ := hfl.2.2.1
    cases hf
    exact hn'
  refine wpAny_looks_onW (Around.frames_deeper K.stack) rfl hfl fun h4 hheld4 sm4 => wpAny_landsW hheld4 fun h5 hfl5 sm5 => ?_
  have hup5 := hsm.trans (sm4.trans sm5)
  have st5 := (flyingW_base hB hfl5).1
  have F5 := F.of_stays st5 hup5
  obtain ⟨ob, hob, hobc⟩ := (flyingW_base hB hfl5).there
  refine wpAny_handleBy_builtin (X := X) (T := T') (b := true) hexc hnt hsub (nameX_B F5 X₀ (topRead_of T) hno hv hn ⟨rfl, ⟨ob, hob, hobc⟩, ?_⟩ hk hx hd)
  refine lands_againW hfl5 fun h6 hfl6 sm6 => ?_
  refine wpAny_passesOwnAt hE (k h6 (F.of_stays (flyingW_base hB hfl6).1 (hup5.trans sm6)) fun q hq => ?_)
  have hB6 := hfl6.1 _ _ (hl q hq).1
  refine ⟨hB6, fun z => ?_, (hl q hq).2⟩
  have hq1 := (hl q hq).1
  rw [z, hL] at hq1
  cases hq1
end
section
variable {prog : Program} {w : World} {A : Around} {E : Value → Shared → Prop} {s : Shared} {env : Env} {h₀ : Heap} {L : Addr} {Q : Flow → Shared → Prop}
/-- the iterator of it, which stands as long as its state -/
theorem seqO_iter2 {its : Array Value} {ax : Addr} {o : Obj} {Q : Value → Shared → Prop} (hg : s.heap.get? ax = some o) (S : SeqO its o)
    (h : ∀ (oI : Obj) (St : Nat → Heap → Prop), oI.isFreed = false → (∀ A' : Around, A'.handled = none → Walks prog w A' s.heap.objs.size [s.heap.objs.size, ax] [s.heap.objs.size] its.size (fun i v => its[i]? = some v) St) →
      (∀ h', h'.get? s.heap.objs.size = some oI → h'.get? ax = some o → St 0 h') → (∀ i h', St i h' → ∃ o', h'.get? s.heap.objs.size = some o') → Q (.ref s.heap.objs.size) { s with heap := s.heap.push oI }) : wpAny (model prog w) A (pyIter (.ref ax)) Q E s := by
  have hlt := Heap.lt_size hg
  cases S with
  | list nn =>
    refine wpAny_pyIter_list ⟨_, hg, rfl, _, rfl⟩ ?_
    exact h _ _ rfl (fun A' hA => Walks.list hA _ ax (Nat.ne_of_lt hlt) its) (fun h' h1 h2 => ⟨⟨_, h1, rfl, rfl⟩, ⟨_, h2, rfl, _, rfl⟩⟩) fun i h' x => ⟨_, x.1.choose_spec.1⟩
  | tuple hne =>
    refine wpAny_pyIter_tuple ⟨_, hg, rfl, _, rfl⟩ ?_
    exact h _ _ rfl (fun A' hA => Walks.tuple hA _ ax (Nat.ne_of_lt hlt) its) (fun h' h1 h2 => ⟨⟨_, h1, rfl, rfl⟩, ⟨_, h2, rfl, _, rfl⟩⟩) fun i h' x => ⟨_, x.1.choose_spec.1⟩
def ForG {σ : Type} (h₀ : Heap) (L : Addr) (Led : σ → List (Addr × Obj)) (X : Shared → Prop) (stored : List Str) (m₀ : Str → Option Value) (Ok : σ → Prop) (I : Addr) (oI : Obj) (s₃ : Shared) : Prop :=
  ∃ (c' : σ) (m' : Str → Option Value) (news' : List (Addr × Obj)), X s₃ ∧ Fr h₀ L s₃.heap m' ∧ News h₀ L s₃.heap news' ∧ (∀ p ∈ (I, oI) :: Led c', p ∈ news') ∧ (∀ z, stored.contains z = false → m' z = m₀ z) ∧ Ok c'
/-- a for over a made list or tuple, in clean contexts; the whole state may turn -/
theorem for_gen {σ : Type} {x : Str} {px : Pos} {body : List Stmt} {D : Addr} {o : Obj} {its : Array Value} {m₀ : Str → Option Value} (Led : σ → List (Addr × Obj)) (X : Shared → Prop) (stored : List Str) (Ok : σ → Prop) (c₀ : σ)
    (hA : A.handled = none) (hL : env.locals = L) (hx : env.kindOf x = some .local) (hk0 : env.scope.kind = .function) (hxs : stored.contains x = true)
    (F : Fr h₀ L s.heap m₀) (N : News h₀ L s.heap (Led c₀)) (hD : ∀ c, (D, o) ∈ Led c) (S : SeqO its o) (hadr : ∀ c, (Led c).map (·.1) = (Led c₀).map (·.1)) (hok : Ok c₀) (hX₀ : X s) (hX : ∀ s h tk, X s → X { s with heap := h, toks := tk })
    (turn : ∀ (c : σ) (i : Nat) (v : Value) (I : Addr) (oI : Obj) (u : Str → Option Value) (s' : Shared), its[i]? = some v → Ok c → X s' → (∀ p ∈ Led c₀, p.1 < I) → Fr h₀ L s'.heap (fun y => if y = x then some v else kstB (fun z => if stored.contains z then u z else m₀ z) [] y) → News h₀ L s'.heap ((I, oI) :: Led c) →
      wpC (model prog w) A (execs body env) (fun f s₃ => match f with
        | .ret v => Q (.ret v) s₃
        | .brk => Q .next s₃
        | _ => ForG h₀ L Led X stored m₀ Ok I oI s₃) E s')
    (done : ∀ (c : σ) (u : Str → Option Value) (s' : Shared), Ok c → X s' → Fr h₀ L s'.heap (kstB (fun z => if stored.contains z then u z else m₀ z) []) → News h₀ L s'.heap (Led c) → Q .next s')
    (hE : PassesOwn (model prog w) A env E := by passes_own) (ht : ∀ v, letOwnedTupleGo (.Name x px) (.ref s.heap.objs.size) v = pure () := by intro _; rfl) :
    wpAny (model prog w) A (pyIter (.ref D)) (fun it s₂ => codeC (model prog w) A (.forLoop (.Name x px) it body [] env) (fun r s' => match r with | .ok f => Q f s' | .error e => cameBackBy (model prog w) A env E e s') s₂) E s := by
  have hg := (N _ (hD c₀)).1
  have hltD := Heap.lt_size hg
  refine seqO_iter2 hg S fun oI St hoI hW hSt0 hStI => ?_
  have hLlt : L < s.heap.objs.size := F.ns.lt
  have hlt : ∀ p ∈ Led c₀, p.1 < s.heap.objs.size := fun p hp => Heap.lt_size (N p hp).1
  have hltc : ∀ c, ∀ p ∈ Led c, p.1 < s.heap.objs.size := fun c p hp => by
    have : p.1 ∈ (Led c₀).map (·.1) := by rw [← hadr c]; exact List.mem_map_of_mem hp
    obtain ⟨q, hq, e⟩ := List.mem_map.mp this
    rw [← e]; exact hlt q hq
  have hI₀ : h₀.get? s.heap.objs.size = none := next_is_new F
  generalize hIe : s.heap.objs.size = I at *
  have W := hW A hA
  have hLI : L ≠ I := Nat.ne_of_lt hLlt
  have hfpI : ∀ b, b ∉ [I] → b ≠ I := fun b hb e => hb (e ▸ List.mem_singleton_self _)
  have same : ∀ {m : Str → Option Value} {h : Heap}, (∀ z, stored.contains z = false → m z = m₀ z) → Fr h₀ L h m → Fr h₀ L h (kstB (fun z => if stored.contains z then m z else m₀ z) []) := fun {m h} h2 F => by
    have e : kstB (fun z => if stored.contains z then m z else m₀ z) [] = m := by
      funext z
      show (if stored.contains z then m z else m₀ z) = m z
      by_cases hz : stored.contains z = true
      · rw [if_pos hz]
      · rw [if_neg hz, h2 z (Bool.eq_false_iff.mpr hz)]
    rw [e]; exact F
  have F1 : Fr h₀ L (s.heap.push oI) m₀ := F.push oI
  have g1 : (s.heap.push oI).get? I = some oI := by rw [← hIe]; exact Heap.get?_push_size _ hoI
  refine codeC_for (fun n s' => ∃ i c m oI, X s' ∧ i ≤ its.size ∧ n = its.size + 1 - i ∧ (∀ z, stored.contains z = false → m z = m₀ z) ∧ Ok c ∧ Fr h₀ L s'.heap m ∧ St i s'.heap ∧ News h₀ L s'.heap ((I, oI) :: Led c)) ?_ (its.size + 1)
    ⟨0, c₀, m₀, oI, hX _ _ _ hX₀, Nat.zero_le _, rfl, fun _ _ => rfl, hok, F1, hSt0 _ g1 (Heap.get?_push_of_some _ hg), fun p hp => ?_⟩ ht
  · rintro n s' ⟨i, c, m, oJ, hXs, hi', rfl, h2, hok', F', hit, N'⟩
    by_cases hlt' : i < its.size
    · refine W.item i _ _ _ hlt' hit fun v h₂ tk₂ hPv hst₂ hk₂ => ?_
      have F₂ : Fr h₀ L h₂ m := LCg.fr_but F' hk₂ hLI hI₀
      obtain ⟨o2, ho2⟩ := hStI _ _ hst₂
      have N₂ : News h₀ L h₂ ((I, o2) :: Led c) := fun p hp => by
        rcases List.mem_cons.mp hp with e | hp
        · rw [e]; exact ⟨ho2, Ne.symm hLI, hI₀⟩
        · have z := N' p (.tail _ hp)
          exact ⟨hk₂ _ _ (by simpa using Nat.ne_of_lt (hltc c p hp)) z.1, z.2⟩
      have hFx := same h2 F₂
      refine wpAny_assign_Name (wpAny_storeName_local hx (hL ▸ hFx.ns) (fun h₃ hn₃ hs₃ => ?_) (by simp [hk0]))
      rw [hL] at hn₃ hs₃
      have F₃ := hFx.set hn₃ hs₃
      have N₃ := N₂.set hs₃
      refine wpC_mono (turn c i v I o2 _ _ hPv hok' (hX _ _ _ (hX _ _ _ hXs)) hlt F₃ N₃) (fun f s₃ q => ?_) hE
      have go : ForG h₀ L Led X stored m₀ Ok I o2 s₃ → ∃ n1, n1 < its.size + 1 - i ∧ ∃ i c m oI, X s₃ ∧ i ≤ its.size ∧ n1 = its.size + 1 - i ∧ (∀ z, stored.contains z = false → m z = m₀ z) ∧ Ok c ∧ Fr h₀ L s₃.heap m ∧ St i s₃.heap ∧ News h₀ L s₃.heap ((I, oI) :: Led c) := by
        rintro ⟨c', m', news', x1, F5, N5, hn5, hr5, hp5⟩
        have N6 : News h₀ L s₃.heap ((I, o2) :: Led c') := fun p hp => N5 p (hn5 p hp)
        refine ⟨its.size + 1 - (i + 1), by omega, i + 1, c', m', o2, x1, hlt', rfl, hr5, hp5, F5, W.frame _ _ _ hst₂ (fun b hb o' e => ?_), N6⟩
        rcases List.mem_cons.mp hb with eb | hb
        · rw [eb] at e ⊢; rw [ho2] at e; cases e; exact (N6 _ (.head _)).1
        · rw [List.mem_singleton.mp hb] at e ⊢
          rw [(N₂ _ (.tail _ (hD c))).1] at e; cases e
          exact (N6 _ (.tail _ (hD c'))).1
      cases f with
      | next => exact go q
      | cont => exact go q
      | brk => exact q
      | ret v => exact q
    · obtain rfl : i = its.size := Nat.le_antisymm hi' (Nat.not_lt.mp hlt')
      refine W.done _ _ _ hit fun h₂ tk₂ hk₂ => ?_
      have F₂ : Fr h₀ L h₂ m := LCg.fr_but F' hk₂ hLI hI₀
      exact done c _ _ hok' (hX _ _ _ hXs) (same h2 F₂) fun p hp => by
        have z := N' p (.tail _ hp)
        exact ⟨hk₂ _ _ (by simpa using Nat.ne_of_lt (hltc c p hp)) z.1, z.2⟩
  · rcases List.mem_cons.mp hp with e | hp
    · rw [e]; exact ⟨g1, Ne.symm hLI, hI₀⟩
    · exact ⟨Heap.get?_push_of_some _ (N p hp).1, (N p hp).2⟩
end
end Fq
end
section
/-! FqLaw4 -/
open PySem PySem.W PySem.Calls PySem.Spec PyProof.Rows
namespace Fq
theorem News_sub {g h : Heap} {L : Addr} {nx news : List (Addr × Obj)} (N : News g L h news) (hs : ∀ p ∈ nx, p ∈ news) : News g L h nx := fun p hp => N p (hs p hp)
theorem for_endG {σ : Type} {h₀ : Heap} {L : Addr} {Led : σ → List (Addr × Obj)} {X : Shared → Prop} {stored : List Str} {m₀ m' : Str → Option Value} {Ok : σ → Prop} {I : Addr} {oI : Obj} {s₃ : Shared} {news' : List (Addr × Obj)} (c' : σ)
    (hX : X s₃) (F : Fr h₀ L s₃.heap m') (N : News h₀ L s₃.heap news') (hn : ∀ p ∈ (I, oI) :: Led c', p ∈ news') (hr : ∀ z, stored.contains z = false → m' z = m₀ z) (ok : Ok c') : ForG h₀ L Led X stored m₀ Ok I oI s₃ := ⟨c', m', news', hX, F, N, hn, hr, ok⟩
theorem ne_same {prog : Program} {w : World} {A : Around} {E : Value → Shared → Prop} {s : Shared} {b c : Array UInt8} {t u : Tok} {Q : Value → Shared → Prop} (e : b = c) (h : Q (.bool false) s) : wpAny (model prog w) A (compareOp .NotEq (.bytes b t) (.bytes c u)) Q E s := by
  refine ne_bytes ?_
  rw [e, show (c.toList != c.toList) = false from bne_self_eq_false _]
  exact h
theorem pow40 {prog : Program} {w : World} {A : Around} {E : Value → Shared → Prop} {s : Shared} {t u : Tok} {Q : Value → Shared → Prop} (h : Q (.int 1099511627776 s.toks) { s with toks := s.toks + 1 }) : wpAny (model prog w) A (binaryOp .Pow (.int 2 t) (.int 40 u)) Q E s := by
  refine pow_int_small (by decide) (by decide) (by decide) ?_
  rw [show (2 : Int) ^ Int.toNat 40 = 1099511627776 from by decide]
  exact h
theorem pow39 {prog : Program} {w : World} {A : Around} {E : Value → Shared → Prop} {s : Shared} {t u : Tok} {Q : Value → Shared → Prop} (h : Q (.int 549755813888 s.toks) { s with toks := s.toks + 1 }) : wpAny (model prog w) A (binaryOp .Pow (.int 2 t) (.int 39 u)) Q E s := by
  refine pow_int_small (by decide) (by decide) (by decide) ?_
  rw [show (2 : Int) ^ Int.toNat 39 = 549755813888 from by decide]
  exact h
theorem two_back {vs : List Value} {a b : Int} (h : IntsAre vs (List.map dz [zz a, zz b])) : ∃ t u, vs = [.int a t, .int b u] := by
  rw [List.map_cons, List.map_cons, List.map_nil, dz_zz, dz_zz] at h
  cases h with
  | cons _ t h =>
    cases h with
    | cons _ u h =>
      cases h
      exact ⟨t, u, rfl⟩
theorem law_post (l : OpenLaw) (args : List WData) : l.row.toRowW.claim.post args (.bool true) args = true := by
  refine postW_of (r := l.row.toRowW) (X := true) rfl ?_ rfl
  show WTm.value [] (.eq .res (.lit (.bool true))) { args := args, res := some (.bool true), after := args } = some (.bool true)
  refine (w_eq_bool (k := true) (l := true) ?_ ?_).trans rfl
  · simp [WTm.value]
  · simp [WTm.value]
theorem law_raises (l : OpenLaw) (args : List WData) (x : ExcName) : l.row.toRowW.claim.raises args x = false := rfl
theorem fm_bd (x : Int) {k : Int} (hk : 0 < k) : 0 ≤ x.fmod k ∧ x.fmod k < k := by
  rw [Int.fmod_eq_emod_of_nonneg _ (Int.le_of_lt hk)]
  exact ⟨Int.emod_nonneg _ (Int.ne_of_gt hk), Int.emod_lt_of_pos _ hk⟩
theorem gen_ints {vs : List Value} {f : Int → Int} {l : List Int} (h : IntsAre vs (l.map f)) : ∃ n9, IntsAre vs n9 ∧ n9.length = l.length := ⟨_, h, List.length_map _⟩
theorem gen_octs {vs : List Value} {l : List Int} {k : Nat} (h : IntsAre vs ((l.take k).map (fun k' => k'.fmod 256))) (hk : k ≤ 6) : ∃ os, IntsAre vs os ∧ Octs os ∧ os.length ≤ 6 := by
  refine ⟨_, h, fun o ho => ?_, by rw [List.length_map, List.length_take]; omega⟩
  obtain ⟨x, _, e⟩ := List.mem_map.mp ho
  rw [← e, Int.fmod_eq_emod_of_nonneg _ (by decide : (0 : Int) ≤ 256)]
  omega
theorem law_holds : PySem.Challenge.rw_fq5007_01.Holds := Fq.hd (by
  w_top off
  k_fill
  intro w s₀ s₁ mg mb G Y fa o pm cd doc dV kV ho hd hcd hD hmg hg args vals as hpre hlay hrd hwl hlo
  have KX := kIn_of Y
  have X := (Ground.X G).1
  have V := (Ground.X G).2
  refine Ground.open G ?_
  intro T B D TE TW
  try (refine guard_noD D (by decide +kernel) ?_; clear D)
  have hT9 : TabsAt [(20, 16)] s₁.heap := List.forall_mem_cons.mpr ⟨tab_of (x := PySem.Str.ofString "varint_unpack") (c := 20) (P := 16) T KX rfl (by kernel_rfl), fun _ h => nomatch h⟩
  wrow_args hpre hlay hrd hwl hlo
  clear hmg
  refine enterC ?_
  have he := Dflts.none hD rfl; subst he; have he := Dflts.noKw hD; subst he
  refine codeC_cells (by decide) ho (fd_plain hd) (Top.nolimit T) hcd rfl (kinds_of (by kinds_ok)) (by decide) fun h₁ tk₁ cells F N0 X0 => ?_
  cells_open X0
  clear hd
  kn_ghosts F T
  k_drop
  dsimp only
  k_with_none
  rename (Frag.In _ _) => X9
  rename Top _ _ _ _ _ _ => T9
  rename Below _ _ _ _ => K9
  obtain ⟨o21, ho21, fd21, hfd21⟩ : ∃ o, (Fq.hd.heap_39 w.params).lookup 21 = some o ∧ ∃ fd, o.data = .func fd := ⟨_, by k_is, _, rfl⟩
  obtain ⟨o47, ho47, fd47, hfd47⟩ : ∃ o, (Fq.hd.heap_39 w.params).lookup 47 = some o ∧ ∃ fd, o.data = .func fd := ⟨_, by k_is, _, rfl⟩
  obtain ⟨o61, ho61, fd61, hfd61⟩ : ∃ o, (Fq.hd.heap_39 w.params).lookup 61 = some o ∧ ∃ fd, o.data = .func fd := ⟨_, by k_is, _, rfl⟩
  refine wpC_leafS ?_
  k_steps
  rename List Value => ysn
  rename_i hI8 hL8 Dn h1' tk1' F1' N1' o1'
  obtain ⟨n9, hI9, hn9l⟩ := gen_ints hI8
  replace hn9l : n9.length = 9 := hn9l.trans (by rw [rangeKs_length]; rfl)
  clear hL8 hI8
  obtain ⟨_, hDn16⟩ := o1'
  refine wpC_leafS ?_
  k_steps
  rename List Value => yso
  rename_i hI8 hL8 Do h2' tk2' F2' N2' o2'
  obtain ⟨_, _, _, hDo16⟩ := o2'
  obtain ⟨os, hIo, hO, hz6⟩ := gen_octs hI8 (by omega)
  clear hL8 hI8
  refine wpC_execs_cons (wpC_For (wpC_Tuple (wpC_spliced ?_)))
  refine wpC_any ?_
  k_with "call type:bytes" => ((rename Fr _ _ _ _ => lF9); (rename News _ _ _ _ => lN9); (refine bytes_K lF9 lN9 ⟨_, (lN9 _ (.head _)).1, rfl, _, rfl⟩ hIo hO (by rw [hIo.length, sizeLine_eq]; omega) rfl ?_); intro _ _ _ _ _ hB9; clear hB9)
  k_steps
  rename_i hB tB kB FB NB kbI kbS
  clear kbI kbS
  refine wpC_spliced (wpC_Call ?_)
  k_steps
  refine wpC_callWith_type rfl (wpC_args ?_)
  k_steps
  (rename Fr _ _ _ _ => lF9); (rename News _ _ _ _ => lN9)
  refine wpC_any (list_copyK lF9 lN9 ⟨_, (lN9 _ (.head _)).1, rfl, _, rfl⟩ ?_ (by rw [List.size_toArray, hIo.length, sizeLine_eq]; omega))
  intro D9 nn9 h9 F9 N9 l9
  refine wpC_spliced (wpC_Call ?_)
  refine nameX_B F9 X9 (topRead_of T9) (by kernel_rfl) PyProof.Rows.Boot.bytearray (by decide +kernel) ?_
  refine wpC_callWith_type rfl (wpC_args ?_)
  k_steps
  (rename Fr _ _ _ _ => lF9); (rename News _ _ _ _ => lN9)
  refine BA.make_list lF9 lN9 (.tail _ (.head _)) hIo hO (by omega) ?_
  intro b5 h5 F5 N5 hl5
  refine wpC_spliced_nil ?_
  refine ⟨by rw [sizeLine_eq]; show 3 ≤ _; decide, ?_⟩
  have hl16 : 16 < b5 := hl5 (16, tabObj #[]) (.tail _ (.tail _ (.tail _ (.tail _ (.tail _ (.head _))))))
  have hT16 : 16 < h5.objs.size := Heap.lt_size (N5 (16, tabObj #[]) (.tail _ (.tail _ (.tail _ (.tail _ (.tail _ (.tail _ (.head _)))))))).1
  have hD16 : 16 < D9 := l9 (16, tabObj #[]) (.tail _ (.tail _ (.tail _ (.tail _ (.head _)))))
  have hb5 : b5 < h5.objs.size := Heap.lt_size (N5 _ (.head _)).1
  refine for_gen (σ := Array Value) (o := { cls := .type "tuple", data := .seq #[.bytes (byteArr os) tB, .ref D9, .ref b5] }) (its := #[.bytes (byteArr os) tB, .ref D9, .ref b5]) (fun ps => (h5.objs.size, { cls := .type "tuple", data := .seq #[.bytes (byteArr os) tB, .ref D9, .ref b5] }) :: (b5, BA.baObj (byteArr os)) :: (D9, W.listOf yso.toArray nn9) :: (Do, LCg.lst yso) :: (Dn, LCg.lst ysn) :: [(16, tabObj ps)]) (fun s => AllBare s.gens ∧ s.os = s₁.os)
    ["form", "plain", "word", "read"] (fun ps => TriplesOk ps.toList) #[] rfl rfl rfl rfl (by decide +kernel) (F5.push _) ?_ (fun _ => .head _) (.tuple (by show 0 < 3; decide)) (fun _ => rfl) trivial ⟨.of_eq hg, rfl⟩ (fun _ _ _ h => h) ?_ ?_
  · exact News_sub (N5.push F5 _) (by repeat' (first | exact List.forall_mem_nil _ | refine List.forall_mem_cons.mpr ⟨by k_mem, ?_⟩))
  · intro ps i v I oI u s5 hv hps hX5 hI5 F6 N6
    have hS5 : SeqB ((b5, BA.baObj (byteArr os)) :: (D9, W.listOf yso.toArray nn9) :: (Do, LCg.lst yso) :: []) v os := by
      match i, hv with
      | 0, hv => cases hv; exact .bytes _
      | 1, hv => cases hv; exact .list (.tail _ (.head _)) hIo
      | 2, hv => cases hv; exact .ba (.head _)
    have hI16 : 16 < I := hI5 (16, tabObj #[]) (.tail _ (.tail _ (.tail _ (.tail _ (.tail _ (.head _))))))
    have h16 : ∀ q ∈ ([(I, oI), (h5.objs.size, { cls := .type "tuple", data := .seq #[.bytes (byteArr os) tB, .ref D9, .ref b5] }), (b5, BA.baObj (byteArr os)), (D9, W.listOf yso.toArray nn9), (Do, LCg.lst yso), (Dn, LCg.lst ysn)] : List (Addr × Obj)), q.1 ≠ 16 :=
      List.forall_mem_cons.mpr ⟨Nat.ne_of_gt hI16, List.forall_mem_cons.mpr ⟨Nat.ne_of_gt hT16, List.forall_mem_cons.mpr ⟨Nat.ne_of_gt hl16, List.forall_mem_cons.mpr ⟨Nat.ne_of_gt hD16, List.forall_mem_cons.mpr ⟨Ne.symm hDo16, List.forall_mem_cons.mpr ⟨Ne.symm hDn16, List.forall_mem_nil _⟩⟩⟩⟩⟩⟩
    clear hv N5 F5 l9 hl5
    refine wpC_leafS ?_
    k_steps
    obtain ⟨hX5g, hX5o⟩ := hX5
    (rename Fr _ _ _ _ => lF); (rename News _ _ _ _ => lN)
    have N7 := News_sub (nx := [(I, oI), (h5.objs.size, { cls := .type "tuple", data := .seq #[.bytes (byteArr os) tB, .ref D9, .ref b5] }), (b5, BA.baObj (byteArr os)), (D9, W.listOf yso.toArray nn9), (Do, LCg.lst yso), (Dn, LCg.lst ysn)] ++ [(16, tabObj ps)]) lN (by repeat' (first | exact List.forall_mem_nil _ | refine List.forall_mem_cons.mpr ⟨by k_mem, ?_⟩))
    clear lN
    by_cases hne : 0 < os.length
    · refine wpC_execs_cons (wpC_Try (wpC_execs_cons (wpC_Assign (wpC_Call ?_))))
      k_steps
      refine wpC_def hfd21 ?_
      k_steps
      · exact (X9.keeps lF.keep) _ _ ho21
      refine var_c v os _ 16 _ rfl w _ _ _ _ _ _ _ _ _ _ _ _ _ _ _ _ _ _ _ _ _ _ ps (by k_asm) lF X9 N7 T9 rfl (by assumption) hps hX5g h16 ⟨hS5.mono (by repeat' (first | exact List.forall_mem_nil _ | refine List.forall_mem_cons.mpr ⟨by k_mem, ?_⟩)), hO, hz6, hne⟩ (by ktr_room) (by ktr_units) ?_
      intro t7 s7 ps7 F7 N8 ht7 hg7 ho7
      replace ho7 : s7.os = s₁.os := ho7.trans hX5o
      clear N7 lF
      simp only [List.cons_append, List.nil_append] at N8
      k_steps
      refine wpC_execs_nil ?_
      dsimp only
      refine wpC_execs_nil ?_
      dsimp only
      k_with "truthy ref" => (k_dflt (refine list_truthy (by k_asm) (l := Do) (vs := yso) (nn := yso.length) (by k_mem) hIo (by omega) (decide_eq_true hne) ?_); intro _)
      k_with "call ref" => (k_dflt (((((k_dflt (refine' (value_c Do yso yso.length os _ _ rfl w _ _ _ _ _) _ _ _ _ _ _ _ _ _ _ _ _ _ _ _ _ _ ?k1 ?k2 ?k3 ?k4 ?k5 ?kk ?kp ?kd ?ku ?_)); (case kk => exact rfl); (case k1 => k_asm); (case k2 => k_asm); (case k3 => k_asm); (case k4 => k_asm); (case k5 => k_asm); (case kd => ktr_room); (case ku => ktr_units)))); (case kp => exact ⟨by k_mem, hIo, hO, hz6, hne⟩); (intro _ _ _ _ _)); (try dsimp only); (try k_fold))
      refine wpC_leafS ?_
      k_steps
      · (rename lawValue os ≠ lawValue os => h9); exact absurd rfl h9
      dsimp only
      refine wpC_leafS ?_
      k_steps
      dsimp only
      refine wpC_leafS ?_
      k_steps
      dsimp only
      by_cases hlk : ones (os.getD 0 0) + 1 ≤ os.length
      · refine wpC_execs_cons (wpC_Try (wpC_execs_cons (wpC_Assign (wpC_any ?_))))
        k_with "call ref" => (k_dflt ((((((k_dflt (refine' (uvint_c v os (os.getD 0 0) _ _ rfl w _ _ _ _ _) _ _ _ _ _ _ _ _ _ _ _ _ _ _ _ _ _ ?k1 ?k2 ?k3 ?k4 ?k5 ?kk ?kp ?kd ?ku ?_)); (case kk => exact rfl); (case k1 => k_asm); (case k2 => k_asm); (case k3 => k_asm); (case k4 => k_asm); (case k5 => k_asm); (case kd => ktr_room); (case ku => ktr_units)))); (case kp => exact ⟨hS5.mono (by repeat' (first | exact List.forall_mem_nil _ | refine List.forall_mem_cons.mpr ⟨by k_mem, ?_⟩)), hO, hz6, rfl, hlk⟩); (intro _ _ _ _ _ _ _))); (try dsimp only); (try k_fold))
        k_steps
        refine wpC_execs_nil ?_
        dsimp only
        refine wpC_execs_nil ?_
        dsimp only
        k_with "call ref" => (k_dflt ((((((k_dflt (refine' (reading_c Do yso yso.length os (os.getD 0 0) _ _ rfl w _ _ _ _ _) _ _ _ _ _ _ _ _ _ _ _ _ _ _ _ _ _ ?k1 ?k2 ?k3 ?k4 ?k5 ?kk ?kp ?kd ?ku ?_)); (case kk => exact rfl); (case k1 => k_asm); (case k2 => k_asm); (case k3 => k_asm); (case k4 => k_asm); (case k5 => k_asm); (case kd => ktr_room); (case ku => ktr_units)))); (case kp => exact ⟨by k_mem, hIo, hO, hz6, rfl, hlk⟩); (intro _ _ _ _ _ _ _))); (try dsimp only); (try k_fold))
        refine wpC_leafS ?_
        k_steps
        dsimp only
        refine wpC_execs_nil ?_
        (rename Fr _ _ _ _ => hF9); (rename News _ _ _ _ => hN9)
        exact for_endG ps7 ⟨hg7, ho7⟩ hF9 hN9 (by repeat' (first | exact List.forall_mem_nil _ | refine List.forall_mem_cons.mpr ⟨by k_mem, ?_⟩)) (by ((intro z hs; have h1 := contains_ne (x := Str.ofString "form") hs (by decide +kernel); have h2 := contains_ne (x := Str.ofString "plain") hs (by decide +kernel); have h3 := contains_ne (x := Str.ofString "word") hs (by decide +kernel); have h4 := contains_ne (x := Str.ofString "read") hs (by decide +kernel); simp [kstB, h1, h2, h3, h4]))) ht7
      · refine wpC_execs_cons (wpC_Try (wpC_execs_cons (wpC_Assign (wpC_any ?_))))
        k_with "call ref" => (k_dflt ((((((k_dflt (refine' (uvint_no v os (os.getD 0 0) _ _ rfl w _ _ _ _ _) _ _ _ _ _ _ _ _ _ _ _ _ _ _ _ _ _ ?k1 ?k2 ?k3 ?k4 ?k5 ?kk ?kp ?kd ?ku ?_)); (case kk => exact rfl); (case k1 => k_asm); (case k2 => k_asm); (case k3 => k_asm); (case k4 => k_asm); (case k5 => k_asm); (case kd => ktr_room); (case ku => ktr_units)))); (case kp => exact ⟨hS5.mono (by repeat' (first | exact List.forall_mem_nil _ | refine List.forall_mem_cons.mpr ⟨by k_mem, ?_⟩)), hO, hz6, rfl, .inr (Nat.lt_of_not_le hlk)⟩); (intro _ _ _ _ _ _ _))); (try dsimp only))
        k_steps
        (rename RaisedN _ _ _ _ _ _ => hR9); (rename Heap.UpToSlots _ _ => hU9); (rename Fr _ _ _ _ => hF9)
        refine caught_X (Kf := Fq.hd.heap_39 w.params) K9 hF9 hU9 hR9 X9 T9 (by kernel_rfl) PyProof.Rows.Boot.«IndexError» PySem.F.isExc_IndexError PySem.F.notTuple_IndexError (by rw [isSubtype_type]; kernel_rfl) ?_
        intro h8 F8 N8
        k_steps
        dsimp only
        k_with "call ref" => (k_dflt ((((((k_dflt (refine' (reading_no Do yso yso.length os (os.getD 0 0) _ _ rfl w _ _ _ _ _) _ _ _ _ _ _ _ _ _ _ _ _ _ _ _ _ _ ?k1 ?k2 ?k3 ?k4 ?k5 ?kk ?kp ?kd ?ku ?_)); (case kk => exact rfl); (case k1 => k_asm); (case k2 => k_asm); (case k3 => k_asm); (case k4 => k_asm); (case k5 => k_asm); (case kd => ktr_room); (case ku => ktr_units)))); (case kp => exact ⟨by k_mem, hIo, hO, hz6, rfl, .inr (Nat.lt_of_not_le hlk)⟩); (intro _ _ _ _ _))); (try dsimp only); (try k_fold))
        refine wpC_leafS ?_
        k_steps
        dsimp only
        refine wpC_execs_nil ?_
        (rename Fr _ _ _ _ => hF9); (rename News _ _ _ _ => hN9)
        exact for_endG ps7 ⟨hg7, ho7⟩ hF9 hN9 (by repeat' (first | exact List.forall_mem_nil _ | refine List.forall_mem_cons.mpr ⟨by k_mem, ?_⟩)) (by ((intro z hs; have h1 := contains_ne (x := Str.ofString "form") hs (by decide +kernel); have h2 := contains_ne (x := Str.ofString "plain") hs (by decide +kernel); have h3 := contains_ne (x := Str.ofString "word") hs (by decide +kernel); have h4 := contains_ne (x := Str.ofString "read") hs (by decide +kernel); simp [kstB, h1, h2, h3, h4]))) ht7
    · have hnil : os = [] := List.eq_nil_of_length_eq_zero (Nat.eq_zero_of_not_pos hne)
      refine wpC_execs_cons (wpC_Try (wpC_execs_cons (wpC_Assign (wpC_Call ?_))))
      k_steps
      refine wpC_def hfd21 ?_
      k_steps
      · exact (X9.keeps lF.keep) _ _ ho21
      refine var_no v os _ 16 _ rfl w _ _ _ _ _ _ _ _ _ _ _ _ _ _ _ _ _ _ _ _ _ _ ps (by k_asm) lF X9 N7 T9 rfl (by assumption) hps hX5g h16 ⟨hS5.mono (by repeat' (first | exact List.forall_mem_nil _ | refine List.forall_mem_cons.mpr ⟨by k_mem, ?_⟩)), hO, hnil⟩ (by ktr_room) (by ktr_units) ?_
      intro e7 g7 s7 ps7 F7 hR7 hU7 ht7 hg7 ho7
      replace ho7 : s7.os = s₁.os := ho7.trans hX5o
      clear N7 lF
      refine caught_X (Kf := Fq.hd.heap_39 w.params) K9 F7 hU7 hR7 X9 T9 (by kernel_rfl) PyProof.Rows.Boot.«ValueError» PySem.F.isExc_ValueError PySem.F.notTuple_ValueError (by rw [isSubtype_type]; kernel_rfl) ?_
      intro h8 F8 N8
      clear F7 hU7 hR7
      simp only [List.cons_append, List.nil_append] at N8
      k_steps
      dsimp only
      k_with "truthy ref" => (k_dflt (refine list_truthy (by k_asm) (l := Do) (vs := yso) (nn := yso.length) (by k_mem) hIo (by omega) (decide_eq_false hne) ?_); intro _)
      refine wpC_leafS ?_
      k_steps
      dsimp only
      refine wpC_leafS ?_
      k_steps
      dsimp only
      refine wpC_leafS ?_
      k_steps
      dsimp only
      refine wpC_execs_cons (wpC_Try (wpC_execs_cons (wpC_Assign (wpC_any ?_))))
      k_with "call ref" => (k_dflt ((((((k_dflt (refine' (uvint_no v os (os.getD 0 0) _ _ rfl w _ _ _ _ _) _ _ _ _ _ _ _ _ _ _ _ _ _ _ _ _ _ ?k1 ?k2 ?k3 ?k4 ?k5 ?kk ?kp ?kd ?ku ?_)); (case kk => exact rfl); (case k1 => k_asm); (case k2 => k_asm); (case k3 => k_asm); (case k4 => k_asm); (case k5 => k_asm); (case kd => ktr_room); (case ku => ktr_units)))); (case kp => exact ⟨hS5.mono (by repeat' (first | exact List.forall_mem_nil _ | refine List.forall_mem_cons.mpr ⟨by k_mem, ?_⟩)), hO, hz6, rfl, .inl (Nat.eq_zero_of_not_pos hne)⟩); (intro _ _ _ _ _ _ _))); (try dsimp only))
      k_steps
      (rename RaisedN _ _ _ _ _ _ => hR9); (rename Heap.UpToSlots _ _ => hU9); (rename Fr _ _ _ _ => hF9)
      refine caught_X (Kf := Fq.hd.heap_39 w.params) K9 hF9 hU9 hR9 X9 T9 (by kernel_rfl) PyProof.Rows.Boot.«IndexError» PySem.F.isExc_IndexError PySem.F.notTuple_IndexError (by rw [isSubtype_type]; kernel_rfl) ?_
      intro h9 F9 N9
      k_steps
      dsimp only
      k_with "call ref" => (k_dflt ((((((k_dflt (refine' (reading_no Do yso yso.length os (os.getD 0 0) _ _ rfl w _ _ _ _ _) _ _ _ _ _ _ _ _ _ _ _ _ _ _ _ _ _ ?k1 ?k2 ?k3 ?k4 ?k5 ?kk ?kp ?kd ?ku ?_)); (case kk => exact rfl); (case k1 => k_asm); (case k2 => k_asm); (case k3 => k_asm); (case k4 => k_asm); (case k5 => k_asm); (case kd => ktr_room); (case ku => ktr_units)))); (case kp => exact ⟨by k_mem, hIo, hO, hz6, rfl, .inl (Nat.eq_zero_of_not_pos hne)⟩); (intro _ _ _ _ _))); (try dsimp only); (try k_fold))
      refine wpC_leafS ?_
      k_steps
      dsimp only
      refine wpC_execs_nil ?_
      (rename Fr _ _ _ _ => hF9); (rename News _ _ _ _ => hN9)
      exact for_endG ps7 ⟨hg7, ho7⟩ hF9 hN9 (by repeat' (first | exact List.forall_mem_nil _ | refine List.forall_mem_cons.mpr ⟨by k_mem, ?_⟩)) (by ((intro z hs; have h1 := contains_ne (x := Str.ofString "form") hs (by decide +kernel); have h2 := contains_ne (x := Str.ofString "plain") hs (by decide +kernel); have h3 := contains_ne (x := Str.ofString "word") hs (by decide +kernel); have h4 := contains_ne (x := Str.ofString "read") hs (by decide +kernel); simp [kstB, h1, h2, h3, h4]))) ht7
  · intro ps u s5 hps hX5 F6 N6
    obtain ⟨hX5g, hX5o⟩ := hX5
    clear N5 F5 l9 hl5
    dsimp only
    refine wpC_execs_cons (wpC_If (wpC_isTrue_BoolOp (wpC_Or_cons (wpC_Compare (wpC_Call ?_)))))
    k_steps
    refine wpC_def hfd47 ?_
    k_steps
    · (rename Fr _ _ _ _ => hF9); exact (X9.keeps hF9.keep) _ _ ho47
    (((k_dflt (refine' (vp_c _ _ [] [] _ _ rfl w _ _ _ _ _) _ _ _ _ _ _ _ _ _ _ _ _ _ _ _ _ _ ?k1 ?k2 ?k3 ?k4 ?k5 ?kk ?kp ?kd ?ku ?_)); (case kk => exact rfl); (case k1 => k_asm); (case k2 => k_asm); (case k3 => k_asm); (case k4 => k_asm); (case k5 => k_asm); (case kd => ktr_room); (case ku => ktr_units)))
    case kp => exact ⟨by k_mem, .list _, .nil, (fun z hz => nomatch hz), Nat.zero_le _⟩
    intro t7 h7 tk7 F7 N7
    dsimp only
    rw [show byteArr (encAll (List.map zz [])) = #[] from rfl]
    k_steps
    k_with "call ref" => (k_dflt ((((((k_dflt (refine' (unp_c _ [] _ _ rfl w _ _ _ _ _) _ _ _ _ _ _ _ _ _ _ _ _ _ _ _ _ _ ?k1 ?k2 ?k3 ?k4 ?k5 ?kk ?kp ?kd ?ku ?_)); (case kk => exact rfl); (case k1 => k_asm); (case k2 => k_asm); (case k3 => k_asm); (case k4 => k_asm); (case k5 => k_asm); (case kd => ktr_room); (case ku => ktr_units)))); (case kp => exact ⟨by first | exact .bytes (os := []) _ | exact .list (vs := []) (by k_mem) .nil, (fun z hz => nomatch hz), Nat.zero_le _⟩); (intro _ vs9 _ _ hI9 _ _); (cases (show IntsAre vs9 [] from hI9)))); (try dsimp only); (try k_fold))
    refine wpC_Or_cons (wpC_Compare (wpC_any ?_))
    k_steps
    refine wpC_Or_cons (wpC_Compare (wpC_any ?_))
    k_steps
    refine wpC_Or_nil ?_
    rw [if_neg Bool.false_ne_true]
    refine wpC_execs_nil ?_
    dsimp only
    (rename Fr _ _ _ _ => F8); (rename News _ _ _ _ => N8')
    have N8 := News_sub (nx := [(Dn, LCg.lst ysn), (16, tabObj ps)]) N8' (by repeat' (first | exact List.forall_mem_nil _ | refine List.forall_mem_cons.mpr ⟨by k_mem, ?_⟩))
    clear N8'
    obtain ⟨hs7a, hs7b⟩ := fm_bd (n9.getD (Int.toNat 7) 0) (k := 128) (by decide)
    obtain ⟨hl7a, hl7b⟩ := fm_bd (n9.getD (Int.toNat 7) 0) (k := 1000) (by decide)
    refine wpC_leafS ?_
    k_steps
    refine wpC_execs_cons (wpC_If (wpC_Compare (wpC_Call ?_)))
    k_steps
    refine wpC_def hfd61 ?_
    k_steps
    · (rename Fr _ _ _ _ => hF9); exact (X9.keeps hF9.keep) _ _ ho61
    (((k_dflt (refine' (upack_c _ _ _ _ rfl w _ _ _ _ _) _ _ _ _ _ _ _ _ _ _ _ _ _ _ _ _ _ ?k1 ?k2 ?k3 ?k4 ?k5 ?kk ?kp ?kd ?ku ?_)); (case kk => exact rfl); (case k1 => k_asm); (case k2 => k_asm); (case k3 => k_asm); (case k4 => k_asm); (case k5 => k_asm); (case kd => ktr_room); (case ku => ktr_units)))
    case kp => constructor <;> omega
    intro t7 h7 tk7 F7 N7
    k_steps
    (rename Fr _ _ _ _ => lF9); (rename News _ _ _ _ => lN9)
    refine bytes_K (vs := [.int _ _]) lF9 lN9 ⟨_, (lN9 _ (.head _)).1, rfl, _, rfl⟩ (.cons _ _ .nil) (fun x hx => by rw [List.mem_singleton.mp hx]; constructor <;> omega) (by rw [sizeLine_eq]; show 1 ≤ _; decide) rfl ?_
    intro h8 t8 k8 F8 N8 hB8
    clear hB8
    k_with "compareOp NotEq bytes bytes" => (k_dflt (refine ne_same rfl ?_))
    k_steps
    refine wpC_execs_nil ?_
    dsimp only
    (rename Fr _ _ _ _ => F8); (rename News _ _ _ _ => N8')
    have N8 := News_sub (nx := [(Dn, LCg.lst ysn), (16, tabObj ps)]) N8' (by repeat' (first | exact List.forall_mem_nil _ | refine List.forall_mem_cons.mpr ⟨by k_mem, ?_⟩))
    clear N8'
    refine wpC_leafS ?_
    k_steps
    refine wpC_execs_cons (wpC_Try (wpC_execs_cons (wpC_Expr (wpC_Call ?_))))
    k_steps
    refine wpC_def hfd61 ?_
    k_steps
    · (rename Fr _ _ _ _ => hF9); exact (X9.keeps hF9.keep) _ _ ho61
    (((k_dflt (refine' (upack_no _ _ _ _ rfl w _ _ _ _ _) _ _ _ _ _ _ _ _ _ _ _ _ _ _ _ _ _ ?k1 ?k2 ?k3 ?k4 ?k5 ?kk ?kp ?kd ?ku ?_)); (case kk => exact rfl); (case k1 => k_asm); (case k2 => k_asm); (case k3 => k_asm); (case k4 => k_asm); (case k5 => k_asm); (case kd => ktr_room); (case ku => ktr_units)))
    case kp => show _ < _; omega
    intro e7 g7 h7 tk7 F7 R7 U7
    refine caught_X (Kf := Fq.hd.heap_39 w.params) K9 F7 U7 R7 X9 T9 (by kernel_rfl) PyProof.Rows.Boot.«ValueError» PySem.F.isExc_ValueError PySem.F.notTuple_ValueError (by rw [isSubtype_type]; kernel_rfl) ?_
    intro h9 F9 N9
    clear F7 R7 U7
    k_steps
    dsimp only
    refine wpC_leafS ?_
    k_steps
    dsimp only
    k_with "binaryOp Pow int int" => (first | refine pow40 ?_ | refine pow39 ?_)
    refine wpC_leafS ?_
    k_steps
    obtain ⟨ho7a, ho7b⟩ := fm_bd (n9.getD (Int.toNat 7) 0) (k := 1099511627776) (by decide)
    obtain ⟨ho8a, ho8b⟩ := fm_bd (n9.getD (Int.toNat 8) 0) (k := 1099511627776) (by decide)
    generalize hone : (n9.getD (Int.toNat 7) 0).fmod 1099511627776 - 549755813888 = one at *
    generalize htwo : (n9.getD (Int.toNat 8) 0).fmod 1099511627776 - 549755813888 = two at *
    have hr12 : ∀ z ∈ [one, two], -(2 ^ 39) ≤ z ∧ z < 2 ^ 39 := List.forall_mem_cons.mpr ⟨by omega, List.forall_mem_cons.mpr ⟨by omega, List.forall_mem_nil _⟩⟩
    (rename Fr _ _ _ _ => F8); (rename News _ _ _ _ => N8')
    have N8 := News_sub (nx := [(16, tabObj ps)]) N8' (by repeat' (first | exact List.forall_mem_nil _ | refine List.forall_mem_cons.mpr ⟨by k_mem, ?_⟩))
    clear N8'
    refine wpC_leafS ?_
    k_steps
    refine wpC_execs_cons (wpC_Assign (wpC_Call ?_))
    k_steps
    refine wpC_def hfd47 ?_
    k_steps
    · (rename Fr _ _ _ _ => hF9); exact (X9.keeps hF9.keep) _ _ ho47
    (rename Fr _ _ _ _ => hF9); (rename News _ _ _ _ => hN9)
    refine vp_c _ _ _ [one, two] _ _ rfl w _ _ _ _ _ _ _ _ _ _ _ _ _ _ _ _ _ _ _ _ _ _ K9 hF9 X9 hN9 T9 rfl ⟨.head _, .list _, .cons _ _ (.cons _ _ .nil), hr12, Nat.le_refl _⟩ (by ktr_room) (by ktr_units) ?_
    generalize hbs : encAll (List.map zz [one, two]) = bs
    intro t7 h7 tk7 F7 N7
    dsimp only
    k_steps
    refine wpC_execs_cons (wpC_If (wpC_isTrue_BoolOp (wpC_Or_cons (wpC_Compare (wpC_Call ?_)))))
    k_steps
    refine wpC_def hfd47 ?_
    k_steps
    · (rename Fr _ _ _ _ => hF9); exact (X9.keeps hF9.keep) _ _ ho47
    (rename Fr _ _ _ _ => hF9); (rename News _ _ _ _ => hN9)
    refine vp_c _ _ _ [one, two] _ _ rfl w _ _ _ _ _ _ _ _ _ _ _ _ _ _ _ _ _ _ _ _ _ _ K9 hF9 X9 hN9 T9 rfl ⟨.head _, .tuple (by show 0 < 2; decide), .cons _ _ (.cons _ _ .nil), hr12, Nat.le_refl _⟩ (by ktr_room) (by ktr_units) ?_
    rw [hbs]
    intro t8 h8 tk8 F8 N8
    dsimp only
    k_with "compareOp NotEq bytes bytes" => (k_dflt (refine ne_same rfl ?_))
    k_steps
    have hz41 : ∀ z ∈ [zz one, zz two], 0 ≤ z ∧ z < 2 ^ 41 := List.forall_mem_cons.mpr ⟨⟨zz_nonneg _, Int.lt_trans (zz_lt (hr12 one (.head _)).1 (hr12 one (.head _)).2) (by decide)⟩, List.forall_mem_cons.mpr ⟨⟨zz_nonneg _, Int.lt_trans (zz_lt (hr12 two (.tail _ (.head _))).1 (hr12 two (.tail _ (.head _))).2) (by decide)⟩, List.forall_mem_nil _⟩⟩
    refine wpC_Or_cons (wpC_Compare (wpC_any ?_))
    have hSB : SeqB [] (.bytes (byteArr bs) t7) (encAll [zz one, zz two]) := by
      rw [show encAll [zz one, zz two] = bs from hbs]
      exact .bytes _
    k_with "call ref" => (k_dflt ((((((k_dflt (refine' (unp_c _ [zz one, zz two] _ _ rfl w _ _ _ _ _) _ _ _ _ _ _ _ _ _ _ _ _ _ _ _ _ _ ?k1 ?k2 ?k3 ?k4 ?k5 ?kk ?kp ?kd ?ku ?_)); (case kk => exact rfl); (case k1 => k_asm); (case k2 => k_asm); (case k3 => k_asm); (case k4 => k_asm); (case k5 => k_asm); (case kd => ktr_room); (case ku => ktr_units)))); (case kp => exact ⟨hSB.mono (fun _ h => nomatch h), hz41, Nat.le_refl _⟩); (intro _ vs9 _ _ hI9 _ _); (obtain ⟨_, _, hv9⟩ := two_back hI9); (subst hv9))); (try dsimp only); (try k_fold))
    k_steps
    refine wpC_Or_cons (wpC_Compare (wpC_any ?_))
    k_steps
    refine wpC_Or_nil ?_
    rw [if_neg Bool.false_ne_true]
    refine wpC_execs_nil ?_
    dsimp only
    (rename Fr _ _ _ _ => F8); (rename News _ _ _ _ => N8')
    have N8 := News_sub (nx := [(16, tabObj ps)]) N8' (by repeat' (first | exact List.forall_mem_nil _ | refine List.forall_mem_cons.mpr ⟨by k_mem, ?_⟩))
    clear N8'
    k_with_none
    refine wpC_leafS ?_
    k_steps
    refine wpC_execs_cons (wpC_Try (wpC_execs_cons (wpC_Expr (wpC_Call ?_))))
    k_steps
    refine wpC_def hfd47 ?_
    k_steps
    · (rename Fr _ _ _ _ => hF9); exact (X9.keeps hF9.keep) _ _ ho47
    (rename Fr _ _ _ _ => hF9); (rename News _ _ _ _ => hN9)
    refine vp_x _ _ _ _ _ _ _ _ _ rfl w _ _ _ _ _ _ _ _ _ _ _ _ _ _ _ _ _ _ _ _ _ _ K9 hF9 X9 hN9 T9 rfl (.head _) (by ktr_room) (by ktr_units) ?_
    intro e7 g7 h7 tk7 F7 R7 U7
    refine caught_X (Kf := Fq.hd.heap_39 w.params) K9 F7 U7 R7 X9 T9 (by kernel_rfl) PyProof.Rows.Boot.«ValueError» PySem.F.isExc_ValueError PySem.F.notTuple_ValueError (by rw [isSubtype_type]; kernel_rfl) ?_
    intro h9 F9 N9
    clear F7 R7 U7
    k_steps
    dsimp only
    refine wpC_execs_cons (wpC_Try (wpC_execs_cons (wpC_Expr (wpC_Call ?_))))
    k_steps
    refine wpC_def hfd47 ?_
    k_steps
    · (rename Fr _ _ _ _ => hF9); exact (X9.keeps hF9.keep) _ _ ho47
    (rename Fr _ _ _ _ => hF9); (rename News _ _ _ _ => hN9)
    refine vp_none _ _ _ _ _ _ rfl w _ _ _ _ _ _ _ _ _ _ _ _ _ _ _ _ _ _ _ _ _ _ K9 hF9 X9 hN9 T9 rfl (.head _) (by ktr_room) (by ktr_units) ?_
    intro e7 g7 h7 tk7 F7 R7 U7
    refine caught_X (Kf := Fq.hd.heap_39 w.params) K9 F7 U7 R7 X9 T9 (by kernel_rfl) PyProof.Rows.Boot.«TypeError» PySem.F.isExc_TypeError PySem.F.notTuple_TypeError (by rw [isSubtype_type]; kernel_rfl) ?_
    intro h9 F9 N9
    clear F7 R7 U7
    k_steps
    dsimp only
    refine wpC_leafS ?_
    k_steps
    dsimp only
    rw [show ((0 : Int) + 1 + 1 == 2) = true from by decide]
    (rename Fr _ _ _ _ => lF9); (rename News _ _ _ _ => lN9)
    exact good_true hT9 lF9 lN9 (ps := ps) (by k_mem) hX5g hX5o (law_raises _ _) (law_post _ _))
end Fq
end
open PySem PySem.W PyProof.Rows
theorem PySem.Challenge.cw_fq5007_01_holds : PySem.Challenge.rw_fq5007_01.Holds := by
  exact Fq.law_holds
