import PyProof.Rows.All
import Wide.All
import OpenK.AllK
import Wide.FinOn
import PySem.Challenge.RW_zo0030_01
set_option Elab.async false
set_option compiler.extract_closed false
local macro_rules | `(tactic| omega) => `(tactic| first | ((repeat (first | (rename (@Ne Nat _ _) => hz; clear hz) | (rename (@Ne Nat _ _ ∧ _) => hz; clear hz) | (rename ((@Ne Nat _ _ ∧ _) ∧ _) => hz; clear hz) | (rename (@LT.lt Nat _ _ ∧ _) => hz; clear hz))); (fail_if_success (fail_if_success omega +splitDisjunctions)); first | lia | omega +splitDisjunctions) | ((fail_if_success (fail_if_success omega +splitDisjunctions)); first | lia | omega +splitDisjunctions))
section
open PySem PySem.Spec PySem.Calls PySem.W PyProof.Rows
set_option linter.unusedVariables false
namespace Mine
/-- builtins whose call on the stack would hold a bytearray -/
def baIds : List String := ["bytearray.__contains__", "bytearray.__mod__", "bytearray.__rmod__", "_struct.pack_into.held", "bytearray.find.held"] ++ Builtin.Bytes.decodersThatHold
def baBad : Code → Bool
  | .builtin id _ => baIds.contains id
  | _ => false
/-- below stand no such builtins, and the claim's own caller -/
def CleanB (Γ : PySem.Ctx) : Prop := (∀ x ∈ Γ.below, baBad x.1 = false) ∧ ∃ x ∈ Γ.below, x.1.isCaller = true
def Clean (Γ : PySem.Ctx) : Prop := baBad Γ.code = false ∧ (∀ x ∈ Γ.below, baBad x.1 = false) ∧ (Γ.code.isCaller = true ∨ ∃ x ∈ Γ.below, x.1.isCaller = true)
def wpC {α : Type} (M : Model) (A : Around) (t : Sem α) (Q : α → Shared → Prop) (E : Value → Shared → Prop) (s : Shared) : Prop :=
  ∀ Γ p, Γ.In A → Clean Γ → Sem.wp M Γ t (fun a _ s' => Q a s') (fun e _ s' => E e s') p s
def codeC (M : Model) (A : Around) (c : Code) (R : Result → Shared → Prop) (s : Shared) : Prop :=
  ∀ Γ p, Γ.code = c → Γ.Below A → CleanB Γ → wpCode M Γ R p s
section
variable {α β : Type} {M : Model} {A : Around} {E : Value → Shared → Prop} {s : Shared}
theorem wpC_of_any {t : Sem α} {Q : α → Shared → Prop} (h : wpAny M A t Q E s) : wpC M A t Q E s := fun Γ p hΓ _ => h Γ p hΓ
theorem codeC_of_any {c : Code} {R : Result → Shared → Prop} (h : codeAny M A c R s) : codeC M A c R s := fun Γ p hc hΓ _ => h Γ p hc hΓ
theorem wpC_pure {a : α} {Q : α → Shared → Prop} (h : Q a s) : wpC M A (pure a) Q E s := fun _ _ _ _ => h
theorem wpC_mono {t : Sem α} {Q Q' : α → Shared → Prop} {E' : Value → Shared → Prop} (h : wpC M A t Q E s) (hQ : ∀ a s, Q a s → Q' a s) (hE : ∀ e s, E e s → E' e s) : wpC M A t Q' E' s :=
  fun Γ p hΓ hc => Sem.wp_mono M Γ t (fun a _ s => hQ a s) (fun e _ s => hE e s) p s (h Γ p hΓ hc)
theorem wpC_bind {m : Sem α} {f : α → Sem β} {Q : β → Shared → Prop} (h : wpC M A m (fun a s' => wpC M A (f a) Q E s') E s) : wpC M A (m >>= f) Q E s := fun Γ p hΓ hc => by
  rw [Sem.wp_bind']
  exact Sem.wp_mono M Γ m (fun a p' s' h' => h' Γ p' hΓ hc) (fun _ _ _ h' => h') p s (h Γ p hΓ hc)
/-- the head of a sequence by the library's logic -/
theorem wpC_anyBind {m : Sem α} {f : α → Sem β} {Q : β → Shared → Prop} (h : wpAny M A m (fun a s' => wpC M A (f a) Q E s') E s) : wpC M A (m >>= f) Q E s := wpC_bind (wpC_of_any h)
theorem seq_of {m : Sem α} {f : α → Sem β} {P : α → Shared → Prop} {Q : β → Shared → Prop} (h : wpAny M A m P E s) (k : ∀ a s', P a s' → wpAny M A (f a) Q E s') : wpAny M A (m >>= f) Q E s :=
  wpAny_bind (wpAny_mono h k fun _ _ x => x)
/-- a piece by the library's logic, what follows in a clean context -/
theorem seq_C {m : Sem α} {f : α → Sem β} {P : α → Shared → Prop} {Q : β → Shared → Prop} (h : wpAny M A m P E s) (k : ∀ a s', P a s' → wpC M A (f a) Q E s') : wpC M A (m >>= f) Q E s :=
  wpC_anyBind (wpAny_mono h k fun _ _ x => x)
theorem wpC_onRaise {m : Sem α} {k : Value → Sem Unit} {Q : α → Shared → Prop} (h : wpC M A m Q (fun e s' => wpC M A (k e) (fun _ s'' => E e s'') E s') s) : wpC M A (m.onRaise k) Q E s := fun Γ p hΓ hc => by
  rw [Sem.wp_onRaise]
  exact Sem.wp_mono M Γ m (fun _ _ _ h' => h') (fun e p' s' h' => h' Γ p' hΓ hc) p s (h Γ p hΓ hc)
theorem wpC_holding {vs : List Value} {m : Sem α} {Q : α → Shared → Prop} (h : wpC M A m Q E s) : wpC M A (holding vs m) Q E s := fun Γ p hΓ hc => by rw [Sem.wp_holding]; exact h Γ p hΓ hc
theorem wpC_keep {vs : List Value} {m : Sem α} {Q : α → Shared → Prop} (h : wpC M A m Q E s) : wpC M A (m.keep vs) Q E s := fun Γ p hΓ hc => by rw [Sem.wp_keep]; exact h Γ p hΓ hc
theorem wpC_standAt {pos : Pos} {Q : Unit → Shared → Prop} (h : Q () s) : wpC M A (standAt pos) Q E s := fun _ _ _ _ => h
theorem wpC_runValue {c : Code} {Q : Value → Shared → Prop} (hc : codeC M A c (fun r s' => match r with | .ok (.ret v) => Q v s' | .ok _ => False | .error e => E e s') s) : wpC M A (runValue c) Q E s := fun Γ p hΓ hcl => by
  rw [Sem.wp_runValue]
  refine hc _ p rfl (hΓ.enter c none p (by intro x; cases x)) ⟨fun x hx => ?_, ?_⟩
  · rcases List.mem_cons.mp hx with rfl | hx
    · exact hcl.1
    · exact hcl.2.1 x hx
  · rcases hcl.2.2 with h | ⟨x, hx, h⟩
    · exact ⟨(Γ.code, p), .head _, h⟩
    · exact ⟨x, .tail _ hx, h⟩
theorem wpC_call {f : Value} {pos : List Value} {kw : List (Str × Value)} {Q : Value → Shared → Prop}
    (hc : codeC M A (.call f ⟨pos, kw⟩) (fun r s' => match r with | .ok (.ret v) => Q v s' | .ok _ => False | .error e => E e s') s) : wpC M A (call f pos kw) Q E s := wpC_runValue hc
theorem codeC_mono {c : Code} {R R' : Result → Shared → Prop} (h : codeC M A c R s) (hR : ∀ r s, R r s → R' r s) : codeC M A c R' s := fun Γ p hc hΓ hb => wpCode_mono hR (h Γ p hc hΓ hb)
theorem codeC_of_tree {c : Code} {R : Result → Shared → Prop} (hb : baBad c = false)
    (h : wpC M (A.under c) (M.den c) (fun fin s' => match fin with | .done f => R (.ok f) s' | .again c' => c'.quiet = true ∧ codeC M A c' R s') (fun e s' => R (.error e) s') s) : codeC M A c R s := fun Γ p hc hΓ hcl => by
  rw [wpCode_iff_wp, hc]
  refine Sem.wp_mono M Γ _ (fun fin p' s' h' => ?_) (fun _ _ _ h' => h') p s (h Γ p (hc ▸ hΓ.in) ⟨by rw [hc]; exact hb, hcl.1, .inr hcl.2⟩)
  cases fin with
  | done f => exact h'
  | again c' => exact ⟨h'.1, h'.2 (Γ.goto c') p' rfl (hΓ.goto c') hcl⟩
theorem any_clean {f : Code × Pos → Bool} (hf : ∀ c p, baBad c = false → f (c, p) = false) : ∀ {l : List (Code × Pos)}, (∀ x ∈ l, baBad x.1 = false) → l.any f = false
  | [], _ => rfl
  | (c, p) :: l, h => by rw [List.any_cons, hf c p (h (c, p) List.mem_cons_self), any_clean hf fun x hx => h x (List.mem_cons_of_mem _ hx)]; rfl
theorem wpC_stackAny {f : Code × Pos → Bool} (hf : ∀ c p, baBad c = false → f (c, p) = false) {Q : Bool → Shared → Prop} (h : Q false s) : wpC M A (do return (← stack).any f) Q E s := fun Γ p _ hc => by
  show Q (((Γ.code, p) :: Γ.below).any f) s
  rw [any_clean hf fun x hx => by
    rcases List.mem_cons.mp hx with rfl | hx
    · exact hc.1
    · exact hc.2.1 x hx]
  exact h
theorem wpC_execs_cons {env : Env} {st : Stmt} {rest : List Stmt} {Q : Flow → Shared → Prop}
    (h : wpC M A (exec st env) (fun f s' => match f with | .next => wpC M A (execs rest env) Q E s' | f => Q f s') E s) : wpC M A (execs (st :: rest) env) Q E s := by
  rw [execs_cons]
  refine wpC_bind (wpC_mono h (fun f s' h' => ?_) fun _ _ x => x)
  cases f <;> first | exact h' | exact wpC_pure h'
theorem wpC_Assign_Name {env : Env} {x : Str} {pos' : Pos} {value : Expr} {pos : Pos} {Q : Flow → Shared → Prop}
    (h : wpC M A (eval value env) (fun v s₁ => wpAny M A (storeName env x v) (fun _ s' => Q .next s') E s₁) E s)
    (hs : swapsWith value (some (.Name x pos')) pos.line env = pure false := by rfl) : wpC M A (exec (.Assign [.Name x pos'] value pos) env) Q E s := by
  rw [exec_Assign_Name env x pos' value pos hs]
  refine wpC_bind (wpC_standAt (wpC_bind (wpC_mono h (fun v s₁ h₁ => ?_) fun _ _ x => x)))
  refine wpC_of_any (wpAny_bind (wpAny_standAt (wpAny_bind (wpAny_bindName (wpAny_mono h₁ (fun _ _ h'' => wpAny_pure h'') fun _ _ x => x)))))
theorem wpC_Call_Name {env : Env} {id : Str} {p pos : Pos} {args : List Expr} {keywords : List Keyword} {Q : Value → Shared → Prop}
    (h : wpAny M A (eval (.Name id p) env) (fun f s₁ => wpC M A (callWith pos f [] (backTo pos (starEach args env)) (backToKw pos (keywordEach keywords env))) Q E s₁) E s) : wpC M A (eval (.Call (.Name id p) args keywords pos) env) Q E s := by
  rw [arm_eval_Call_Name']
  exact wpC_anyBind h
theorem wpC_callWith {pos : Pos} {f : Value} {first : List Value} {P : Heap → Prop} {args : List (Bool × Sem Value)} {keywords : List (Option Str × Sem Value)} {Q : Value → Shared → Prop} (hplain : (args.any (·.1) || keywords.any (·.1.isNone)) = false)
    (hk : ∀ h, P h → ∃ k, (k = Keeper.frame ∨ k = Keeper.machine ∨ k = Keeper.boundFrame) ∧ Looks M h (keeperOf f) k)
    (h : wpAny M A (evalArgs f true args keywords) (fun a s₁ => P s₁.heap ∧ wpC M A (call f (first ++ a.pos) a.kw) Q E s₁) E s) : wpC M A (callWith pos f first args keywords) Q E s := by
  have close (t : Sem Value) {s' : Shared} (ht : wpC M A t Q E s') : wpC M A (t >>= fun r => holding [r] point >>= fun _ => pure r) Q E s' :=
    wpC_bind (wpC_mono ht (fun r _ hr => wpC_anyBind (wpAny_holding (wpAny_point (wpC_pure hr)))) fun _ _ x => x)
  unfold callWith
  refine seq_C (wpAny_holding h) fun a s₁ q => wpC_bind (wpC_standAt ?_)
  rw [hplain]
  rcases hk _ q.1 with ⟨k, e, L⟩
  refine wpC_anyBind (L.here ?_)
  have plain := close _ q.2
  have held (mk : Value) : wpC M A (callMarked mk f (first ++ a.pos) a.kw >>= fun r => holding [r] point >>= fun _ => pure r) Q E s₁ := close _ (by rw [callMarked]; exact wpC_keep q.2)
  have few (mk : Value) : wpC M A (if args.length + 2 * keywords.length > 30 then call f (first ++ a.pos) a.kw >>= fun r => holding [r] point >>= fun _ => pure r else callMarked mk f (first ++ a.pos) a.kw >>= fun r => holding [r] point >>= fun _ => pure r) Q E s₁ := by
    split
    · exact plain
    · exact held _
  rcases e with rfl | rfl | rfl
  · exact few _
  · exact plain
  · exact few _
theorem wpC_callWith_s {env : Env} {pos : Pos} {f : Value} {first : List Value} {P : Heap → Prop} {e : Expr} {rest : List Expr} {Q : Value → Shared → Prop}
    (hk : ∀ h, P h → ∃ k, (k = Keeper.frame ∨ k = Keeper.machine ∨ k = Keeper.boundFrame) ∧ Looks M h (keeperOf f) k)
    (h : wpAny M A (spliced (backTo pos (starEach (e :: rest) env))) (fun vs s₁ => P s₁.heap ∧ wpC M A (call f (first ++ vs)) Q E s₁) E s)
    (he : starEach (e :: rest) env = (false, eval e env) :: starEach rest env := by rfl) (hplain : (backTo pos (starEach rest env)).any (·.1) = false := by rfl) :
    wpC M A (callWith pos f first (backTo pos (starEach (e :: rest) env)) []) Q E s := by
  rw [he] at h ⊢
  exact wpC_callWith (by show ((false || (backTo pos (starEach rest env)).any (·.1)) || false) = false; rw [hplain]; rfl) hk (evalArgs_plain h)
end
section
variable {prog : Program} {w : World} {A : Around} {s : Shared} {R : Result → Shared → Prop}
theorem codeC_func {body : List Stmt} {env : Env}
    (h : wpC (model prog w) (A.deeper env) (execs body env) (fun f s' => R (.ok (.ret (match f with | .ret v => v | _ => .none))) s')
      (fun e s' => wpAny (model prog w) (A.deeper env) (leaving env e) (fun _ s'' => R (.error e) s'') (fun e' s'' => R (.error e') s'') s') s) : codeC (model prog w) A (.func body env) R s := by
  refine codeC_of_tree rfl ?_
  show wpC _ (A.deeper env) (do point; match ← (execs body env).onRaise (leaving env) with | .ret v => ret v | _ => ret .none) _ _ s
  refine wpC_bind (wpC_of_any (wpAny_point (wpC_bind (wpC_onRaise (wpC_mono h (fun f s' h' => ?_) fun _ _ h' => wpC_of_any h')))))
  cases f <;> exact wpC_pure h'
/-- a plain function's call behind its text -/
def callBody (a : Addr) (fd : FuncData) (body : List Stmt) (args : Args) (q : Str) : Sem Fin := do
  let env ← newFunctionEnv fd.scope fd.globals fd.closure (← bindArgs fd args) (q ++ ".<locals>.") (some a) fd.code none fd.builtins
  enterFrame
  again (.func body env)
theorem callFunction_plain {a c : Addr} {fd : FuncData} {body : List Stmt} {args : Args} (hco : fd.scope.isCoroutine = false) (hgen : fd.scope.isGenerator = false) (hbody : fd.body = .stmts body) (hc : fd.code = .ref c) :
    callFunction a fd args = (field (.ref c) 1 >>= fun v => match v with | .str q _ => pure q >>= callBody a fd body args | _ => pure fd.qualname >>= callBody a fd body args) := by
  unfold callFunction callBody
  rw [hco, hgen, hbody, hc]
  rfl
theorem codeC_call_function {a : Addr} {args : Args} {o : Obj} {fd : FuncData} {body : List Stmt} (hroom : A.depth < recursionLimit) (ho : s.heap.get? a = some o)
    (hd' : o.data = .func fd) (hco : fd.scope.isCoroutine = false) (hgen : fd.scope.isGenerator = false) (hbody : fd.body = .stmts body) (hcd : s.heap.CodeRec fd.code fd.qualname)
    (h : wpAny (model prog w) A.in1 (bindArgs fd args) (fun binds s₁ =>
      wpAny (model prog w) A.in1 (newFunctionEnv fd.scope fd.globals fd.closure binds (fd.qualname ++ ".<locals>.") (some a) fd.code none fd.builtins)
        (fun env s₂ => s₂.heap.NoLimit ∧ codeC (model prog w) A (.func body env) R s₂) (fun e s' => R (.error e) s') s₁) (fun e s' => R (.error e) s') s) :
    codeC (model prog w) A (.call (.ref a) args) R s := by
  obtain ⟨c, _, _, _, hc, ho', hd, hq⟩ := hcd
  refine codeC_of_tree rfl (wpC_of_any ?_)
  show wpAny _ A.in1 (load a >>= _) _ _ s
  refine wpAny_bind (wpAny_load ho ?_)
  rw [hd']
  show wpAny _ A.in1 (callFunction a fd args) _ _ s
  rw [callFunction_plain hco hgen hbody hc]
  exact wpAny_bind (wpAny_field ho' hd hq (wpAny_bind (wpAny_pure (seq_of h fun _ _ h₁ => seq_of h₁ fun _ _ h₂ => wpAny_bind (wpAny_enterFrame h₂.1 hroom (wpAny_pure ⟨rfl, h₂.2⟩))))))
end
end Mine
end
section
open PySem PySem.Spec PySem.Calls PySem.W PyProof.Rows
set_option linter.unusedVariables false
set_option maxRecDepth 100000
namespace Mine
section
variable {prog : Program} {w : World} {A₀ A : Around} {s : Shared} {base h₀ : Heap} {outer : List Env} {L : Addr} {m mg mb : Str → Option Value} {env : Env} {news : List (Addr × Obj)} {K : Frag} {p : Program} {loose : List Str} {mean : ExcName → Option Value}
  {R : Result → Shared → Prop} {name qual : Str} {params : Arguments} {body : List Stmt} {scope : Scope} {dV kV doc pm cdv ct oc : Value} {an od : Option Addr} {osl : Array (Option Value)} {f : Addr} {args : Args} {binds : List (Str × Value)}
end
end Mine
end
section
open PySem PySem.Spec PySem.Calls PySem.W PyProof.Rows
set_option linter.unusedVariables false
set_option maxRecDepth 100000
namespace Mine
theorem ba_mro : mroOf (.type "bytearray") = pure [.type "bytearray", .type "object"] := by rw [mroOf_type]; kernel_rfl
theorem ba_lookup_new : typeLookup (.type "bytearray") "__new__" = pure (some (.builtin "bytearray.__new__")) := by rw [typeLookup_type, builtinLookup_eq_fast]; kernel_rfl
theorem ba_slot_init : Slot "bytearray" "__init__" "bytearray.__init__" :=
  .of (owner := "bytearray") (n := "__init__") (by rw [typeLookup_type, builtinLookup_eq_fast]; kernel_rfl) (by decide +kernel) (by decide +kernel) (by decide +kernel)
    (by first | exact .inl (by decide +kernel) | exact .inr (by decide +kernel)) (by rw [isSubtype_type]; kernel_rfl)
theorem ba_called : TypeCalled "bytearray" "bytearray.__new__" "bytearray.__init__" :=
  ⟨by decide +kernel, by decide +kernel, ⟨_, _, ba_mro⟩, madeBy_type ba_mro ba_lookup_new (by decide +kernel), by decide +kernel, by rw [isSubtype_type]; kernel_rfl, ba_slot_init⟩
theorem ba_typeCall (a : Value) : checkTypeCall "bytearray" ⟨[a], []⟩ = pure () := by kernel_rfl
theorem ba_newCall (a : Value) : checkBuiltinCall "bytearray.__new__" ⟨[.type "bytearray", a], []⟩ = pure () := by kernel_rfl
theorem ba_entry_new : entryFor table "bytearray.__new__" = some Builtin.«list.__new__» := entryFor_alias (id' := "list.__new__") (by kernel_rfl) (by decide +kernel) (by decide +kernel) (by kernel_rfl)
theorem ba_plain_new : plainId "bytearray.__new__" = true := by decide +kernel
theorem ba_entry_init : entryFor table "bytearray.__init__" = some Builtin.«bytearray.__init__» := by first | exact entryFor_of_fast (by kernel_rfl) | exact entryFor_of_tree (by kernel_rfl)
theorem ba_args_init (a b : Value) : argsOk "bytearray.__init__" ⟨[a, b], []⟩ := by unfold argsOk; kernel_rfl
theorem ba_release : typeLookup (.type "bytearray") "__release_buffer__" = pure (some (.builtin "bytearray.__release_buffer__")) := by rw [typeLookup_type, builtinLookup_eq_fast]; kernel_rfl
theorem ba_bind (v : Value) : Builtin.Bytes.bindOptional "bytearray.__init__" "bytearray" ["source", "encoding", "errors"] [v] [] = pure [some v, none, none] := by kernel_rfl
set_option maxRecDepth 1000000 in
set_option maxHeartbeats 4000000 in
theorem ba_owner : ("bytearray.__new__".splitOn ".__new__").headD "" = "bytearray" := by simp +decide [String.splitOn, String.splitOnAux]
abbrev baObj (b : Array UInt8) : Obj := { cls := .type "bytearray", data := .bytearray b }
section
variable {prog : Program} {w : World} {A : Around} {E : Value → Shared → Prop} {s : Shared}
theorem ba_new (a : Value) {Q₁ : Value → Shared → Prop} (h : Q₁ (.ref s.heap.objs.size) { s with heap := s.heap.push (baObj #[]) }) :
    codeAny (model prog w) A (.call (.builtin "bytearray.__new__") ⟨[.type "bytearray", a], []⟩) (wants Q₁ E) s := by
  refine codeAny_of_tree ?_
  show wpAny _ A.in1 (do checkBuiltinCall "bytearray.__new__" ⟨[.type "bytearray", a], []⟩; again (.builtin "bytearray.__new__" ⟨[.type "bytearray", a], []⟩)) _ _ s
  refine wpAny_bind (wpAny_of_eq (ba_newCall a) (wpAny_pure ⟨plainId_quiet ba_plain_new _, codeAny_builtin_stack ba_entry_new rfl fun p st => ?_⟩))
  rw [Around.under_plainId ba_plain_new _]
  have hsub := _root_.PySem.F.sub_bytearray_bytearray
  have hown := ba_owner
  obtain ⟨hp, g, d, tk, os⟩ := s
  simp only [hown]
  wp_walk
  exact h
end
end Mine
end
section
open PySem PySem.Spec PySem.Calls PySem.W PyProof.Rows
set_option linter.unusedVariables false
set_option maxRecDepth 100000
namespace Mine
section
variable {prog : Program} {w : World} {A : Around} {E : Value → Shared → Prop} {s : Shared}
theorem wpC_if_false {α : Type} {M : Model} {c : Bool} {a b : Sem α} {Q : α → Shared → Prop} (hc : c = false) (h : wpC M A b Q E s) : wpC M A (if c = true then a else b) Q E s := by
  subst hc
  exact h
theorem ba_own_end : ("bytearray.__release_buffer__".endsWith ("." ++ "__release_buffer__")) = true := by decide +kernel
theorem ba_own_drop : "bytearray.__release_buffer__".dropRight ("__release_buffer__".length + 1) = "bytearray" := by decide +kernel
theorem ba_ownRelease {M : Model} {a : Addr} {Q : Bool → Shared → Prop} (hT : s.TypeIs (.ref a) "bytearray") (h : Q false s) : wpAny M A (Builtin.Bytes.ownRelease (.ref a)) Q E s := by
  unfold Builtin.Bytes.ownRelease Builtin.Bytes.slotIsOwn
  refine wpAny_bind (wpAny_bind (wpAny_specialOf hT ba_release ?_))
  show wpAny M A (if (!"bytearray.__release_buffer__".endsWith ("." ++ "__release_buffer__")) = true then _ else _) _ E s
  rw [ba_own_end, if_neg (by decide)]
  rw [ba_own_drop]
  exact wpAny_isInstance hT _root_.PySem.F.sub_bytearray_bytearray (wpAny_pure h)
theorem ba_not_dec {id : String} (h : baIds.contains id = false) : Builtin.Bytes.decodersThatHold.contains id = false := by
  unfold baIds at h
  rw [List.contains_eq_mem] at h ⊢
  simp only [List.mem_append, decide_eq_false_iff_not, not_or] at h ⊢
  exact h.2
theorem ba_exported {M : Model} {v : Value} {Q : Bool → Shared → Prop} (h : Q false s) : wpC M A (Builtin.Bytes.exported v) Q E s := by
  unfold Builtin.Bytes.exported
  refine wpC_stackAny (fun c p hb => ?_) h
  cases c with
  | builtin id args =>
    have hb' : baIds.contains id = false := hb
    obtain ⟨pos, kw⟩ := args
    have n1 : id ≠ "bytearray.__contains__" := fun e => absurd (e ▸ hb') (by decide +kernel)
    have n2 : id ≠ "bytearray.__mod__" := fun e => absurd (e ▸ hb') (by decide +kernel)
    have n3 : id ≠ "bytearray.__rmod__" := fun e => absurd (e ▸ hb') (by decide +kernel)
    have n4 : id ≠ "_struct.pack_into.held" := fun e => absurd (e ▸ hb') (by decide +kernel)
    have n5 : id ≠ "bytearray.find.held" := fun e => absurd (e ▸ hb') (by decide +kernel)
    have hd := ba_not_dec hb'
    delta Builtin.Bytes.exported.match_1
    delta Builtin.Bytes.exported._sparseCasesOn_1
    dsimp only
    rw [dif_neg n1, dif_neg n2, dif_neg n3, dif_neg n4, dif_neg n5]
    delta Builtin.Bytes.exported._sparseCasesOn_2
    cases pos with
    | nil => rfl
    | cons v' vs =>
      dsimp only
      rw [hd, Bool.and_false]
  | _ => rfl
theorem int_index (n : Int) (t : Tok) : specialOf (.int n t) (Str.ofString "__index__") = pure (some (.builtin "int.__index__")) := by
  show typeLookup (.type "int") (Str.ofString "__index__") = _
  rw [typeLookup_type, builtinLookup_eq_fast]; kernel_rfl
theorem ba_write {M : Model} {a : Addr} {b : Array UInt8} {f : Array UInt8 → Array UInt8} {Q : Unit → Shared → Prop} (hS : s.heap.get? a = some (baObj b)) (hz : (f b).size ≤ sizeLine)
    (h : ∀ h', h'.get? a = some (baObj (f b)) → Heap.SameBut a s.heap h' → Q () { s with heap := h' }) : wpAny M A (Builtin.Bytes.write (.ref a) f) Q E s := by
  show wpAny _ _ (updateBytearray a f) _ _ _
  unfold updateBytearray
  refine wpAny_bind (wpAny_load hS ?_)
  show wpAny _ _ (update a (Obj.mapBytearray f) >>= fun _ => lookBehind a) _ _ _
  refine wpAny_bind (wpAny_update hS ?_)
  have hS₂ : (s.heap.update a (Obj.mapBytearray f)).get? a = some (baObj (f b)) := Heap.get?_update_self (Obj.mapBytearray f) hS rfl
  refine wpAny_lookBehind hS₂ ?_ ?_
  · show (if (f b).size > sizeLine then some "bytearray:memory" else none) = none
    rw [if_neg (Nat.not_lt.mpr hz)]
  · exact h _ hS₂ (Heap.SameBut.update ..)
theorem ba_init {a : Addr} {n : Int} {t : Tok} {Q : Fin → Shared → Prop} (h0 : 0 < n) (h1 : n ≤ 1000) (hS : s.heap.get? a = some (baObj #[]))
    (h : ∀ h', h'.get? a = some (baObj (Array.replicate n.toNat 0)) → (∀ b o, b ≠ a → s.heap.get? b = some o → h'.get? b = some o) → Q (.done (.ret .none)) { s with heap := h' }) :
    wpC (model prog w) A (Builtin.«bytearray.__init__» ⟨[.ref a, .int n t], []⟩) Q E s := by
  have hT : s.TypeIs (.ref a) "bytearray" := ⟨_, hS, rfl⟩
  unfold Builtin.«bytearray.__init__»
  refine wpC_anyBind (ba_ownRelease hT ?_)
  refine wpC_if_false rfl ?_
  refine wpC_anyBind (wpAny_of_eq (ba_bind _) ?_)
  refine wpC_anyBind (wpAny_of_eq (a := ()) rfl ?_)
  refine wpC_anyBind (wpAny_of_eq (a := ()) rfl ?_)
  refine wpC_bind ?_
  show wpC _ _ (Builtin.Bytes.exported (.ref a) >>= _) _ _ _
  refine wpC_bind (ba_exported ?_)
  show wpC _ _ (Builtin.Bytes.exportsOf (.ref a) >>= _) _ _ _
  unfold Builtin.Bytes.exportsOf
  refine wpC_anyBind (wpAny_bind (wpAny_load hS ?_))
  refine wpAny_pure (wpC_pure ?_)
  refine wpC_if_false (by rfl) (wpC_of_any ?_)
  refine wpAny_bind (ba_write hS (Nat.zero_le _) fun h₁ hS₁ hs₁ => ?_)
  refine wpAny_bind (wpAny_of_eq (a := none) rfl ?_)
  refine bm_if_false rfl ?_
  refine wpAny_bind (wpAny_of_eq (a := ()) rfl ?_)
  refine wpAny_bind (wpAny_of_eq (int_index n t) ?_)
  refine bm_if_true rfl ?_
  refine wpAny_bind (wpAny_of_eq (a := .ok n) rfl ?_)
  dsimp only
  have f1 : Builtin.Bytes.fitsIndex n = true := by
    unfold Builtin.Bytes.fitsIndex
    simp only [Bool.and_eq_true, decide_eq_true_eq]
    constructor
    · have : -(2 ^ 63 : Int) ≤ 0 := by decide
      omega
    · have : (1000 : Int) < 2 ^ 63 := by decide
      omega
  refine bm_if_false (by rw [f1]; rfl) ?_
  rw [if_neg (by omega)]
  refine bm_if_false (by rw [beq_eq_false_iff_ne]; have : (1000 : Int) < 2 ^ 63 - 1 := by decide
                         omega) ?_
  refine bm_if_false (by unfold Builtin.Bytes.tooLong; rw [decide_eq_false_iff_not, sizeLine_eq]; omega) ?_
  refine wpAny_bind (wpAny_rule ?_)
  rw [if_pos (by omega)]
  refine wpAny_bind (ba_write hS₁ (by rw [Array.size_replicate, sizeLine_eq]; omega) fun h₂ hS₂ hs₂ => ?_)
  exact wpAny_pure (h h₂ hS₂ fun b o hb e => hs₂.extBut b o hb (hs₁.extBut b o hb e))
theorem codeC_builtin {id : String} {args : Args} {b : Builtin} {R : Result → Shared → Prop} (hc : baBad (.builtin id args) = false) (hb : entryFor table id = some b)
    (h : wpC (model prog w) (A.under (.builtin id args)) (b args) (fun fin s' => match fin with | .done f => R (.ok f) s' | .again c' => c'.quiet = true ∧ codeC (model prog w) A c' R s') (fun e s' => R (.error e) s') s) :
    codeC (model prog w) A (.builtin id args) R s := by
  refine codeC_of_tree hc ?_
  show wpC _ _ (match entryFor table id with | some b => b args | none => unsupported ((withoutEnding? id "#data").getD id)) _ _ s
  rw [hb]; exact h
theorem ba_clean_init (args : Args) : baBad (.builtin "bytearray.__init__" args) = false := by
  show baIds.contains "bytearray.__init__" = false
  decide +kernel
theorem ba_clean_type (args : Args) : baBad (.builtin "type.__call__" args) = false := by
  show baIds.contains "type.__call__" = false
  decide +kernel
/-- bytearray(n) in a clean context -/
theorem call_bytearray {n : Int} {t : Tok} {Q : Value → Shared → Prop} (h0 : 0 < n) (h1' : n ≤ 1000)
    (h : ∀ h', h'.get? s.heap.objs.size = some (baObj (Array.replicate n.toNat 0)) → (∀ b o, b ≠ s.heap.objs.size → s.heap.get? b = some o → h'.get? b = some o) → Q (.ref s.heap.objs.size) { s with heap := h' }) :
    wpC (model prog w) A (call (.type "bytearray") [.int n t]) Q E s := by
  obtain ⟨c, tl, hmro⟩ := ba_called.mro
  have hmade := ba_called.made
  have hsub := ba_called.sub
  refine wpC_call (codeC_of_tree rfl ?_)
  show wpC _ _ (callAny (.type "bytearray") _) _ _ _
  refine wpC_pure ⟨Code.quiet_builtin _ (by decide +kernel), codeC_builtin (ba_clean_type _) F.entry_type_call ?_⟩
  rw [Around.under_plain (weight_type_call_type "bytearray" [.int n t] []) rfl]
  have h1 := ba_called.notType
  have h2 := ba_called.canCreate
  unfold Builtin.«type.__call__»
  dsimp only
  refine wpC_if_false h1 ?_
  refine wpC_if_false h2 ?_
  refine wpC_anyBind (wpAny_of_eq (ba_typeCall _) ?_)
  refine wpC_anyBind (wpAny_of_eq hmro ?_)
  refine wpC_if_false rfl ?_
  refine wpC_anyBind (wpAny_of_eq hmade ?_)
  dsimp only
  refine wpC_bind (wpC_pure ?_)
  refine wpC_anyBind (wpAny_holding (wpAny_call (codeAny_mono (ba_new (E := E) (.int n t) (Q₁ := fun v s' => v = .ref s.heap.objs.size ∧ s' = { s with heap := s.heap.push (baObj #[]) }) ⟨rfl, rfl⟩) ?_)))
  intro r s₁ hr
  cases r with
  | error e => exact hr
  | ok fl =>
    cases fl with
    | ret obj =>
      obtain ⟨rfl, rfl⟩ := hr
      have hS : (s.heap.push (baObj #[])).get? s.heap.objs.size = some (baObj #[]) := Heap.get?_push_size _ rfl
      have hT : ({ s with heap := s.heap.push (baObj #[]) } : Shared).TypeIs (.ref s.heap.objs.size) "bytearray" := ⟨_, hS, rfl⟩
      dsimp only
      refine wpC_anyBind (wpAny_isInstance hT _root_.PySem.F.sub_bytearray_bytearray ?_)
      refine wpC_if_false rfl ?_
      refine wpC_bind (wpC_holding ?_)
      simp only [callSpecial?]
      refine wpC_anyBind (wpAny_specialOf hT ba_slot_init.lookup ?_)
      simp only [ba_slot_init.bind]
      refine wpC_holding (wpC_bind (wpC_pure (wpC_bind (wpC_mono (wpC_call (codeC_of_tree rfl ?_)) (fun v s' h' => wpC_pure h') fun _ _ h' => h'))))
      show wpC _ A.in1.in1 (do checkBuiltinCall "bytearray.__init__" ⟨[.ref s.heap.objs.size, .int n t], []⟩; again (.builtin "bytearray.__init__" ⟨[.ref s.heap.objs.size, .int n t], []⟩)) _ _ _
      refine wpC_anyBind (ba_slot_init.check _ _ _ _ _ _ _ _ hT (ba_args_init _ _) ?_)
      refine wpC_pure ⟨plainId_quiet ba_slot_init.plain _, codeC_builtin (ba_clean_init _) ba_entry_init ?_⟩
      rw [Around.under_plainId ba_slot_init.plain _]
      refine ba_init h0 h1' hS fun h' hg hk => ?_
      show wpC _ _ (if (Value.none != Value.none) = true then _ else _) _ _ _
      refine wpC_if_false rfl (wpC_pure ?_)
      exact h h' hg fun b o hb e => hk b o hb (Heap.get?_push_of_some _ e)
    | _ => exact hr.elim
end
end Mine
end
section
open PySem PySem.Spec PySem.Calls PySem.W PyProof.Rows
set_option linter.unusedVariables false
set_option maxRecDepth 100000
namespace Mine
section
variable {prog : Program} {w : World} {A : Around} {E : Value → Shared → Prop} {s : Shared} {h₀ : Heap} {L : Addr} {m : Str → Option Value} {news news' : List (Addr × Obj)}
theorem call_bytearray_K {n : Int} {t : Tok} {Q : Value → Shared → Prop} (F : Fr h₀ L s.heap m) (N : News h₀ L s.heap news) (h0 : 0 < n) (h1 : n ≤ 1000)
    (h : ∀ a h', Fr h₀ L h' m → News h₀ L h' ((a, baObj (Array.replicate n.toNat 0)) :: news) → (∀ p ∈ news, p.1 < a) → Q (.ref a) { s with heap := h' }) :
    wpC (model prog w) A (call (.type "bytearray") [.int n t]) Q E s := by
  refine call_bytearray h0 h1 fun h' hg hk => ?_
  have up : ∀ b o, s.heap.get? b = some o → h'.get? b = some o := fun b o e => hk b o (Nat.ne_of_lt (Heap.lt_size e)) e
  refine h _ h' (F.keeps up) (fun p hp => ?_) fun p hp => Heap.lt_size (N p hp).1
  rcases List.mem_cons.mp hp with rfl | hp
  · exact ⟨hg, Nat.ne_of_gt F.ns.lt, next_is_new F⟩
  · exact ⟨up _ _ (N p hp).1, (N p hp).2⟩
theorem ba_slot_set : Slot "bytearray" "__setitem__" "bytearray.__setitem__" :=
  .of (owner := "bytearray") (n := "__setitem__") (by rw [typeLookup_type, builtinLookup_eq_fast]; kernel_rfl) (by decide +kernel) (by decide +kernel) (by decide +kernel)
    (by first | exact .inl (by decide +kernel) | exact .inr (by decide +kernel)) (by rw [isSubtype_type]; kernel_rfl)
theorem ba_entry_set : entryFor table "bytearray.__setitem__" = some Builtin.«bytearray.__setitem__» := by first | exact entryFor_of_fast (by kernel_rfl) | exact entryFor_of_tree (by kernel_rfl)
theorem ba_args_set (a b c : Value) : argsOk "bytearray.__setitem__" ⟨[a, b, c], []⟩ := by unfold argsOk; kernel_rfl
theorem int_index_fits {n : Int} (h0 : 0 ≤ n) (h1 : n < 1000000) : Builtin.Bytes.fitsIndex n = true := by
  unfold Builtin.Bytes.fitsIndex
  simp only [Bool.and_eq_true, decide_eq_true_eq]
  constructor
  · have : -(2 ^ 63 : Int) ≤ 0 := by decide
    omega
  · have : (1000000 : Int) < 2 ^ 63 := by decide
    omega
theorem ba_subscript {M : Model} {n : Int} {t : Tok} {Q : Option Int → Shared → Prop} (h0 : 0 ≤ n) (h1 : n < 1000000) (h : Q (some n) s) : wpAny M A (Builtin.Bytes.subscript? (.int n t)) Q E s := by
  unfold Builtin.Bytes.subscript?
  refine wpAny_bind (wpAny_of_eq (int_index n t) ?_)
  refine bm_if_false rfl ?_
  refine wpAny_bind (wpAny_of_eq (a := n) rfl ?_)
  refine bm_if_false (by rw [int_index_fits h0 h1]; rfl) ?_
  exact wpAny_pure h
theorem ba_byteValue {M : Model} {n : Int} {t : Tok} {Q : UInt8 → Shared → Prop} (h0 : 0 ≤ n) (h1 : n < 256) (h : Q n.toNat.toUInt8 s) : wpAny M A (Builtin.Bytes.byteValue (.int n t)) Q E s := by
  unfold Builtin.Bytes.byteValue
  refine wpAny_bind (wpAny_of_eq (a := n) rfl ?_)
  refine bm_if_false (by simp only [Bool.or_eq_false_iff, decide_eq_false_iff_not]; omega) ?_
  exact wpAny_pure h
theorem ba_payload {M : Model} {a : Addr} {b : Array UInt8} {Q : Array UInt8 → Shared → Prop} (hS : s.heap.get? a = some (baObj b)) (h : Q b s) : wpAny M A (Builtin.Bytes.payload (.ref a)) Q E s := by
  unfold Builtin.Bytes.payload Builtin.Bytes.payload?
  refine wpAny_bind (wpAny_bind (wpAny_load hS ?_))
  exact wpAny_pure (wpAny_pure h)
theorem setItem_ba {a : Addr} {b : Array UInt8} {k v : Int} {t t2 : Tok} {Q : Unit → Shared → Prop} (hS : s.heap.get? a = some (baObj b)) (h0 : 0 ≤ k) (hk : k < b.size) (hb : b.size ≤ 1000) (hv0 : 0 ≤ v) (hv1 : v < 256)
    (h : ∀ h', h'.get? a = some (baObj (b.setIfInBounds k.toNat v.toNat.toUInt8)) → Heap.SameBut a s.heap h' → Q () { s with heap := h' }) :
    wpAny (model prog w) A (setItem (.ref a) (.int k t) (.int v t2)) Q E s := by
  have hT : s.TypeIs (.ref a) "bytearray" := ⟨_, hS, rfl⟩
  unfold setItem
  try with_reducible refine wpAny_holding ?_
  first | refine wpAny_bind (wpAny_pure ?_) | skip
  refine wpAny_bind (wpAny_sequenceKey hT (by decide) ?_)
  refine wpAny_bind (wpAny_callSpecial?_slot (name := Str.ofString "__setitem__") hT ba_slot_set (wpAny_call_entry ba_slot_set hT ba_entry_set ?_ (ba_args_set _ _ _)))
  unfold Builtin.«bytearray.__setitem__»
  refine bm_if_false rfl ?_
  refine wpAny_bind (ba_subscript h0 (by omega) ?_)
  dsimp only
  refine wpAny_bind (ba_byteValue hv0 hv1 ?_)
  refine wpAny_bind (ba_payload hS ?_)
  have e : seqIndex? k b.size = some k.toNat := by
    have hn : ¬ k < 0 := by omega
    have hp : (decide (0 ≤ k) && decide (k < (b.size : Int))) = true := by
      rw [Bool.and_eq_true, decide_eq_true_eq, decide_eq_true_eq]; exact ⟨h0, hk⟩
    unfold seqIndex?
    simp only [if_neg hn, hp, if_true]
  rw [e]
  refine wpAny_bind (ba_write hS (by rw [Array.size_setIfInBounds, sizeLine_eq]; omega) fun h' hg hs => ?_)
  exact wpAny_pure ⟨_, rfl, wpAny_pure (h h' hg hs)⟩
theorem setItem_baK {a : Addr} {b : Array UInt8} {k v : Int} {t t2 : Tok} {Q : Unit → Shared → Prop} (F : Fr h₀ L s.heap m) (N : News h₀ L s.heap news) (U : Upd a (baObj b) (baObj (b.setIfInBounds k.toNat v.toNat.toUInt8)) news news') (h0 : 0 ≤ k) (hk : k < b.size) (hb : b.size ≤ 1000) (hv0 : 0 ≤ v) (hv1 : v < 256)
    (h : ∀ h', Fr h₀ L h' m → News h₀ L h' news' → Q () { s with heap := h' }) : wpAny (model prog w) A (setItem (.ref a) (.int k t) (.int v t2)) Q E s := by
  obtain ⟨pre, post, rfl, rfl, p1, p2⟩ := U.split
  have z := N (a, baObj b) (List.mem_append.mpr (.inr (.head _)))
  exact setItem_ba z.1 h0 hk hb hv0 hv1 fun h' hg hs => h h' (F.change hs z.2.1 z.2.2) (news_set N p1 p2 hs hg)
end
end Mine
end
section
open PySem PySem.Spec PySem.Calls PySem.W PyProof.Rows
set_option linter.unusedVariables false
set_option maxRecDepth 100000
namespace Mine
theorem ba_no_bytes : typeLookup (.type "bytearray") "__bytes__" = pure none := by rw [typeLookup_type, builtinLookup_eq_fast]; kernel_rfl
theorem ba_no_index : typeLookup (.type "bytearray") "__index__" = pure none := by rw [typeLookup_type, builtinLookup_eq_fast]; kernel_rfl
theorem ba_buffer : typeLookup (.type "bytearray") "__buffer__" = pure (some (.builtin "bytearray.__buffer__")) := by rw [typeLookup_type, builtinLookup_eq_fast]; kernel_rfl
theorem ba_own_end2 : ("bytearray.__buffer__".endsWith ("." ++ "__buffer__")) = true := by decide +kernel
theorem ba_own_drop2 : "bytearray.__buffer__".dropRight ("__buffer__".length + 1) = "bytearray" := by decide +kernel
section
variable {prog : Program} {w : World} {A : Around} {E : Value → Shared → Prop} {s : Shared}
theorem ba_takes {M : Model} {a : Addr} {b : Array UInt8} {Q : Option (Array UInt8) → Shared → Prop} (hS : s.heap.get? a = some (baObj b)) (h : Q (some b) s) : wpAny M A (Builtin.Bytes.buffer? "bytes.__new__" (.ref a) true) Q E s := by
  have hT : s.TypeIs (.ref a) "bytearray" := ⟨_, hS, rfl⟩
  unfold Builtin.Bytes.buffer?
  refine wpAny_bind (wpAny_specialOf hT ba_buffer ?_)
  dsimp only
  unfold Builtin.Bytes.slotIsOwn
  refine wpAny_bind (wpAny_bind (wpAny_specialOf hT ba_buffer ?_))
  show wpAny M A (if (!"bytearray.__buffer__".endsWith ("." ++ "__buffer__")) = true then _ else _) _ E s
  rw [ba_own_end2, if_neg (by decide), ba_own_drop2]
  refine wpAny_isInstance hT _root_.PySem.F.sub_bytearray_bytearray ?_
  refine bm_if_false rfl ?_
  refine wpAny_bind (wpAny_specialOf hT ba_buffer ?_)
  try dsimp only
  refine wpAny_bind (ba_ownRelease hT ?_)
  refine bm_if_false rfl ?_
  exact wpAny_bind (ba_payload hS (wpAny_pure h))
theorem bytes_new_ba {a : Addr} {b : Array UInt8} {Q : Value → Shared → Prop} (hS : s.heap.get? a = some (baObj b)) (hz : b.size ≤ sizeLine)
    (hQ : Q (.bytes b s.toks) { s with toks := s.toks + 1 }) : codeAny (model prog w) A (.call (.builtin "bytes.__new__") ⟨[.type "bytes", .ref a], []⟩) (wants Q E) s := by
  refine codeAny_of_tree ?_
  show wpAny _ A.in1 (do checkBuiltinCall "bytes.__new__" ⟨[.type "bytes", .ref a], []⟩; again (.builtin "bytes.__new__" ⟨[.type "bytes", .ref a], []⟩)) _ _ s
  refine wpAny_bind (wpAny_of_eq (F.bm_newCall _) (wpAny_pure ⟨plainId_quiet F.bm_plain _, codeAny_builtin F.bm_entry ?_⟩))
  rw [Around.under_plainId F.bm_plain _]
  have hT : s.TypeIs (.ref a) "bytearray" := ⟨_, hS, rfl⟩
  unfold Builtin.«bytes.__new__»
  refine wpAny_bind (wpAny_of_eq (a := true) rfl ?_)
  refine bm_if_false rfl ?_
  refine wpAny_bind (wpAny_of_eq F.bm_sub ?_)
  refine bm_if_false rfl ?_
  refine wpAny_bind (wpAny_of_eq (F.bm_bind _) ?_)
  refine wpAny_bind (wpAny_of_eq (a := ()) rfl ?_)
  refine wpAny_bind (wpAny_of_eq (a := ()) rfl ?_)
  refine bm_if_false rfl ?_
  refine wpAny_bind (wpAny_specialOf hT ba_no_bytes ?_)
  refine wpAny_bind (wpAny_bind ?_)
  show wpAny _ _ (load a >>= _) _ _ _
  refine wpAny_bind (wpAny_load hS ?_)
  refine wpAny_pure (wpAny_pure ?_)
  refine bm_if_false rfl ?_
  refine wpAny_bind (wpAny_specialOf hT ba_no_index ?_)
  refine bm_if_true rfl ?_
  first
    | show wpAny _ _ (Builtin.Bytes.buffer? "bytes.__new__" (.ref a) true >>= _) _ _ _
    | (refine wpAny_bind ?_; show wpAny _ _ (Builtin.Bytes.buffer? "bytes.__new__" (.ref a) true >>= _) _ _ _)
  refine wpAny_bind (ba_takes hS ?_)
  refine wpAny_bind (wpAny_rule ?_)
  refine wpAny_bind ?_
  refine wpAny_mkBytes ?_ hz
  show wpAny _ _ (if (Value.type "bytes" == Value.type "bytes") = true then _ else _) _ _ _
  refine bm_if_true (by decide) ?_
  first
    | exact wpAny_pure hQ
    | exact wpAny_bind (wpAny_pure (wpAny_pure hQ))
theorem call_bytes_ba {a : Addr} {b : Array UInt8} {Q : Value → Shared → Prop} (hS : s.heap.get? a = some (baObj b)) (hz : b.size ≤ 1000)
    (hQ : Q (.bytes b s.toks) { s with toks := s.toks + 1 }) : wpAny (model prog w) A (call (.type "bytes") [.ref a]) Q E s := by
  refine callType_codes (Q₁ := fun obj s₁ => s₁.TypeIs obj "bytes" ∧ Q obj s₁) F.bm_called (F.bm_typeCall _) F.entry_object_init
    (bytes_new_ba hS (by rw [sizeLine_eq]; omega) ⟨PySem.W.typeIs_bytes _ _ _, hQ⟩) fun obj s₁ h₁ => ?_
  exact ⟨h₁.1, F.args_object_init_2 obj _, object_init_meets F.bm_called.init.lookup F.bm_called.made (by decide) prog w A.in1 _ s₁ ⟨h₁.1, rfl, h₁.2⟩⟩
end
end Mine
end
section
open PySem PySem.Spec PySem.Calls PySem.W PyProof.Rows
set_option linter.unusedVariables false
set_option maxRecDepth 100000
namespace Mine
section
variable {prog : Program} {w : World} {A₀ A : Around} {s : Shared} {base h₀ : Heap} {outer : List Env} {L : Addr} {m mg mb : Str → Option Value} {env : Env} {news : List (Addr × Obj)} {K : Frag} {p : Program} {loose : List Str} {mean : ExcName → Option Value}
  {R : Result → Shared → Prop} {name qual : Str} {params : Arguments} {body : List Stmt} {scope : Scope} {cl : List (Str × Addr)} {dV kV doc pm cdv ct oc : Value} {an od : Option Addr} {osl : Array (Option Value)} {f : Addr} {fo : Obj} {args : Args} {binds : List (Str × Value)}
/-- the ledger as it stood is handed back behind a call whose frame keeps all that stood -/
def Back (h₀ : Heap) (L : Addr) (news : List (Addr × Obj)) (R : Result → Shared → Prop) : Result → Shared → Prop := fun r s' => News h₀ L s'.heap news → R r s'
theorem ground0 (B : Below A₀ base outer h₀) (F : Fr h₀ L s.heap m) (N : News h₀ L s.heap news) (hA : A.frames = some (env :: outer)) (hf : env.frame = some L) (hke : env.scope.kind = .function) :
    Fr h₀ L s.heap m ∧ Below A base (env :: outer) s.heap ∧ h₀.StaysIn s.heap ∧ ∀ v s', LeaveK h₀ L m s.heap (Back h₀ L news R) v s' → R (.ok (.ret v)) s' := by
  obtain ⟨a, b, c, d⟩ := groundX (R := Back h₀ L news R) (news := []) B F (fun _ h => nomatch h) hA hf hke
  refine ⟨F, b, c, fun v s' hl => ?_⟩
  have hl0 := hl
  obtain ⟨L', m', news', F', N', k⟩ := hl0
  exact d v s' hl fun q hq => ⟨F'.keep _ _ (N q hq).1, (N q hq).2⟩
/-- a def without cells entered: all that stood is old -/
theorem code_def0 (B : Below A₀ base outer h₀) (F : Fr h₀ L s.heap m) (X₀ : K.In h₀) (N : News h₀ L s.heap news) (T : Top p loose mean mg mb h₀) (hA : A.frames = some (env :: outer)) (hf : env.frame = some L) (hke : env.scope.kind = .function)
    (ho : s.heap.get? f = some fo) (hd : fo.data = .func (fnX name qual params body scope cl dV kV doc pm an cdv ct)) (hcd : s.heap.CodeRec cdv qual) (hroom : A.depth < recursionLimit)
    (hbind : BindsTo s (fnX name qual params body scope cl dV kV doc pm an cdv ct) args binds) (hloc : ∀ y ∈ binds, scope.names.lookup y.1 = some .local)
    (h : ∀ L' h₁, Fr s.heap L' h₁ (fun y => binds.reverse.lookup y) → News s.heap L' h₁ [] → Below A base (env :: outer) s.heap → K.In s.heap → Top p loose mean mg mb s.heap →
      wpAny (model prog w) (A.deeper (envX qual scope L' f cdv cl)) (execs body (envX qual scope L' f cdv cl))
        (fun fl s' => LeaveK h₀ L m s.heap (Back h₀ L news R) (match fl with | .ret v => v | _ => .none) s')
        (fun e s' => wpAny (model prog w) (A.deeper (envX qual scope L' f cdv cl)) (leaving (envX qual scope L' f cdv cl) e) (fun _ s'' => R (.error e) s'') (fun e' s'' => R (.error e') s'') s')
        { s with heap := h₁, toks := s.toks + binds.length })
    (hcell : ∀ x ∈ scope.names, x.2 ≠ .cell) (hco : scope.isCoroutine = false) (hgen : scope.isGenerator = false) (hk : scope.kind = .function) : codeAny (model prog w) A (.call (.ref f) args) R s := by
  obtain ⟨FG, BG, st, lv⟩ := ground0 (R := R) B F N hA hf hke
  refine codeAny_call_def (fd := fnX name qual params body scope cl dV kV doc pm an cdv ct) (body := body) (binds := binds) hroom ho hd (T.nolimit.keeps F.keep) hcd rfl hbind hcell hloc (fun h₁ hns hk₁ => ?_) hco hgen hk
  exact wpAny_mono (h s.heap.objs.size h₁ ⟨hns, hk₁, Nat.le_refl _⟩ (fun _ hp => nomatch hp) BG (X₀.keeps F.keep) (T.keeps F.keep)) (fun fl s' hl => lv _ _ hl) fun _ _ y => y
/-- the same in clean contexts -/
theorem code_def0P (B : Below A₀ base outer h₀) (F : Fr h₀ L s.heap m) (X₀ : K.In h₀) (N : News h₀ L s.heap news) (T : Top p loose mean mg mb h₀) (hA : A.frames = some (env :: outer)) (hf : env.frame = some L) (hke : env.scope.kind = .function)
    (ho : s.heap.get? f = some fo) (hd : fo.data = .func (fnX name qual params body scope cl dV kV doc pm an cdv ct)) (hcd : s.heap.CodeRec cdv qual) (hroom : A.depth < recursionLimit)
    (hbind : BindsTo s (fnX name qual params body scope cl dV kV doc pm an cdv ct) args binds) (hloc : ∀ y ∈ binds, scope.names.lookup y.1 = some .local)
    (h : ∀ L' h₁, Fr s.heap L' h₁ (fun y => binds.reverse.lookup y) → News s.heap L' h₁ [] → Below A base (env :: outer) s.heap → K.In s.heap → Top p loose mean mg mb s.heap →
      wpC (model prog w) (A.deeper (envX qual scope L' f cdv cl)) (execs body (envX qual scope L' f cdv cl))
        (fun fl s' => LeaveK h₀ L m s.heap (Back h₀ L news R) (match fl with | .ret v => v | _ => .none) s')
        (fun e s' => wpAny (model prog w) (A.deeper (envX qual scope L' f cdv cl)) (leaving (envX qual scope L' f cdv cl) e) (fun _ s'' => R (.error e) s'') (fun e' s'' => R (.error e') s'') s')
        { s with heap := h₁, toks := s.toks + binds.length })
    (hcell : ∀ x ∈ scope.names, x.2 ≠ .cell) (hco : scope.isCoroutine = false) (hgen : scope.isGenerator = false) (hk : scope.kind = .function) : codeC (model prog w) A (.call (.ref f) args) R s := by
  obtain ⟨FG, BG, st, lv⟩ := ground0 (R := R) B F N hA hf hke
  refine codeC_call_function hroom ho hd hco hgen rfl hcd (hbind _ _ _ _ ?_)
  refine wpAny_newFunctionEnv hcell hloc (fun h₁ hns hsb => ⟨(T.nolimit.keeps F.keep).fresh _ hsb, codeC_func ?_⟩) hk
  have hk₁ : ∀ b o, s.heap.get? b = some o → h₁.get? b = some o := fun b o e => hsb.extBut b o (Nat.ne_of_lt (Heap.lt_size e)) (Heap.get?_push_of_some _ e)
  exact wpC_mono (h s.heap.objs.size h₁ ⟨hns, hk₁, Nat.le_refl _⟩ (fun _ hp => nomatch hp) BG (X₀.keeps F.keep) (T.keeps F.keep)) (fun fl s' hl => lv _ _ hl) fun _ _ y => y
/-- a def with cells entered: all that stood is old -/
theorem code_def0C (B : Below A₀ base outer h₀) (F : Fr h₀ L s.heap m) (X₀ : K.In h₀) (N : News h₀ L s.heap news) (T : Top p loose mean mg mb h₀) (hA : A.frames = some (env :: outer)) (hf : env.frame = some L) (hke : env.scope.kind = .function)
    (ho : s.heap.get? f = some fo) (hd : fo.data = .func (fnX name qual params body scope [] dV kV doc pm an cdv ct)) (hcd : s.heap.CodeRec cdv qual) (hroom : A.depth < recursionLimit)
    (hbind : BindsTo s (fnX name qual params body scope [] dV kV doc pm an cdv ct) args binds) (hkind : (binds.all fun y => scope.names.lookup y.1 == some .local || scope.names.lookup y.1 == some .cell) = true)
    (hnd : ((cellsFrom 0 scope.names []).map (·.1)).Nodup)
    (h : ∀ L' h₁ tk cells, Fr s.heap L' h₁ (bindL (envOfC qual scope L' f cdv).kindOf binds fun _ => none) → News s.heap L' h₁ cells →
      CellsAre (bindC (envOfC qual scope L' f cdv).kindOf binds fun _ => none) (cellsFrom (L' + 1) scope.names []) cells → Below A base (env :: outer) s.heap → K.In s.heap → Top p loose mean mg mb s.heap →
      wpAny (model prog w) (A.deeper (envOfC qual scope L' f cdv)) (execs body (envOfC qual scope L' f cdv))
        (fun fl s' => LeaveK h₀ L m s.heap (Back h₀ L news R) (match fl with | .ret v => v | _ => .none) s')
        (fun e s' => wpAny (model prog w) (A.deeper (envOfC qual scope L' f cdv)) (leaving (envOfC qual scope L' f cdv) e) (fun _ s'' => R (.error e) s'') (fun e' s'' => R (.error e') s'') s')
        { s with heap := h₁, toks := tk })
    (hco : scope.isCoroutine = false) (hgen : scope.isGenerator = false) (hk : scope.kind = .function) : codeAny (model prog w) A (.call (.ref f) args) R s := by
  obtain ⟨FG, BG, st, lv⟩ := ground0 (R := R) B F N hA hf hke
  refine codeAny_call_function hroom ho hd hco hgen rfl hcd (hbind _ _ _ _ ?_)
  refine wpAny_newFunctionEnv_cells hk (kindsX hkind _) fun env' he s' x => ?_
  subst he
  refine ⟨(T.nolimit.keeps F.keep).keeps x.toInCall.keep, codeAny_func ?_⟩
  obtain ⟨h₁, tk, rfl, _⟩ := x.done
  obtain ⟨cells, NC, Y⟩ := Cl.news (h₀ := s.heap) (Nat.le_refl _) fun n c hm => ⟨x.cell n c (lookup_of_mem_nodup (cellsFrom_names scope.names 0 (s.heap.objs.size + 1) [] [] rfl ▸ hnd) hm), x.above n c hm⟩
  exact wpAny_mono (h s.heap.objs.size h₁ tk cells ⟨x.toInCall.ns, x.toInCall.keep, Nat.le_refl _⟩ NC Y BG (X₀.keeps F.keep) (T.keeps F.keep)) (fun fl s' hl => lv _ _ hl) fun _ _ y => y
theorem code_top0 (B : Below A₀ base outer h₀) (F : Fr h₀ L s.heap m) (X₀ : K.In h₀) (N : News h₀ L s.heap news) (T : Top p loose mean mg mb h₀) (hA : A.frames = some (env :: outer)) (hf : env.frame = some L) (hke : env.scope.kind = .function)
    (ho : K.lookup f = some ⟨oc, od, .func (fnOf name qual params body scope dV kV doc pm an cdv ct), osl⟩) (hcd : codeIn K cdv qual = true) (hroom : A.depth < recursionLimit)
    (hbind : BindsTo s (fnOf name qual params body scope dV kV doc pm an cdv ct) args binds) (hloc : ∀ y ∈ binds, scope.names.lookup y.1 = some .local)
    (h : ∀ L' h₁, Fr s.heap L' h₁ (fun y => binds.reverse.lookup y) → News s.heap L' h₁ [] → Below A base (env :: outer) s.heap → K.In s.heap → Top p loose mean mg mb s.heap →
      wpAny (model prog w) (A.deeper (envOf qual scope L' f cdv)) (execs body (envOf qual scope L' f cdv))
        (fun fl s' => LeaveK h₀ L m s.heap (Back h₀ L news R) (match fl with | .ret v => v | _ => .none) s')
        (fun e s' => wpAny (model prog w) (A.deeper (envOf qual scope L' f cdv)) (leaving (envOf qual scope L' f cdv) e) (fun _ s'' => R (.error e) s'') (fun e' s'' => R (.error e') s'') s')
        { s with heap := h₁, toks := s.toks + binds.length })
    (hcell : ∀ x ∈ scope.names, x.2 ≠ .cell) (hco : scope.isCoroutine = false) (hgen : scope.isGenerator = false) (hk : scope.kind = .function) : codeAny (model prog w) A (.call (.ref f) args) R s :=
  code_def0 B F X₀ N T hA hf hke ((X₀.keeps F.keep) _ _ ho) rfl (codeRec_of (X₀.keeps F.keep) hcd) hroom hbind hloc h hcell hco hgen hk
theorem code_top0P (B : Below A₀ base outer h₀) (F : Fr h₀ L s.heap m) (X₀ : K.In h₀) (N : News h₀ L s.heap news) (T : Top p loose mean mg mb h₀) (hA : A.frames = some (env :: outer)) (hf : env.frame = some L) (hke : env.scope.kind = .function)
    (ho : K.lookup f = some ⟨oc, od, .func (fnOf name qual params body scope dV kV doc pm an cdv ct), osl⟩) (hcd : codeIn K cdv qual = true) (hroom : A.depth < recursionLimit)
    (hbind : BindsTo s (fnOf name qual params body scope dV kV doc pm an cdv ct) args binds) (hloc : ∀ y ∈ binds, scope.names.lookup y.1 = some .local)
    (h : ∀ L' h₁, Fr s.heap L' h₁ (fun y => binds.reverse.lookup y) → News s.heap L' h₁ [] → Below A base (env :: outer) s.heap → K.In s.heap → Top p loose mean mg mb s.heap →
      wpC (model prog w) (A.deeper (envOf qual scope L' f cdv)) (execs body (envOf qual scope L' f cdv))
        (fun fl s' => LeaveK h₀ L m s.heap (Back h₀ L news R) (match fl with | .ret v => v | _ => .none) s')
        (fun e s' => wpAny (model prog w) (A.deeper (envOf qual scope L' f cdv)) (leaving (envOf qual scope L' f cdv) e) (fun _ s'' => R (.error e) s'') (fun e' s'' => R (.error e') s'') s')
        { s with heap := h₁, toks := s.toks + binds.length })
    (hcell : ∀ x ∈ scope.names, x.2 ≠ .cell) (hco : scope.isCoroutine = false) (hgen : scope.isGenerator = false) (hk : scope.kind = .function) : codeC (model prog w) A (.call (.ref f) args) R s :=
  code_def0P B F X₀ N T hA hf hke ((X₀.keeps F.keep) _ _ ho) rfl (codeRec_of (X₀.keeps F.keep) hcd) hroom hbind hloc h hcell hco hgen hk
theorem code_top0C (B : Below A₀ base outer h₀) (F : Fr h₀ L s.heap m) (X₀ : K.In h₀) (N : News h₀ L s.heap news) (T : Top p loose mean mg mb h₀) (hA : A.frames = some (env :: outer)) (hf : env.frame = some L) (hke : env.scope.kind = .function)
    (ho : K.lookup f = some ⟨oc, od, .func (fnOf name qual params body scope dV kV doc pm an cdv ct), osl⟩) (hcd : codeIn K cdv qual = true) (hroom : A.depth < recursionLimit)
    (hbind : BindsTo s (fnOf name qual params body scope dV kV doc pm an cdv ct) args binds) (hkind : (binds.all fun y => scope.names.lookup y.1 == some .local || scope.names.lookup y.1 == some .cell) = true) (hnd : ((cellsFrom 0 scope.names []).map (·.1)).Nodup)
    (h : ∀ L' h₁ tk cells, Fr s.heap L' h₁ (bindL (envOfC qual scope L' f cdv).kindOf binds fun _ => none) → News s.heap L' h₁ cells → CellsAre (bindC (envOfC qual scope L' f cdv).kindOf binds fun _ => none) (cellsFrom (L' + 1) scope.names []) cells → Below A base (env :: outer) s.heap → K.In s.heap → Top p loose mean mg mb s.heap →
      wpAny (model prog w) (A.deeper (envOfC qual scope L' f cdv)) (execs body (envOfC qual scope L' f cdv))
        (fun fl s' => LeaveK h₀ L m s.heap (Back h₀ L news R) (match fl with | .ret v => v | _ => .none) s')
        (fun e s' => wpAny (model prog w) (A.deeper (envOfC qual scope L' f cdv)) (leaving (envOfC qual scope L' f cdv) e) (fun _ s'' => R (.error e) s'') (fun e' s'' => R (.error e') s'') s')
        { s with heap := h₁, toks := tk })
    (hco : scope.isCoroutine = false) (hgen : scope.isGenerator = false) (hk : scope.kind = .function) : codeAny (model prog w) A (.call (.ref f) args) R s :=
  code_def0C B F X₀ N T hA hf hke ((X₀.keeps F.keep) _ _ ho) rfl (codeRec_of (X₀.keeps F.keep) hcd) hroom hbind hkind hnd h hco hgen hk
end
end Mine
end
section
open PySem PySem.Spec PySem.Calls PySem.W PyProof.Rows
namespace Mine
/-- where the walk is to stop -/
def Stop (P : Prop) : Prop := P
theorem Stop.intro {P : Prop} (h : Stop P) : P := h
theorem hf_two {i k : Nat} (h0 : 0 < k) (h : (i : Int) + 1 ≠ ((i + k : Nat) : Int)) : 2 ≤ k := by
  rcases Nat.lt_or_ge 1 k with h2 | h2
  · exact h2
  · exact absurd (by rw [Nat.le_antisymm h2 h0]; rfl) h
theorem hf_one {i k : Nat} (h : (i : Int) + 1 = ((i + k : Nat) : Int)) : k = 1 := by omega
theorem hf_pos {i k : Nat} (h0 : 0 < k) (h : (i : Int) + 1 ≠ ((i + k : Nat) : Int)) : 0 < k / 2 := Nat.div_pos (hf_two h0 h) (by decide)
theorem hf_lt {k : Nat} (h0 : 0 < k) : k / 2 < k := Nat.div_lt_self h0 (by decide)
theorem hf_rlt {i k : Nat} (h0 : 0 < k) (h : (i : Int) + 1 ≠ ((i + k : Nat) : Int)) : k - k / 2 < k := Nat.sub_lt h0 (hf_pos h0 h)
theorem hf_rpos {k : Nat} (h0 : 0 < k) : 0 < k - k / 2 := Nat.sub_pos_of_lt (hf_lt h0)
theorem hf_sum (i : Nat) (k : Nat) : i + k / 2 + (k - k / 2) = i + k := by rw [Nat.add_assoc, Nat.add_sub_of_le (Nat.div_le_self k 2)]
theorem hf_rle {i k n : Nat} (h : i + k ≤ n) : i + k / 2 + (k - k / 2) ≤ n := (hf_sum i k).symm ▸ h
theorem hf_le {i k n : Nat} (h : i + k ≤ n) : i + k / 2 ≤ n := Nat.le_trans (Nat.add_le_add_left (Nat.div_le_self k 2) i) h
theorem hf_60 {k m : Nat} (h : k ≤ m) : k / 2 ≤ m := Nat.le_trans (Nat.div_le_self k 2) h
theorem hf_r60 {k m : Nat} (h : k ≤ m) : k - k / 2 ≤ m := Nat.le_trans (Nat.sub_le _ _) h
theorem hf_sub {k : Nat} : k / 2 ≤ k := Nat.div_le_self k 2
theorem hf_room {dp k j R : Nat} (hj : j < k) (h : dp + (k + 1) < R) : dp + 1 + (j + 1) < R := by omega
theorem hf_unit {un k j R : Nat} (hj : j < k) (h : un + 8 * (k + 1) < R) : un + 3 + 8 * (j + 1) < R := by omega
end Mine
end
section
open PySem PySem.Spec PySem.Calls PySem.W PyProof.Rows
set_option linter.unusedVariables false
namespace Mine
/-- the claim's own caller, and nothing below it -/
def bottom : List (Code × Pos) → Bool
  | [x] => x.1.isCaller
  | _ => false
theorem bottom_pos {c : Code} {p p' : Pos} {l : List (Code × Pos)} (h : bottom ((c, p) :: l) = true) : bottom ((c, p') :: l) = true := by
  cases l with
  | nil => exact h
  | cons _ _ => cases h
theorem bottom_clean {Γ : PySem.Ctx} {p : Pos} (h : bottom ((Γ.code, p) :: Γ.below) = true) : Clean Γ := by
  obtain ⟨code, hd, own, below, past⟩ := Γ
  cases below with
  | cons _ _ => cases h
  | nil =>
    have hc : code.isCaller = true := h
    refine ⟨?_, (fun _ h => nomatch h), .inl hc⟩
    unfold Code.isCaller at hc
    split at hc
    · show baIds.contains "claim.caller" = false
      decide +kernel
    · cases hc
/-- the tree, run at the bottom; anywhere else the value given, at once -/
def atBottom {α : Type} (v : α) (t : Sem α) : Sem α := .stack fun l => if bottom l = true then t else .pure v
theorem wpAny_atBottom {α : Type} {M : Model} {A : Around} {t : Sem α} {v : α} {Q : α → Shared → Prop} {E : Value → Shared → Prop} {s : Shared} (h : wpC M A t Q E s) (hv : Q v s) : wpAny M A (atBottom v t) Q E s := fun Γ p hΓ => by
  rw [atBottom, Sem.wp_stack]
  split
  · exact h Γ p hΓ (bottom_clean ‹_›)
  · rw [Sem.wp_pure]
    exact hv
/-- the claim's thread -/
def theTree (name : Str) (vs : List Value) : Sem Fin := do
  match ← nsGet mainNs name with
  | some f => do ret (← PySem.call f vs)
  | none => unsupported "claim.caller:no-such-global"
theorem theTree_atBottom {prog : Program} {w : World} {name : Str} {vs : List Value} {f v : Value} {mg : Str → Option Value} {s : Shared} {Q : Fin → Shared → Prop} {E : Value → Shared → Prop} (hg : s.heap.Ns mainGlobals mg) (hf : mg name = some f)
    (h : wpAny (model prog w) callerA (atBottom v (PySem.call f vs)) (fun v s' => Q (.done (.ret v)) s') E s) : wpAny (model prog w) callerA (atBottom (.done (.ret v)) (theTree name vs)) Q E s := fun Γ p hΓ => by
  have h0 := h Γ p hΓ
  rw [atBottom, Sem.wp_stack] at h0 ⊢
  by_cases hb : bottom ((Γ.code, p) :: Γ.below) = true
  · rw [if_pos hb, theTree, Sem.wp_bind']
    refine Sem.wp_mono _ Γ _ (fun a p' s' e => ?_) (fun _ _ _ x => x) p s (wpAny_nsGet (Q := fun a s' => a = some f ∧ s' = s) hg ⟨hf, rfl⟩ Γ p hΓ)
    obtain ⟨rfl, rfl⟩ := e
    have h1 := h Γ p' hΓ
    rw [atBottom, Sem.wp_stack, if_pos (bottom_pos hb)] at h1
    show Sem.wp _ Γ (PySem.call f vs >>= fun r => ret r) _ _ p' _
    rw [Sem.wp_bind']
    exact Sem.wp_mono _ Γ _ (fun a p2 s2 q => q) (fun _ _ _ x => x) p' _ h1
  · rw [if_neg hb, Sem.wp_pure] at h0 ⊢
    exact h0
/-- a run of the claim's thread at the bottom is the tree's own, one step longer -/
theorem sched_atBottom {prog : Program} {w : World} {n : Nat} {s s' : Shared} {o : Outcome} {t : Sem Fin} {v : Fin} (hz : s.asleep)
    (h : schedN (denote table) prog w n (.single s ⟨atBottom v t, .builtin "claim.caller" {}, default, []⟩) = .halted o s') : ∃ k, schedN (denote table) prog w k (.single s ⟨t, .builtin "claim.caller" {}, default, []⟩) = .halted o s' := by
  cases n with
  | zero => cases h
  | succ k =>
    refine ⟨k, ?_⟩
    rcases sstep_single (denote table) prog w s ⟨atBottom v t, .builtin "claim.caller" {}, default, []⟩ rfl hz with e | e
    · rw [schedN, e] at h
      exact h
    · cases e
theorem runs_atBottom {prog : Program} {w : World} {s : Shared} {t : Sem Fin} {v : Fin} {P : Outcome → Shared → Prop} (hz : s.asleep)
    (h : ∃ n o s', schedN (denote table) prog w n (.single s ⟨atBottom v t, .builtin "claim.caller" {}, default, []⟩) = .halted o s' ∧ P o s') :
    ∃ n o s', schedN (denote table) prog w n (.single s ⟨t, .builtin "claim.caller" {}, default, []⟩) = .halted o s' ∧ P o s' :=
  let ⟨_, o, s', hr, hP⟩ := h
  let ⟨k, hk⟩ := sched_atBottom hz hr
  ⟨k, o, s', hk, hP⟩
theorem callFrom_atBottom {c : ClaimW} {w : World} {free : Addr → Prop} {gens : Prop} {kept : Heap → Prop} {s : Shared} {tree : List Value → Sem Fin} {v : Fin} (hz : s.asleep)
    (h : c.CallFrom (fun vs => ⟨atBottom v (tree vs), .builtin "claim.caller" {}, default, []⟩) w free gens kept s) : c.CallFrom (fun vs => ⟨tree vs, .builtin "claim.caller" {}, default, []⟩) w free gens kept s :=
  fun args hp hl ord ho => (h args hp hl ord ho).imp fun _ h => h.imp fun _ h => ⟨h.1, runs_atBottom (Shared.asleep_of_life (layAllW_rest _ _ _ h.1).2.2.2 hz) h.2⟩
theorem holdsBy_atBottom {c : ClaimW} {tree : List Value → Sem Fin} {v : Fin} {defs kps : List Str} {writes : Bool} (H : c.HoldsOpenBy (fun vs => ⟨atBottom v (tree vs), .builtin "claim.caller" {}, default, []⟩) defs kps writes) :
    c.HoldsOpenBy (fun vs => ⟨tree vs, .builtin "claim.caller" {}, default, []⟩) defs kps writes :=
  ⟨H.1, H.2.1, fun w => ⟨(H.2.2 w).1, fun s hs => ((H.2.2 w).2 s hs).imp fun _ h => ⟨h.1, h.2.1, h.2.2.imp fun _ h' => ⟨h'.1, h'.2.1, h'.2.2.1, h'.2.2.2.1,
    callFrom_atBottom (Shared.asleep_of_life (h'.1.2.1.trans (fence_lifeW h.1)) (AfterImport.life (show AfterImport (opening c.prog) w s from hs))) h'.2.2.2.2⟩⟩⟩⟩
end Mine
namespace Mine.PySem.W
/-- the library's head, for a call that is known at the bottom alone: `k_head` finds it by its name -/
theorem holds_open {r : OpenRow} {q : Program} {loose : List Str} {Xt : Shared → Bool} {XP : (Str → Option Value) → Heap → Prop} {α : Type} {Yf : Shared → α} {Ya : World → α} {YP : World → Heap → Prop} {d : DefRec} {kwd : List (Str × Expr)} {N : Nat}
    (left : LeftO r.prog q loose Xt Yf Ya N) (hY : ∀ w s, Yf s = Ya w → YP w s.heap) (hYk : ∀ w h h', YP w h → (∀ b o, h.get? b = some o → h'.get? b = some o) → YP w h')
    (hX : ∀ s, Xt s = true → XP (s.heap.nsMap mainGlobals) s.heap) (hXk : ∀ mg h h', XP mg h → (∀ b o, h.get? b = some o → h'.get? b = some o) → XP mg h')
    (hdef : defOf q r.name = some (d, kwd)) (hp : r.prog.theDef r.name = some (d.params, d.body, d.scope)) (hk : kwWritten? d.params.kwonlyargs d.params.kw_defaults = some kwd) (hRf : ∀ s, Xt s = true → RecFacts r.records s.heap) (hwr : (!r.writes || r.records.isEmpty) = true)
    (k1 : r.wellSaid = true) (ok : (chainsOk q && opensWell r.prog && (frees r.toRowW && r.within.isEmpty)) = true) (hb : r.prog.bare) (hw : r.toRowW.promised)
    (call : WalkO q loose XP YP r.toRowW d kwd fun f vs => atBottom (.bool true) (PySem.call f vs)) : r.Holds := by
  have pin : ∀ n ∈ (if r.pinned then [r.name] else []), n = r.name := fun n hn => by
    cases hq : r.pinned with
    | true => rw [hq, if_pos rfl] at hn; exact List.mem_singleton.mp hn
    | false => rw [hq, if_neg Bool.false_ne_true] at hn; exact nomatch hn
  have H := open_anyG (r := r.toRowW) (defs := if r.pinned then [r.name] else []) (kps := r.keeps) (run := fun f vs => atBottom (.bool true) (PySem.call f vs)) (tree := fun vs => atBottom (.done (.ret (.bool true))) (theTree r.name vs))
    left hY hYk hX hXk hRf hwr ok hb hw (fun vs w s mg f Q E hg hf h => theTree_atBottom hg hf h) (fun w s hg G n hn => (pin n hn).symm ▸ pinned_of_view hg G hdef hp hk)
    fun w s₀ s₁ mg mb G Y args vs as hpre hlay L low => by
      obtain ⟨a, o, _, _, _, _, _, hm, ho, hd, hcd, hD⟩ := G.fn hdef
      have hn : mg d.name = some (.ref a) := by rw [defOf_name hdef]; exact hm
      exact ⟨.ref a, hm, call w s₀ s₁ mg mb G Y a o _ _ _ _ _ ho hd hcd hD hn L.gens args vs as hpre hlay L.reads L.well (L.low low)⟩
  exact ⟨k1, hw, holdsBy_atBottom (tree := theTree r.name) H⟩
end Mine.PySem.W
end
section
open PySem PySem.W PyProof.Rows
set_option maxRecDepth 100000
set_option maxHeartbeats 8000000
namespace Mine
open_top hdC for PySem.Challenge.rw_zo0030_01
end Mine
end
section
open PySem PySem.Spec PySem.Calls PySem.W PyProof.Rows
set_option linter.unusedVariables false
namespace Mine
abbrev theProg := PySem.Challenge.rw_zo0030_01.row.prog
/-- a contract of a def that hands back a value and leaves the ledger as it was; d: the frames it goes down -/
abbrev ConV (w : World) (f : Addr) (d : Nat) (news : List (Addr × Obj)) (vs : List Value) (R : Tok → Value) : Prop :=
  ∀ (loose : List Str) (mean : ExcName → Option Value) (mg mb : Str → Option Value) (dp un : Nat) (gd : Option (List Code)) (cn : Str) (cs : Scope) (a : Addr) (ccd : Value) (cl : List (Str × Addr)) (outer : List Env) (A₀ : Around) (base h₀ : Heap) (L : Addr) (m : Str → Option Value) (s : Shared) (Q E : Value → Shared → Prop),
    Below A₀ base outer h₀ → Fr h₀ L s.heap m → (hdC.heap_39 w.params).In h₀ → News h₀ L s.heap news → Top topProg loose mean mg mb h₀ → cs.kind = .function →
    dp + d < recursionLimit → un + 8 * d < cLine →
    (∀ t h' tk', Fr h₀ L h' m → News h₀ L h' news → Q (R t) { s with heap := h', toks := tk' }) →
    wpAny (model theProg w) (ktrTop dp un gd cn cs L a ccd cl outer) (call (.ref f) vs) Q E s
/-- a contract in clean contexts -/
abbrev ConC (w : World) (f : Addr) (d : Nat) (news : List (Addr × Obj)) (vs : List Value) (R : Tok → Value) : Prop :=
  ∀ (loose : List Str) (mean : ExcName → Option Value) (mg mb : Str → Option Value) (dp un : Nat) (gd : Option (List Code)) (cn : Str) (cs : Scope) (a : Addr) (ccd : Value) (cl : List (Str × Addr)) (outer : List Env) (A₀ : Around) (base h₀ : Heap) (L : Addr) (m : Str → Option Value) (s : Shared) (Q E : Value → Shared → Prop),
    Below A₀ base outer h₀ → Fr h₀ L s.heap m → (hdC.heap_39 w.params).In h₀ → News h₀ L s.heap news → Top topProg loose mean mg mb h₀ → cs.kind = .function →
    dp + d < recursionLimit → un + 8 * d < cLine →
    (∀ t h' tk', Fr h₀ L h' m → News h₀ L h' news → Q (R t) { s with heap := h', toks := tk' }) →
    wpC (model theProg w) (ktrTop dp un gd cn cs L a ccd cl outer) (call (.ref f) vs) Q E s
theorem retBy {h₀ h' : Heap} {L : Addr} {m : Str → Option Value} {news : List (Addr × Obj)} {s : Shared} {Q : Value → Shared → Prop} {tk' : Nat} {x y : Array UInt8} {t : Tok}
    (hret : ∀ (t : Tok) (h' : Heap) (tk' : Nat), Fr h₀ L h' m → News h₀ L h' news → Q (.bytes x t) { s with heap := h', toks := tk' }) (e : y = x) (F : Fr h₀ L h' m) (N : News h₀ L h' news) : Q (.bytes y t) { s with heap := h', toks := tk' } :=
  e ▸ hret t h' tk' F N
/-- what is_HDN finds nothing against -/
structure Hdn (x : Str) : Prop where
  d0 : ∀ i, Sre.isDigit (x.cps.getD i 0) = false
  sz : 2 ≤ x.cps.size
  sm : x.cps.size ≤ 2 ^ 24
  i0 : (Txt.item x 0 == Str.ofString ".") = false
  i1 : (Txt.item x (-1) == Str.ofString ".") = false
  ne : (x == Str.ofString "") = false
def dmB (x y : Str) : Bool := !(Txt.rfind (Txt.lower x) (Txt.lower y) == -1 || Txt.rfind (Txt.lower x) (Txt.lower y) == 0)
end Mine
end
section
open PySem PySem.Spec PySem.Calls PySem.W PyProof.Rows
set_option linter.unusedVariables false
namespace Mine
open PySem.Sre
def ipCode : Array Nat := #[14, 8, 1, 2, 4294967295, 1, 1, 46, 0, 16, 46, 24, 9, 1, 4294967295, 13, 4, 8, 0, 0, 1, 6, 5, 1]
def ipSt (text : Array Nat) (q : Nat) (first : Bool) (ans : Option Bool) (fr : Bool) (seen : Sre.Seen) (pc pos hd : Nat) (om : Bool) : M :=
  { code := ipCode, text, lim := text.size, start := q, lastStart := text.size, pc, pos, handed := hd, outermost := om, marks := #[],
    frames := if fr then [{ wait := .nextStart, pc := 9, pos := q, outermost := first }] else [], weight := if fr then 1 else 0, answer := ans, seen }
def Fails (n : Nat) (m : M) : Prop := ∃ k, k ≤ n ∧ (M.runFor k m).outcome = some .failed
theorem fails_step {n : Nat} {m : M} (ho : m.outcome = none) (h : Fails n m.step) : Fails (n + 1) m := by
  obtain ⟨k, hk, e⟩ := h
  refine ⟨k + 1, Nat.succ_le_succ hk, ?_⟩
  show (if m.outcome.isSome then m else M.runFor k m.step).outcome = _
  rw [ho]; exact e
theorem fails_mono {n n' : Nat} {m : M} (h : Fails n m) (hn : n ≤ n') : Fails n' m := let ⟨k, hk, e⟩ := h; ⟨k, Nat.le_trans hk hn, e⟩
theorem ip_end (text : Array Nat) (q : Nat) (hq : text.size ≤ q) (first : Bool) (seen : Sre.Seen) (pc pos hd : Nat) (om : Bool) : Fails 2 (ipSt text q first (some false) true seen pc pos hd om) := by
  refine fails_step rfl ?_
  have e : (ipSt text q first (some false) true seen pc pos hd om).step = ipSt text q first (some false) false seen 9 q hd first := by
    unfold M.step
    simp only [ipSt, Option.isSome, if_true, Bool.false_eq_true, if_false]
    unfold M.resume
    show (if false = true then _ else if q < text.size then _ else M.say _ false) = _
    rw [if_neg Bool.false_ne_true, if_neg (Nat.not_lt.mpr hq)]
    rfl
  rw [e]
  exact fails_step rfl ⟨0, Nat.le_refl _, rfl⟩
theorem ip_next (text : Array Nat) (q n : Nat) (hq : q < text.size) (first : Bool) (seen : Sre.Seen) (pc pos hd : Nat) (om : Bool)
    (h : ∀ seen, Fails n (ipSt text (q + 1) false none true seen 9 (q + 1) (q + 1) false)) : Fails (n + 1) (ipSt text q first (some false) true seen pc pos hd om) := by
  refine fails_step rfl ?_
  have e : (ipSt text q first (some false) true seen pc pos hd om).step = ipSt text (q + 1) false none true seen 9 (q + 1) (q + 1) false := by
    unfold M.step
    simp only [ipSt, Option.isSome, if_true, Bool.false_eq_true, if_false]
    unfold M.resume
    show (if false = true then _ else if q < text.size then _ else M.say _ false) = _
    rw [if_neg Bool.false_ne_true, if_pos hq]
    rfl
  rw [e]
  exact h _
theorem ip_lit0 (text : Array Nat) (q : Nat) (first : Bool) (seen : Sre.Seen) (h : text.size ≤ q ∨ text.getD q 0 ≠ 46) :
    (ipSt text q first none true seen 9 q q first).step = ipSt text q first (some false) true (seen.add 16) 9 q q first := by
  unfold M.step
  simp only [ipSt, Option.isSome, if_true, Bool.false_eq_true, if_false]
  rw [if_pos (by decide)]
  unfold M.exec
  show (if q ≥ text.size then _ else (match (Except.ok (text.getD q 0 == 46, seen.add 16) : Except String (Bool × Sre.Seen)) with
    | .error why => _
    | .ok (false, seen) => _
    | .ok (true, seen) => _)) = _
  by_cases hq : q ≥ text.size
  · rw [if_pos hq]; rfl
  · rw [if_neg hq, show (text.getD q 0 == 46) = false from beq_false_of_ne (h.resolve_left hq)]; rfl
theorem ip_lit1 (text : Array Nat) (q : Nat) (first : Bool) (seen : Sre.Seen) (hq : q < text.size) (h : text.getD q 0 = 46) :
    (ipSt text q first none true seen 9 q q first).step = ipSt text q first none true (seen.add 16) 11 (q + 1) q first := by
  unfold M.step
  simp only [ipSt, Option.isSome, if_true, Bool.false_eq_true, if_false]
  rw [if_pos (by decide)]
  unfold M.exec
  show (if q ≥ text.size then _ else (match (Except.ok (text.getD q 0 == 46, seen.add 16) : Except String (Bool × Sre.Seen)) with
    | .error why => _
    | .ok (false, seen) => _
    | .ok (true, seen) => _)) = _
  rw [if_neg (Nat.not_le.mpr hq), show (text.getD q 0 == 46) = true from by rw [h]; rfl]
  rfl
theorem ip_run (text : Array Nat) (hd0 : ∀ i, Sre.isDigit (text.getD i 0) = false) (n p : Nat) (seen : Sre.Seen) : ∃ seen', Sre.run ipCode text 15 n p 0 seen = .ok (0, seen') := by
  cases n with
  | zero => exact ⟨seen, rfl⟩
  | succ n =>
    unfold Sre.run
    have e : ∃ seen', accepts ipCode 15 (text.getD p 0) seen = .ok (false, seen') := by
      refine ⟨((seen.add 8).add 55).add 0, ?_⟩
      show (do if ← category 0 (text.getD p 0) then pure (true, (seen.add 8).add 55) else inSet ipCode (text.getD p 0) 23 19 true ((seen.add 8).add 55) : Except String (Bool × Sre.Seen)) = _
      have c0 : category 0 (text.getD p 0) = .ok false := by
        show ((Except.ok (Sre.isDigit (text.getD p 0))).map fun x => x != (0 % 2 == 1)) = _
        rw [hd0]; rfl
      rw [c0]
      rfl
    obtain ⟨seen', e⟩ := e
    exact ⟨seen', by rw [e]; rfl⟩
theorem ip_rep (text : Array Nat) (hd0 : ∀ i, Sre.isDigit (text.getD i 0) = false) (q p : Nat) (first : Bool) (seen : Sre.Seen) :
    ∃ seen', (ipSt text q first none true seen 11 p q first).step = ipSt text q first (some false) true seen' 11 p q first := by
  unfold M.step
  simp only [ipSt, Option.isSome, if_true, Bool.false_eq_true, if_false]
  rw [if_pos (by decide)]
  unfold M.exec
  obtain ⟨seen', e⟩ := ip_run text hd0 (min 4294967295 ((text.size : Int) - ((p : Nat) : Int)).toNat) p ((seen.add 24).add 13)
  by_cases hr : ((1 : Nat) : Int) > (text.size : Int) - ((p : Nat) : Int)
  · refine ⟨seen.add 24, ?_⟩
    show (if ((1 : Nat) : Int) > (text.size : Int) - ((p : Nat) : Int) then _ else _) = _
    rw [if_pos hr]
    rfl
  · refine ⟨seen', ?_⟩
    show (if ((1 : Nat) : Int) > (text.size : Int) - ((p : Nat) : Int) then _ else (match Sre.run ipCode text 15 (min 4294967295 ((text.size : Int) - ((p : Nat) : Int)).toNat) p 0 ((seen.add 24).add 13) with
      | .error why => _
      | .ok (n, seen) => _)) = _
    rw [if_neg hr, e]
    rfl
theorem ip_from (text : Array Nat) (hd0 : ∀ i, Sre.isDigit (text.getD i 0) = false) : ∀ (k q : Nat), text.size - q ≤ k → ∀ (first : Bool) (seen : Sre.Seen), Fails (4 * k + 4) (ipSt text q first none true seen 9 q q first) := by
  intro k
  induction k with
  | zero =>
    intro q hq first seen
    have hq' : text.size ≤ q := by omega
    refine fails_mono (fails_step (n := 2) rfl ?_) (by omega)
    rw [ip_lit0 text q first seen (.inl hq')]
    exact ip_end text q hq' _ _ _ _ _ _
  | succ k ih =>
    intro q hq first seen
    by_cases hlt : q < text.size
    · have ih' : ∀ seen, Fails (4 * k + 4) (ipSt text (q + 1) false none true seen 9 (q + 1) (q + 1) false) := fun seen => ih (q + 1) (by omega) false seen
      by_cases hc : text.getD q 0 = 46
      · refine fails_mono (fails_step (n := 4 * k + 6) rfl ?_) (by omega)
        rw [ip_lit1 text q first seen hlt hc]
        refine fails_step (n := 4 * k + 5) rfl ?_
        obtain ⟨seen', e2⟩ := ip_rep text hd0 q (q + 1) first (seen.add 16)
        rw [e2]
        exact ip_next text q _ hlt _ _ _ _ _ _ ih'
      · refine fails_mono (fails_step (n := 4 * k + 5) rfl ?_) (by omega)
        rw [ip_lit0 text q first seen (.inr hc)]
        exact ip_next text q _ hlt _ _ _ _ _ _ ih'
    · have hq' : text.size ≤ q := by omega
      refine fails_mono (fails_step (n := 2) rfl ?_) (by omega)
      rw [ip_lit0 text q first seen (.inl hq')]
      exact ip_end text q hq' _ _ _ _ _ _
theorem ip_search (text : Array Nat) (hd0 : ∀ i, Sre.isDigit (text.getD i 0) = false) (h2 : 2 ≤ text.size) : Fails (4 * text.size + 4) (Sre.forSearch ipCode text 0 0 text.size false) := by
  have e : Sre.forSearch ipCode text 0 0 text.size false = ipSt text 0 true none true (({} : Sre.Seen).add 14) 9 0 0 true := by
    unfold Sre.forSearch
    show (if (decide ((0 : Nat) > text.size) || decide (text.size - 0 < 2)) = true then _ else _) = _
    rw [if_neg (by simp only [Bool.or_eq_true, decide_eq_true_eq]; omega)]
    rfl
  rw [e]
  exact fails_mono (ip_from text hd0 text.size 0 (by omega) true _) (by omega)
theorem runFor_add (a b : Nat) : ∀ m : M, M.runFor (a + b) m = M.runFor b (M.runFor a m) := by
  induction a with
  | zero => intro m; rw [Nat.zero_add]; rfl
  | succ a ih =>
    intro m
    rw [Nat.add_right_comm]
    show (if m.outcome.isSome then m else M.runFor (a + b) m.step) = M.runFor b (if m.outcome.isSome then m else M.runFor a m.step)
    by_cases h : m.outcome.isSome
    · rw [if_pos h, if_pos h]
      cases b with
      | zero => rfl
      | succ b => show m = (if m.outcome.isSome then m else _); rw [if_pos h]
    · rw [if_neg h, if_neg h, ih]
theorem runFor_done {m : M} (h : m.outcome.isSome = true) : ∀ n, M.runFor n m = m
  | 0 => rfl
  | n + 1 => by show (if m.outcome.isSome then m else _) = m; rw [if_pos h]
theorem fails_at {n k : Nat} {m : M} (h : Fails n m) (hk : n ≤ k) : (M.runFor k m).outcome = some .failed := by
  obtain ⟨j, hj, e⟩ := h
  obtain ⟨d, rfl⟩ : ∃ d, k = j + d := ⟨k - j, by omega⟩
  rw [runFor_add, runFor_done (by rw [e]; rfl)]
  exact e
section
variable {Md : Model} {A : Around} {E : Value → Shared → Prop} {s : Shared}
theorem drive_fails {Q : M → Shared → Prop} (hQ : ∀ m, m.outcome = some .failed → Q m s) : ∀ (turns n : Nat) (m : M), Fails n m → n ≤ 4 * turns → 1 ≤ turns → wpAny Md A (Builtin.Re.reDrive turns m) Q E s := by
  intro turns
  induction turns with
  | zero => intro n m h hn h1; omega
  | succ t ih =>
    intro n m h hn h1
    unfold Builtin.Re.reDrive
    have hr : Builtin.Re.reTurnSteps = 4 := rfl
    rw [hr]
    have h' : Fails (n - 4) (M.runFor 4 m) := by
      refine ⟨n - 4, Nat.le_refl _, ?_⟩
      rw [← runFor_add]
      exact fails_at h (by omega)
    by_cases hs : (M.runFor 4 m).outcome.isSome = true
    · show wpAny Md A (if (M.runFor 4 m).outcome.isSome = true then _ else _) Q E s
      rw [if_pos hs]
      refine wpAny_pure (hQ _ ?_)
      obtain ⟨k, hk, e⟩ := h'
      rw [runFor_done hs] at e
      exact e
    · show wpAny Md A (if (M.runFor 4 m).outcome.isSome = true then _ else _) Q E s
      rw [if_neg hs]
      refine wpAny_bind (wpAny_rule ?_)
      have h4 : 4 < n := by
        by_cases h4 : n ≤ 4
        · exact absurd (by rw [fails_at h h4]; rfl) hs
        · omega
      exact ih (n - 4) _ h' (by omega) (by omega)
theorem seen_loop (m : M) {Q : Unit → Shared → Prop} (h : Q () s) : ∀ l : List Nat, wpAny Md A (forIn l PUnit.unit fun i _ => if m.seen.has i = true then (do rule (Sre.names.getD i ""); pure (ForInStep.yield PUnit.unit)) else pure (ForInStep.yield PUnit.unit)) Q E s := by
  intro l
  induction l with
  | nil => exact wpAny_pure h
  | cons a l ih =>
    rw [List.forIn_cons]
    by_cases hb : m.seen.has a = true
    · rw [if_pos hb]
      exact wpAny_bind (wpAny_bind (wpAny_rule (wpAny_pure ih)))
    · rw [if_neg hb]
      exact wpAny_bind (wpAny_pure ih)
theorem toEnd_fails {n : Nat} {m : M} (hm : Fails n m) (hn : n ≤ 4 * 2 ^ 64) {Q : Option M → Shared → Prop} (h : Q none s) : wpAny Md A (Builtin.Re.reRunToEnd m) Q E s := by
  unfold Builtin.Re.reRunToEnd
  refine wpAny_bind (drive_fails (fun m' hm' => ?_) (2 ^ 64) n m hm hn (by decide))
  refine wpAny_bind (seen_loop m' ?_ _)
  rw [hm']
  exact wpAny_pure h
end
abbrev ipObj : Obj := { cls := .type "re.Pattern", data := .fields #[.str (Str.ofString "\\.\\d+$") 285, .int 256 312, .int 0 0, .none, .none, .ref 35, .int 0 0] }
abbrev ipTup : Obj := { cls := .type "tuple", data := .seq #[.int 14 0, .int 8 0, .int 1 0, .int 2 0, .int 4294967295 0, .int 1 0, .int 1 0, .int 46 0, .int 0 0, .int 16 0, .int 46 0, .int 24 0, .int 9 0, .int 1 0, .int 4294967295 0, .int 13 0, .int 4 0, .int 8 0, .int 0 0, .int 0 0, .int 1 0, .int 6 0, .int 5 0, .int 1 0] }
section
variable {prog : Program} {w : World} {A : Around} {E : Value → Shared → Prop} {s : Shared} {x : Str} {t : Tok} {Q : Value → Shared → Prop}
theorem search_body {Q : Fin → Shared → Prop} (h36 : s.heap.get? 36 = some ipObj) (h35 : s.heap.get? 35 = some ipTup) (hd0 : ∀ i, Sre.isDigit (x.cps.getD i 0) = false) (h2 : 2 ≤ x.cps.size) (hz : x.cps.size ≤ 2 ^ 24) (h : Q (.done (.ret .none)) s) :
    wpAny (model prog w) A (Builtin.«re.Pattern.search» ⟨[.ref 36, .str x t], []⟩) Q E s := by
  unfold Builtin.«re.Pattern.search»
  refine wpAny_bind ?_
  with_unfolding_all refine W.X.x_load h36 ?_
  with_unfolding_all refine W.X.x_load h35 ?_
  have hl : min ((2 : Int) ^ 63 - 1).toNat x.cps.size = x.cps.size := by
    have : ((2 : Int) ^ 63 - 1).toNat = 9223372036854775807 := by decide
    rw [this]; omega
  have hp : min (0 : Int).toNat x.cps.size = 0 := Nat.zero_min _
  refine wpAny_bind (wpAny_bind (wpAny_bind (wpAny_pure ?_)))
  refine wpAny_pure ?_
  refine wpAny_pure ?_
  refine wpAny_pure ?_
  have key : ∀ (c : Array Nat) (g p l : Nat), c = ipCode → g = 0 → p = 0 → l = x.cps.size → Fails (4 * x.cps.size + 4) (Sre.forSearch c x.cps g p l false) := by
    intro c g p l h1 h3 h4 h5
    subst h1 h3 h4 h5
    exact ip_search x.cps hd0 h2
  unfold Builtin.Re.reAnswer
  refine wpAny_bind (toEnd_fails (n := 4 * x.cps.size + 4) ?_ (by omega) ?_)
  · dsimp only
    exact key _ _ _ _ (by decide +kernel) (by rfl) hp hl
  · exact wpAny_pure h
end
theorem slot_search : Slot "re.Pattern" "search" "re.Pattern.search" :=
  .of (owner := "re.Pattern") (n := "search") (by rw [typeLookup_type, builtinLookup_eq_fast]; kernel_rfl) (by decide +kernel) (by decide +kernel) (by decide +kernel)
    (by first | exact .inl (by decide +kernel) | exact .inr (by decide +kernel)) (by rw [isSubtype_type]; kernel_rfl)
theorem entry_search : entryFor table "re.Pattern.search" = some Builtin.«re.Pattern.search» := entryFor_of_tree (by kernel_rfl)
theorem args_search (a b : Value) : argsOk "re.Pattern.search" ⟨[a, b], []⟩ := by unfold argsOk; kernel_rfl
theorem type_search : typeOf (.builtin "re.Pattern.search") = pure (.type "method_descriptor") := by show builtinType _ = _; rw [builtinType_eq_fast]; kernel_rfl
theorem pat_getattribute : typeLookup (.type "re.Pattern") "__getattribute__" = pure (some (.builtin "object.__getattribute__")) := by rw [typeLookup_type, builtinLookup_eq_fast]; kernel_rfl
theorem pat_getattr_none : typeLookup (.type "re.Pattern") "__getattr__" = pure none := by rw [typeLookup_type, builtinLookup_eq_fast]; kernel_rfl
section
variable {prog : Program} {w : World} {A : Around} {E : Value → Shared → Prop} {s : Shared} {x : Str} {t : Tok} {h₀ : Heap} {L : Addr} {m : Str → Option Value}
theorem getMethod_pat {pl : Sem Bool} {Q : Value × List Value → Shared → Prop} (F : Fr h₀ L s.heap m) (X : (hdC.heap_39 w.params).In h₀) (h : Q (.builtin "re.Pattern.search", [.ref 36]) s) :
    wpAny (model prog w) A (getMethod (.ref 36) (Str.ofString "search") pl) Q E s := by
  have ho : s.heap.get? 36 = some ipObj := F.keep _ _ (X _ _ rfl)
  have hT : s.TypeIs (.ref 36) "re.Pattern" := ⟨_, ho, rfl⟩
  unfold getMethod
  refine wpAny_bind (wpAny_specialOf hT pat_getattribute ?_)
  show wpAny _ A (if (Manifest.canonical "object.__getattribute__" != "object.__getattribute__") = true then _ else _) Q E s
  rw [_root_.PySem.F.canon_object_ga, if_neg Bool.false_ne_true]
  refine wpAny_bind (wpAny_specialOf hT pat_getattr_none ?_)
  refine wpAny_bind (wpAny_specialOf hT slot_search.lookup ?_)
  refine wpAny_bind (wpAny_of_eq type_search ?_)
  refine wpAny_bind (wpAny_load ho ?_)
  exact wpAny_bind (wpAny_rule (wpAny_pure h))
theorem call_search {Q : Value → Shared → Prop} (F : Fr h₀ L s.heap m) (X : (hdC.heap_39 w.params).In h₀) (hd0 : ∀ i, Sre.isDigit (x.cps.getD i 0) = false) (h2 : 2 ≤ x.cps.size) (hz : x.cps.size ≤ 2 ^ 24) (h : Q .none s) :
    wpAny (model prog w) A (call (.builtin "re.Pattern.search") [.ref 36, .str x t]) Q E s := by
  have h36 : s.heap.get? 36 = some ipObj := F.keep _ _ (X _ _ rfl)
  have h35 : s.heap.get? 35 = some ipTup := F.keep _ _ (X _ _ rfl)
  refine wpAny_call_entry slot_search ⟨_, h36, rfl⟩ entry_search ?_ (args_search _ _)
  exact search_body h36 h35 hd0 h2 hz ⟨_, rfl, h⟩
end
end Mine
end
section
open PySem PySem.Spec PySem.Calls PySem.W PyProof.Rows
set_option maxRecDepth 100000
set_option maxHeartbeats 8000000
set_option linter.unusedVariables false
namespace Mine
local macro_rules | `(tactic| walk_at "my_enter") => `(tactic| (k_whole; intro g' L' h' FG' F' N' B' X' T'; (try dsimp only); (try k_lift B'); (try k_fold)))

local macro_rules | `(tactic| walk_at "getMethod ref") => `(tactic| (k_here; (with_reducible show wpAny _ _ (getMethod (Value.ref 36) _ _) _ _ _); k_dflt (refine getMethod_pat (by k_asm) (by k_asm) ?_; k_whole)))
local macro_rules | `(tactic| walk_at "call builtin:re.Pattern.search") => `(tactic| (k_here; k_dflt (refine call_search (by k_asm) (by k_asm) (by exact Hdn.d0 (by assumption)) (by exact Hdn.sz (by assumption)) (by exact Hdn.sm (by assumption)) ?_; k_whole)))
theorem c_isHDN (w : World) (news : List (Addr × Obj)) (x : Str) (t : Tok) (H : Hdn x) : ConV w 43 1 news [.str x t] (fun _ => .bool true) := by
  w_top off
  delta ConV theProg
  k_fill
  intro loose mean mg mb dp un gd cn cs a ccd cl outer A₀ base h₀ L m s Q E B F X N T hk hdp hun hret
  refine wpAny_call ?_
  (refine' code_def ?en1k1 ?en1k2 ?en1k3 ?en1k4 ?en1k5 ?en1kA ?en1kF ?en1kK ?en1k6 ?en1k7 ?en1k8 ?en1k9 ?en1kB ?_ ?en1c2 ?en1c3 ?en1c4 ?en1c5; (case en1kA => exact rfl); (case en1kF => exact rfl); (case en1kK => first | exact rfl | assumption); (case en1k1 => k_asm); (case en1k2 => k_asm); (case en1k3 => k_asm); (case en1k4 => k_asm); (case en1k5 => k_asm); (case en1k6 => k_is); (case en1k7 => k_is); (case en1k8 => ktr_room); (case en1k9 => exact BindsTo.of_eq rfl); (case en1c5 => decide); (case en1kB => exact locs rfl); (case en1c2 => exact rfl); (case en1c3 => exact rfl); (case en1c4 => exact rfl))
  walk_at "my_enter"
  k_steps
  all_goals first | exact hret 0 _ _ (by k_asm) (by k_asm) | (exfalso; obtain ⟨_, _, _, _, _, _⟩ := H; simp_all; done)
local macro_rules | `(tactic| walk_at "call ref") => `(tactic| (k_here; (with_reducible show wpAny _ _ (call (Value.ref 43) _) _ _ _); (refine' c_isHDN _ _ _ _ ?H _ _ _ _ _ _ _ _ _ _ _ _ _ _ _ _ _ _ _ _ _ ?k1 ?k2 ?k3 ?k4 ?k5 ?kK ?kd ?ku ?_); (case k1 => k_asm); (case k2 => k_asm); (case k3 => k_asm); (case k4 => k_asm); (case k5 => k_asm); (case kK => first | exact rfl | assumption); (case H => assumption); (case kd => ktr_room); (case ku => ktr_units); intro t9 h9 tk9 F9 N9; (try dsimp only); (try k_fold)))
theorem c_dm (w : World) (news : List (Addr × Obj)) (x y : Str) (t t2 : Tok) (hx : x.length ≤ 100) (hy : y.length ≤ 100) (hne : (Txt.lower x == Txt.lower y) = false)
    (hX : Hdn (Txt.lower x)) (hY : Hdn (Txt.slice (Txt.lower y) (some 1) none)) (hst : Txt.startswith (Txt.lower y) (Str.ofString ".") = true) : ConV w 50 2 news [.str x t, .str y t2] (fun _ => .bool (dmB x y)) := by
  delta ConV theProg
  k_fill
  intro loose mean mg mb dp un gd cn cs a ccd cl outer A₀ base h₀ L m s Q E B F X N T hk hdp hun hret
  refine wpAny_call ?_
  (refine' code_def ?en2k1 ?en2k2 ?en2k3 ?en2k4 ?en2k5 ?en2kA ?en2kF ?en2kK ?en2k6 ?en2k7 ?en2k8 ?en2k9 ?en2kB ?_ ?en2c2 ?en2c3 ?en2c4 ?en2c5; (case en2kA => exact rfl); (case en2kF => exact rfl); (case en2kK => first | exact rfl | assumption); (case en2k1 => k_asm); (case en2k2 => k_asm); (case en2k3 => k_asm); (case en2k4 => k_asm); (case en2k5 => k_asm); (case en2k6 => k_is); (case en2k7 => k_is); (case en2k8 => ktr_room); (case en2k9 => exact BindsTo.of_eq rfl); (case en2c5 => decide); (case en2kB => exact locs rfl); (case en2c2 => exact rfl); (case en2c3 => exact rfl); (case en2c4 => exact rfl))
  walk_at "my_enter"
  k_steps
  all_goals (refine' cb_retB (Q := Q) hret ?e ?F ?N; (case F => k_asm); (case N => k_asm); (case e => (unfold dmB; simp [*]; done)))
end Mine
end
section
open PySem PySem.Spec PySem.Calls PySem.W PyProof.Rows
set_option linter.unusedVariables false
set_option maxRecDepth 100000
namespace Mine
section
variable {prog : Program} {w : World} {A₀ A : Around} {s : Shared} {base h₀ : Heap} {outer : List Env} {L : Addr} {m mg mb : Str → Option Value} {env : Env} {news : List (Addr × Obj)} {K : Frag} {p : Program} {loose : List Str} {mean : ExcName → Option Value}
  {R : Result → Shared → Prop} {name qual : Str} {params : Arguments} {body : List Stmt} {scope : Scope} {cl : List (Str × Addr)} {dV kV doc pm cdv ct oc : Value} {an od : Option Addr} {osl : Array (Option Value)} {f : Addr} {fo : Obj} {args : Args} {binds : List (Str × Value)}
/-- behind the call the frame and the ledger are as they were -/
theorem back0 (F : Fr h₀ L s.heap m) (N : News h₀ L s.heap news) (hf : env.frame = some L) (hke : env.scope.kind = .function) : ∀ v s', LeaveK h₀ L m s.heap (Back h₀ L news R) v s' → R (.ok (.ret v)) s' :=
  (ground0 (A₀ := ⟨none, 0, some [], none, 1⟩) (A := ⟨none, 0, some [env], none, 1⟩) (outer := []) (base := h₀) (R := R) ⟨rfl, fun _ _ e => e, trivial⟩ F N rfl hf hke).2.2.2
/-- a def of the top entered; what is below stands in the heap at hand -/
theorem code_top1 (BG : Below A base (env :: outer) s.heap) (F : Fr h₀ L s.heap m) (X₀ : K.In h₀) (N : News h₀ L s.heap news) (T : Top p loose mean mg mb h₀) (hA : A.frames = some (env :: outer)) (hf : env.frame = some L) (hke : env.scope.kind = .function)
    (ho : K.lookup f = some ⟨oc, od, .func (fnOf name qual params body scope dV kV doc pm an cdv ct), osl⟩) (hcd : codeIn K cdv qual = true) (hroom : A.depth < recursionLimit)
    (hbind : BindsTo s (fnOf name qual params body scope dV kV doc pm an cdv ct) args binds) (hloc : ∀ y ∈ binds, scope.names.lookup y.1 = some .local)
    (h : ∀ L' h₁, Fr s.heap L' h₁ (fun y => binds.reverse.lookup y) → News s.heap L' h₁ [] → Below A base (env :: outer) s.heap → K.In s.heap → Top p loose mean mg mb s.heap →
      wpAny (model prog w) (A.deeper (envOf qual scope L' f cdv)) (execs body (envOf qual scope L' f cdv))
        (fun fl s' => LeaveK h₀ L m s.heap (Back h₀ L news R) (match fl with | .ret v => v | _ => .none) s')
        (fun e s' => wpAny (model prog w) (A.deeper (envOf qual scope L' f cdv)) (leaving (envOf qual scope L' f cdv) e) (fun _ s'' => R (.error e) s'') (fun e' s'' => R (.error e') s'') s')
        { s with heap := h₁, toks := s.toks + binds.length })
    (hcell : ∀ x ∈ scope.names, x.2 ≠ .cell) (hco : scope.isCoroutine = false) (hgen : scope.isGenerator = false) (hk : scope.kind = .function) : codeAny (model prog w) A (.call (.ref f) args) R s := by
  have lv := back0 (R := R) F N hf hke
  refine codeAny_call_def (fd := fnOf name qual params body scope dV kV doc pm an cdv ct) (body := body) (binds := binds) hroom ((X₀.keeps F.keep) _ _ ho) rfl (T.nolimit.keeps F.keep) (codeRec_of (X₀.keeps F.keep) hcd) rfl hbind hcell hloc (fun h₁ hns hk₁ => ?_) hco hgen hk
  exact wpAny_mono (h s.heap.objs.size h₁ ⟨hns, hk₁, Nat.le_refl _⟩ (fun _ hp => nomatch hp) BG (X₀.keeps F.keep) (T.keeps F.keep)) (fun fl s' hl => lv _ _ hl) fun _ _ y => y
theorem code_top1P (BG : Below A base (env :: outer) s.heap) (F : Fr h₀ L s.heap m) (X₀ : K.In h₀) (N : News h₀ L s.heap news) (T : Top p loose mean mg mb h₀) (hA : A.frames = some (env :: outer)) (hf : env.frame = some L) (hke : env.scope.kind = .function)
    (ho : K.lookup f = some ⟨oc, od, .func (fnOf name qual params body scope dV kV doc pm an cdv ct), osl⟩) (hcd : codeIn K cdv qual = true) (hroom : A.depth < recursionLimit)
    (hbind : BindsTo s (fnOf name qual params body scope dV kV doc pm an cdv ct) args binds) (hloc : ∀ y ∈ binds, scope.names.lookup y.1 = some .local)
    (h : ∀ L' h₁, Fr s.heap L' h₁ (fun y => binds.reverse.lookup y) → News s.heap L' h₁ [] → Below A base (env :: outer) s.heap → K.In s.heap → Top p loose mean mg mb s.heap →
      wpC (model prog w) (A.deeper (envOf qual scope L' f cdv)) (execs body (envOf qual scope L' f cdv))
        (fun fl s' => LeaveK h₀ L m s.heap (Back h₀ L news R) (match fl with | .ret v => v | _ => .none) s')
        (fun e s' => wpAny (model prog w) (A.deeper (envOf qual scope L' f cdv)) (leaving (envOf qual scope L' f cdv) e) (fun _ s'' => R (.error e) s'') (fun e' s'' => R (.error e') s'') s')
        { s with heap := h₁, toks := s.toks + binds.length })
    (hcell : ∀ x ∈ scope.names, x.2 ≠ .cell) (hco : scope.isCoroutine = false) (hgen : scope.isGenerator = false) (hk : scope.kind = .function) : codeC (model prog w) A (.call (.ref f) args) R s := by
  have lv := back0 (R := R) F N hf hke
  refine codeC_call_function hroom ((X₀.keeps F.keep) _ _ ho) rfl hco hgen rfl (codeRec_of (X₀.keeps F.keep) hcd) (hbind _ _ _ _ ?_)
  refine wpAny_newFunctionEnv hcell hloc (fun h₁ hns hsb => ⟨(T.nolimit.keeps F.keep).fresh _ hsb, codeC_func ?_⟩) hk
  have hk₁ : ∀ b o, s.heap.get? b = some o → h₁.get? b = some o := fun b o e => hsb.extBut b o (Nat.ne_of_lt (Heap.lt_size e)) (Heap.get?_push_of_some _ e)
  exact wpC_mono (h s.heap.objs.size h₁ ⟨hns, hk₁, Nat.le_refl _⟩ (fun _ hp => nomatch hp) BG (X₀.keeps F.keep) (T.keeps F.keep)) (fun fl s' hl => lv _ _ hl) fun _ _ y => y
/-- a way out of a def that was entered with the caller's frame object laid in the ledger -/
def LeaveL (h₀ : Heap) (L : Addr) (m : Str → Option Value) (news : List (Addr × Obj)) (G : Heap) (oL : Obj) (R : Result → Shared → Prop) (v : Value) (s' : Shared) : Prop :=
  ∃ L' m' news' sl, Fr G L' s'.heap m' ∧ News G L' s'.heap news' ∧ (L, ({ oL with slots := sl } : Obj)) ∈ news' ∧ (Fr h₀ L s'.heap m → News h₀ L s'.heap news → R (.ok (.ret v)) s')
theorem LeaveL.intro {G : Heap} {oL : Obj} {v : Value} {h' : Heap} {tk : Nat} {L' : Addr} {m' : Str → Option Value} {news' : List (Addr × Obj)} {sl : Array (Option Value)} (F : Fr G L' h' m') (N : News G L' h' news') (hm : (L, ({ oL with slots := sl } : Obj)) ∈ news')
    (k : Fr h₀ L h' m → News h₀ L h' news → R (.ok (.ret v)) { s with heap := h', toks := tk }) : LeaveL h₀ L m news G oL R v { s with heap := h', toks := tk } := ⟨L', m', news', sl, F, N, hm, k⟩
/-- a def of the top with cells entered in a clean context, the caller's frame object laid in the ledger -/
theorem code_topLC (B : Below A₀ h₀ [] h₀) (F : Fr h₀ L s.heap m) (X₀ : K.In h₀) (N : News h₀ L s.heap news) (T : Top p loose mean mg mb h₀) (hA : A.frames = some [env]) (hf : env.frame = some L) (hke : env.scope.kind = .function)
    (ho : K.lookup f = some ⟨oc, od, .func (fnOf name qual params body scope dV kV doc pm an cdv ct), osl⟩) (hcd : codeIn K cdv qual = true) (hroom : A.depth < recursionLimit)
    (hbind : BindsTo s (fnOf name qual params body scope dV kV doc pm an cdv ct) args binds) (hkind : (binds.all fun y => scope.names.lookup y.1 == some .local || scope.names.lookup y.1 == some .cell) = true) (hnd : ((cellsFrom 0 scope.names []).map (·.1)).Nodup)
    (h : ∀ G oL es n L' h₁ tk cells, oL.data = .dict es n → h₀.StaysIn G → G.get? L = none → (∀ b o, b ≠ L → s.heap.get? b = some o → G.get? b = some o) → h₀.get? L = none → L < L' →
      Fr G L' h₁ (bindL (envOfC qual scope L' f cdv).kindOf binds fun _ => none) → News G L' h₁ (cells ++ [(L, oL)]) →
      CellsAre (bindC (envOfC qual scope L' f cdv).kindOf binds fun _ => none) (cellsFrom (L' + 1) scope.names []) cells → K.In G → Top p loose mean mg mb G →
      wpC (model prog w) (A.deeper (envOfC qual scope L' f cdv)) (execs body (envOfC qual scope L' f cdv))
        (fun fl s' => LeaveL h₀ L m news G oL R (match fl with | .ret v => v | _ => .none) s')
        (fun e s' => wpAny (model prog w) (A.deeper (envOfC qual scope L' f cdv)) (leaving (envOfC qual scope L' f cdv) e) (fun _ s'' => R (.error e) s'') (fun e' s'' => R (.error e') s'') s')
        { s with heap := h₁, toks := tk })
    (hco : scope.isCoroutine = false) (hgen : scope.isGenerator = false) (hk : scope.kind = .function) : codeC (model prog w) A (.call (.ref f) args) R s := by
  obtain ⟨oL, es, ep, hL, hLd, hLk, hLf⟩ := F.ns
  have hL₀ : h₀.get? L = none := Heap.get?_none_of_le F.above
  have st : h₀.StaysIn (hideAll s.heap [L]) := fun b o e => hideAll_get _ (F.keep b o e) (by simp; intro q; rw [q, hL₀] at e; cases e)
  have up : ∀ b o, b ≠ L → s.heap.get? b = some o → (hideAll s.heap [L]).get? b = some o := fun b o hb e => hideAll_get _ e (by simpa using hb)
  have nL : (hideAll s.heap [L]).get? L = none := hideAll_none _ (.head _)
  refine codeC_call_function hroom ((X₀.keeps F.keep) _ _ ho) rfl hco hgen rfl (codeRec_of (X₀.keeps F.keep) hcd) (hbind _ _ _ _ ?_)
  refine wpAny_newFunctionEnv_cells hk (kindsX hkind _) fun env' he s' x => ?_
  subst he
  refine ⟨(T.nolimit.keeps F.keep).keeps x.toInCall.keep, codeC_func ?_⟩
  obtain ⟨h₁, tk, rfl, _⟩ := x.done
  have hk₁ := x.toInCall.keep
  obtain ⟨cells, NC, Y⟩ := Cl.news (h₀ := s.heap) (Nat.le_refl _) fun n c hm => ⟨x.cell n c (lookup_of_mem_nodup (cellsFrom_names scope.names 0 (s.heap.objs.size + 1) [] [] rfl ▸ hnd) hm), x.above n c hm⟩
  refine wpC_mono (h _ oL es ep s.heap.objs.size h₁ tk cells hLd st nL up hL₀ (Heap.lt_size hL) ⟨x.toInCall.ns, fun b o e => hk₁ b o (of_hideAll _ e), Nat.le_of_eq (hideAll_size _ _)⟩ (fun q hq => ?_) Y (X₀.keeps st) (T.keeps st)) (fun fl s' hl => ?_) fun _ _ y => y
  · rcases List.mem_append.mp hq with hq | hq
    · refine ⟨(NC q hq).1, (NC q hq).2.1, ?_⟩
      cases e : (hideAll s.heap [L]).get? q.1 with
      | none => rfl
      | some o => have := of_hideAll _ e; rw [(NC q hq).2.2] at this; cases this
    · have e : q = (L, oL) := by cases hq with | head => rfl | tail _ h => cases h
      subst e
      exact ⟨hk₁ _ _ hL, Nat.ne_of_lt (Heap.lt_size hL), nL⟩
  · obtain ⟨L'', m'', news'', sl, F'', N'', hm, k⟩ := hl
    have z := (N'' _ hm).1
    refine k ⟨⟨_, es, ep, z, hLd, hLk, hLf⟩, fun b o e => F''.keep b o (st b o e), F.above⟩ fun q hq => ⟨F''.keep _ _ (up _ _ (N q hq).2.1 (N q hq).1), (N q hq).2⟩
end
end Mine
end
section
open PySem PySem.Spec PySem.Calls PySem.W PyProof.Rows PySem.Builtin PySem.NumText
set_option linter.unusedVariables false
set_option maxRecDepth 100000
namespace Mine
theorem wpC_stack_caller {M : Model} {A : Around} {E : Value → Shared → Prop} {s : Shared} {Q : List (Code × Pos) → Shared → Prop} (h : ∀ st : List (Code × Pos), (∃ x ∈ st, x.1.isCaller = true) → Q st s) : wpC M A stack Q E s := fun Γ p _ hc => by
  show Q ((Γ.code, p) :: Γ.below) s
  refine h _ ?_
  rcases hc.2.2 with e | ⟨x, hx, e⟩
  · exact ⟨_, .head _, e⟩
  · exact ⟨x, .tail _ hx, e⟩
theorem caller_is {c : Code} (h : c.isCaller = true) : ∃ a, c = .builtin "claim.caller" a := by
  unfold Code.isCaller at h
  split at h
  · exact ⟨_, rfl⟩
  · cases h
theorem no_mark {own : List String} {codes : List Code} (h : ∃ c ∈ codes, c.isCaller = true) : pythonCodeMadeTheCall own codes = false := by
  obtain ⟨c, hc, e⟩ := h
  obtain ⟨a, rfl⟩ := caller_is e
  have key : ∀ b c d : Bool, b = true → (!b && c && d) = false := by decide
  unfold pythonCodeMadeTheCall
  exact key _ _ _ (List.any_eq_true.mpr ⟨_, hc, rfl⟩)
theorem wpC_markTheRefusal {M : Model} {A : Around} {E : Value → Shared → Prop} {s : Shared} {own : List String} {e : Value} {Q : Unit → Shared → Prop} (h : Q () s) : wpC M A (markTheRefusal own e) Q E s := by
  unfold markTheRefusal
  refine wpC_bind (wpC_stack_caller fun st hst => ?_)
  have hn : pythonCodeMadeTheCall own (st.map (·.1)) = false := no_mark (by
    obtain ⟨x, hx, e⟩ := hst
    exact ⟨x.1, List.mem_map_of_mem hx, e⟩)
  refine wpC_if_false hn (wpC_pure h)
def noStr : Str := ⟨#[]⟩
def badMsg (shown : Str) : Str := (((s!"invalid literal for int() with base {(10 : Nat)}: " : String) : Str) ++ (⟨shown.cps.extract 0 200⟩ : Str) : Str)
theorem from_bad (u : Tok) : (int_private% "intFromText") (.str noStr u) [] 10 = (do
  rule "int.__new__.invalid-literal"
  let shown ← pyRepr (.str noStr u)
  let msg ← mkStr (badMsg shown)
  let refusal ← newExc (.type "ValueError") [msg]
  markTheRefusal ["int.__new__"] refusal
  raiseNew refusal) := by kernel_rfl
theorem new_bad (u : Tok) : Builtin.«int.__new__» ⟨[.type "int", .str noStr u], []⟩ = (do
    let v ← (int_private% "intFromText") (.str noStr u) [] 10
    ret v) := by kernel_rfl
section
variable {prog : Program} {w : World} {A : Around} {E : Value → Shared → Prop} {s : Shared}
theorem wpC_bad {u : Tok} {Q : Fin → Shared → Prop} (hh : A.handled = none) (hE : ∀ h' tk e, Heap.NewExc s.heap h' e "ValueError" → E (.ref e) { s with heap := h', toks := tk }) :
    wpC (model prog w) A (Builtin.«int.__new__» ⟨[.type "int", .str noStr u], []⟩) Q E s := by
  rw [new_bad, from_bad]
  have hr : (reprText noStr).length ≤ sizeLine := by rw [sizeLine_eq]; decide +kernel
  have hm : (badMsg (reprText noStr)).length ≤ sizeLine := by rw [sizeLine_eq]; decide +kernel
  refine wpC_bind (wpC_anyBind (wpAny_rule (wpC_anyBind (wpAny_pyRepr_str (wpC_anyBind (wpAny_mkStr (wpC_anyBind (wpAny_newExc_plain plainExc_ValueError (fun h' e hx => ?_) (by rw [sizeLine_eq, List.length_singleton]; decide))) hm)) hr))))
  refine wpC_bind (wpC_markTheRefusal (wpC_of_any (wpAny_raiseNew_none hh ?_)))
  exact hE h' _ e hx.newExc
theorem int_clean_type (args : Args) : baBad (.builtin "type.__call__" args) = false := by
  show baIds.contains "type.__call__" = false
  decide +kernel
theorem int_clean_new (args : Args) : baBad (.builtin "int.__new__" args) = false := by
  show baIds.contains "int.__new__" = false
  decide +kernel
theorem int_plain_new : plainId "int.__new__" = true := by decide +kernel
/-- int('') in a clean context -/
theorem call_int_bad {u : Tok} {Q : Value → Shared → Prop} (hh : A.handled = none) (hE : ∀ h' tk e, Heap.NewExc s.heap h' e "ValueError" → E (.ref e) { s with heap := h', toks := tk }) :
    wpC (model prog w) A (call (.type "int") [.str noStr u]) Q E s := by
  obtain ⟨c, tl, hmro⟩ := F.called_int.mro
  have hmade := F.called_int.made
  refine wpC_call (codeC_of_tree rfl ?_)
  show wpC _ _ (callAny (.type "int") _) _ _ _
  refine wpC_pure ⟨Code.quiet_builtin _ (by decide +kernel), codeC_builtin (int_clean_type _) F.entry_type_call ?_⟩
  rw [Around.under_plain (weight_type_call_type "int" [.str noStr u] []) rfl]
  have h1 := F.called_int.notType
  have h2 := F.called_int.canCreate
  unfold Builtin.«type.__call__»
  dsimp only
  refine wpC_if_false h1 ?_
  refine wpC_if_false h2 ?_
  refine wpC_anyBind (wpAny_of_eq (F.typeCall_int_1 _) ?_)
  refine wpC_anyBind (wpAny_of_eq hmro ?_)
  refine wpC_if_false rfl ?_
  refine wpC_anyBind (wpAny_of_eq hmade ?_)
  dsimp only
  refine wpC_bind (wpC_pure ?_)
  refine wpC_bind (wpC_holding (wpC_call (codeC_of_tree rfl ?_)))
  show wpC _ A.in1.in1 (do checkBuiltinCall "int.__new__" ⟨[.type "int", .str noStr u], []⟩; again (.builtin "int.__new__" ⟨[.type "int", .str noStr u], []⟩)) _ _ _
  refine wpC_anyBind (wpAny_of_eq (F.newCall_int_1 _) (wpC_pure ⟨plainId_quiet int_plain_new _, codeC_builtin (int_clean_new _) F.entry_int_new ?_⟩))
  rw [Around.under_plainId int_plain_new _]
  exact wpC_bad hh hE
end
end Mine
end
section
open PySem PySem.Spec PySem.Calls PySem.W PyProof.Rows PyProof.Rows.LCg
set_option linter.unusedVariables false
set_option maxRecDepth 100000
namespace Mine
section
variable {α : Type} {M : Model} {A : Around} {E : Value → Shared → Prop} {s : Shared} {env : Env}
theorem wpC_attempt {m : Sem α} {Q : Except Value α → Shared → Prop} (h : wpC M A m (fun a => Q (.ok a)) (fun e => Q (.error e)) s) : wpC M A m.attempt Q E s := fun Γ p hΓ hc => by
  rw [Sem.wp_attempt]
  exact h Γ p hΓ hc
theorem wpC_run {c : Code} {Q : Flow → Shared → Prop} (hc : codeC M A c (fun r s' => match r with | .ok f => Q f s' | .error e => E e s') s) : wpC M A (run c none) Q E s := fun Γ p hΓ hcl => by
  rw [Sem.wp_run]
  have z : Γ.Below A ∨ True := .inr trivial
  refine hc _ p rfl (by have := hΓ.enter c none p (by intro x; cases x); rwa [Around.mark_none] at this) ⟨fun x hx => ?_, ?_⟩
  · rcases List.mem_cons.mp hx with rfl | hx
    · exact hcl.1
    · exact hcl.2.1 x hx
  · rcases hcl.2.2 with h | ⟨x, hx, h⟩
    · exact ⟨(Γ.code, p), .head _, h⟩
    · exact ⟨x, .tail _ hx, h⟩
theorem wpC_runOwn {c : Code} {Q : Flow → Shared → Prop} (hc : codeC M A c (fun r s' => match r with | .ok f => Q f s' | .error e => False) s) : wpC M A (runOwn c env) Q E s := by
  unfold runOwn
  refine wpC_onRaise (wpC_run (codeC_mono hc fun r s' h => ?_))
  cases r with
  | ok f => exact h
  | error e => exact h.elim
theorem wpC_Try {body orelse : List Stmt} {h₀ : ExceptHandler} {hs : List ExceptHandler} {pos : Pos} {Q : Flow → Shared → Prop}
    (h : wpC M A (execs body env) (fun f s₁ => match f with | .next => wpAny M A (execs orelse env) Q E s₁ | f => Q f s₁)
      (fun e s₁ => wpAny M A (noteFrame e env) (fun _ s₂ => wpAny M A (setFlight e none) (fun _ s₃ => wpAny M A (handleBy e env (h₀ :: hs)) Q E s₃) E s₂) E s₁) s) :
    wpC M A (exec (.Try body (h₀ :: hs) orelse [] pos) env) Q E s := by
  rw [arm_exec_Try]
  refine wpC_bind (wpC_standAt ?_)
  unfold tryStmt
  simp only [List.isEmpty_nil, if_true, List.isEmpty_cons, Bool.false_and, Bool.false_eq_true, if_false]
  refine wpC_bind (wpC_attempt (wpC_mono h (fun f s₁ h₁ => ?_) fun e s₁ h₁ => ?_))
  · cases f <;> first | exact wpC_of_any h₁ | exact wpC_pure h₁
  · exact wpC_of_any (wpAny_bind (wpAny_mono h₁ (fun _ _ h₂ => wpAny_bind h₂) fun _ _ x => x))
theorem wpC_If {test body orelse pos} {Q : Flow → Shared → Prop}
    (h : wpC M A (isTrue test env (eval test env)) (fun b s₂ => if b then wpAny M A (execs body env) Q E s₂ else wpAny M A (execs orelse env) Q E s₂) E s) :
    wpC M A (exec (.If test body orelse pos) env) Q E s := by
  rw [exec_If]
  refine wpC_bind (wpC_standAt (wpC_bind (wpC_mono h (fun b s₂ h₂ => ?_) fun _ _ e => e)))
  cases b <;> exact wpC_of_any h₂
theorem wpC_isTrue_Compare1 {l op r pos whole} {Q : Bool → Shared → Prop}
    (h : wpC M A (eval l env) (fun a s₁ => wpAny M A (eval r env) (fun b s₂ => wpAny M A (compareOp op a b) (fun c s₃ => wpAny M A (truthy c) Q E s₃) E s₂) E s₁) E s)
    (hm : behindInMarks op r = false := by with_unfolding_all rfl) : wpC M A (isTrue (.Compare l [op] [r] pos) env whole) Q E s := by
  rw [isTrue_Compare1, markedBehindIn_of_false hm]
  refine wpC_bind (wpC_mono h (fun a s₁ h₁ => wpC_of_any ?_) fun _ _ e => e)
  refine wpAny_bind (wpAny_holding (wpAny_mono h₁ (fun b s₂ h₂ => wpAny_bind (wpAny_standAt (wpAny_bind ?_))) fun _ _ e => e))
  exact PySem.wpAny_operating (wpAny_mono h₂ (fun c s₃ h₃ => wpAny_holding h₃) fun _ _ e => e)
theorem wpC_Assign_Tuple {elts k tpos value pos} {Q : Flow → Shared → Prop}
    (h : wpC M A (eval value env) (fun v s₁ => wpAny M A (assign (.Tuple elts k tpos) env v) (fun _ => Q .next) E s₁) E s)
    (hs : swapsWithSole [.Tuple elts k tpos] value pos.line env = pure false := by rfl)
    (hw : swappedStores [.Tuple elts k tpos] value env = pure none := by rfl) :
    wpC M A (exec (.Assign [.Tuple elts k tpos] value pos) env) Q E s := by
  rw [PyProof.Rows.exec_Assign]
  refine wpC_bind (wpC_standAt ?_)
  rw [hs]
  refine wpC_bind (wpC_pure ?_)
  rw [if_neg (by decide)]
  refine wpC_bind (wpC_mono h (fun v s₁ h₁ => wpC_of_any ?_) fun _ _ x => x)
  rw [hw]
  refine wpAny_bind (wpAny_pure ?_)
  show wpAny M A (do assignAll v [assign (.Tuple elts k tpos) env]; pure .next) Q E s₁
  exact wpAny_bind (wpAny_mono h₁ (fun _ _ x => wpAny_pure x) fun _ _ x => x)
theorem wpC_For {target iter body orelse pos} {Q : Flow → Shared → Prop}
    (h : wpAny M A (eval iter env) (fun x s₁ => wpAny M A (pyIter x) (fun it s₂ => codeC M A (.forLoop target it body orelse env) (fun r s' => match r with | .ok f => Q f s' | .error e => False) s₂) E s₁) E s)
    (hs : ∀ x, foldedSetIterable iter env x = pure x := by intro _; rfl) : wpC M A (exec (.For target iter body orelse pos) env) Q E s := by
  rw [exec_For]
  exact wpC_bind (wpC_standAt (wpC_anyBind (wpAny_mono h (fun x s₁ h₁ => wpC_anyBind (wpAny_of_eq (hs x) (wpC_bind (wpC_standAt (wpC_anyBind (wpAny_holding
    (wpAny_mono h₁ (fun it s₂ h₂ => wpC_runOwn h₂) fun _ _ h' => h'))))))) fun _ _ h' => h')))
theorem codeC_loop {c : Code} {R : Result → Shared → Prop} (hb : baBad c = false) (hq : c.quiet = true) (I : Nat → Shared → Prop)
    (turn : ∀ n s, I n s → wpC M (A.under c) (M.den c) (fun fin s' => match fin with
        | .done f => R (.ok f) s'
        | .again c' => (c' = c ∧ ∃ m, m < n ∧ I m s') ∨ (c'.quiet = true ∧ codeC M A c' R s')) (fun e s' => R (.error e) s') s)
    (n : Nat) (h : I n s) : codeC M A c R s := by
  induction n using Nat.strongRecOn generalizing s with
  | ind n ih =>
    refine codeC_of_tree hb (wpC_mono (turn n s h) (fun fin s' hf => ?_) fun _ _ h' => h')
    cases fin with
    | done f => exact hf
    | again c' =>
      rcases hf with ⟨rfl, m, hm, hI⟩ | hf
      · exact ⟨hq, ih m hm hI⟩
      · exact hf
end
section
variable {prog : Program} {w : World} {A : Around} {E : Value → Shared → Prop} {s : Shared} {env : Env}
theorem wpC_noted {α : Type} {m : Sem α} {Q : α → Shared → Prop} (h : wpC (model prog w) A m Q (fun _ _ => False) s) : wpC (model prog w) A (m.onRaise fun x => do noteFrame x env; theTreesLotGoes x) Q E s :=
  wpC_onRaise (wpC_mono h (fun _ _ q => q) fun _ _ h => h.elim)
theorem codeC_forLoop {R : Result → Shared → Prop} {target it body env} (I : Nat → Shared → Prop)
    (turn : ∀ n s, I n s → wpAny (model prog w) A (pyNext it) (fun r s₁ => match r with
      | none => R (.ok .next) s₁
      | some v => wpAny (model prog w) A (assign target env v) (fun _ s₂ => wpC (model prog w) A (execs body env) (fun f s₃ => match f with
          | .next | .cont => ∃ m, m < n ∧ I m s₃
          | .brk => R (.ok .next) s₃
          | .ret v => R (.ok (.ret v)) s₃) (fun _ _ => False) s₂) (fun _ _ => False) s₁) (fun _ _ => False) s)
    (n : Nat) (h : I n s) (ht : ∀ v, letOwnedTupleGo target it v = pure () := by intro _; rfl) : codeC (model prog w) A (.forLoop target it body [] env) R s := by
  refine codeC_loop rfl rfl I (fun n s hI => ?_) n h
  show wpC _ _ ((forTurn target it body [] env).onRaise (fun x => do noteFrame x env; theTreesLotGoes x)) _ _ s
  refine wpC_noted ?_
  simp only [forTurn]
  refine wpC_bind (wpC_standAt (wpC_anyBind (wpAny_onRaise (wpAny_mono (turn n s hI) (fun r s₁ h₁ => ?_) fun _ _ h' => h'.elim))))
  cases r with
  | none => exact wpC_pure (.inr ⟨rfl, codeC_of_any (codeAny_block (wpAny_pure h₁))⟩)
  | some v =>
    refine wpC_anyBind (wpAny_of_eq (ht v) ?_)
    refine wpC_anyBind (wpAny_mono h₁ (fun _ s₂ h₂ => wpC_bind (wpC_mono h₂ (fun f s₃ h₃ => ?_) fun _ _ h' => h')) fun _ _ h' => h')
    cases f with
    | next => exact wpC_pure (.inl ⟨rfl, h₃⟩)
    | cont => exact wpC_pure (.inl ⟨rfl, h₃⟩)
    | brk => exact wpC_pure h₃
    | ret v => exact wpC_pure h₃
/-- what a turn of the loop leaves -/
def TurnEnd (h₀ : Heap) (L I : Addr) (it : Obj) (s : Shared) (P : (Str → Option Value) → List (Addr × Obj) → Prop) (f : Flow) (s' : Shared) : Prop :=
  f = .next ∧ ∃ h' tk' m' news', s' = { s with heap := h', toks := tk' } ∧ Fr h₀ L h' m' ∧ News h₀ L h' ((I, it) :: news') ∧ (∀ q ∈ news', q.1 ≠ I) ∧ P m' news'
theorem TurnEnd.intro {h₀ : Heap} {L I : Addr} {it : Obj} {P : (Str → Option Value) → List (Addr × Obj) → Prop} {h' : Heap} {tk : Nat} {m' : Str → Option Value} {all : List (Addr × Obj)} (F : Fr h₀ L h' m') (N : News h₀ L h' all) (news' : List (Addr × Obj))
    (sub : ∀ p ∈ (I, it) :: news', p ∈ all) (off : ∀ q ∈ news', q.1 ≠ I) (hP : P m' news') : TurnEnd h₀ L I it s P .next { s with heap := h', toks := tk } := ⟨rfl, h', tk, m', news', rfl, F, fun p hp => N p (sub p hp), off, hP⟩
/-- a for over range(n), by an invariant over the frame and the ledger -/
theorem range_loopC {R : Result → Shared → Prop} {x : Str} {px : Pos} {body : List Stmt} {h₀ : Heap} {n : Nat} {I : Addr} (Inv : Nat → (Str → Option Value) → List (Addr × Obj) → Prop)
    (hh : A.handled = none) (hx : env.kindOf x = some .local) (hp : (env.scope.kind == .class || (env.scope.kind == .module && env.locals != env.globals)) = false)
    (hstep : ∀ i m news h tk it tv, i < n → Inv i m news → Fr h₀ env.locals h (fun y => if y = x then some (.int (i : Int) tv) else m y) → News h₀ env.locals h ((I, it) :: news) → (∀ q ∈ news, q.1 ≠ I) →
      wpC (model prog w) A (execs body env) (TurnEnd h₀ env.locals I it s (Inv (i + 1))) (fun _ _ => False) { s with heap := h, toks := tk })
    (hend : ∀ m news h tk, Inv n m news → Fr h₀ env.locals h m → News h₀ env.locals h news → R (.ok .next) { s with heap := h, toks := tk })
    {m : Str → Option Value} {news : List (Addr × Obj)} {h : Heap} {tk : Nat} (h0 : Inv 0 m news) (F : Fr h₀ env.locals h m) (N : News h₀ env.locals h news) (off : ∀ q ∈ news, q.1 ≠ I) (hI : IsRangeIter h I 0 n 1) (hIL : I ≠ env.locals) (hI₀ : h₀.get? I = none) :
    codeC (model prog w) A (.forLoop (.Name x px) (.ref I) body [] env) R { s with heap := h, toks := tk } := by
  have W := range_walks (prog := prog) (w := w) (A := A) (I := I) hh 0 n
  refine codeC_forLoop (fun k s' => ∃ i m news h tk, k = n - i ∧ i ≤ n ∧ s' = { s with heap := h, toks := tk } ∧ Inv i m news ∧ Fr h₀ env.locals h m ∧ News h₀ env.locals h news ∧ (∀ q ∈ news, q.1 ≠ I) ∧ IsRangeIter h I (0 + (i : Nat) * 1) ((n : Int) - (i : Nat)) 1) ?_ n
    ⟨0, m, news, h, tk, rfl, Nat.zero_le _, rfl, h0, F, N, off, by simpa using hI⟩
  rintro k s' ⟨i, m, news, h, tk, rfl, hi, rfl, hinv, F, N, off, hst⟩
  by_cases hlt : i < n
  · refine W.item i _ _ _ hlt hst fun v h₂ tk₂ hPv hst₂ hk₂ => ?_
    obtain ⟨tv, rfl⟩ := hPv
    have F₂ : Fr h₀ env.locals h₂ m := fr_but F hk₂ (Ne.symm hIL) hI₀
    have N₂ : News h₀ env.locals h₂ news := news_but N hk₂ off
    dsimp only
    refine wpAny_assign_Name (wpAny_storeName_local hx F₂.ns (fun h₃ hn₃ hs₃ => ?_) hp)
    have hL₀ : h₀.get? env.locals = none := Heap.get?_none_of_le F.above
    have hst₃ : IsRangeIter h₃ I (0 + ((i + 1 : Nat) : Int) * 1) ((n : Int) - ((i + 1 : Nat) : Int)) 1 := W.frame _ _ _ hst₂ fun b hb o e => hs₃.extBut b o (fun q => hIL (by rw [← List.mem_singleton.mp hb]; exact q)) e
    have F₃ : Fr h₀ env.locals h₃ (fun y => if y = x then some (.int (i : Int) tv) else m y) := ⟨by simpa using hn₃, fun b o e => hs₃.extBut b o (fun q => by rw [q, hL₀] at e; cases e) (F₂.keep b o e), F.above⟩
    obtain ⟨it, hst₃', hback⟩ : ∃ it : Obj, h₃.get? I = some it ∧ ∀ h' : Heap, h'.get? I = some it → IsRangeIter h' I (0 + ((i + 1 : Nat) : Int) * 1) ((n : Int) - ((i + 1 : Nat) : Int)) 1 := ⟨_, hst₃, fun _ e => e⟩
    refine wpC_mono (hstep i m news h₃ _ it tv hlt hinv F₃ (fun p hp => ?_) off) (fun f s₃ hf => ?_) fun _ _ e => e
    · rcases List.mem_cons.mp hp with rfl | hp
      · exact ⟨hst₃', hIL, hI₀⟩
      · exact ⟨hs₃.extBut _ _ (N₂ p hp).2.1 (N₂ p hp).1, (N₂ p hp).2⟩
    · obtain ⟨rfl, h', tk', m', news', rfl, F', N', off', hP⟩ := hf
      refine ⟨n - (i + 1), by omega, i + 1, m', news', h', tk', rfl, hlt, rfl, hP, F', (fun q hq => N' q (.tail _ hq)), off', ?_⟩
      exact hback _ (N' (I, it) (.head _)).1
  · obtain rfl : i = n := Nat.le_antisymm hi (Nat.not_lt.mp hlt)
    refine W.done _ _ _ hst fun h₂ tk₂ hk₂ => ?_
    exact hend m news h₂ tk₂ hinv (fr_but F hk₂ (Ne.symm hIL) hI₀) (news_but N hk₂ off)
end
section
variable {M : Model} {A : Around} {E : Value → Shared → Prop} {env : Env} {post : List Stmt} {Q : Flow → Shared → Prop}
theorem wp_execs_app {Γ : PySem.Ctx} (hΓ : Γ.In A) (hc : Clean Γ) : ∀ (pre : List Stmt) (p : Pos) (s : Shared),
    Sem.wp M Γ (execs pre env) (fun f _ s' => match f with | .next => wpC M A (execs post env) Q E s' | f => Q f s') (fun e _ s' => E e s') p s → Sem.wp M Γ (execs (pre ++ post) env) (fun f _ s' => Q f s') (fun e _ s' => E e s') p s
  | [], p, s, h => (show wpC M A (execs post env) Q E s from h) Γ p hΓ hc
  | st :: rest, p, s, h => by
    rw [List.cons_append, execs_cons, Sem.wp_bind']
    rw [execs_cons, Sem.wp_bind'] at h
    refine Sem.wp_mono M Γ _ (fun f p' s' h' => ?_) (fun _ _ _ e => e) p s h
    cases f with
    | next => exact wp_execs_app hΓ hc rest p' s' h'
    | cont => exact h'
    | brk => exact h'
    | ret v => exact h'
theorem wpC_execs_app {s : Shared} (pre : List Stmt) (h : wpAny M A (execs pre env) (fun f s' => match f with | .next => wpC M A (execs post env) Q E s' | f => Q f s') E s) : wpC M A (execs (pre ++ post) env) Q E s :=
  fun Γ p hΓ hc => wp_execs_app hΓ hc pre p s (h Γ p hΓ)
theorem wpC_execs_at {s : Shared} {body : List Stmt} (n : Nat) (h : wpAny M A (execs (body.take n) env) (fun f s' => match f with | .next => wpC M A (execs (body.drop n) env) Q E s' | f => Q f s') E s) : wpC M A (execs body env) Q E s := by
  rw [← List.take_append_drop n body]
  exact wpC_execs_app _ h
end
end Mine
end
section
open PySem PySem.Spec PySem.Calls PySem.W PyProof.Rows PyProof.Rows.LCg
set_option linter.unusedVariables false
set_option maxRecDepth 100000
namespace Mine
section
variable {prog : Program} {w : World} {A : Around} {E : Value → Shared → Prop} {s : Shared} {env : Env}
/-- a for over range(a, .., c) of n turns, by an invariant over the frame and the ledger; the name's store is the turn's own -/
theorem range_loopG {R : Result → Shared → Prop} {target : Expr} {body : List Stmt} {h₀ : Heap} {a c : Int} {n : Nat} {I : Addr} (Inv : Nat → (Str → Option Value) → List (Addr × Obj) → Prop)
    (hh : A.handled = none) (ht : ∀ v, letOwnedTupleGo target (.ref I) v = pure ())
    (hstep : ∀ i m news h tk it tv, i < n → Inv i m news → Fr h₀ env.locals h m → News h₀ env.locals h ((I, it) :: news) → (∀ q ∈ news, q.1 ≠ I) →
      wpAny (model prog w) A (assign target env (.int (a + (i : Int) * c) tv)) (fun _ s₂ => wpC (model prog w) A (execs body env) (TurnEnd h₀ env.locals I it s (Inv (i + 1))) (fun _ _ => False) s₂) (fun _ _ => False) { s with heap := h, toks := tk })
    (hend : ∀ m news h tk, Inv n m news → Fr h₀ env.locals h m → News h₀ env.locals h news → R (.ok .next) { s with heap := h, toks := tk })
    {m : Str → Option Value} {news : List (Addr × Obj)} {h : Heap} {tk : Nat} (h0 : Inv 0 m news) (F : Fr h₀ env.locals h m) (N : News h₀ env.locals h news) (off : ∀ q ∈ news, q.1 ≠ I) (hI : IsRangeIter h I a n c) (hIL : I ≠ env.locals) (hI₀ : h₀.get? I = none) :
    codeC (model prog w) A (.forLoop target (.ref I) body [] env) R { s with heap := h, toks := tk } := by
  have W : Walks prog w A I [I] [I] n (fun i v => ∃ t, v = .int (a + (i : Int) * c) t) (fun i h => IsRangeIter h I (a + (i : Nat) * c) ((n : Int) - (i : Nat)) c) := Walks.range hh I a c n
  refine codeC_forLoop (fun k s' => ∃ i m news h tk, k = n - i ∧ i ≤ n ∧ s' = { s with heap := h, toks := tk } ∧ Inv i m news ∧ Fr h₀ env.locals h m ∧ News h₀ env.locals h news ∧ (∀ q ∈ news, q.1 ≠ I) ∧ IsRangeIter h I (a + (i : Nat) * c) ((n : Int) - (i : Nat)) c) ?_ n
    ⟨0, m, news, h, tk, rfl, Nat.zero_le _, rfl, h0, F, N, off, by simpa using hI⟩ ht
  rintro k s' ⟨i, m, news, h, tk, rfl, hi, rfl, hinv, F, N, off, hst⟩
  by_cases hlt : i < n
  · refine W.item i _ _ _ hlt hst fun v h₂ tk₂ hPv hst₂ hk₂ => ?_
    obtain ⟨tv, rfl⟩ := hPv
    have F₂ : Fr h₀ env.locals h₂ m := fr_but F hk₂ (Ne.symm hIL) hI₀
    have N₂ : News h₀ env.locals h₂ news := news_but N hk₂ off
    dsimp only
    obtain ⟨it, hst₃', hback⟩ : ∃ it : Obj, h₂.get? I = some it ∧ ∀ h' : Heap, h'.get? I = some it → IsRangeIter h' I (a + ((i + 1 : Nat) : Int) * c) ((n : Int) - ((i + 1 : Nat) : Int)) c := ⟨_, hst₂, fun _ e => e⟩
    refine wpAny_mono (hstep i m news h₂ tk₂ it tv hlt hinv F₂ (fun p hp => ?_) off) (fun _ s₂ hb => wpC_mono hb (fun f s₃ hf => ?_) fun _ _ e => e) fun _ _ e => e
    · rcases List.mem_cons.mp hp with rfl | hp
      · exact ⟨hst₃', hIL, hI₀⟩
      · exact N₂ p hp
    · obtain ⟨rfl, h', tk', m', news', rfl, F', N', off', hP⟩ := hf
      refine ⟨n - (i + 1), by omega, i + 1, m', news', h', tk', rfl, hlt, rfl, hP, F', (fun q hq => N' q (.tail _ hq)), off', ?_⟩
      exact hback _ (N' (I, it) (.head _)).1
  · obtain rfl : i = n := Nat.le_antisymm hi (Nat.not_lt.mp hlt)
    refine W.done _ _ _ hst fun h₂ tk₂ hk₂ => ?_
    exact hend m news h₂ tk₂ hinv (fr_but F hk₂ (Ne.symm hIL) hI₀) (news_but N hk₂ off)
abbrev rngObj3 (a n c : Int) (t u v : Tok) : Obj := { cls := .type "range", data := .fields #[.int a t, .int n u, .int c v] }
variable {h₀ : Heap} {L : Addr} {m : Str → Option Value} {news : List (Addr × Obj)}
theorem range2_L {a n : Int} {t u : Tok} {Q : Value → Shared → Prop} (F : Fr h₀ L s.heap m) (N : News h₀ L s.heap news)
    (h : ∀ D h' tk v₁, Fr h₀ L h' m → News h₀ L h' ((D, rngObj3 a n 1 t u v₁) :: news) → (∀ p ∈ news, p.1 < D) → Q (.ref D) { s with heap := h', toks := tk }) : wpAny (model prog w) A (call (.type "range") [.int a t, .int n u]) Q E s :=
  call_range_2 (h _ _ _ _ (F.push _) (News.push F N _) fun p hp => Heap.lt_size (N p hp).1)
/-- the iterator of a written range -/
theorem pyIter_rangeW {D : Addr} {a b c : Int} {n : Nat} {t u v : Tok} {Q : Value → Shared → Prop} (F : Fr h₀ L s.heap m) (N : News h₀ L s.heap news) (hD : (D, rngObj3 a b c t u v) ∈ news) (hn : Builtin.Range.rangeSize a b c = (n : Int)) (hs : Builtin.Range.small a b c = true)
    (h : ∀ I h', Fr h₀ L h' m → News h₀ L h' news → IsRangeIter h' I a n c → (∀ q ∈ news, q.1 < I) → I ≠ L → h₀.get? I = none → Q (.ref I) { s with heap := h' }) : wpAny (model prog w) A (pyIter (.ref D)) Q E s := by
  have hz := N _ hD
  refine wpAny_pyIter_range (a := a) (b := b) (c := c) (t := t) (u := u) (v := v) hz.1 hs ?_
  refine h _ _ (F.push _) (N.grown fun _ _ e => Heap.get?_push_of_some _ e) ?_ (fun q hq => Heap.lt_size (N q hq).1) (Nat.ne_of_gt F.ns.lt) (next_is_new F)
  show IsRangeIter _ _ _ _ _
  rw [hn]
  exact Heap.get?_push_size _ rfl
end
end Mine
end
section
open PySem PySem.Spec PySem.Calls PySem.W PyProof.Rows PyProof.Rows.LCg
set_option maxRecDepth 100000
set_option maxHeartbeats 2000000
set_option linter.unusedVariables false
namespace Mine
def Halt (P : Prop) : Prop := P
theorem Halt.intro {P : Prop} (h : Halt P) : P := h
/-- two by two, the other way round -/
def swp : List UInt8 → List UInt8
  | a :: b :: r => b :: a :: swp r
  | r => r
theorem swp_len : ∀ l : List UInt8, (swp l).length = l.length
  | [] => rfl
  | [_] => rfl
  | a :: b :: r => by
    show (b :: a :: swp r).length = _
    rw [List.length_cons, List.length_cons, swp_len r]
    rfl
theorem swp_take : ∀ (k : Nat) (l : List UInt8) (a b : UInt8), l[2 * k]? = some a → l[2 * k + 1]? = some b → swp (l.take (2 * (k + 1))) = swp (l.take (2 * k)) ++ [b, a]
  | 0, x :: y :: r, a, b, h, h2 => by
    cases h
    cases h2
    rfl
  | 0, [x], a, b, h, h2 => by cases h2
  | 0, [], a, b, h, h2 => by cases h
  | k + 1, x :: y :: r, a, b, h, h2 => by
    have ih := swp_take k r a b (by rw [← h]; rfl) (by rw [← h2]; rfl)
    show y :: x :: swp (r.take (2 * (k + 1))) = y :: x :: (swp (r.take (2 * k)) ++ [b, a])
    rw [ih]
  | k + 1, [x], a, b, h, h2 => by cases h2
  | k + 1, [], a, b, h, h2 => by cases h
/-- what stands in the new word after k turns -/
def swA (us : List UInt8) (k : Nat) : Array UInt8 := (swp (us.take (2 * k)) ++ List.replicate (us.length - 2 * k) 0).toArray
theorem swA_size (us : List UInt8) (k : Nat) (h : 2 * k ≤ us.length) : (swA us k).size = us.length := by
  unfold swA
  rw [List.size_toArray, List.length_append, swp_len, List.length_take, List.length_replicate]
  omega
theorem set_two (X : List UInt8) (m : Nat) (a b : UInt8) : ((X ++ List.replicate (m + 2) 0).toArray.setIfInBounds (X.length + 1) a).setIfInBounds X.length b = (X ++ [b, a] ++ List.replicate m 0).toArray := by
  rw [List.setIfInBounds_toArray, List.setIfInBounds_toArray]
  congr 1
  rw [List.set_append_right _ _ (by omega), List.set_append_right _ _ (by omega)]
  rw [show X.length + 1 - X.length = 1 by omega, show X.length - X.length = 0 by omega]
  rw [List.replicate_succ, List.replicate_succ]
  simp
theorem swA_turn (us : List UInt8) (k : Nat) (h : 2 * k + 2 ≤ us.length) (a b : UInt8) (ha : us[2 * k]? = some a) (hb : us[2 * k + 1]? = some b) :
    ((swA us k).setIfInBounds (2 * k + 1) a).setIfInBounds (2 * k) b = swA us (k + 1) := by
  unfold swA
  have hl : (swp (us.take (2 * k))).length = 2 * k := by rw [swp_len, List.length_take]; omega
  have e := set_two (swp (us.take (2 * k))) (us.length - 2 * (k + 1)) a b
  rw [hl] at e
  rw [show us.length - 2 * k = us.length - 2 * (k + 1) + 2 by omega, e, swp_take k us a b ha hb]
theorem swA_zero (us : List UInt8) : swA us 0 = Array.replicate us.length 0 := by
  unfold swA
  simp [swp]
theorem swA_end (us : List UInt8) (k : Nat) (h : us.length = 2 * k) : swA us k = (swp us).toArray := by
  unfold swA
  rw [h, Nat.sub_self, List.take_of_length_le (by omega)]
  simp
local macro_rules | `(tactic| walk_at "my_enterC") => `(tactic| (k_whole; intro L' h' F' N' B' X' T'; (try dsimp only); (try k_lift B'); (try k_fold)))
local macro_rules | `(tactic| walk_at "eval Name") => `(tactic| (k_here; k_dflt (refine nameX_L (by k_asm) (by assumption) ?_ (by rfl) (by rfl) (by decide); k_whole)))
local macro_rules | `(tactic| walk_at "call builtin:len") => `(tactic| refine Halt.intro ?_)
local macro_rules | `(tactic| walk_at "call type:range") => `(tactic| (k_here; (with_reducible show wpAny _ _ (call (Value.type _) [_, _, _]) _ _ _); refine Halt.intro ?_))
local macro_rules | `(tactic| walk_at "subscriptTail Name BinOp bytes int") => `(tactic| refine Halt.intro ?_)
local macro_rules | `(tactic| walk_at "setItem ref int") => `(tactic| refine Halt.intro ?_)
local macro_rules | `(tactic| walk_at "call type:bytes") => `(tactic| refine Halt.intro ?_)
theorem byte_back (u : UInt8) : ((u.toNat : Int).toNat.toUInt8) = u := by simp
theorem item_U {prog : Program} {w : World} {A : Around} {E : Value → Shared → Prop} {s : Shared} {value slice : Expr} {us : List UInt8} {t ui : Tok} {i : Int} {j : Nat} {a : UInt8} {Q : Value → Shared → Prop} (hl : us.length = 16) (hj : us[j]? = some a) (e : i = (j : Int))
    (h : ∀ t' k, Q (.int (a.toNat : Int) t') { s with toks := k })
    (hs : subscripted slice false (.bytes us.toArray t) (.int i ui) = operate [.bytes us.toArray t, .int i ui] (getItem (.bytes us.toArray t) (.int i ui)) := by with_unfolding_all rfl)
    (ht : ∀ r, letTemporaryGo value (.bytes us.toArray t) r = pure () := by intro _; with_unfolding_all rfl) : wpAny (model prog w) A (subscriptTail value slice (.bytes us.toArray t) (.int i ui)) Q E s := by
  have hbl : (KBw.bInts us.toArray).length = 16 := by rw [KBw.ints_length, List.size_toArray, hl]
  have hlt : j < 16 := by
    have := (List.getElem?_eq_some_iff.mp hj).1
    omega
  have hg : (KBw.bInts us.toArray).getD i.toNat 0 = (a.toNat : Int) := by
    rw [e, Int.toNat_natCast]
    unfold KBw.bInts
    rw [List.getD_eq_getElem?_getD, List.getElem?_map, hj]
    rfl
  refine KBw.item_K (ks := KBw.bInts us.toArray) rfl (by rw [hbl]; decide) (by omega) (by rw [hbl]; omega) (fun t' k _ _ => ?_) hs ht
  rw [hg]
  exact h t' k
theorem setItem_U {prog : Program} {w : World} {A : Around} {E : Value → Shared → Prop} {s : Shared} {h₀ : Heap} {L : Addr} {m : Str → Option Value} {news news' : List (Addr × Obj)} {a : Addr} {b : Array UInt8} {k v : Int} {kn : Nat} {u : UInt8} {t t2 : Tok} {Q : Unit → Shared → Prop} (F : Fr h₀ L s.heap m) (N : News h₀ L s.heap news)
    (U : Upd a (baObj b) (baObj (b.setIfInBounds kn u)) news news') (e : k = (kn : Int)) (ev : v = (u.toNat : Int)) (hk : kn < b.size) (hb : b.size ≤ 1000) (h : ∀ h', Fr h₀ L h' m → News h₀ L h' news' → Q () { s with heap := h' }) :
    wpAny (model prog w) A (setItem (.ref a) (.int k t) (.int v t2)) Q E s := by
  subst e ev
  have hu := u.toNat_lt
  refine setItem_baK F N (news' := news') ?_ (by omega) (by omega) hb (by omega) (by omega) h
  rw [Int.toNat_natCast, byte_back]
  exact U
theorem lenU {prog : Program} {w : World} {A : Around} {E : Value → Shared → Prop} {s : Shared} {us : List UInt8} {t : Tok} {Q : Value → Shared → Prop} (hl : us.length = 16) (h : ∀ k, Q (.int 16 k) { s with toks := k + 1 }) :
    wpAny (model prog w) A (call (.builtin "len") [.bytes us.toArray t]) Q E s := by
  have e : (KBw.bInts us.toArray).length = 16 := by rw [KBw.ints_length, List.size_toArray, hl]
  refine KBw.len_K rfl (by rw [e]; decide) ?_
  rw [e]
  exact h _
theorem ba_keeper (M : Model) (h : Heap) (_ : True) : ∃ k, (k = Keeper.frame ∨ k = Keeper.machine ∨ k = Keeper.boundFrame) ∧ Looks M h (keeperOf (.type "bytearray")) k := ⟨.machine, .inr (.inl rfl), Looks.of_pure rfl⟩
theorem range3_L {prog : Program} {w : World} {A : Around} {E : Value → Shared → Prop} {s : Shared} {h₀ : Heap} {L : Addr} {m : Str → Option Value} {news : List (Addr × Obj)} {t u v : Tok} {Q : Value → Shared → Prop} (F : Fr h₀ L s.heap m) (N : News h₀ L s.heap news)
    (h : ∀ D h', Fr h₀ L h' m → News h₀ L h' ((D, rngObj3 0 16 2 t u v) :: news) → (∀ p ∈ news, p.1 < D) → Q (.ref D) { s with heap := h' }) : wpAny (model prog w) A (call (.type "range") [.int 0 t, .int 16 u, .int 2 v]) Q E s :=
  call_range_3 (by decide) (h _ _ (F.push _) (News.push F N _) fun p hp => Heap.lt_size (N p hp).1) (.inl (PyProof.noPylong_of_log2 (by decide +kernel)))
theorem c_swapU (w : World) (news : List (Addr × Obj)) (us : List UInt8) (hl : us.length = 16) (t t2 : Tok) : ConC w 143 2 news [.bytes us.toArray t, .int 2 t2] (fun t => .bytes (swp us).toArray t) := by
  w_top off
  delta ConC theProg
  k_fill
  intro loose mean mg mb dp un gd cn cs a ccd cl outer A₀ base h₀ L m s Q E B F X N T hk hdp hun hret
  refine wpC_call ?_
  (refine' code_top0P ?en1k1 ?en1k2 ?en1k3 ?en1k4 ?en1k5 ?en1kA ?en1kF ?en1kK ?en1k6 ?en1k7 ?en1k8 ?en1k9 ?en1kB ?_ ?en1c2 ?en1c3 ?en1c4 ?en1c5; (case en1kA => exact rfl); (case en1kF => exact rfl); (case en1kK => first | exact rfl | assumption); (case en1k1 => k_asm); (case en1k2 => k_asm); (case en1k3 => k_asm); (case en1k4 => k_asm); (case en1k5 => k_asm); (case en1k6 => k_is); (case en1k7 => k_is); (case en1k8 => ktr_room); (case en1k9 => exact BindsTo.of_eq rfl); (case en1c2 => decide); (case en1kB => exact locs rfl); (case en1c3 => exact rfl); (case en1c4 => exact rfl); (case en1c5 => exact rfl))
  walk_at "my_enterC"
  rename_i L1 h1 F1 N1 B1 X1 T1
  refine wpC_execs_cons (wpC_Assign_Name (wpC_Call_Name ?_))
  k_steps
  refine wpC_callWith_s (P := fun _ => True) (ba_keeper _) ?_
  k_steps
  unfold Halt
  refine lenU hl fun k9 => ?_
  k_steps
  · trivial
  refine' call_bytearray_K ?F ?N ?a ?b ?_
  (case F => k_asm)
  (case N => k_asm)
  (case a => decide)
  (case b => decide)
  intro a' h' F' N' l1
  k_steps
  refine wpC_execs_cons (wpC_For ?_)
  k_steps
  unfold Halt
  refine lenU hl fun k10 => ?_
  k_steps
  unfold Halt
  refine' range3_L ?zF ?zN ?_
  (case zF => k_asm)
  (case zN => k_asm)
  intro D5 h5 F5 N5 l5
  dsimp only
  refine pyIter_rangeW (n := 8) F5 N5 (.head _) (by decide) (by decide +kernel) fun I h6 F6 N6 hI lI hIL hI0 => ?_
  have N7 := PyProof.Rows.News.tail' N6
  refine range_loopG (n := 8) (fun k m ns => (∃ ta, m (Str.ofString "data") = some (.bytes us.toArray ta)) ∧ (∃ tb, m (Str.ofString "width") = some (.int 2 tb)) ∧ m (Str.ofString "swapped_data") = some (.ref a') ∧ ns = [(a', baObj (swA us k))]) rfl (by intro _; rfl) ?zstep ?zend (?z0 : _ ∧ _ ∧ _ ∧ _) F6 N7 (fun q hq => Nat.ne_of_lt (lI q (.tail _ hq))) hI hIL hI0
  case z0 => exact ⟨⟨_, rfl⟩, ⟨_, rfl⟩, rfl, by rw [swA_zero, hl]; rfl⟩
  case zend =>
    rintro m2 ns h7 tk7 ⟨⟨ta, ma⟩, ⟨tb, mb'⟩, mc, rfl⟩ F N
    dsimp only
    refine wpC_of_any ?_
    have F' : Fr s.heap L1 h7 m2 := F
    have N' : News s.heap L1 h7 [(a', baObj (swA us 8))] := N
    clear F N
    k_steps
    unfold Halt
    refine' call_bytes_ba (News.get N' (.head _)) ?zza ?_
    (case zza => rw [swA_size us 8 (by omega)]; omega)
    k_steps
    intro hN
    refine' retBy (Q := Q) hret ?ze ?zF hN
    (case zF => k_asm)
    (case ze => exact swA_end us 8 hl)
  case zstep =>
    rintro k m2 ns h7 tk7 it tv hk8 ⟨⟨ta, ma⟩, ⟨tb, mb'⟩, mc, rfl⟩ F N off
    have F' : Fr s.heap L1 h7 m2 := F
    have N' : News s.heap L1 h7 [(I, it), (a', baObj (swA us k))] := N
    clear F N
    have o1 : (@Ne Nat a' I) := off _ (.head _)
    obtain ⟨ua, hua⟩ : ∃ a, us[2 * k]? = some a := ⟨us[2 * k]'(by omega), List.getElem?_eq_getElem _⟩
    obtain ⟨ub, hub⟩ : ∃ a, us[2 * k + 1]? = some a := ⟨us[2 * k + 1]'(by omega), List.getElem?_eq_getElem _⟩
    have hbl : (KBw.bInts us.toArray).length = 16 := by rw [KBw.ints_length, List.size_toArray, hl]
    k_steps
    refine wpC_of_any ?_
    k_steps
    unfold Halt
    refine item_U hl hua (by omega) fun tq kq => ?_
    k_steps
    unfold Halt
    refine' setItem_U (kn := 2 * k + 1) (u := ua) ?zbF ?zbN ?zbU (by omega) rfl ?zbk ?zbb ?_
    (case zbF => k_asm)
    (case zbN => k_asm)
    (case zbU => k_upd)
    (case zbk => rw [swA_size us k (by omega)]; omega)
    (case zbb => rw [swA_size us k (by omega)]; omega)
    intro h9 F9 N9
    k_steps
    unfold Halt
    refine item_U hl hub (by omega) fun tq kq => ?_
    k_steps
    unfold Halt
    refine' setItem_U (kn := 2 * k) (u := ub) ?zcF ?zcN ?zcU (by omega) rfl ?zck ?zcb ?_
    (case zcF => k_asm)
    (case zcN => k_asm)
    (case zcU => k_upd)
    (case zck => rw [Array.size_setIfInBounds, swA_size us k (by omega)]; omega)
    (case zcb => rw [Array.size_setIfInBounds, swA_size us k (by omega)]; omega)
    intro h10 F10 N10
    rw [swA_turn us k (by omega) ua ub hua hub] at N10
    k_steps
    rename_i h11 tk11 F11 N11
    exact TurnEnd.intro F11 N11 [(a', baObj (swA us (k + 1)))] (fun _ hq => hq) (fun q hq => by rw [List.mem_singleton.mp hq]; exact o1) ⟨⟨ta, ma⟩, ⟨tb, mb'⟩, mc, rfl⟩
end Mine
end
section
open PySem PySem.Spec PySem.Calls PySem.W PyProof.Rows
set_option linter.unusedVariables false
set_option maxRecDepth 100000
namespace Mine
/-- the ledger is handed back with the one object at P as it is then -/
def BackU (h₀ : Heap) (L P : Addr) (g : Obj → List (Addr × Obj)) (R : Result → Shared → Prop) : Result → Shared → Prop := fun r s' => (∀ o, s'.heap.get? P = some o → News h₀ L s'.heap (g o)) → R r s'
section
variable {prog : Program} {w : World} {A₀ A : Around} {s : Shared} {base h₀ : Heap} {outer : List Env} {L P : Addr} {o₀ : Obj} {m mg mb : Str → Option Value} {env : Env} {news : List (Addr × Obj)} {g : Obj → List (Addr × Obj)} {K : Frag} {p : Program} {loose : List Str} {mean : ExcName → Option Value}
  {R : Result → Shared → Prop} {name qual : Str} {params : Arguments} {body : List Stmt} {scope : Scope} {cl : List (Str × Addr)} {dV kV doc pm cdv ct oc : Value} {an od : Option Addr} {osl : Array (Option Value)} {f : Addr} {fo : Obj} {args : Args} {binds : List (Str × Value)}
theorem groundU (B : Below A₀ base outer h₀) (F : Fr h₀ L s.heap m) (N : News h₀ L s.heap news) (U : UpdF P o₀ news g) (hA : A.frames = some (env :: outer)) (hf : env.frame = some L) (hke : env.scope.kind = .function) :
    Fr h₀ L (hideAll s.heap [P]) m ∧ Below A base (env :: outer) (hideAll s.heap [P]) ∧ h₀.StaysIn (hideAll s.heap [P]) ∧ s.heap.get? P = some o₀ ∧
      ∀ v s', LeaveK h₀ L m (hideAll s.heap [P]) (BackU h₀ L P g R) v s' → R (.ok (.ret v)) s' := by
  obtain ⟨own, rest, rfl, hg, h1, h2⟩ := U.split
  have hP := N (P, o₀) (List.mem_append_right _ (.head _))
  obtain ⟨a, b, c, d⟩ := groundX (R := BackU h₀ L P g R) (news := [(P, o₀)]) B F (fun q hq => N q (List.mem_append_right _ (by cases hq with | head => exact .head _ | tail _ h => cases h))) hA hf hke
  have d0 := groundX (R := R) (news := [(P, o₀)]) B F (fun q hq => N q (List.mem_append_right _ (by cases hq with | head => exact .head _ | tail _ h => cases h))) hA hf hke
  refine ⟨a, b, c, hP.1, fun v s' hl => ?_⟩
  have hl0 := hl
  obtain ⟨L', m', news', F', N', k⟩ := hl0
  have old : ∀ q, q ∈ own ++ rest → s'.heap.get? q.1 = some q.2 := fun q hq => by
    have hne : q.1 ≠ P := (List.mem_append.mp hq).elim (h1 q) (h2 q)
    have hs : s.heap.get? q.1 = some q.2 := (N q ((List.mem_append.mp hq).elim (fun x => List.mem_append_left _ x) (fun x => List.mem_append_right _ (.tail _ x)))).1
    exact F'.keep _ _ (hideAll_get _ hs (by simpa using hne))
  refine d v s' hl fun o ho => ?_
  rw [hg]
  intro q hq
  rcases List.mem_append.mp hq with hq | hq
  · exact ⟨old q (List.mem_append_left _ hq), (N q (List.mem_append_left _ hq)).2⟩
  · rcases List.mem_cons.mp hq with rfl | hq
    · exact ⟨ho, hP.2⟩
    · exact ⟨old q (List.mem_append_right _ hq), (N q (List.mem_append_right _ (.tail _ hq))).2⟩
/-- a def of the top without cells entered: all that stood is old but the one object at P -/
theorem code_topU (B : Below A₀ base outer h₀) (F : Fr h₀ L s.heap m) (X₀ : K.In h₀) (N : News h₀ L s.heap news) (T : Top p loose mean mg mb h₀) (U : UpdF P o₀ news g) (hA : A.frames = some (env :: outer)) (hf : env.frame = some L) (hke : env.scope.kind = .function)
    (ho : K.lookup f = some ⟨oc, od, .func (fnOf name qual params body scope dV kV doc pm an cdv ct), osl⟩) (hcd : codeIn K cdv qual = true) (hroom : A.depth < recursionLimit)
    (hbind : BindsTo s (fnOf name qual params body scope dV kV doc pm an cdv ct) args binds) (hloc : ∀ y ∈ binds, scope.names.lookup y.1 = some .local)
    (h : ∀ G L' h₁, Fr G L' h₁ (fun y => binds.reverse.lookup y) → News G L' h₁ [(P, o₀)] → Below A base (env :: outer) G → K.In G → Top p loose mean mg mb G → h₀.StaysIn G → (∀ b o, b ≠ P → s.heap.get? b = some o → G.get? b = some o) → s.heap.objs.size ≤ L' →
      wpAny (model prog w) (A.deeper (envOf qual scope L' f cdv)) (execs body (envOf qual scope L' f cdv))
        (fun fl s' => LeaveK h₀ L m G (BackU h₀ L P g R) (match fl with | .ret v => v | _ => .none) s')
        (fun e s' => wpAny (model prog w) (A.deeper (envOf qual scope L' f cdv)) (leaving (envOf qual scope L' f cdv) e) (fun _ s'' => R (.error e) s'') (fun e' s'' => R (.error e') s'') s')
        { s with heap := h₁, toks := s.toks + binds.length })
    (hcell : ∀ x ∈ scope.names, x.2 ≠ .cell) (hco : scope.isCoroutine = false) (hgen : scope.isGenerator = false) (hk : scope.kind = .function) : codeAny (model prog w) A (.call (.ref f) args) R s := by
  obtain ⟨FG, BG, st, hP, lv⟩ := groundU (R := R) B F N U hA hf hke
  obtain ⟨own, rest, rfl, hg, h1, h2⟩ := U.split
  have hm := N (P, o₀) (List.mem_append_right _ (.head _))
  refine codeAny_call_def (fd := fnOf name qual params body scope dV kV doc pm an cdv ct) (body := body) (binds := binds) hroom ((X₀.keeps F.keep) _ _ ho) rfl (T.nolimit.keeps F.keep) (codeRec_of (X₀.keeps F.keep) hcd) rfl hbind hcell hloc (fun h₁ hns hk₁ => ?_) hco hgen hk
  exact wpAny_mono (h _ s.heap.objs.size h₁ ⟨hns, fun b o e => hk₁ b o (of_hideAll _ e), Nat.le_of_eq (hideAll_size _ _)⟩
    (fun q hq => by
      have e : q = (P, o₀) := by cases hq with | head => rfl | tail _ h => cases h
      subst e
      exact ⟨hk₁ _ _ hm.1, Nat.ne_of_lt (Heap.lt_size hm.1), hideAll_none _ (.head _)⟩) BG (X₀.keeps st) (T.keeps st) st (fun b o hb e => hideAll_get _ e (by simpa using hb)) (Nat.le_refl _)) (fun fl s' hl => lv _ _ hl) fun _ _ y => y
/-- a def of the top with cells entered -/
theorem code_topUC (B : Below A₀ base outer h₀) (F : Fr h₀ L s.heap m) (X₀ : K.In h₀) (N : News h₀ L s.heap news) (T : Top p loose mean mg mb h₀) (U : UpdF P o₀ news g) (hA : A.frames = some (env :: outer)) (hf : env.frame = some L) (hke : env.scope.kind = .function)
    (ho : K.lookup f = some ⟨oc, od, .func (fnOf name qual params body scope dV kV doc pm an cdv ct), osl⟩) (hcd : codeIn K cdv qual = true) (hroom : A.depth < recursionLimit)
    (hbind : BindsTo s (fnOf name qual params body scope dV kV doc pm an cdv ct) args binds) (hkind : (binds.all fun y => scope.names.lookup y.1 == some .local || scope.names.lookup y.1 == some .cell) = true) (hnd : ((cellsFrom 0 scope.names []).map (·.1)).Nodup)
    (h : ∀ G L' h₁ tk cells, Fr G L' h₁ (bindL (envOfC qual scope L' f cdv).kindOf binds fun _ => none) → News G L' h₁ (cells ++ [(P, o₀)]) → CellsAre (bindC (envOfC qual scope L' f cdv).kindOf binds fun _ => none) (cellsFrom (L' + 1) scope.names []) cells → Below A base (env :: outer) G → K.In G → Top p loose mean mg mb G →
      h₀.StaysIn G → (∀ b o, b ≠ P → s.heap.get? b = some o → G.get? b = some o) → (∀ q ∈ news, q.1 < L') → P < L' → s.heap.objs.size ≤ L' →
      wpAny (model prog w) (A.deeper (envOfC qual scope L' f cdv)) (execs body (envOfC qual scope L' f cdv))
        (fun fl s' => LeaveK h₀ L m G (BackU h₀ L P g R) (match fl with | .ret v => v | _ => .none) s')
        (fun e s' => wpAny (model prog w) (A.deeper (envOfC qual scope L' f cdv)) (leaving (envOfC qual scope L' f cdv) e) (fun _ s'' => R (.error e) s'') (fun e' s'' => R (.error e') s'') s')
        { s with heap := h₁, toks := tk })
    (hco : scope.isCoroutine = false) (hgen : scope.isGenerator = false) (hk : scope.kind = .function) : codeAny (model prog w) A (.call (.ref f) args) R s := by
  obtain ⟨FG, BG, st, hP, lv⟩ := groundU (R := R) B F N U hA hf hke
  obtain ⟨own, rest, rfl, hg, h1, h2⟩ := U.split
  have hm := N (P, o₀) (List.mem_append_right _ (.head _))
  refine codeAny_call_function (fd := fnOf name qual params body scope dV kV doc pm an cdv ct) hroom ((X₀.keeps F.keep) _ _ ho) rfl hco hgen rfl (codeRec_of (X₀.keeps F.keep) hcd) (hbind _ _ _ _ ?_)
  refine wpAny_newFunctionEnv_cells hk (kindsX hkind _) fun env' he s' x => ?_
  subst he
  refine ⟨(T.nolimit.keeps F.keep).keeps x.toInCall.keep, codeAny_func ?_⟩
  obtain ⟨h₁, tk, rfl, _⟩ := x.done
  have hk₁ := x.toInCall.keep
  obtain ⟨cells, NC, Y⟩ := Cl.news (h₀ := s.heap) (Nat.le_refl _) fun n c hm => ⟨x.cell n c (lookup_of_mem_nodup (cellsFrom_names scope.names 0 (s.heap.objs.size + 1) [] [] rfl ▸ hnd) hm), x.above n c hm⟩
  refine wpAny_mono (h _ s.heap.objs.size h₁ tk cells ⟨x.toInCall.ns, fun b o e => hk₁ b o (of_hideAll _ e), Nat.le_of_eq (hideAll_size _ _)⟩ (fun q hq => ?_) Y BG (X₀.keeps st) (T.keeps st) st (fun b o hb e => hideAll_get _ e (by simpa using hb)) (fun q hq => Heap.lt_size (N q hq).1) (Heap.lt_size hm.1) (Nat.le_refl _)) (fun fl s' hl => lv _ _ hl) fun _ _ y => y
  rcases List.mem_append.mp hq with hq | hq
  · refine ⟨(NC q hq).1, (NC q hq).2.1, ?_⟩
    cases e : (hideAll s.heap [P]).get? q.1 with
    | none => rfl
    | some o => have := of_hideAll _ e; rw [(NC q hq).2.2] at this; cases this
  · have e : q = (P, o₀) := by cases hq with | head => rfl | tail _ h => cases h
    subst e
    exact ⟨hk₁ _ _ hm.1, Nat.ne_of_lt (Heap.lt_size hm.1), hideAll_none _ (.head _)⟩
end
section
variable {M : Model} {A : Around} {E : Value → Shared → Prop} {s : Shared} {h₀ : Heap} {L a c P : Addr} {m mg mb : Str → Option Value} {cn : Str} {cs : Scope} {ccd : Value} {cl : List (Str × Addr)} {news : List (Addr × Obj)} {g : Obj → List (Addr × Obj)}
  {p : Program} {loose : List Str} {mean : ExcName → Option Value} {name qual : Str} {params : Arguments} {body : List Stmt} {scope : Scope} {ps : Array Value} {pos : Pos} {firstLine : Nat} {clos : List (Str × Addr)} {o : Obj} {x : Str} {v : Value}
/-- a def in a def, made not for the first time: table and code stand among the old -/
theorem nestHit_0 {Q : Value → Shared → Prop} {c' : Addr} (F : Fr h₀ L s.heap m) (N : News h₀ L s.heap news) (T : Top p loose mean mg mb h₀) (C : CodeHd h₀ c P) (hcd : ccd = .ref c) (hP : h₀.get? P = some (tabObj ps)) (ht : TriplesOk ps.toList) (hf : codeAmong pos ps.toList = some (.ref c'))
    (hcl : closureFor scope (envX cn cs L a ccd cl) = pure clos)
    (h : ∀ f ctv doc h' tk, Fr h₀ L h' m → News h₀ L h' ((f, fnMade name qual params body scope clos doc ((mg "__name__").getD .none) c' ctv) :: news) → (∀ q ∈ news, q.1 < f) → Q (.ref f) { s with heap := h', toks := tk }) :
    wpAny M A (makeFunction name qual params (.stmts body) scope (envX cn cs L a ccd cl) [] [] [] pos firstLine) Q E s := by
  have apart : Heap.BuiltinsAt s.heap mg P := by
    obtain ⟨bm, ob, e, n0, hb, kind, rest⟩ := T.bmain
    refine ⟨bm, ob, e, n0, ?_, ?_, F.keep _ _ hb, kind, rest⟩
    · rintro rfl
      obtain ⟨o, es, ep, ho, hd, _⟩ := T.g
      rw [Option.some.inj (hb.symm.trans ho), hd] at rest
      cases rest.2
    · rintro rfl
      rw [Option.some.inj (hb.symm.trans hP)] at kind
      cases kind
  refine makeFunction_hit (mg := mg) hcl rfl (T.g.keeps F.keep) hcd (C.keeps F.keep) (F.keep _ _ hP) ht hf apart fun ctv doc h' tk hk hsz => ?_
  have F' := F.keeps hk
  exact h _ ctv doc _ tk (F'.push _) (News.push F' (fun q hq => ⟨hk _ _ (N q hq).1, (N q hq).2⟩) _) fun q hq => Nat.lt_of_lt_of_le (Heap.lt_size (N q hq).1) hsz
/-- a free name whose cell stands among the old -/
theorem nameX_O {Q : Value → Shared → Prop} (F : Fr h₀ L s.heap m) (hc : cl.lookup x = some c) (hv : h₀.get? c = some o) (hd : o.data = .cell (some v)) (h : Q v s)
    (hk : cs.kind = .function := by rfl) (hx : (envX cn cs L a ccd cl).kindOf x = some .free := by rfl) (hb : (x == ("__debug__" : Str)) = false := by decide) (hn : (x == ("__classdict__" : Str)) = false := by decide) :
    wpAny M A (eval (.Name x pos) (envX cn cs L a ccd cl)) Q E s := wpAny_Name (wpAny_loadName_free hk hx hc ⟨o, F.keep _ _ hv, hd⟩ h hn) hb
theorem FnAt.old {fd : FuncData} {oc : Value} {od : Option Addr} {sl : Array (Option Value)} {q : Addr} {h : Heap} (F : Fr h₀ L h m) (e : h₀.get? q = some ⟨oc, od, .func fd, sl⟩) : FnAt q h := ⟨oc, od, fd, sl, F.keep _ _ e⟩
theorem list_old {l P : Addr} {G h : Heap} {items ps : Array Value} (x : h.IsList l items) (hP : h.get? P = some (tabObj ps)) (k : ∀ b o, b ≠ P → h.get? b = some o → G.get? b = some o) : G.IsList l items := by
  obtain ⟨o, ho, hc, r⟩ := x
  refine ⟨o, k _ _ (fun e => ?_) ho, hc, r⟩
  rw [e, hP] at ho; cases ho; cases hc
end
/-- contract of a closure that stands in H -/
abbrev InnC (w : World) (H : Heap) (f : Addr) (d : Nat) (vs : List Value) (R : Tok → Value) : Prop :=
  ∀ (news : List (Addr × Obj)) (loose : List Str) (mean : ExcName → Option Value) (mg mb : Str → Option Value) (dp un : Nat) (gd : Option (List Code)) (cn : Str) (cs : Scope) (a : Addr) (ccd : Value) (cl : List (Str × Addr)) (outer : List Env) (A₀ : Around) (base h₀ : Heap) (L : Addr) (m : Str → Option Value) (s : Shared) (Q E : Value → Shared → Prop),
    (∀ b o, H.get? b = some o → s.heap.get? b = some o) → Below A₀ base outer h₀ → Fr h₀ L s.heap m → (hdC.heap_39 w.params).In h₀ → News h₀ L s.heap news → Top topProg loose mean mg mb h₀ → cs.kind = .function →
    dp + d < recursionLimit → un + 8 * d < cLine →
    (∀ t h' tk', Fr h₀ L h' m → News h₀ L h' news → Q (R t) { s with heap := h', toks := tk' }) →
    wpAny (model theProg w) (ktrTop dp un gd cn cs L a ccd cl outer) (call (.ref f) vs) Q E s
theorem cell_some {o : Obj} {v : Option Value} {x : Value} (h : o.data = .cell v) (e : v = some x) : o.data = .cell (some x) := e ▸ h
theorem use_inn2 {w : World} {H : Heap} {f : Addr} {d : Nat} {x x' y y' : Int} {tx ty : Tok} {R : Tok → Value} {news : List (Addr × Obj)} {loose : List Str} {mean : ExcName → Option Value} {mg mb : Str → Option Value} {dp un : Nat} {gd : Option (List Code)} {cn : Str} {cs : Scope} {a : Addr} {ccd : Value} {cl : List (Str × Addr)} {outer : List Env} {A₀ : Around} {base h₀ : Heap} {L : Addr} {m : Str → Option Value} {s : Shared} {Q E : Value → Shared → Prop}
    (key : InnC w H f d [.int x' tx, .int y' ty] R) (hle : ∀ b o, H.get? b = some o → h₀.get? b = some o) (ex : x = x') (ey : y = y') (B : Below A₀ base outer h₀) (F : Fr h₀ L s.heap m) (X : (hdC.heap_39 w.params).In h₀) (N : News h₀ L s.heap news) (T : Top topProg loose mean mg mb h₀) (hk : cs.kind = .function) (hd : dp + d < recursionLimit) (hu : un + 8 * d < cLine)
    (h : ∀ t h' tk', Fr h₀ L h' m → News h₀ L h' news → Q (R t) { s with heap := h', toks := tk' }) : wpAny (model theProg w) (ktrTop dp un gd cn cs L a ccd cl outer) (call (.ref f) [.int x tx, .int y ty]) Q E s := by
  subst ex ey
  exact key news loose mean mg mb dp un gd cn cs a ccd cl outer A₀ base h₀ L m s Q E (fun _ _ e => F.keep _ _ (hle _ _ e)) B F X N T hk hd hu h
theorem use_inn3 {w : World} {H : Heap} {f : Addr} {d : Nat} {x x' y y' : Int} {tx ty : Tok} {R : Tok → Value} {news : List (Addr × Obj)} {loose : List Str} {mean : ExcName → Option Value} {mg mb : Str → Option Value} {dp un : Nat} {gd : Option (List Code)} {cn : Str} {cs : Scope} {a : Addr} {ccd : Value} {cl : List (Str × Addr)} {outer : List Env} {A₀ : Around} {base h₀ : Heap} {L : Addr} {m : Str → Option Value} {s : Shared} {Q E : Value → Shared → Prop}
    (key : InnC w H f d [.int x' tx, .int y' ty] R) (hle : ∀ b o, H.get? b = some o → s.heap.get? b = some o) (ex : x = x') (ey : y = y') (B : Below A₀ base outer h₀) (F : Fr h₀ L s.heap m) (X : (hdC.heap_39 w.params).In h₀) (N : News h₀ L s.heap news) (T : Top topProg loose mean mg mb h₀) (hk : cs.kind = .function) (hd : dp + d < recursionLimit) (hu : un + 8 * d < cLine)
    (h : ∀ t h' tk', Fr h₀ L h' m → News h₀ L h' news → Q (R t) { s with heap := h', toks := tk' }) : wpAny (model theProg w) (ktrTop dp un gd cn cs L a ccd cl outer) (call (.ref f) [.int x tx, .int y ty]) Q E s := by
  subst ex ey
  exact key news loose mean mg mb dp un gd cn cs a ccd cl outer A₀ base h₀ L m s Q E hle B F X N T hk hd hu h
theorem mid_eq (i k : Nat) : ((i : Int) + ((i + k : Nat) : Int)).fdiv (2 ^ Int.toNat 1) = ((i + k / 2 : Nat) : Int) := by
  have : (2 : Int) ^ Int.toNat 1 = 2 := by decide
  rw [this, Int.fdiv_eq_ediv_of_nonneg _ (by decide)]
  omega
def d2i (n : Nat) : List Int → Int
  | [] => 0
  | x :: r => x + 2 ^ n * d2i n r
abbrev tabD (c : Addr) : Obj := tabObj #[rawInt 73, rawInt 4, .ref c]
theorem news_code {h₀ h h' : Heap} {L L' c : Addr} {oc : Obj} {m : Str → Option Value} {l : List (Addr × Obj)} (F : Fr h₀ L h m) (hc : h'.get? c = some oc) (hs : h.objs.size ≤ L') (hL : L' < c) (N : News h₀ L h' l) : News h₀ L h' ((c, oc) :: l) := by
  have h1 : L < c := Nat.lt_trans (Nat.lt_of_lt_of_le F.ns.lt hs) hL
  intro q hq
  rcases List.mem_cons.mp hq with rfl | hq
  · exact ⟨hc, Nat.ne_of_gt h1, Heap.get?_none_of_le (Nat.le_trans F.above (Nat.le_of_lt h1))⟩
  · exact N q hq
theorem d2i_append (n : Nat) : ∀ (a b : List Int), d2i n (a ++ b) = d2i n a + 2 ^ (a.length * n) * d2i n b
  | [], b => by simp [d2i]
  | x :: r, b => by
    show x + 2 ^ n * d2i n (r ++ b) = x + 2 ^ n * d2i n r + 2 ^ ((r.length + 1) * n) * d2i n b
    rw [d2i_append n r b, Int.mul_add, Nat.add_mul, Nat.one_mul, Nat.add_comm (r.length * n) n, Int.pow_add]
    grind
theorem d2i_split (n i k j : Nat) (ns : List Int) (hj : j ≤ k) (h : i + k ≤ ns.length) :
    d2i n ((ns.drop (i + j)).take (k - j)) * 2 ^ (j * n) + d2i n ((ns.drop i).take j) = d2i n ((ns.drop i).take k) := by
  have e : (ns.drop i).take k = (ns.drop i).take j ++ (ns.drop (i + j)).take (k - j) := by
    have : k = j + (k - j) := by omega
    rw [this, List.take_add, List.drop_drop]
    congr 2
    omega
  have hl : ((ns.drop i).take j).length = j := by rw [List.length_take, List.length_drop]; omega
  rw [e, d2i_append, hl]
  grind
theorem d2i_abs (n : Nat) : ∀ (l : List Int), (∀ x ∈ l, x.natAbs < 2 ^ 64) → (d2i n l).natAbs < 2 ^ (64 + (n + 1) * l.length)
  | [], _ => by simp [d2i]
  | x :: r, h => by
    have h1 := h x (.head _)
    have h2 := d2i_abs n r fun y hy => h y (.tail _ hy)
    show (x + 2 ^ n * d2i n r).natAbs < 2 ^ (64 + (n + 1) * (r.length + 1))
    have h3 : (x + 2 ^ n * d2i n r).natAbs ≤ x.natAbs + 2 ^ n * (d2i n r).natAbs := by
      refine Nat.le_trans (Int.natAbs_add_le _ _) ?_
      rw [Int.natAbs_mul, Int.natAbs_pow]
      exact Nat.le_refl _
    have h4 : 2 ^ n * (d2i n r).natAbs + 2 ^ n ≤ 2 ^ (n + (64 + (n + 1) * r.length)) := by
      rw [Nat.pow_add, ← Nat.mul_succ]
      exact Nat.mul_le_mul_left _ h2
    have h5 : (2 : Nat) ^ 64 ≤ 2 ^ (n + (64 + (n + 1) * r.length)) := Nat.pow_le_pow_right (by decide) (by omega)
    have h6 : 64 + (n + 1) * (r.length + 1) = (n + (64 + (n + 1) * r.length)) + 1 := by rw [Nat.mul_succ]; omega
    rw [h6, Nat.pow_succ]
    have h7 : 0 < 2 ^ n := Nat.pow_pos (by decide)
    omega
theorem d2i_bits {n : Nat} {l : List Int} (h : ∀ x ∈ l, x.natAbs < 2 ^ 64) (hn : n ≤ 64) (hl : l.length ≤ 64) : Builtin.Int.intBits (d2i n l) ≤ 4300 := by
  refine intBits_le_iff (m := 4300).mpr (Nat.lt_of_lt_of_le (d2i_abs n l h) (Nat.pow_le_pow_right (by decide) ?_))
  have : (n + 1) * l.length ≤ 65 * 64 := Nat.mul_le_mul (by omega) hl
  omega
theorem d2i_sz {n i k j : Nat} {ns : List Int} (h : ∀ x ∈ ns, x.natAbs < 2 ^ 64) (hn : n ≤ 64) (hl : ns.length ≤ 64) (hj : j ≤ 64) : ((Builtin.Int.intBits (d2i n ((ns.drop i).take k)) : Nat) : Int) + ((j * n : Nat) : Int) ≤ 2 ^ 27 := by
  have h1 : Builtin.Int.intBits (d2i n ((ns.drop i).take k)) ≤ 4300 := d2i_bits (fun x hx => h x (List.mem_of_mem_drop (List.mem_of_mem_take hx))) hn (by rw [List.length_take, List.length_drop]; omega)
  have h2 : j * n ≤ 64 * 64 := Nat.mul_le_mul hj hn
  omega
theorem shift_eq (i k n : Nat) : (((i : Int) + ((i + k : Nat) : Int)).fdiv (2 ^ Int.toNat 1) - (i : Int)) * (n : Int) = ((k / 2 * n : Nat) : Int) := by
  rw [mid_eq, Int.natCast_mul]
  congr 1
  omega
theorem lshift_nat {prog : Program} {w : World} {A : Around} {E : Value → Shared → Prop} {s : Shared} {a n : Int} {t u : Tok} {k : Nat} {Q : Value → Shared → Prop} (e : n = (k : Int)) (hsz : (Builtin.Int.intBits a : Int) + (k : Int) ≤ 2 ^ 27) (h : Q (.int (a * 2 ^ k) s.toks) { s with toks := s.toks + 1 }) : wpAny (model prog w) A (binaryOp .LShift (.int a t) (.int n u)) Q E s := by
  subst e
  exact lshift_int (Int.natCast_nonneg _) hsz (by simpa using h)
theorem d2i_one {n i : Nat} {ns : List Int} (h : i < ns.length) : ns.getD (i : Int).toNat 0 = d2i n ((ns.drop i).take 1) := by
  have e : (ns.drop i).take 1 = [ns[i]] := by rw [List.drop_eq_getElem_cons h]; rfl
  rw [e]
  simp [d2i, List.getD_eq_getElem?_getD, h]
/-- the first def that a def's body makes -/
def innerOf : Option Obj → Option (Arguments × List Stmt × Scope)
  | some ⟨_, _, .func fd, _⟩ => match fd.body with
    | .stmts b => b.findSome? fun st => match st with
      | .FunctionDef _ p b _ _ _ sc _ _ _ => some (p, b, sc)
      | _ => none
    | _ => none
  | _ => none
theorem inner_is {r : Option Obj} {o : Obj} {x : Arguments × List Stmt × Scope} (h : r = some o) (hx : innerOf (some o) = some x) : innerOf r = some x := h ▸ hx
theorem inner_use {G : Prop} {r : Option Obj} {o : Obj} {p p' : Arguments} {b b' : List Stmt} {c c' : Scope} (hIn : innerOf r = some (p, b, c)) (h : r = some o) (hx : innerOf (some o) = some (p', b', c')) (k : p = p' → b = b' → c = c' → G) : G := by
  have e := hIn.symm.trans (inner_is h hx)
  simp only [Option.some.injEq, Prod.mk.injEq] at e
  exact k e.1 e.2.1 e.2.2
end Mine
end
section
open PySem PySem.Spec PySem.Calls PySem.W PyProof.Rows
set_option linter.unusedVariables false
set_option maxRecDepth 100000
namespace Mine
section
variable {prog : Program} {w : World} {A₀ A : Around} {s : Shared} {base h₀ : Heap} {outer : List Env} {L P : Addr} {o₀ : Obj} {m mg mb : Str → Option Value} {env : Env} {news : List (Addr × Obj)} {g : Obj → List (Addr × Obj)} {K : Frag} {p : Program} {loose : List Str} {mean : ExcName → Option Value}
  {R : Result → Shared → Prop} {name qual : Str} {params : Arguments} {body : List Stmt} {scope : Scope} {cl : List (Str × Addr)} {dV kV doc pm cdv ct oc : Value} {an od : Option Addr} {osl : Array (Option Value)} {f : Addr} {fo : Obj} {args : Args} {binds : List (Str × Value)}
/-- a closure entered: all that stood is old but the one object at P -/
theorem code_defU (B : Below A₀ base outer h₀) (F : Fr h₀ L s.heap m) (X₀ : K.In h₀) (N : News h₀ L s.heap news) (T : Top p loose mean mg mb h₀) (U : UpdF P o₀ news g) (hA : A.frames = some (env :: outer)) (hf : env.frame = some L) (hke : env.scope.kind = .function)
    (ho : s.heap.get? f = some fo) (hd : fo.data = .func (fnX name qual params body scope cl dV kV doc pm an cdv ct)) (hcd : s.heap.CodeRec cdv qual) (hroom : A.depth < recursionLimit)
    (hbind : BindsTo s (fnX name qual params body scope cl dV kV doc pm an cdv ct) args binds) (hloc : ∀ y ∈ binds, scope.names.lookup y.1 = some .local)
    (h : ∀ G L' h₁, Fr G L' h₁ (fun y => binds.reverse.lookup y) → News G L' h₁ [(P, o₀)] → Below A base (env :: outer) G → K.In G → Top p loose mean mg mb G → h₀.StaysIn G → (∀ b o, b ≠ P → s.heap.get? b = some o → G.get? b = some o) → s.heap.objs.size ≤ L' →
      wpAny (model prog w) (A.deeper (envX qual scope L' f cdv cl)) (execs body (envX qual scope L' f cdv cl))
        (fun fl s' => LeaveK h₀ L m G (BackU h₀ L P g R) (match fl with | .ret v => v | _ => .none) s')
        (fun e s' => wpAny (model prog w) (A.deeper (envX qual scope L' f cdv cl)) (leaving (envX qual scope L' f cdv cl) e) (fun _ s'' => R (.error e) s'') (fun e' s'' => R (.error e') s'') s')
        { s with heap := h₁, toks := s.toks + binds.length })
    (hcell : ∀ x ∈ scope.names, x.2 ≠ .cell) (hco : scope.isCoroutine = false) (hgen : scope.isGenerator = false) (hk : scope.kind = .function) : codeAny (model prog w) A (.call (.ref f) args) R s := by
  obtain ⟨FG, BG, st, hP, lv⟩ := groundU (R := R) B F N U hA hf hke
  obtain ⟨own, rest, rfl, hg, h1, h2⟩ := U.split
  have hm := N (P, o₀) (List.mem_append_right _ (.head _))
  refine codeAny_call_def (fd := fnX name qual params body scope cl dV kV doc pm an cdv ct) (body := body) (binds := binds) hroom ho hd (T.nolimit.keeps F.keep) hcd rfl hbind hcell hloc (fun h₁ hns hk₁ => ?_) hco hgen hk
  exact wpAny_mono (h _ s.heap.objs.size h₁ ⟨hns, fun b o e => hk₁ b o (of_hideAll _ e), Nat.le_of_eq (hideAll_size _ _)⟩
    (fun q hq => by
      have e : q = (P, o₀) := by cases hq with | head => rfl | tail _ h => cases h
      subst e
      exact ⟨hk₁ _ _ hm.1, Nat.ne_of_lt (Heap.lt_size hm.1), hideAll_none _ (.head _)⟩) BG (X₀.keeps st) (T.keeps st) st (fun b o hb e => hideAll_get _ e (by simpa using hb)) (Nat.le_refl _)) (fun fl s' hl => lv _ _ hl) fun _ _ y => y
theorem upd_at (N : News h₀ L s.heap news) (U : UpdF P o₀ news g) : s.heap.get? P = some o₀ := by
  obtain ⟨own, rest, rfl, _, _, _⟩ := U.split
  exact (N (P, o₀) (List.mem_append_right _ (.head _))).1
/-- `[x] * k` -/
theorem mul_one {x : Int} {k : Nat} {t u : Tok} {l : Addr} {Q : Value → Shared → Prop} {E : Value → Shared → Prop} {y : Int} (Fm : Fr h₀ L s.heap m) (N : News h₀ L s.heap news) (hl : s.heap.IsList l #[.int y t]) (ex : x = (k : Int)) (hk : k ≤ 1000)
    (h : ∀ D h' vs, Fr h₀ L h' m → News h₀ L h' ((D, listOf vs.toArray 0) :: news) → (∀ p ∈ news, p.1 < D) → IntsAre vs (List.replicate k y) → vs.toArray.size = k → Q (.ref D) { s with heap := h' }) : wpAny (model prog w) A (binaryOp .Mult (.ref l) (.int x u)) Q E s := by
  subst ex
  have hi : IntsAre [.int y t] [y] := .cons _ _ .nil
  refine KM.mul (vs := [.int y t]) (ns := [y]) Fm N hl hi (by omega) (by omega) (by simp; omega) fun D h' F' N' l1 hi' n hs hn _ _ => ?_
  have e : (List.replicate k [y]).flatten = List.replicate k y := krep_flat y k
  have e2 : ((k : Int)).toNat = k := by simp
  rw [e2] at hi' N' hs
  rw [e] at hi'
  refine h D h' _ F' N' l1 hi' ?_
  rw [List.size_toArray, hi'.length, List.length_replicate]
end
/-- contract of a closure that stands in H and changes the list at l -/
abbrev InnM (w : World) (H : Heap) (f l : Addr) (d : Nat) (args : List Value) (ns ns' : List Int) : Prop :=
  ∀ (vs : List Value) (news : List (Addr × Obj)) (g : Obj → List (Addr × Obj)) (loose : List Str) (mean : ExcName → Option Value) (mg mb : Str → Option Value) (dp un : Nat) (gd : Option (List Code)) (cn : Str) (cs : Scope) (a : Addr) (ccd : Value) (cl : List (Str × Addr)) (outer : List Env) (A₀ : Around) (base h₀ : Heap) (L : Addr) (m : Str → Option Value) (s : Shared) (Q E : Value → Shared → Prop),
    IntsAre vs ns → (∀ b o, b ≠ l → H.get? b = some o → s.heap.get? b = some o) → UpdF l (listOf vs.toArray 0) news g → Below A₀ base outer h₀ → Fr h₀ L s.heap m → (hdC.heap_39 w.params).In h₀ → News h₀ L s.heap news → Top topProg loose mean mg mb h₀ → cs.kind = .function →
    dp + d < recursionLimit → un + 8 * d < cLine →
    (∀ vs' h' tk', IntsAre vs' ns' → Fr h₀ L h' m → News h₀ L h' (g (listOf vs'.toArray 0)) → Q .none { s with heap := h', toks := tk' }) →
    wpAny (model theProg w) (ktrTop dp un gd cn cs L a ccd cl outer) (call (.ref f) args) Q E s
theorem use_innM {w : World} {H : Heap} {f l : Addr} {d : Nat} {z z' x x' y y' : Int} {tz tx ty : Tok} {ns ns' : List Int} {vs : List Value} {news : List (Addr × Obj)} {g : Obj → List (Addr × Obj)} {loose : List Str} {mean : ExcName → Option Value} {mg mb : Str → Option Value} {dp un : Nat} {gd : Option (List Code)} {cn : Str} {cs : Scope} {a : Addr} {ccd : Value} {cl : List (Str × Addr)} {outer : List Env} {A₀ : Around} {base h₀ : Heap} {L : Addr} {m : Str → Option Value} {s : Shared} {Q E : Value → Shared → Prop}
    (key : InnM w H f l d [.int z' tz, .int x' tx, .int y' ty] ns ns') (ez : z = z') (ex : x = x') (ey : y = y') (hi : IntsAre vs ns) (hle : ∀ b o, b ≠ l → H.get? b = some o → s.heap.get? b = some o) (U : UpdF l (listOf vs.toArray 0) news g) (B : Below A₀ base outer h₀) (F : Fr h₀ L s.heap m) (X : (hdC.heap_39 w.params).In h₀) (N : News h₀ L s.heap news) (T : Top topProg loose mean mg mb h₀) (hk : cs.kind = .function) (hd : dp + d < recursionLimit) (hu : un + 8 * d < cLine)
    (h : ∀ vs' h' tk', IntsAre vs' ns' → Fr h₀ L h' m → News h₀ L h' (g (listOf vs'.toArray 0)) → Q .none { s with heap := h', toks := tk' }) : wpAny (model theProg w) (ktrTop dp un gd cn cs L a ccd cl outer) (call (.ref f) [.int z tz, .int x tx, .int y ty]) Q E s := by
  subst ez ex ey
  exact key vs news g loose mean mg mb dp un gd cn cs a ccd cl outer A₀ base h₀ L m s Q E hi hle U B F X N T hk hd hu h
/-- digits, the low first -/
def digs (n : Nat) : Nat → Nat → List Int
  | 0, _ => []
  | k + 1, x => ((x % 2 ^ n : Nat) : Int) :: digs n k (x / 2 ^ n)
theorem digs_len (n : Nat) : ∀ (k x : Nat), (digs n k x).length = k
  | 0, _ => rfl
  | k + 1, x => by rw [digs, List.length_cons, digs_len n k]
theorem digs_split (n : Nat) : ∀ (j k x : Nat), digs n (j + k) x = digs n j (x % 2 ^ (j * n)) ++ digs n k (x / 2 ^ (j * n))
  | 0, k, x => by simp [digs]
  | j + 1, k, x => by
    rw [show j + 1 + k = (j + k) + 1 by omega, digs, digs, digs_split n j k, List.cons_append]
    have e : (j + 1) * n = n + j * n := by rw [Nat.add_mul, Nat.one_mul, Nat.add_comm]
    congr 1
    · rw [e, Nat.pow_add, Nat.mod_mul_right_mod]
    · rw [e, Nat.pow_add, Nat.div_div_eq_div_mul, Nat.mod_mul_right_div_self]
theorem digs_d2i (n : Nat) : ∀ (k x : Nat), x < 2 ^ (k * n) → d2i n (digs n k x) = (x : Int)
  | 0, x, h => by simp at h; subst h; rfl
  | k + 1, x, h => by
    rw [digs, d2i, digs_d2i n k]
    · have := Nat.mod_add_div x (2 ^ n)
      have h2 : ((x % 2 ^ n : Nat) : Int) + ((2 ^ n * (x / 2 ^ n) : Nat) : Int) = (x : Int) := by rw [← Int.natCast_add, this]
      rw [Int.natCast_mul, Int.natCast_pow] at h2
      exact h2
    · rw [Nat.add_mul, Nat.one_mul, Nat.pow_add] at h
      exact Nat.div_lt_of_lt_mul (by rw [Nat.mul_comm]; exact h)
theorem and_shift (x s : Nat) : x &&& (x / 2 ^ s * 2 ^ s) = x / 2 ^ s * 2 ^ s := by
  apply Nat.eq_of_testBit_eq
  intro i
  rw [Nat.testBit_and, Nat.mul_comm, Nat.testBit_two_pow_mul, Nat.testBit_div_two_pow]
  by_cases h : s ≤ i
  · simp [h]
  · simp [h]
theorem xor_shift (x s : Nat) : Builtin.bitXor (x : Int) ((x / 2 ^ s * 2 ^ s : Nat) : Int) = ((x % 2 ^ s : Nat) : Int) := by
  rw [bitXor_and]
  have h1 : Builtin.bitAnd (x : Int) ((x / 2 ^ s * 2 ^ s : Nat) : Int) = ((x / 2 ^ s * 2 ^ s : Nat) : Int) := by
    unfold Builtin.bitAnd
    rw [decide_eq_true (Int.natCast_nonneg x), decide_eq_true (Int.natCast_nonneg _)]
    show (((x : Int).toNat &&& ((x / 2 ^ s * 2 ^ s : Nat) : Int).toNat : Nat) : Int) = _
    rw [Int.toNat_natCast, Int.toNat_natCast, and_shift]
  rw [h1]
  have := Nat.div_add_mod' x (2 ^ s)
  omega
theorem rshift_nat {prog : Program} {w : World} {A : Around} {E : Value → Shared → Prop} {s : Shared} {n : Int} {x k : Nat} {t u : Tok} {Q : Value → Shared → Prop} (e : n = (k : Int)) (h : Q (.int ((x / 2 ^ k : Nat) : Int) s.toks) { s with toks := s.toks + 1 }) : wpAny (model prog w) A (binaryOp .RShift (.int (x : Int) t) (.int n u)) Q E s := by
  subst e
  refine rshift_int (Int.natCast_nonneg _) ?_
  have : ((x : Int)).fdiv (2 ^ (k : Int).toNat) = ((x / 2 ^ k : Nat) : Int) := by
    rw [Int.toNat_natCast, Int.fdiv_eq_ediv_of_nonneg _ (Int.le_of_lt (Int.pow_pos (by decide)))]
    norm_cast
  rw [this]
  exact h
theorem lshift_nn {prog : Program} {w : World} {A : Around} {E : Value → Shared → Prop} {s : Shared} {n : Int} {x k : Nat} {t u : Tok} {Q : Value → Shared → Prop} (e : n = (k : Int)) (hsz : (Builtin.Int.intBits (x : Int) : Int) + (k : Int) ≤ 2 ^ 27) (h : Q (.int ((x * 2 ^ k : Nat) : Int) s.toks) { s with toks := s.toks + 1 }) : wpAny (model prog w) A (binaryOp .LShift (.int (x : Int) t) (.int n u)) Q E s := by
  refine lshift_nat e hsz ?_
  have : ((x : Int)) * 2 ^ k = ((x * 2 ^ k : Nat) : Int) := by norm_cast
  rw [this]
  exact h
theorem xor_nat {prog : Program} {w : World} {A : Around} {E : Value → Shared → Prop} {s : Shared} {x k : Nat} {t u : Tok} {Q : Value → Shared → Prop} (h : Q (.int ((x % 2 ^ k : Nat) : Int) s.toks) { s with toks := s.toks + 1 }) : wpAny (model prog w) A (binaryOp .BitXor (.int (x : Int) t) (.int ((x / 2 ^ k * 2 ^ k : Nat) : Int) u)) Q E s := by
  refine xor_int ?_
  rw [xor_shift]
  exact h
theorem codeRec_ne {H h : Heap} {c P : Addr} {q : Str} (hcr : H.CodeRec (.ref c) q) (hne : c ≠ P) (hle : ∀ b o, b ≠ P → H.get? b = some o → h.get? b = some o) : h.CodeRec (.ref c) q := by
  obtain ⟨c₂, oc, vs, t, e2, hoc, hd, hv⟩ := hcr
  cases e2
  exact ⟨c, oc, vs, t, rfl, hle _ _ hne hoc, hd, hv⟩
theorem digs_one {n x i : Nat} {ns : List Int} (hx : x < 2 ^ (1 * n)) (hi : i < ns.length) : ns.set (i : Int).toNat (x : Int) = ns.take i ++ digs n 1 x ++ ns.drop (i + 1) := by
  rw [Nat.one_mul] at hx
  rw [Int.toNat_natCast, digs, digs, Nat.mod_eq_of_lt hx, List.set_eq_take_append_cons_drop, if_pos hi]
  simp
theorem digs_two {n x i k j : Nat} {ns : List Int} (hj : j ≤ k) (hi : i + k ≤ ns.length) :
    (ns.take i ++ digs n j (x % 2 ^ (j * n)) ++ ns.drop (i + j)).take (i + j) ++ digs n (k - j) (x / 2 ^ (j * n)) ++ (ns.take i ++ digs n j (x % 2 ^ (j * n)) ++ ns.drop (i + j)).drop (i + j + (k - j)) = ns.take i ++ digs n k x ++ ns.drop (i + k) := by
  have l1 : (ns.take i ++ digs n j (x % 2 ^ (j * n))).length = i + j := by rw [List.length_append, digs_len, List.length_take, Nat.min_eq_left (by omega)]
  have e : digs n k x = digs n j (x % 2 ^ (j * n)) ++ digs n (k - j) (x / 2 ^ (j * n)) := by
    have := digs_split n j (k - j) x
    rwa [Nat.add_sub_cancel' hj] at this
  rw [List.take_left' l1, List.drop_append, List.drop_of_length_le (l := ns.take i ++ digs n j (x % 2 ^ (j * n))) (by omega), l1, List.drop_drop, e]
  have e3 : i + j + (i + j + (k - j) - (i + j)) = i + k := by omega
  rw [e3]
  simp
theorem digs_len2 {n x i k j : Nat} {ns : List Int} (hj : j ≤ k) (hi : i + k ≤ ns.length) : (ns.take i ++ digs n j x ++ ns.drop (i + j)).length = ns.length := by
  rw [List.length_append, List.length_append, digs_len, List.length_take, List.length_drop]
  omega
theorem digs_lt1 {n x j : Nat} : x % 2 ^ (j * n) < 2 ^ (j * n) := Nat.mod_lt _ (Nat.pow_pos (by decide))
theorem digs_lt2 {n x k j : Nat} (hj : j ≤ k) (h : x < 2 ^ (k * n)) : x / 2 ^ (j * n) < 2 ^ ((k - j) * n) := by
  refine Nat.div_lt_of_lt_mul ?_
  rw [← Nat.pow_add, ← Nat.add_mul, Nat.add_sub_cancel' hj]
  exact h
theorem digs_sz {n x k j : Nat} (h : x < 2 ^ (k * n)) (hk : k ≤ 60) (hn : n ≤ 64) (hj : j ≤ k) : ((Builtin.Int.intBits ((x / 2 ^ (j * n) : Nat) : Int) : Nat) : Int) + ((j * n : Nat) : Int) ≤ 2 ^ 27 := by
  have h1 : Builtin.Int.intBits ((x / 2 ^ (j * n) : Nat) : Int) ≤ k * n := by
    refine intBits_le_iff.mpr ?_
    rw [Int.natAbs_natCast]
    exact Nat.lt_of_le_of_lt (Nat.div_le_self _ _) h
  have h2 : k * n ≤ 60 * 64 := Nat.mul_le_mul hk hn
  have h3 : j * n ≤ 60 * 64 := Nat.mul_le_mul (by omega) hn
  omega
theorem codeRec_fresh {H : Heap} {c D : Addr} {q : Str} (hcr : H.CodeRec (.ref c) q) (h : H.get? D = none) : c ≠ D := by
  obtain ⟨c₂, oc, vs, t, e2, hoc, hd, hv⟩ := hcr
  cases e2
  intro e
  rw [e, h] at hoc
  cases hoc
theorem news_push {h₀ h h' : Heap} {L D : Addr} {o : Obj} {m : Str → Option Value} {l : List (Addr × Obj)} (F : Fr h₀ L h m) (hc : h'.get? D = some o) (hD : h.get? D = none) (hL : h.get? L ≠ none) (N : News h₀ L h' l) : News h₀ L h' ((D, o) :: l) := by
  intro q hq
  rcases List.mem_cons.mp hq with rfl | hq
  · refine ⟨hc, fun e => hL (e ▸ hD), ?_⟩
    cases e : h₀.get? D with
    | none => rfl
    | some o' => rw [F.keep _ _ e] at hD; cases hD
  · exact N q hq
theorem fr_some {h₀ h : Heap} {L : Addr} {m : Str → Option Value} (F : Fr h₀ L h m) : h.get? L ≠ none := by
  obtain ⟨oL, _, _, hL, _⟩ := F.ns
  rw [hL]
  exact fun e => nomatch e
abbrev tabI (c : Addr) : Obj := tabObj #[rawInt 58, rawInt 4, .ref c]
end Mine
end
section
open PySem PySem.Spec PySem.Calls PySem.W PyProof.Rows
set_option maxRecDepth 100000
set_option maxHeartbeats 8000000
set_option linter.unusedVariables false
namespace Mine
local macro_rules | `(tactic| walk_at "my_enter") => `(tactic| (k_whole; intro L' h' tk' cells' F' N' Y' B' X' T'; k_cells Y'; (try simp only [List.cons_append, List.nil_append] at N'); (try dsimp only); (try k_lift B'); (try k_fold)))
local macro_rules | `(tactic| walk_at "my_enterU") => `(tactic| (k_whole; intro G' L' h' tk' cells' F' N' Y' B' X' T' st' old' lt' ltP' sz'; k_lt2 ltP'; k_cells Y'; (try simp only [List.cons_append, List.nil_append] at N'); (try dsimp only); (try k_fold)))
local macro_rules | `(tactic| walk_at "eval Name") => `(tactic| (k_here; k_dflt (refine nameX_O (by k_asm) (by rfl) (by assumption) (by assumption) ?_ (by rfl) (by rfl); k_whole)))
local macro_rules | `(tactic| walk_at "callWith ref") => `(tactic| (k_here; k_dflt (refine' callWith_F ?k1 ?_; (case k1 => refine FnAt.old (by k_asm) (by assumption)); k_whole)))
local macro_rules | `(tactic| walk_at "FnAt") => `(tactic| (k_dflt (exact FnAt.old (by k_asm) (by assumption))))
local macro_rules | `(tactic| walk_at "binaryOp LShift int int") => `(tactic| (k_here; (refine' lshift_nat ?e ?sz ?_); (case e => exact shift_eq _ _ _); (case sz => refine d2i_sz ?_ ?_ ?_ ?_ <;> first | assumption | omega); k_whole))
/-- the inner def's recursion, wherever its function and its cells stand -/
theorem d2i_key (w : World) {params : Arguments} {body : List Stmt} {scope : Scope} {nm qual : Str} {l c1 L1 f1 : Addr} {ws : List Value} {ns : List Int} {n : Nat} {t1 : Tok} {doc pm ct : Value} {h2 : Heap} {oA oB oC : Obj}
    (hIn : innerOf ((hdC.heap_39 w.params).lookup 78) = some (params, body, scope)) (hI : IntsAre ws ns) (hn : 0 < n) (hn2 : n ≤ 64) (hb : ∀ x ∈ ns, x.natAbs < 2 ^ 64) (hlen : 0 < ns.length ∧ ns.length ≤ 64)
    (hf : h2.get? f1 = some (fnMade nm qual params body scope [(Str.ofString "n", L1 + 1 + 1), (Str.ofString "inner", L1 + 1 + 1 + 1), (Str.ofString "digits", L1 + 1)] doc pm c1 ct)) (hcr : h2.CodeRec (.ref c1) qual)
    (kA : h2.get? (L1 + 1 + 1 + 1) = some oA) (kB : h2.get? (L1 + 1 + 1) = some oB) (kC : h2.get? (L1 + 1) = some oC) (dA : oA.data = .cell (some (.ref f1))) (dB : oB.data = .cell (some (.int (n : Int) t1))) (dC : oC.data = .cell (some (.ref l))) (hl2 : h2.IsList l ws.toArray) :
    ∀ k i, 0 < k → i + k ≤ ns.length → ∀ tL tR, InnC w h2 f1 (k+1) [.int (i:Int) tL, .int ((i + k : Nat) : Int) tR] (fun t => .int (d2i n ((ns.drop i).take k)) t) := by
  w_top off
  delta InnC theProg
  revert hIn
  k_fill
  intro hIn
  refine' inner_use hIn ?zh ?zr ?_
  (case zh => k_is)
  (case zr => exact rfl)
  intro e1 e2 e3
  subst e1 e2 e3
  clear hIn
  intro k
  induction k using Nat.strongRecOn with
  | ind k ih =>
  intro i hk0 hik tL tR news loose mean mg mb dp un gd cn cs a ccd cl outer A₀ base h₀ L m s Q E hle B F X N T hk hd hu hret
  refine wpAny_call ?_
  have hl3 := hle _ _ kA
  have kA := hle _ _ kA
  have kB := hle _ _ kB
  have kC := hle _ _ kC
  have hf' := hle _ _ hf
  have hl3 : s.heap.IsList l ws.toArray := stays_list hle hl2
  refine' code_def0 B F X N T rfl rfl hk hf' rfl (hcr.keeps hle) ?room (BindsTo.of_eq rfl) (locs rfl) ?go ?c2 ?c3 ?c4 ?c5
  (case c2 => decide)
  (case c3 => exact rfl)
  (case c4 => exact rfl)
  (case c5 => exact rfl)
  (case room => ktr_room)
  k_whole
  intro L' h' F' N' B' X' T'
  try dsimp only
  try k_fold
  k_steps
  · intro hN
    refine' cb_retI (Q := Q) hret ?e ?F hN
    (case F => k_asm)
    (case e =>
      have hk1 : k = 1 := hf_one (i := i) (by assumption)
      subst hk1
      exact d2i_one (by omega))
  · refine' use_inn2 (ih (k - k / 2) (hf_rlt (i := i) hk0 (by assumption)) (i + k / 2) (hf_rpos hk0) (hf_rle hik) _ _) (by assumption) ?ex ?ey ?k1 ?k2 ?k3 ?k4 ?k5 ?kK ?kd ?ku ?_
    (case ex => exact mid_eq i k)
    (case ey => rw [hf_sum])
    (case k1 => k_asm)
    (case k2 => k_asm)
    (case k3 => k_asm)
    (case k4 => k_asm)
    (case k5 => k_asm)
    (case kK => first | exact rfl | assumption)
    (case kd => exact hf_room (hf_rlt (i := i) hk0 (by assumption)) hd)
    (case ku => exact hf_unit (hf_rlt (i := i) hk0 (by assumption)) hu)
    intro t9 h9 tk9 F9 N9
    try dsimp only
    try k_fold
    k_steps
    refine' use_inn2 (ih (k / 2) (hf_lt hk0) i (hf_pos (i := i) hk0 (by assumption)) (hf_le hik) _ _) (by assumption) ?ex ?ey ?k1 ?k2 ?k3 ?k4 ?k5 ?kK ?kd ?ku ?_
    (case ex => rfl)
    (case ey => exact mid_eq i k)
    (case k1 => k_asm)
    (case k2 => k_asm)
    (case k3 => k_asm)
    (case k4 => k_asm)
    (case k5 => k_asm)
    (case kK => first | exact rfl | assumption)
    (case kd => exact hf_room (hf_lt hk0) hd)
    (case ku => exact hf_unit (hf_lt hk0) hu)
    intro t10 h10 tk10 F10 N10
    try dsimp only
    try k_fold
    k_steps
    intro hN
    refine' cb_retI (Q := Q) hret ?e ?F hN
    (case F => k_asm)
    (case e => exact d2i_split n i k (k / 2) ns (by omega) (by omega))
theorem c_d2i0 (w : World) (news : List (Addr × Obj)) (g) (l : Addr) (ws : List Value) (ns : List Int) (hI : IntsAre ws ns) (n : Nat) (t1 : Tok) (hn : 0 < n) (hn2 : n ≤ 64) (hb : ∀ x ∈ ns, x.natAbs < 2 ^ 64) (hlen : 0 < ns.length ∧ ns.length ≤ 64) :
  ∀ (loose : List Str) (mean : ExcName → Option Value) (mg mb : Str → Option Value) (dp un : Nat) (gd : Option (List Code)) (cn : Str) (cs : Scope) (a : Addr) (ccd : Value) (cl : List (Str × Addr)) (outer : List Env) (A₀ : Around) (base h₀ : Heap) (L : Addr) (m : Str → Option Value) (s : Shared) (Q E : Value → Shared → Prop),
    CodeHd h₀ 77 73 → s.heap.IsList l ws.toArray → UpdF 73 (tabObj #[]) news g → 
    Below A₀ base outer h₀ → Fr h₀ L s.heap m → (hdC.heap_39 w.params).In h₀ → News h₀ L s.heap news → Top topProg loose mean mg mb h₀ → cs.kind = .function →
    dp + 70 < recursionLimit → un + 600 < cLine →
    (∀ t h' tk' c' oc vs qt, Fr h₀ L h' m → News h₀ L h' ((c', oc) :: g (tabD c')) → oc.data = .fields vs → vs[1]? = some (.str "_digits2int.<locals>.inner" qt) → (∀ q ∈ news, q.1 < c') → Q (.int (d2i n ns) t) { s with heap := h', toks := tk' }) →
    wpAny (model theProg w) (ktrTop dp un gd cn cs L a ccd cl outer) (call (.ref 78) [.ref l, .int n t1]) Q E s := by
  delta theProg
  k_fill
  intro loose mean mg mb dp un gd cn cs a ccd cl outer A₀ base h₀ L m s Q E C hl U B F X N T hk hdp hun hret
  have hP : s.heap.get? 73 = some (tabObj #[]) := by
    obtain ⟨own, rest, rfl, _, _, _⟩ := U.split
    exact (N (73, tabObj #[]) (List.mem_append_right _ (.head _))).1
  refine wpAny_call ?_
  (refine' code_topUC ?en1k1 ?en1k2 ?en1k3 ?en1k4 ?en1k5 ?en1kU ?en1kA ?en1kF ?en1kK ?en1k6 ?en1k7 ?en1k8 ?en1k9 ?en1kB ?en1kD ?_ ?en1c2 ?en1c3 ?en1c4; (case en1kA => exact rfl); (case en1kF => exact rfl); (case en1kK => first | exact rfl | assumption); (case en1k1 => k_asm); (case en1k2 => k_asm); (case en1k3 => k_asm); (case en1k4 => k_asm); (case en1k5 => k_asm); (case en1kU => assumption); (case en1k6 => k_is); (case en1k7 => k_is); (case en1k8 => ktr_room); (case en1k9 => exact BindsTo.of_eq rfl); (case en1kB => exact rfl); (case en1kD => decide +kernel); (case en1c2 => exact rfl); (case en1c3 => exact rfl); (case en1c4 => exact rfl))
  walk_at "my_enterU"
  have hl' := list_old hl hP (by assumption)
  have C' := C.keeps (h' := _) (by assumption)
  k_steps
  rename_i G1 L1 h3 tk3 B1 X1 T1 st1 old1 lt1 sz1 ltP1 oA oB oC dA dB dC f1 c1 oc1 vs1 t1' ct1 dc1 h1 tk1 e1 e2 l1 l2 h2 o1 F1 N1 d1
  first
  | replace dA := cell_some dA rfl
  | skip
  first
  | replace dB := cell_some dB rfl
  | skip
  first
  | replace dC := cell_some dC rfl
  | skip
  have hf := (N1 _ (.head _)).1
  have hcr := codeRec_news N1 (.tail _ (.head _)) e1 e2
  have kA := (N1 _ (.tail _ (.tail _ (.head _)))).1
  have kB := (N1 _ (.tail _ (.tail _ (.tail _ (.head _))))).1
  have kC := (N1 _ (.tail _ (.tail _ (.tail _ (.tail _ (.head _)))))).1
  have hl2 := stays_list F1.keep hl'
  dsimp only at hf kA kB kC
  have key := d2i_key w (inner_is (by k_is) rfl) hI hn hn2 hb hlen hf hcr kA kB kC d1 dB dC hl2
  refine' use_inn3 (key ns.length 0 hlen.1 (by omega) _ _) (fun _ _ e => e) ?ex ?ey ?k1 ?k2 ?k3 ?k4 ?k5 ?kK ?kd ?ku ?_
  (case ex => rfl)
  (case ey => rw [Nat.zero_add])
  (case k1 => k_asm)
  (case k2 => k_asm)
  (case k3 => k_asm)
  (case k4 => k_asm)
  (case k5 => k_asm)
  (case kK => first | exact rfl | assumption)
  (case kd => ktr_room)
  (case ku => ktr_units)
  intro t10 h10 tk10 F10 N10
  try dsimp only
  try k_fold
  k_steps
  have q73 := (N10 _ (.tail _ (.tail _ (.tail _ (.tail _ (.tail _ (.head _))))))).1
  have qc := (N10 _ (.tail _ (.head _))).1
  dsimp only at q73 qc
  intro hN
  have hg := hN _ q73
  have e : (ns.drop 0).take ns.length = ns := by simp
  have e0 : d2i n ((ns.drop 0).take ns.length) = d2i n ns := congrArg (d2i n) e
  have hLc : L1 < c1 := by
    have := l1.2.2.1
    exact Nat.lt_of_le_of_lt (Nat.le_add_right _ _) this
  refine' cast (congrArg (fun z => Q (.int z t10) _) e0).symm (hret t10 h10 _ c1 oc1 vs1 t1' ?F (news_code F qc sz1 hLc hg) e1 e2 fun q hq => Nat.lt_trans (lt1 q hq) hLc)
  (case F => k_asm)
local macro_rules | `(tactic| walk_at "exec FunctionDef") => `(tactic| (k_here; refine Stop.intro ?_))
local macro_rules | `(tactic| walk_at "my_fdef") => `(tactic| (intro f' ct' dc' h' tk' F' N' l1; (try dsimp only at N'); (try k_lt l1)))
theorem c_d2i1 (w : World) (news : List (Addr × Obj)) (l : Addr) (ws : List Value) (ns : List Int) (hI : IntsAre ws ns) (n : Nat) (t1 : Tok) (hn : 0 < n) (hn2 : n ≤ 64) (hb : ∀ x ∈ ns, x.natAbs < 2 ^ 64) (hlen : 0 < ns.length ∧ ns.length ≤ 64) (cc : Addr) :
  ∀ (loose : List Str) (mean : ExcName → Option Value) (mg mb : Str → Option Value) (dp un : Nat) (gd : Option (List Code)) (cn : Str) (cs : Scope) (a : Addr) (ccd : Value) (cl : List (Str × Addr)) (outer : List Env) (A₀ : Around) (base h₀ : Heap) (L : Addr) (m : Str → Option Value) (s : Shared) (Q E : Value → Shared → Prop),
    CodeHd s.heap 77 73 → s.heap.IsList l ws.toArray → s.heap.get? 73 = some (tabD cc) → s.heap.CodeRec (.ref cc) "_digits2int.<locals>.inner" →
    Below A₀ base outer h₀ → Fr h₀ L s.heap m → (hdC.heap_39 w.params).In h₀ → News h₀ L s.heap news → Top topProg loose mean mg mb h₀ → cs.kind = .function →
    dp + 70 < recursionLimit → un + 600 < cLine →
    (∀ t h' tk', Fr h₀ L h' m → News h₀ L h' news → Q (.int (d2i n ns) t) { s with heap := h', toks := tk' }) →
    wpAny (model theProg w) (ktrTop dp un gd cn cs L a ccd cl outer) (call (.ref 78) [.ref l, .int n t1]) Q E s := by
  delta theProg
  k_fill
  intro loose mean mg mb dp un gd cn cs a ccd cl outer A₀ base h₀ L m s Q E C' hl' hP hcr B F X N T hk hdp hun hret
  refine wpAny_call ?_
  (refine' code_top0C ?en2k1 ?en2k2 ?en2k3 ?en2k4 ?en2k5 ?en2kA ?en2kF ?en2kK ?en2k6 ?en2k7 ?en2k8 ?en2k9 ?en2kB ?en2kD ?_ ?en2c2 ?en2c3 ?en2c4; (case en2kA => exact rfl); (case en2kF => exact rfl); (case en2kK => first | exact rfl | assumption); (case en2k1 => k_asm); (case en2k2 => k_asm); (case en2k3 => k_asm); (case en2k4 => k_asm); (case en2k5 => k_asm); (case en2k6 => k_is); (case en2k7 => k_is); (case en2k8 => ktr_room); (case en2k9 => exact BindsTo.of_eq rfl); (case en2kB => exact rfl); (case en2kD => decide +kernel); (case en2c2 => exact rfl); (case en2c3 => exact rfl); (case en2c4 => exact rfl))
  walk_at "my_enter"
  k_steps
  unfold Stop
  (k_dflt (refine' nestDef_K ?fdef5d0 ?fdef5k0 ?fdef5a0 ?_; (case fdef5d0 => exact rfl); (case fdef5k0 => exact rfl); (case fdef5a0 => exact rfl)); (k_dflt (refine' nestHit_0 ?fdef5F ?fdef5N ?fdef5T ?fdef5C ?fdef5cd ?fdef5P ?fdef5t ?fdef5n ?fdef5cl ?_; (case fdef5F => k_asm); (case fdef5N => k_asm); (case fdef5T => k_asm); (case fdef5cd => exact rfl); (case fdef5C => assumption); (case fdef5P => assumption); (case fdef5t => kn_triples); (case fdef5n => kn_hit); (case fdef5cl => exact rfl); k_whole)))
  walk_at "my_fdef"
  k_steps
  rename_i L1 h3 tk3 B1 X1 T1 oA oB oC dA dB dC f1 ct1 dc1 h1 tk1 l1 h2 o1 F1 N1 d1
  first
  | replace dA := cell_some dA rfl
  | skip
  first
  | replace dB := cell_some dB rfl
  | skip
  first
  | replace dC := cell_some dC rfl
  | skip
  have hf := (N1 _ (.head _)).1
  have hcr := hcr.keeps F1.keep
  have kA := (N1 _ (.tail _ (.head _))).1
  have kB := (N1 _ (.tail _ (.tail _ (.head _)))).1
  have kC := (N1 _ (.tail _ (.tail _ (.tail _ (.head _))))).1
  have hl2 := stays_list F1.keep hl'
  dsimp only at hf kA kB kC
  have key := d2i_key w (inner_is (by k_is) rfl) hI hn hn2 hb hlen hf hcr kA kB kC d1 dB dC hl2
  refine' use_inn3 (key ns.length 0 hlen.1 (by omega) _ _) (fun _ _ e => e) ?ex ?ey ?k1 ?k2 ?k3 ?k4 ?k5 ?kK ?kd ?ku ?_
  (case ex => rfl)
  (case ey => rw [Nat.zero_add])
  (case k1 => k_asm)
  (case k2 => k_asm)
  (case k3 => k_asm)
  (case k4 => k_asm)
  (case k5 => k_asm)
  (case kK => first | exact rfl | assumption)
  (case kd => ktr_room)
  (case ku => ktr_units)
  intro t10 h10 tk10 F10 N10
  try dsimp only
  try k_fold
  k_steps
  intro hN
  have e : (ns.drop 0).take ns.length = ns := by simp
  have e0 : d2i n ((ns.drop 0).take ns.length) = d2i n ns := congrArg (d2i n) e
  refine' cast (congrArg (fun z => Q (.int z t10) _) e0).symm (hret t10 h10 _ ?F hN)
  (case F => k_asm)
end Mine
end
section
open PySem PySem.Spec PySem.Calls PySem.W PyProof.Rows
set_option maxRecDepth 100000
set_option maxHeartbeats 8000000
set_option linter.unusedVariables false
namespace Mine
local macro_rules | `(tactic| walk_at "my_enter") => `(tactic| (k_whole; intro L' h' tk' cells' F' N' Y' B' X' T'; k_cells Y'; (try simp only [List.cons_append, List.nil_append] at N'); (try dsimp only); (try k_lift B'); (try k_fold)))
local macro_rules | `(tactic| walk_at "my_enterU") => `(tactic| (k_whole; intro G' L' h' tk' cells' F' N' Y' B' X' T' st' old' lt' ltP' sz'; k_lt2 ltP'; k_cells Y'; (try simp only [List.cons_append, List.nil_append] at N'); (try dsimp only); (try k_fold)))
local macro_rules | `(tactic| walk_at "binaryOp Mult ref int") => `(tactic| (k_here; (refine mul_one (by k_asm) (by k_asm) (by is_list) (by assumption) (by omega) ?_; k_whole); intro D' h' vs' F' N' l1 hi' hs'; (try k_lt l1)))
local macro_rules | `(tactic| walk_at "eval Name") => `(tactic| (k_here; k_dflt (refine nameX_O (by k_asm) (by rfl) (by assumption) (by assumption) ?_ (by rfl) (by rfl); k_whole)))
local macro_rules | `(tactic| walk_at "callWith ref") => `(tactic| (k_here; k_dflt (refine' callWith_F ?k1 ?_; (case k1 => refine FnAt.old (by k_asm) (by assumption)); k_whole)))
local macro_rules | `(tactic| walk_at "FnAt") => `(tactic| (k_dflt (exact FnAt.old (by k_asm) (by assumption))))
local macro_rules | `(tactic| walk_at "binaryOp RShift int int") => `(tactic| (k_here; (refine' rshift_nat ?e ?_); (case e => exact shift_eq _ _ _); k_whole))
local macro_rules | `(tactic| walk_at "binaryOp LShift int int") => `(tactic| (k_here; (refine' lshift_nn ?e ?sz ?_); (case e => exact shift_eq _ _ _); (case sz => assumption); k_whole))
local macro_rules | `(tactic| walk_at "binaryOp BitXor int int") => `(tactic| (k_here; (refine' xor_nat ?_); k_whole))
/-- the inner def's recursion, wherever its function and its cells stand; it changes the list at D1 alone -/
theorem i2d_key (w : World) {params : Arguments} {body : List Stmt} {scope : Scope} {nm qual : Str} {c1 L1 f1 D1 : Addr} {n : Nat} {t1 : Tok} {doc pm ct : Value} {h2 : Heap} {oA oB oC : Obj}
    (hIn : innerOf ((hdC.heap_39 w.params).lookup 71) = some (params, body, scope)) (hn : 0 < n) (hn2 : n ≤ 64)
    (hf : h2.get? f1 = some (fnMade nm qual params body scope [(Str.ofString "n", L1 + 1), (Str.ofString "inner", L1 + 1 + 1 + 1), (Str.ofString "a_digits", L1 + 1 + 1)] doc pm c1 ct)) (hcr : h2.CodeRec (.ref c1) qual)
    (kA : h2.get? (L1 + 1 + 1 + 1) = some oA) (kB : h2.get? (L1 + 1 + 1) = some oB) (kC : h2.get? (L1 + 1) = some oC) (dA : oA.data = .cell (some (.ref f1))) (dB : oB.data = .cell (some (.ref D1))) (dC : oC.data = .cell (some (.int (n : Int) t1)))
    (nf : f1 ≠ D1) (nc : c1 ≠ D1) (nA : L1 + 1 + 1 + 1 ≠ D1) (nB : L1 + 1 + 1 ≠ D1) (nC : L1 + 1 ≠ D1) :
    ∀ (k i x : Nat) (ns : List Int), 0 < k → k ≤ 60 → i + k ≤ ns.length → ns.length ≤ 60 → x < 2 ^ (k * n) → ∀ tz tL tR, InnM w h2 f1 D1 (k+1) [.int (x : Int) tz, .int (i:Int) tL, .int ((i + k : Nat) : Int) tR] ns (ns.take i ++ digs n k x ++ ns.drop (i + k)) := by
  w_top off
  delta InnM theProg
  revert hIn
  k_fill
  intro hIn
  refine' inner_use hIn ?zh ?zr ?_
  (case zh => k_is)
  (case zr => exact rfl)
  intro e1 e2 e3
  subst e1 e2 e3
  clear hIn
  intro k
  induction k using Nat.strongRecOn with
  | ind k ih =>
  intro i x ns hk0 hk60 hik hns hxk tz tL tR vs news g loose mean mg mb dp un gd cn cs a ccd cl outer A₀ base h₀ L m s Q E hI hle U B F X N T hk hd hu hret
  refine wpAny_call ?_
  have kA' := hle _ _ nA kA
  have kB' := hle _ _ nB kB
  have kC' := hle _ _ nC kC
  have hf' := hle _ _ nf hf
  have hcr' := codeRec_ne hcr nc hle
  refine' code_defU B F X N T U rfl rfl hk hf' rfl hcr' ?room (BindsTo.of_eq rfl) (locs rfl) ?go ?c2 ?c3 ?c4 ?c5
  (case c2 => decide)
  (case c3 => exact rfl)
  (case c4 => exact rfl)
  (case c5 => exact rfl)
  (case room => ktr_room)
  k_whole
  intro G' L' h' F' N' B' X' T' st' old' sz'
  have kA' := old' _ _ nA kA'
  have kB' := old' _ _ nB kB'
  have kC' := old' _ _ nC kC'
  have hf' := old' _ _ nf hf'
  have hle2 : ∀ b o, b ≠ D1 → h2.get? b = some o → G'.get? b = some o := fun b o hb e => old' b o hb (hle b o hb e)
  have hsz := digs_sz (j := k / 2) hxk hk60 hn2 hf_sub
  try dsimp only
  try k_fold
  k_steps
  · intro hN
    have hi9 : IntsAre (vs.set (i : Int).toNat (.int (x : Int) tz)) (ns.set (i : Int).toNat (x : Int)) := by assumption
    have hg := hN _ (News.get (news := [(D1, _)]) (by assumption) (.head _))
    have hk1 : k = 1 := hf_one (i := i) (by assumption)
    subst hk1
    refine' hret _ _ _ ?I ?F hg
    (case I => exact (digs_one (i := i) (ns := ns) hxk (by omega)) ▸ hi9)
    (case F => k_asm)
  · refine' use_innM (ih (k / 2) (hf_lt hk0) i (x % 2 ^ (k / 2 * n)) ns (hf_pos (i := i) hk0 (by assumption)) (hf_60 hk60) (hf_le hik) hns digs_lt1 _ _ _) rfl rfl (mid_eq i k) hI ?hle ?U ?k1 ?k2 ?k3 ?k4 ?k5 ?kK ?kd ?ku ?_
    (case U => k_updF)
    (case k1 => k_asm)
    (case k2 => k_asm)
    (case k3 => k_asm)
    (case k4 => k_asm)
    (case k5 => k_asm)
    (case kK => first | exact rfl | assumption)
    (case kd => exact hf_room (hf_lt hk0) hd)
    (case ku => exact hf_unit (hf_lt hk0) hu)
    (case hle => exact fun b o hb e => Fr.keep (by k_asm) _ _ (hle2 b o hb e))
    intro vs9 h9 tk9 hi9 F9 N9
    try dsimp only
    try k_fold
    k_steps
    refine' use_innM (ih (k - k / 2) (hf_rlt (i := i) hk0 (by assumption)) (i + k / 2) (x / 2 ^ (k / 2 * n)) _ (hf_rpos hk0) (hf_r60 hk60) (by rw [digs_len2 hf_sub hik]; exact hf_rle hik) (by rw [digs_len2 hf_sub hik]; exact hns) (digs_lt2 (by omega) hxk) _ _ _) rfl (mid_eq i k) ?ey hi9 ?hle ?U ?k1 ?k2 ?k3 ?k4 ?k5 ?kK ?kd ?ku ?_
    (case ey => rw [hf_sum])
    (case U => k_updF)
    (case k1 => k_asm)
    (case k2 => k_asm)
    (case k3 => k_asm)
    (case k4 => k_asm)
    (case k5 => k_asm)
    (case kK => first | exact rfl | assumption)
    (case kd => exact hf_room (hf_rlt (i := i) hk0 (by assumption)) hd)
    (case ku => exact hf_unit (hf_rlt (i := i) hk0 (by assumption)) hu)
    (case hle => exact fun b o hb e => Fr.keep (by k_asm) _ _ (hle2 b o hb e))
    intro vs10 h10 tk10 hi10 F10 N10
    rw [digs_two hf_sub hik] at hi10
    try dsimp only
    try k_fold
    k_steps
    intro hN
    have hg := hN _ (N10 _ (.head _)).1
    refine' hret _ _ _ hi10 ?F hg
    (case F => k_asm)
theorem c_i2d0 (w : World) (news : List (Addr × Obj)) (g) (x n k : Nat) (t0 t1 : Tok) (hx : 0 < x) (hn : 0 < n) (hn2 : n ≤ 64) (hk : ((Builtin.Int.intBits (x : Int) : Int) + n - 1).fdiv n = (k : Int)) (hk0 : 0 < k) (hk60 : k ≤ 60) (hxk : x < 2 ^ (k * n)) :
  ∀ (loose : List Str) (mean : ExcName → Option Value) (mg mb : Str → Option Value) (dp un : Nat) (gd : Option (List Code)) (cn : Str) (cs : Scope) (a : Addr) (ccd : Value) (cl : List (Str × Addr)) (outer : List Env) (A₀ : Around) (base h₀ : Heap) (L : Addr) (m : Str → Option Value) (s : Shared) (Q E : Value → Shared → Prop),
    CodeHd h₀ 70 66 → UpdF 66 (tabObj #[]) news g → 
    Below A₀ base outer h₀ → Fr h₀ L s.heap m → (hdC.heap_39 w.params).In h₀ → News h₀ L s.heap news → Top topProg loose mean mg mb h₀ → cs.kind = .function →
    dp + 70 < recursionLimit → un + 600 < cLine →
    (∀ vs D c' oc ws qt h' tk', IntsAre vs (digs n k x) → Fr h₀ L h' m → News h₀ L h' ((D, listOf vs.toArray 0) :: (c', oc) :: g (tabI c')) → oc.data = .fields ws → ws[1]? = some (.str "_int2digits.<locals>.inner" qt) → (∀ q ∈ news, q.1 < D) → L < D → D < c' → Q (.ref D) { s with heap := h', toks := tk' }) →
    wpAny (model theProg w) (ktrTop dp un gd cn cs L a ccd cl outer) (call (.ref 71) [.int (x : Int) t0, .int n t1]) Q E s := by
  delta theProg
  k_fill
  intro loose mean mg mb dp un gd cn cs a ccd cl outer A₀ base h₀ L m s Q E C U B F X N T hkk hdp hun hret
  refine wpAny_call ?_
  (refine' code_topUC ?en1k1 ?en1k2 ?en1k3 ?en1k4 ?en1k5 ?en1kU ?en1kA ?en1kF ?en1kK ?en1k6 ?en1k7 ?en1k8 ?en1k9 ?en1kB ?en1kD ?_ ?en1c2 ?en1c3 ?en1c4; (case en1kA => exact rfl); (case en1kF => exact rfl); (case en1kK => first | exact rfl | assumption); (case en1k1 => k_asm); (case en1k2 => k_asm); (case en1k3 => k_asm); (case en1k4 => k_asm); (case en1k5 => k_asm); (case en1kU => assumption); (case en1k6 => k_is); (case en1k7 => k_is); (case en1k8 => ktr_room); (case en1k9 => exact BindsTo.of_eq rfl); (case en1kB => exact rfl); (case en1kD => decide +kernel); (case en1c2 => exact rfl); (case en1c3 => exact rfl); (case en1c4 => exact rfl))
  walk_at "my_enterU"
  have C' := C.keeps (h' := _) (by assumption)
  k_steps
  rotate_left
  · exfalso
    omega
  rename_i G1 L1 h3 tk3 B1 X1 T1 st1 old1 lt1 sz1 ltP1 oA oB oC dA dB dC l9 h4 l91 D1 h5 vs1 hi1 hs1 l92 h6 oD dD f1 c1 oc1 ws1 t1' ct1 dc1 h1 tk1 e1 e2 l1 l2 h2 o1 F1 N1 d1 hne
  have hcr := codeRec_news N1 (.tail _ (.head _)) e1 e2
  first
  | replace dA := cell_some dA rfl
  | skip
  first
  | replace dB := cell_some dB rfl
  | skip
  first
  | replace dC := cell_some dC rfl
  | skip
  have hf := (N1 _ (.head _)).1
  have hD := (N1 _ (.tail _ (.tail _ (.head _)))).1
  have kA := (N1 _ (.tail _ (.tail _ (.tail _ (.tail _ (.head _)))))).1
  have kB := (N1 _ (.tail _ (.tail _ (.tail _ (.tail _ (.tail _ (.head _))))))).1
  have kC := (N1 _ (.tail _ (.tail _ (.tail _ (.tail _ (.tail _ (.tail _ (.head _)))))))).1
  dsimp only at hf kA kB kC hD
  have nf : f1 ≠ D1 := Nat.ne_of_gt (Nat.lt_trans l1.1 l2)
  have nc : c1 ≠ D1 := Nat.ne_of_gt l1.1
  have nA : L1 + 1 + 1 + 1 ≠ D1 := Nat.ne_of_lt l92.2.1
  have nB : L1 + 1 + 1 ≠ D1 := Nat.ne_of_lt l92.2.2.1
  have nC : L1 + 1 ≠ D1 := Nat.ne_of_lt l92.2.2.2.1
  have key := i2d_key w (inner_is (by k_is) rfl) hn hn2 hf hcr kA kB kC d1 dD dC nf nc nA nB nC
  refine' use_innM (key k 0 x _ hk0 hk60 (by rw [List.length_replicate]; omega) (by rw [List.length_replicate]; omega) hxk _ _ _) rfl rfl ?ey hi1 (fun _ _ _ e => e) ?U ?k1 ?k2 ?k3 ?k4 ?k5 ?kK ?kd ?ku ?_
  (case ey => rw [Nat.zero_add])
  (case k4 => k_asm)
  (case U => k_updF)
  (case k1 => k_asm)
  (case k2 => k_asm)
  (case k3 => k_asm)
  (case k5 => k_asm)
  (case kK => first | exact rfl | assumption)
  (case kd => ktr_room)
  (case ku => ktr_units)
  intro vs10 h10 tk10 hi10 F10 N10
  have e10 : (List.replicate k (0 : Int)).take 0 ++ digs n k x ++ (List.replicate k (0 : Int)).drop (0 + k) = digs n k x := by simp
  rw [e10] at hi10
  try dsimp only
  try dsimp only at N10
  try k_fold
  k_steps
  intro hN
  have q66 := (N10 _ (.tail _ (.tail _ (.tail _ (.tail _ (.tail _ (.tail _ (.tail _ (.head _))))))))).1
  have qc := (N10 _ (.tail _ (.head _))).1
  have qD := (N10 _ (.tail _ (.tail _ (.head _)))).1
  dsimp only at q66 qc qD
  have hg := hN _ q66
  have hLD : L1 < D1 := Nat.lt_of_le_of_lt (Nat.le_add_right _ _) l92.2.1
  have hLc : L1 < c1 := Nat.lt_trans hLD l1.1
  refine' hret vs10 D1 c1 oc1 ws1 t1' h10 _ hi10 ?F (news_code F qD sz1 hLD (news_code F qc sz1 hLc hg)) e1 e2 (fun q hq => Nat.lt_trans (lt1 q hq) hLD) (Nat.lt_trans (Nat.lt_of_lt_of_le F.ns.lt sz1) hLD) l1.1
  (case F => k_asm)
local macro_rules | `(tactic| walk_at "exec FunctionDef") => `(tactic| (k_here; refine Stop.intro ?_))
local macro_rules | `(tactic| walk_at "my_fdef") => `(tactic| (intro f' ct' dc' h' tk' F' N' l1; (try dsimp only at N'); (try k_lt l1)))
theorem c_i2d1 (w : World) (news : List (Addr × Obj)) (x n k : Nat) (t0 t1 : Tok) (hx : 0 < x) (hn : 0 < n) (hn2 : n ≤ 64) (hk : ((Builtin.Int.intBits (x : Int) : Int) + n - 1).fdiv n = (k : Int)) (hk0 : 0 < k) (hk60 : k ≤ 60) (hxk : x < 2 ^ (k * n)) (cc : Addr) :
  ∀ (loose : List Str) (mean : ExcName → Option Value) (mg mb : Str → Option Value) (dp un : Nat) (gd : Option (List Code)) (cn : Str) (cs : Scope) (a : Addr) (ccd : Value) (cl : List (Str × Addr)) (outer : List Env) (A₀ : Around) (base h₀ : Heap) (L : Addr) (m : Str → Option Value) (s : Shared) (Q E : Value → Shared → Prop),
    CodeHd s.heap 70 66 → s.heap.get? 66 = some (tabI cc) → s.heap.CodeRec (.ref cc) "_int2digits.<locals>.inner" →
    Below A₀ base outer h₀ → Fr h₀ L s.heap m → (hdC.heap_39 w.params).In h₀ → News h₀ L s.heap news → Top topProg loose mean mg mb h₀ → cs.kind = .function →
    dp + 70 < recursionLimit → un + 600 < cLine →
    (∀ vs D h' tk', IntsAre vs (digs n k x) → Fr h₀ L h' m → News h₀ L h' ((D, listOf vs.toArray 0) :: news) → (∀ q ∈ news, q.1 < D) → Q (.ref D) { s with heap := h', toks := tk' }) →
    wpAny (model theProg w) (ktrTop dp un gd cn cs L a ccd cl outer) (call (.ref 71) [.int (x : Int) t0, .int n t1]) Q E s := by
  delta theProg
  k_fill
  intro loose mean mg mb dp un gd cn cs a ccd cl outer A₀ base h₀ L m s Q E C' hP hcr B F X N T hkk hdp hun hret
  refine wpAny_call ?_
  (refine' code_top0C ?en2k1 ?en2k2 ?en2k3 ?en2k4 ?en2k5 ?en2kA ?en2kF ?en2kK ?en2k6 ?en2k7 ?en2k8 ?en2k9 ?en2kB ?en2kD ?_ ?en2c2 ?en2c3 ?en2c4; (case en2kA => exact rfl); (case en2kF => exact rfl); (case en2kK => first | exact rfl | assumption); (case en2k1 => k_asm); (case en2k2 => k_asm); (case en2k3 => k_asm); (case en2k4 => k_asm); (case en2k5 => k_asm); (case en2k6 => k_is); (case en2k7 => k_is); (case en2k8 => ktr_room); (case en2k9 => exact BindsTo.of_eq rfl); (case en2kB => exact rfl); (case en2kD => decide +kernel); (case en2c2 => exact rfl); (case en2c3 => exact rfl); (case en2c4 => exact rfl))
  walk_at "my_enter"
  k_steps
  unfold Stop
  (k_dflt (refine' nestDef_K ?fdef5d0 ?fdef5k0 ?fdef5a0 ?_; (case fdef5d0 => exact rfl); (case fdef5k0 => exact rfl); (case fdef5a0 => exact rfl)); (k_dflt (refine' nestHit_0 ?fdef5F ?fdef5N ?fdef5T ?fdef5C ?fdef5cd ?fdef5P ?fdef5t ?fdef5n ?fdef5cl ?_; (case fdef5F => k_asm); (case fdef5N => k_asm); (case fdef5T => k_asm); (case fdef5cd => exact rfl); (case fdef5C => assumption); (case fdef5P => assumption); (case fdef5t => kn_triples); (case fdef5n => kn_hit); (case fdef5cl => exact rfl); k_whole)))
  walk_at "my_fdef"
  k_steps
  rotate_left
  · exfalso
    omega
  rename_i L1 h3 tk3 B1 X1 T1 oA oB oC dA dB dC l9 h4 l91 D1 h5 vs1 hi1 hs1 l92 h6 oD dD f1 ct1 dc1 h1 tk1 l1 h2 o1 F1 N1 d1 hne
  have hcr0 := hcr
  have hcr := hcr.keeps F1.keep
  first
  | replace dA := cell_some dA rfl
  | skip
  first
  | replace dB := cell_some dB rfl
  | skip
  first
  | replace dC := cell_some dC rfl
  | skip
  have hf := (N1 _ (.head _)).1
  have hD := (N1 _ (.tail _ (.head _))).1
  have kA := (N1 _ (.tail _ (.tail _ (.tail _ (.head _))))).1
  have kB := (N1 _ (.tail _ (.tail _ (.tail _ (.tail _ (.head _)))))).1
  have kC := (N1 _ (.tail _ (.tail _ (.tail _ (.tail _ (.tail _ (.head _))))))).1
  dsimp only at hf kA kB kC hD
  have c1_ne : cc ≠ D1 := codeRec_fresh hcr0 (N1 _ (.tail _ (.head _))).2.2
  have nf : f1 ≠ D1 := Nat.ne_of_gt l1.1
  have nc : cc ≠ D1 := c1_ne
  have nA : L1 + 1 + 1 + 1 ≠ D1 := Nat.ne_of_lt l92.2.1
  have nB : L1 + 1 + 1 ≠ D1 := Nat.ne_of_lt l92.2.2.1
  have nC : L1 + 1 ≠ D1 := Nat.ne_of_lt l92.2.2.2
  have key := i2d_key w (inner_is (by k_is) rfl) hn hn2 hf hcr kA kB kC d1 dD dC nf nc nA nB nC
  refine' use_innM (key k 0 x _ hk0 hk60 (by rw [List.length_replicate]; omega) (by rw [List.length_replicate]; omega) hxk _ _ _) rfl rfl ?ey hi1 (fun _ _ _ e => e) ?U ?k1 ?k2 ?k3 ?k4 ?k5 ?kK ?kd ?ku ?_
  (case ey => rw [Nat.zero_add])
  (case k4 => k_asm)
  (case U => k_updF)
  (case k1 => k_asm)
  (case k2 => k_asm)
  (case k3 => k_asm)
  (case k5 => k_asm)
  (case kK => first | exact rfl | assumption)
  (case kd => ktr_room)
  (case ku => ktr_units)
  intro vs10 h10 tk10 hi10 F10 N10
  have e10 : (List.replicate k (0 : Int)).take 0 ++ digs n k x ++ (List.replicate k (0 : Int)).drop (0 + k) = digs n k x := by simp
  rw [e10] at hi10
  try dsimp only
  try dsimp only at N10
  try k_fold
  k_steps
  intro hN
  have hLD : L1 < D1 := Nat.lt_of_le_of_lt (Nat.le_add_right _ _) l92.2.1
  refine' hret vs10 D1 h10 _ hi10 ?F (news_push F (N10 _ (.tail _ (.head _))).1 (N10 _ (.tail _ (.head _))).2.2 (fr_some F) hN) (fun q hq => Nat.lt_of_lt_of_le (Heap.lt_size (N q hq).1) (Nat.le_trans F1.above (Nat.le_of_lt hLD)))
  (case F => k_asm)
end Mine
end
section
open PySem PySem.Spec PySem.Calls PySem.W PyProof.Rows
set_option maxRecDepth 100000
set_option maxHeartbeats 8000000
set_option linter.unusedVariables false
namespace Mine
local macro_rules | `(tactic| walk_at "my_enter") => `(tactic| (k_whole; intro L' h' F' N' B' X' T'; (try dsimp only); (try k_lift B'); (try k_fold)))
theorem divmod_my {prog : Program} {w : World} {A : Around} {E : Value → Shared → Prop} {s : Shared} {x b : Nat} {t u : Tok} {Q : Value → Shared → Prop} {h₀ : Heap} {L : Addr} {m : Str → Option Value} {news : List (Addr × Obj)} (F : Fr h₀ L s.heap m) (N : News h₀ L s.heap news) (hb : 0 < b) (hb2 : b < 1073741824)
    (h : ∀ D ta tb h' tk, Fr h₀ L h' m → News h₀ L h' ((D, { cls := .type "tuple", data := .seq #[.int ((x / b : Nat) : Int) ta, .int ((x % b : Nat) : Int) tb] }) :: news) → (∀ q ∈ news, q.1 < D) → L < D → Q (.ref D) { s with toks := tk, heap := h' }) :
    wpAny (model prog w) A (call (.builtin "divmod") [.int (x : Int) t, .int (b : Int) u]) Q E s := by
  refine divmod_N F N (by omega) (fun h' F' N' => ?_) (Or.inl (PyProof.noPylong_small (by omega)))
  have e1 : (x : Int).fdiv (b : Int) = ((x / b : Nat) : Int) := by rw [Int.fdiv_eq_ediv_of_nonneg _ (Int.natCast_nonneg _)]; norm_cast
  have e2 : (x : Int).fmod (b : Int) = ((x % b : Nat) : Int) := by rw [Int.fmod_eq_emod_of_nonneg _ (Int.natCast_nonneg _)]; norm_cast
  rw [e1, e2] at N'
  exact h _ _ _ _ _ F' N' (fun q hq => Heap.lt_size (N q hq).1) F.ns.lt
local macro_rules | `(tactic| walk_at "call builtin:divmod") => `(tactic| (k_here; (refine divmod_my (by k_asm) (by k_asm) (by assumption) (by assumption) ?_); intro D ta tb h' tk F' N' l1 l2))
theorem c_dv (w : World) (news : List (Addr × Obj)) (x b n : Nat) (t0 t1 t2 : Tok) (hb : 0 < b) (hb2 : b < 1073741824) (hx : (Builtin.Int.intBits (x : Int) : Int) - (n : Int) ≤ 4000) :
  ∀ (loose : List Str) (mean : ExcName → Option Value) (mg mb : Str → Option Value) (dp un : Nat) (gd : Option (List Code)) (cn : Str) (cs : Scope) (a : Addr) (ccd : Value) (cl : List (Str × Addr)) (outer : List Env) (A₀ : Around) (base h₀ : Heap) (L : Addr) (m : Str → Option Value) (s : Shared) (Q E : Value → Shared → Prop),
    Below A₀ base outer h₀ → Fr h₀ L s.heap m → (hdC.heap_39 w.params).In h₀ → News h₀ L s.heap news → Top topProg loose mean mg mb h₀ → cs.kind = .function →
    dp + 2 < recursionLimit → un + 16 < cLine →
    (∀ D ta tb h' tk', Fr h₀ L h' m → News h₀ L h' ((D, { cls := .type "tuple", data := .seq #[.int ((x / b : Nat) : Int) ta, .int ((x % b : Nat) : Int) tb] }) :: news) → (∀ q ∈ news, q.1 < D) → Q (.ref D) { s with heap := h', toks := tk' }) →
    wpAny (model theProg w) (ktrTop dp un gd cn cs L a ccd cl outer) (call (.ref 57) [.int (x : Int) t0, .int (b : Int) t1, .int (n : Int) t2]) Q E s := by
  w_top off
  delta theProg
  k_fill
  intro loose mean mg mb dp un gd cn cs a ccd cl outer A₀ base h₀ L m s Q E B F X N T hk hdp hun hret
  refine wpAny_call ?_
  (refine' code_top0 ?en1k1 ?en1k2 ?en1k3 ?en1k4 ?en1k5 ?en1kA ?en1kF ?en1kK ?en1k6 ?en1k7 ?en1k8 ?en1k9 ?en1kB ?_ ?en1c2 ?en1c3 ?en1c4 ?en1c5; (case en1kA => exact rfl); (case en1kF => exact rfl); (case en1kK => first | exact rfl | assumption); (case en1k1 => k_asm); (case en1k2 => k_asm); (case en1k3 => k_asm); (case en1k4 => k_asm); (case en1k5 => k_asm); (case en1k6 => k_is); (case en1k7 => k_is); (case en1k8 => ktr_room); (case en1k9 => exact BindsTo.of_eq rfl); (case en1c2 => decide); (case en1kB => exact locs rfl); (case en1c3 => exact rfl); (case en1c4 => exact rfl); (case en1c5 => exact rfl))
  walk_at "my_enter"
  k_steps
  rename_i D9 ta9 tb9 h9 tk9 F9 N9 l9 l8 kF9 kN9 Tc9 kX9
  intro hN
  have hlt : ∀ q ∈ news, q.1 < D9 := fun q hq => Nat.lt_of_lt_of_le (Heap.lt_size (N q hq).1) (Nat.le_trans F9.above (Nat.le_of_lt l8))
  refine' hret D9 ta9 tb9 h9 _ ?F (news_push F (N9 _ (.head _)).1 (N9 _ (.head _)).2.2 (fr_some F) hN) hlt
  (case F => k_asm)
end Mine
end
section
open PySem PySem.Spec PySem.Calls PySem.W PyProof.Rows
set_option linter.unusedVariables false
set_option maxRecDepth 100000
namespace Mine
theorem rev_loop {prog : Program} {w : World} {A : Around} {E : Value → Shared → Prop} {h₀ : Heap} {env : Env} {x : Str} {body : List Stmt} {Q : Flow → Shared → Prop} {s : Shared} {I : Addr} {lp : Addr × Obj} (Inv : List Value → (Str → Option Value) → List (Addr × Obj) → Prop)
    (hend : ∀ m news, Inv [] m news → ∀ h tk, Fr h₀ env.locals h m → News h₀ env.locals h news → Q .next { s with heap := h, toks := tk })
    (hstep : ∀ v r m news, Inv (v :: r) m news → ∀ (it : Obj) h tk, it.cls = .type "list_reverseiterator" → Fr h₀ env.locals h (fun y => if y = x then some v else m y) → News h₀ env.locals h ((I, it) :: news) →
      wpAny (model prog w) A (execs body env) (UnrPost h₀ env.locals { s with heap := h, toks := tk } I it (fun m' n' => lp ∈ n' ∧ Inv r m' n') Q) E { s with heap := h, toks := tk }) :
    ∀ (rs : List Value) (m : Str → Option Value) (news : List (Addr × Obj)), Inv rs m news → RevRest prog w A E h₀ env x body Q s I lp rs m news
  | [], m, news, h0 => RevRest.zero (hend m news h0)
  | v :: r, m, news, h0 => RevRest.succ fun it h tk hc F N => wpAny_mono (hstep v r m news h0 it h tk hc F N) (fun f s' p => by
      have up : ∀ {s₁ s₂}, UnrEnd h₀ env.locals s₁ I it (fun m' n' => lp ∈ n' ∧ Inv r m' n') s₂ → UnrEnd h₀ env.locals s₁ I it (fun m' n' => lp ∈ n' ∧ RevRest prog w A E h₀ env x body Q s I lp r m' n') s₂ := by
        rintro s₁ s₂ ⟨h', tk', m', n', e, F', N', off, hm, hi⟩
        exact ⟨h', tk', m', n', e, F', N', off, hm, rev_loop Inv hend hstep r m' n' hi⟩
      cases f with
      | ret v => exact p
      | brk => exact p
      | next => exact up p
      | cont => exact up p) fun _ _ e => e
/-- long division, the high digit first -/
def ldiv (b n : Nat) : List Nat → Nat → List Nat → List Nat × Nat
  | [], r, qs => (qs, r)
  | d :: ds, r, qs => ldiv b n ds ((r * 2 ^ n + d) % b) (qs ++ [(r * 2 ^ n + d) / b])
def hval (n : Nat) : List Nat → Nat → Nat
  | [], a => a
  | d :: ds, a => hval n ds (a * 2 ^ n + d)
theorem hval_append (n : Nat) : ∀ (a b : List Nat) (x : Nat), hval n (a ++ b) x = hval n b (hval n a x)
  | [], _, _ => rfl
  | d :: a, b, x => hval_append n a b _
theorem ldiv_val (b n : Nat) (hb : 0 < b) : ∀ (ds : List Nat) (r : Nat) (qs : List Nat), hval n (ldiv b n ds r qs).1 0 * b + (ldiv b n ds r qs).2 = hval n ds (hval n qs 0 * b + r)
  | [], r, qs => rfl
  | d :: ds, r, qs => by
    show hval n (ldiv b n ds _ _).1 0 * b + (ldiv b n ds _ _).2 = hval n ds ((hval n qs 0 * b + r) * 2 ^ n + d)
    rw [ldiv_val b n hb ds, hval_append]
    congr 1
    show (hval n qs 0 * 2 ^ n + (r * 2 ^ n + d) / b) * b + (r * 2 ^ n + d) % b = _
    have := Nat.div_add_mod (r * 2 ^ n + d) b
    grind
theorem ldiv_lt (b n : Nat) (hb : 0 < b) : ∀ (ds : List Nat) (r : Nat) (qs : List Nat), r < b → (ldiv b n ds r qs).2 < b
  | [], r, qs, h => h
  | d :: ds, r, qs, h => ldiv_lt b n hb ds _ _ (Nat.mod_lt _ hb)
theorem ldiv_bnd (b n : Nat) (hb : 0 < b) : ∀ (ds : List Nat) (r : Nat) (qs : List Nat), r < b → (∀ d ∈ ds, d < 2 ^ n) → (∀ q ∈ qs, q < 2 ^ n) → ∀ q ∈ (ldiv b n ds r qs).1, q < 2 ^ n
  | [], r, qs, _, _, h => h
  | d :: ds, r, qs, hr, hd, h => ldiv_bnd b n hb ds _ _ (Nat.mod_lt _ hb) (fun x hx => hd x (.tail _ hx)) fun q hq => by
    rcases List.mem_append.mp hq with hq | hq
    · exact h q hq
    · rw [List.mem_singleton.mp hq]
      refine Nat.div_lt_of_lt_mul ?_
      have h1 := hd d (.head _)
      have h2 : (r + 1) * 2 ^ n ≤ b * 2 ^ n := Nat.mul_le_mul_right _ hr
      rw [Nat.add_mul, Nat.one_mul] at h2
      omega
def digsN (n : Nat) : Nat → Nat → List Nat
  | 0, _ => []
  | k + 1, x => x % 2 ^ n :: digsN n k (x / 2 ^ n)
abbrev natsI (l : List Nat) : List Int := l.map fun (x : Nat) => (x : Int)
theorem digs_digsN (n : Nat) : ∀ k x, digs n k x = natsI (digsN n k x)
  | 0, _ => rfl
  | k + 1, x => by rw [digs, digs_digsN n k, digsN]; rfl
theorem digsN_lt (n : Nat) : ∀ k x, ∀ d ∈ digsN n k x, d < 2 ^ n
  | 0, _, d, h => by cases h
  | k + 1, x, d, h => by
    rcases List.mem_cons.mp h with rfl | h
    · exact Nat.mod_lt _ (Nat.pow_pos (by decide))
    · exact digsN_lt n k _ d h
theorem digsN_len (n : Nat) : ∀ k x, (digsN n k x).length = k
  | 0, _ => rfl
  | k + 1, x => by rw [digsN, List.length_cons, digsN_len n k]
theorem hval_rev (n : Nat) : ∀ (l : List Nat), d2i n (natsI l) = ((hval n l.reverse 0 : Nat) : Int)
  | [] => rfl
  | x :: r => by
    rw [List.reverse_cons, hval_append]
    show (x : Int) + 2 ^ n * d2i n (natsI r) = ((hval n r.reverse 0 * 2 ^ n + x : Nat) : Int)
    rw [hval_rev n r]
    push_cast
    grind
/-- what the long division gives -/
theorem ldiv_spec {b n k x : Nat} (hb : 0 < b) (hx : x < 2 ^ (k * n)) : d2i n (natsI (ldiv b n (digsN n k x).reverse 0 []).1.reverse) = ((x / b : Nat) : Int) ∧ (ldiv b n (digsN n k x).reverse 0 []).2 = x % b := by
  have h1 := ldiv_val b n hb (digsN n k x).reverse 0 []
  have h2 := ldiv_lt b n hb (digsN n k x).reverse 0 [] hb
  have h3 : ((hval n (digsN n k x).reverse 0 : Nat) : Int) = (x : Int) := by
    rw [← hval_rev, ← digs_digsN, digs_d2i n k x hx]
  have h3' : hval n (digsN n k x).reverse 0 = x := Int.ofNat.inj h3
  have h4 : hval n (digsN n k x).reverse (hval n [] 0 * b + 0) = x := by
    show hval n (digsN n k x).reverse (0 * b + 0) = x
    rw [Nat.zero_mul]
    exact h3'
  rw [h4] at h1
  rw [hval_rev, List.reverse_reverse]
  generalize (ldiv b n (digsN n k x).reverse 0 []).1 = q1, (ldiv b n (digsN n k x).reverse 0 []).2 = r1 at *
  have h5 : b * hval n q1 0 + r1 = x := by rw [Nat.mul_comm]; exact h1
  constructor
  · congr 1
    rw [← h5, Nat.mul_add_div hb, Nat.div_eq_of_lt h2, Nat.add_zero]
  · rw [← h5, Nat.mul_add_mod, Nat.mod_eq_of_lt h2]
theorem ints_cons_of {v : Value} {rs : List Value} {ds : List Nat} (h : IntsAre (v :: rs) (natsI ds)) : ∃ d t ds', ds = d :: ds' ∧ v = .int ((d : Nat) : Int) t ∧ IntsAre rs (natsI ds') := by
  cases ds with
  | nil => cases h
  | cons d ds' =>
    cases h with
    | cons _ t h => exact ⟨d, t, ds', rfl, rfl, h⟩
theorem ints_nil_of {ds : List Nat} (h : IntsAre [] (natsI ds)) : ds = [] := by
  cases ds with
  | nil => rfl
  | cons d ds' => cases h
theorem dv_bits {b n r d : Nat} (hb2 : b < 1073741824) (hn : n ≤ 64) (hr : r < b) (hd : d < 2 ^ n) : ((Builtin.Int.intBits ((r * 2 ^ n + d : Nat) : Int) : Nat) : Int) - (n : Int) ≤ 4000 := by
  have : Builtin.Int.intBits ((r * 2 ^ n + d : Nat) : Int) ≤ 30 + n := by
    refine intBits_le_iff.mpr ?_
    rw [Int.natAbs_natCast, Nat.pow_add]
    have h2 : (r + 1) * 2 ^ n ≤ 2 ^ 30 * 2 ^ n := Nat.mul_le_mul_right _ (by omega)
    rw [Nat.add_mul, Nat.one_mul] at h2
    omega
  omega
theorem sh_bits {b n r : Nat} (hb2 : b < 1073741824) (hn : n ≤ 64) (hr : r < b) : ((Builtin.Int.intBits (r : Int) : Nat) : Int) + (n : Int) ≤ 2 ^ 27 := by
  have : Builtin.Int.intBits (r : Int) ≤ 30 := by
    refine intBits_le_iff.mpr ?_
    rw [Int.natAbs_natCast]
    omega
  omega
section
variable {prog : Program} {w : World} {A : Around} {E : Value → Shared → Prop} {s : Shared} {h₀ : Heap} {L D : Addr} {m : Str → Option Value} {news news' : List (Addr × Obj)}
theorem append_L {vs : List Value} {n : Nat} {x : Value} {Q : Value → Shared → Prop} (F : Fr h₀ L s.heap m) (N : News h₀ L s.heap news) (U : Upd D (listOf vs.toArray n) (listOf (vs ++ [x]).toArray (n + 1)) news news') (hsz : vs.length ≤ 60)
    (h : ∀ h', Fr h₀ L h' m → News h₀ L h' news' → Q .none { s with heap := h' }) : wpAny (model prog w) A (call (.builtin "list.append") [.ref D, x]) Q E s := by
  have e : (vs ++ [x]).toArray = vs.toArray.push x := by simp
  rw [e] at U
  exact append_K F N U h (by rw [sizeLine_eq, List.size_toArray]; omega)
theorem reverse_L {vs : List Value} {n : Nat} {Q : Value → Shared → Prop} (F : Fr h₀ L s.heap m) (N : News h₀ L s.heap news) (U : Upd D (listOf vs.toArray n) (listOf vs.reverse.toArray n) news news') (hsz : vs.length ≤ 60)
    (h : ∀ h', Fr h₀ L h' m → News h₀ L h' news' → Q .none { s with heap := h' }) : wpAny (model prog w) A (call (.builtin "list.reverse") [.ref D]) Q E s :=
  kl_reverse (its := vs.toArray) F N (by simp) U (by rw [sizeLine_eq]; simp; omega) h
end
theorem codeHd_ne {h G : Heap} {c P' P : Addr} (x : CodeHd h c P') (k : ∀ b o, b ≠ P → h.get? b = some o → G.get? b = some o) (hc : c ≠ P) : CodeHd G c P' :=
  let ⟨o, vs, file, tf, flags, tg, inF, text, tt, e, r⟩ := x; ⟨o, vs, file, tf, flags, tg, inF, text, tt, k _ _ hc e, r⟩
theorem codeRec_tab {H : Heap} {c P : Addr} {q : Str} (hcr : H.CodeRec (.ref c) q) (h : H.get? P = some (tabObj #[])) : c ≠ P := by
  obtain ⟨c₂, oc, vs, t, e2, hoc, hd, hv⟩ := hcr
  cases e2
  intro e
  rw [e, h] at hoc
  cases hoc
  cases hd
  simp at hv
theorem news_two {h₀ h : Heap} {L : Addr} {p q : Addr × Obj} {l : List (Addr × Obj)} (hp : h.get? p.1 = some p.2 ∧ p.1 ≠ L ∧ h₀.get? p.1 = none) (hq : h.get? q.1 = some q.2 ∧ q.1 ≠ L ∧ h₀.get? q.1 = none) (N : News h₀ L h l) : News h₀ L h (p :: q :: l) := by
  intro r hr
  rcases List.mem_cons.mp hr with rfl | hr
  · exact hp
  · rcases List.mem_cons.mp hr with rfl | hr
    · exact hq
    · exact N r hr
abbrev tup2 (q r : Int) (ta tb : Tok) : Obj := { cls := .type "tuple", data := .seq #[.int q ta, .int r tb] }
/-- contract of a def that makes the inner def of _int2digits for the first time, uses that of _digits2int again, and gives back a pair -/
abbrev ConP (w : World) (f : Addr) (d u : Nat) (args : List Value) (q r : Int) : Prop :=
  ∀ (news : List (Addr × Obj)) (g : Obj → List (Addr × Obj)) (cc : Addr) (loose : List Str) (mean : ExcName → Option Value) (mg mb : Str → Option Value) (dp un : Nat) (gd : Option (List Code)) (cn : Str) (cs : Scope) (a : Addr) (ccd : Value) (cl : List (Str × Addr)) (outer : List Env) (A₀ : Around) (base h₀ : Heap) (L : Addr) (m : Str → Option Value) (s : Shared) (Q E : Value → Shared → Prop),
    CodeHd h₀ 70 66 → UpdF 66 (tabObj #[]) news g → CodeHd s.heap 77 73 → s.heap.get? 73 = some (tabD cc) → s.heap.CodeRec (.ref cc) "_digits2int.<locals>.inner" →
    Below A₀ base outer h₀ → Fr h₀ L s.heap m → (hdC.heap_39 w.params).In h₀ → News h₀ L s.heap news → Top topProg loose mean mg mb h₀ → cs.kind = .function →
    dp + d < recursionLimit → un + u < cLine →
    (∀ D c' oc ws qt ta tb h' tk', Fr h₀ L h' m → News h₀ L h' ((D, tup2 q r ta tb) :: (c', oc) :: g (tabI c')) → oc.data = .fields ws → ws[1]? = some (.str "_int2digits.<locals>.inner" qt) → (∀ q ∈ news, q.1 < c') → L < c' → c' < D → Q (.ref D) { s with heap := h', toks := tk' }) →
    wpAny (model theProg w) (ktrTop dp un gd cn cs L a ccd cl outer) (call (.ref f) args) Q E s
/-- what holds at each turn of the long division's loop -/
def DpInv (b k x : Nat) (t1 : Tok) (q9 D9 c9 : Addr) (oD oc : Obj) (rs : List Value) (m : Str → Option Value) (ns : List (Addr × Obj)) : Prop :=
  ∃ (ds : List Nat) (r : Nat) (tr tn : Tok) (qs : List Value) (qn : List Nat) (c : Nat), ds.length + qn.length = k ∧ IntsAre rs (natsI ds) ∧ (∀ d ∈ ds, d < 2 ^ Builtin.Int.intBits (b : Int)) ∧ r < b ∧ m "b" = some (.int (b : Int) t1) ∧ m "n" = some (.int (Builtin.Int.intBits (b : Int) : Nat) tn) ∧ m "r" = some (.int (r : Int) tr) ∧ m "q_digits" = some (.ref q9)
    ∧ IntsAre qs (natsI qn) ∧ ldiv b (Builtin.Int.intBits (b : Int)) ds r qn = ldiv b (Builtin.Int.intBits (b : Int)) (digsN (Builtin.Int.intBits (b : Int)) k x).reverse 0 [] ∧ ∀ q ∈ [(q9, listOf qs.toArray c), (D9, oD), (c9, oc), (66, tabI c9)], q ∈ ns
theorem DpInv.intro {b k x : Nat} {t1 : Tok} {q9 D9 c9 : Addr} {oD oc : Obj} {rs : List Value} {m : Str → Option Value} {ns : List (Addr × Obj)} (ds : List Nat) (r : Nat) (tr tn : Tok) (qs : List Value) (qn : List Nat) (c : Nat) (h1 : ds.length + qn.length = k) (h2 : IntsAre rs (natsI ds)) (h3 : ∀ d ∈ ds, d < 2 ^ Builtin.Int.intBits (b : Int)) (h4 : r < b) (h5 : m "b" = some (.int (b : Int) t1)) (h6 : m "n" = some (.int (Builtin.Int.intBits (b : Int) : Nat) tn)) (h7 : m "r" = some (.int (r : Int) tr)) (h8 : m "q_digits" = some (.ref q9))
    (h9 : IntsAre qs (natsI qn)) (h10 : ldiv b (Builtin.Int.intBits (b : Int)) ds r qn = ldiv b (Builtin.Int.intBits (b : Int)) (digsN (Builtin.Int.intBits (b : Int)) k x).reverse 0 []) (h11 : ∀ q ∈ [(q9, listOf qs.toArray c), (D9, oD), (c9, oc), (66, tabI c9)], q ∈ ns) : DpInv b k x t1 q9 D9 c9 oD oc rs m ns :=
  ⟨ds, r, tr, tn, qs, qn, c, h1, h2, h3, h4, h5, h6, h7, h8, h9, h10, h11⟩
end Mine
end
section
open PySem PySem.Spec PySem.Calls PySem.W PyProof.Rows
set_option maxRecDepth 100000
set_option maxHeartbeats 8000000
set_option linter.unusedVariables false
namespace Mine
local macro_rules | `(tactic| walk_at "my_enterN") => `(tactic| (k_whole; intro G' L' h' F' N' B' X' T' st' old' sz'; (try dsimp only); (try k_fold)))
local macro_rules | `(tactic| walk_at "call ref") => `(tactic| (k_here; (with_reducible show wpAny _ _ (call (Value.ref 71) _) _ _ _); refine Stop.intro ?_))
local macro_rules | `(tactic| walk_at "my_c71") => `(tactic| (intro vs9 D9 c9 oc9 ws9 qt9 h9 tk9 hi9 F9 N9 e19 e29 lt9 lL9 lc9; (try k_lt lt9); (try k_lt2 lc9); (try dsimp only at N9); (try dsimp only); (try k_fold)))
theorem add_nn {prog : Program} {w : World} {A : Around} {E : Value → Shared → Prop} {s : Shared} {x y : Nat} {t u : Tok} {Q : Value → Shared → Prop} (h : ∀ t tk, Q (.int ((x + y : Nat) : Int) t) { s with toks := tk }) : wpAny (model prog w) A (binaryOp .Add (.int (x : Int) t) (.int (y : Int) u)) Q E s := by
  refine PyProof.Rows.add_int ?_
  rw [← Int.natCast_add]
  exact h _ _
local macro_rules | `(tactic| walk_at "binaryOp Add int int") => `(tactic| (k_here; (refine' add_nn ?_); k_whole; intro t8 tk8))
local macro_rules | `(tactic| walk_at "binaryOp LShift int int") => `(tactic| (k_here; (refine' lshift_nn ?e ?sz ?_); (case e => rfl); (case sz => assumption); k_whole))
local macro_rules | `(tactic| walk_at "eval Name") => `(tactic| (k_here; k_dflt (refine nameX_L (by k_asm) (by assumption) ?_ (by rfl) (by rfl) (by decide); k_whole)))
local macro_rules | `(tactic| walk_at "call ref") => `(tactic| (k_here; (with_reducible show wpAny _ _ (call (Value.ref 57) _) _ _ _); refine Stop.intro ?_))
local macro_rules | `(tactic| walk_at "my_c57") => `(tactic| (intro D9 ta9 tb9 h9 tk9 F9 N9 lt9; (try k_lt lt9); (try dsimp only); (try k_fold)))
local macro_rules | `(tactic| walk_at "call builtin:list.append") => `(tactic| (k_here; (refine append_L (by k_asm) (by k_asm) (by k_upd) (by assumption) ?_; k_whole); intro h' F' N'))
local macro_rules | `(tactic| walk_at "call builtin:list.reverse") => `(tactic| (k_here; (refine reverse_L (by k_asm) (by k_asm) (by k_upd) (by assumption) ?_; k_whole); intro h' F' N'))
local macro_rules | `(tactic| walk_at "call ref") => `(tactic| (k_here; (with_reducible show wpAny _ _ (call (Value.ref 78) _) _ _ _); refine Stop.intro ?_))
local macro_rules | `(tactic| walk_at "my_c78") => `(tactic| (intro t9 h9 tk9 F9 N9; (try dsimp only); (try k_fold)))
theorem c_dp (w : World) (x b k : Nat) (t0 t1 : Tok) (hx : 0 < x) (hb : 0 < b) (hb2 : b < 1073741824) (hk : ((Builtin.Int.intBits (x : Int) : Int) + (Builtin.Int.intBits (b : Int) : Int) - 1).fdiv (Builtin.Int.intBits (b : Int) : Int) = (k : Int)) (hk0 : 0 < k) (hk60 : k ≤ 60) (hxk : x < 2 ^ (k * Builtin.Int.intBits (b : Int))) :
  ConP w 85 80 700 [.int (x : Int) t0, .int (b : Int) t1] ((x / b : Nat) : Int) ((x % b : Nat) : Int) := by
  w_top off
  delta ConP theProg
  k_fill
  intro news g cc loose mean mg mb dp un gd cn cs a ccd cl outer A₀ base h₀ L m s Q E C U C2 h73 hcr B F X N T hkk hdp hun hret
  have hLs : L < s.heap.objs.size := F.ns.lt
  have hbits : 0 < Builtin.Int.intBits (b : Int) := by
    rcases Nat.eq_zero_or_pos (Builtin.Int.intBits (b : Int)) with e | e
    · have := intBits_le_iff (m := 0) (x := (b : Int)) |>.mp (by omega)
      simp at this
      omega
    · exact e
  have hbits2 : Builtin.Int.intBits (b : Int) ≤ 64 := by
    refine intBits_le_iff.mpr ?_
    rw [Int.natAbs_natCast]
    omega
  have hc66 := codeRec_tab hcr (upd_at N U)
  refine wpAny_call ?_
  (refine' code_topU ?en1k1 ?en1k2 ?en1k3 ?en1k4 ?en1k5 ?en1kU ?en1kA ?en1kF ?en1kK ?en1k6 ?en1k7 ?en1k8 ?en1k9 ?en1kB ?_ ?en1c2 ?en1c3 ?en1c4 ?en1c5; (case en1kA => exact rfl); (case en1kF => exact rfl); (case en1kK => first | exact rfl | assumption); (case en1k1 => k_asm); (case en1k2 => k_asm); (case en1k3 => k_asm); (case en1k4 => k_asm); (case en1k5 => k_asm); (case en1kU => assumption); (case en1k6 => k_is); (case en1k7 => k_is); (case en1k8 => ktr_room); (case en1k9 => exact BindsTo.of_eq rfl); (case en1kB => exact locs rfl); (case en1c2 => decide); (case en1c3 => exact rfl); (case en1c4 => exact rfl); (case en1c5 => exact rfl))
  walk_at "my_enterN"
  have C' := C.keeps (h' := _) (by assumption)
  rename_i G1 L1 hx1 F0 N0 B1 X1 T1 st1 old1 sz1
  have C2 := codeHd_ne C2 old1 (by decide)
  have h73 := old1 73 _ (by decide) h73
  have hcr := codeRec_ne hcr hc66 old1
  k_steps
  unfold Stop
  ((refine' c_i2d0 _ _ _ _ _ _ _ _ ?c710hx ?c710hn ?c710hn2 ?c710hk ?c710hk0 ?c710hk60 ?c710hxk _ _ _ _ _ _ _ _ _ _ _ _ _ _ _ _ _ _ _ _ _ ?c710C ?c710U ?c710k1 ?c710k2 ?c710k3 ?c710k4 ?c710k5 ?c710kK ?c710kd ?c710ku ?_); (case c710k1 => k_asm); (case c710k2 => k_asm); (case c710k3 => k_asm); (case c710k4 => k_asm); (case c710k5 => k_asm); (case c710kK => first | exact rfl | assumption); (case c710hk => assumption); (case c710hx => assumption); (case c710hn => assumption); (case c710hn2 => assumption); (case c710hk0 => assumption); (case c710hk60 => assumption); (case c710hxk => assumption); (case c710C => assumption); (case c710U => k_updF); (case c710kd => ktr_room); (case c710ku => ktr_units))
  walk_at "my_c71"
  k_steps
  rename_i h1 vs9 D9 c9 oc9 ws9 qt9 h9 tk9 hi9 e19 e29 lL9 lt9 lc9 h2 tk2 h3 q9 h4 l91 h5 I1 h6 F1 N1 l92
  have hlen : vs9.length = k := by rw [hi9.length, digs_len]
  rw [show vs9.length = vs9.length from rfl] at N1
  refine iter_revUnr (lo := listOf vs9.toArray 0) (vs := vs9) (n := 0) rfl F1 N1 (by k_offL) (by k_mem) rfl rfl ?_
  refine rev_loop (DpInv b k x t1 q9 D9 c9 (listOf vs9.toArray 0) oc9) ?hend ?hstep _ _ _ ?h0
  case h0 =>
    refine DpInv.intro (digsN (Builtin.Int.intBits (b : Int)) k x).reverse 0 _ _ [] [] 0 (by rw [List.length_reverse, digsN_len]; rfl) ?_ (fun d hd => digsN_lt _ _ _ d (List.mem_reverse.mp hd)) hb rfl rfl rfl rfl .nil rfl (fun _ h => h)
    have := PyProof.Rows.IntsAre.reverse hi9
    rw [digs_digsN] at this
    simpa [natsI, List.map_reverse] using this
  case hstep =>
    rintro v r m ns ⟨ds, r0, tr, tn, qs, qn, c, hcnt, hI, hd, hr0, mb9, mn9, mr9, mq9, hq, hfin, hsub⟩ it h tk hc F N
    obtain ⟨d, td, ds', rfl, rfl, hI'⟩ := ints_cons_of hI
    have N2 : News G1 L1 h [(I1, it), (q9, listOf qs.toArray c), (D9, listOf vs9.toArray 0), (c9, oc9), (66, tabI c9)] := fun q hq => by
      rcases List.mem_cons.mp hq with rfl | hq
      · exact N _ (.head _)
      · exact N _ (.tail _ (hsub q hq))
    clear N
    have hdv := dv_bits (n := Builtin.Int.intBits (b : Int)) hb2 hbits2 hr0 (hd d (.head _))
    have hsh := sh_bits (n := Builtin.Int.intBits (b : Int)) hb2 hbits2 hr0
    have hz : qs.length ≤ 60 := by rw [hq.length, List.length_map]; simp only [List.length_cons] at hcnt; omega
    k_steps
    unfold Stop
    ((refine' c_dv _ _ _ _ _ _ _ _ ?c571hb ?c571hb2 ?c571hx _ _ _ _ _ _ _ _ _ _ _ _ _ _ _ _ _ _ _ _ _ ?c571k1 ?c571k2 ?c571k3 ?c571k4 ?c571k5 ?c571kK ?c571kd ?c571ku ?_); (case c571k1 => k_asm); (case c571k2 => k_asm); (case c571k3 => k_asm); (case c571k4 => k_asm); (case c571k5 => k_asm); (case c571kK => first | exact rfl | assumption); (case c571hb => assumption); (case c571hb2 => assumption); (case c571hx => assumption); (case c571kd => ktr_room); (case c571ku => ktr_units))
    walk_at "my_c57"
    k_steps
    refine DpInv.intro ds' _ _ tn _ (qn ++ [(r0 * 2 ^ Builtin.Int.intBits (b : Int) + d) / b]) (c + 1) ?_ hI' (fun d hd' => hd d (.tail _ hd')) (Nat.mod_lt _ hb) mb9 mn9 rfl mq9 ?_ hfin (fun q hq => .tail _ hq)
    · simp only [List.length_append, List.length_cons, List.length_nil] at hcnt ⊢
      omega
    · rw [natsI, List.map_append]
      exact IntsAre.append hq (.cons _ _ .nil)
  case hend =>
    rintro m ns ⟨ds, r0, tr, tn, qs, qn, c, hcnt, hI, hd, hr0, mb9, mn9, mr9, mq9, hq, hfin, hsub⟩ h tk F N
    have N2 : News G1 L1 h [(q9, listOf qs.toArray c), (D9, listOf vs9.toArray 0), (c9, oc9), (66, tabI c9)] := fun q hq => N _ (hsub q hq)
    clear N
    have hz : qs.length ≤ 60 := by rw [hq.length, List.length_map]; omega
    have hds : ds = [] := ints_nil_of hI
    subst hds
    have hspec := ldiv_spec (n := Builtin.Int.intBits (b : Int)) (k := k) hb hxk
    have hbnd := ldiv_bnd b (Builtin.Int.intBits (b : Int)) hb (digsN (Builtin.Int.intBits (b : Int)) k x).reverse 0 [] hb (fun d hd => digsN_lt _ _ _ d (List.mem_reverse.mp hd)) (fun _ h => nomatch h)
    rw [← hfin] at hspec hbnd
    simp only [ldiv] at hspec hbnd
    have hqr := PyProof.Rows.IntsAre.reverse hq
    rw [natsI, ← List.map_reverse] at hqr
    have hbb : ∀ y ∈ List.map (fun (x : Nat) => (x : Int)) qn.reverse, y.natAbs < 2 ^ 64 := by
      intro y hy
      obtain ⟨z, hz, rfl⟩ := List.mem_map.mp hy
      rw [Int.natAbs_natCast]
      exact Nat.lt_of_lt_of_le (hbnd z (List.mem_reverse.mp hz)) (Nat.pow_le_pow_right (by decide) hbits2)
    have hll : 0 < (List.map (fun (x : Nat) => (x : Int)) qn.reverse).length ∧ (List.map (fun (x : Nat) => (x : Int)) qn.reverse).length ≤ 64 := by
      rw [List.length_map, List.length_reverse]
      simp only [List.length_nil] at hcnt
      omega
    k_steps
    unfold Stop
    ((refine' c_d2i1 _ _ _ _ _ ?c782hI _ _ ?c782hn ?c782hn2 ?c782hb ?c782hlen _ _ _ _ _ _ _ _ _ _ _ _ _ _ _ _ _ _ _ _ _ _ ?c782C ?c782hl ?c782hP ?c782hcr ?c782k1 ?c782k2 ?c782k3 ?c782k4 ?c782k5 ?c782kK ?c782kd ?c782ku ?_); (case c782k1 => k_asm); (case c782k2 => k_asm); (case c782k3 => k_asm); (case c782k4 => k_asm); (case c782k5 => k_asm); (case c782kK => first | exact rfl | assumption); (case c782hl => exact News.isList (by k_asm) (by k_mem)); (case c782hI => assumption); (case c782hn => assumption); (case c782hn2 => assumption); (case c782hb => assumption); (case c782hlen => assumption); (case c782C => exact CodeHd.keeps (by assumption) (Fr.keep (by k_asm))); (case c782hP => exact Fr.keep (by k_asm) _ _ (by assumption)); (case c782hcr => exact PySem.Heap.CodeRec.keeps (by assumption) (Fr.keep (by k_asm))); (case c782kd => ktr_room); (case c782ku => ktr_units))
    walk_at "my_c78"
    k_steps
    rename_i D8 h8 F8 N8 l8 kF8 kN8 Tc8 kX8
    intro hN
    have hg := hN _ (N8 _ (.tail _ (.tail _ (.tail _ (.tail _ (.head _)))))).1
    rw [show d2i (Builtin.Int.intBits (b : Int)) (List.map (fun (x : Nat) => (x : Int)) qn.reverse) = ((x / b : Nat) : Int) from hspec.1, hspec.2] at kN8
    have hn := news_two (kN8 _ (.head _)) (kN8 _ (.tail _ (.tail _ (.tail _ (.head _))))) hg
    exact hret _ c9 oc9 ws9 qt9 _ _ h8 _ kF8 hn e19 e29 (fun q hq => Nat.lt_of_lt_of_le (Heap.lt_size (N q hq).1) (Nat.le_trans sz1 (Nat.le_of_lt (Nat.lt_trans lL9 lc9)))) (Nat.lt_of_lt_of_le hLs (Nat.le_trans sz1 (Nat.le_of_lt (Nat.lt_trans lL9 lc9)))) l8.2.2.1
end Mine
end
section
open PySem PySem.Spec PySem.Calls PySem.W PyProof.Rows
set_option maxRecDepth 100000
set_option maxHeartbeats 8000000
set_option linter.unusedVariables false
namespace Mine
local macro_rules | `(tactic| walk_at "my_enterN") => `(tactic| (k_whole; intro G' L' h' F' N' B' X' T' st' old' sz'; (try dsimp only); (try k_fold)))
theorem c_id_pp (w : World) (x b : Int) (t0 t1 : Tok) (hx : 0 < x) (hb : 0 < b) (q r : Int) (hin : ∀ t0 t1, ConP w 85 80 700 [.int x t0, .int b t1] q r) :
  ConP w 92 82 720 [.int x t0, .int b t1] q r := by
  w_top off
  have hin := hin t0 t1
  delta ConP theProg
  k_fill
  intro news g cc loose mean mg mb dp un gd cn cs a ccd cl outer A₀ base h₀ L m s Q E C U C2 h73 hcr B F X N T hkk hdp hun hret
  have hLs : L < s.heap.objs.size := F.ns.lt
  have hc66 := codeRec_tab hcr (upd_at N U)
  refine wpAny_call ?_
  (refine' code_topU ?en1k1 ?en1k2 ?en1k3 ?en1k4 ?en1k5 ?en1kU ?en1kA ?en1kF ?en1kK ?en1k6 ?en1k7 ?en1k8 ?en1k9 ?en1kB ?_ ?en1c2 ?en1c3 ?en1c4 ?en1c5; (case en1kA => exact rfl); (case en1kF => exact rfl); (case en1kK => first | exact rfl | assumption); (case en1k1 => k_asm); (case en1k2 => k_asm); (case en1k3 => k_asm); (case en1k4 => k_asm); (case en1k5 => k_asm); (case en1kU => assumption); (case en1k6 => k_is); (case en1k7 => k_is); (case en1k8 => ktr_room); (case en1k9 => exact BindsTo.of_eq rfl); (case en1kB => exact locs rfl); (case en1c2 => decide); (case en1c3 => exact rfl); (case en1c4 => exact rfl); (case en1c5 => exact rfl))
  walk_at "my_enterN"
  have C' := C.keeps (h' := _) (by assumption)
  rename_i G1 L1 hx1 F0 N0 B1 X1 T1 st1 old1 sz1
  have C2 := codeHd_ne C2 old1 (by decide)
  have h73 := old1 73 _ (by decide) h73
  have hcr := codeRec_ne hcr hc66 old1
  k_steps
  · exfalso
    omega
  · skip
    refine' hin _ _ _ _ _ _ _ _ _ _ _ _ _ _ _ _ _ _ _ _ _ _ _ _ ?C ?U ?C2 ?h73 ?hcr ?k1 ?k2 ?k3 ?k4 ?k5 ?kK ?kd ?ku ?_
    (case k1 => k_asm)
    (case k2 => k_asm)
    (case k3 => k_asm)
    (case k4 => k_asm)
    (case k5 => k_asm)
    (case kK => first | exact rfl | assumption)
    (case C => assumption)
    (case U => k_updF)
    (case C2 => exact CodeHd.keeps (by assumption) (Fr.keep (by k_asm)))
    (case h73 => exact Fr.keep (by k_asm) _ _ (by assumption))
    (case hcr => exact PySem.Heap.CodeRec.keeps (by assumption) (Fr.keep (by k_asm)))
    (case kd => ktr_room)
    (case ku => ktr_units)
    intro D9 c9 oc9 ws9 qt9 ta9 tb9 h9 tk9 F9 N9 e19 e29 lt9 lL9 lc9
    (try k_lt lt9)
    (try k_lt2 lL9)
    (try k_lt2 lc9)
    (try dsimp only at N9)
    (try dsimp only)
    (try k_fold)
    k_steps
    rename_i kF8 kN8 Tc8 kX8
    intro hN
    have hg := hN _ (N9 _ (.tail _ (.tail _ (.head _)))).1
    exact hret _ c9 oc9 ws9 qt9 _ _ h9 _ kF8 (news_two (kN8 _ (.head _)) (kN8 _ (.tail _ (.head _))) hg) e19 e29 (fun q hq => Nat.lt_of_lt_of_le (Heap.lt_size (N q hq).1) (Nat.le_trans sz1 (Nat.le_of_lt lL9))) (Nat.lt_of_lt_of_le hLs (Nat.le_trans sz1 (Nat.le_of_lt lL9))) lc9
theorem c_id_np (w : World) (x b : Int) (t0 t1 : Tok) (hx : x < 0) (hb : 0 < b) (q r : Int) (hin : ∀ t0 t1, ConP w 92 82 720 [.int (-x - 1) t0, .int b t1] q r) :
  ConP w 92 84 740 [.int x t0, .int b t1] (-q - 1) (b + (-r - 1)) := by
  delta ConP theProg
  k_fill
  intro news g cc loose mean mg mb dp un gd cn cs a ccd cl outer A₀ base h₀ L m s Q E C U C2 h73 hcr B F X N T hkk hdp hun hret
  have hLs : L < s.heap.objs.size := F.ns.lt
  have hc66 := codeRec_tab hcr (upd_at N U)
  refine wpAny_call ?_
  (refine' code_topU ?en2k1 ?en2k2 ?en2k3 ?en2k4 ?en2k5 ?en2kU ?en2kA ?en2kF ?en2kK ?en2k6 ?en2k7 ?en2k8 ?en2k9 ?en2kB ?_ ?en2c2 ?en2c3 ?en2c4 ?en2c5; (case en2kA => exact rfl); (case en2kF => exact rfl); (case en2kK => first | exact rfl | assumption); (case en2k1 => k_asm); (case en2k2 => k_asm); (case en2k3 => k_asm); (case en2k4 => k_asm); (case en2k5 => k_asm); (case en2kU => assumption); (case en2k6 => k_is); (case en2k7 => k_is); (case en2k8 => ktr_room); (case en2k9 => exact BindsTo.of_eq rfl); (case en2kB => exact locs rfl); (case en2c2 => decide); (case en2c3 => exact rfl); (case en2c4 => exact rfl); (case en2c5 => exact rfl))
  walk_at "my_enterN"
  have C' := C.keeps (h' := _) (by assumption)
  rename_i G1 L1 hx1 F0 N0 B1 X1 T1 st1 old1 sz1
  have C2 := codeHd_ne C2 old1 (by decide)
  have h73 := old1 73 _ (by decide) h73
  have hcr := codeRec_ne hcr hc66 old1
  k_steps
  · exfalso
    omega
  · skip
    refine' (hin _ _) _ _ _ _ _ _ _ _ _ _ _ _ _ _ _ _ _ _ _ _ _ _ _ _ ?C ?U ?C2 ?h73 ?hcr ?k1 ?k2 ?k3 ?k4 ?k5 ?kK ?kd ?ku ?_
    (case k1 => k_asm)
    (case k2 => k_asm)
    (case k3 => k_asm)
    (case k4 => k_asm)
    (case k5 => k_asm)
    (case kK => first | exact rfl | assumption)
    (case C => assumption)
    (case U => k_updF)
    (case C2 => exact CodeHd.keeps (by assumption) (Fr.keep (by k_asm)))
    (case h73 => exact Fr.keep (by k_asm) _ _ (by assumption))
    (case hcr => exact PySem.Heap.CodeRec.keeps (by assumption) (Fr.keep (by k_asm)))
    (case kd => ktr_room)
    (case ku => ktr_units)
    intro D9 c9 oc9 ws9 qt9 ta9 tb9 h9 tk9 F9 N9 e19 e29 lt9 lL9 lc9
    (try k_lt lt9)
    (try k_lt2 lL9)
    (try k_lt2 lc9)
    (try dsimp only at N9)
    (try dsimp only)
    (try k_fold)
    k_steps
    rename_i D8 h8 F8 N8 l8 kF8 kN8 Tc8 kX8
    intro hN
    have hg := hN _ (N8 _ (.tail _ (.tail _ (.tail _ (.head _))))).1
    exact hret _ c9 oc9 ws9 qt9 _ _ h8 _ kF8 (news_two (kN8 _ (.head _)) (kN8 _ (.tail _ (.tail _ (.head _)))) hg) e19 e29 (fun q hq => Nat.lt_of_lt_of_le (Heap.lt_size (N q hq).1) (Nat.le_trans sz1 (Nat.le_of_lt lL9))) (Nat.lt_of_lt_of_le hLs (Nat.le_trans sz1 (Nat.le_of_lt lL9))) l8.2.1
theorem c_id_n (w : World) (x b : Int) (t0 t1 : Tok) (hb : b < 0) (q r : Int) (hin : ∀ t0 t1, ConP w 92 84 740 [.int (-x) t0, .int (-b) t1] q r) :
  ConP w 92 86 760 [.int x t0, .int b t1] q (-r) := by
  delta ConP theProg
  k_fill
  intro news g cc loose mean mg mb dp un gd cn cs a ccd cl outer A₀ base h₀ L m s Q E C U C2 h73 hcr B F X N T hkk hdp hun hret
  have hLs : L < s.heap.objs.size := F.ns.lt
  have hc66 := codeRec_tab hcr (upd_at N U)
  refine wpAny_call ?_
  (refine' code_topU ?en3k1 ?en3k2 ?en3k3 ?en3k4 ?en3k5 ?en3kU ?en3kA ?en3kF ?en3kK ?en3k6 ?en3k7 ?en3k8 ?en3k9 ?en3kB ?_ ?en3c2 ?en3c3 ?en3c4 ?en3c5; (case en3kA => exact rfl); (case en3kF => exact rfl); (case en3kK => first | exact rfl | assumption); (case en3k1 => k_asm); (case en3k2 => k_asm); (case en3k3 => k_asm); (case en3k4 => k_asm); (case en3k5 => k_asm); (case en3kU => assumption); (case en3k6 => k_is); (case en3k7 => k_is); (case en3k8 => ktr_room); (case en3k9 => exact BindsTo.of_eq rfl); (case en3kB => exact locs rfl); (case en3c2 => decide); (case en3c3 => exact rfl); (case en3c4 => exact rfl); (case en3c5 => exact rfl))
  walk_at "my_enterN"
  have C' := C.keeps (h' := _) (by assumption)
  rename_i G1 L1 hx1 F0 N0 B1 X1 T1 st1 old1 sz1
  have C2 := codeHd_ne C2 old1 (by decide)
  have h73 := old1 73 _ (by decide) h73
  have hcr := codeRec_ne hcr hc66 old1
  k_steps
  · exfalso
    omega
  · skip
    refine' (hin _ _) _ _ _ _ _ _ _ _ _ _ _ _ _ _ _ _ _ _ _ _ _ _ _ _ ?C ?U ?C2 ?h73 ?hcr ?k1 ?k2 ?k3 ?k4 ?k5 ?kK ?kd ?ku ?_
    (case k1 => k_asm)
    (case k2 => k_asm)
    (case k3 => k_asm)
    (case k4 => k_asm)
    (case k5 => k_asm)
    (case kK => first | exact rfl | assumption)
    (case C => assumption)
    (case U => k_updF)
    (case C2 => exact CodeHd.keeps (by assumption) (Fr.keep (by k_asm)))
    (case h73 => exact Fr.keep (by k_asm) _ _ (by assumption))
    (case hcr => exact PySem.Heap.CodeRec.keeps (by assumption) (Fr.keep (by k_asm)))
    (case kd => ktr_room)
    (case ku => ktr_units)
    intro D9 c9 oc9 ws9 qt9 ta9 tb9 h9 tk9 F9 N9 e19 e29 lt9 lL9 lc9
    (try k_lt lt9)
    (try k_lt2 lL9)
    (try k_lt2 lc9)
    (try dsimp only at N9)
    (try dsimp only)
    (try k_fold)
    k_steps
    rename_i D8 h8 F8 N8 l8 kF8 kN8 Tc8 kX8
    intro hN
    have hg := hN _ (N8 _ (.tail _ (.tail _ (.tail _ (.head _))))).1
    exact hret _ c9 oc9 ws9 qt9 _ _ h8 _ kF8 (news_two (kN8 _ (.head _)) (kN8 _ (.tail _ (.tail _ (.head _)))) hg) e19 e29 (fun q hq => Nat.lt_of_lt_of_le (Heap.lt_size (N q hq).1) (Nat.le_trans sz1 (Nat.le_of_lt lL9))) (Nat.lt_of_lt_of_le hLs (Nat.le_trans sz1 (Nat.le_of_lt lL9))) l8.2.1
end Mine
end
section
open PySem PySem.Spec PySem.Calls PySem.W PyProof.Rows
set_option linter.unusedVariables false
set_option maxRecDepth 100000
namespace Mine
theorem conP_mono {w : World} {f : Addr} {d d' u u' : Nat} {args : List Value} {q r : Int} (hd : d ≤ d') (hu : u ≤ u') (h : ConP w f d u args q r) : ConP w f d' u' args q r :=
  fun news g cc loose mean mg mb dp un gd cn cs a ccd cl outer A₀ base h₀ L m s Q E C U C2 h73 hcr B F X N T hk h1 h2 hret => h news g cc loose mean mg mb dp un gd cn cs a ccd cl outer A₀ base h₀ L m s Q E C U C2 h73 hcr B F X N T hk (by omega) (by omega) hret
theorem bits_pos {x : Nat} (h : 0 < x) : 0 < Builtin.Int.intBits (x : Int) := by
  rcases Nat.eq_zero_or_pos (Builtin.Int.intBits (x : Int)) with e | e
  · have := (intBits_le_iff (m := 0) (x := (x : Int))).mp (by omega)
    simp at this
    omega
  · exact e
theorem bits_ge {x m : Nat} (h : 2 ^ m ≤ x) : m < Builtin.Int.intBits (x : Int) := by
  rcases Nat.lt_or_ge m (Builtin.Int.intBits (x : Int)) with e | e
  · exact e
  · have := (intBits_le_iff (m := m) (x := (x : Int))).mp e
    rw [Int.natAbs_natCast] at this
    omega
theorem fit {x b : Nat} (hx : 0 < x) (hx2 : x < 2 ^ 400) (hb : 128 ≤ b) : ∃ k : Nat, ((Builtin.Int.intBits (x : Int) : Int) + (Builtin.Int.intBits (b : Int) : Int) - 1).fdiv (Builtin.Int.intBits (b : Int) : Int) = (k : Int) ∧ 0 < k ∧ k ≤ 60 ∧ x < 2 ^ (k * Builtin.Int.intBits (b : Int)) := by
  have h1 := bits_pos hx
  have h2 : Builtin.Int.intBits (x : Int) ≤ 400 := intBits_le_iff.mpr (by rw [Int.natAbs_natCast]; exact hx2)
  have h3 : 7 < Builtin.Int.intBits (b : Int) := bits_ge (m := 7) hb
  generalize hB : Builtin.Int.intBits (b : Int) = n at *
  generalize hX : Builtin.Int.intBits (x : Int) = c at *
  refine ⟨(c + n - 1) / n, ?_, ?_, ?_, ?_⟩
  · have e : ((c : Int) + (n : Int) - 1) = ((c + n - 1 : Nat) : Int) := by omega
    rw [e, Int.fdiv_eq_ediv_of_nonneg _ (Int.natCast_nonneg _)]
    norm_cast
  · exact Nat.div_pos (by omega) (by omega)
  · refine Nat.le_of_lt_succ (Nat.div_lt_of_lt_mul ?_)
    have : 8 * 61 ≤ n * 61 := Nat.mul_le_mul_right _ (by omega)
    omega
  · refine Nat.lt_of_lt_of_le (m := 2 ^ c) ?_ (Nat.pow_le_pow_right (by decide) ?_)
    · have := (intBits_le_iff (m := c) (x := (x : Int))).mp (by omega)
      rwa [Int.natAbs_natCast] at this
    · have h5 := Nat.div_add_mod (c + n - 1) n
      have h6 := Nat.mod_lt (c + n - 1) (show 0 < n by omega)
      rw [Nat.mul_comm] at h5
      omega
theorem c_id_nat (w : World) {x b : Nat} (hx : 0 < x) (hx2 : x < 2 ^ 400) (hb : 128 ≤ b) (hb2 : b < 1073741824) (t0 t1 : Tok) : ConP w 92 82 720 [.int (x : Int) t0, .int (b : Int) t1] ((x / b : Nat) : Int) ((x % b : Nat) : Int) := by
  obtain ⟨k, hk, hk0, hk60, hxk⟩ := fit hx hx2 hb
  exact c_id_pp w (x : Int) (b : Int) t0 t1 (by omega) (by omega) _ _ fun t0 t1 => c_dp w x b k t0 t1 hx (by omega) hb2 hk hk0 hk60 hxk
/-- a divisor above 0 -/
theorem c_id_pos (w : World) {b : Nat} {q : Int} (hq : q ≠ 0) (hx2 : q.natAbs * b < 2 ^ 400) (hb : 128 ≤ b) (hb2 : b < 1073741824) (t0 t1 : Tok) : ConP w 92 84 740 [.int (q * b) t0, .int (b : Int) t1] q 0 := by
  obtain ⟨y, hy⟩ := Int.natAbs_eq q |>.elim (fun e => ⟨q.natAbs, Or.inl e⟩) (fun e => ⟨q.natAbs, Or.inr e⟩) |> fun (h : ∃ y : Nat, q = (y : Int) ∨ q = -(y : Int)) => h
  have hy0 : 0 < y := by omega
  have hyb : y * b < 2 ^ 400 := by
    have : q.natAbs = y := by omega
    rwa [this] at hx2
  rcases hy with rfl | rfl
  · refine conP_mono (d := 82) (u := 720) (by decide) (by decide) ?_
    have := c_id_nat w (x := y * b) (b := b) (Nat.mul_pos hy0 (by omega)) hyb hb hb2 t0 t1
    rw [Nat.mul_div_cancel _ (by omega), Nat.mul_mod_left] at this
    rw [show ((y : Int) * (b : Int)) = ((y * b : Nat) : Int) by norm_cast]
    exact this
  · have hm : y * b = (y - 1) * b + b := by
      rw [← Nat.succ_mul]
      congr 1
      omega
    have hx : 0 < y * b - 1 := by omega
    have h1 : (y * b - 1) / b = y - 1 := by
      rw [hm]
      refine Nat.div_eq_of_lt_le ?_ ?_
      · omega
      · rw [Nat.succ_mul]; omega
    have h2 : (y * b - 1) % b = b - 1 := by
      have := Nat.div_add_mod (y * b - 1) b
      rw [h1, Nat.mul_comm] at this
      omega
    have h3 := c_id_nat w (x := y * b - 1) (b := b) hx (by omega) hb hb2
    rw [h1, h2] at h3
    have e0 : (-(y : Int)) * (b : Int) = -((y * b : Nat) : Int) := by rw [Int.neg_mul]; norm_cast
    have e1 : -(-((y * b : Nat) : Int)) - 1 = ((y * b - 1 : Nat) : Int) := by omega
    have := c_id_np w (-((y * b : Nat) : Int)) (b : Int) t0 t1 (by omega) (by omega) ((y - 1 : Nat) : Int) ((b - 1 : Nat) : Int) (by rw [e1]; exact h3)
    rw [show -(((y - 1 : Nat) : Int)) - 1 = -(y : Int) by omega, show (b : Int) + (-(((b - 1 : Nat) : Int)) - 1) = 0 by omega] at this
    rw [e0]
    exact this
theorem c_id (w : World) {d q : Int} (hq : q ≠ 0) (hx2 : q.natAbs * d.natAbs < 2 ^ 400) (hb : 128 ≤ d.natAbs) (hb2 : d.natAbs < 1073741824) (t0 t1 : Tok) : ConP w 92 86 760 [.int (q * d) t0, .int d t1] q 0 := by
  rcases Int.natAbs_eq d with e | e
  · refine conP_mono (d := 84) (u := 740) (by decide) (by decide) ?_
    have := c_id_pos w (b := d.natAbs) hq hx2 hb hb2 t0 t1
    rwa [← e] at this
  · have h := c_id_pos w (b := d.natAbs) hq hx2 hb hb2
    have e1 : (d.natAbs : Int) = -d := by omega
    rw [e1] at h
    have := c_id_n w (q * d) d t0 t1 (by omega) q 0 (by rw [show -(q * d) = q * -d by rw [Int.mul_neg]]; exact h)
    simpa using this
end Mine
end
section
open PySem PySem.Spec PySem.Calls PySem.W PyProof.Rows
set_option maxRecDepth 100000
set_option maxHeartbeats 8000000
set_option linter.unusedVariables false
namespace Mine
local macro_rules | `(tactic| walk_at "my_enter") => `(tactic| (k_whole; intro L' h' tk' cells' F' N' Y' B' X' T'; k_cells Y'; (try simp only [List.cons_append, List.nil_append] at N'); (try dsimp only); (try k_lift B'); (try k_fold)))
theorem listOf_arr {h₀ h : Heap} {L D : Addr} {news : List (Addr × Obj)} {a : Array Value} {c : Nat} (N : News h₀ L h news) (hm : (D, listOf a c) ∈ news) : h.IsList D a.toList.toArray := News.isList N hm
local macro_rules | `(tactic| walk_at "call builtin:sum") => `(tactic| (k_here; (refine LSm.sum_ints (by k_asm) (by k_asm) (by exact rfl) (by exact listOf_arr (by k_asm) (by k_mem)) (by exact IntsAre.pick (by assumption) _ _ _) ?_; k_whole); intro h' tk' t' F' N'))
theorem news_one {h₀ h : Heap} {L : Addr} {p : Addr × Obj} {l : List (Addr × Obj)} (hp : h.get? p.1 = some p.2 ∧ p.1 ≠ L ∧ h₀.get? p.1 = none) (N : News h₀ L h l) : News h₀ L h (p :: l) := by
  intro r hr
  rcases List.mem_cons.mp hr with rfl | hr
  · exact hp
  · exact N r hr
theorem c_row (w : World) (news : List (Addr × Obj)) (l : Addr) (ws : List Value) (ns : List Int) (hI : IntsAre ws ns) (hlen : ns.length ≤ 63) :
  ∀ (loose : List Str) (mean : ExcName → Option Value) (mg mb : Str → Option Value) (dp un : Nat) (gd : Option (List Code)) (cn : Str) (cs : Scope) (a : Addr) (ccd : Value) (cl : List (Str × Addr)) (outer : List Env) (A₀ : Around) (base h₀ : Heap) (L : Addr) (m : Str → Option Value) (s : Shared) (Q E : Value → Shared → Prop),
    s.heap.IsList l ws.toArray → Below A₀ base outer h₀ → Fr h₀ L s.heap m → (hdC.heap_39 w.params).In h₀ → News h₀ L s.heap news → Top topProg loose mean mg mb h₀ → cs.kind = .function →
    dp + 2 < recursionLimit → un + 16 < cLine →
    (∀ D (r0 r1 r2 r3 r4 r5 r6 r7 : Int) t0 t1 t2 t3 t4 t5 t6 t7 h' tk', (r0 = 0 ∨ r0 = 1) → (r1 = 0 ∨ r1 = 1) → (r2 = 0 ∨ r2 = 1) → (r3 = 0 ∨ r3 = 1) → (r4 = 0 ∨ r4 = 1) → (r5 = 0 ∨ r5 = 1) → (r6 = 0 ∨ r6 = 1) → (r7 = 0 ∨ r7 = 1) → Fr h₀ L h' m → News h₀ L h' ((D, listOf #[.int r0 t0, .int r1 t1, .int r2 t2, .int r3 t3, .int r4 t4, .int r5 t5, .int r6 t6, .int r7 t7] 8) :: news) → (∀ q ∈ news, q.1 ≠ D) → Q (.ref D) { s with heap := h', toks := tk' }) →
    wpAny (model theProg w) (ktrTop dp un gd cn cs L a ccd cl outer) (call (.ref 148) [.ref l]) Q E s := by
  w_top off
  delta theProg
  k_fill
  intro loose mean mg mb dp un gd cn cs a ccd cl outer A₀ base h₀ L m s Q E hl B F X N T hk hdp hun hret
  refine wpAny_call ?_
  (refine' code_top0C ?en1k1 ?en1k2 ?en1k3 ?en1k4 ?en1k5 ?en1kA ?en1kF ?en1kK ?en1k6 ?en1k7 ?en1k8 ?en1k9 ?en1kB ?en1kD ?_ ?en1c2 ?en1c3 ?en1c4; (case en1kA => exact rfl); (case en1kF => exact rfl); (case en1kK => first | exact rfl | assumption); (case en1k1 => k_asm); (case en1k2 => k_asm); (case en1k3 => k_asm); (case en1k4 => k_asm); (case en1k5 => k_asm); (case en1k6 => k_is); (case en1k7 => k_is); (case en1k8 => ktr_room); (case en1k9 => exact BindsTo.of_eq rfl); (case en1kB => exact rfl); (case en1kD => decide +kernel); (case en1c2 => exact rfl); (case en1c3 => exact rfl); (case en1c4 => exact rfl))
  walk_at "my_enter"
  k_steps
  rename_i hI8 hL8 D8 h8 tk8 F8 N8 o8 kF8 kN8 Tc8 kX8
  intro hN
  have hnone := (N8 _ (.head _)).2.2
  have hnews := kN8 _ (.head _)
  have hne : ∀ q ∈ news, q.1 ≠ D8 := fun q hq e => by
    have h1 := (N q hq).1
    rw [e] at h1
    have h2 : s.heap.get? D8 = none := hnone
    rw [h2] at h1
    cases h1
  clear F8 N8 kN8 o8
  rw [show rangeKs 0 (8 - 0 : Int).toNat = [0, 1, 2, 3, 4, 5, 6, 7] from by decide +kernel] at hI8
  simp only [List.map_cons, List.map_nil] at hI8
  have h2 : ∀ z : Int, z.fmod 2 = 0 ∨ z.fmod 2 = 1 := fun z => by
    have e : z.fmod 2 = z % 2 := Int.fmod_eq_emod_of_nonneg _ (by decide)
    rw [e]
    omega
  obtain ⟨t0, y0, rfl, g1⟩ := PyProof.Rows.IntsAre.cons_inv hI8
  obtain ⟨t1, y1, rfl, g2⟩ := PyProof.Rows.IntsAre.cons_inv g1
  obtain ⟨t2, y2, rfl, g3⟩ := PyProof.Rows.IntsAre.cons_inv g2
  obtain ⟨t3, y3, rfl, g4⟩ := PyProof.Rows.IntsAre.cons_inv g3
  obtain ⟨t4, y4, rfl, g5⟩ := PyProof.Rows.IntsAre.cons_inv g4
  obtain ⟨t5, y5, rfl, g6⟩ := PyProof.Rows.IntsAre.cons_inv g5
  obtain ⟨t6, y6, rfl, g7⟩ := PyProof.Rows.IntsAre.cons_inv g6
  obtain ⟨t7, y7, rfl, g8⟩ := PyProof.Rows.IntsAre.cons_inv g7
  cases g8
  exact hret D8 _ _ _ _ _ _ _ _ t0 t1 t2 t3 t4 t5 t6 t7 h8 _ (h2 _) (h2 _) (h2 _) (h2 _) (h2 _) (h2 _) (h2 _) (h2 _) kF8 (news_one hnews hN) hne
end Mine
end
section
open PySem PySem.Spec PySem.Calls PySem.W PyProof.Rows PyProof.Rows.LCg PyProof.Rows.LCt
set_option linter.unusedVariables false
set_option maxRecDepth 100000
namespace Mine
section
variable {prog : Program} {w : World} {A : Around} {s : Shared} {h₀ : Heap} {L : Addr} {m : Str → Option Value} {env : Env} {ct elt : Expr} {x : Str} {scope : Scope} {cl : List (Str × Addr)} {S : List (Addr × Obj) → Prop} {P : Nat → Value → Prop} {Fin : List Value → List (Addr × Obj) → Prop}
theorem compEnd_mono {I C D : Addr} {oI oC oD : Obj} {s₁ : Shared} {S : List (Addr × Obj) → Prop} {r r' : Value → List (Addr × Obj) → Prop} {y : Value} {s₂ : Shared} (h : CompEnd h₀ L m s₁ I oI C oC D oD S r y s₂) (k : ∀ n, r y n → r' y n) : CompEnd h₀ L m s₁ I oI C oC D oD S r' y s₂ := by
  obtain ⟨h', tk, n', e, F, N, off, hS, hr⟩ := h
  exact ⟨h', tk, n', e, F, N, off, hS, k _ hr⟩
theorem comp_loopT {n : Nat} (Inv : Nat → List Value → List (Addr × Obj) → Prop) (hend : ∀ ys news, Inv n ys news → Fin ys news)
    (hstep : ∀ i ys news, i < n → Inv i ys news → ∀ v I oI C oC D m₂ (s : Shared) (E' : Value → Shared → Prop), P i v → NsObj oC m₂ → m₂ x = some v → Fr h₀ L s.heap m → News h₀ L s.heap ((I, oI) :: (C, oC) :: (D, lst ys) :: news) → Off3 I C D news → ((@Ne Nat I C) ∧ (@Ne Nat I D) ∧ (@Ne Nat C D)) →
      wpAny (model prog w) A (isTrue ct (compEnvC scope cl C env) (eval ct (compEnvC scope cl C env))) (fun ok s' => if ok = true then
        wpAny (model prog w) A (eval elt (compEnvC scope cl C env)) (CompEnd h₀ L m s I oI C oC D (lst ys) S (fun y news' => Inv (i + 1) (ys ++ [y]) news')) E' s'
        else CompEnd h₀ L m s I oI C oC D (lst ys) S (fun _ news' => Inv (i + 1) ys news') Value.none s') E' s) :
    ∀ k i ys news, i + k = n → Inv i ys news → CompRestT prog w A h₀ L m env ct elt x scope cl s S P Fin k i ys news
  | 0, i, ys, news, e, h => by
    have e' : i = n := by omega
    subst e'
    exact CompRestT.zero (hend ys news h)
  | k + 1, i, ys, news, e, h => CompRestT.succ fun v I oI C oC D m₂ h' tk E' hP hC hx F N off ne =>
    wpAny_mono (hstep i ys news (by omega) h v I oI C oC D m₂ { s with heap := h', toks := tk } E' hP hC hx F N off ne) (fun ok s' q => by
      cases ok with
      | true =>
        rw [if_pos rfl] at q ⊢
        exact wpAny_mono q (fun y s₂ z => compEnd_mono z fun nn hi => comp_loopT Inv hend hstep k (i + 1) _ nn (by omega) hi) fun _ _ e => e
      | false =>
        rw [if_neg (by decide)] at q ⊢
        exact compEnd_mono q fun nn hi => comp_loopT Inv hend hstep k (i + 1) _ nn (by omega) hi) fun _ _ e => e
theorem comp_loop {n : Nat} (Inv : Nat → List Value → List (Addr × Obj) → Prop) (hend : ∀ ys news, Inv n ys news → Fin ys news)
    (hstep : ∀ i ys news, i < n → Inv i ys news → ∀ v I oI C oC D m₂ (s : Shared) (E' : Value → Shared → Prop), P i v → NsObj oC m₂ → m₂ x = some v → Fr h₀ L s.heap m → News h₀ L s.heap ((I, oI) :: (C, oC) :: (D, lst ys) :: news) → Off3 I C D news → ((@Ne Nat I C) ∧ (@Ne Nat I D) ∧ (@Ne Nat C D)) →
      wpAny (model prog w) A (eval elt (compEnvC scope cl C env)) (CompEnd h₀ L m s I oI C oC D (lst ys) S (fun y news' => Inv (i + 1) (ys ++ [y]) news')) E' s) :
    ∀ k i ys news, i + k = n → Inv i ys news → CompRest prog w A h₀ L m env elt x scope cl s S P Fin k i ys news
  | 0, i, ys, news, e, h => by
    have e' : i = n := by omega
    subst e'
    exact CompRest.zero (hend ys news h)
  | k + 1, i, ys, news, e, h => CompRest.succ fun v I oI C oC D m₂ h' tk E' hP hC hx F N off ne =>
    wpAny_mono (hstep i ys news (by omega) h v I oI C oC D m₂ { s with heap := h', toks := tk } E' hP hC hx F N off ne) (fun y s₂ z => compEnd_mono z fun nn hi => comp_loop Inv hend hstep k (i + 1) _ nn (by omega) hi) fun _ _ e => e
end
abbrev rngObj (n : Int) (t u v : Tok) : Obj := { cls := .type "range", data := .fields #[.int 0 t, .int n u, .int 1 v] }
theorem range1_L {prog : Program} {w : World} {A : Around} {E : Value → Shared → Prop} {s : Shared} {h₀ : Heap} {L : Addr} {m : Str → Option Value} {news : List (Addr × Obj)} {n : Int} {t : Tok} {Q : Value → Shared → Prop} (F : Fr h₀ L s.heap m) (N : News h₀ L s.heap news)
    (h : ∀ D h' tk t₁ v₁, Fr h₀ L h' m → News h₀ L h' ((D, rngObj n t₁ t v₁) :: news) → (∀ p ∈ news, p.1 < D) → Q (.ref D) { s with heap := h', toks := tk }) : wpAny (model prog w) A (call (.type "range") [.int n t]) Q E s :=
  call_range_1 (h _ _ _ _ _ (F.push _) (News.push F N _) fun p hp => Heap.lt_size (N p hp).1)
end Mine
end
section
open PySem PySem.Spec PySem.Calls PySem.W PyProof.Rows PyProof.Rows.LCg PyProof.Rows.LCt
set_option maxRecDepth 100000
set_option maxHeartbeats 8000000
set_option linter.unusedVariables false
namespace Mine
local macro_rules | `(tactic| walk_at "my_enter") => `(tactic| (k_whole; intro L' h' tk' cells' F' N' Y' B' X' T'; k_cells Y'; (try simp only [List.cons_append, List.nil_append] at N'); (try dsimp only); (try k_lift B'); (try k_fold)))
local macro_rules | `(tactic| walk_at "eval ListComp") => `(tactic| (k_here; k_dflt (refine LCt.ListComp_T (F₀ := by k_asm) (by with_unfolding_all rfl) (by decide) (by rfl) (by decide) (by rfl) ?_)))
local macro_rules | `(tactic| walk_at "CompSrcT") => `(tactic| fail "stop here")
local macro_rules | `(tactic| walk_at "call type:range") => `(tactic| (k_here; (with_reducible show wpAny _ _ (call (Value.type _) [Value.int _ _]) _ _ _); (refine range1_L (by k_asm) (by k_asm) ?_; k_whole); intro D' h' tk' t1' t2' F' N' l1; (try k_lt l1)))
set_option hygiene false in
local macro_rules | `(tactic| walk_at "subscriptTail Name Slice ref ref") => `(tactic| (k_dflt (refine' kmk_slice_ints ?zzF ?zzN ?zzl ?zzp ?zzq ?zzi ?zzm ?zzc ?_ ?zzs ?zzt ?zzz; (case zzF => k_asm); (case zzN => k_asm); (case zzl => exact Fr.lst (by k_asm) hlF); (case zzp => kmk_part); (case zzq => kmk_part); (case zzi => exact hrowF); (case zzm => exact IntsAre.pick hrowF _ _ _); (case zzc => exact rfl); (case zzt => kmk_pure); (case zzz => exact Nat.le_of_ble_eq_true rfl); (case zzs => with_unfolding_all rfl)); intro D9 ws9 h9 F9 N9 l9 hI9 hC9 hL9; (try k_lt l9)))
set_option hygiene false in
local macro_rules | `(tactic| walk_at "compareOp Eq ref ref") => `(tactic| (k_dflt (refine ke_eq_ints (by exact News.isList (by k_asm) (by k_mem)) (by exact News.isList (by k_asm) (by k_mem)) (by assumption) (by assumption) (by ktr_units) ?_)))
def ovI (ns : List Int) (st i : Nat) : Bool := decide (pickNums ns (some (0 + (i : Int))) (some (0 + (i : Int) + (st : Int) + 1)) none = pickNums ns (some (0 + (i : Int) + (st : Int))) (some (0 + (i : Int) + 2 * (st : Int) + 1)) none)
def ovN (ns : List Int) (st k : Nat) : List Int := ((List.range k).filter (ovI ns st)).map fun (i : Nat) => (i : Int)
theorem ovN_succ (ns : List Int) (st k : Nat) : ovN ns st (k + 1) = ovN ns st k ++ (if ovI ns st k then [(k : Int)] else []) := by
  unfold ovN
  rw [List.range_succ, List.filter_append, List.map_append]
  congr 1
  cases h : ovI ns st k <;> simp [List.filter, h]
def OvInv (ns : List Int) (st : Nat) (sub : List (Addr × Obj)) (i : Nat) (ys : List Value) (news : List (Addr × Obj)) : Prop := IntsAre ys (ovN ns st i) ∧ ∀ q ∈ sub, q ∈ news
theorem c_ov (w : World) (news : List (Addr × Obj)) (l : Addr) (r0 r1 r2 r3 r4 r5 r6 r7 : Int) (t0 t1 t2 t3 t4 t5 t6 t7 ts : Tok) (st : Nat) (hst : 1 ≤ st ∧ st ≤ 3) :
  ∀ (loose : List Str) (mean : ExcName → Option Value) (mg mb : Str → Option Value) (dp un : Nat) (gd : Option (List Code)) (cn : Str) (cs : Scope) (a : Addr) (ccd : Value) (cl : List (Str × Addr)) (outer : List Env) (A₀ : Around) (base h₀ : Heap) (L : Addr) (m : Str → Option Value) (s : Shared) (Q E : Value → Shared → Prop),
    s.heap.IsList l [.int r0 t0, .int r1 t1, .int r2 t2, .int r3 t3, .int r4 t4, .int r5 t5, .int r6 t6, .int r7 t7].toArray → Below A₀ base outer h₀ → Fr h₀ L s.heap m → (hdC.heap_39 w.params).In h₀ → News h₀ L s.heap news → Top topProg loose mean mg mb h₀ → cs.kind = .function →
    dp + 2 < recursionLimit → un + 200 < cLine →
    (∀ D ws h' tk', IntsAre ws (ovN [r0, r1, r2, r3, r4, r5, r6, r7] st (8 - 2 * st)) → Fr h₀ L h' m → News h₀ L h' ((D, lst ws) :: news) → (∀ q ∈ news, q.1 ≠ D) → Q (.ref D) { s with heap := h', toks := tk' }) →
    wpAny (model theProg w) (ktrTop dp un gd cn cs L a ccd cl outer) (call (.ref 153) [.ref l, .int (st : Int) ts]) Q E s := by
  w_top off
  have hrowF : IntsAre [.int r0 t0, .int r1 t1, .int r2 t2, .int r3 t3, .int r4 t4, .int r5 t5, .int r6 t6, .int r7 t7] [r0, r1, r2, r3, r4, r5, r6, r7] := .cons _ _ (.cons _ _ (.cons _ _ (.cons _ _ (.cons _ _ (.cons _ _ (.cons _ _ (.cons _ _ .nil)))))))
  delta theProg
  k_fill
  intro loose mean mg mb dp un gd cn cs a ccd cl outer A₀ base h₀ L m sO Q E hlF B F X N T hk hdp hun hret
  refine wpAny_call ?_
  (refine' code_top0C ?en1k1 ?en1k2 ?en1k3 ?en1k4 ?en1k5 ?en1kA ?en1kF ?en1kK ?en1k6 ?en1k7 ?en1k8 ?en1k9 ?en1kB ?en1kD ?_ ?en1c2 ?en1c3 ?en1c4; (case en1kA => exact rfl); (case en1kF => exact rfl); (case en1kK => first | exact rfl | assumption); (case en1k1 => k_asm); (case en1k2 => k_asm); (case en1k3 => k_asm); (case en1k4 => k_asm); (case en1k5 => k_asm); (case en1k6 => k_is); (case en1k7 => k_is); (case en1k8 => ktr_room); (case en1k9 => exact BindsTo.of_eq rfl); (case en1kB => exact rfl); (case en1kD => decide +kernel); (case en1c2 => exact rfl); (case en1c3 => exact rfl); (case en1c4 => exact rfl))
  walk_at "my_enter"
  k_steps
  rename_i L1 h1 tk1 B1 X1 T1 oA oB dA dB D1 h2 tk2 u1 u2 l1 h3 F3 N3
  refine LCt.CompSrcT.range (n := 8 - 2 * st) rfl F3 N3 (N3 _ (.head _)).1 ?small ?size ?sz ?_
  case sz => rw [sizeLine_eq]; omega
  case small =>
    have : st = 1 ∨ st = 2 ∨ st = 3 := by omega
    rcases this with rfl | rfl | rfl <;> decide +kernel
  case size =>
    have : st = 1 ∨ st = 2 ∨ st = 3 := by omega
    rcases this with rfl | rfl | rfl <;> decide +kernel
  intro g'
  refine comp_loopT (n := 8 - 2 * st) (OvInv [r0, r1, r2, r3, r4, r5, r6, r7] st [(L1 + 1 + 1, oA), (L1 + 1, oB)]) ?hend ?hstep _ 0 [] _ (by omega) ?h0
  case h0 => exact ⟨.nil, fun q hq => .tail _ hq⟩
  case hend =>
    intro ys ns hinv
    unfold LCg.FinE
    k_steps
    rename_i D5 h5 tk5 F5 N5 o5 kF5 kN5 Tc5 kX5
    intro hN
    have hnone := (N5 _ (.head _)).2.2
    refine hret D5 ys h5 _ hinv.1 kF5 (news_one (kN5 _ (.head _)) hN) fun q hq e => ?_
    have h1 := (N q hq).1
    rw [e, hnone] at h1
    cases h1
  case hstep =>
    rintro i ys ns hi ⟨hy, hsub⟩ v I oI C oC D m₂ s E' ⟨tv, rfl⟩ hC hx F N off ne
    have N2 : News sO.heap L1 s.heap [(I, oI), (C, oC), (D, lst ys), (L1 + 1 + 1, oA), (L1 + 1, oB)] := fun q hq => by
      rcases List.mem_cons.mp hq with rfl | hq
      · exact N _ (.head _)
      · rcases List.mem_cons.mp hq with rfl | hq
        · exact N _ (.tail _ (.head _))
        · rcases List.mem_cons.mp hq with rfl | hq
          · exact N _ (.tail _ (.tail _ (.head _)))
          · exact N _ (.tail _ (.tail _ (.tail _ (hsub q hq))))
    clear N
    k_steps
    · rename_i F9 N9 _ _ _ _ ha
      refine LCg.CompEnd.intro F9 N9 [(L1 + 1 + 1, oA), (L1 + 1, oB)] ?_ (LCg.Off3.of fun p hp => off.mem p (hsub p hp)) trivial ⟨?_, fun q hq => hq⟩
      · intro p hp
        exact .tail _ (.tail _ hp)
      · rw [ovN_succ, if_pos (by unfold ovI; exact decide_eq_true ha)]
        refine IntsAre.append hy ?_
        rw [Int.zero_add (i : Int)]
        exact .cons _ _ .nil
    · rename_i F9 N9 _ _ _ _ ha
      refine LCg.CompEnd.intro F9 N9 [(L1 + 1 + 1, oA), (L1 + 1, oB)] ?_ (LCg.Off3.of fun p hp => off.mem p (hsub p hp)) trivial ⟨?_, fun q hq => hq⟩
      · intro p hp
        exact .tail _ (.tail _ hp)
      · rw [ovN_succ, if_neg (by unfold ovI; simpa using ha), List.append_nil]
        exact hy
end Mine
end
section
open PySem PySem.Spec PySem.Calls PySem.W PyProof.Rows PySem.Builtin.Str
set_option linter.unusedVariables false
set_option maxRecDepth 100000
namespace Mine
/-- the places at which a sign stands -/
def posOf (m : Nat) : Nat → List Nat → List Nat
  | _, [] => []
  | i, x :: r => if x = m then i :: posOf m (i + 1) r else posOf m (i + 1) r
theorem occ_step (l : List Nat) (m limit : Nat) : ∀ (k i free : Nat) (found : Array Nat), i + k = l.length + 1 → free ≤ i →
    (forIn (List.range' i k) (found, free) (StrLaws.occBody ⟨l.toArray⟩ ⟨#[m]⟩ l.length limit)).run.fst.toList = found.toList ++ (posOf m i (l.drop i)).take (limit - found.size)
  | 0, i, free, found, e, hf => by
    have : l.drop i = [] := List.drop_eq_nil_of_le (by omega)
    rw [this]
    simp [posOf]
  | k + 1, i, free, found, e, hf => by
    rw [List.range'_succ, List.forIn_cons]
    have hone := StrLaws.subAt_one ⟨l.toArray⟩ m i
    have hlen : (⟨l.toArray⟩ : Str).length = l.length := by simp [Str.length]
    rw [hlen] at hone
    have hl : ((⟨l.toArray⟩ : Str).cps.toList) = l := rfl
    rw [hl] at hone
    unfold StrLaws.occBody
    by_cases hi : i < l.length
    · obtain ⟨x, r, hx⟩ : ∃ x r, l.drop i = x :: r := ⟨l[i], l.drop (i + 1), List.drop_eq_getElem_cons hi⟩
      have hx0 : l[i]? = some x := by rw [← List.head?_drop, hx]; rfl
      have hr : l.drop (i + 1) = r := by rw [← List.tail_drop, hx]; rfl
      rw [hx, posOf]
      by_cases hm : x = m
      · subst hm
        rw [if_pos rfl]
        have hs := hone.mpr hx0
        by_cases hz : found.size < limit
        · rw [if_pos ⟨⟨⟨hz, hf⟩, hs.1⟩, hs.2⟩]
          have ih := occ_step l x limit k (i + 1) (i + 1) (found.push i) (by omega) (Nat.le_refl _)
          refine Eq.trans ih ?_
          rw [hr, Array.toList_push, Array.size_push, List.append_assoc]
          obtain ⟨d, hd⟩ : ∃ d, limit - found.size = d + 1 := ⟨limit - found.size - 1, by omega⟩
          rw [hd, show limit - (found.size + 1) = d by omega]
          rfl
        · rw [if_neg (fun h => hz h.1.1.1)]
          have ih := occ_step l x limit k (i + 1) free found (by omega) (by omega)
          refine Eq.trans ih ?_
          rw [show limit - found.size = 0 by omega]
          rfl
      · rw [if_neg hm, if_neg (fun h => hm (Option.some.inj (hx0.symm.trans (hone.mp ⟨h.1.2, h.2⟩))))]
        have ih := occ_step l m limit k (i + 1) free found (by omega) (by omega)
        refine Eq.trans ih ?_
        rw [hr]
    · have hd : l.drop i = [] := List.drop_eq_nil_of_le (by omega)
      have hd1 : l.drop (i + 1) = [] := List.drop_eq_nil_of_le (by omega)
      rw [if_neg (fun h => by have := h.1.2; simp [Str.length] at this; omega)]
      have ih := occ_step l m limit k (i + 1) free found (by omega) (by omega)
      refine Eq.trans ih ?_
      rw [hd, hd1]
      rfl
theorem occ_one (l : List Nat) (m lo limit : Nat) (h : lo ≤ l.length) : occurrences ⟨l.toArray⟩ ⟨#[m]⟩ lo (⟨l.toArray⟩ : Str).length limit = (posOf m lo (l.drop lo)).take limit := by
  have hlen : (⟨l.toArray⟩ : Str).length = l.length := by simp [Str.length]
  rw [StrLaws.occ_eq, hlen]
  have := occ_step l m limit (l.length + 1 - lo) lo lo #[] (by omega) (Nat.le_refl _)
  refine Eq.trans this ?_
  simp
theorem posOf_app (m : Nat) : ∀ (a b : List Nat) (i : Nat), posOf m i (a ++ b) = posOf m i a ++ posOf m (i + a.length) b
  | [], b, i => rfl
  | x :: a, b, i => by
    rw [List.cons_append, posOf, posOf, posOf_app m a b (i + 1), show i + (x :: a).length = i + 1 + a.length by simp; omega]
    split <;> rfl
theorem posOf_none (m : Nat) : ∀ (a : List Nat) (i : Nat), m ∉ a → posOf m i a = []
  | [], _, _ => rfl
  | x :: a, i, h => by
    have hne : ¬ x = m := fun e => h (by rw [e]; exact List.mem_cons_self)
    rw [posOf, if_neg hne, posOf_none m a (i + 1) fun q => h (List.mem_cons_of_mem _ q)]
theorem posOf_len (m : Nat) : ∀ (a : List Nat) (i : Nat), (posOf m i a).length = a.count m
  | [], _ => rfl
  | x :: a, i => by
    rw [posOf, List.count_cons]
    by_cases h : x = m
    · subst h
      rw [if_pos rfl, List.length_cons, posOf_len x a]
      simp
    · rw [if_neg h, posOf_len m a]
      simp [h]
/-- the reply about a body -/
def repl (body : List Nat) : Str := ⟨([50, 50, 57, 32, 111, 107, 32, 40] ++ body ++ [41]).toArray⟩
theorem repl_len (body : List Nat) : (repl body).length = body.length + 9 := by
  simp [repl, Str.length]
theorem slice_cut (l : List Nat) (a b : Nat) (hab : a ≤ b) (hb : b ≤ l.length) : Txt.slice ⟨l.toArray⟩ (some (a : Int)) (some (b : Int)) = ⟨((l.drop a).take (b - a)).toArray⟩ :=
  StrLaws.sliceText_nat ⟨l.toArray⟩ hab (by simpa [Str.length] using hb)
theorem repl_sl (body : List Nat) : Txt.slice (repl body) none (some 3) = Str.ofString "229" := by
  have e : Txt.slice (repl body) none (some 3) = Txt.slice (repl body) (some ((0 : Nat) : Int)) (some ((3 : Nat) : Int)) := by
    unfold Txt.slice
    rw [StrLaws.sliceIdx_none_lo]
    rfl
  rw [e, repl, slice_cut _ 0 3 (by decide) (by simp)]
  simp only [List.cons_append, List.nil_append, List.drop_zero, List.take_succ_cons, Nat.sub_zero, List.take_zero]
  decide +kernel
theorem repl_find (body : List Nat) : Txt.find (repl body) (Str.ofString "(") = 7 := by
  have e : Str.ofString "(" = ⟨#[40]⟩ := by decide +kernel
  rw [e]
  unfold Txt.find repl
  rw [occ_one _ 40 0 1 (Nat.zero_le _)]
  rfl
theorem repl_find3 (body : List Nat) (h : 41 ∉ body) : Txt.find3 (repl body) (Str.ofString ")") 8 = ((8 + body.length : Nat) : Int) := by
  have e : Str.ofString ")" = ⟨#[41]⟩ := by decide +kernel
  rw [e]
  unfold Txt.find3
  have hl := repl_len body
  have hf : fromIndex (repl body).length 8 = 8 := by
    rw [hl]
    unfold fromIndex
    omega
  rw [hf]
  unfold repl
  have e1 : ([50, 50, 57, 32, 111, 107, 32, 40] ++ body ++ [41]).drop 8 = body ++ [41] := rfl
  rw [occ_one _ 41 8 1 (by simp), e1]
  rw [posOf_app, posOf_none 41 body 8 h]
  rfl
theorem item_at (l : List Nat) (i : Nat) (m : Nat) (h : l[i]? = some m) : Txt.item ⟨l.toArray⟩ (i : Int) = ⟨#[m]⟩ := by
  have hi : i < l.length := (List.getElem?_eq_some_iff.mp h).1
  unfold Txt.item Txt.charAt
  have hs : seqIndex? (i : Int) (⟨l.toArray⟩ : Str).length = some i := by
    have hlen : (⟨l.toArray⟩ : Str).length = l.length := by simp [Str.length]
    rw [hlen]
    have hn : ¬ (i : Int) < 0 := by omega
    have hp : (decide (0 ≤ (i : Int)) && decide ((i : Int) < (l.length : Int))) = true := by
      rw [Bool.and_eq_true, decide_eq_true_eq, decide_eq_true_eq]; omega
    unfold seqIndex?
    simp only [if_neg hn, hp, if_true]
    rfl
  rw [hs]
  show (⟨#[((l.toArray)[i]?).getD 0]⟩ : Str) = _
  rw [List.getElem?_toArray, h]
  rfl
theorem repl_first (m : Nat) (r : List Nat) : Txt.item (repl (m :: r)) 8 = ⟨#[m]⟩ := item_at _ 8 m rfl
theorem repl_last (a : List Nat) (m : Nat) : Txt.item (repl (a ++ [m])) (((8 + (a ++ [m]).length : Nat) : Int) - 1) = ⟨#[m]⟩ := by
  have e : (((8 + (a ++ [m]).length : Nat) : Int) - 1) = ((8 + a.length : Nat) : Int) := by simp; omega
  rw [e]
  refine item_at _ _ m ?_
  rw [show [50, 50, 57, 32, 111, 107, 32, 40] ++ (a ++ [m]) ++ [41] = ([50, 50, 57, 32, 111, 107, 32, 40] ++ a) ++ (m :: [41]) by simp]
  rw [List.getElem?_append_right (by simp; omega)]
  simp
  rw [show 8 + a.length - (a.length + 8) = 0 by omega]
  rfl
theorem repl_body (body : List Nat) : Txt.slice (repl body) (some 8) (some ((8 + body.length : Nat) : Int)) = ⟨body.toArray⟩ := by
  rw [show (8 : Int) = ((8 : Nat) : Int) from rfl, repl, slice_cut _ 8 (8 + body.length) (by omega) (by simp; omega)]
  have e1 : ([50, 50, 57, 32, 111, 107, 32, 40] ++ body ++ [41]).drop 8 = body ++ [41] := rfl
  have e2 : 8 + body.length - 8 = body.length := by omega
  rw [e1, e2]
  simp
theorem kind_one (l : List Nat) (h : ∀ x ∈ l, x < 256) : Builtin.Str.strKind ⟨l.toArray⟩ = 1 := by
  unfold Builtin.Str.strKind
  rw [if_pos]
  simpa using h
theorem split_eq (l : List Nat) (m : Nat) (h : ∀ x ∈ l, x < 256) (hm : m ∈ l) : Txt.split ⟨l.toArray⟩ ⟨#[m]⟩ = partsBetween ⟨l.toArray⟩ (posOf m 0 l) 1 := by
  have hlen : (⟨l.toArray⟩ : Str).length = l.length := by simp [Str.length]
  have hpos : 0 < l.length := List.length_pos_of_mem hm
  have hocc : occurrences ⟨l.toArray⟩ ⟨#[m]⟩ 0 (⟨l.toArray⟩ : Str).length ((⟨l.toArray⟩ : Str).length + 1) = posOf m 0 l := by
    rw [occ_one _ _ _ _ (Nat.zero_le _), List.drop_zero]
    refine List.take_of_length_le ?_
    rw [posOf_len, hlen]
    exact Nat.le_succ_of_le List.count_le_length
  unfold Txt.split
  have k1 := kind_one l h
  have k2 : Builtin.Str.strKind ⟨#[m]⟩ = 1 := kind_one [m] (by simpa using h m hm)
  rw [hocc, k1, k2, hlen]
  have c1 : (decide (l.length < (⟨#[m]⟩ : Str).length) || decide (1 < 1)) = false := by
    have e1 : (⟨#[m]⟩ : Str).length = 1 := rfl
    rw [e1, decide_eq_false (by omega)]
    rfl
  rw [if_neg (by rw [c1]; decide)]
  have c2 : (posOf m 0 l).isEmpty = false := by
    rw [List.isEmpty_eq_false_iff]
    intro e
    have := posOf_len m l 0
    rw [e] at this
    have h3 := List.count_pos_iff.mpr hm
    simp at this
    omega
  rw [if_neg (by rw [c2]; decide)]
  rfl
theorem split_len (l : List Nat) (m : Nat) (h : ∀ x ∈ l, x < 256) (hm : m ∈ l) : (Txt.split ⟨l.toArray⟩ ⟨#[m]⟩).length = l.count m + 1 := by
  rw [split_eq l m h hm]
  unfold partsBetween
  simp [posOf_len]
def repBody (m c g1 g2 g3 : Nat) : List Nat := m :: (List.replicate g1 c ++ m :: (List.replicate g2 c ++ m :: (List.replicate g3 c ++ [m])))
theorem rep_pos (m c g1 g2 g3 : Nat) (h : c ≠ m) : posOf m 0 (repBody m c g1 g2 g3) = [0, 1 + g1, 2 + g1 + g2, 3 + g1 + g2 + g3] := by
  have hn : ∀ g, m ∉ List.replicate g c := fun g q => h (List.eq_of_mem_replicate q).symm
  unfold repBody
  rw [posOf, if_pos rfl, posOf_app, posOf_none _ _ _ (hn _), List.nil_append, posOf, if_pos rfl, posOf_app, posOf_none _ _ _ (hn _), List.nil_append, posOf, if_pos rfl, posOf_app, posOf_none _ _ _ (hn _), List.nil_append, posOf, if_pos rfl, posOf]
  simp
  omega
theorem rep_split (m c g1 g2 g3 : Nat) (hm : m < 256) (hc : c < 256) (h : c ≠ m) (h1 : g1 ≤ 2) (h2 : g2 ≤ 2) (h3 : g3 ≤ 2) :
    Txt.split ⟨(repBody m c g1 g2 g3).toArray⟩ ⟨#[m]⟩ = [⟨#[]⟩, ⟨(List.replicate g1 c).toArray⟩, ⟨(List.replicate g2 c).toArray⟩, ⟨(List.replicate g3 c).toArray⟩, ⟨#[]⟩] := by
  rw [split_eq _ _ (by
    intro x hx
    unfold repBody at hx
    simp only [List.mem_cons, List.mem_append, List.mem_replicate, List.not_mem_nil, or_false] at hx
    omega) (by unfold repBody; exact List.mem_cons_self), rep_pos m c g1 g2 g3 h]
  have a1 : g1 = 0 ∨ g1 = 1 ∨ g1 = 2 := by omega
  have a2 : g2 = 0 ∨ g2 = 1 ∨ g2 = 2 := by omega
  have a3 : g3 = 0 ∨ g3 = 1 ∨ g3 = 2 := by omega
  rcases a1 with rfl | rfl | rfl <;> rcases a2 with rfl | rfl | rfl <;> rcases a3 with rfl | rfl | rfl <;> rfl
theorem rep_len (m c g1 g2 g3 : Nat) : (repBody m c g1 g2 g3).length = 4 + g1 + g2 + g3 := by
  simp [repBody]
  omega
theorem rep_snoc (m c g1 g2 g3 : Nat) : repBody m c g1 g2 g3 = (m :: (List.replicate g1 c ++ m :: (List.replicate g2 c ++ m :: List.replicate g3 c))) ++ [m] := by
  simp [repBody]
end Mine
end
section
open PySem PySem.Spec PySem.Calls PySem.W PyProof.Rows PyProof.Rows.LCg
set_option linter.unusedVariables false
set_option maxRecDepth 100000
namespace Mine
theorem mono_never {α : Type} {M : Model} {A : Around} {t : Sem α} {Q : α → Shared → Prop} {E : Value → Shared → Prop} {s : Shared} (h : wpAny M A t Q (fun _ _ => False) s) : wpAny M A t Q E s := wpAny_mono h (fun _ _ q => q) fun _ _ e => e.elim
section
variable {G H h : Heap} {L LL e : Addr} {m : Str → Option Value} {env lenv : Env} {oL : Obj} {news : List (Addr × Obj)}
theorem ne_frame {b : Addr} (hf : env.frame = some L) (hl : lenv.frame = some LL) (h1 : b ≠ L) (h2 : b ≠ LL) : b ∉ [env, lenv].filterMap (·.frame) := by
  simp only [List.filterMap_cons, hf, hl, List.filterMap_nil, List.mem_cons, List.not_mem_nil, or_false]
  exact fun q => q.elim h1 h2
/-- behind a catch: the frame as it was, the ledger with the caller's frame object turned in its slots alone -/
theorem landed {B : Heap} (hf : env.frame = some L) (hl : lenv.frame = some LL) (hB : ∀ b o, H.get? b = some o → b ∉ [env, lenv].filterMap (·.frame) → B.get? b = some o) (hBh : B.StaysIn h) (sm : H.UpToSlots h)
    (F : Fr G L H m) (N : News G L H ((LL, oL) :: news)) (hG : G.get? LL = none) (hd : ∀ vs, oL.data ≠ .fields vs) (off : ∀ q ∈ news, q.1 ≠ LL) :
    Fr G L h m ∧ ∃ sl, News G L h ((LL, { oL with slots := sl }) :: news) := by
  have z := N (LL, oL) (.head _)
  obtain ⟨sl, hs⟩ := sm LL oL z.1 hd
  refine ⟨F.of_stays (fun b o q => ?_) sm, sl, fun p hp => ?_⟩
  · refine hBh b o (hB b o (F.keep b o q) (ne_frame hf hl (fun x => ?_) fun x => ?_))
    · rw [x, kts_self F] at q; cases q
    · rw [x, hG] at q; cases q
  · rcases List.mem_cons.mp hp with rfl | hp
    · exact ⟨hs, z.2⟩
    · have y := N p (.tail _ hp)
      exact ⟨hBh _ _ (hB _ _ y.1 (ne_frame hf hl y.2.1 (off p hp))), y.2⟩
end
section
variable {prog : Program} {w : World} {A : Around} {E : Value → Shared → Prop} {s' : Shared} {base G H : Heap} {L LL a e t : Addr} {m : Str → Option Value} {cn : Str} {cs : Scope} {ccd : Value} {cl : List (Str × Addr)} {lenv : Env} {oL : Obj}
  {vs : List Value} {b₀ : Stmt} {suite : List Stmt} {pos np : Pos} {rest : List ExceptHandler} {Q : Flow → Shared → Prop} {nn news : List (Addr × Obj)} {KF : Frag} {C : Addr} {bmB : List Value} {newId : String}
  {p : Program} {loose : List Str} {mean : ExcName → Option Value} {mg mb : Str → Option Value} {x : Str} {X T' : String}
theorem caught_LN (hfr : A.frames = some [envX cn cs L a ccd cl, lenv]) (hl : lenv.frame = some LL) (R : RaisedSN base H [envX cn cs L a ccd cl, lenv] e (.type X) nn s'.heap) (sm : H.UpToSlots s'.heap)
    (F : Fr G L H m) (N : News G L H ((LL, oL) :: news)) (hG : G.get? LL = none) (hd : ∀ vs, oL.data ≠ .fields vs) (off : ∀ q ∈ news, q.1 ≠ LL) (XG : KF.In G) (T : TopRead p loose mg mb G)
    (ex : nsIn KF mainGlobals x = some none) (hv : bootBuiltins x = some (.type T')) (hn' : x ≠ "__name__")
    (hexc : isSubtype (.type T') (.type "BaseException") = pure true) (hnt : isSubtype (.type ((Manifest.find? T').elim "type" fun y => y.metatype)) (.type "tuple") = pure false) (hsub : isSubtype (.type X) (.type T') = pure true)
    (k : ∀ h' sl, Fr G L h' m → News G L h' ((LL, { oL with slots := sl }) :: news) → wpAny (model prog w) (A.mark (some (.ref e))) (execs (b₀ :: suite) (envX cn cs L a ccd cl)) Q (fun _ _ => False) { s' with heap := h' })
    (hk : cs.kind = .function := by rfl) (hx : (envX cn cs L a ccd cl).kindOf x = some .globalImplicit := by rfl) (hdb : (x == ("__debug__" : Str)) = false := by decide) :
    wpAny (model prog w) A (noteFrame (.ref e) (envX cn cs L a ccd cl))
      (fun _ s₂ => wpAny (model prog w) A (setFlight (.ref e) none) (fun _ s₃ =>
        wpAny (model prog w) A (handleBy (.ref e) (envX cn cs L a ccd cl) (.ExceptHandler (some (.Name x np)) none (b₀ :: suite) pos :: rest)) Q E s₃) E s₂) E s' := by
  obtain ⟨B, a0, hB, hBG, hl', hfl⟩ := R
  refine wpAny_looks_onW hfr rfl hfl fun h₄ hheld₄ hsm₄ => ?_
  refine wpAny_landsW hheld₄ fun h₅ hheld hsm₅' => ?_
  have hsm₅ := hsm₄.trans hsm₅'
  obtain ⟨F₅, sl₅, N₅⟩ := landed rfl hl hBG hheld.1 (sm.trans hsm₅) F N hG hd off
  obtain ⟨ob, hob, hobc⟩ := hheld.there
  refine wpAny_handleBy_builtin (X := X) (T := T') (b := true) hexc hnt hsub (nameX_B F₅ XG T ex hv hn' ⟨rfl, ⟨ob, hob, hobc⟩, ?_⟩ hk hx hdb)
  refine lands_againW hheld fun h₆ hfl₆ hsm₆ => ?_
  obtain ⟨F₆, sl₆, N₆⟩ := landed rfl hl hBG hfl₆.1 ((sm.trans hsm₅).trans hsm₆) F N hG hd off
  exact mono_never (k h₆ sl₆ F₆ N₆)
theorem caught_LO (hfr : A.frames = some [envX cn cs L a ccd cl, lenv]) (hl : lenv.frame = some LL) (R : RaisedS base H [envX cn cs L a ccd cl, lenv] e (.ref C) t vs nn s'.heap) (sm : H.UpToSlots s'.heap)
    (F : Fr G L H m) (N : News G L H ((LL, oL) :: news)) (hG : G.get? LL = none) (hd : ∀ vs, oL.data ≠ .fields vs) (off : ∀ q ∈ news, q.1 ≠ LL) (XG : KF.In G) (T : TopRead p loose mg mb G)
    (ex : nsIn KF mainGlobals x = some (some (.ref C))) (q : excIn KF C bmB newId = true) (hbase : bmB.contains (.type "BaseException") = true)
    (k : ∀ h' sl, Fr G L h' m → News G L h' ((LL, { oL with slots := sl }) :: news) → wpAny (model prog w) (A.mark (some (.ref e))) (execs (b₀ :: suite) (envX cn cs L a ccd cl)) Q (fun _ _ => False) { s' with heap := h' })
    (hk : cs.kind = .function := by rfl) (hx : (envX cn cs L a ccd cl).kindOf x = some .globalImplicit := by rfl) (hdb : (x == ("__debug__" : Str)) = false := by decide) :
    wpAny (model prog w) A (noteFrame (.ref e) (envX cn cs L a ccd cl))
      (fun _ s₂ => wpAny (model prog w) A (setFlight (.ref e) none) (fun _ s₃ =>
        wpAny (model prog w) A (handleBy (.ref e) (envX cn cs L a ccd cl) (.ExceptHandler (some (.Name x np)) none (b₀ :: suite) pos :: rest)) Q E s₃) E s₂) E s' := by
  obtain ⟨⟨B, hB, hBG, hl', hfl, hnew⟩, htup⟩ := R
  refine wpAny_looks_onW hfr rfl hfl fun h₄ hheld₄ hsm₄ => ?_
  refine wpAny_landsW hheld₄ fun h₅ hheld hsm₅' => ?_
  have hsm₅ := hsm₄.trans hsm₅'
  obtain ⟨F₅, sl₅, N₅⟩ := landed rfl hl hBG hheld.1 (sm.trans hsm₅) F N hG hd off
  obtain ⟨ob, hob, hobc⟩ := hheld.there
  refine wpAny_handleBy_cons (codeAny_handlers_test (nameX_K F₅ XG T ex ?_ hk hx hdb)) (by intro q; cases q)
  obtain ⟨bm, N', nm, qn, bs, hdct, sn, sub, ab, col, dd, k0, k1, k2, k3, k5, mN, hC, hN, hni, TL⟩ := ((own_of_in XG T ex q).keeps F₅.keep).obj
  refine wpAny_excMatches_sub_self hC hob hobc (TL.hasType hbase) (codeAny_handlers_suite ?_)
  refine lands_againW hheld fun h₆ hfl₆ hsm₆ => ?_
  obtain ⟨F₆, sl₆, N₆⟩ := landed rfl hl hBG hfl₆.1 ((sm.trans hsm₅).trans hsm₆) F N hG hd off
  exact mono_never (k h₆ sl₆ F₆ N₆)
end
end Mine
end
section
open PySem PySem.Spec PySem.Calls PySem.W PyProof.Rows
set_option maxRecDepth 100000
set_option maxHeartbeats 8000000
set_option linter.unusedVariables false
namespace Mine
local macro_rules | `(tactic| walk_at "my_enter1") => `(tactic| (k_whole; intro L' h' F' N' B' X' T'; (try dsimp only); (try k_lift B'); (try k_fold)))
local macro_rules | `(tactic| walk_at "my_enter1C") => `(tactic| (k_whole; intro L' h' F' N' B' X' T'; (try dsimp only); (try k_lift B'); (try k_fold)))

section
variable {prog : Program} {w : World} {A : Around} {E : Value → Shared → Prop} {s : Shared} {value slice : Expr} {x y z : Str} {t u v : Tok} {i k : Int} {Q : Value → Shared → Prop}
theorem find_v (e : Txt.find x y = k) (hq : ∀ t' k', Q (.int k t') { s with toks := k' }) : wpAny (model prog w) A (call (.builtin "str.find") [.str x t, .str y u]) Q E s := SC.find (by rw [e]; exact hq _ _)
theorem find3_v (e : Txt.find3 x y i = k) (hq : ∀ t' k', Q (.int k t') { s with toks := k' }) : wpAny (model prog w) A (call (.builtin "str.find") [.str x t, .str y u, .int i v]) Q E s := SC.find3 (by rw [e]; exact hq _ _)
end
/-- what parse229 meets in a text -/
structure PF (x : Str) (r : Int) (mk mk2 : Str) (ps : List Str) : Prop where
  len : x.length ≤ 100
  sl : (Txt.slice x none (some 3) != Str.ofString "229") = false
  f1 : Txt.find x (Str.ofString "(") = 7
  f2 : Txt.find3 x (Str.ofString ")") 8 = r
  r0 : 9 ≤ r
  r1 : r ≤ x.length
  i1 : Txt.item x 8 = mk
  i2 : Txt.item x (r - 1) = mk2
  m1 : (mk.length == 0) = false
  sp : Txt.split (Txt.slice x (some 8) (some r)) mk = ps

local macro_rules | `(tactic| walk_at "leaving ref") => `(tactic| (k_here; (refine' leave_newS ?k1 ?k0 ?k2 ?k3 ?_; (case k0 => assumption); (case k2 => assumption); (case k1 => assumption); (case k3 => k_asm); k_whole; intro h' S' R' U'; (try dsimp only at S' R' U' ⊢))))
local macro_rules | `(tactic| walk_at "leaving ref") => `(tactic| (k_here; (refine' leave_raiseS ?k1 ?k0 ?k2 ?k3 ?_; (case k0 => first | assumption | exact Heap.MadeExc.of (by assumption)); (case k2 => assumption); (case k1 => assumption); (case k3 => k_asm); k_whole; intro h' t' S' R' U'; (try dsimp only at S' R' U' ⊢))))
local macro_rules | `(tactic| walk_at "call builtin:str.find") => `(tactic| (k_here; first | (refine find_v (PF.f1 (by assumption)) ?_; intro _ _) | (refine find3_v (PF.f2 (by assumption)) ?_; intro _ _)))

section
variable {x mk mk2 y p : Str} {r : Int} {ps : List Str} {l : List (Str × Tok)}
theorem pf_len (H : PF x r mk mk2 ps) (h : List.map (fun x => x.fst) l = Txt.split (Txt.slice x (some (7 + 1)) (some r)) (Txt.item x (7 + 1))) : List.map (fun x => x.fst) l = ps := by
  have e : Txt.item x (7 + 1) = mk := H.i1
  rw [e] at h
  exact h.trans H.sp
theorem pf_ne (H : PF x r mk mk2 ps) : (Txt.item x (7 + 1) != Txt.item x (r - 1)) = (mk != mk2) := by
  have e : Txt.item x (7 + 1) = mk := H.i1
  rw [e, H.i2]
theorem pf_count (H : PF x r mk mk2 ps) (h : List.map (fun x => x.fst) l = Txt.split (Txt.slice x (some (7 + 1)) (some r)) (Txt.item x (7 + 1))) : l.length = ps.length := by
  rw [← pf_len H h, List.length_map]
theorem pf_many (H : PF x r mk mk2 ps) (h : List.map (fun x => x.fst) l = Txt.split (Txt.slice x (some (7 + 1)) (some r)) (Txt.item x (7 + 1))) (h5 : (l.length : Int) ≠ 5) : ps.length ≠ 5 := by
  have := pf_count H h; omega
theorem pf_good (H : PF x r mk mk2 ps) (a1 : (Txt.item x (7 + 1) != Txt.item x (r - 1)) = false) (h : List.map (fun x => x.fst) l = Txt.split (Txt.slice x (some (7 + 1)) (some r)) (Txt.item x (7 + 1))) (h5 : (l.length : Int) = 5) : (mk != mk2) = false ∧ ps.length = 5 := by
  have := pf_count H h
  exact ⟨(pf_ne H).symm.trans a1, by omega⟩
theorem pf_c1 (H : PF x r mk mk2 ps) (hok : (mk != mk2) = false) (a1 : (Txt.item x (7 + 1) != Txt.item x (r - 1)) = true) : False := by
  rw [pf_ne H, hok] at a1; cases a1
theorem pf_c2 (H : PF x r mk mk2 ps) (h5 : ps.length = 5) (h : List.map (fun x => x.fst) l = Txt.split (Txt.slice x (some (7 + 1)) (some r)) (Txt.item x (7 + 1))) (a5 : (l.length : Int) ≠ 5) : False := by
  have := pf_count H h; omega
theorem pf_y (H : PF x r mk mk2 ps) (h3 : ps[3]? = some p) (h : List.map (fun x => x.fst) l = Txt.split (Txt.slice x (some (7 + 1)) (some r)) (Txt.item x (7 + 1))) (hy : (List.map (fun x => x.fst) l)[Int.toNat 3]? = some y) : y = p := by
  rw [pf_len H h] at hy
  have e : ps[3]? = some y := hy
  rw [h3] at e
  exact (Option.some.inj e).symm
end
theorem int_keeper (M : Model) (h : Heap) (_ : True) : ∃ k, (k = Keeper.frame ∨ k = Keeper.machine ∨ k = Keeper.boundFrame) ∧ Looks M h (keeperOf (.type "int")) k := ⟨.machine, .inr (.inl rfl), Looks.of_pure rfl⟩

/-- what parse229 does, whichever way it ends: a text that it refuses, or one whose port it reads -/
theorem p229_walk (w : World) (news : List (Addr × Obj)) (x nm mk mk2 : Str) (r : Int) (ps : List Str) (t tn ti : Tok) (P : Addr) (H : PF x r mk mk2 ps) (n : Int) (p : Str) (hcase : ((mk != mk2) = true ∨ ps.length ≠ 5) ∨ ps[3]? = some p ∧ PySem.intText? p = some n ∧ p.length ≤ 640) :
  ∀ (loose : List Str) (mean : ExcName → Option Value) (mg mb : Str → Option Value) (dp un : Nat) (gd : Option (List Code)) (cn : Str) (cs : Scope) (a : Addr) (ccd : Value) (cl : List (Str × Addr)) (outer : List Env) (base h₀ : Heap) (L : Addr) (m : Str → Option Value) (s : Shared) (Q E : Value → Shared → Prop),
    IsTup s.heap P #[.str nm tn, .int 21 ti] → Below (ktrTop dp un gd cn cs L a ccd cl outer) base (envX cn cs L a ccd cl :: outer) s.heap → Fr h₀ L s.heap m → (hdC.heap_39 w.params).In h₀ → News h₀ L s.heap news → Top topProg loose mean mg mb h₀ → cs.kind = .function →
    dp + 2 < recursionLimit → un + 100 < cLine →
    (((mk != mk2) = true ∨ ps.length ≠ 5) → ∀ nn e t' h' tk', RaisedS base s.heap (envX cn cs L a ccd cl :: outer) e (.ref 127) t' [.str x t] nn h' → s.heap.UpToSlots h' → E (.ref e) { s with heap := h', toks := tk' }) →
    (((mk != mk2) = false ∧ ps.length = 5) → ∀ D tr h' tk', Fr h₀ L h' m → News h₀ L h' ((D, { cls := .type "tuple", data := .seq #[.str nm tn, .int n tr] }) :: news) → (∀ q ∈ news, q.1 ≠ D) → Q (.ref D) { s with heap := h', toks := tk' }) →
    wpAny (model theProg w) (ktrTop dp un gd cn cs L a ccd cl outer) (call (.ref 136) [.str x t, .ref P]) Q E s := by
  w_top off
  delta theProg
  k_fill
  intro loose mean mg mb dp un gd cn cs a ccd cl outer base h₀ L m s Q E hP B F X N T hk hdp hun hE hret
  have H' := H
  obtain ⟨hlen, hsl, hf1, hf2, hr0, hr1, hi1, hi2, hm1, hsp⟩ := H'
  refine wpAny_call ?_
  (refine' code_top1 ?en1k1 ?en1k2 ?en1k3 ?en1k4 ?en1k5 ?en1kA ?en1kF ?en1kK ?en1k6 ?en1k7 ?en1k8 ?en1k9 ?en1kB ?_ ?en1c2 ?en1c3 ?en1c4 ?en1c5; (case en1kA => exact rfl); (case en1kF => exact rfl); (case en1kK => first | exact rfl | assumption); (case en1k1 => k_asm); (case en1k2 => k_asm); (case en1k3 => k_asm); (case en1k4 => k_asm); (case en1k5 => k_asm); (case en1k6 => k_is); (case en1k7 => k_is); (case en1k8 => ktr_room); (case en1k9 => exact BindsTo.of_eq rfl); (case en1c2 => decide); (case en1kB => exact locs rfl); (case en1c3 => exact rfl); (case en1c4 => exact rfl); (case en1c5 => exact rfl))
  walk_at "my_enter1"
  k_steps
  · exact hE (.inl ((pf_ne H).symm.trans (by assumption))) _ _ _ _ _ (by assumption) (by assumption)
  · exact hE (.inr (pf_many H (by assumption) (by assumption))) _ _ _ _ _ (by assumption) (by assumption)
  · obtain ⟨hok, h5⟩ := pf_good H (by assumption) (by assumption) (by assumption)
    obtain ⟨h3, hnum, hpl⟩ := hcase.resolve_left fun hb => hb.elim (fun e => by rw [hok] at e; cases e) fun e => e h5
    have e := pf_y H h3 (by assumption) (by assumption)
    subst e
    refine KIN.call_text hnum hpl ?_
    k_steps
    rename_i D8 h8 F8 N8 l8 kF8 kN8 Tc8 kX8
    intro hN
    refine hret ⟨hok, h5⟩ D8 _ h8 _ kF8 (news_one (kN8 _ (.head _)) hN) fun q hq e => ?_
    have hnone := (N8 _ (.head _)).2.2
    have h1 := (N q hq).1
    rw [e, hnone] at h1
    cases h1
theorem c_p229c (w : World) (news : List (Addr × Obj)) (x nm mk mk2 : Str) (r : Int) (ps : List Str) (t tn ti : Tok) (P : Addr) (H : PF x r mk mk2 ps) (hbad : (mk != mk2) = true ∨ ps.length ≠ 5) :
  ∀ (loose : List Str) (mean : ExcName → Option Value) (mg mb : Str → Option Value) (dp un : Nat) (gd : Option (List Code)) (cn : Str) (cs : Scope) (a : Addr) (ccd : Value) (cl : List (Str × Addr)) (outer : List Env) (base h₀ : Heap) (L : Addr) (m : Str → Option Value) (s : Shared) (Q E : Value → Shared → Prop),
    IsTup s.heap P #[.str nm tn, .int 21 ti] → Below (ktrTop dp un gd cn cs L a ccd cl outer) base (envX cn cs L a ccd cl :: outer) s.heap → Fr h₀ L s.heap m → (hdC.heap_39 w.params).In h₀ → News h₀ L s.heap news → Top topProg loose mean mg mb h₀ → cs.kind = .function →
    dp + 2 < recursionLimit → un + 100 < cLine →
    (∀ nn e t' h' tk', RaisedS base s.heap (envX cn cs L a ccd cl :: outer) e (.ref 127) t' [.str x t] nn h' → s.heap.UpToSlots h' → E (.ref e) { s with heap := h', toks := tk' }) →
    wpAny (model theProg w) (ktrTop dp un gd cn cs L a ccd cl outer) (call (.ref 136) [.str x t, .ref P]) Q E s := fun loose mean mg mb dp un gd cn cs a ccd cl outer base h₀ L m s Q E hP B F X N T hk hdp hun hret =>
  p229_walk w news x nm mk mk2 r ps t tn ti P H 0 ⟨#[]⟩ (.inl hbad) loose mean mg mb dp un gd cn cs a ccd cl outer base h₀ L m s Q E hP B F X N T hk hdp hun (fun _ => hret) fun ok => (hbad.elim (fun e => by rw [ok.1] at e; cases e) fun e => e ok.2).elim
theorem c_p229a (w : World) (news : List (Addr × Obj)) (x nm mk mk2 : Str) (r : Int) (ps : List Str) (t tn ti : Tok) (P : Addr) (H : PF x r mk mk2 ps) {n : Int} {p : Str} (hok : (mk != mk2) = false) (h5 : ps.length = 5) (h3 : ps[3]? = some p) (hnum : PySem.intText? p = some n) (hpl : p.length ≤ 640) :
  ∀ (loose : List Str) (mean : ExcName → Option Value) (mg mb : Str → Option Value) (dp un : Nat) (gd : Option (List Code)) (cn : Str) (cs : Scope) (a : Addr) (ccd : Value) (cl : List (Str × Addr)) (outer : List Env) (base h₀ : Heap) (L : Addr) (m : Str → Option Value) (s : Shared) (Q E : Value → Shared → Prop),
    IsTup s.heap P #[.str nm tn, .int 21 ti] → Below (ktrTop dp un gd cn cs L a ccd cl outer) base (envX cn cs L a ccd cl :: outer) s.heap → Fr h₀ L s.heap m → (hdC.heap_39 w.params).In h₀ → News h₀ L s.heap news → Top topProg loose mean mg mb h₀ → cs.kind = .function →
    dp + 2 < recursionLimit → un + 100 < cLine →
    (∀ D tr h' tk', Fr h₀ L h' m → News h₀ L h' ((D, { cls := .type "tuple", data := .seq #[.str nm tn, .int n tr] }) :: news) → (∀ q ∈ news, q.1 ≠ D) → Q (.ref D) { s with heap := h', toks := tk' }) →
    wpAny (model theProg w) (ktrTop dp un gd cn cs L a ccd cl outer) (call (.ref 136) [.str x t, .ref P]) Q E s := fun loose mean mg mb dp un gd cn cs a ccd cl outer base h₀ L m s Q E hP B F X N T hk hdp hun hret =>
  p229_walk w news x nm mk mk2 r ps t tn ti P H n p (.inr ⟨h3, hnum, hpl⟩) loose mean mg mb dp un gd cn cs a ccd cl outer base h₀ L m s Q E hP B F X N T hk hdp hun (fun hb => (hb.elim (fun e => by rw [hok] at e; cases e) fun e => e h5).elim) fun _ => hret
theorem c_p229b (w : World) (news : List (Addr × Obj)) (x nm mk mk2 : Str) (r : Int) (ps : List Str) (t tn ti : Tok) (P : Addr) (H : PF x r mk mk2 ps) (hok : (mk != mk2) = false) (h5 : ps.length = 5) (h3 : ps[3]? = some noStr) :
  ∀ (loose : List Str) (mean : ExcName → Option Value) (mg mb : Str → Option Value) (dp un : Nat) (gd : Option (List Code)) (cn : Str) (cs : Scope) (a : Addr) (ccd : Value) (cl : List (Str × Addr)) (outer : List Env) (base h₀ : Heap) (L : Addr) (m : Str → Option Value) (s : Shared) (Q E : Value → Shared → Prop),
    IsTup s.heap P #[.str nm tn, .int 21 ti] → Below (ktrTop dp un gd cn cs L a ccd cl outer) base (envX cn cs L a ccd cl :: outer) s.heap → Fr h₀ L s.heap m → (hdC.heap_39 w.params).In h₀ → News h₀ L s.heap news → Top topProg loose mean mg mb h₀ → cs.kind = .function →
    dp + 2 < recursionLimit → un + 100 < cLine →
    (∀ nn e h' tk', RaisedSN base s.heap (envX cn cs L a ccd cl :: outer) e (.type "ValueError") nn h' → s.heap.UpToSlots h' → E (.ref e) { s with heap := h', toks := tk' }) →
    wpC (model theProg w) (ktrTop dp un gd cn cs L a ccd cl outer) (call (.ref 136) [.str x t, .ref P]) Q E s := by
  delta theProg
  k_fill
  intro loose mean mg mb dp un gd cn cs a ccd cl outer base h₀ L m s Q E hP B F X N T hk hdp hun hret
  have H' := H
  obtain ⟨hlen, hsl, hf1, hf2, hr0, hr1, hi1, hi2, hm1, hsp⟩ := H'
  refine wpC_call ?_
  (refine' code_top1P ?en2k1 ?en2k2 ?en2k3 ?en2k4 ?en2k5 ?en2kA ?en2kF ?en2kK ?en2k6 ?en2k7 ?en2k8 ?en2k9 ?en2kB ?_ ?en2c2 ?en2c3 ?en2c4 ?en2c5; (case en2kA => exact rfl); (case en2kF => exact rfl); (case en2kK => first | exact rfl | assumption); (case en2k1 => k_asm); (case en2k2 => k_asm); (case en2k3 => k_asm); (case en2k4 => k_asm); (case en2k5 => k_asm); (case en2k6 => k_is); (case en2k7 => k_is); (case en2k8 => ktr_room); (case en2k9 => exact BindsTo.of_eq rfl); (case en2c2 => decide); (case en2kB => exact locs rfl); (case en2c3 => exact rfl); (case en2c4 => exact rfl); (case en2c5 => exact rfl))
  walk_at "my_enter1C"
  refine wpC_execs_at 9 ?_
  dsimp only [List.take, List.drop]
  k_steps
  · exact (pf_c1 H hok (by assumption)).elim
  · exact (pf_c2 H h5 (by assumption) (by assumption)).elim
  · dsimp only
    refine wpC_execs_cons (wpC_Assign_Name (wpC_Call_Name ?_))
    k_steps
    refine wpC_callWith_s (P := fun _ => True) (int_keeper _) ?_
    k_steps
    · trivial
    · have e := pf_y H h3 (by assumption) (by assumption)
      subst e
      refine call_int_bad rfl fun hz tkz ez hxz => ?_
      k_steps
      exact hret _ _ _ _ (by assumption) (by assumption)
end Mine
end
section
open PySem PySem.Spec PySem.Calls PySem.W PyProof.Rows PyProof.Rows.LCg PyProof.Rows.LCt
set_option linter.unusedVariables false
set_option maxRecDepth 100000
namespace Mine
section
variable {prog : Program} {w : World} {A : Around} {E : Value → Shared → Prop} {s : Shared} {h₀ : Heap} {L : Addr} {m : Str → Option Value} {env : Env}
/-- the bytes that a comprehension runs over -/
def SrcB (prog : Program) (w : World) (A : Around) (h₀ : Heap) (L : Addr) (m : Str → Option Value) (env : Env) (elt : Expr) (x : Str) (scope : Scope) (cl : List (Str × Addr)) (Fin : Shared → List Value → List (Addr × Obj) → Prop) (xv : Value) (s₁ : Shared) : Prop :=
  ∃ b t news, xv = .bytes b t ∧ A.handled = none ∧ Fr h₀ L s₁.heap m ∧ News h₀ L s₁.heap news ∧ b.size ≤ sizeLine ∧
    ∀ s₂ : Shared, (∃ h, s₂ = { s₁ with heap := h }) → CompRest prog w A h₀ L m env elt x scope cl s₂ (fun _ => True) (fun i v => ∃ c u, b[i]? = some c ∧ v = .int (c.toNat : Int) u) (Fin s₂) b.size 0 [] news
theorem SrcB.intro {elt : Expr} {x : Str} {scope : Scope} {cl : List (Str × Addr)} {Fin : Shared → List Value → List (Addr × Obj) → Prop} {b : Array UInt8} {t : Tok} {news : List (Addr × Obj)} {s₁ : Shared}
    (hh : A.handled = none) (F : Fr h₀ L s₁.heap m) (N : News h₀ L s₁.heap news) (hsz : b.size ≤ sizeLine)
    (h : ∀ g, CompRest prog w A h₀ L m env elt x scope cl { s₁ with heap := g } (fun _ => True) (fun i v => ∃ c u, b[i]? = some c ∧ v = .int (c.toNat : Int) u) (Fin { s₁ with heap := g }) b.size 0 [] news) :
    SrcB prog w A h₀ L m env elt x scope cl Fin (.bytes b t) s₁ := ⟨b, t, news, rfl, hh, F, N, hsz, fun _ ⟨g, e⟩ => e ▸ h g⟩
theorem bytes_st {I : Addr} {b : Array UInt8} {t : Tok} : ∀ i (h h' : Heap) (o : Obj) (nw : List (Addr × Obj)), KBw.IsBytesIter h I b t i → h.get? I = some o → h'.get? I = some o → (∀ b o, h₀.get? b = some o → h'.get? b = some o) → News h₀ L h' nw → True → KBw.IsBytesIter h' I b t i :=
  fun i h h' o nw st e e' _ _ _ => by
    obtain ⟨o', ho, hc, hd⟩ := st
    rw [e] at ho
    cases ho
    exact ⟨o, e', hc, hd⟩
theorem ListComp_B {elt iter : Expr} {x : Str} {px : Pos} {scope : Scope} {cl : List (Str × Addr)} {pos : Pos} {Q : Value → Shared → Prop} (F₀ : Fr h₀ L s.heap m)
    (hclos : closureFor scope env = pure cl) (hcell : ∀ y ∈ scope.names, y.2 ≠ .cell) (hkind : scope.kind = .function)
    (hnames : ∀ y ∈ scope.names, y.2 = .local → scope.names.lookup y.1 = some .local) (hx : scope.names.lookup x = some .local)
    (h : wpAny (model prog w) A (eval iter env) (SrcB prog w A h₀ L m env elt x scope cl (fun s₂ => FinE h₀ L m s₂ Q)) E s)
    (hs : ∀ x, foldedSetIterable iter env x = pure x := by intro _; rfl) :
    wpAny (model prog w) A (eval (.ListComp elt [⟨.Name x px, iter, [], 0⟩] scope pos) env) Q E s := by
  rw [eval_ListComp]
  refine wpAny_comprehension_free (use := none) rfl hs hclos hkind hnames (wpAny_mono h (fun xv s₁ h₁ => ?_) fun _ _ e => e)
  obtain ⟨b, t, news, rfl, hh, F, N, hsz, R⟩ := h₁
  refine KBw.pyIter_bytes ?_
  have up : ∀ a o, s₁.heap.get? a = some o → (s₁.heap.push { cls := .type "bytes_iterator", data := .fields #[.bytes b t, .int 0 0] }).get? a = some o := fun a o e => Heap.get?_push_of_some _ e
  refine block_U (KBw.walks hh s₁.heap.objs.size b t) hsz (fun i h st => by obtain ⟨o, e, _⟩ := st; exact ⟨o, e⟩) bytes_st hcell hkind hx ⟨_, Heap.get?_push_size _ rfl, rfl, rfl⟩ (fun a ha => ?_)
    (F.keeps up) (N.grown up) (Nat.ne_of_lt F.ns.lt) (next_is_new F) (fun p hp => Nat.ne_of_lt (Heap.lt_size (N p hp).1)) trivial (R _ ⟨_, rfl⟩) ?_
  · rw [List.mem_singleton.mp ha]
    show s₁.heap.objs.size < (s₁.heap.push _).objs.size
    rw [Heap.size_push]; exact Nat.lt_succ_self _
  · intro D C h tk m' ys news' F' N' o1 hn hC₀ hD₀ hCL hDL hCD offC fin
    refine ⟨m', hn, fun h'' hs'' => fin D h'' tk (F'.change hs'' hCL hC₀) (fun p hp => ?_) o1⟩
    refine ⟨hs''.extBut _ _ ?_ (N' p hp).1, (N' p hp).2⟩
    rcases List.mem_cons.mp hp with rfl | hp
    · exact Ne.symm hCD
    · exact offC p hp
end
end Mine
end
section
open PySem PySem.Spec PySem.Calls PySem.W PyProof.Rows PyProof.Rows.LCg PyProof.Rows.LCt
set_option linter.unusedVariables false
set_option maxRecDepth 100000
namespace Mine
section
variable {prog : Program} {w : World} {A : Around} {E : Value → Shared → Prop} {s : Shared} {h₀ : Heap} {L : Addr} {m : Str → Option Value} {news : List (Addr × Obj)}
theorem mul2 {n : Nat} {t u : Tok} {Q : Value → Shared → Prop} (h : ∀ t' k, Q (.str ⟨#[n, n]⟩ t') { s with toks := k }) : wpAny (model prog w) A (binaryOp .Mult (.str ⟨#[n]⟩ t) (.int 2 u)) Q E s :=
  SB.mul (x := ⟨#[n]⟩) (n := 2) ⟨by decide, fun _ _ => (by show ¬ ((1 : Int) > (2 ^ 63 - 1) / 2); decide), fun _ _ => (by show Builtin.Str.tooLong (1 * 2) = false; decide +kernel)⟩ h
theorem add_v {x y z : Str} {t u : Tok} {Q : Value → Shared → Prop} (e : x ++ y = z) (hx : x.length ≤ 200) (hy : y.length ≤ 200) (h : ∀ t' k, Q (.str z t') { s with toks := k }) : wpAny (model prog w) A (binaryOp .Add (.str x t) (.str y u)) Q E s :=
  KXadd.add (K := 200) (L := 200) hx hy (by decide) fun t' k _ => by rw [e]; exact h t' k
theorem pyIter_rangeN {D : Addr} {n : Nat} {t u v : Tok} {Q : Value → Shared → Prop} (F : Fr h₀ L s.heap m) (N : News h₀ L s.heap news) (hD : (D, rngObj (n : Int) t u v) ∈ news) (hn : n ≤ 1000)
    (h : ∀ I h', Fr h₀ L h' m → News h₀ L h' news → IsRangeIter h' I 0 n 1 → (∀ q ∈ news, q.1 < I) → I ≠ L → h₀.get? I = none → Q (.ref I) { s with heap := h' }) : wpAny (model prog w) A (pyIter (.ref D)) Q E s := by
  have hz := N _ hD
  have hs : Builtin.Range.rangeSize 0 (n : Int) 1 = (n : Int) := by
    unfold Builtin.Range.rangeSize
    rw [if_pos (by decide)]
    split
    · rw [Int.ediv_one]; omega
    · omega
  refine wpAny_pyIter_range (a := 0) (b := (n : Int)) (c := 1) (t := t) (u := u) (v := v) hz.1 ?_ ?_
  · have hf : ∀ i : Int, 0 ≤ i → i ≤ 2000 → Builtin.Range.rangeFitsLong i = true := fun i h0 h1 => by
      unfold Builtin.Range.rangeFitsLong
      rw [Bool.and_eq_true, decide_eq_true_eq, decide_eq_true_eq]
      have a : -(2 ^ 63 : Int) ≤ 0 := by decide
      have b : (2000 : Int) < 2 ^ 63 := by decide
      omega
    unfold Builtin.Range.small
    rw [hs, hf 0 (by decide) (by decide), hf n (by omega) (by omega), hf 1 (by decide) (by decide), if_pos (by decide), hf _ (by omega) (by omega), Bool.or_true]
    rfl
  · refine h _ _ (F.push _) (N.grown fun _ _ e => Heap.get?_push_of_some _ e) ?_ (fun q hq => Heap.lt_size (N q hq).1) (Nat.ne_of_gt F.ns.lt) (next_is_new F)
    show IsRangeIter _ _ _ _ _
    rw [hs]
    exact Heap.get?_push_size _ rfl
end
end Mine
end
section
open PySem PySem.Spec PySem.Calls PySem.W PyProof.Rows
set_option linter.unusedVariables false
set_option maxRecDepth 100000
namespace Mine
/-- where the marks stand in a doubled word with two marks ahead -/
def pat (bs : List Bool) : List Bool := true :: true :: bs.flatMap fun b => [!b, b]
def lineL (M C : Nat) (bs : List Bool) : List Nat := (pat bs).map fun x => cond x M C
def one (b : Bool) : Nat := cond b 1 0
def gp (a b : Bool) : Nat := 1 + one b - one a
def gpl (b0 b1 b2 b3 b4 b5 b6 b7 : Bool) : List Nat := [gp b0 b1, gp b1 b2, gp b2 b3, gp b3 b4, gp b4 b5, gp b5 b6, gp b6 b7]
def spl (b0 b1 b2 b3 b4 b5 b6 b7 : Bool) : List Nat := [0, 1, 2 + one b0, 4 + one b1, 6 + one b2, 8 + one b3, 10 + one b4, 12 + one b5, 14 + one b6, 16 + one b7]
def spotP (l : List Bool) (i : Nat) : List Nat := (List.range i).filter fun k => l[k]? == some true
theorem spots_all : ∀ b0 b1 b2 b3 b4 b5 b6 b7 : Bool, spotP (pat [b0, b1, b2, b3, b4, b5, b6, b7]) 18 = spl b0 b1 b2 b3 b4 b5 b6 b7 := by decide +kernel
def repPat (g1 g2 g3 : Nat) : List Bool := true :: (List.replicate g1 false ++ true :: (List.replicate g2 false ++ true :: (List.replicate g3 false ++ [true])))
/-- the stretches between the marks, from the first on -/
def gaps (b0 b1 b2 b3 b4 b5 b6 b7 : Bool) : List Nat := 0 :: one b0 :: gpl b0 b1 b2 b3 b4 b5 b6 b7
def cut (l : List Bool) (a b : Nat) : List Bool := (l.drop a).take (b - a)
theorem cuts_all : ∀ b0 b1 b2 b3 b4 b5 b6 b7 : Bool, ((List.range 7).all fun k =>
    cut (pat [b0, b1, b2, b3, b4, b5, b6, b7]) ((spl b0 b1 b2 b3 b4 b5 b6 b7).getD k 0) ((spl b0 b1 b2 b3 b4 b5 b6 b7).getD (k + 3) 0 + 1) ==
      repPat ((gaps b0 b1 b2 b3 b4 b5 b6 b7).getD k 0) ((gaps b0 b1 b2 b3 b4 b5 b6 b7).getD (k + 1) 0) ((gaps b0 b1 b2 b3 b4 b5 b6 b7).getD (k + 2) 0)) = true := by decide +kernel
theorem count_all : ∀ b0 b1 b2 b3 b4 b5 b6 b7 : Bool, (pat [b0, b1, b2, b3, b4, b5, b6, b7]).count true = 10 := by decide +kernel
theorem gp_le (a b : Bool) : gp a b ≤ 2 := by cases a <;> cases b <;> decide
theorem one_le (a : Bool) : one a ≤ 1 := by cases a <;> decide
section
variable {M C : Nat} {b0 b1 b2 b3 b4 b5 b6 b7 : Bool}
theorem line_len : (lineL M C [b0, b1, b2, b3, b4, b5, b6, b7]).length = 18 := rfl
theorem rep_map (g1 g2 g3 : Nat) : (repPat g1 g2 g3).map (fun x => cond x M C) = repBody M C g1 g2 g3 := by
  simp [repPat, repBody]
theorem gaps_le (k : Nat) : (gaps b0 b1 b2 b3 b4 b5 b6 b7).getD k 0 ≤ 2 := by
  have h := one_le b0
  match k with
  | 0 => exact Nat.zero_le _
  | 1 => exact Nat.le_succ_of_le h
  | 2 => exact gp_le _ _
  | 3 => exact gp_le _ _
  | 4 => exact gp_le _ _
  | 5 => exact gp_le _ _
  | 6 => exact gp_le _ _
  | 7 => exact gp_le _ _
  | 8 => exact gp_le _ _
  | n + 9 => exact Nat.zero_le _
theorem line_cut {k : Nat} (hk : k < 7) : ((lineL M C [b0, b1, b2, b3, b4, b5, b6, b7]).drop ((spl b0 b1 b2 b3 b4 b5 b6 b7).getD k 0)).take ((spl b0 b1 b2 b3 b4 b5 b6 b7).getD (k + 3) 0 + 1 - (spl b0 b1 b2 b3 b4 b5 b6 b7).getD k 0) =
    repBody M C ((gaps b0 b1 b2 b3 b4 b5 b6 b7).getD k 0) ((gaps b0 b1 b2 b3 b4 b5 b6 b7).getD (k + 1) 0) ((gaps b0 b1 b2 b3 b4 b5 b6 b7).getD (k + 2) 0) := by
  have h := List.all_eq_true.mp (cuts_all b0 b1 b2 b3 b4 b5 b6 b7) k (List.mem_range.mpr hk)
  have h' := eq_of_beq h
  unfold cut at h'
  unfold lineL
  rw [← List.map_drop, ← List.map_take, h', rep_map]
theorem spl_lt {k : Nat} (hk : k < 10) : (spl b0 b1 b2 b3 b4 b5 b6 b7).getD k 0 < 18 ∧ k ≤ (spl b0 b1 b2 b3 b4 b5 b6 b7).getD k 0 := by
  have h0 := one_le b0
  have h1 := one_le b1
  have h2 := one_le b2
  have h3 := one_le b3
  have h4 := one_le b4
  have h5 := one_le b5
  have h6 := one_le b6
  have h7 := one_le b7
  match k, hk with
  | 0, _ => show 0 < 18 ∧ 0 ≤ 0; omega
  | 1, _ => show 1 < 18 ∧ 1 ≤ 1; omega
  | 2, _ => show 2 + one b0 < 18 ∧ 2 ≤ 2 + one b0; omega
  | 3, _ => show 4 + one b1 < 18 ∧ 3 ≤ 4 + one b1; omega
  | 4, _ => show 6 + one b2 < 18 ∧ 4 ≤ 6 + one b2; omega
  | 5, _ => show 8 + one b3 < 18 ∧ 5 ≤ 8 + one b3; omega
  | 6, _ => show 10 + one b4 < 18 ∧ 6 ≤ 10 + one b4; omega
  | 7, _ => show 12 + one b5 < 18 ∧ 7 ≤ 12 + one b5; omega
  | 8, _ => show 14 + one b6 < 18 ∧ 8 ≤ 14 + one b6; omega
  | 9, _ => show 16 + one b7 < 18 ∧ 9 ≤ 16 + one b7; omega
  | n + 10, h => omega
/-- where the mark stands in the line -/
theorem line_at (h : C ≠ M) (k : Nat) : ((lineL M C [b0, b1, b2, b3, b4, b5, b6, b7])[k]? == some M) = ((pat [b0, b1, b2, b3, b4, b5, b6, b7])[k]? == some true) := by
  unfold lineL
  rw [List.getElem?_map]
  cases (pat [b0, b1, b2, b3, b4, b5, b6, b7])[k]? with
  | none => rfl
  | some x =>
    cases x
    · show (some C == some M) = false
      simpa using h
    · show (some M == some M) = true
      simp
theorem line_mem {x : Nat} (h : x ∈ lineL M C [b0, b1, b2, b3, b4, b5, b6, b7]) : x = M ∨ x = C := by
  obtain ⟨b, _, e⟩ := List.mem_map.mp h
  cases b
  · exact .inr e.symm
  · exact .inl e.symm
theorem rep_mem {x g1 g2 g3 : Nat} (h : x ∈ repBody M C g1 g2 g3) : x = M ∨ x = C := by
  unfold repBody at h
  rcases List.mem_cons.mp h with h | h
  · exact .inl h
  rcases List.mem_append.mp h with h | h
  · exact .inr (List.eq_of_mem_replicate h)
  rcases List.mem_cons.mp h with h | h
  · exact .inl h
  rcases List.mem_append.mp h with h | h
  · exact .inr (List.eq_of_mem_replicate h)
  rcases List.mem_cons.mp h with h | h
  · exact .inl h
  rcases List.mem_append.mp h with h | h
  · exact .inr (List.eq_of_mem_replicate h)
  exact .inl (List.mem_singleton.mp h)
theorem line_count (h : C ≠ M) : (lineL M C [b0, b1, b2, b3, b4, b5, b6, b7]).count M = 10 := by
  have e : ∀ l : List Bool, (l.map fun x => cond x M C).count M = l.count true := by
    intro l
    induction l with
    | nil => rfl
    | cons x l ih =>
      rw [List.map_cons, List.count_cons, List.count_cons, ih]
      cases x
      · simp [h]
      · simp
  exact (e _).trans (count_all b0 b1 b2 b3 b4 b5 b6 b7)
end
theorem pf_repl {body a : List Nat} {m l : Nat} {r : List Nat} (h41 : 41 ∉ body) (hf : body = m :: r) (hl : body = a ++ [l]) (hlen : body.length ≤ 60) :
    PF (repl body) ((8 + body.length : Nat) : Int) ⟨#[m]⟩ ⟨#[l]⟩ (Txt.split ⟨body.toArray⟩ ⟨#[m]⟩) where
  len := by rw [repl_len]; omega
  sl := by rw [repl_sl]; decide +kernel
  f1 := repl_find body
  f2 := repl_find3 body h41
  r0 := by
    have : 0 < body.length := by rw [hf]; exact Nat.succ_pos _
    omega
  r1 := by rw [repl_len]; omega
  i1 := by rw [hf]; exact repl_first m r
  i2 := by
    have := repl_last a l
    rw [← hl] at this
    exact this
  m1 := rfl
  sp := by rw [repl_body]
/-- a name after some labels -/
def nameL (gs : List Nat) : List Nat := 120 :: gs.flatMap fun g => [46, 97 + g]
def nameS (gs : List Nat) : Str := ⟨(nameL gs).toArray⟩
theorem nameL_snoc (gs : List Nat) (g : Nat) : nameL (gs ++ [g]) = nameL gs ++ [46, 97 + g] := by
  simp [nameL]
theorem nameS_snoc (gs : List Nat) (g : Nat) : (nameS gs ++ Str.ofString ".") ++ (⟨#[97 + g]⟩ : Str) = nameS (gs ++ [g]) := by
  have e : Str.ofString "." = ⟨#[46]⟩ := by decide +kernel
  rw [e]
  unfold nameS
  rw [nameL_snoc]
  show (⟨(nameL gs).toArray ++ #[46] ++ #[97 + g]⟩ : Str) = _
  simp
theorem nameL_len : ∀ gs : List Nat, (nameL gs).length = 2 * gs.length + 1
  | [] => rfl
  | g :: r => by
    have := nameL_len r
    unfold nameL at this ⊢
    rw [List.flatMap_cons, List.length_cons, List.length_append]
    rw [List.length_cons] at this
    simp only [List.length_cons, List.length_nil]
    omega
theorem nameS_len (gs : List Nat) : (nameS gs).length = 2 * gs.length + 1 := by
  show (nameL gs).toArray.size = _
  rw [List.size_toArray, nameL_len]
end Mine
end
section
open PySem PySem.Spec PySem.Calls PySem.W PyProof.Rows PyProof.Rows.LCg PyProof.Rows.LCt
set_option maxRecDepth 100000
set_option linter.unusedVariables false
namespace Mine
abbrev octL (M C : UInt8) (b0 b1 b2 b3 b4 b5 b6 b7 : Bool) : List UInt8 := [cond b0 C M, cond b0 M C, cond b1 C M, cond b1 M C, cond b2 C M, cond b2 M C, cond b3 C M, cond b3 M C, cond b4 C M, cond b4 M C, cond b5 C M, cond b5 M C, cond b6 C M, cond b6 M C, cond b7 C M, cond b7 M C]
abbrev chrS (u : UInt8) : Str := ⟨#[u.toNat]⟩
theorem len_v {prog : Program} {w : World} {A : Around} {E : Value → Shared → Prop} {s : Shared} {x : Str} {n : Nat} {t : Tok} {Q : Value → Shared → Prop} (e : x.length = n) (hn : n ≤ 1000) (h : ∀ t' k, Q (.int (n : Int) t') { s with toks := k }) : wpAny (model prog w) A (call (.builtin "len") [.str x t]) Q E s :=
  P.len_str (by rw [e]; omega) (by rw [e]; exact h _ _)
theorem off1_mem {D : Addr} : ∀ {l : List (Addr × Obj)}, LCg.Off1 D l → ∀ q ∈ l, (@Ne Nat q.1 D)
  | [], _, _, h => nomatch h
  | _ :: _, x, q, h => by
    rcases List.mem_cons.mp h with rfl | h
    · exact x.1
    · exact off1_mem x.2 q h
def spotI (l : List Bool) (i : Nat) : List Int := (spotP l i).map fun (k : Nat) => (k : Int)
theorem spotI_succ (l : List Bool) (k : Nat) : spotI l (k + 1) = spotI l k ++ (if (l[k]? == some true) = true then [(k : Int)] else []) := by
  unfold spotI spotP
  rw [List.range_succ, List.filter_append, List.map_append]
  congr 1
  cases h : (l[k]? == some true) <;> simp [List.filter, h]
def SpInv (l : List Bool) (sub : List (Addr × Obj)) (i : Nat) (ys : List Value) (news : List (Addr × Obj)) : Prop := IntsAre ys (spotI l i) ∧ ∀ q ∈ sub, q ∈ news
theorem spot_test {M C : Nat} {b0 b1 b2 b3 b4 b5 b6 b7 : Bool} {ln : Str} {i : Nat} (h : C ≠ M) (hln : (⟨(lineL M C [b0, b1, b2, b3, b4, b5, b6, b7]).toArray⟩ : Str) = ln) (hi : i < 18) :
    (Txt.item ln (0 + (i : Int)) == (⟨#[M]⟩ : Str)) = ((pat [b0, b1, b2, b3, b4, b5, b6, b7])[i]? == some true) := by
  have hlt : i < (lineL M C [b0, b1, b2, b3, b4, b5, b6, b7]).length := hi
  rw [← hln, Int.zero_add, item_at _ i _ (List.getElem?_eq_getElem hlt), ← line_at h i, List.getElem?_eq_getElem hlt]
  generalize (lineL M C [b0, b1, b2, b3, b4, b5, b6, b7])[i] = x
  rw [Bool.eq_iff_iff, beq_iff_eq, beq_iff_eq]
  constructor
  · intro e
    have e2 : (#[x] : Array Nat) = #[M] := congrArg Str.cps e
    have e3 : x = M := by simpa using e2
    rw [e3]
  · intro e
    rw [Option.some.inj e]
theorem news_sub {h₀ h : Heap} {L : Addr} {a b c : Addr × Obj} {sub ns : List (Addr × Obj)} (N : News h₀ L h (a :: b :: c :: ns)) (hs : ∀ q ∈ sub, q ∈ ns) : News h₀ L h (a :: b :: c :: sub) := fun q hq => by
  rcases List.mem_cons.mp hq with rfl | hq
  · exact N _ (.head _)
  · rcases List.mem_cons.mp hq with rfl | hq
    · exact N _ (.tail _ (.head _))
    · rcases List.mem_cons.mp hq with rfl | hq
      · exact N _ (.tail _ (.tail _ (.head _)))
      · exact N _ (.tail _ (.tail _ (.tail _ (hs q hq))))
theorem len_L {prog : Program} {w : World} {A : Around} {E : Value → Shared → Prop} {s : Shared} {a : Addr} {l : List Value} {n : Nat} {Q : Value → Shared → Prop} (hl : s.heap.IsList a l.toArray) (e : l.length = n) (hn : n ≤ 1000) (h : ∀ t' k, Q (.int (n : Int) t') { s with toks := k }) : wpAny (model prog w) A (call (.builtin "len") [.ref a]) Q E s := by
  have e2 : l.toArray.size = n := by rw [List.size_toArray]; exact e
  refine len_list hl (by rw [e2]; omega) ?_
  rw [e2]
  exact h _ _
theorem news_lst {h₀ h : Heap} {L D : Addr} {news : List (Addr × Obj)} {l : List Value} (N : News h₀ L h news) (hm : (D, lst l) ∈ news) : h.IsList D l.toArray := News.isList N hm
theorem wpC_callWith_K {K : Frag} {M : Model} {A : Around} {E : Value → Shared → Prop} {s : Shared} {env : Env} {pos : Pos} {f : Value} {first : List Value} {e : Expr} {rest : List Expr} {Q : Value → Shared → Prop} (hk : keepIn K f = true)
    (h : wpAny M A (spliced (backTo pos (starEach (e :: rest) env))) (fun vs s₁ => K.In s₁.heap ∧ wpC M A (call f (first ++ vs)) Q E s₁) E s)
    (he : starEach (e :: rest) env = (false, eval e env) :: starEach rest env := by rfl) (hplain : (backTo pos (starEach rest env)).any (·.1) = false := by rfl) :
    wpC M A (callWith pos f first (backTo pos (starEach (e :: rest) env)) []) Q E s := wpC_callWith_s (P := K.In) (fun h X => keeps_K hk h X) h he hplain
/-- what holds between the turns of the reading -/
def RdInv (gs : List Nat) (Dp Ds L1 L : Addr) (ws : List Value) (op o4 o2 oL : Obj) (k : Nat) (m : Str → Option Value) (ns : List (Addr × Obj)) : Prop :=
  ∃ tn sl, m "name" = some (.str (nameS (gs.take k)) tn) ∧ m "spots" = some (.ref Ds) ∧ m "ports" = some (.ref Dp) ∧ ∀ q ∈ [(Dp, op), (Ds, lst ws), (L1 + 1 + 1, o4), (L1 + 1, o2), (L, ({ oL with slots := sl } : Obj))], q ∈ ns
theorem oct_map (M C : UInt8) (b0 b1 b2 b3 b4 b5 b6 b7 : Bool) : M.toNat :: M.toNat :: (octL M C b0 b1 b2 b3 b4 b5 b6 b7).map (·.toNat) = lineL M.toNat C.toNat [b0, b1, b2, b3, b4, b5, b6, b7] := by
  have h : ∀ (b : Bool) (x y : UInt8), (cond b x y).toNat = cond b x.toNat y.toNat := fun b x y => by cases b <;> rfl
  have h2 : ∀ (b : Bool) (x y : Nat), cond (!b) x y = cond b y x := fun b x y => by cases b <;> rfl
  simp only [octL, lineL, pat, List.flatMap_cons, List.flatMap_nil, List.cons_append, List.nil_append, List.append_nil, List.map_cons, List.map_nil, h, h2, cond_true]
theorem oct_line (M C : UInt8) (b0 b1 b2 b3 b4 b5 b6 b7 : Bool) : (⟨#[M.toNat, M.toNat]⟩ : Str) ++ Txt.join (Str.ofString "") ((octL M C b0 b1 b2 b3 b4 b5 b6 b7).map chrS) = ⟨(lineL M.toNat C.toNat [b0, b1, b2, b3, b4, b5, b6, b7]).toArray⟩ := by
  have e : Str.ofString "" = ⟨#[]⟩ := by decide +kernel
  have e2 : (octL M C b0 b1 b2 b3 b4 b5 b6 b7).map chrS = ((octL M C b0 b1 b2 b3 b4 b5 b6 b7).map (·.toNat)).map fun n => (⟨#[n]⟩ : Str) := by rw [List.map_map]; rfl
  show _ ++ Builtin.Str.glued _ _ = _
  rw [StrLaws.glued_eq_join, e, e2, PyProof.Rows.join_ones, ← oct_map]
  show (⟨#[M.toNat, M.toNat] ++ _⟩ : Str) = _
  simp
theorem octL_w (M C : UInt8) (b0 b1 b2 b3 b4 b5 b6 b7 : Bool) : (((octL M C b0 b1 b2 b3 b4 b5 b6 b7).map chrS).map (·.length)).sum + ((octL M C b0 b1 b2 b3 b4 b5 b6 b7).map chrS).length ≤ 1048576 := by
  have e : ∀ l : List UInt8, ((l.map chrS).map (·.length)).sum = l.length := fun l => by
    induction l with
    | nil => rfl
    | cons a r ih => rw [List.map_cons, List.map_cons, List.sum_cons, ih, List.length_cons, Nat.add_comm]; rfl
  rw [e, List.length_map]
  have : (octL M C b0 b1 b2 b3 b4 b5 b6 b7).length = 16 := rfl
  omega
end Mine
end
section
open PySem PySem.Spec PySem.Calls PySem.W PyProof.Rows PyProof.Rows.LCg PyProof.Rows.LCt PySem.SeqAt
set_option maxRecDepth 100000
set_option linter.unusedVariables false
namespace Mine
abbrev portsObj (f : Nat) (t u : Tok) : Obj := W.listOf #[Value.none, Value.int (f : Int) t, Value.int (11 * (f : Int)) u] 0
section
variable {prog : Program} {w : World} {A : Around} {E : Value → Shared → Prop} {s : Shared} {l : Addr} {f : Nat} {tf tu u : Tok} {Q : Value → Shared → Prop}
def isNone : Value → Bool
  | .none => true
  | _ => false
theorem eq_none_ports : ∀ y, y ∈ #[Value.none, .int (f : Int) tf, .int (11 * (f : Int)) tu] → EqAt A.in1 s y .none (isNone y) := by
  intro y hy
  have hy' : y ∈ [Value.none, .int (f : Int) tf, .int (11 * (f : Int)) tu] := by simpa using hy
  simp only [List.mem_cons, List.not_mem_nil, or_false] at hy'
  rcases hy' with rfl | rfl | rfl
  · exact EqAt.same _
  · exact EqAt.int_none _ _
  · exact EqAt.int_none _ _
def isI (g : Int) : Value → Bool
  | .int a _ => a == g
  | _ => false
theorem eq_int_ports (g : Int) : ∀ y, y ∈ #[Value.none, .int (f : Int) tf, .int (11 * (f : Int)) tu] → EqAt A.in1 s y (.int g u) (isI g y) := by
  intro y hy
  have hy' : y ∈ [Value.none, .int (f : Int) tf, .int (11 * (f : Int)) tu] := by simpa using hy
  simp only [List.mem_cons, List.not_mem_nil, or_false] at hy'
  rcases hy' with rfl | rfl | rfl
  · exact EqAt.none_int _ _
  · exact EqAt.int_int _ _ _ _
  · exact EqAt.int_int _ _ _ _
theorem notIn_P0 (hl : s.heap.IsList l #[.none, .int (f : Int) tf, .int (11 * (f : Int)) tu]) (h : Q (.bool false) s) : wpAny (model prog w) A (compareOp .NotIn .none (.ref l)) Q E s :=
  notIn_listAt isNone hl eq_none_ports (by simpa [isNone] using h)
theorem notIn_P1 {g : Int} (hl : s.heap.IsList l #[.none, .int (f : Int) tf, .int (11 * (f : Int)) tu]) (hg : g = (f : Int) ∨ g = 11 * (f : Int)) (h : Q (.bool false) s) : wpAny (model prog w) A (compareOp .NotIn (.int g u) (.ref l)) Q E s := by
  refine notIn_listAt (isI g) hl (eq_int_ports g) ?_
  have e : (!(#[Value.none, .int (f : Int) tf, .int (11 * (f : Int)) tu].any (isI g))) = false := by
    rcases hg with rfl | rfl <;> simp [isI]
  rw [e]
  exact h
theorem idx_P {x : Value} (e : Value → Bool) (j : Nat) (hl : s.heap.IsList l #[.none, .int (f : Int) tf, .int (11 * (f : Int)) tu]) (he : ∀ y, y ∈ #[Value.none, .int (f : Int) tf, .int (11 * (f : Int)) tu] → EqAt A.in1 s y x (e y))
    (hj : j < 3) (hit : e (#[Value.none, .int (f : Int) tf, .int (11 * (f : Int)) tu][j]'hj) = true) (hno : ∀ m (hm : m < 3), m < j → e (#[Value.none, .int (f : Int) tf, .int (11 * (f : Int)) tu][m]'hm) = false)
    (h : ∀ t k, Q (.int (j : Int) t) { s with toks := k }) : wpAny (model prog w) A (call (.builtin "list.index") [.ref l, x]) Q E s := by
  obtain ⟨⟨cls, dd, data, sl⟩, ho, hc, n, hd⟩ := id hl
  simp only at hc hd
  subst hc hd
  have hsm : (j : Int) < 2 ^ 63 - 1 := by
    have : (3 : Int) < 2 ^ 63 - 1 := by decide
    omega
  exact call_meets PySem.F.slot_list_index ⟨_, ho, rfl⟩ PySem.F.entry_list_index (PySem.F.args_list_index_2 _ _)
    (list_indexAt l #[Value.none, .int (f : Int) tf, .int (11 * (f : Int)) tu] n dd sl x e j hj hsm hit hno) ⟨ho, he, h _ _⟩
theorem idx_P0 (hl : s.heap.IsList l #[.none, .int (f : Int) tf, .int (11 * (f : Int)) tu]) (h : ∀ t k, Q (.int 0 t) { s with toks := k }) : wpAny (model prog w) A (call (.builtin "list.index") [.ref l, .none]) Q E s :=
  idx_P isNone 0 hl eq_none_ports (by decide) rfl (fun m hm h => absurd h (Nat.not_lt_zero _)) h
theorem idx_P1 (hl : s.heap.IsList l #[.none, .int (f : Int) tf, .int (11 * (f : Int)) tu]) (h : ∀ t k, Q (.int 1 t) { s with toks := k }) : wpAny (model prog w) A (call (.builtin "list.index") [.ref l, .int (f : Int) u]) Q E s := by
  refine idx_P (isI (f : Int)) 1 hl (eq_int_ports _) (by decide) (by show ((f : Int) == (f : Int)) = true; simp) (fun m hm h => ?_) h
  obtain rfl : m = 0 := by omega
  rfl
theorem idx_P2 (hf : 1 ≤ f) (hl : s.heap.IsList l #[.none, .int (f : Int) tf, .int (11 * (f : Int)) tu]) (h : ∀ t k, Q (.int 2 t) { s with toks := k }) : wpAny (model prog w) A (call (.builtin "list.index") [.ref l, .int (11 * (f : Int)) u]) Q E s := by
  refine idx_P (isI (11 * (f : Int))) 2 hl (eq_int_ports _) (by decide) (by show (11 * (f : Int) == 11 * (f : Int)) = true; simp) (fun m hm h => ?_) h
  have : m = 0 ∨ m = 1 := by omega
  rcases this with rfl | rfl
  · rfl
  · show ((f : Int) == 11 * (f : Int)) = false
    rw [beq_eq_false_iff_ne]
    omega
end
theorem num_all1 : ∀ f : Fin 10, 1 ≤ f.val → PySem.intText? ⟨(List.replicate 1 (48 + f.val)).toArray⟩ = some (f.val : Int) := by decide +kernel
theorem num_all2 : ∀ f : Fin 10, 1 ≤ f.val → PySem.intText? ⟨(List.replicate 2 (48 + f.val)).toArray⟩ = some (11 * (f.val : Int)) := by decide +kernel
theorem num_one {f : Nat} (h1 : 1 ≤ f) (h9 : f ≤ 9) : PySem.intText? ⟨(List.replicate 1 (48 + f)).toArray⟩ = some (f : Int) := num_all1 ⟨f, Nat.lt_succ_of_le h9⟩ h1
theorem num_two {f : Nat} (h1 : 1 ≤ f) (h9 : f ≤ 9) : PySem.intText? ⟨(List.replicate 2 (48 + f)).toArray⟩ = some (11 * (f : Int)) := num_all2 ⟨f, Nat.lt_succ_of_le h9⟩ h1
theorem news_sub1 {h₀ h : Heap} {L : Addr} {a : Addr × Obj} {sub ns : List (Addr × Obj)} (N : News h₀ L h (a :: ns)) (hs : ∀ q ∈ sub, q ∈ ns) : News h₀ L h (a :: sub) := fun q hq => by
  rcases List.mem_cons.mp hq with rfl | hq
  · exact N _ (.head _)
  · exact N _ (.tail _ (hs q hq))
theorem getD_map {l : List Nat} {k : Nat} (h : k < l.length) : (l.map fun (k : Nat) => (k : Int))[k]? = some ((l.getD k 0 : Nat) : Int) := by
  rw [List.getElem?_map, List.getElem?_eq_getElem h, List.getD_eq_getElem?_getD, List.getElem?_eq_getElem h]
  rfl
theorem getD_mapI {l : List Nat} {k : Nat} (h : k < l.length) : (l.map fun (k : Nat) => (k : Int)).getD k 0 = ((l.getD k 0 : Nat) : Int) := by
  rw [List.getD_eq_getElem?_getD, getD_map h]
  rfl
theorem spl_mono {b0 b1 b2 b3 b4 b5 b6 b7 : Bool} {k : Nat} (hk : k < 7) : (spl b0 b1 b2 b3 b4 b5 b6 b7).getD k 0 ≤ (spl b0 b1 b2 b3 b4 b5 b6 b7).getD (k + 3) 0 := by
  have h0 := one_le b0
  have h1 := one_le b1
  have h2 := one_le b2
  have h3 := one_le b3
  have h4 := one_le b4
  match k, hk with
  | 0, _ => show 0 ≤ 4 + one b1; omega
  | 1, _ => show 1 ≤ 6 + one b2; omega
  | 2, _ => show 2 + one b0 ≤ 8 + one b3; omega
  | 3, _ => show 4 + one b1 ≤ 10 + one b4; omega
  | 4, _ => show 6 + one b2 ≤ 12 + one b5; omega
  | 5, _ => show 8 + one b3 ≤ 14 + one b6; omega
  | 6, _ => show 10 + one b4 ≤ 16 + one b7; omega
  | n + 7, h => omega
theorem gaps_gpl {b0 b1 b2 b3 b4 b5 b6 b7 : Bool} {k : Nat} (hk : k < 7) : (gpl b0 b1 b2 b3 b4 b5 b6 b7)[k]? = some ((gaps b0 b1 b2 b3 b4 b5 b6 b7).getD (k + 2) 0) := by
  match k, hk with
  | 0, _ => rfl
  | 1, _ => rfl
  | 2, _ => rfl
  | 3, _ => rfl
  | 4, _ => rfl
  | 5, _ => rfl
  | 6, _ => rfl
  | n + 7, h => omega
theorem repl_eq (body : List Nat) : Str.ofString "229 ok (" ++ (⟨body.toArray⟩ : Str) ++ Str.ofString ")" = repl body := by
  have e1 : Str.ofString "229 ok (" = ⟨#[50, 50, 57, 32, 111, 107, 32, 40]⟩ := by decide +kernel
  have e2 : Str.ofString ")" = ⟨#[41]⟩ := by decide +kernel
  rw [e1, e2]
  show (⟨#[50, 50, 57, 32, 111, 107, 32, 40] ++ body.toArray ++ #[41]⟩ : Str) = _
  unfold repl
  simp
theorem pf_rep {M C g1 g2 g3 : Nat} (hM : M < 256) (hC : C < 256) (hCM : C ≠ M) (hM41 : M ≠ 41) (hC41 : C ≠ 41) (h1 : g1 ≤ 2) (h2 : g2 ≤ 2) (h3 : g3 ≤ 2) :
    ∃ r, PF (repl (repBody M C g1 g2 g3)) r ⟨#[M]⟩ ⟨#[M]⟩ [⟨#[]⟩, ⟨(List.replicate g1 C).toArray⟩, ⟨(List.replicate g2 C).toArray⟩, ⟨(List.replicate g3 C).toArray⟩, ⟨#[]⟩] := by
  have := pf_repl (body := repBody M C g1 g2 g3) (m := M) (l := M) (fun h => (rep_mem h).elim (fun e => hM41 e.symm) fun e => hC41 e.symm) rfl (rep_snoc M C g1 g2 g3) (by rw [rep_len]; omega)
  rw [rep_split M C g1 g2 g3 hM hC hCM h1 h2 h3] at this
  exact ⟨_, this⟩
/-- two frames stand below -/
theorem below_read {A : Around} {h₀ G h : Heap} {L1 L : Addr} {m : Str → Option Value} {news : List (Addr × Obj)} {o : Obj} {renv lenv : Env} {es : Array DictEntry} {n : Nat} (hA : A.frames = some [renv, lenv]) (st : h₀.StaysIn G) (F : Fr G L1 h m) (N : News G L1 h news) (hm : (L, o) ∈ news) (hd : o.data = .dict es n) (hL0 : h₀.get? L = none)
    (hr : renv.frame = some L1) (hl : lenv.frame = some L) (kr : renv.scope.kind = .function) (kl : lenv.scope.kind = .function) : Below A h₀ [renv, lenv] h := by
  obtain ⟨o1, es1, ep1, h1, hd1, _⟩ := F.ns
  have hL1 : h₀.get? L1 = none := by
    cases q : h₀.get? L1 with
    | none => rfl
    | some o => have := st _ _ q; rw [kts_self F] at this; cases this
  exact ⟨hA, fun b o e => F.keep _ _ (st _ _ e), by rw [kr]; decide, ⟨L1, o1, hr, hL1, h1, fun vs q => by rw [hd1] at q; cases q⟩, by rw [kl]; decide, ⟨L, o, hl, hL0, (N _ hm).1, fun vs q => by rw [hd] at q; cases q⟩, trivial⟩
end Mine
end
section
open PySem PySem.Spec PySem.Calls PySem.W PyProof.Rows PyProof.Rows.LCg PyProof.Rows.LCt
set_option maxRecDepth 100000
set_option maxHeartbeats 8000000
set_option linter.unusedVariables false
namespace Mine

theorem news_ports {h₀ h : Heap} {L D : Addr} {news : List (Addr × Obj)} {f : Nat} {t u : Tok} (N : News h₀ L h news) (hm : (D, portsObj f t u) ∈ news) : h.IsList D #[.none, .int (f : Int) t, .int (11 * (f : Int)) u] := News.isList N hm
theorem name_nextL {gs : List Nat} {k g : Nat} {l : String} (h : gs[k]? = some g) (hl : Str.ofString l = ⟨#[97 + g]⟩) : nameS (gs.take k) ++ Str.ofString "." ++ Str.ofString l = nameS (gs.take (k + 1)) := by
  rw [hl, nameS_snoc, List.take_add_one, h]
  rfl
theorem rd_next {gs : List Nat} {Dp Ds L1 L : Addr} {ws : List Value} {op o4 o2 oL : Obj} {k : Nat} {m : Str → Option Value} {ns : List (Addr × Obj)} (X : Str) (sl : Array (Option Value)) (h1 : ∃ t, m "name" = some (.str X t)) (hX : X = nameS (gs.take k)) (h2 : m "spots" = some (.ref Ds)) (h3 : m "ports" = some (.ref Dp))
    (hs : ∀ q ∈ [(Dp, op), (Ds, lst ws), (L1 + 1 + 1, o4), (L1 + 1, o2), (L, ({ oL with slots := sl } : Obj))], q ∈ ns) : RdInv gs Dp Ds L1 L ws op o4 o2 oL k m ns := by
  obtain ⟨t, h1⟩ := h1
  exact ⟨t, sl, by rw [h1, hX], h2, h3, hs⟩
local macro_rules | `(tactic| walk_at "my_enterL") => `(tactic| (k_whole; intro G' oL' es' n' L' h' tk' cells' hd' st' nL' up' nL0' lt' F' N' Y' X' T'; k_cells Y'; (try simp only [List.cons_append, List.nil_append] at N'); (try dsimp only); (try k_fold)))
local macro_rules | `(tactic| walk_at "binaryOp Mult str int") => `(tactic| (k_here; (refine mul2 ?_; intro _ _)))
local macro_rules | `(tactic| walk_at "eval ListComp") => `(tactic| (k_here; k_dflt first
  | (refine ListComp_B (F₀ := by k_asm) (by with_unfolding_all rfl) (by decide) (by rfl) (by decide) (by rfl) ?_)
  | (refine LCt.ListComp_T (F₀ := by k_asm) (by with_unfolding_all rfl) (by decide) (by rfl) (by decide) (by rfl) ?_)))
local macro_rules | `(tactic| walk_at "exec Assign cons ListComp") => `(tactic| (k_here; k_dflt (refine LCt.Assign_ListComp_T (F₀ := by k_asm) (by rfl) (by with_unfolding_all rfl) (by with_unfolding_all rfl) (by decide) (by rfl) (by decide) (by rfl) (by rfl) (by rfl) ?_)))
local macro_rules | `(tactic| walk_at "call builtin:len") => `(tactic| ((with_reducible show wpAny _ _ (call (Value.builtin "len") [Value.ref _]) _ _ _); refine Stop.intro ?_))
local macro_rules | `(tactic| walk_at "CompSrcT") => `(tactic| fail "stop here")
set_option hygiene false in
local macro_rules | `(tactic| walk_at "call builtin:len") => `(tactic| (k_here; (with_reducible show wpAny _ _ (call (Value.builtin "len") [Value.str _ _]) _ _ _); (refine len_v hlen (by decide) ?_; intro _ _)))
local macro_rules | `(tactic| walk_at "call type:range") => `(tactic| (k_here; (with_reducible show wpAny _ _ (call (Value.type _) [Value.int _ _]) _ _ _); (refine range1_L (by k_asm) (by k_asm) ?_; k_whole); intro D' h' tk' t1' t2' F' N' l1; (try k_lt l1)))
set_option hygiene false in
local macro_rules | `(tactic| walk_at "call builtin:str.join") => `(tactic| (k_here; (refine join_listW (News.isList (by k_asm) (by k_mem)) hS9 (by decide +kernel) hW9 ?_; intro _ _)))
set_option hygiene false in
local macro_rules | `(tactic| walk_at "binaryOp Add str str") => `(tactic| (k_here; (refine add_v hA9 hA1 hA2 ?_; intro _ _)))
local macro_rules | `(tactic| walk_at "eval Name") => `(tactic| (k_here; k_dflt (refine nameX_L (by k_asm) (by assumption) ?_ (by rfl) (by rfl) (by decide); k_whole)))
local macro_rules | `(tactic| walk_at "pyIter ref") => `(tactic| refine Stop.intro ?_)
set_option hygiene false in
local macro_rules | `(tactic| walk_at "binaryOp Add str str") => `(tactic| (k_here; ((with_reducible refine add_v hB1 hB2 hB3 ?_); intro _ _)))
set_option hygiene false in
local macro_rules | `(tactic| walk_at "binaryOp Add str str") => `(tactic| (k_here; ((with_reducible refine add_v hB4 hB5 hB6 ?_); intro _ _)))
local macro_rules | `(tactic| walk_at "compareOp NotIn none ref") => `(tactic| (k_here; (refine notIn_P0 (news_ports (by k_asm) (by k_mem)) ?_)))
local macro_rules | `(tactic| walk_at "compareOp NotIn int ref") => `(tactic| (k_here; (refine notIn_P1 (news_ports (by k_asm) (by k_mem)) (by first | exact Or.inl rfl | exact Or.inr rfl) ?_)))
set_option hygiene false in
local macro_rules | `(tactic| walk_at "call builtin:list.index") => `(tactic| (k_here; first | (refine idx_P0 (news_ports (by k_asm) (by k_mem)) ?_; intro _ _) | (refine idx_P1 (news_ports (by k_asm) (by k_mem)) ?_; intro _ _) | (refine idx_P2 hf1 (news_ports (by k_asm) (by k_mem)) ?_; intro _ _)))
set_option hygiene false in
local macro_rules | `(tactic| walk_at "binaryOp Add str str") => `(tactic| (k_here; first | ((with_reducible refine add_v rfl hN1 ?_ ?_); (decide +kernel); intro _ _) | ((with_reducible refine add_v rfl hN2 ?_ ?_); (decide +kernel); intro _ _)))
theorem c_read (w : World) (news : List (Addr × Obj)) (M C : UInt8) (f : Nat) (b0 b1 b2 b3 b4 b5 b6 b7 : Bool) (t tm tf : Tok) (hCM : C.toNat ≠ M.toNat) (hM41 : M.toNat ≠ 41) (hC41 : C.toNat ≠ 41) (hf1 : 1 ≤ f) (hf9 : f ≤ 9) (hC : C.toNat = 48 + f) :
  ∀ (loose : List Str) (mean : ExcName → Option Value) (mg mb : Str → Option Value) (dp un : Nat) (gd : Option (List Code)) (cn : Str) (cs : Scope) (a : Addr) (ccd : Value) (cl : List (Str × Addr)) (A₀ : Around) (h₀ : Heap) (L : Addr) (m : Str → Option Value) (s : Shared) (Q E : Value → Shared → Prop),
    Below A₀ h₀ [] h₀ → Fr h₀ L s.heap m → (hdC.heap_39 w.params).In h₀ → News h₀ L s.heap news → Top topProg loose mean mg mb h₀ → cs.kind = .function →
    dp + 4 < recursionLimit → un + 300 < cLine →
    (∀ t h' tk', Fr h₀ L h' m → News h₀ L h' news → Q (.str (nameS (gpl b0 b1 b2 b3 b4 b5 b6 b7)) t) { s with heap := h', toks := tk' }) →
    wpC (model theProg w) (ktrTop dp un gd cn cs L a ccd cl []) (call (.ref 158) [.bytes (octL M C b0 b1 b2 b3 b4 b5 b6 b7).toArray t, .str ⟨#[M.toNat]⟩ tm, .int (f : Int) tf]) Q E s := by
  w_top off
  delta theProg
  k_fill
  intro loose mean mg mb dp un gd cn cs a ccd cl A₀ h₀ L m s Q E B F X N T hk hdp hun hret
  refine wpC_call ?_
  (refine' code_topLC ?en1k1 ?en1k2 ?en1k3 ?en1k4 ?en1k5 ?en1kA ?en1kF ?en1kK ?en1k6 ?en1k7 ?en1k8 ?en1k9 ?en1kB ?en1kD ?_ ?en1c2 ?en1c3 ?en1c4; (case en1kA => exact rfl); (case en1kF => exact rfl); (case en1kK => first | exact rfl | assumption); (case en1k1 => k_asm); (case en1k2 => k_asm); (case en1k3 => k_asm); (case en1k4 => k_asm); (case en1k5 => k_asm); (case en1k6 => k_is); (case en1k7 => k_is); (case en1k8 => ktr_room); (case en1k9 => exact BindsTo.of_eq rfl); (case en1kB => exact rfl); (case en1kD => decide +kernel); (case en1c2 => exact rfl); (case en1c3 => exact rfl); (case en1c4 => exact rfl))
  walk_at "my_enterL"
  rename_i G1 oL1 es1 n1 L1 h1 tk1 hd1 st1 nL1 up1 nL01 lt1 F1 X1 T1 o1 o2 d1 d2 N1
  have hLL : (@LT.lt Nat _ L L1) := lt1
  refine wpC_execs_at 4 ?_
  dsimp only [List.take, List.drop]
  k_steps
  rename_i t2 k2
  refine SrcB.intro rfl F1 N1 (by rw [sizeLine_eq]; show 16 ≤ 16777216; decide) fun g => ?_
  refine comp_loop (n := 16) (fun i ys ns => StrsAre ys (((octL M C b0 b1 b2 b3 b4 b5 b6 b7).take i).map chrS) ∧ ∀ q ∈ [(L1 + 1 + 1, o1), (L1 + 1, o2), (L, oL1)], q ∈ ns) ?hend ?hstep 16 0 [] _ rfl ?h0
  case h0 => exact ⟨.nil, fun q hq => hq⟩
  case hstep =>
    rintro i ys ns hi ⟨hy, hsub⟩ v I oI C' oC D m₂ s E' ⟨c, tv, hc, rfl⟩ hC' hx F N off ne
    have hc256 := c.toNat_lt
    have N2 : News G1 L1 s.heap [(I, oI), (C', oC), (D, lst ys), (L1 + 1 + 1, o1), (L1 + 1, o2), (L, oL1)] := fun q hq => by
      rcases List.mem_cons.mp hq with rfl | hq
      · exact N _ (.head _)
      · rcases List.mem_cons.mp hq with rfl | hq
        · exact N _ (.tail _ (.head _))
        · rcases List.mem_cons.mp hq with rfl | hq
          · exact N _ (.tail _ (.tail _ (.head _)))
          · exact N _ (.tail _ (.tail _ (.tail _ (hsub q hq))))
    clear N
    k_steps
    refine LCg.CompEnd.intro (by assumption) N2 [(L1 + 1 + 1, o1), (L1 + 1, o2), (L, oL1)] (fun p hp => hp) (LCg.Off3.of fun p hp => off.mem p (hsub p hp)) trivial ⟨?_, fun q hq => hq⟩
    have e : ((octL M C b0 b1 b2 b3 b4 b5 b6 b7).take (i + 1)).map chrS = ((octL M C b0 b1 b2 b3 b4 b5 b6 b7).take i).map chrS ++ [chrS c] := by
      have hc' : (octL M C b0 b1 b2 b3 b4 b5 b6 b7)[i]? = some c := by rw [← List.getElem?_toArray]; exact hc
      rw [List.take_add_one, hc', List.map_append]
      rfl
    rw [e]
    exact StrsAre.append' hy (.cons _ _ .nil)
  case hend =>
    rintro ys ns ⟨hS9', hsub⟩
    have hS9 : StrsAre ys ((octL M C b0 b1 b2 b3 b4 b5 b6 b7).map chrS) := hS9'
    clear hS9'
    unfold LCg.FinE
    have hW9 : (((octL M C b0 b1 b2 b3 b4 b5 b6 b7).map chrS).map (·.length)).sum + ((octL M C b0 b1 b2 b3 b4 b5 b6 b7).map chrS).length ≤ 1048576 := octL_w M C b0 b1 b2 b3 b4 b5 b6 b7
    generalize hO : (octL M C b0 b1 b2 b3 b4 b5 b6 b7).map chrS = oS at *
    have hA9 := oct_line M C b0 b1 b2 b3 b4 b5 b6 b7
    rw [hO] at hA9
    generalize hln : (⟨(lineL M.toNat C.toNat [b0, b1, b2, b3, b4, b5, b6, b7]).toArray⟩ : Str) = ln at *
    have hlen : ln.length = 18 := by rw [← hln]; rfl
    have hA1 : (⟨#[M.toNat, M.toNat]⟩ : Str).length ≤ 200 := by show 2 ≤ 200; decide
    have hA2 : (Txt.join (Str.ofString "") oS).length ≤ 200 := by
      have e : ((⟨#[M.toNat, M.toNat]⟩ : Str) ++ Txt.join (Str.ofString "") oS).length = 18 := by rw [hA9]; exact hlen
      rw [Str.length_append] at e
      omega
    intro D3 h3 tk3 F3 N3' off3
    have N3 : News G1 L1 h3 [(D3, lst ys), (L1 + 1 + 1, o1), (L1 + 1, o2), (L, oL1)] := fun q hq => by
      rcases List.mem_cons.mp hq with rfl | hq
      · exact N3' _ (.head _)
      · exact N3' _ (.tail _ (hsub q hq))
    clear N3'
    have hD1 : (@Ne Nat (L1 + 1 + 1) D3) := off1_mem off3 (L1 + 1 + 1, o1) (hsub _ (.head _))
    have hD2 : (@Ne Nat (L1 + 1) D3) := off1_mem off3 (L1 + 1, o2) (hsub _ (.tail _ (.head _)))
    have hD3 : (@Ne Nat L D3) := off1_mem off3 (L, oL1) (hsub _ (.tail _ (.tail _ (.head _))))
    clear off3 hsub
    k_steps
    rename_i ta ka tb kb h4 o4 F4 N4 d4 tc kc D5 h5 tk5 u5 v5 F5 N5 l5
    refine LCt.CompSrcT.range (n := 18) rfl F5 N5 (N5 _ (.head _)).1 (by decide +kernel) (by decide +kernel) (by rw [sizeLine_eq]; decide) fun g2 => ?_
    refine comp_loopT (n := 18) (SpInv (pat [b0, b1, b2, b3, b4, b5, b6, b7]) [(L1 + 1 + 1, o4), (L1 + 1, o2), (L, oL1)]) ?hend2 ?hstep2 18 0 [] _ rfl ?h02
    case h02 => exact ⟨.nil, fun q hq => .tail _ (.tail _ hq)⟩
    case hstep2 =>
      rintro i ys ns hi ⟨hy, hsub⟩ v I oI C' oC D m₂ s E' ⟨tv, rfl⟩ hC' hx F N off ne
      have N2 : News G1 L1 s.heap [(I, oI), (C', oC), (D, lst ys), (L1 + 1 + 1, o4), (L1 + 1, o2), (L, oL1)] := news_sub N hsub
      clear N
      k_steps
      · rename_i ha
        refine LCg.CompEnd.intro (by assumption) N2 [(L1 + 1 + 1, o4), (L1 + 1, o2), (L, oL1)] (fun p hp => hp) (LCg.Off3.of fun p hp => off.mem p (hsub p hp)) trivial ⟨?_, fun q hq => hq⟩
        have hb := spot_test hCM hln hi
        rw [ha] at hb
        rw [spotI_succ, ← hb, if_pos rfl]
        refine IntsAre.append hy ?_
        rw [Int.zero_add (i : Int)]
        exact .cons _ _ .nil
      · rename_i ha
        refine LCg.CompEnd.intro (by assumption) N2 [(L1 + 1 + 1, o4), (L1 + 1, o2), (L, oL1)] (fun p hp => hp) (LCg.Off3.of fun p hp => off.mem p (hsub p hp)) trivial ⟨?_, fun q hq => hq⟩
        have hb := spot_test hCM hln hi
        rw [ha] at hb
        rw [spotI_succ, ← hb, if_neg (by decide), List.append_nil]
        exact hy
    case hend2 =>
      rintro ws ns ⟨hw, hsub⟩
      unfold LCg.FinA
      intro D6 h6 tk6 F6 N6' off6
      have N6 : News G1 L1 h6 [(D6, lst ws), (L1 + 1 + 1, o4), (L1 + 1, o2), (L, oL1)] := fun q hq => by
        rcases List.mem_cons.mp hq with rfl | hq
        · exact N6' _ (.head _)
        · exact N6' _ (.tail _ (hsub q hq))
      clear N6'
      have hE1 : (@Ne Nat (L1 + 1 + 1) D6) := off1_mem off6 (L1 + 1 + 1, o4) (hsub _ (.head _))
      have hE2 : (@Ne Nat (L1 + 1) D6) := off1_mem off6 (L1 + 1, o2) (hsub _ (.tail _ (.head _)))
      have hE3 : (@Ne Nat L D6) := off1_mem off6 (L, oL1) (hsub _ (.tail _ (.tail _ (.head _))))
      clear off6 hsub
      have hsp : spotP (pat [b0, b1, b2, b3, b4, b5, b6, b7]) 18 = spl b0 b1 b2 b3 b4 b5 b6 b7 := spots_all b0 b1 b2 b3 b4 b5 b6 b7
      unfold spotI at hw
      rw [hsp] at hw
      have hwl : ws.length = 10 := by rw [hw.length]; rfl
      k_steps
      dsimp only
      refine wpC_execs_cons (wpC_For ?_)
      k_steps
      unfold Stop
      rename_i l7 h7 lt7 h8 h9 F7 N7
      refine len_L (news_lst N7 (.tail _ (.head _))) hwl (by decide) fun t8 k8 => ?_
      k_steps
      unfold Stop
      rename_i D8 h10 tk10 u8 v8 F8 N8 l8
      have e7 : ((10 : Nat) : Int) - 3 = ((7 : Nat) : Int) := by decide
      rw [e7] at N8
      refine pyIter_rangeN (n := 7) F8 N8 (.head _) (by decide) fun I9 h11 F9 N9 hI9 lI9 hIL hI0 => ?_
      have hx0 : Str.ofString "x" = nameS [] := by decide +kernel
      have lI1 : (@LT.lt Nat _ l7 I9) := lI9 _ (.tail _ (.head _))
      have lI2 : (@LT.lt Nat _ D6 I9) := lI9 _ (.tail _ (.tail _ (.head _)))
      have lI3 : (@LT.lt Nat _ (L1 + 1 + 1) I9) := lI9 _ (.tail _ (.tail _ (.tail _ (.head _))))
      have lI5 : (@LT.lt Nat _ L I9) := lI9 _ (.tail _ (.tail _ (.tail _ (.tail _ (.tail _ (.head _))))))
      refine range_loopC (n := 7) (RdInv (gpl b0 b1 b2 b3 b4 b5 b6 b7) l7 D6 L1 L ws (portsObj f tf (tk6 + 1)) o4 o2 oL1) rfl (by rfl) (by rfl) ?hloop ?hexit (?h00 : RdInv _ _ _ _ _ _ _ _ _ _ 0 _ _) F9 N9 (fun q hq => Nat.ne_of_lt (lI9 q hq)) hI9 hIL hI0
      case h00 => exact ⟨_, oL1.slots, (if_pos rfl).trans (by rw [hx0]; rfl), rfl, rfl, fun q hq => .tail _ hq⟩
      case hexit =>
        intro m ns hh tkk hinv F N
        obtain ⟨tn, sl, hm1, hm2, hm3, hsub⟩ := hinv
        have F' : Fr G1 L1 hh m := F
        have NN : News G1 L1 hh [(l7, portsObj f tf (tk6 + 1)), (D6, lst ws), (L1 + 1 + 1, o4), (L1 + 1, o2), (L, { oL1 with slots := sl })] := fun q hq => N q (hsub q hq)
        clear N F
        obtain ⟨z1, hB1⟩ : ∃ z, Str.ofString "229 ok (" ++ ln = z := ⟨_, rfl⟩
        have hB2 : (Str.ofString "229 ok (").length ≤ 200 := by decide +kernel
        have hB3 : ln.length ≤ 200 := by omega
        have hB4 : z1 ++ Str.ofString ")" = repl (lineL M.toNat C.toNat [b0, b1, b2, b3, b4, b5, b6, b7]) := by rw [← hB1, ← hln]; exact repl_eq _
        have hB5 : z1.length ≤ 200 := by
          have e : (z1 ++ Str.ofString ")").length = 27 := by rw [hB4, repl_len]; rfl
          rw [Str.length_append] at e
          omega
        have hB6 : (Str.ofString ")").length ≤ 200 := by decide +kernel
        dsimp only
        refine wpC_execs_cons (wpC_Try ?_)
        refine wpC_of_any ?_
        k_steps
        rename_i D9 h12 F10 N10 l12
        have hne : lineL M.toNat C.toNat [b0, b1, b2, b3, b4, b5, b6, b7] ≠ [] := List.cons_ne_nil _ _
        have hpf := pf_repl (body := lineL M.toNat C.toNat [b0, b1, b2, b3, b4, b5, b6, b7]) (m := M.toNat) (fun h => (line_mem h).elim (fun e => hM41 e.symm) fun e => hC41 e.symm) rfl (List.dropLast_concat_getLast hne).symm (by rw [line_len]; decide)
        have hbad : (Txt.split ⟨(lineL M.toNat C.toNat [b0, b1, b2, b3, b4, b5, b6, b7]).toArray⟩ ⟨#[M.toNat]⟩).length ≠ 5 := by
          have e1 : M.toNat ∈ lineL M.toNat C.toNat [b0, b1, b2, b3, b4, b5, b6, b7] := List.mem_cons_self
          rw [split_len (lineL M.toNat C.toNat [b0, b1, b2, b3, b4, b5, b6, b7]) M.toNat (fun x hx => (line_mem hx).elim (fun e => e ▸ M.toNat_lt) fun e => e ▸ C.toNat_lt) e1, line_count hCM]
          decide
        refine' c_p229c _ _ _ _ _ _ _ _ _ _ _ _ ?zqHx ?zqhbadx _ _ _ _ _ _ _ _ _ _ _ _ _ h₀ _ _ _ _ _ _ ?zqhPx ?zqBx ?zqFx ?zqXx ?zqNx ?zqTx ?zqkkx ?zqkdx ?zqkux ?_
        (case zqHx => first | exact hpf | (rw [hB1, hB4]; exact hpf) | (rw [← hln, repl_eq]; exact hpf))
        (case zqhbadx => exact .inr hbad)
        (case zqhPx => exact News.isTup (by k_asm) (.head _))
        (case zqBx => exact below_read (o := { oL1 with slots := sl }) rfl st1 (by k_asm) (by k_asm) (.tail _ (.tail _ (.tail _ (.tail _ (.tail _ (.head _)))))) hd1 nL01 rfl rfl rfl hk)
        (case zqFx => k_asm)
        (case zqXx => k_asm)
        (case zqNx => k_asm)
        (case zqTx => k_asm)
        (case zqkkx => rfl)
        (case zqkdx => ktr_room)
        (case zqkux => ktr_units)
        intro nn ee tz hz tkz Rz Uz
        have NL : News G1 L1 h12 ((L, { oL1 with slots := sl }) :: [(l7, portsObj f tf (tk6 + 1)), (D6, lst ws), (L1 + 1 + 1, o4), (L1 + 1, o2)]) := fun q hq => by
          rcases List.mem_cons.mp hq with rfl | hq
          · exact N10 _ (.tail _ (.tail _ (.tail _ (.tail _ (.tail _ (.head _))))))
          · exact N10 q (.tail _ (List.mem_append_left [(L, ({ oL1 with slots := sl } : Obj))] hq))
        have hLl7 : (@LT.lt Nat _ L l7) := lt7.2.2.2
        have offL : ∀ q ∈ [(l7, portsObj f tf (tk6 + 1)), (D6, lst ws), (L1 + 1 + 1, o4), (L1 + 1, o2)], q.1 ≠ L := by
          intro q hq
          simp only [List.mem_cons, List.not_mem_nil, or_false] at hq
          rcases hq with rfl | rfl | rfl | rfl
          · exact Nat.ne_of_gt hLl7
          · exact Ne.symm hE3
          · exact Nat.ne_of_gt (Nat.lt_succ_of_lt (Nat.lt_succ_of_lt hLL))
          · exact Nat.ne_of_gt (Nat.lt_succ_of_lt hLL)
        have hdf : ∀ vs, ({ oL1 with slots := sl } : Obj).data ≠ .fields vs := fun vs q => by
          have q2 : oL1.data = _ := q
          rw [hd1] at q2
          cases q2
        refine caught_LO (lenv := envX cn cs L a ccd cl) rfl rfl Rz Uz F10 NL nL1 hdf offL X1 (topRead_of T1) (by k_is) (bmB := [.type "Exception", .type "BaseException", .type "object"]) (newId := "Exception.__new__") (by k_exc) rfl fun h6' sl6 F6' N6' => ?_
        k_steps
        dsimp only
        exact LeaveL.intro F6' N6' (.head _) fun kF kN => hret _ _ _ kF kN
      case hloop =>
        intro k m ns hh tkk it tv hk7 hinv F N off
        obtain ⟨tn, sl, hm1, hm2, hm3, hsub⟩ := hinv
        have F' : Fr G1 L1 hh (fun y => if y = "k" then some (.int (k : Int) tv) else m y) := F
        have NN : News G1 L1 hh [(I9, it), (l7, portsObj f tf (tk6 + 1)), (D6, lst ws), (L1 + 1 + 1, o4), (L1 + 1, o2), (L, { oL1 with slots := sl })] := news_sub1 N hsub
        clear N F
        have hs1 : (List.map (fun (k : Nat) => (k : Int)) (spl b0 b1 b2 b3 b4 b5 b6 b7))[k]? = some (((spl b0 b1 b2 b3 b4 b5 b6 b7).getD k 0 : Nat) : Int) := getD_map (by show k < 10; omega)
        have hs2 : (List.map (fun (k : Nat) => (k : Int)) (spl b0 b1 b2 b3 b4 b5 b6 b7))[k + 3]? = some (((spl b0 b1 b2 b3 b4 b5 b6 b7).getD (k + 3) 0 : Nat) : Int) := getD_map (by show k + 3 < 10; omega)
        have hs3 : (k : Int) + 3 = ((k + 3 : Nat) : Int) := by omega
        have hrep := line_cut (M := M.toNat) (C := C.toNat) (b0 := b0) (b1 := b1) (b2 := b2) (b3 := b3) (b4 := b4) (b5 := b5) (b6 := b6) (b7 := b7) hk7
        have hp1 := (spl_lt (k := k) (b0 := b0) (b1 := b1) (b2 := b2) (b3 := b3) (b4 := b4) (b5 := b5) (b6 := b6) (b7 := b7) (by omega)).1
        have hp2 := (spl_lt (k := k + 3) (b0 := b0) (b1 := b1) (b2 := b2) (b3 := b3) (b4 := b4) (b5 := b5) (b6 := b6) (b7 := b7) (by omega)).1
        have hmono := spl_mono (b0 := b0) (b1 := b1) (b2 := b2) (b3 := b3) (b4 := b4) (b5 := b5) (b6 := b6) (b7 := b7) hk7
        have hg1 := gaps_le (b0 := b0) (b1 := b1) (b2 := b2) (b3 := b3) (b4 := b4) (b5 := b5) (b6 := b6) (b7 := b7) k
        have hg2 := gaps_le (b0 := b0) (b1 := b1) (b2 := b2) (b3 := b3) (b4 := b4) (b5 := b5) (b6 := b6) (b7 := b7) (k + 1)
        have hg3 := gaps_le (b0 := b0) (b1 := b1) (b2 := b2) (b3 := b3) (b4 := b4) (b5 := b5) (b6 := b6) (b7 := b7) (k + 2)
        have hgk : (gpl b0 b1 b2 b3 b4 b5 b6 b7)[k]? = some ((gaps b0 b1 b2 b3 b4 b5 b6 b7).getD (k + 2) 0) := gaps_gpl hk7
        have hv1 : (List.map (fun (k : Nat) => (k : Int)) (spl b0 b1 b2 b3 b4 b5 b6 b7)).getD ((k : Int)).toNat 0 = (((spl b0 b1 b2 b3 b4 b5 b6 b7).getD k 0 : Nat) : Int) := by
          rw [Int.toNat_natCast]; exact getD_mapI (by show k < 10; omega)
        have hv2 : (List.map (fun (k : Nat) => (k : Int)) (spl b0 b1 b2 b3 b4 b5 b6 b7)).getD ((k : Int) + 3).toNat 0 = (((spl b0 b1 b2 b3 b4 b5 b6 b7).getD (k + 3) 0 : Nat) : Int) := by
          rw [show ((k : Int) + 3).toNat = k + 3 by omega]; exact getD_mapI (by show k + 3 < 10; omega)
        have hN1 : (nameS ((gpl b0 b1 b2 b3 b4 b5 b6 b7).take k)).length ≤ 200 := by
          rw [nameS_len]
          have := List.length_take_le k (gpl b0 b1 b2 b3 b4 b5 b6 b7)
          omega
        have hN2 : (nameS ((gpl b0 b1 b2 b3 b4 b5 b6 b7).take k) ++ Str.ofString ".").length ≤ 200 := by
          rw [Str.length_append, nameS_len]
          have := List.length_take_le k (gpl b0 b1 b2 b3 b4 b5 b6 b7)
          have : (Str.ofString ".").length = 1 := by decide +kernel
          omega
        generalize (spl b0 b1 b2 b3 b4 b5 b6 b7).getD k 0 = pa at *
        generalize (spl b0 b1 b2 b3 b4 b5 b6 b7).getD (k + 3) 0 = pb at *
        generalize (gaps b0 b1 b2 b3 b4 b5 b6 b7).getD k 0 = g1 at *
        generalize (gaps b0 b1 b2 b3 b4 b5 b6 b7).getD (k + 1) 0 = g2 at *
        generalize (gaps b0 b1 b2 b3 b4 b5 b6 b7).getD (k + 2) 0 = g3 at *
        have hcut : Txt.slice ln (some (pa : Int)) (some ((pb : Int) + 1)) = ⟨(repBody M.toNat C.toNat g1 g2 g3).toArray⟩ := by
          rw [← hln, show ((pb : Int) + 1) = ((pb + 1 : Nat) : Int) by omega, slice_cut _ pa (pb + 1) (by omega) (by show pb + 1 ≤ 18; omega), hrep]
        obtain ⟨z1, hB1⟩ : ∃ z, Str.ofString "229 ok (" ++ Txt.slice ln (some (pa : Int)) (some ((pb : Int) + 1)) = z := ⟨_, rfl⟩
        have hB2 : (Str.ofString "229 ok (").length ≤ 200 := by decide +kernel
        have hrl : (⟨(repBody M.toNat C.toNat g1 g2 g3).toArray⟩ : Str).length = 4 + g1 + g2 + g3 := by
          show (repBody M.toNat C.toNat g1 g2 g3).toArray.size = _
          rw [List.size_toArray, rep_len]
        have hB3 : (Txt.slice ln (some (pa : Int)) (some ((pb : Int) + 1))).length ≤ 200 := by rw [hcut, hrl]; omega
        have hB4 : z1 ++ Str.ofString ")" = repl (repBody M.toNat C.toNat g1 g2 g3) := by rw [← hB1, hcut]; exact repl_eq _
        have hB5 : z1.length ≤ 200 := by
          have e : (z1 ++ Str.ofString ")").length = 13 + g1 + g2 + g3 := by rw [hB4, repl_len, rep_len]; omega
          rw [Str.length_append] at e
          omega
        have hB6 : (Str.ofString ")").length ≤ 200 := by decide +kernel
        refine wpC_execs_at 1 ?_
        dsimp only [List.take, List.drop]
        k_steps
        dsimp only
        refine wpC_execs_cons (wpC_Try ?_)
        refine wpC_execs_cons (wpC_Assign_Tuple (wpC_Call_Name ?_))
        k_steps
        refine wpC_callWith_K (K := hdC.heap_39 w.params) (by k_is) ?_
        k_steps
        rename_i D9 h12 F10 N10 l12
        obtain ⟨r, hpf⟩ := pf_rep (M := M.toNat) (C := C.toNat) M.toNat_lt C.toNat_lt hCM hM41 hC41 hg1 hg2 hg3
        have hcs : g3 = 0 ∨ g3 = 1 ∨ g3 = 2 := by omega
        rcases hcs with rfl | rfl | rfl
        · refine' c_p229b _ _ _ _ _ _ _ _ _ _ _ _ ?zqH0 ?zqhok0 ?zqh50 ?zqh30 _ _ _ _ _ _ _ _ _ _ _ _ _ h₀ _ _ _ _ _ _ ?zqhP0 ?zqB0 ?zqF0 ?zqX0 ?zqN0 ?zqT0 ?zqkk0 ?zqkd0 ?zqku0 ?_
          (case zqH0 => rw [hv1, hv2, hcut, repl_eq]; exact hpf)
          (case zqhok0 => exact bne_self_eq_false _)
          (case zqh50 => rfl)
          (case zqh30 => rfl)
          (case zqhP0 => exact News.isTup (by k_asm) (.head _))
          (case zqB0 => exact below_read (o := { oL1 with slots := sl }) rfl st1 (by k_asm) (by k_asm) (.tail _ (.tail _ (.tail _ (.tail _ (.tail _ (.tail _ (.head _))))))) hd1 nL01 rfl rfl rfl hk)
          (case zqF0 => k_asm)
          (case zqX0 => k_asm)
          (case zqN0 => k_asm)
          (case zqT0 => k_asm)
          (case zqkk0 => rfl)
          (case zqkd0 => ktr_room)
          (case zqku0 => ktr_units)
          intro nn ee hz tkz Rz Uz
          have NL : News G1 L1 h12 ((L, { oL1 with slots := sl }) :: [(I9, it), (l7, portsObj f tf (tk6 + 1)), (D6, lst ws), (L1 + 1 + 1, o4), (L1 + 1, o2)]) := fun q hq => by
            rcases List.mem_cons.mp hq with rfl | hq
            · exact N10 _ (.tail _ (.tail _ (.tail _ (.tail _ (.tail _ (.tail _ (.head _)))))))
            · exact N10 q (.tail _ (List.mem_append_left [(L, ({ oL1 with slots := sl } : Obj))] hq))
          have hLl7 : (@LT.lt Nat _ L l7) := lt7.2.2.2
          have offL : ∀ q ∈ [(I9, it), (l7, portsObj f tf (tk6 + 1)), (D6, lst ws), (L1 + 1 + 1, o4), (L1 + 1, o2)], q.1 ≠ L := by
            intro q hq
            simp only [List.mem_cons, List.not_mem_nil, or_false] at hq
            rcases hq with rfl | rfl | rfl | rfl | rfl
            · exact Nat.ne_of_gt lI5
            · exact Nat.ne_of_gt hLl7
            · exact Ne.symm hE3
            · exact Nat.ne_of_gt (Nat.lt_succ_of_lt (Nat.lt_succ_of_lt hLL))
            · exact Nat.ne_of_gt (Nat.lt_succ_of_lt hLL)
          have hdf : ∀ vs, ({ oL1 with slots := sl } : Obj).data ≠ .fields vs := fun vs q => by
            have q2 : oL1.data = _ := q
            rw [hd1] at q2
            cases q2
          refine caught_LN (lenv := envX cn cs L a ccd cl) (T' := "ValueError") rfl rfl Rz Uz F10 NL nL1 hdf offL X1 (topRead_of T1) (by k_is) PyProof.Rows.Boot.«ValueError» (by decide) PySem.F.isExc_ValueError PySem.F.notTuple_ValueError (by rw [isSubtype_type]; kernel_rfl) fun h6' sl6 F6' N6' => ?_
          k_steps
          dsimp only
          refine wpC_of_any ?_
          k_steps
          refine TurnEnd.intro (show Fr G1 L1 _ _ by k_asm) (show News G1 L1 _ _ by k_asm) [(l7, portsObj f tf (tk6 + 1)), (D6, lst ws), (L1 + 1 + 1, o4), (L1 + 1, o2), (L, { oL1 with slots := sl6 })] ?zqsub0 ?zqoff0 (rd_next (nameS ((gpl b0 b1 b2 b3 b4 b5 b6 b7).take k) ++ Str.ofString "." ++ Str.ofString "a") sl6 ?zqn10 ?zqnm0 ?zqn20 ?zqn30 fun q hq => hq)
          (case zqsub0 =>
            intro p hp
            simp only [List.mem_cons, List.not_mem_nil, or_false] at hp
            rcases hp with rfl | rfl | rfl | rfl | rfl | rfl <;> first | exact .head _ | exact .tail _ (.head _) | exact .tail _ (.tail _ (.head _)) | exact .tail _ (.tail _ (.tail _ (.head _))) | exact .tail _ (.tail _ (.tail _ (.tail _ (.head _)))) | exact .tail _ (.tail _ (.tail _ (.tail _ (.tail _ (.head _))))) | exact .tail _ (.tail _ (.tail _ (.tail _ (.tail _ (.tail _ (.head _)))))) | exact .tail _ (.tail _ (.tail _ (.tail _ (.tail _ (.tail _ (.tail _ (.head _))))))))
          (case zqoff0 =>
            intro q hq
            simp only [List.mem_cons, List.not_mem_nil, or_false] at hq
            rcases hq with rfl | rfl | rfl | rfl | rfl
            · exact Nat.ne_of_lt lI1
            · exact Nat.ne_of_lt lI2
            · exact Nat.ne_of_lt lI3
            · exact Nat.ne_of_lt (Nat.lt_of_succ_lt lI3)
            · exact Nat.ne_of_lt lI5)
          (case zqn10 => exact ⟨_, if_pos rfl⟩)
          (case zqn20 => exact hm2)
          (case zqn30 => exact hm3)
          (case zqnm0 => exact name_nextL hgk (by decide +kernel))
        · refine wpC_of_any ?_
          refine' c_p229a _ _ _ _ _ _ _ _ _ _ _ _ ?zqH1 ?zqhok1 ?zqh51 ?zqh31 ?zqhnum1 ?zqhpl1 _ _ _ _ _ _ _ _ _ _ _ _ _ h₀ _ _ _ _ _ _ ?zqhP1 ?zqB1 ?zqF1 ?zqX1 ?zqN1 ?zqT1 ?zqkk1 ?zqkd1 ?zqku1 ?_
          (case zqH1 => rw [hv1, hv2, hcut, repl_eq]; exact hpf)
          (case zqhok1 => exact bne_self_eq_false _)
          (case zqh51 => rfl)
          (case zqh31 => rfl)
          (case zqhP1 => exact News.isTup (by k_asm) (.head _))
          (case zqB1 => exact below_read (o := { oL1 with slots := sl }) rfl st1 (by k_asm) (by k_asm) (.tail _ (.tail _ (.tail _ (.tail _ (.tail _ (.tail _ (.head _))))))) hd1 nL01 rfl rfl rfl hk)
          (case zqF1 => k_asm)
          (case zqX1 => k_asm)
          (case zqN1 => k_asm)
          (case zqT1 => k_asm)
          (case zqkk1 => rfl)
          (case zqkd1 => ktr_room)
          (case zqku1 => ktr_units)
          (case zqhnum1 => rw [hC]; exact num_one hf1 hf9)
          (case zqhpl1 => exact Nat.le_of_ble_eq_true rfl)
          intro Dt trt h12b tk12 F12 N12 ne12
          k_steps
          dsimp only
          refine wpC_of_any ?_
          k_steps
          dsimp only
          refine wpC_of_any ?_
          k_steps
          refine TurnEnd.intro (show Fr G1 L1 _ _ by k_asm) (show News G1 L1 _ _ by k_asm) [(l7, portsObj f tf (tk6 + 1)), (D6, lst ws), (L1 + 1 + 1, o4), (L1 + 1, o2), (L, { oL1 with slots := sl })] ?zqsub1 ?zqoff1 (rd_next (nameS ((gpl b0 b1 b2 b3 b4 b5 b6 b7).take k) ++ Str.ofString "." ++ Str.ofString "b") sl ?zqn11 ?zqnm1 ?zqn21 ?zqn31 fun q hq => hq)
          (case zqsub1 =>
            intro p hp
            simp only [List.mem_cons, List.not_mem_nil, or_false] at hp
            rcases hp with rfl | rfl | rfl | rfl | rfl | rfl <;> first | exact .head _ | exact .tail _ (.head _) | exact .tail _ (.tail _ (.head _)) | exact .tail _ (.tail _ (.tail _ (.head _))) | exact .tail _ (.tail _ (.tail _ (.tail _ (.head _)))) | exact .tail _ (.tail _ (.tail _ (.tail _ (.tail _ (.head _))))) | exact .tail _ (.tail _ (.tail _ (.tail _ (.tail _ (.tail _ (.head _)))))) | exact .tail _ (.tail _ (.tail _ (.tail _ (.tail _ (.tail _ (.tail _ (.head _))))))))
          (case zqoff1 =>
            intro q hq
            simp only [List.mem_cons, List.not_mem_nil, or_false] at hq
            rcases hq with rfl | rfl | rfl | rfl | rfl
            · exact Nat.ne_of_lt lI1
            · exact Nat.ne_of_lt lI2
            · exact Nat.ne_of_lt lI3
            · exact Nat.ne_of_lt (Nat.lt_of_succ_lt lI3)
            · exact Nat.ne_of_lt lI5)
          (case zqn11 => exact ⟨_, if_pos rfl⟩)
          (case zqn21 => exact hm2)
          (case zqn31 => exact hm3)
          (case zqnm1 => exact name_nextL hgk (by decide +kernel))
        · refine wpC_of_any ?_
          refine' c_p229a _ _ _ _ _ _ _ _ _ _ _ _ ?zqH2 ?zqhok2 ?zqh52 ?zqh32 ?zqhnum2 ?zqhpl2 _ _ _ _ _ _ _ _ _ _ _ _ _ h₀ _ _ _ _ _ _ ?zqhP2 ?zqB2 ?zqF2 ?zqX2 ?zqN2 ?zqT2 ?zqkk2 ?zqkd2 ?zqku2 ?_
          (case zqH2 => rw [hv1, hv2, hcut, repl_eq]; exact hpf)
          (case zqhok2 => exact bne_self_eq_false _)
          (case zqh52 => rfl)
          (case zqh32 => rfl)
          (case zqhP2 => exact News.isTup (by k_asm) (.head _))
          (case zqB2 => exact below_read (o := { oL1 with slots := sl }) rfl st1 (by k_asm) (by k_asm) (.tail _ (.tail _ (.tail _ (.tail _ (.tail _ (.tail _ (.head _))))))) hd1 nL01 rfl rfl rfl hk)
          (case zqF2 => k_asm)
          (case zqX2 => k_asm)
          (case zqN2 => k_asm)
          (case zqT2 => k_asm)
          (case zqkk2 => rfl)
          (case zqkd2 => ktr_room)
          (case zqku2 => ktr_units)
          (case zqhnum2 => rw [hC]; exact num_two hf1 hf9)
          (case zqhpl2 => exact Nat.le_of_ble_eq_true rfl)
          intro Dt trt h12b tk12 F12 N12 ne12
          k_steps
          dsimp only
          refine wpC_of_any ?_
          k_steps
          dsimp only
          refine wpC_of_any ?_
          k_steps
          refine TurnEnd.intro (show Fr G1 L1 _ _ by k_asm) (show News G1 L1 _ _ by k_asm) [(l7, portsObj f tf (tk6 + 1)), (D6, lst ws), (L1 + 1 + 1, o4), (L1 + 1, o2), (L, { oL1 with slots := sl })] ?zqsub2 ?zqoff2 (rd_next (nameS ((gpl b0 b1 b2 b3 b4 b5 b6 b7).take k) ++ Str.ofString "." ++ Str.ofString "c") sl ?zqn12 ?zqnm2 ?zqn22 ?zqn32 fun q hq => hq)
          (case zqsub2 =>
            intro p hp
            simp only [List.mem_cons, List.not_mem_nil, or_false] at hp
            rcases hp with rfl | rfl | rfl | rfl | rfl | rfl <;> first | exact .head _ | exact .tail _ (.head _) | exact .tail _ (.tail _ (.head _)) | exact .tail _ (.tail _ (.tail _ (.head _))) | exact .tail _ (.tail _ (.tail _ (.tail _ (.head _)))) | exact .tail _ (.tail _ (.tail _ (.tail _ (.tail _ (.head _))))) | exact .tail _ (.tail _ (.tail _ (.tail _ (.tail _ (.tail _ (.head _)))))) | exact .tail _ (.tail _ (.tail _ (.tail _ (.tail _ (.tail _ (.tail _ (.head _))))))))
          (case zqoff2 =>
            intro q hq
            simp only [List.mem_cons, List.not_mem_nil, or_false] at hq
            rcases hq with rfl | rfl | rfl | rfl | rfl
            · exact Nat.ne_of_lt lI1
            · exact Nat.ne_of_lt lI2
            · exact Nat.ne_of_lt lI3
            · exact Nat.ne_of_lt (Nat.lt_of_succ_lt lI3)
            · exact Nat.ne_of_lt lI5)
          (case zqn12 => exact ⟨_, if_pos rfl⟩)
          (case zqn22 => exact hm2)
          (case zqn32 => exact hm3)
          (case zqnm2 => exact name_nextL hgk (by decide +kernel))
end Mine
end
section
open PySem PySem.Spec PySem.Calls PySem.W PyProof.Rows
set_option linter.unusedVariables false
set_option maxRecDepth 100000
namespace Mine
section
variable {prog : Program} {w : World} {A : Around} {s : Shared} {mg mb : Str → Option Value} {K : Frag} {p : Program} {loose : List Str} {mean : ExcName → Option Value} {tabs : List (Addr × Addr)}
  {R : Result → Shared → Prop} {name qual : Str} {params : Arguments} {body : List Stmt} {scope : Scope} {dV kV doc pm cdv ct oc : Value} {an od : Option Addr} {osl : Array (Option Value)} {f : Addr} {args : Args} {binds : List (Str × Value)}
/-- the law entered in a clean context, the tables of the inner defs laid in the ledger -/
theorem code_lawC (X : K.In s.heap) (T : Top p loose mean mg mb s.heap) (hT : TabsAt tabs s.heap) (hK : noTabs K = true) (hroom : A.depth < recursionLimit)
    (ho : K.lookup f = some ⟨oc, od, .func (fnOf name qual params body scope dV kV doc pm an cdv ct), osl⟩) (hcd : codeIn K cdv qual = true)
    (hbind : BindsTo s (fnOf name qual params body scope dV kV doc pm an cdv ct) args binds) (hkind : (binds.all fun y => scope.names.lookup y.1 == some .local || scope.names.lookup y.1 == some .cell) = true) (hnd : ((cellsFrom 0 scope.names []).map (·.1)).Nodup)
    (h : ∀ L' h₁ tk cells, Fr (ghostOf s.heap tabs) L' h₁ (bindL (envOfC qual scope L' f cdv).kindOf binds fun _ => none) → News (ghostOf s.heap tabs) L' h₁ (cells ++ tabNews tabs) →
      CellsAre (bindC (envOfC qual scope L' f cdv).kindOf binds fun _ => none) (cellsFrom (L' + 1) scope.names []) cells → K.In (ghostOf s.heap tabs) → Top topProg (loose ++ (recsOf p).map (·.name) ++ (litsOf p).map (·.1) ++ (clssOf p loose).map (·.name)) mean mg mb (ghostOf s.heap tabs) →
      CodeAll tabs (ghostOf s.heap tabs) → (∀ q ∈ tabNews tabs, q.1 < L') →
      wpC (model prog w) (A.deeper (envOfC qual scope L' f cdv)) (execs body (envOfC qual scope L' f cdv))
        (fun fl s' => R (.ok (.ret (match fl with | .ret v => v | _ => .none))) s')
        (fun e s' => wpAny (model prog w) (A.deeper (envOfC qual scope L' f cdv)) (leaving (envOfC qual scope L' f cdv) e) (fun _ s'' => R (.error e) s'') (fun e' s'' => R (.error e') s'') s')
        { s with heap := h₁, toks := tk })
    (hco : scope.isCoroutine = false) (hgen : scope.isGenerator = false) (hk : scope.kind = .function) : codeC (model prog w) A (.call (.ref f) args) R s := by
  refine codeC_call_function hroom (X _ _ ho) rfl hco hgen rfl (codeRec_of X hcd) (hbind _ _ _ _ ?_)
  refine wpAny_newFunctionEnv_cells hk (kindsX hkind _) fun env' he s' x => ?_
  subst he
  refine ⟨T.nolimit.keeps x.toInCall.keep, codeC_func ?_⟩
  obtain ⟨h₁, tk, rfl, _⟩ := x.done
  have hk₁ := x.toInCall.keep
  obtain ⟨cells, NC, Y⟩ := Cl.news (h₀ := s.heap) (Nat.le_refl _) fun n c hm => ⟨x.cell n c (lookup_of_mem_nodup (cellsFrom_names scope.names 0 (s.heap.objs.size + 1) [] [] rfl ▸ hnd) hm), x.above n c hm⟩
  have F : Fr s.heap s.heap.objs.size h₁ (bindL (envOfC qual scope s.heap.objs.size f cdv).kindOf binds fun _ => none) := ⟨x.toInCall.ns, hk₁, Nat.le_refl _⟩
  exact h _ h₁ tk cells (ghost_fr hT F) (ghost_news hT F NC) Y (ghost_K hT X hK) (ghost_top hT T) (ghost_code hT) (ghost_lt hT F)
end
/-- the library's `kn_post` of a code that only hands back a value: what it says of that one end -/
theorem good_end {cw : ClaimW} {cl : Str → Option Addr} {mean : ExcName → Option Value} {args : List WData} {s₁ s' : Shared} {tabs : List (Addr × Addr)} {v : Value} (prog : Program) (w : World) (hT : TabsAt tabs s₁.heap) (hn : ∀ a x, cw.raises a x = false)
    (h : GoodW cw cl mean args { s₁ with heap := ghostOf s₁.heap tabs } (.ok (.ret v)) s') (hgr : GrownAll tabs s'.heap) : GoodWG cw cl mean args s₁ (.ok (.ret v)) s' := by
  have below : PySem.Ctx.Below ⟨.builtin "" {}, none, none, [], none⟩ {} := ⟨rfl, Nat.le_refl _, (fun _ h => by cases h), (fun _ h => by cases h), by decide⟩
  have k := kn_post (M := ⟨fun _ => pure (.done (.ret v)), prog, w⟩) (cd := .builtin "" {}) (s := s') hT hn (codeAny_of_tree (wpAny_pure ⟨h, hgr⟩)) _ default rfl below
  rw [wpCode_iff_wp] at k
  exact k
/-- True at the law's end, only the tables have grown -/
theorem good_true {cw : ClaimW} {cl : Str → Option Addr} {mean : ExcName → Option Value} {args : List WData} {s₁ s' : Shared} {tabs : List (Addr × Addr)} (prog : Program) (w : World) (hT : TabsAt tabs s₁.heap) (hn : ∀ a x, cw.raises a x = false) (hp : cw.post args (.bool true) args = true)
    (hk : ∀ b o, (ghostOf s₁.heap tabs).get? b = some o → s'.heap.get? b = some o) (hgr : GrownAll tabs s'.heap) (hos : s'.os = s₁.os) (hg : s'.gens = #[]) : GoodWG cw cl mean args s₁ (.ok (.ret (.bool true))) s' :=
  good_end prog w hT hn ⟨.inl ⟨.bool true, .bool true, [], rfl, hn args, .bool true, hp, fun _ => ⟨List.nodup_nil, fun a ha => nomatch ha⟩⟩, hk, hos, hg⟩ hgr
/-- the contract of the law -/
abbrev ConLaw (w : World) : Prop := ∀ (l : Addr) (vs : List Value) (ns : List Int) (loose : List Str) (mean : ExcName → Option Value) (mg mb : Str → Option Value) (p : Program) (s : Shared) (R : Result → Shared → Prop),
  IntsAre vs ns → ns.length ≤ 63 → s.heap.IsList l vs.toArray → (hdC.heap_39 w.params).In s.heap → Top p loose mean mg mb s.heap → TabsAt [(77, 73), (70, 66)] s.heap →
  (∀ L m h' tk news ps qs, Fr (ghostOf s.heap [(77, 73), (70, 66)]) L h' m → News (ghostOf s.heap [(77, 73), (70, 66)]) L h' news → (73, tabObj ps) ∈ news → (66, tabObj qs) ∈ news → R (.ok (.ret (.bool true))) { s with heap := h', toks := tk }) →
  codeC (model theProg w) callerA (.call (.ref 163) ⟨[.ref l], []⟩) R s
end Mine
end
section
open PySem PySem.Spec PySem.Calls PySem.W PyProof.Rows
set_option maxRecDepth 100000
set_option maxHeartbeats 4000000
set_option linter.unusedVariables false
namespace Mine
theorem cw_of (hlaw : ∀ w, ConLaw w) : PySem.Challenge.rw_zo0030_01.Holds := by
  refine hdC ?_
  delta WalkO
  k_fill
  intro w s₀ s₁ mg mb G Y fa o pm cd doc dV kV ho hd hcd hD hmg hg args vals as hpre hlay hrd hwl hlo
  have KX := km_in_of Y
  km_tabs Y
  have X := (Ground.X G).1
  have V := (Ground.X G).2
  refine Ground.open G ?_
  intro T B D TE TW
  try (refine guard_noD D (by decide +kernel) ?_; clear D)
  km_lay T hmg ho hd cd
  have hfa : fa = 163 := by
    have e := mg_of (n := "law") (v := .ref 163) KX T.g (by k_is)
    have e2 : some (Value.ref 163) = some (.ref fa) := e.symm.trans hmg
    cases e2
    rfl
  clear hmg
  wrow_args hpre hlay hrd hwl hlo
  rename_i ns1 _ _ _ _ _ _ _ a1 vs1 _ hL1 _ _ _ hI1 _ hc1 _
  subst hfa
  have post : ∀ ns : List Int, PySem.Challenge.rw_zo0030_01.row.claim.post [ofPy (PyData.list (List.map PyData.int ns))] (.bool true) [ofPy (PyData.list (List.map PyData.int ns))] = true := fun ns => by
    first
      | (kernel_rfl; done)
      | (with_unfolding_all rfl)
  refine wpAny_atBottom (wpC_call (codeC_mono (hlaw w a1 vs1 ns1 _ _ _ _ _ s₁ (fun r s' => GoodWG PySem.Challenge.rw_zo0030_01.row.claim (classAt s₀.heap) (ExcName.means s₀.heap) [ofPy (PyData.list (List.map PyData.int ns1))] s₁ r s') hI1 (by omega) hL1 KX T hT9 fun L m h' tk news ps qs F N h1 h2 => ?_) fun r s' g => ?_)) ?_
  · exact good_true theProg w hT9 (fun _ _ => rfl) (post ns1) F.keep ⟨⟨ps, (N _ h1).1⟩, ⟨qs, (N _ h2).1⟩, trivial⟩ rfl hg
  · rcases g.1 with ⟨v, _, _, rfl, _⟩ | ⟨e, _, _, rfl, _⟩ <;> exact g
  · exact good_true theProg w hT9 (fun _ _ => rfl) (post ns1) (fun b o e => of_hideAll _ e) ⟨⟨_, (hT9 _ (.head _)).2⟩, ⟨_, (hT9 _ (.tail _ (.head _))).2⟩, trivial⟩ rfl hg
end Mine
end
section
open PySem PySem.Spec PySem.Calls PySem.W PyProof.Rows
set_option linter.unusedVariables false
set_option maxRecDepth 100000
namespace Mine
theorem bit_of {r : Int} (h : r = 0 ∨ r = 1) : ∃ b : Bool, r = ((one b : Nat) : Int) := by
  rcases h with rfl | rfl
  · exact ⟨false, rfl⟩
  · exact ⟨true, rfl⟩
end Mine
end
section
open PySem PySem.Spec PySem.Calls PySem.W PyProof.Rows PyProof.Rows.LCg PyProof.Rows.LCt
set_option linter.unusedVariables false
set_option maxRecDepth 100000
namespace Mine
/-- a comprehension of two clauses -/
abbrev two (elt : Expr) (x : Str) (px : Pos) (iter : Expr) (y : Str) (py : Pos) (iter2 : Expr) (scope : Scope) (pos : Pos) : Expr :=
  .ListComp elt [⟨.Name x px, iter, [], 0⟩, ⟨.Name y py, iter2, [], 0⟩] scope pos
theorem compTurn_in (elt : Expr) (x : Str) (px : Pos) (iter : Expr) (y : Str) (py : Pos) (iter2 : Expr) (scope : Scope) (pos : Pos) (it acc : Value) (env : Env) :
    compTurn (two elt x px iter y py iter2 scope pos) 1 it acc env = (standAt iter2.pos >>= fun _ => pyNext it >>= fun r => match r with
      | none => pure (.done .next)
      | some v => letOwnedTupleGo (.Name y py) it v >>= fun _ => assign (.Name y py) env v >>= fun _ =>
        (eval elt env >>= fun x => call (.builtin "list.append") [acc, x] >>= fun _ => pure ()) >>= fun _ =>
          again (.compLoop (two elt x px iter y py iter2 scope pos) 1 it acc env)) := by rfl
theorem compTurn_out (elt : Expr) (x : Str) (px : Pos) (iter : Expr) (y : Str) (py : Pos) (iter2 : Expr) (scope : Scope) (pos : Pos) (it acc : Value) (env : Env) :
    compTurn (two elt x px iter y py iter2 scope pos) 0 it acc env = (standAt iter.pos >>= fun _ => pyNext it >>= fun r => match r with
      | none => pure (.done .next)
      | some v => letOwnedTupleGo (.Name x px) it v >>= fun _ => assign (.Name x px) env v >>= fun _ =>
        eval iter2 env >>= fun z => standAt iter2.pos >>= fun _ => foldedSetIterable iter2 env z >>= fun z =>
        holding [z] (pyIter z) >>= fun i2 => runOwn (.compStart (two elt x px iter y py iter2 scope pos) 1 i2 acc env) env >>= fun _ =>
          again (.compLoop (two elt x px iter y py iter2 scope pos) 0 it acc env)) := by rfl
section
variable {prog : Program} {w : World} {A : Around} {s : Shared} {R : Result → Shared → Prop}
/-- any clause's start: the iterable's iterator is asked a second time, or (by a setting) not -/
theorem clause_start {elt : Expr} {gens : List Comprehension} {scope : Scope} {pos : Pos} {i : Nat} {g : Comprehension} {it acc : Value} {env : Env} (hg : gens[i]? = some g) (hs : g.is_async = 0) (h0 : codeAny (model prog w) A (.compLoop (.ListComp elt gens scope pos) i it acc env) R s)
    (h : wpAny (model prog w) A (pyIter it) (fun it' s' => codeAny (model prog w) A (.compLoop (.ListComp elt gens scope pos) i it' acc env) R s') (notedBy (model prog w) A env fun x s' => R (.error x) s') s) : codeAny (model prog w) A (.compStart (.ListComp elt gens scope pos) i it acc env) R s := by
  refine codeAny_of_tree (show wpAny _ _ ((compStart (.ListComp elt gens scope pos) i it acc env).onRaise fun x => do noteFrame x env; standAt theWindowsPlace) _ _ s from wpAny_notedAt ?_)
  have no : ((clausesOf (.ListComp elt gens scope pos))[i]?).elim false (·.is_async != 0) = false := by
    show (gens[i]?).elim false (·.is_async != 0) = false
    rw [hg, Option.elim_some, hs]
    rfl
  rw [compStart, no]
  refine wpAny_bind (m := ask) (wpAny_askSetting ?_)
  split
  · exact wpAny_pure ⟨rfl, h0⟩
  · show wpAny _ _ (rule "comprehension.iter-twice" >>= fun _ => _) _ _ s
    have hg' : (clausesOf (.ListComp elt gens scope pos))[i]? = some g := hg
    rw [hg']
    exact wpAny_bind (wpAny_rule (wpAny_bind (m := standAt g.iter.pos) (wpAny_standAt (seq_of h fun _ _ q => wpAny_pure ⟨rfl, q⟩))))
/-- any clause's loop, by its turns -/
theorem clause_loop {elt : Expr} {gens : List Comprehension} {scope : Scope} {pos : Pos} {i : Nat} {it acc : Value} {env : Env} (I : Nat → Shared → Prop)
    (turn : ∀ n s, I n s → wpAny (model prog w) A (compTurn (.ListComp elt gens scope pos) i it acc env) (fun fin s' => match fin with | .done f => R (.ok f) s' | .again c => c = .compLoop (.ListComp elt gens scope pos) i it acc env ∧ ∃ k, k < n ∧ I k s') (notedBy (model prog w) A env fun x s' => R (.error x) s') s)
    (n : Nat) (h : I n s) : codeAny (model prog w) A (.compLoop (.ListComp elt gens scope pos) i it acc env) R s :=
  codeAny_loop rfl I (fun n s hI => wpAny_noted (turn n s hI)) n h
theorem codeAny_compStart_in {elt : Expr} {x : Str} {px : Pos} {iter : Expr} {y : Str} {py : Pos} {iter2 : Expr} {scope : Scope} {pos : Pos} {it acc : Value} {env : Env}
    (h0 : codeAny (model prog w) A (.compLoop (two elt x px iter y py iter2 scope pos) 1 it acc env) R s)
    (h : wpAny (model prog w) A (pyIter it) (fun it' s' => codeAny (model prog w) A (.compLoop (two elt x px iter y py iter2 scope pos) 1 it' acc env) R s')
      (notedBy (model prog w) A env fun x s' => R (.error x) s') s) :
    codeAny (model prog w) A (.compStart (two elt x px iter y py iter2 scope pos) 1 it acc env) R s := clause_start (i := 1) rfl rfl h0 h
theorem codeAny_compStart_out {elt : Expr} {x : Str} {px : Pos} {iter : Expr} {y : Str} {py : Pos} {iter2 : Expr} {scope : Scope} {pos : Pos} {it acc : Value} {env : Env}
    (h0 : codeAny (model prog w) A (.compLoop (two elt x px iter y py iter2 scope pos) 0 it acc env) R s)
    (h : wpAny (model prog w) A (pyIter it) (fun it' s' => codeAny (model prog w) A (.compLoop (two elt x px iter y py iter2 scope pos) 0 it' acc env) R s')
      (notedBy (model prog w) A env fun x s' => R (.error x) s') s) :
    codeAny (model prog w) A (.compStart (two elt x px iter y py iter2 scope pos) 0 it acc env) R s := codeAny_compStart_list h0 h
theorem loop_in {elt : Expr} {x : Str} {px : Pos} {iter : Expr} {y : Str} {py : Pos} {iter2 : Expr} {scope : Scope} {pos : Pos} {it acc : Value} {env : Env} (I : Nat → Shared → Prop)
    (turn : ∀ n s, I n s → wpAny (model prog w) A (pyNext it) (fun r s₁ => match r with
      | none => R (.ok .next) s₁
      | some v => wpAny (model prog w) A (assign (.Name y py) env v) (fun _ s₂ => wpAny (model prog w) A (eval elt env) (fun x s₃ =>
          wpAny (model prog w) A (call (.builtin "list.append") [acc, x]) (fun _ s₄ => ∃ m, m < n ∧ I m s₄) (notedBy (model prog w) A env fun e s' => R (.error e) s') s₃)
          (notedBy (model prog w) A env fun e s' => R (.error e) s') s₂) (notedBy (model prog w) A env fun e s' => R (.error e) s') s₁) (notedBy (model prog w) A env fun e s' => R (.error e) s') s)
    (n : Nat) (h : I n s) : codeAny (model prog w) A (.compLoop (two elt x px iter y py iter2 scope pos) 1 it acc env) R s := clause_loop I (fun n s hI => by
    rw [compTurn_in]
    refine wpAny_bind (wpAny_standAt (seq_of (turn n s hI) fun r s₁ h₁ => ?_))
    match r, h₁ with
    | none, h₁ => exact wpAny_pure h₁
    | some v, h₁ => exact wpAny_bind (wpAny_of_eq (a := ()) rfl (seq_of h₁ fun _ _ h₂ => wpAny_bind (seq_of h₂ fun _ _ h₃ => seq_of h₃ fun _ _ h₄ => wpAny_pure (wpAny_pure ⟨rfl, h₄⟩))))) n h
theorem loop_out {elt : Expr} {x : Str} {px : Pos} {iter : Expr} {y : Str} {py : Pos} {iter2 : Expr} {scope : Scope} {pos : Pos} {it acc : Value} {env : Env} (I : Nat → Shared → Prop) (hs : ∀ z, foldedSetIterable iter2 env z = pure z)
    (turn : ∀ n s, I n s → wpAny (model prog w) A (pyNext it) (fun r s₁ => match r with
      | none => R (.ok .next) s₁
      | some v => wpAny (model prog w) A (assign (.Name x px) env v) (fun _ s₂ => wpAny (model prog w) A (eval iter2 env) (fun z s₃ =>
          wpAny (model prog w) A (pyIter z) (fun i2 s₄ => codeAny (model prog w) (A.mark none) (.compStart (two elt x px iter y py iter2 scope pos) 1 i2 acc env) (fun r s₅ => match r with | .ok _ => ∃ m, m < n ∧ I m s₅ | .error e => cameBackBy (model prog w) A env (notedBy (model prog w) A env fun e s' => R (.error e) s') e s₅) s₄) (notedBy (model prog w) A env fun e s' => R (.error e) s') s₃)
          (notedBy (model prog w) A env fun e s' => R (.error e) s') s₂) (notedBy (model prog w) A env fun e s' => R (.error e) s') s₁) (notedBy (model prog w) A env fun e s' => R (.error e) s') s)
    (n : Nat) (h : I n s) : codeAny (model prog w) A (.compLoop (two elt x px iter y py iter2 scope pos) 0 it acc env) R s := clause_loop I (fun n s hI => by
    rw [compTurn_out]
    refine wpAny_bind (wpAny_standAt (seq_of (turn n s hI) fun r s₁ h₁ => ?_))
    match r, h₁ with
    | none, h₁ => exact wpAny_pure h₁
    | some v, h₁ =>
      refine wpAny_bind (wpAny_of_eq (a := ()) rfl (seq_of h₁ fun _ _ h₂ => seq_of h₂ fun z _ h₃ => wpAny_bind (wpAny_standAt (wpAny_bind (wpAny_of_eq (hs z) (wpAny_bind (wpAny_holding (wpAny_mono h₃ (fun i2 s₄ h₄ => ?_) fun _ _ x => x))))))))
      refine wpAny_bind (wpAny_runOwn (codeAny_mono h₄ fun r s₅ h₅ => ?_))
      match r, h₅ with
      | .ok _, h₅ => exact wpAny_pure ⟨rfl, h₅⟩
      | .error _, h₅ => exact h₅) n h
end
end Mine
end
section
open PySem PySem.Spec PySem.Calls PySem.W PyProof.Rows PyProof.Rows.LCg PyProof.Rows.LCt
set_option linter.unusedVariables false
set_option maxRecDepth 100000
namespace Mine
/-- the range iterator of the inner clause before turn j -/
abbrev itObj (j : Nat) : Obj := { cls := .type "range_iterator", dict := none, data := .fields #[rawInt (0 + (j : Int) * 1), rawInt ((2 : Int) - (j : Int)), rawInt 1], slots := #[] }
/-- one turn's element -/
def EltAt (prog : Program) (w : World) (A : Around) (h₀ : Heap) (L : Addr) (m : Str → Option Value) (env : Env) (elt : Expr) (x y : Str) (scope : Scope) (cl : List (Str × Addr)) (news : List (Addr × Obj)) (Inv : Nat → List Value → Prop) (i : Nat) (v : Value) : Prop :=
  ∀ (j : Nat) (ys : List Value) (J : Addr) (oJ : Obj) I oI C oC D m₂ (t : Tok) (s : Shared) (E' : Value → Shared → Prop), j < 2 → Inv (2 * i + j) ys → NsObj oC m₂ → m₂ x = some v → m₂ y = some (.int (j : Int) t) → Fr h₀ L s.heap m →
    News h₀ L s.heap ((I, oI) :: (C, oC) :: (D, lst ys) :: (J, oJ) :: news) → Off3 I C D ((J, oJ) :: news) → ((@Ne Nat I C) ∧ (@Ne Nat I D) ∧ (@Ne Nat C D)) →
    wpAny (model prog w) A (eval elt (compEnvC scope cl C env)) (CompEnd h₀ L m s I oI C oC D (lst ys) (· = (J, oJ) :: news) (fun yv _ => Inv (2 * i + j + 1) (ys ++ [yv]))) E' s
section
variable {prog : Program} {w : World} {A : Around} {s : Shared} {h₀ : Heap} {L : Addr} {m : Str → Option Value} {env : Env} {news : List (Addr × Obj)}
theorem inner_run {elt : Expr} {x : Str} {px : Pos} {iter : Expr} {y : Str} {py : Pos} {iter2 : Expr} {scope : Scope} {pos : Pos} {cl : List (Str × Addr)} {I C D J : Addr} {oI : Obj} {i : Nat} {v : Value} {Inv : Nat → List Value → Prop} {R : Result → Shared → Prop} {ys : List Value} {mc : Str → Option Value}
    (hh : A.handled = none) (hkind : scope.kind = .function) (hy : scope.names.lookup y = some .local) (hxy : x ≠ y) (hsz : 2 * (i + 1) ≤ sizeLine)
    (hIC : @Ne Nat I C) (hID : @Ne Nat I D) (hIJ : @Ne Nat I J) (hCD : @Ne Nat C D) (hCJ : @Ne Nat C J) (hDJ : @Ne Nat D J) (hIL : @Ne Nat I L) (hCL : @Ne Nat C L) (hDL : @Ne Nat D L) (hJL : @Ne Nat J L)
    (hI₀ : h₀.get? I = none) (hC₀ : h₀.get? C = none) (hD₀ : h₀.get? D = none) (hJ₀ : h₀.get? J = none)
    (off : ∀ p ∈ news, p.1 ≠ I ∧ p.1 ≠ C ∧ p.1 ≠ D ∧ p.1 ≠ J)
    (hit : s.heap.get? J = some (itObj 0)) (F : Fr h₀ L s.heap m) (hn : s.heap.Ns C mc) (hx : mc x = some v) (N : News h₀ L s.heap ((I, oI) :: (D, lst ys) :: news)) (hyl : ys.length = 2 * i) (hi : Inv (2 * i) ys)
    (helt : EltAt prog w A h₀ L m env elt x y scope cl news Inv i v)
    (hR : ∀ h' tk ys' mc', Fr h₀ L h' m → h'.Ns C mc' → News h₀ L h' ((I, oI) :: (D, lst ys') :: news) → ys'.length = 2 * (i + 1) → Inv (2 * (i + 1)) ys' → R (.ok .next) { s with heap := h', toks := tk }) :
    codeAny (model prog w) A (.compLoop (two elt x px iter y py iter2 scope pos) 1 (.ref J) (.ref D) (compEnvC scope cl C env)) R s := by
  have W := range_walks (prog := prog) (w := w) (A := A) (I := J) hh 0 2
  refine loop_in (fun k s' => ∃ h' tk j ys mc, s' = { s with heap := h', toks := tk } ∧ j ≤ 2 ∧ k = 3 - j ∧ ys.length = 2 * i + j ∧ h'.get? J = some (itObj j) ∧ Fr h₀ L h' m ∧ h'.Ns C mc ∧ mc x = some v ∧
    News h₀ L h' ((I, oI) :: (D, lst ys) :: news) ∧ Inv (2 * i + j) ys) ?_ 3 ⟨s.heap, s.toks, 0, ys, mc, rfl, Nat.zero_le _, rfl, hyl, hit, F, hn, hx, N, hi⟩
  rintro k s' ⟨h', tk, j, ys, mc, rfl, hj, rfl, hyl, hit, F, hn, hx, N, hi⟩
  by_cases hlt : j < 2
  · refine W.item j _ _ _ hlt hit fun v2 h₂ tk₂ hP hst₂ hk₂ => ?_
    obtain ⟨t, rfl⟩ := hP
    rw [Int.zero_add]
    refine wpAny_assign_Name (wpAny_storeName_local (lookup_relabel_local hy) (hn.at' fun o e => hk₂ _ o (by simpa using hCJ) e) (fun h₃ hn₃ hs₃ => ?_) (by simp [compEnvC, relabel, hkind]))
    have hst₃ : h₃.get? J = some (itObj (j + 1)) := hs₃.extBut J _ (Ne.symm hCJ) hst₂
    obtain ⟨oC, heC, hoC⟩ := ns_obj hn₃
    have F₃ : Fr h₀ L h₃ m := (fr_but F hk₂ (Ne.symm hJL) hJ₀).change hs₃ hCL hC₀
    have up : ∀ p ∈ ((I, oI) :: (D, lst ys) :: news), h₃.get? p.1 = some p.2 := fun p hp => by
      have hpJ : p.1 ≠ J := by
        rcases List.mem_cons.mp hp with rfl | hp
        · exact hIJ
        · rcases List.mem_cons.mp hp with rfl | hp
          · exact hDJ
          · exact (off p hp).2.2.2
      have hpC : p.1 ≠ C := by
        rcases List.mem_cons.mp hp with rfl | hp
        · exact hIC
        · rcases List.mem_cons.mp hp with rfl | hp
          · exact Ne.symm hCD
          · exact (off p hp).2.1
      exact hs₃.extBut _ _ hpC (hk₂ _ _ (by simpa using hpJ) (N p hp).1)
    have N₃ : News h₀ L h₃ ((I, oI) :: (C, oC) :: (D, lst ys) :: (J, itObj (j + 1)) :: news) := fun p hp => by
      rcases List.mem_cons.mp hp with rfl | hp
      · exact ⟨up _ List.mem_cons_self, hIL, hI₀⟩
      · rcases List.mem_cons.mp hp with rfl | hp
        · exact ⟨heC, hCL, hC₀⟩
        · rcases List.mem_cons.mp hp with rfl | hp
          · exact ⟨up _ (List.mem_cons_of_mem _ List.mem_cons_self), hDL, hD₀⟩
          · rcases List.mem_cons.mp hp with rfl | hp
            · exact ⟨hst₃, hJL, hJ₀⟩
            · exact ⟨up _ (List.mem_cons_of_mem _ (List.mem_cons_of_mem _ hp)), (N p (List.mem_cons_of_mem _ (List.mem_cons_of_mem _ hp))).2⟩
    have off₃ : Off3 I C D ((J, itObj (j + 1)) :: news) := Off3.of fun p hp => by
      rcases List.mem_cons.mp hp with rfl | hp
      · exact ⟨Ne.symm hIJ, Ne.symm hCJ, Ne.symm hDJ⟩
      · exact ⟨(off p hp).1, (off p hp).2.1, (off p hp).2.2.1⟩
    refine wpAny_mono (helt j ys J (itObj (j + 1)) I oI C oC D _ t { s with heap := h₃, toks := _ } _ hlt hi hoC (by simp [hx, hxy]) (by simp) F₃ N₃ off₃ ⟨hIC, hID, hCD⟩) (fun yv s₄ h₄ => ?_) fun _ _ e => e
    obtain ⟨h₄, tk₄, news₄, rfl, F₄, N₄, off₄, rfl, hi₄⟩ := h₄
    have zI := (N₄ (I, oI) List.mem_cons_self).1
    have zC := (N₄ (C, oC) (List.mem_cons_of_mem _ List.mem_cons_self)).1
    have zD := (N₄ (D, lst ys) (List.mem_cons_of_mem _ (List.mem_cons_of_mem _ List.mem_cons_self))).1
    have zJ := (N₄ (J, itObj (j + 1)) (List.mem_cons_of_mem _ (List.mem_cons_of_mem _ (List.mem_cons_of_mem _ List.mem_cons_self)))).1
    have zN : ∀ p ∈ news, h₄.get? p.1 = some p.2 := fun p hp => (N₄ p (List.mem_cons_of_mem _ (List.mem_cons_of_mem _ (List.mem_cons_of_mem _ (List.mem_cons_of_mem _ hp))))).1
    refine append_at (hsz := by show ys.toArray.size ≤ sizeLine; rw [List.size_toArray, hyl]; omega) zD fun h₅ hs₅ hD₅ => ?_
    refine ⟨3 - (j + 1), by omega, h₅, tk₄, j + 1, ys ++ [yv], _, rfl, hlt, rfl, by rw [List.length_append, List.length_singleton, hyl]; omega, hs₅.extBut J _ (Ne.symm hDJ) zJ, F₄.change hs₅ hDL hD₀,
      (hoC.ns zC).sameBut hs₅ hCD, by simp [hx, hxy], fun p hp => ?_, hi₄⟩
    rcases List.mem_cons.mp hp with rfl | hp
    · exact ⟨hs₅.extBut _ _ hID zI, hIL, hI₀⟩
    · rcases List.mem_cons.mp hp with rfl | hp
      · exact ⟨hD₅.trans (congrArg some (lst_snoc ys yv)), hDL, hD₀⟩
      · exact ⟨hs₅.extBut _ _ (off p hp).2.2.1 (zN p hp), (N p (List.mem_cons_of_mem _ (List.mem_cons_of_mem _ hp))).2⟩
  · obtain rfl : j = 2 := Nat.le_antisymm hj (Nat.not_lt.mp hlt)
    refine W.done _ _ _ hit fun h₂ tk₂ hk₂ => ?_
    refine hR h₂ tk₂ ys _ (fr_but F hk₂ (Ne.symm hJL) hJ₀) (hn.at' fun o e => hk₂ _ o (by simpa using hCJ) e) (news_but N hk₂ fun p hp => ?_) (by rw [hyl]; omega) (by rw [show 2 * (i + 1) = 2 * i + 2 by omega]; exact hi)
    rcases List.mem_cons.mp hp with rfl | hp
    · exact hIJ
    · rcases List.mem_cons.mp hp with rfl | hp
      · exact hDJ
      · exact (off p hp).2.2.2
end
end Mine
end
section
open PySem PySem.Spec PySem.Calls PySem.W PyProof.Rows PyProof.Rows.LCg PyProof.Rows.LCt
set_option linter.unusedVariables false
set_option maxRecDepth 100000
namespace Mine
/-- what the inner clause's iterable gives: range(2) -/
def RngIs (h₀ : Heap) (L : Addr) (m : Str → Option Value) (s : Shared) (led : List (Addr × Obj)) (z : Value) (s' : Shared) : Prop :=
  ∃ r h' tk t1 t2 t3, z = .ref r ∧ s' = { s with heap := h', toks := tk } ∧ IsRange h' r 0 2 1 t1 t2 t3 ∧ Fr h₀ L h' m ∧ News h₀ L h' led
def RngAt (prog : Program) (w : World) (A : Around) (h₀ : Heap) (L : Addr) (m : Str → Option Value) (env : Env) (iter2 : Expr) (scope : Scope) (cl : List (Str × Addr)) (news : List (Addr × Obj)) : Prop :=
  ∀ (ys : List Value) I oI C oC D m₂ (s : Shared) (E' : Value → Shared → Prop), NsObj oC m₂ → Fr h₀ L s.heap m →
    News h₀ L s.heap ((I, oI) :: (C, oC) :: (D, lst ys) :: news) → Off3 I C D news → ((@Ne Nat I C) ∧ (@Ne Nat I D) ∧ (@Ne Nat C D)) →
    wpAny (model prog w) A (eval iter2 (compEnvC scope cl C env)) (RngIs h₀ L m s ((I, oI) :: (C, oC) :: (D, lst ys) :: news)) E' s
section
variable {prog : Program} {w : World} {A : Around} {s : Shared} {h₀ : Heap} {L : Addr} {m : Str → Option Value} {env : Env} {news : List (Addr × Obj)} {E : Value → Shared → Prop}
theorem block_two {elt : Expr} {x : Str} {px : Pos} {iter : Expr} {y : Str} {py : Pos} {iter2 : Expr} {scope : Scope} {pos : Pos} {cl : List (Str × Addr)} {s₂ : Shared} {I ax : Addr} {its : Array Value} {nn : Nat} {Inv : Nat → List Value → Prop} {RR : Value → Addr → Result → Shared → Prop}
    (hh : A.handled = none) (hkind : scope.kind = .function) (hcell : ∀ y ∈ scope.names, y.2 ≠ .cell) (hx : scope.names.lookup x = some .local) (hy : scope.names.lookup y = some .local) (hxy : x ≠ y) (hsz : 2 * (its.size + 1) ≤ sizeLine)
    (hs2 : ∀ C z, foldedSetIterable iter2 (compEnvC scope cl C env) z = pure z)
    (hit : s₂.heap.IsListIter I ax 0) (hm : (ax, ({ cls := .type "list", data := .seq its nn } : Obj)) ∈ news)
    (F : Fr h₀ L s₂.heap m) (N : News h₀ L s₂.heap news) (hIL : @Ne Nat I L) (hI₀ : h₀.get? I = none) (off : ∀ p ∈ news, p.1 ≠ I)
    (h0 : Inv 0 [])
    (hrng : RngAt prog w A h₀ L m env iter2 scope cl news)
    (helt : ∀ i v, its[i]? = some v → EltAt prog w A h₀ L m env elt x y scope cl news Inv i v)
    (hRR : ∀ D C h tk m' ys, Fr h₀ L h m → News h₀ L h ((D, lst ys) :: news) → (∀ p ∈ news, p.1 ≠ D) → h.Ns C m' → h₀.get? C = none → h₀.get? D = none → C ≠ L → D ≠ L → C ≠ D → (∀ p ∈ news, p.1 ≠ C) → Inv (2 * its.size) ys → RR (.ref D) C (.ok .next) { s₂ with heap := h, toks := tk }) :
    wpAny (model prog w) A (newList []) (fun acc s₃ => wpAny (model prog w) A (newFunctionEnv scope env.globals cl [] env.qual none .none (some env)) (fun cenv s₄ =>
      codeAny (model prog w) A (.compStart (two elt x px iter y py iter2 scope pos) 0 (.ref I) acc { cenv with scope := relabel scope env }) (RR acc cenv.locals) s₄) E s₃) E s₂ := by
  refine wpAny_newObj_type (wpAny_newFunctionEnv hcell (by intro y hy; simp at hy) (fun h₁ hns₁ hsb₁ => ?_) hkind)
  dsimp only at hns₁ hsb₁ ⊢
  generalize hH2 : s₂.heap.push { cls := .type "list", dict := none, data := .seq ([] : List Value).toArray } = H2 at hns₁ hsb₁ ⊢
  have hC : H2.objs.size = s₂.heap.objs.size + 1 := by rw [← hH2, Heap.size_push]
  have hDC : s₂.heap.objs.size ≠ H2.objs.size := by rw [hC]; exact Nat.ne_of_lt (Nat.lt_succ_self _)
  have below : ∀ b, b < s₂.heap.objs.size → b ≠ H2.objs.size ∧ b ≠ s₂.heap.objs.size := fun b hb => ⟨by rw [hC]; exact Nat.ne_of_lt (Nat.lt_succ_of_lt hb), Nat.ne_of_lt hb⟩
  have hIlt : I < s₂.heap.objs.size := by obtain ⟨o, e, _⟩ := hit; exact Heap.lt_size e
  have old : ∀ b o, s₂.heap.get? b = some o → h₁.get? b = some o := fun b o e => hsb₁.extBut b o (below b (Heap.lt_size e)).1 (Heap.get?_push_of_some _ (hH2 ▸ Heap.get?_push_of_some _ e))
  have hacc : h₁.get? s₂.heap.objs.size = some (lst []) := hsb₁.extBut _ _ hDC (Heap.get?_push_of_some _ (hH2 ▸ Heap.get?_push_size _ rfl))
  have hit₁ : h₁.IsListIter I ax 0 := by obtain ⟨o, e, r⟩ := hit; exact ⟨o, old _ _ e, r⟩
  have fresh : ∀ a, s₂.heap.objs.size ≤ a → s₂.heap.get? a = none := fun a ha => by
    cases e : s₂.heap.get? a with
    | none => rfl
    | some o' => exact absurd (Heap.lt_size e) (Nat.not_lt.mpr ha)
  have fresh₀ : ∀ a, s₂.heap.objs.size ≤ a → h₀.get? a = none := fun a ha => by
    cases e : h₀.get? a with
    | none => rfl
    | some o' => have := F.keep a o' e; rw [fresh a ha] at this; cases this
  have hD₀ : h₀.get? s₂.heap.objs.size = none := fresh₀ _ (Nat.le_refl _)
  have hC₀ : h₀.get? H2.objs.size = none := fresh₀ _ (by rw [hC]; exact Nat.le_succ _)
  have hLlt : L < s₂.heap.objs.size := F.ns.lt
  have hDL : s₂.heap.objs.size ≠ L := Ne.symm (below L hLlt).2
  have hCL : H2.objs.size ≠ L := Ne.symm (below L hLlt).1
  have hCI : I ≠ H2.objs.size := (below I hIlt).1
  have hDI : I ≠ s₂.heap.objs.size := (below I hIlt).2
  have offC : ∀ p ∈ news, p.1 ≠ H2.objs.size := fun p hp => (below _ (Heap.lt_size (N p hp).1)).1
  have offD : ∀ p ∈ news, p.1 ≠ s₂.heap.objs.size := fun p hp => (below _ (Heap.lt_size (N p hp).1)).2
  have off3 : Off3 I H2.objs.size s₂.heap.objs.size news := Off3.of fun p hp => ⟨off p hp, offC p hp, offD p hp⟩
  have loop : ∀ s₃ : Shared, s₃ = { s₂ with heap := h₁, toks := s₂.toks + ([] : List (Str × Value)).length } →
      codeAny (model prog w) A (.compLoop (two elt x px iter y py iter2 scope pos) 0 (.ref I) (.ref s₂.heap.objs.size) (compEnvC scope cl H2.objs.size env))
        (RR (.ref s₂.heap.objs.size) H2.objs.size) s₃ := by
    rintro s₃ rfl
    refine loop_out
      (fun k s' => ∃ h' tk i ys m', s' = { s₂ with heap := h', toks := tk } ∧ i ≤ its.size ∧ k = its.size + 1 - i ∧ ys.length = 2 * i ∧ h'.IsListIter I ax i ∧ Fr h₀ L h' m ∧ h'.Ns H2.objs.size m' ∧ News h₀ L h' ((s₂.heap.objs.size, lst ys) :: news) ∧
        Inv (2 * i) ys) (hs2 _) ?_ (its.size + 1)
      ⟨h₁, _, 0, [], _, rfl, Nat.zero_le _, rfl, rfl, hit₁, F.keeps old, hns₁, fun p hp => ?_, h0⟩
    · rintro k s' ⟨h', tk, i, ys, m', rfl, hi, rfl, hyl, hit', F', hn', N', hI'⟩
      have hl : h'.IsList ax its := ⟨_, (N' _ (List.mem_cons_of_mem _ hm)).1, rfl, _, rfl⟩
      by_cases hlt : i < its.size
      · refine wpAny_pyNext_list_item hit' hl (x := its[i]) (by simp [hlt]) fun h₂ hit₂ hs₂ => ?_
        have hk₂ : ∀ b o, b ∉ [I] → h'.get? b = some o → h₂.get? b = some o := fun b o hb e => hs₂.extBut b o (by simpa using hb) e
        dsimp only
        refine wpAny_assign_Name (wpAny_storeName_local (lookup_relabel_local hx) (hn'.at' fun o e => hk₂ _ o (by simpa using Ne.symm hCI) e) (fun h₃ hn₃ hs₃ => ?_) (by simp [compEnvC, relabel, hkind]))
        have hit₃ : h₃.IsListIter I ax (i + 1) := by obtain ⟨o, e, r⟩ := hit₂; exact ⟨o, hs₃.extBut _ _ hCI e, r⟩
        obtain ⟨oI, heI, hoI⟩ := hit₃
        obtain ⟨oC, heC, hoC⟩ := ns_obj hn₃
        have F₃ : Fr h₀ L h₃ m := (fr_but F' hk₂ (Ne.symm hIL) hI₀).change hs₃ hCL hC₀
        have N₂ : News h₀ L h₂ ((s₂.heap.objs.size, lst ys) :: news) := news_but N' hk₂ fun p hp => by
          rcases List.mem_cons.mp hp with rfl | hp
          · exact Ne.symm hDI
          · exact off p hp
        have N₃ : News h₀ L h₃ ((I, oI) :: (H2.objs.size, oC) :: (s₂.heap.objs.size, lst ys) :: news) := fun p hp => by
          rcases List.mem_cons.mp hp with rfl | hp
          · exact ⟨heI, hIL, hI₀⟩
          · rcases List.mem_cons.mp hp with rfl | hp
            · exact ⟨heC, hCL, hC₀⟩
            · have z := N₂ p hp
              refine ⟨hs₃.extBut _ _ ?_ z.1, z.2⟩
              rcases List.mem_cons.mp hp with rfl | hp
              · exact hDC
              · exact offC p hp
        refine wpAny_mono (hrng ys I oI H2.objs.size oC s₂.heap.objs.size _ { s₂ with heap := h₃, toks := _ } _ hoC F₃ N₃ off3 ⟨hCI, hDI, Ne.symm hDC⟩) (fun z s₄ h₄ => ?_) fun _ _ e => e
        obtain ⟨r, h₄, tk₄, t1, t2, t3, rfl, rfl, zr, F₄, N₄⟩ := h₄
        refine wpAny_pyIter_range (t := t1) (u := t2) (v := t3) zr (by decide +kernel) ?_
        rw [show Builtin.Range.rangeSize 0 2 1 = 2 from by decide +kernel]
        have hpush : ∀ b o, h₄.get? b = some o → (h₄.push { cls := .type "range_iterator", data := .fields #[rawInt 0, rawInt 2, rawInt 1] }).get? b = some o := fun b o e => Heap.get?_push_of_some _ e
        have zJ : (h₄.push { cls := .type "range_iterator", data := .fields #[rawInt 0, rawInt 2, rawInt 1] }).get? h₄.objs.size = some (itObj 0) := Heap.get?_push_size _ rfl
        have F₅ := F₄.keeps hpush
        have N₅ := N₄.grown hpush
        generalize hH5 : h₄.push { cls := .type "range_iterator", data := .fields #[rawInt 0, rawInt 2, rawInt 1] } = h₅ at zJ F₅ N₅ ⊢
        have lt4 : ∀ b o, h₄.get? b = some o → b ≠ h₄.objs.size := fun b o e => Nat.ne_of_lt (Heap.lt_size e)
        have eI := (N₄ (I, oI) List.mem_cons_self).1
        have eC := (N₄ (H2.objs.size, oC) (List.mem_cons_of_mem _ List.mem_cons_self)).1
        have eD := (N₄ (s₂.heap.objs.size, lst ys) (List.mem_cons_of_mem _ (List.mem_cons_of_mem _ List.mem_cons_self))).1
        have eN : ∀ p ∈ news, h₄.get? p.1 = some p.2 := fun p hp => (N₄ p (List.mem_cons_of_mem _ (List.mem_cons_of_mem _ (List.mem_cons_of_mem _ hp)))).1
        have hJ₀ : h₀.get? h₄.objs.size = none := by
          cases e : h₀.get? h₄.objs.size with
          | none => rfl
          | some o' => exact absurd rfl (lt4 _ _ (F₄.keep _ _ e))
        have eC5 := (N₅ (H2.objs.size, oC) (List.mem_cons_of_mem _ List.mem_cons_self)).1
        have hin : ∀ (R' : Result → Shared → Prop), (∀ h' tk ys' mc', Fr h₀ L h' m → h'.Ns H2.objs.size mc' → News h₀ L h' ((I, oI) :: (s₂.heap.objs.size, lst ys') :: news) → ys'.length = 2 * (i + 1) → Inv (2 * (i + 1)) ys' → R' (.ok .next) { s₂ with heap := h', toks := tk }) →
            codeAny (model prog w) A (.compLoop (two elt x px iter y py iter2 scope pos) 1 (.ref h₄.objs.size) (.ref s₂.heap.objs.size) (compEnvC scope cl H2.objs.size env)) R' { s₂ with heap := h₅, toks := tk₄ } := fun R' hR' => by
          refine inner_run (s := { s₂ with heap := h₅, toks := tk₄ }) (oI := oI) (i := i) (v := its[i]) (Inv := Inv) (ys := ys) hh hkind hy hxy (by omega) hCI hDI (lt4 _ _ eI) (Ne.symm hDC) (lt4 _ _ eC) (lt4 _ _ eD) hIL hCL hDL (Ne.symm (Nat.ne_of_lt F₄.ns.lt)) hI₀ hC₀ hD₀ hJ₀
            (fun p hp => ⟨off p hp, offC p hp, offD p hp, lt4 _ _ (eN p hp)⟩) zJ F₅ (hoC.ns eC5) (by simp) (fun p hp => ?_) hyl hI' (helt i _ (by simp [hlt])) hR'
          rcases List.mem_cons.mp hp with rfl | hp
          · exact N₅ _ List.mem_cons_self
          · exact N₅ _ (List.mem_cons_of_mem _ (List.mem_cons_of_mem _ hp))
        rw [Around.mark_none]
        refine codeAny_compStart_in (hin _ fun h' tk ys' mc' F' hn' N' hl' hI' => ?_) (wpAny_pyIter_rangeiter (x := 0) (left := 2) (step := 1) zJ (hin _ fun h' tk ys' mc' F' hn' N' hl' hI' => ?_))
        · exact ⟨its.size + 1 - (i + 1), by omega, h', tk, i + 1, ys', mc', rfl, hlt, rfl, hl', ⟨oI, (N' _ List.mem_cons_self).1, hoI⟩, F', hn', fun p hp => N' p (List.mem_cons_of_mem _ hp), hI'⟩
        · exact ⟨its.size + 1 - (i + 1), by omega, h', tk, i + 1, ys', mc', rfl, hlt, rfl, hl', ⟨oI, (N' _ List.mem_cons_self).1, hoI⟩, F', hn', fun p hp => N' p (List.mem_cons_of_mem _ hp), hI'⟩
      · obtain rfl : i = its.size := Nat.le_antisymm hi (Nat.not_lt.mp hlt)
        refine wpAny_pyNext_list_end hh hit' hl (by simp) fun h₂ he₂ => ?_
        have hk₂ : ∀ b o, b ∉ [I] → h'.get? b = some o → h₂.get? b = some o := fun b o hb e => he₂ b o (by simpa using hb) e
        exact hRR _ _ h₂ tk _ ys (fr_but F' hk₂ (Ne.symm hIL) hI₀) (news_but N' hk₂ fun p hp => by
          rcases List.mem_cons.mp hp with rfl | hp
          · exact Ne.symm hDI
          · exact off p hp) offD (hn'.at' fun o e => hk₂ _ o (by simpa using Ne.symm hCI) e) hC₀ hD₀ hCL hDL (Ne.symm hDC) offC hI'
    · rcases List.mem_cons.mp hp with rfl | hp
      · exact ⟨hacc, hDL, hD₀⟩
      · exact ⟨old _ _ (N p hp).1, (N p hp).2⟩
  exact codeAny_compStart_out (loop _ rfl) (wpAny_pyIter_listiter hit₁ (loop _ rfl))
/-- where a comprehension of two clauses gets its list -/
def SrcTwo (prog : Program) (w : World) (A : Around) (h₀ : Heap) (L : Addr) (m : Str → Option Value) (env : Env) (elt iter2 : Expr) (x y : Str) (scope : Scope) (cl : List (Str × Addr)) (Q : Value → Shared → Prop) (xv : Value) (s₁ : Shared) : Prop :=
  ∃ ax its nn news Inv, xv = .ref ax ∧ A.handled = none ∧ Fr h₀ L s₁.heap m ∧ News h₀ L s₁.heap news ∧ (ax, ({ cls := .type "list", data := .seq its nn } : Obj)) ∈ news ∧ 2 * (its.size + 1) ≤ sizeLine ∧ Inv 0 [] ∧
    RngAt prog w A h₀ L m env iter2 scope cl news ∧ (∀ i v, its[i]? = some v → EltAt prog w A h₀ L m env elt x y scope cl news Inv i v) ∧
    ∀ D h tk ys, Fr h₀ L h m → News h₀ L h ((D, lst ys) :: news) → Off1 D news → Inv (2 * its.size) ys → Q (.ref D) { s₁ with heap := h, toks := tk }
theorem off1_of {D : Addr} : ∀ {l : List (Addr × Obj)}, (∀ p ∈ l, p.1 ≠ D) → Off1 D l
  | [], _ => trivial
  | _ :: _, h => ⟨h _ List.mem_cons_self, off1_of fun p hp => h p (List.mem_cons_of_mem _ hp)⟩
theorem ListComp_two (F₀ : Fr h₀ L s.heap m) {elt : Expr} {x : Str} {px : Pos} {iter : Expr} {y : Str} {py : Pos} {iter2 : Expr} {scope : Scope} {pos : Pos} {cl : List (Str × Addr)} {Q : Value → Shared → Prop}
    (hclos : closureFor scope env = pure cl) (hcell : ∀ y ∈ scope.names, y.2 ≠ .cell) (hkind : scope.kind = .function)
    (hnames : ∀ y ∈ scope.names, y.2 = .local → scope.names.lookup y.1 = some .local) (hx : scope.names.lookup x = some .local) (hy : scope.names.lookup y = some .local) (hxy : x ≠ y)
    (h : wpAny (model prog w) A (eval iter env) (SrcTwo prog w A h₀ L m env elt iter2 x y scope cl Q) E s)
    (hs : ∀ x, foldedSetIterable iter env x = pure x := by intro _; rfl) (hs2 : ∀ C z, foldedSetIterable iter2 (compEnvC scope cl C env) z = pure z := by intro _ _; rfl) :
    wpAny (model prog w) A (eval (.ListComp elt [⟨.Name x px, iter, [], 0⟩, ⟨.Name y py, iter2, [], 0⟩] scope pos) env) Q E s := by
  rw [eval_ListComp]
  refine wpAny_comprehension_free (use := none) rfl hs hclos hkind hnames (wpAny_mono h (fun xv s₁ h₁ => ?_) fun _ _ e => e)
  obtain ⟨ax, its, nn, news, Inv, rfl, hh, F, N, hm, hsz, h0, hrng, helt, hQ⟩ := h₁
  have hl : s₁.heap.IsList ax its := ⟨_, (N _ hm).1, rfl, _, rfl⟩
  refine wpAny_pyIter_list hl ?_
  have up : ∀ b o, s₁.heap.get? b = some o → (s₁.heap.push { cls := .type "list_iterator", data := .fields #[.ref ax, .int 0 0] }).get? b = some o := fun b o e => Heap.get?_push_of_some _ e
  refine block_two hh hkind hcell hx hy hxy hsz hs2 ⟨_, Heap.get?_push_size _ rfl, rfl, rfl⟩ hm (F.keeps up) (N.grown up) (Ne.symm (Nat.ne_of_lt F.ns.lt)) (next_is_new F) (fun p hp => Nat.ne_of_lt (Heap.lt_size (N p hp).1)) h0 hrng helt ?_
  intro D C h tk m' ys F' N' offD hn hC₀ hD₀ hCL hDL hCD offC hI
  refine ⟨m', hn, fun h'' hs'' => hQ D h'' tk ys (F'.change hs'' hCL hC₀) (fun p hp => ?_) (off1_of offD) hI⟩
  refine ⟨hs''.extBut _ _ ?_ (N' p hp).1, (N' p hp).2⟩
  rcases List.mem_cons.mp hp with rfl | hp
  · exact Ne.symm hCD
  · exact offC p hp
end
end Mine
end
section
open PySem PySem.Spec PySem.Calls PySem.W PyProof.Rows
set_option linter.unusedVariables false
set_option maxRecDepth 100000
namespace Mine
/-- the law's own statements -/
def LawBody (w : World) (body : List Stmt) (scope : Scope) : Prop :=
  ∃ oc od name params dV kV doc pm an ct osl, (hdC.heap_39 w.params).lookup 163 = some ⟨oc, od, .func (fnOf name (Str.ofString "law") params body scope dV kV doc pm an (.ref 162) ct), osl⟩
/-- what stays the same along the law's walk -/
structure LawC (w : World) (loose : List Str) (mean : ExcName → Option Value) (mg mb : Str → Option Value) (G : Heap) (L1 : Addr) : Prop where
  K : (hdC.heap_39 w.params).In G
  T : Top topProg loose mean mg mb G
  B : Below callerA G [] G
  c73 : CodeHd G 77 73
  c66 : CodeHd G 70 66
  l73 : @LT.lt Nat _ 73 L1
  l66 : @LT.lt Nat _ 66 L1
/-- how the law ends well -/
def LawR (G : Heap) (s : Shared) (Q : Flow → Shared → Prop) : Prop :=
  ∀ L m h' tk news ps qs, Fr G L h' m → News G L h' news → (73, tabObj ps) ∈ news → (66, tabObj qs) ∈ news → Q (.ret (.bool true)) { s with heap := h', toks := tk }
/-- the row as a list -/
abbrev rowO (b0 b1 b2 b3 b4 b5 b6 b7 : Bool) (t0 t1 t2 t3 t4 t5 t6 t7 : Tok) : Obj :=
  listOf #[.int ((one b0 : Nat) : Int) t0, .int ((one b1 : Nat) : Int) t1, .int ((one b2 : Nat) : Int) t2, .int ((one b3 : Nat) : Int) t3, .int ((one b4 : Nat) : Int) t4, .int ((one b5 : Nat) : Int) t5, .int ((one b6 : Nat) : Int) t6, .int ((one b7 : Nat) : Int) t7] 8
abbrev lawE (scope : Scope) (L1 : Addr) : Env := envOfC (Str.ofString "law") scope L1 163 (.ref 162)
/-- the law from its statement 6 on -/
def Cut1 (w : World) : Prop := ∀ (body : List Stmt) (scope : Scope) (loose : List Str) (mean : ExcName → Option Value) (mg mb : Str → Option Value) (G : Heap) (L1 : Addr) (s : Shared) (Q : Flow → Shared → Prop) (E : Value → Shared → Prop) (h : Heap) (tk : Nat) (m0 : Str → Option Value)
    (M C : UInt8) (f n : Nat) (b0 b1 b2 b3 b4 b5 b6 b7 : Bool) (t0 t1 t2 t3 t4 t5 t6 t7 tM tC tb tf tm : Tok) (P D2 : Addr) (oa ob oP oR : Obj) (va vb : Option Value),
  LawBody w body scope → LawC w loose mean mg mb G L1 → LawR G s Q → 1 ≤ f → f ≤ 9 → 8 ≤ n → n ≤ 12 → C.toNat = 48 + f → M.toNat ≠ 41 → M.toNat < 127 → C.toNat ≠ M.toNat →
  Fr G L1 h (fun y => if y = Str.ofString "bits" then some (.int (n : Int) tb) else if y = Str.ofString "figure" then some (.int (f : Int) tf) else if y = Str.ofString "mark" then some (.str ⟨#[M.toNat]⟩ tm) else m0 y) →
  News G L1 h [(P, listOf #[.int (M.toNat : Int) tM, .int (C.toNat : Int) tC] 0), (D2, rowO b0 b1 b2 b3 b4 b5 b6 b7 t0 t1 t2 t3 t4 t5 t6 t7), (L1 + 1 + 1 + 1 + 1, oa), (L1 + 1 + 1 + 1, ob), (L1 + 1 + 1, oP), (L1 + 1, oR), (73, tabObj #[]), (66, tabObj #[])] →
  oa.data = .cell va → ob.data = .cell vb → oP.data = .cell (some (.ref P)) → oR.data = .cell (some (.ref D2)) →
  ((@LT.lt Nat _ D2 P) ∧ (@LT.lt Nat _ (L1 + 1 + 1 + 1 + 1) P) ∧ (@LT.lt Nat _ (L1 + 1 + 1 + 1) P) ∧ (@LT.lt Nat _ (L1 + 1 + 1) P) ∧ (@LT.lt Nat _ (L1 + 1) P) ∧ (@LT.lt Nat _ 73 P) ∧ (@LT.lt Nat _ 66 P)) →
  ((@Ne Nat (L1 + 1 + 1 + 1 + 1) D2) ∧ (@Ne Nat (L1 + 1 + 1 + 1) D2) ∧ (@Ne Nat (L1 + 1 + 1) D2) ∧ (@Ne Nat (L1 + 1) D2) ∧ (@Ne Nat 73 D2) ∧ (@Ne Nat 66 D2)) →
  wpC (model theProg w) (callerA.deeper (lawE scope L1)) (execs (body.drop 6) (lawE scope L1)) Q E { s with heap := h, toks := tk }
/-- the law from its statement 8 on -/
def Cut2 (w : World) : Prop := ∀ (body : List Stmt) (scope : Scope) (loose : List Str) (mean : ExcName → Option Value) (mg mb : Str → Option Value) (G : Heap) (L1 : Addr) (s : Shared) (Q : Flow → Shared → Prop) (E : Value → Shared → Prop) (h : Heap) (tk : Nat) (m0 : Str → Option Value)
    (M C : UInt8) (f n : Nat) (b0 b1 b2 b3 b4 b5 b6 b7 : Bool) (t0 t1 t2 t3 t4 t5 t6 t7 tM tC tb tf tm to tt : Tok) (P D2 : Addr) (oa ob oP oR : Obj) (va vb : Option Value),
  LawBody w body scope → LawC w loose mean mg mb G L1 → LawR G s Q → 1 ≤ f → f ≤ 9 → 8 ≤ n → n ≤ 12 → C.toNat = 48 + f → M.toNat ≠ 41 → M.toNat < 127 → C.toNat ≠ M.toNat →
  Fr G L1 h (fun y => if y = Str.ofString "turned" then some (.bytes (octL M C (!b0) (!b1) (!b2) (!b3) (!b4) (!b5) (!b6) (!b7)).toArray tt) else if y = Str.ofString "octets" then some (.bytes (octL M C b0 b1 b2 b3 b4 b5 b6 b7).toArray to) else if y = Str.ofString "bits" then some (.int (n : Int) tb) else if y = Str.ofString "figure" then some (.int (f : Int) tf) else if y = Str.ofString "mark" then some (.str ⟨#[M.toNat]⟩ tm) else m0 y) →
  News G L1 h [(P, listOf #[.int (M.toNat : Int) tM, .int (C.toNat : Int) tC] 0), (D2, rowO b0 b1 b2 b3 b4 b5 b6 b7 t0 t1 t2 t3 t4 t5 t6 t7), (L1 + 1 + 1 + 1 + 1, oa), (L1 + 1 + 1 + 1, ob), (L1 + 1 + 1, oP), (L1 + 1, oR), (73, tabObj #[]), (66, tabObj #[])] →
  oa.data = .cell va → ob.data = .cell vb → oP.data = .cell (some (.ref P)) → oR.data = .cell (some (.ref D2)) →
  ((@LT.lt Nat _ D2 P) ∧ (@LT.lt Nat _ (L1 + 1 + 1 + 1 + 1) P) ∧ (@LT.lt Nat _ (L1 + 1 + 1 + 1) P) ∧ (@LT.lt Nat _ (L1 + 1 + 1) P) ∧ (@LT.lt Nat _ (L1 + 1) P) ∧ (@LT.lt Nat _ 73 P) ∧ (@LT.lt Nat _ 66 P)) →
  ((@Ne Nat (L1 + 1 + 1 + 1 + 1) D2) ∧ (@Ne Nat (L1 + 1 + 1 + 1) D2) ∧ (@Ne Nat (L1 + 1 + 1) D2) ∧ (@Ne Nat (L1 + 1) D2) ∧ (@Ne Nat 73 D2) ∧ (@Ne Nat 66 D2)) →
  wpC (model theProg w) (callerA.deeper (lawE scope L1)) (execs (body.drop 8) (lawE scope L1)) Q E { s with heap := h, toks := tk }
end Mine
end
section
open PySem PySem.Spec PySem.Calls PySem.W PyProof.Rows
set_option linter.unusedVariables false
set_option maxRecDepth 100000
namespace Mine
theorem news_drop2 {h₀ h : Heap} {L : Addr} {a b : Addr × Obj} {ns : List (Addr × Obj)} (N : News h₀ L h (a :: b :: ns)) : News h₀ L h (a :: ns) := fun q hq => by
  rcases List.mem_cons.mp hq with rfl | hq
  · exact N _ (.head _)
  · exact N q (.tail _ (.tail _ hq))
theorem use_cut1 {w : World} (hcut : Cut1 w) {body rest : List Stmt} {scope : Scope} (hB : LawBody w body scope) (hrest : rest = body.drop 6) {loose : List Str} {mean : ExcName → Option Value} {mg mb : Str → Option Value} {G : Heap} {L1 : Addr} {s : Shared} {Q : Flow → Shared → Prop} {E : Value → Shared → Prop} {h : Heap} {tk : Nat} {m0 : Str → Option Value}
    {M C : UInt8} {f n : Nat} {b0 b1 b2 b3 b4 b5 b6 b7 : Bool} {t0 t1 t2 t3 t4 t5 t6 t7 tM tC tb tf tm : Tok} {P D2 : Addr} {oa ob oP oR : Obj} {va vb : Option Value}
    (hC : LawC w loose mean mg mb G L1) (hR : LawR G s Q) (h1 : 1 ≤ f) (h2 : f ≤ 9) (h3 : 8 ≤ n) (h4 : n ≤ 12) (h5 : C.toNat = 48 + f) (h6 : M.toNat ≠ 41) (h7 : M.toNat < 127) (h8 : C.toNat ≠ M.toNat)
    (F : Fr G L1 h (fun y => if y = Str.ofString "bits" then some (.int (n : Int) tb) else if y = Str.ofString "figure" then some (.int (f : Int) tf) else if y = Str.ofString "mark" then some (.str ⟨#[M.toNat]⟩ tm) else m0 y))
    (N : News G L1 h [(P, listOf #[.int (M.toNat : Int) tM, .int (C.toNat : Int) tC] 0), (D2, rowO b0 b1 b2 b3 b4 b5 b6 b7 t0 t1 t2 t3 t4 t5 t6 t7), (L1 + 1 + 1 + 1 + 1, oa), (L1 + 1 + 1 + 1, ob), (L1 + 1 + 1, oP), (L1 + 1, oR), (73, tabObj #[]), (66, tabObj #[])])
    (da : oa.data = .cell va) (db : ob.data = .cell vb) (dP : oP.data = .cell (some (.ref P))) (dR : oR.data = .cell (some (.ref D2)))
    (hl : (@LT.lt Nat _ D2 P) ∧ (@LT.lt Nat _ (L1 + 1 + 1 + 1 + 1) P) ∧ (@LT.lt Nat _ (L1 + 1 + 1 + 1) P) ∧ (@LT.lt Nat _ (L1 + 1 + 1) P) ∧ (@LT.lt Nat _ (L1 + 1) P) ∧ (@LT.lt Nat _ 73 P) ∧ (@LT.lt Nat _ 66 P))
    (hn : (@Ne Nat (L1 + 1 + 1 + 1 + 1) D2) ∧ (@Ne Nat (L1 + 1 + 1 + 1) D2) ∧ (@Ne Nat (L1 + 1 + 1) D2) ∧ (@Ne Nat (L1 + 1) D2) ∧ (@Ne Nat 73 D2) ∧ (@Ne Nat 66 D2)) :
    wpC (model theProg w) (callerA.deeper (lawE scope L1)) (execs rest (lawE scope L1)) Q E { s with heap := h, toks := tk } := by
  subst hrest
  exact hcut body scope loose mean mg mb G L1 s Q E h tk m0 M C f n b0 b1 b2 b3 b4 b5 b6 b7 t0 t1 t2 t3 t4 t5 t6 t7 tM tC tb tf tm P D2 oa ob oP oR va vb hB hC hR h1 h2 h3 h4 h5 h6 h7 h8 F N da db dP dR hl hn
theorem use_cut2 {w : World} (hcut : Cut2 w) {body rest : List Stmt} {scope : Scope} (hB : LawBody w body scope) (hrest : rest = body.drop 8) {loose : List Str} {mean : ExcName → Option Value} {mg mb : Str → Option Value} {G : Heap} {L1 : Addr} {s : Shared} {Q : Flow → Shared → Prop} {E : Value → Shared → Prop} {h : Heap} {tk : Nat} {m0 : Str → Option Value}
    {M C : UInt8} {f n : Nat} {b0 b1 b2 b3 b4 b5 b6 b7 : Bool} {t0 t1 t2 t3 t4 t5 t6 t7 tM tC tb tf tm to tt : Tok} {P D2 : Addr} {oa ob oP oR : Obj} {va vb : Option Value}
    (hC : LawC w loose mean mg mb G L1) (hR : LawR G s Q) (h1 : 1 ≤ f) (h2 : f ≤ 9) (h3 : 8 ≤ n) (h4 : n ≤ 12) (h5 : C.toNat = 48 + f) (h6 : M.toNat ≠ 41) (h7 : M.toNat < 127) (h8 : C.toNat ≠ M.toNat)
    (F : Fr G L1 h (fun y => if y = Str.ofString "turned" then some (.bytes (octL M C (!b0) (!b1) (!b2) (!b3) (!b4) (!b5) (!b6) (!b7)).toArray tt) else if y = Str.ofString "octets" then some (.bytes (octL M C b0 b1 b2 b3 b4 b5 b6 b7).toArray to) else if y = Str.ofString "bits" then some (.int (n : Int) tb) else if y = Str.ofString "figure" then some (.int (f : Int) tf) else if y = Str.ofString "mark" then some (.str ⟨#[M.toNat]⟩ tm) else m0 y))
    (N : News G L1 h [(P, listOf #[.int (M.toNat : Int) tM, .int (C.toNat : Int) tC] 0), (D2, rowO b0 b1 b2 b3 b4 b5 b6 b7 t0 t1 t2 t3 t4 t5 t6 t7), (L1 + 1 + 1 + 1 + 1, oa), (L1 + 1 + 1 + 1, ob), (L1 + 1 + 1, oP), (L1 + 1, oR), (73, tabObj #[]), (66, tabObj #[])])
    (da : oa.data = .cell va) (db : ob.data = .cell vb) (dP : oP.data = .cell (some (.ref P))) (dR : oR.data = .cell (some (.ref D2)))
    (hl : (@LT.lt Nat _ D2 P) ∧ (@LT.lt Nat _ (L1 + 1 + 1 + 1 + 1) P) ∧ (@LT.lt Nat _ (L1 + 1 + 1 + 1) P) ∧ (@LT.lt Nat _ (L1 + 1 + 1) P) ∧ (@LT.lt Nat _ (L1 + 1) P) ∧ (@LT.lt Nat _ 73 P) ∧ (@LT.lt Nat _ 66 P))
    (hn : (@Ne Nat (L1 + 1 + 1 + 1 + 1) D2) ∧ (@Ne Nat (L1 + 1 + 1 + 1) D2) ∧ (@Ne Nat (L1 + 1 + 1) D2) ∧ (@Ne Nat (L1 + 1) D2) ∧ (@Ne Nat 73 D2) ∧ (@Ne Nat 66 D2)) :
    wpC (model theProg w) (callerA.deeper (lawE scope L1)) (execs rest (lawE scope L1)) Q E { s with heap := h, toks := tk } := by
  subst hrest
  exact hcut body scope loose mean mg mb G L1 s Q E h tk m0 M C f n b0 b1 b2 b3 b4 b5 b6 b7 t0 t1 t2 t3 t4 t5 t6 t7 tM tC tb tf tm to tt P D2 oa ob oP oR va vb hB hC hR h1 h2 h3 h4 h5 h6 h7 h8 F N da db dP dR hl hn
/-- the four marks, with their codes -/
theorem mark_of2 {i : Int} (h0 : 0 ≤ i) (h1 : i < 4) : ∃ M : UInt8, Txt.item (Str.ofString "|!0~") i = ⟨#[M.toNat]⟩ ∧ ([124, 33, 48, 126] : List Int).getD i.toNat 0 = (M.toNat : Int) ∧ M.toNat ≠ 41 ∧ M.toNat < 127 ∧ ∀ f : Nat, 1 ≤ f → f ≤ 9 → 48 + f ≠ M.toNat := by
  have : i = 0 ∨ i = 1 ∨ i = 2 ∨ i = 3 := by omega
  rcases this with rfl | rfl | rfl | rfl
  · exact ⟨124, by decide +kernel, by decide, by decide, by decide, fun f _ _ => by show 48 + f ≠ 124; omega⟩
  · exact ⟨33, by decide +kernel, by decide, by decide, by decide, fun f _ _ => by show 48 + f ≠ 33; omega⟩
  · exact ⟨48, by decide +kernel, by decide, by decide, by decide, fun f _ _ => by show 48 + f ≠ 48; omega⟩
  · exact ⟨126, by decide +kernel, by decide, by decide, by decide, fun f _ _ => by show 48 + f ≠ 126; omega⟩
/-- the other sign's octet -/
theorem sign_of (f : Nat) (h1 : 1 ≤ f) (h2 : f ≤ 9) : ∃ C : UInt8, C.toNat = 48 + f := by
  refine ⟨UInt8.ofNat (48 + f), ?_⟩
  rw [UInt8.toNat_ofNat']
  omega
end Mine
end
section
open PySem PySem.Spec PySem.Calls PySem.W PyProof.Rows PyProof.Rows.LCg PyProof.Rows.LCt
set_option linter.unusedVariables false
set_option maxRecDepth 100000
namespace Mine
/-- the word's octets as ints -/
def octI (M C : UInt8) (b0 b1 b2 b3 b4 b5 b6 b7 : Bool) : List Int := (octL M C b0 b1 b2 b3 b4 b5 b6 b7).map fun c => (c.toNat : Int)
theorem oct_at (M C : UInt8) (b0 b1 b2 b3 b4 b5 b6 b7 : Bool) (t0 t1 t2 t3 t4 t5 t6 t7 : Tok) (i : Nat) (v : Value)
    (h : (#[.int ((one b0 : Nat) : Int) t0, .int ((one b1 : Nat) : Int) t1, .int ((one b2 : Nat) : Int) t2, .int ((one b3 : Nat) : Int) t3, .int ((one b4 : Nat) : Int) t4, .int ((one b5 : Nat) : Int) t5, .int ((one b6 : Nat) : Int) t6, .int ((one b7 : Nat) : Int) t7] : Array Value)[i]? = some v) :
    ∃ b t, v = .int ((one b : Nat) : Int) t ∧ (octI M C b0 b1 b2 b3 b4 b5 b6 b7).take (2 * i + 0 + 1) = (octI M C b0 b1 b2 b3 b4 b5 b6 b7).take (2 * i + 0) ++ [((cond b C M).toNat : Int)] ∧
      (octI M C b0 b1 b2 b3 b4 b5 b6 b7).take (2 * i + 1 + 1) = (octI M C b0 b1 b2 b3 b4 b5 b6 b7).take (2 * i + 1) ++ [((cond b M C).toNat : Int)] := by
  rcases i with _ | _ | _ | _ | _ | _ | _ | _ | i
  · cases h; exact ⟨b0, t0, rfl, rfl, rfl⟩
  · cases h; exact ⟨b1, t1, rfl, rfl, rfl⟩
  · cases h; exact ⟨b2, t2, rfl, rfl, rfl⟩
  · cases h; exact ⟨b3, t3, rfl, rfl, rfl⟩
  · cases h; exact ⟨b4, t4, rfl, rfl, rfl⟩
  · cases h; exact ⟨b5, t5, rfl, rfl, rfl⟩
  · cases h; exact ⟨b6, t6, rfl, rfl, rfl⟩
  · cases h; exact ⟨b7, t7, rfl, rfl, rfl⟩
  · simp at h
theorem octI_back (M C : UInt8) (b0 b1 b2 b3 b4 b5 b6 b7 : Bool) : ((octI M C b0 b1 b2 b3 b4 b5 b6 b7).map fun n => n.toNat.toUInt8) = octL M C b0 b1 b2 b3 b4 b5 b6 b7 := by
  unfold octI
  rw [List.map_map]
  refine (List.map_congr_left (g := _root_.id) fun c _ => ?_).trans (List.map_id _)
  show (((c.toNat : Int)).toNat).toUInt8 = c
  rw [Int.toNat_natCast]
  exact UInt8.ofNat_toNat
theorem octI_in (M C : UInt8) (b0 b1 b2 b3 b4 b5 b6 b7 : Bool) : ∀ n ∈ octI M C b0 b1 b2 b3 b4 b5 b6 b7, 0 ≤ n ∧ n < 256 := by
  intro n hn
  unfold octI at hn
  obtain ⟨c, _, rfl⟩ := List.mem_map.mp hn
  have := c.toNat_lt
  omega
theorem c_swapO (w : World) (news : List (Addr × Obj)) (M C : UInt8) (b0 b1 b2 b3 b4 b5 b6 b7 : Bool) (t t2 : Tok) : ConC w 143 2 news [.bytes (octL M C b0 b1 b2 b3 b4 b5 b6 b7).toArray t, .int 2 t2] (fun t => .bytes (octL M C (!b0) (!b1) (!b2) (!b3) (!b4) (!b5) (!b6) (!b7)).toArray t) := by
  have e : octL M C (!b0) (!b1) (!b2) (!b3) (!b4) (!b5) (!b6) (!b7) = swp (octL M C b0 b1 b2 b3 b4 b5 b6 b7) := by
    unfold octL
    simp only [Bool.cond_not, swp]
  rw [e]
  exact c_swapU w news _ rfl t t2
end Mine
end
section
open PySem PySem.Spec PySem.Calls PySem.W PyProof.Rows PyProof.Rows.LCg PyProof.Rows.LCt
set_option maxRecDepth 100000
set_option maxHeartbeats 2000000
set_option linter.unusedVariables false
namespace Mine
local macro_rules | `(tactic| walk_at "call ref") => `(tactic| ((with_reducible show wpAny _ _ (call (Value.ref 148) _) _ _ _); refine Stop.intro ?_))
set_option hygiene false in
local macro_rules | `(tactic| walk_at "subscriptTail Name Slice ref ref") => `(tactic| (k_dflt (refine' kmk_slice_ints ?zzF ?zzN ?zzl ?zzp ?zzq ?zzi ?zzm ?zzc ?_ ?zzs ?zzt ?zzz; (case zzF => k_asm); (case zzN => k_asm); (case zzl => exact Fr.lst (by k_asm) hl1); (case zzp => kmk_part); (case zzq => kmk_part); (case zzi => exact hI); (case zzm => exact IntsAre.pick hI _ _ _); (case zzc => exact rfl); (case zzt => kmk_pure); (case zzz => (rw [List.size_toArray, hI.length, sizeLine_eq]; omega)); (case zzs => with_unfolding_all rfl)); intro D9 ws9 h9 F9 N9 l9 hI9 hC9 hL9; (try k_lt l9)))
local macro_rules | `(tactic| walk_at "call builtin:sum") => `(tactic| (k_here; (refine LSm.sum_ints (by k_asm) (by k_asm) (by exact rfl) (by exact listOf_arr (by k_asm) (.head _)) (by assumption) ?_; k_whole); intro h' tk' t' F' N'))
theorem law_a (w : World) (hcut : Cut1 w) : ConLaw w := by
  w_top off
  delta ConLaw theProg
  k_fill
  intro l vs ns loose mean mg mb p s R hI hlen hl KX T hT hret
  refine' code_lawC (K := hdC.heap_39 w.params) (tabs := [(77, 73), (70, 66)]) ?zaX ?zaT ?zaH ?zaK ?zaR ?zao ?zac ?zab ?zak ?zan ?_ ?zc1 ?zc2 ?zc3
  (case zaX => exact KX)
  (case zaT => exact T)
  (case zaH => exact hT)
  (case zaK => kernel_rfl)
  (case zaR => decide)
  (case zao => k_is)
  (case zac => k_is)
  (case zab => exact BindsTo.of_eq rfl)
  (case zak => exact rfl)
  (case zan => decide +kernel)
  (case zc1 => exact rfl)
  (case zc2 => exact rfl)
  (case zc3 => exact rfl)
  intro L1 h1 tk1 cells F1 N1 Y1 X1 T1 C1 lt1
  have hl1 := ghost_list hT hl
  have hc73 : CodeHd (ghostOf s.heap [(77, 73), (70, 66)]) 77 73 := C1.1
  have hc66 : CodeHd (ghostOf s.heap [(77, 73), (70, 66)]) 70 66 := C1.2.1
  have l73 : (@LT.lt Nat _ 73 L1) := lt1 (73, tabObj #[]) (.head _)
  have l66 : (@LT.lt Nat _ 66 L1) := lt1 (66, tabObj #[]) (.tail _ (.head _))
  clear lt1 C1 T KX
  k_cells Y1
  simp only [tabNews, List.map_cons, List.map_nil, List.cons_append, List.nil_append] at N1
  generalize hG : ghostOf s.heap [(77, 73), (70, 66)] = G at *
  have BG := below_caller G
  refine wpC_execs_at 1 ?_
  dsimp only [List.take, List.drop]
  k_steps
  unfold Stop
  refine' c_row w _ l vs ns hI hlen _ _ _ _ _ _ _ _ _ _ _ _ _ _ _ _ _ _ _ _ _ ?zbl ?zbB ?zbF ?zbX ?zbN ?zbT ?zbk ?zbd ?zbu ?_
  (case zbl => exact Fr.lst (by k_asm) hl1)
  (case zbB => exact BG)
  (case zbF => k_asm)
  (case zbX => k_asm)
  (case zbN => k_asm)
  (case zbT => k_asm)
  (case zbk => rfl)
  (case zbd => decide)
  (case zbu => decide)
  intro D2 r0 r1 r2 r3 r4 r5 r6 r7 t0 t1 t2 t3 t4 t5 t6 t7 h2 tk2 e0 e1 e2 e3 e4 e5 e6 e7 F2 N2 ne2
  obtain ⟨b0, rfl⟩ := bit_of e0
  obtain ⟨b1, rfl⟩ := bit_of e1
  obtain ⟨b2, rfl⟩ := bit_of e2
  obtain ⟨b3, rfl⟩ := bit_of e3
  obtain ⟨b4, rfl⟩ := bit_of e4
  obtain ⟨b5, rfl⟩ := bit_of e5
  obtain ⟨b6, rfl⟩ := bit_of e6
  obtain ⟨b7, rfl⟩ := bit_of e7
  have hq1 : (@Ne Nat (L1 + 1 + 1 + 1 + 1) D2) := ne2 _ (.head _)
  have hq2 : (@Ne Nat (L1 + 1 + 1 + 1) D2) := ne2 _ (.tail _ (.head _))
  have hq3 : (@Ne Nat (L1 + 1 + 1) D2) := ne2 _ (.tail _ (.tail _ (.head _)))
  have hq4 : (@Ne Nat (L1 + 1) D2) := ne2 _ (.tail _ (.tail _ (.tail _ (.head _))))
  have hq5 : (@Ne Nat 73 D2) := ne2 _ (.tail _ (.tail _ (.tail _ (.tail _ (.head _)))))
  have hq6 : (@Ne Nat 66 D2) := ne2 _ (.tail _ (.tail _ (.tail _ (.tail _ (.tail _ (.head _))))))
  clear ne2 e0 e1 e2 e3 e4 e5 e6 e7
  k_steps
  dsimp only
  refine wpC_execs_at 5 ?_
  dsimp only [List.take, List.drop]
  k_steps
  dsimp only
  rename_i l5 h5 lt5 h6 o5 F5 N5 d5
  have hN := news_drop2 N5
  clear N5
  generalize (pickNums ns none (some 63) none).sum.fmod (10 ^ Int.toNat 6) = tot at *
  have hm4 : tot.fmod 4 = tot % 4 := Int.fmod_eq_emod_of_nonneg _ (by decide)
  have hm9 : (tot.fdiv 4).fmod 9 = tot.fdiv 4 % 9 := Int.fmod_eq_emod_of_nonneg _ (by decide)
  have hm5 : (tot.fdiv 36).fmod 5 = tot.fdiv 36 % 5 := Int.fmod_eq_emod_of_nonneg _ (by decide)
  obtain ⟨M, eM1, eM2, eM3, eM4, eM5⟩ := mark_of2 (i := tot.fmod 4) (by omega) (by omega)
  obtain ⟨f, ef⟩ : ∃ f : Nat, 1 + (tot.fdiv 4).fmod 9 = (f : Int) := ⟨(1 + (tot.fdiv 4).fmod 9).toNat, by omega⟩
  obtain ⟨n, en⟩ : ∃ n : Nat, 8 + (tot.fdiv 36).fmod 5 = (n : Int) := ⟨(8 + (tot.fdiv 36).fmod 5).toNat, by omega⟩
  obtain ⟨C, eC⟩ := sign_of f (by omega) (by omega)
  have eC2 : (48 : Int) + (f : Int) = (C.toNat : Int) := by omega
  simp only [eM1, ef, en] at F5
  simp only [eM2, ef, eC2] at hN
  refine' use_cut1 hcut ?zdB ?zdr ⟨X1, T1, BG, hc73, hc66, l73, l66⟩ ?zdR (f := f) (n := n) ?zd1 ?zd2 ?zd3 ?zd4 eC eM3 eM4 ?zd8 F5 hN ?zdda ?zddb ?zddP ?zddR ?zdl ?zdn
  (case zdB => exact ⟨_, _, _, _, _, _, _, _, _, _, _, by k_is⟩)
  (case zdr => exact rfl)
  (case zdR => exact fun L m h' tk news ps qs F N h1 h2 => hret L m h' tk news ps qs F N h1 h2)
  (case zd1 => omega)
  (case zd2 => omega)
  (case zd3 => omega)
  (case zd4 => omega)
  (case zd8 => rw [eC]; exact eM5 f (by omega) (by omega))
  (case zddP => assumption)
  (case zddR => assumption)
  (case zdda => assumption)
  (case zddb => assumption)
  (case zdl => exact lt5.2)
  (case zdn => exact ⟨hq1, hq2, hq3, hq4, hq5, hq6⟩)
end Mine
end
section
open PySem PySem.Spec PySem.Calls PySem.W PyProof.Rows
set_option linter.unusedVariables false
set_option maxRecDepth 100000
namespace Mine
def octs (M C : UInt8) : List Bool → List Int
  | [] => []
  | b :: r => ((cond b C M).toNat : Int) :: ((cond b M C).toNat : Int) :: octs M C r
def sgn (b : Bool) : Int := cond b 1 (-1)
theorem two_n (n : Nat) : (2 : Int) ^ (2 * n) = 2 ^ n * 2 ^ n := by rw [← Int.pow_add, show n + n = 2 * n by omega]
theorem lean_eq (M C : UInt8) (n : Nat) : ∀ bs : List Bool, d2i n (octs M C bs) - d2i n (octs M C (bs.map (!·))) = d2i (2 * n) (bs.map sgn) * (((C.toNat : Int) - (M.toNat : Int)) * (1 - 2 ^ n))
  | [] => by simp [octs, d2i]
  | b :: r => by
    have ih := lean_eq M C n r
    simp only [octs, List.map_cons, d2i]
    rw [two_n]
    generalize (2 : Int) ^ n = T at *
    generalize d2i n (octs M C r) = x at *
    generalize d2i n (octs M C (r.map (!·))) = y at *
    generalize d2i (2 * n) (r.map sgn) = q at *
    have e : x = y + q * (((C.toNat : Int) - (M.toNat : Int)) * (1 - T)) := by omega
    subst e
    clear ih
    cases b
    · simp only [sgn, cond_true, cond_false, Bool.not_false]
      generalize (C.toNat : Int) = c
      generalize (M.toNat : Int) = m
      grind
    · simp only [sgn, cond_true, cond_false, Bool.not_true]
      generalize (C.toNat : Int) = c
      generalize (M.toNat : Int) = m
      grind
def valN (n : Nat) : List Nat → Nat
  | [] => 0
  | a :: r => a + 2 ^ n * valN n r
theorem valN_digs (n : Nat) : ∀ l : List Nat, (∀ a ∈ l, a < 2 ^ n) → digs n l.length (valN n l) = natsI l
  | [], _ => rfl
  | a :: r, h => by
    have ha := h a List.mem_cons_self
    have hp : 0 < 2 ^ n := Nat.pow_pos (by decide)
    show (((a + 2 ^ n * valN n r) % 2 ^ n : Nat) : Int) :: digs n r.length ((a + 2 ^ n * valN n r) / 2 ^ n) = _
    rw [Nat.add_mul_mod_self_left, Nat.mod_eq_of_lt ha, Nat.add_mul_div_left _ _ hp, Nat.div_eq_of_lt ha, Nat.zero_add, valN_digs n r fun x hx => h x (List.mem_cons_of_mem _ hx)]
    rfl
def fig (b : Bool) : Nat := 2 + 2 * one b
theorem lift_eq (n : Nat) : ∀ bs : List Bool, d2i n (bs.map sgn) + d2i n (bs.map fun _ => 3) = (valN n (bs.map fig) : Int)
  | [] => rfl
  | b :: r => by
    have ih := lift_eq n r
    simp only [List.map_cons, d2i, valN]
    push_cast
    rw [← ih]
    generalize (2 : Int) ^ n = T
    generalize d2i n (r.map sgn) = x
    generalize d2i n (r.map fun _ => 3) = y
    cases b
    · simp only [sgn, fig, one, cond_false]
      grind
    · simp only [sgn, fig, one, cond_true]
      grind
theorem q_ne {n : Nat} (hn : 0 < n) (b : Bool) (r : List Int) : d2i n (sgn b :: r) ≠ 0 := by
  obtain ⟨k, rfl⟩ : ∃ k, n = k + 1 := ⟨n - 1, by omega⟩
  show sgn b + 2 ^ (k + 1) * d2i (k + 1) r ≠ 0
  rw [Int.pow_succ, Int.mul_comm (2 ^ k) 2, Int.mul_assoc]
  generalize (2 : Int) ^ k * d2i (k + 1) r = z
  cases b <;> simp only [sgn, cond_true, cond_false] <;> omega
theorem d_bounds {c m : Int} {n : Nat} (hc : 0 ≤ c) (hc2 : c < 256) (hm : 0 ≤ m) (hm2 : m < 256) (hne : c ≠ m) (h1 : 8 ≤ n) (h2 : n ≤ 12) : 128 ≤ ((c - m) * (1 - 2 ^ n)).natAbs ∧ ((c - m) * (1 - 2 ^ n)).natAbs < 2 ^ 21 := by
  have : n = 8 ∨ n = 9 ∨ n = 10 ∨ n = 11 ∨ n = 12 := by omega
  rw [Int.natAbs_mul]
  have hk : 1 ≤ (c - m).natAbs ∧ (c - m).natAbs ≤ 255 := by clear h1 h2 this; omega
  generalize (c - m).natAbs = k at hk
  rcases this with rfl | rfl | rfl | rfl | rfl
  · have e : Int.natAbs ((1 : Int) - 2 ^ 8) = 255 := by decide
    rw [e]
    exact ⟨Nat.le_trans (show 128 ≤ 1 * 255 by decide) (Nat.mul_le_mul_right _ hk.1), Nat.lt_of_le_of_lt (Nat.mul_le_mul_right _ hk.2) (by decide)⟩
  · have e : Int.natAbs ((1 : Int) - 2 ^ 9) = 511 := by decide
    rw [e]
    exact ⟨Nat.le_trans (show 128 ≤ 1 * 511 by decide) (Nat.mul_le_mul_right _ hk.1), Nat.lt_of_le_of_lt (Nat.mul_le_mul_right _ hk.2) (by decide)⟩
  · have e : Int.natAbs ((1 : Int) - 2 ^ 10) = 1023 := by decide
    rw [e]
    exact ⟨Nat.le_trans (show 128 ≤ 1 * 1023 by decide) (Nat.mul_le_mul_right _ hk.1), Nat.lt_of_le_of_lt (Nat.mul_le_mul_right _ hk.2) (by decide)⟩
  · have e : Int.natAbs ((1 : Int) - 2 ^ 11) = 2047 := by decide
    rw [e]
    exact ⟨Nat.le_trans (show 128 ≤ 1 * 2047 by decide) (Nat.mul_le_mul_right _ hk.1), Nat.lt_of_le_of_lt (Nat.mul_le_mul_right _ hk.2) (by decide)⟩
  · have e : Int.natAbs ((1 : Int) - 2 ^ 12) = 4095 := by decide
    rw [e]
    exact ⟨Nat.le_trans (show 128 ≤ 1 * 4095 by decide) (Nat.mul_le_mul_right _ hk.1), Nat.lt_of_le_of_lt (Nat.mul_le_mul_right _ hk.2) (by decide)⟩
theorem q_bound {n : Nat} (h2 : n ≤ 12) (bs : List Bool) (hl : bs.length = 8) {d : Int} (hd : d.natAbs < 2 ^ 21) : (d2i (2 * n) (bs.map sgn)).natAbs * d.natAbs < 2 ^ 400 := by
  have h := d2i_abs (2 * n) (bs.map sgn) (fun x hx => by
    obtain ⟨b, _, rfl⟩ := List.mem_map.mp hx
    cases b <;> decide)
  rw [List.length_map, hl] at h
  have h3 : 2 ^ (64 + (2 * n + 1) * 8) ≤ 2 ^ 264 := Nat.pow_le_pow_right (by decide) (by omega)
  have h4 : (d2i (2 * n) (bs.map sgn)).natAbs < 2 ^ 264 := Nat.lt_of_lt_of_le h h3
  have h5 : (d2i (2 * n) (bs.map sgn)).natAbs * d.natAbs < 2 ^ 264 * 2 ^ 21 := Nat.mul_lt_mul'' h4 hd
  exact Nat.lt_of_lt_of_le h5 (by decide)
theorem fig_lt {n : Nat} (hn : 8 ≤ n) (b : Bool) : fig b < 2 ^ n := by
  have : 2 ^ 3 ≤ 2 ^ n := Nat.pow_le_pow_right (by decide) (by omega)
  cases b <;> simp only [fig, one, cond_true, cond_false] <;> omega
theorem val_lt (n : Nat) : ∀ l : List Nat, (∀ a ∈ l, a < 2 ^ n) → valN n l < 2 ^ (l.length * n)
  | [], _ => by simp [valN]
  | a :: r, h => by
    have ha := h a List.mem_cons_self
    have hr := val_lt n r fun x hx => h x (List.mem_cons_of_mem _ hx)
    show a + 2 ^ n * valN n r < 2 ^ ((r.length + 1) * n)
    rw [show (r.length + 1) * n = n + r.length * n by rw [Nat.add_mul, Nat.one_mul, Nat.add_comm], Nat.pow_add]
    have h1 : valN n r + 1 ≤ 2 ^ (r.length * n) := hr
    have h2 : 2 ^ n * (valN n r + 1) ≤ 2 ^ n * 2 ^ (r.length * n) := Nat.mul_le_mul_left _ h1
    rw [Nat.mul_add, Nat.mul_one] at h2
    omega
theorem val_snoc (n a : Nat) : ∀ l : List Nat, valN n (l ++ [a]) = valN n l + 2 ^ (l.length * n) * a
  | [] => by simp [valN]
  | x :: r => by
    have ih := val_snoc n a r
    show x + 2 ^ n * valN n (r ++ [a]) = x + 2 ^ n * valN n r + 2 ^ ((r.length + 1) * n) * a
    rw [ih, show (r.length + 1) * n = n + r.length * n by rw [Nat.add_mul, Nat.one_mul, Nat.add_comm], Nat.pow_add]
    grind
/-- how many digits the quotient has -/
theorem val_bits {n : Nat} (hn : 8 ≤ n) (b0 b1 b2 b3 b4 b5 b6 b7 : Bool) :
    ((Builtin.Int.intBits (valN n [fig b0, fig b1, fig b2, fig b3, fig b4, fig b5, fig b6, fig b7] : Int) : Int) + (n : Int) - 1).fdiv (n : Int) = ((8 : Nat) : Int) ∧ 0 < valN n [fig b0, fig b1, fig b2, fig b3, fig b4, fig b5, fig b6, fig b7] := by
  have e := val_snoc n (fig b7) [fig b0, fig b1, fig b2, fig b3, fig b4, fig b5, fig b6]
  simp only [List.cons_append, List.nil_append, List.length_cons, List.length_nil] at e
  rw [e]
  have hlt := val_lt n [fig b0, fig b1, fig b2, fig b3, fig b4, fig b5, fig b6] (fun a ha => by
    simp only [List.mem_cons, List.not_mem_nil, or_false] at ha
    rcases ha with rfl | rfl | rfl | rfl | rfl | rfl | rfl <;> exact fig_lt hn _)
  simp only [List.length_cons, List.length_nil] at hlt
  generalize valN n [fig b0, fig b1, fig b2, fig b3, fig b4, fig b5, fig b6] = y at *
  have hf : 2 ≤ fig b7 ∧ fig b7 ≤ 4 := by cases b7 <;> decide
  have hp : 0 < 2 ^ ((0 + 1 + 1 + 1 + 1 + 1 + 1 + 1) * n) := Nat.pow_pos (by decide)
  have e1 : 2 ^ ((0 + 1 + 1 + 1 + 1 + 1 + 1 + 1) * n + 1) = 2 ^ ((0 + 1 + 1 + 1 + 1 + 1 + 1 + 1) * n) * 2 := Nat.pow_succ ..
  have e3 : 2 ^ ((0 + 1 + 1 + 1 + 1 + 1 + 1 + 1) * n + 3) = 2 ^ ((0 + 1 + 1 + 1 + 1 + 1 + 1 + 1) * n) * 8 := by rw [Nat.pow_add]
  generalize hT : 2 ^ ((0 + 1 + 1 + 1 + 1 + 1 + 1 + 1) * n) = T at *
  have l1 : T * 2 ≤ T * fig b7 := Nat.mul_le_mul_left _ hf.1
  have l2 : T * fig b7 ≤ T * 4 := Nat.mul_le_mul_left _ hf.2
  have hge := bits_ge (x := y + T * fig b7) (m := (0 + 1 + 1 + 1 + 1 + 1 + 1 + 1) * n + 1) (by rw [e1]; omega)
  have hle := (intBits_le_iff (m := (0 + 1 + 1 + 1 + 1 + 1 + 1 + 1) * n + 3) (x := ((y + T * fig b7 : Nat) : Int))).mpr (by rw [Int.natAbs_natCast, e3]; omega)
  refine ⟨?_, by omega⟩
  generalize Builtin.Int.intBits ((y + T * fig b7 : Nat) : Int) = B at *
  have hB : 7 * n + 2 ≤ B ∧ B ≤ 7 * n + 3 := by
    constructor <;> simp only [Nat.zero_add, Nat.reduceAdd] at hge hle <;> omega
  rw [Int.fdiv_eq_ediv_of_nonneg _ (by omega)]
  rw [show (B : Int) + (n : Int) - 1 = ((B : Int) - 7 * (n : Int) - 1) + (n : Int) * 8 by omega, Int.add_mul_ediv_left _ _ (by omega), Int.ediv_eq_zero_of_lt (by omega) (by omega)]
  rfl
theorem octI_abs (M C : UInt8) (b0 b1 b2 b3 b4 b5 b6 b7 : Bool) : ∀ x ∈ octI M C b0 b1 b2 b3 b4 b5 b6 b7, x.natAbs < 2 ^ 64 := fun x hx => by
  have := octI_in M C b0 b1 b2 b3 b4 b5 b6 b7 x hx
  omega
end Mine
end
section
open PySem PySem.Spec PySem.Calls PySem.W PyProof.Rows PyProof.Rows.LCg PyProof.Rows.LCt
set_option linter.unusedVariables false
set_option maxRecDepth 100000
namespace Mine
section
variable {prog : Program} {w : World} {A : Around} {E : Value → Shared → Prop} {s : Shared}
theorem hint_bytes {b : Array UInt8} {t : Tok} {Q : Bool → Shared → Prop} (hsz : b.size ≤ 2 ^ 24)
    (h : Q false s) : wpAny (model prog w) A (Builtin.List.listLengthHint (.bytes b t)) Q E s := by
  unfold Builtin.List.listLengthHint
  refine wpAny_bind (wpAny_specialOf (typeIs_bytes s b t) FB.slot_bytes_len.lookup ?_)
  generalize hid : ("bytes.__len__" : String) = id0
  wp_delta
  rw [show splitId id0 = some ("bytes", "__len__") from by subst hid; decide +kernel]
  subst hid
  refine wpAny_bind (wpAny_isInstance (T := "bytes") (b := true) (typeIs_bytes s b t) (by rw [isSubtype_type]; kernel_rfl) ?_)
  refine wpAny_ite_split (fun hab => absurd hab (by decide)) (fun _ => ?_)
  refine wpAny_ite_split (fun _ => ?_) (fun hab => absurd (by decide +kernel) hab)
  refine wpAny_bind (wpAny_typeOf (T := "bytes") (typeIs_bytes s b t) ?_)
  exact wpAny_pure h
abbrev BytesAt (b : Array UInt8) : Nat → Value → Prop := fun i v => ∃ c u, b[i]? = some c ∧ v = .int (c.toNat : Int) u
/-- list.__init__ of a list just made, from bytes: the loop starts behind a fresh iterator -/
theorem init_bytes {R : Result → Shared → Prop} {b : Array UInt8} {t : Tok} {S : Addr} (hh : A.handled = none) (hz : b.size ≤ 2 ^ 24) (hS : s.heap.get? S = some { cls := .type "list", data := .seq #[] })
    (hR : ∀ h' tk us c, Heap.ExtBut S s.heap h' → h'.get? S = some (listOf us c) → ItemsOf (BytesAt b) us b.size → R (.ok (.ret .none)) { s with heap := h', toks := tk }) :
    wpAny (model prog w) A.in1 (Builtin.«list.__init__» ⟨[.ref S, .bytes b t], []⟩) (fun fin s' => match fin with | .done f => R (.ok f) s' | .again c' => c'.quiet = true ∧ codeAny (model prog w) A c' R s') (fun e s' => R (.error e) s') s := by
  obtain ⟨I, hI⟩ : ∃ I, I = s.heap.objs.size := ⟨_, rfl⟩
  have hne : I ≠ S := fun e => Nat.lt_irrefl _ ((hI.symm.trans e) ▸ Heap.lt_size hS)
  have empty := Heap.get?_update_self (Obj.mapSeq fun _ => (#[] : Array Value)) hS rfl
  obtain ⟨H, hH⟩ : ∃ H, H = (s.heap.update S (Obj.mapSeq fun _ => (#[] : Array Value))).push { cls := .type "bytes_iterator", data := .fields #[.bytes b t, .int 0 0] } := ⟨_, rfl⟩
  have size : (s.heap.update S (Obj.mapSeq fun _ => (#[] : Array Value))).objs.size = I := hI ▸ Heap.size_update ..
  have old : Heap.ExtBut S s.heap H := fun q o hq e => hH ▸ Heap.get?_push_of_some _ ((Heap.get?_update_other _ _ (Ne.symm hq)).trans e)
  have iter : KBw.IsBytesIter H I b t 0 := ⟨_, hH ▸ size ▸ Heap.get?_push_size _ rfl, rfl, rfl⟩
  have start : H.get? S = some { cls := .type "list", data := .seq #[] 0 } := hH ▸ Heap.get?_push_of_some _ empty
  have W := (KBw.walks (prog := prog) (w := w) (A := A.in1) hh I b t).toS
  have loop : codeAny (model prog w) A (.builtin "list.extend.loop" ⟨[.ref S, .ref I, .none], []⟩) R { s with heap := H } := by
    refine codeAny_extend_loopS W (Nat.le_trans hz (by rw [sizeLine_eq]; decide)) S (fun hm => hne (List.mem_singleton.mp hm).symm) .none _ 0 _ #[] _ rfl (Nat.zero_le _) iter start (ItemsOf.nil _) fun s' us c hm h1 h2 => ?_
    rw [Moved.eq_with hm]
    refine hR s'.heap s'.toks us c (fun q o hq e => hm.heap q o (fun hm' => ?_) (old q o hq e)) h1 h2
    rcases List.mem_cons.mp hm' with h | h
    · exact hq h
    · exact absurd (Heap.lt_size e) (by rw [List.mem_singleton.mp h, hI]; exact Nat.lt_irrefl _)
  refine wpAny_bind ?_
  unfold Builtin.List.listItems
  refine wpAny_bind (wpAny_seqItems hS rfl (wpAny_pure ?_))
  show wpAny _ _ (updateSeq S (fun _ => #[]) >>= _) _ _ s
  refine wpAny_bind (wpAny_updateSeq hS rfl (wpAny_bind (wpAny_letGo ?_)))
  show wpAny _ _ (Builtin.List.listExtendWith (.ref S) (.bytes b t) .none) _ _ _
  unfold Builtin.List.listExtendWith
  refine wpAny_bind (wpAny_typeOf (T := "bytes") (typeIs_bytes _ b t) (bm_if_false (by rfl) ?_))
  refine wpAny_bind (KBw.pyIter_bytes (wpAny_bind (wpAny_holding (hint_bytes hz (bm_if_false rfl ?_)))))
  rw [size, ← hH]
  exact wpAny_pure ⟨plainId_quiet _root_.PySem.F.plain_extend_loop _, loop⟩
theorem bytes_ints : ∀ (us : List Value) (ks : List UInt8), us.length = ks.length → (∀ (j : Nat) (v : Value), us[j]? = some v → ∃ c u, ks[j]? = some c ∧ v = .int (c.toNat : Int) u) → IntsAre us (ks.map fun c => (c.toNat : Int))
  | [], [], _, _ => .nil
  | u :: us, k :: ks, hl, h => by
    obtain ⟨c, t, hc, rfl⟩ := h 0 u rfl
    cases hc
    exact .cons _ _ (bytes_ints us ks (by simpa using hl) fun j v hj => h (j + 1) v hj)
  | [], _ :: _, hl, _ => by simp at hl
  | _ :: _, [], hl, _ => by simp at hl
/-- list(bytes) -/
theorem list_bytes {h₀ : Heap} {L : Addr} {m : Str → Option Value} {news : List (Addr × Obj)} {ks : List UInt8} {t : Tok} {Q : Value → Shared → Prop} (hh : A.handled = none) (Fx : Fr h₀ L s.heap m) (N : News h₀ L s.heap news) (hlen : ks.length ≤ 2 ^ 24)
    (h : ∀ D us c h' tk, Fr h₀ L h' m → News h₀ L h' ((D, listOf (List.toArray us) c) :: news) → (∀ p ∈ news, p.1 < D) → IntsAre us (ks.map fun c => (c.toNat : Int)) → Q (.ref D) { s with heap := h', toks := tk }) :
    wpAny (model prog w) A (call (.type "list") [.bytes ks.toArray t]) Q E s := by
  have hS : (s.heap.push { cls := .type "list", data := .seq #[] }).get? s.heap.objs.size = some { cls := .type "list", data := .seq #[] } := Heap.get?_push_size _ rfl
  refine callType_codes (Q₁ := fun obj s₁ => obj = .ref s.heap.objs.size ∧ s₁ = { s with heap := s.heap.push { cls := .type "list", data := .seq #[] } }) _root_.PySem.F.called_list (_root_.PySem.F.typeCall_list_1 _) _root_.PySem.F.entry_list_init (code_list_new _ ⟨rfl, rfl⟩) ?_
  rintro _ _ ⟨rfl, rfl⟩
  refine ⟨⟨_, hS, rfl⟩, _root_.PySem.F.args_list_init_2 _ _, init_bytes (A := A.in1) hh (by simpa using hlen) hS fun h' tk us c hx hD hus => ⟨rfl, ?_⟩⟩
  have old : ∀ q o, s.heap.get? q = some o → h'.get? q = some o := fun q o e => hx q o (Nat.ne_of_lt (Heap.lt_size e)) (Heap.get?_push_of_some _ e)
  rw [← Array.toArray_toList (xs := us)] at hD
  refine h _ us.toList c h' tk (Fx.keeps old) (news_pushed Fx N old hD rfl) (fun p hp => Heap.lt_size (N p hp).1) (bytes_ints _ _ (by rw [Array.length_toList, hus.1, List.size_toArray]) fun j v hj => ?_)
  obtain ⟨c, u, h1, h2⟩ := hus.2 j v (Array.getElem?_toList.symm.trans hj)
  exact ⟨c, u, List.getElem?_toArray.symm.trans h1, h2⟩
end
end Mine
end
section
open PySem PySem.Spec PySem.Calls PySem.W PyProof.Rows PyProof.Rows.LCg PyProof.Rows.LCt
set_option maxRecDepth 100000
set_option maxHeartbeats 2000000
set_option linter.unusedVariables false
namespace Mine
theorem body_eq {o o' : Obj} {r : Option Obj} (h1 : r = some o) (h2 : r = some o') : o = o' := Option.some.inj (h1.symm.trans h2)
theorem fn_body {oc oc' : Value} {od od' : Option Addr} {name name' qual qual' : Str} {params params' : Arguments} {body body' : List Stmt} {scope scope' : Scope} {dV dV' kV kV' doc doc' pm pm' cdv cdv' ct ct' : Value} {an an' : Option Addr} {osl osl' : Array (Option Value)} {r : Option Obj}
    (h1 : r = some ⟨oc, od, .func (fnOf name qual params body scope dV kV doc pm an cdv ct), osl⟩) (h2 : r = some ⟨oc', od', .func (fnOf name' qual' params' body' scope' dV' kV' doc' pm' an' cdv' ct'), osl'⟩) : body = body' ∧ scope = scope' := by
  have e := body_eq h1 h2
  unfold fnOf at e
  simp only [Obj.mk.injEq, Data.func.injEq, FuncData.mk.injEq] at e
  refine ⟨?_, ?_⟩ <;> simp_all
theorem with_body {M : Model} {Q : Flow → Shared → Prop} {E : Value → Shared → Prop} {s : Shared} {n : Nat} {L1 : Addr} {oc oc' : Value} {od od' : Option Addr} {name name' qual qual' : Str} {params params' : Arguments} {body body' : List Stmt} {scope scope' : Scope} {dV dV' kV kV' doc doc' pm pm' cdv cdv' ct ct' : Value} {an an' : Option Addr} {osl osl' : Array (Option Value)} {r : Option Obj}
    (h1 : r = some ⟨oc, od, .func (fnOf name qual params body scope dV kV doc pm an cdv ct), osl⟩) (h2 : r = some ⟨oc', od', .func (fnOf name' qual' params' body' scope' dV' kV' doc' pm' an' cdv' ct'), osl'⟩)
    (h : wpC M (callerA.deeper (lawE scope' L1)) (execs (body'.drop n) (lawE scope' L1)) Q E s) : wpC M (callerA.deeper (lawE scope L1)) (execs (body.drop n) (lawE scope L1)) Q E s := by
  obtain ⟨rfl, rfl⟩ := fn_body h1 h2
  exact h
theorem law_b (w : World) (hcut : Cut2 w) : Cut1 w := by
  w_top off
  delta Cut1 theProg
  intro body scope loose mean mg mb G L1 s Q E h tk m0 M C f n b0 b1 b2 b3 b4 b5 b6 b7 t0 t1 t2 t3 t4 t5 t6 t7 tM tC tb tf tm P D2 oa ob oP oR va vb hB hC hR h1 h2 h3 h4 h5 h6 h7 h8 F N da db dP dR hl hn
  obtain ⟨oc, od, name, params, dV, kV, doc, pm, an, ct, osl, hB⟩ := hB
  obtain ⟨X1, T1, BG, hc73, hc66, l73, l66⟩ := hC
  revert X1
  k_fill
  intro X1
  refine' with_body hB ?zxk ?_
  (case zxk => k_is)
  clear hB
  dsimp only [List.drop]
  show wpC _ _ (execs _ _) _ _ _
  refine wpC_execs_cons (wpC_of_any ?_)
  k_steps
  refine ListComp_two (h₀ := G) (L := L1) F (by with_unfolding_all rfl) (by decide) rfl (by decide) rfl rfl (by decide) ?_
  k_steps
  refine ⟨D2, _, 8, _, fun k ys => IntsAre ys ((octI M C b0 b1 b2 b3 b4 b5 b6 b7).take k), rfl, rfl, F, N, .tail _ (.head _), by show 2 * (8 + 1) ≤ sizeLine; decide +kernel, .nil, ?zerng, ?zeelt, ?zefin⟩
  case zerng =>
    intro ys I oI Cc oC D m₂ s E' hC F N off ne
    k_steps
    exact ⟨_, _, _, _, _, _, rfl, rfl, by assumption, by assumption, by assumption⟩
  case zeelt =>
    intro i v hv
    obtain ⟨b, tv, rfl, ea, eb⟩ := oct_at M C b0 b1 b2 b3 b4 b5 b6 b7 t0 t1 t2 t3 t4 t5 t6 t7 i v hv
    intro j ys J oJ I oI Cc oC D m₂ t s E' hj hi hC hx hy F N off ne
    k_steps
    refine CompEnd.intro F N _ (fun q hq => hq) off rfl ?_
    have hj2 : j = 0 ∨ j = 1 := by omega
    rcases hj2 with rfl | rfl
    · show IntsAre _ (List.take (2 * i + 0 + 1) _)
      rw [ea]
      refine IntsAre.append hi ?_
      cases b <;> exact .cons _ _ .nil
    · show IntsAre _ (List.take (2 * i + 1 + 1) _)
      rw [eb]
      refine IntsAre.append hi ?_
      cases b <;> exact .cons _ _ .nil
  case zefin =>
    intro D h tk ys F N o1 hI
    k_steps
    refine' bytes_K (ns := octI M C b0 b1 b2 b3 b4 b5 b6 b7) ?zeF ?zeN ?zel ?zei ?zer ?zez ?zeh ?_
    (case zeF => exact F)
    (case zeN => exact N)
    (case zeh => exact rfl)
    (case zel => exact News.isList N (.head _))
    (case zei => exact hI)
    (case zer => exact octI_in M C b0 b1 b2 b3 b4 b5 b6 b7)
    (case zez => rw [hI.length]; exact Nat.le_trans (List.length_take_le' ..) (show 16 ≤ sizeLine by decide +kernel))
    intro hh5 to tk5 F5 N5 _
    rw [octI_back]
    have N6 := PyProof.Rows.News.tail' N5
    clear N5 N
    k_steps
    dsimp only
    refine wpC_execs_cons (wpC_Assign_Name (wpC_Call_Name ?_))
    k_steps
    refine wpC_callWith_K (K := hdC.heap_39 w.params) (by k_is) ?_
    k_steps
    refine' c_swapO w _ M C b0 b1 b2 b3 b4 b5 b6 b7 _ _ _ _ _ _ _ _ _ _ _ _ _ _ _ _ _ _ _ _ _ _ _ ?zfB ?zfF ?zfX ?zfN ?zfT ?zfk ?zfd ?zfu ?_
    (case zfB => exact BG)
    (case zfF => k_asm)
    (case zfX => exact X1)
    (case zfN => k_asm)
    (case zfT => exact T1)
    (case zfk => rfl)
    (case zfd => decide)
    (case zfu => decide)
    intro tt hh8 tk8 F8 N8
    k_steps
    dsimp only
    refine' use_cut2 hcut ?zgB ?zgr ⟨X1, T1, BG, hc73, hc66, l73, l66⟩ hR h1 h2 h3 h4 h5 h6 h7 h8 ?zgF ?zgN da db dP dR hl hn
    (case zgB => exact ⟨_, _, _, _, _, _, _, _, _, _, _, by k_is⟩)
    (case zgr => exact rfl)
    (case zgF => k_asm)
    (case zgN => k_asm)
end Mine
end
section
open PySem PySem.Spec PySem.Calls PySem.W PyProof.Rows
set_option linter.unusedVariables false
set_option maxRecDepth 100000
namespace Mine
/-- the law from its statement 12 on -/
def Cut3 (w : World) : Prop := ∀ (body : List Stmt) (scope : Scope) (loose : List Str) (mean : ExcName → Option Value) (mg mb : Str → Option Value) (G : Heap) (L1 : Addr) (s : Shared) (Q : Flow → Shared → Prop) (E : Value → Shared → Prop) (h : Heap) (tk : Nat) (m0 : Str → Option Value)
    (M C : UInt8) (f : Nat) (b0 b1 b2 b3 b4 b5 b6 b7 : Bool) (t0 t1 t2 t3 t4 t5 t6 t7 tf tm to tt : Tok) (D2 : Addr) (oa ob oP oR : Obj) (va vb vP : Option Value) (v1 v2 v3 v4 v5 : Option Value) (ps qs : Array Value),
  LawBody w body scope → LawC w loose mean mg mb G L1 → LawR G s Q → 1 ≤ f → f ≤ 9 → C.toNat = 48 + f → M.toNat ≠ 41 → M.toNat < 127 → C.toNat ≠ M.toNat →
  Fr G L1 h (fun y => if y = Str.ofString "lifted" then v1 else if y = Str.ofString "rest" then v2 else if y = Str.ofString "quotient" then v3 else if y = Str.ofString "lean" then v4 else if y = Str.ofString "turned" then some (.bytes (octL M C (!b0) (!b1) (!b2) (!b3) (!b4) (!b5) (!b6) (!b7)).toArray tt) else if y = Str.ofString "octets" then some (.bytes (octL M C b0 b1 b2 b3 b4 b5 b6 b7).toArray to) else if y = Str.ofString "bits" then v5 else if y = Str.ofString "figure" then some (.int (f : Int) tf) else if y = Str.ofString "mark" then some (.str ⟨#[M.toNat]⟩ tm) else m0 y) →
  News G L1 h [(D2, rowO b0 b1 b2 b3 b4 b5 b6 b7 t0 t1 t2 t3 t4 t5 t6 t7), (L1 + 1 + 1 + 1 + 1, oa), (L1 + 1 + 1 + 1, ob), (L1 + 1 + 1, oP), (L1 + 1, oR), (73, tabObj ps), (66, tabObj qs)] →
  oa.data = .cell va → ob.data = .cell vb → oP.data = .cell vP → oR.data = .cell (some (.ref D2)) →
  ((@Ne Nat (L1 + 1 + 1 + 1 + 1) D2) ∧ (@Ne Nat (L1 + 1 + 1 + 1) D2) ∧ (@Ne Nat (L1 + 1 + 1) D2) ∧ (@Ne Nat (L1 + 1) D2) ∧ (@Ne Nat 73 D2) ∧ (@Ne Nat 66 D2)) →
  wpC (model theProg w) (callerA.deeper (lawE scope L1)) (execs (body.drop 12) (lawE scope L1)) Q E { s with heap := h, toks := tk }
theorem use_cut3 {w : World} (hcut : Cut3 w) {body rest : List Stmt} {scope : Scope} (hB : LawBody w body scope) (hrest : rest = body.drop 12) {loose : List Str} {mean : ExcName → Option Value} {mg mb : Str → Option Value} {G : Heap} {L1 : Addr} {s : Shared} {Q : Flow → Shared → Prop} {E : Value → Shared → Prop} {h : Heap} {tk : Nat} {m0 : Str → Option Value}
    {M C : UInt8} {f : Nat} {b0 b1 b2 b3 b4 b5 b6 b7 : Bool} {t0 t1 t2 t3 t4 t5 t6 t7 tf tm to tt : Tok} {D2 : Addr} {oa ob oP oR : Obj} {va vb vP v1 v2 v3 v4 v5 : Option Value} {ps qs : Array Value}
    (hC : LawC w loose mean mg mb G L1) (hR : LawR G s Q) (h1 : 1 ≤ f) (h2 : f ≤ 9) (h5 : C.toNat = 48 + f) (h6 : M.toNat ≠ 41) (h7 : M.toNat < 127) (h8 : C.toNat ≠ M.toNat)
    (F : Fr G L1 h (fun y => if y = Str.ofString "lifted" then v1 else if y = Str.ofString "rest" then v2 else if y = Str.ofString "quotient" then v3 else if y = Str.ofString "lean" then v4 else if y = Str.ofString "turned" then some (.bytes (octL M C (!b0) (!b1) (!b2) (!b3) (!b4) (!b5) (!b6) (!b7)).toArray tt) else if y = Str.ofString "octets" then some (.bytes (octL M C b0 b1 b2 b3 b4 b5 b6 b7).toArray to) else if y = Str.ofString "bits" then v5 else if y = Str.ofString "figure" then some (.int (f : Int) tf) else if y = Str.ofString "mark" then some (.str ⟨#[M.toNat]⟩ tm) else m0 y))
    (N : News G L1 h [(D2, rowO b0 b1 b2 b3 b4 b5 b6 b7 t0 t1 t2 t3 t4 t5 t6 t7), (L1 + 1 + 1 + 1 + 1, oa), (L1 + 1 + 1 + 1, ob), (L1 + 1 + 1, oP), (L1 + 1, oR), (73, tabObj ps), (66, tabObj qs)])
    (da : oa.data = .cell va) (db : ob.data = .cell vb) (dP : oP.data = .cell vP) (dR : oR.data = .cell (some (.ref D2)))
    (hn : (@Ne Nat (L1 + 1 + 1 + 1 + 1) D2) ∧ (@Ne Nat (L1 + 1 + 1 + 1) D2) ∧ (@Ne Nat (L1 + 1 + 1) D2) ∧ (@Ne Nat (L1 + 1) D2) ∧ (@Ne Nat 73 D2) ∧ (@Ne Nat 66 D2)) :
    wpC (model theProg w) (callerA.deeper (lawE scope L1)) (execs rest (lawE scope L1)) Q E { s with heap := h, toks := tk } := by
  subst hrest
  exact hcut body scope loose mean mg mb G L1 s Q E h tk m0 M C f b0 b1 b2 b3 b4 b5 b6 b7 t0 t1 t2 t3 t4 t5 t6 t7 tf tm to tt D2 oa ob oP oR va vb vP v1 v2 v3 v4 v5 ps qs hB hC hR h1 h2 h5 h6 h7 h8 F N da db dP dR hn
end Mine
end
section
open PySem PySem.Spec PySem.Calls PySem.W PyProof.Rows PyProof.Rows.LCg PyProof.Rows.LCt
set_option maxRecDepth 100000
set_option maxHeartbeats 2000000
set_option linter.unusedVariables false
namespace Mine
def rowI (b0 b1 b2 b3 b4 b5 b6 b7 : Bool) : List Int := [((one b0 : Nat) : Int), ((one b1 : Nat) : Int), ((one b2 : Nat) : Int), ((one b3 : Nat) : Int), ((one b4 : Nat) : Int), ((one b5 : Nat) : Int), ((one b6 : Nat) : Int), ((one b7 : Nat) : Int)]
theorem ints_at : ∀ {vs : List Value} {ns : List Int} {i : Nat} {v : Value}, IntsAre vs ns → vs[i]? = some v → ∃ n t, v = .int n t ∧ ns[i]? = some n
  | _, _, _, _, .nil, h => by simp at h
  | _, _, 0, _, .cons n t r, h => by cases h; exact ⟨n, t, rfl, rfl⟩
  | _, _, i + 1, _, .cons n t r, h => ints_at (i := i) r h
theorem newsmem {h₀ h : Heap} {L : Addr} {ns : List (Addr × Obj)} {p : Addr × Obj} (N : News h₀ L h ns) (hp : p ∈ ns) : h.get? p.1 = some p.2 ∧ p.1 ≠ L ∧ h₀.get? p.1 = none := N p hp
local macro_rules | `(tactic| walk_at "eval ListComp") => `(tactic| (k_here; (with_reducible show wpAny _ _ (eval (Expr.ListComp _ _ _ _) _) _ _ _); refine Stop.intro ?_))
local macro_rules | `(tactic| walk_at "binaryOp Mult ref int") => `(tactic| (k_here; (with_reducible show wpAny _ _ (binaryOp Operator.Mult (Value.ref _) (Value.int 8 _)) _ _ _); (refine KMa.mul (by k_asm) (by k_asm) (by is_list) (by decide) (by decide) (by decide) (by exact rfl) ?_); intro D7 h7' F7 N7 l7; (try k_lt l7)))
local macro_rules | `(tactic| walk_at "call type:list") => `(tactic| (k_here; (with_reducible show wpAny _ _ (call (Value.type "list") [Value.bytes _ _]) _ _ _); (refine list_bytes (by exact rfl) (by k_asm) (by k_asm) (by exact (show (16 : Nat) ≤ 2 ^ 24 from by decide)) ?_); intro D9 us9 c9 h9 tk9 F9 N9 l9 hI9; (try k_lt l9)))
local macro_rules | `(tactic| walk_at "call ref") => `(tactic| ((with_reducible show wpAny _ _ (call (Value.ref 78) _) _ _ _); refine Stop.intro ?_))
local macro_rules | `(tactic| walk_at "call ref") => `(tactic| ((with_reducible show wpAny _ _ (call (Value.ref 92) _) _ _ _); refine Stop.intro ?_))
local macro_rules | `(tactic| walk_at "call ref") => `(tactic| ((with_reducible show wpAny _ _ (call (Value.ref 71) _) _ _ _); refine Stop.intro ?_))
theorem law_c (w : World) (hcut : Cut3 w) : Cut2 w := by
  w_top off
  delta Cut2 theProg
  intro body scope loose mean mg mb G L1 s Q E h tk m0 M C f n b0 b1 b2 b3 b4 b5 b6 b7 t0 t1 t2 t3 t4 t5 t6 t7 tM tC tb tf tm to tt P D2 oa ob oP oR va vb hB hC hR h1 h2 h3 h4 h5 h6 h7 h8 F N da db dP dR hl hn
  obtain ⟨oc, od, name, params, dV, kV, doc, pm, an, ct, osl, hB⟩ := hB
  obtain ⟨X1, T1, BG, hc73, hc66, l73, l66⟩ := hC
  revert X1
  k_fill
  intro X1
  refine' with_body hB ?zxk ?_
  (case zxk => k_is)
  clear hB
  dsimp only [List.drop]
  obtain ⟨g1, g2, g3, g4, g5, g6, g7⟩ := hl
  obtain ⟨n1, n2, n3, n4, n5, n6⟩ := hn
  refine wpC_execs_at 4 ?_
  dsimp only [List.take, List.drop]
  k_steps
  unfold Stop
  rename_i D9 us9 c9 h9 tk9 F9 N9 hI9 l9
  refine' c_d2i0 w _ _ D9 us9 _ (show IntsAre us9 (octI M C b0 b1 b2 b3 b4 b5 b6 b7) from hI9) n tb ?zhn ?zhn2 (octI_abs M C b0 b1 b2 b3 b4 b5 b6 b7) ?zhlen _ _ _ _ _ _ _ _ _ _ _ _ _ _ _ _ _ _ _ _ _ ?zhC ?zhl ?zhU ?zhB ?zhF ?zhX ?zhN ?zhT ?zhk ?zhd ?zhu ?_
  (case zhn => omega)
  (case zhn2 => omega)
  (case zhlen => exact show 0 < 16 ∧ 16 ≤ 64 from by decide)
  (case zhC => exact hc73)
  (case zhl => exact News.isList N9 (.head _))
  (case zhN => exact N9)
  (case zhU => k_updF)
  (case zhB => exact BG)
  (case zhF => k_asm)
  (case zhX => exact X1)
  (case zhT => exact T1)
  (case zhk => rfl)
  (case zhd => decide)
  (case zhu => decide)
  intro td h10 tk10 cD ocD vsD qtD F10 N10 eD1 eD2 ltD
  (try k_lt ltD)
  (try dsimp only at N10)
  have NA := news_drop2 N10
  clear F9 N10 N9 hI9
  k_steps
  unfold Stop
  rename_i E9 vs9 e9 h11 tk11 F11 N11 hJ9 m9
  have hcr : ∀ h : Heap, h.get? cD = some ocD → h.CodeRec (.ref cD) "_digits2int.<locals>.inner" := fun h e => ⟨_, _, _, _, rfl, e, eD1, eD2⟩
  refine' c_d2i1 w _ E9 vs9 _ (show IntsAre vs9 (octI M C (!b0) (!b1) (!b2) (!b3) (!b4) (!b5) (!b6) (!b7)) from hJ9) n tb ?zin ?zin2 (octI_abs M C (!b0) (!b1) (!b2) (!b3) (!b4) (!b5) (!b6) (!b7)) ?zilen cD _ _ _ _ _ _ _ _ _ _ _ _ _ _ _ _ _ _ _ _ _ ?ziC ?zil ?zi73 ?zicr ?ziB ?ziF ?ziX ?ziN ?ziT ?zik ?zid ?ziu ?_
  (case zin => omega)
  (case zin2 => omega)
  (case zilen => exact show 0 < 16 ∧ 16 ≤ 64 from by decide)
  (case ziN => exact N11)
  (case ziC => exact CodeHd.keeps hc73 (Fr.keep F11))
  (case zil => exact News.isList N11 (.head _))
  (case zi73 => exact (N11 (73, tabD cD) (by k_mem)).1)
  (case zicr => exact hcr _ (N11 (cD, ocD) (by k_mem)).1)
  (case ziB => exact BG)
  (case ziF => k_asm)
  (case ziX => exact X1)
  (case ziT => exact T1)
  (case zik => rfl)
  (case zid => decide)
  (case ziu => decide)
  intro te h12 tk12 F12 N12
  have NB := PyProof.Rows.News.tail' N12
  clear F11 N11 N12 hJ9 NA
  k_steps
  unfold Stop
  have eL : d2i n (octI M C b0 b1 b2 b3 b4 b5 b6 b7) - d2i n (octI M C (!b0) (!b1) (!b2) (!b3) (!b4) (!b5) (!b6) (!b7)) = d2i (2 * n) ([b0, b1, b2, b3, b4, b5, b6, b7].map sgn) * (((C.toNat : Int) - (M.toNat : Int)) * (1 - 2 ^ n)) := lean_eq M C n [b0, b1, b2, b3, b4, b5, b6, b7]
  have eDv : (([(M.toNat : Int), (C.toNat : Int)] : List Int).getD (Int.toNat 1) 0 - ([(M.toNat : Int), (C.toNat : Int)] : List Int).getD (Int.toNat 0) 0) * (1 - 2 ^ ((n : Int)).toNat) = ((C.toNat : Int) - (M.toNat : Int)) * (1 - 2 ^ n) := by rw [Int.toNat_natCast]; rfl
  rw [eL, eDv]
  have hCl := C.toNat_lt
  have hd := d_bounds (c := (C.toNat : Int)) (m := (M.toNat : Int)) (n := n) (by omega) (by omega) (by omega) (by omega) (by omega) h3 h4
  have hq0 := q_ne (n := 2 * n) (by omega) b0 ([b1, b2, b3, b4, b5, b6, b7].map sgn)
  have hqb := q_bound h4 [b0, b1, b2, b3, b4, b5, b6, b7] rfl hd.2
  refine' c_id w (q := d2i (2 * n) ([b0, b1, b2, b3, b4, b5, b6, b7].map sgn)) (d := ((C.toNat : Int) - (M.toNat : Int)) * (1 - 2 ^ n)) hq0 hqb hd.1 (Nat.lt_trans hd.2 (by decide)) _ _ _ _ _ _ _ _ _ _ _ _ _ _ _ _ _ _ _ _ _ _ _ _ _ _ ?zjC ?zjU ?zjC2 ?zj73 ?zjcr ?zjB ?zjF ?zjX ?zjN ?zjT ?zjk ?zjd ?zju ?_
  (case zjN => k_asm)
  (case zjC => exact hc66)
  (case zjU => k_updF)
  (case zjC2 => exact CodeHd.keeps hc73 (Fr.keep (by k_asm)))
  (case zj73 => exact (newsmem (p := (73, tabD cD)) (by k_asm) (by k_mem)).1)
  (case zjcr => exact hcr _ (newsmem (p := (cD, ocD)) (by k_asm) (by k_mem)).1)
  (case zjB => exact BG)
  (case zjF => k_asm)
  (case zjX => exact X1)
  (case zjT => exact T1)
  (case zjk => rfl)
  (case zjd => decide)
  (case zju => decide)
  intro D8 c8 oc8 ws8 qt8 ta8 tb8 h8' tk8 F8 N8 e18 e28 lt8 lL8 lc8
  (try k_lt lt8)
  (try dsimp only at N8)
  clear hqb hd hq0 eL eDv hCl

  k_steps
  unfold Stop
  rename_i D7 h13 F13 N13 i13 n13 s13 e13 e14 e15 l13
  have i13' : IntsAre (List.replicate (Int.toNat 8) [Value.int 3 _]).flatten ([b0, b1, b2, b3, b4, b5, b6, b7].map fun _ => (3 : Int)) := i13
  rw [show (2 : Int) * (n : Int) = ((2 * n : Nat) : Int) from by omega]
  have hcr2 : ∀ h : Heap, h.get? c8 = some oc8 → h.CodeRec (.ref c8) "_int2digits.<locals>.inner" := fun h e => ⟨_, _, _, _, rfl, e, e18, e28⟩
  refine' c_d2i1 w _ D7 _ _ i13' (2 * n) _ ?zkn ?zkn2 ?zkb ?zklen cD _ _ _ _ _ _ _ _ _ _ _ _ _ _ _ _ _ _ _ _ _ ?zkC ?zkl ?zk73 ?zkcr ?zkB ?zkF ?zkX ?zkN ?zkT ?zkk ?zkd ?zku ?_
  (case zkn => omega)
  (case zkn2 => omega)
  (case zkb => exact fun x hx => by obtain ⟨b, _, rfl⟩ := List.mem_map.mp hx; decide)
  (case zklen => exact show 0 < 8 ∧ 8 ≤ 64 from by decide)
  (case zkN => exact N13)
  (case zkC => exact CodeHd.keeps hc73 (Fr.keep F13))
  (case zkl => exact News.isList N13 (.head _))
  (case zk73 => exact (newsmem (p := (73, tabD cD)) N13 (by k_mem)).1)
  (case zkcr => exact hcr _ (newsmem (p := (cD, ocD)) N13 (by k_mem)).1)
  (case zkB => exact BG)
  (case zkF => k_asm)
  (case zkX => exact X1)
  (case zkT => exact T1)
  (case zkk => rfl)
  (case zkd => decide)
  (case zku => decide)
  intro tg h14 tk14 F14 N14
  have NC := news_drop2 (PyProof.Rows.News.tail' N14)
  clear N14 N13 F13 i13 i13' s13 e13 e14 e15
  k_steps
  unfold Stop
  have eX := lift_eq (2 * n) [b0, b1, b2, b3, b4, b5, b6, b7]
  rw [eX, show (2 : Int) * (n : Int) = ((2 * n : Nat) : Int) from by omega]
  have hv := val_bits (n := 2 * n) (by omega) b0 b1 b2 b3 b4 b5 b6 b7
  have hfl : ∀ a ∈ [b0, b1, b2, b3, b4, b5, b6, b7].map fig, a < 2 ^ (2 * n) := fun a ha => by
    obtain ⟨b, _, rfl⟩ := List.mem_map.mp ha
    exact fig_lt (by omega) b
  refine' c_i2d1 w _ (valN (2 * n) ([b0, b1, b2, b3, b4, b5, b6, b7].map fig)) (2 * n) 8 _ _ hv.2 ?zln ?zln2 hv.1 (by decide) (by decide) ?zlx c8 _ _ _ _ _ _ _ _ _ _ _ _ _ _ _ _ _ _ _ _ _ ?zlC ?zl66 ?zlcr ?zlB ?zlF ?zlX ?zlN ?zlT ?zlk ?zld ?zlu ?_
  (case zln => omega)
  (case zln2 => omega)
  (case zlx => exact val_lt (2 * n) ([b0, b1, b2, b3, b4, b5, b6, b7].map fig) hfl)
  (case zlN => k_asm)
  (case zlC => exact CodeHd.keeps hc66 (Fr.keep (by k_asm)))
  (case zl66 => exact (newsmem (p := (66, tabI c8)) (by k_asm) (by k_mem)).1)
  (case zlcr => exact hcr2 _ (newsmem (p := (c8, oc8)) (by k_asm) (by k_mem)).1)
  (case zlB => exact BG)
  (case zlF => k_asm)
  (case zlX => exact X1)
  (case zlT => exact T1)
  (case zlk => rfl)
  (case zld => decide)
  (case zlu => decide)
  intro vs15 D15 h15 tk15 I15 F15 N15 l15
  have I16 : IntsAre vs15 [2 + 2 * ((one b0 : Nat) : Int), 2 + 2 * ((one b1 : Nat) : Int), 2 + 2 * ((one b2 : Nat) : Int), 2 + 2 * ((one b3 : Nat) : Int), 2 + 2 * ((one b4 : Nat) : Int), 2 + 2 * ((one b5 : Nat) : Int), 2 + 2 * ((one b6 : Nat) : Int), 2 + 2 * ((one b7 : Nat) : Int)] := by
    have e := valN_digs (2 * n) ([b0, b1, b2, b3, b4, b5, b6, b7].map fig) hfl
    rw [show digs (2 * n) 8 (valN (2 * n) ([b0, b1, b2, b3, b4, b5, b6, b7].map fig)) = natsI ([b0, b1, b2, b3, b4, b5, b6, b7].map fig) from e] at I15
    exact I15
  (try k_lt l15)
  clear hv hfl eX I15
  have l7 := l15.1
  k_steps
  unfold Stop
  refine ListComp_U (h₀ := G) (L := L1) F15 (by with_unfolding_all rfl) (by decide) rfl (by decide) rfl ?_
  k_steps
  · dsimp only
    have NZ := PyProof.Rows.News.tail' (PyProof.Rows.News.tail' (PyProof.Rows.News.tail' (PyProof.Rows.News.tail' (PyProof.Rows.News.tail' (PyProof.Rows.News.tail' (show News G L1 _ _ by k_asm))))))
    refine' use_cut3 hcut ?znB ?znr ⟨X1, T1, BG, hc73, hc66, l73, l66⟩ hR h1 h2 h5 h6 h7 h8 ?znF NZ da db dP dR ⟨n1, n2, n3, n4, n5, n6⟩
    (case znB => exact ⟨_, _, _, _, _, _, _, _, _, _, _, by k_is⟩)
    (case znr => exact rfl)
    (case znF => k_asm)
  · exfalso
    rename_i ha
    exact ha rfl
end Mine
end
section
open PySem PySem.Spec PySem.Calls PySem.W PyProof.Rows PyProof.Rows.LCg
set_option linter.unusedVariables false
set_option maxRecDepth 100000
namespace Mine
theorem gaps_eq : ∀ b0 b1 b2 b3 b4 b5 b6 b7 : Bool, (List.map (fun k' => 1 + ([((one b0 : Nat) : Int), ((one b1 : Nat) : Int), ((one b2 : Nat) : Int), ((one b3 : Nat) : Int), ((one b4 : Nat) : Int), ((one b5 : Nat) : Int), ((one b6 : Nat) : Int), ((one b7 : Nat) : Int)] : List Int).getD (k' + 1).toNat 0 - ([((one b0 : Nat) : Int), ((one b1 : Nat) : Int), ((one b2 : Nat) : Int), ((one b3 : Nat) : Int), ((one b4 : Nat) : Int), ((one b5 : Nat) : Int), ((one b6 : Nat) : Int), ((one b7 : Nat) : Int)] : List Int).getD k'.toNat 0) (rangeKs 0 (7 - 0 : Int).toNat)) = natsI (gpl b0 b1 b2 b3 b4 b5 b6 b7) := by decide +kernel
/-- the law from its statement 13 on -/
def Cut3b (w : World) : Prop := ∀ (body : List Stmt) (scope : Scope) (loose : List Str) (mean : ExcName → Option Value) (mg mb : Str → Option Value) (G : Heap) (L1 : Addr) (s : Shared) (Q : Flow → Shared → Prop) (E : Value → Shared → Prop) (h : Heap) (tk : Nat) (m0 : Str → Option Value)
    (M C : UInt8) (f : Nat) (b0 b1 b2 b3 b4 b5 b6 b7 : Bool) (t0 t1 t2 t3 t4 t5 t6 t7 tf tm to tt : Tok) (Dg D2 : Addr) (ys : List Value) (oa ob oP oR : Obj) (va vb vP : Option Value) (v1 v2 v3 v4 v5 : Option Value) (ps qs : Array Value),
  LawBody w body scope → LawC w loose mean mg mb G L1 → LawR G s Q → 1 ≤ f → f ≤ 9 → C.toNat = 48 + f → M.toNat ≠ 41 → M.toNat < 127 → C.toNat ≠ M.toNat →
  Fr G L1 h (fun y => if y = Str.ofString "gaps" then some (.ref Dg) else if y = Str.ofString "lifted" then v1 else if y = Str.ofString "rest" then v2 else if y = Str.ofString "quotient" then v3 else if y = Str.ofString "lean" then v4 else if y = Str.ofString "turned" then some (.bytes (octL M C (!b0) (!b1) (!b2) (!b3) (!b4) (!b5) (!b6) (!b7)).toArray tt) else if y = Str.ofString "octets" then some (.bytes (octL M C b0 b1 b2 b3 b4 b5 b6 b7).toArray to) else if y = Str.ofString "bits" then v5 else if y = Str.ofString "figure" then some (.int (f : Int) tf) else if y = Str.ofString "mark" then some (.str ⟨#[M.toNat]⟩ tm) else m0 y) →
  News G L1 h [(Dg, lst ys), (D2, rowO b0 b1 b2 b3 b4 b5 b6 b7 t0 t1 t2 t3 t4 t5 t6 t7), (L1 + 1 + 1 + 1 + 1, oa), (L1 + 1 + 1 + 1, ob), (L1 + 1 + 1, oP), (L1 + 1, oR), (73, tabObj ps), (66, tabObj qs)] →
  oa.data = .cell va → ob.data = .cell vb → oP.data = .cell vP → oR.data = .cell (some (.ref D2)) →
  ((@Ne Nat (L1 + 1 + 1 + 1 + 1) D2) ∧ (@Ne Nat (L1 + 1 + 1 + 1) D2) ∧ (@Ne Nat (L1 + 1 + 1) D2) ∧ (@Ne Nat (L1 + 1) D2) ∧ (@Ne Nat 73 D2) ∧ (@Ne Nat 66 D2)) → ((@Ne Nat D2 Dg) ∧ (@Ne Nat (L1 + 1 + 1 + 1 + 1) Dg) ∧ (@Ne Nat (L1 + 1 + 1 + 1) Dg) ∧ (@Ne Nat (L1 + 1 + 1) Dg) ∧ (@Ne Nat (L1 + 1) Dg) ∧ (@Ne Nat 73 Dg) ∧ (@Ne Nat 66 Dg)) → IntsAre ys (natsI (gpl b0 b1 b2 b3 b4 b5 b6 b7)) →
  wpC (model theProg w) (callerA.deeper (lawE scope L1)) (execs (body.drop 13) (lawE scope L1)) Q E { s with heap := h, toks := tk }
theorem use_cut3b {w : World} (hcut : Cut3b w) {body rest : List Stmt} {scope : Scope} (hB : LawBody w body scope) (hrest : rest = body.drop 13) {loose : List Str} {mean : ExcName → Option Value} {mg mb : Str → Option Value} {G : Heap} {L1 : Addr} {s : Shared} {Q : Flow → Shared → Prop} {E : Value → Shared → Prop} {h : Heap} {tk : Nat} {m0 : Str → Option Value}
    {M C : UInt8} {f : Nat} {b0 b1 b2 b3 b4 b5 b6 b7 : Bool} {t0 t1 t2 t3 t4 t5 t6 t7 tf tm to tt : Tok} {Dg D2 : Addr} {ys : List Value} {oa ob oP oR : Obj} {va vb vP v1 v2 v3 v4 v5 : Option Value} {ps qs : Array Value}
    (hC : LawC w loose mean mg mb G L1) (hR : LawR G s Q) (h1 : 1 ≤ f) (h2 : f ≤ 9) (h5 : C.toNat = 48 + f) (h6 : M.toNat ≠ 41) (h7 : M.toNat < 127) (h8 : C.toNat ≠ M.toNat)
    (F : Fr G L1 h (fun y => if y = Str.ofString "gaps" then some (.ref Dg) else if y = Str.ofString "lifted" then v1 else if y = Str.ofString "rest" then v2 else if y = Str.ofString "quotient" then v3 else if y = Str.ofString "lean" then v4 else if y = Str.ofString "turned" then some (.bytes (octL M C (!b0) (!b1) (!b2) (!b3) (!b4) (!b5) (!b6) (!b7)).toArray tt) else if y = Str.ofString "octets" then some (.bytes (octL M C b0 b1 b2 b3 b4 b5 b6 b7).toArray to) else if y = Str.ofString "bits" then v5 else if y = Str.ofString "figure" then some (.int (f : Int) tf) else if y = Str.ofString "mark" then some (.str ⟨#[M.toNat]⟩ tm) else m0 y))
    (N : News G L1 h [(Dg, lst ys), (D2, rowO b0 b1 b2 b3 b4 b5 b6 b7 t0 t1 t2 t3 t4 t5 t6 t7), (L1 + 1 + 1 + 1 + 1, oa), (L1 + 1 + 1 + 1, ob), (L1 + 1 + 1, oP), (L1 + 1, oR), (73, tabObj ps), (66, tabObj qs)])
    (da : oa.data = .cell va) (db : ob.data = .cell vb) (dP : oP.data = .cell vP) (dR : oR.data = .cell (some (.ref D2)))
    (hn : (@Ne Nat (L1 + 1 + 1 + 1 + 1) D2) ∧ (@Ne Nat (L1 + 1 + 1 + 1) D2) ∧ (@Ne Nat (L1 + 1 + 1) D2) ∧ (@Ne Nat (L1 + 1) D2) ∧ (@Ne Nat 73 D2) ∧ (@Ne Nat 66 D2)) (hg : ((@Ne Nat D2 Dg) ∧ (@Ne Nat (L1 + 1 + 1 + 1 + 1) Dg) ∧ (@Ne Nat (L1 + 1 + 1 + 1) Dg) ∧ (@Ne Nat (L1 + 1 + 1) Dg) ∧ (@Ne Nat (L1 + 1) Dg) ∧ (@Ne Nat 73 Dg) ∧ (@Ne Nat 66 Dg))) (hy : IntsAre ys (natsI (gpl b0 b1 b2 b3 b4 b5 b6 b7))) :
    wpC (model theProg w) (callerA.deeper (lawE scope L1)) (execs rest (lawE scope L1)) Q E { s with heap := h, toks := tk } := by
  subst hrest
  exact hcut body scope loose mean mg mb G L1 s Q E h tk m0 M C f b0 b1 b2 b3 b4 b5 b6 b7 t0 t1 t2 t3 t4 t5 t6 t7 tf tm to tt Dg D2 ys oa ob oP oR va vb vP v1 v2 v3 v4 v5 ps qs hB hC hR h1 h2 h5 h6 h7 h8 F N da db dP dR hn hg hy
end Mine
end
section
open PySem PySem.Spec PySem.Calls PySem.W PyProof.Rows PyProof.Rows.LCg PyProof.Rows.LCt
set_option maxRecDepth 100000
set_option maxHeartbeats 2000000
set_option linter.unusedVariables false
namespace Mine
local macro_rules | `(tactic| omega) => `(tactic| first | ((repeat (first | (rename (@Ne Nat _ _ ∧ _) => hz; clear hz) | (rename ((@Ne Nat _ _ ∧ _) ∧ _) => hz; clear hz))); omega +splitDisjunctions) | omega +splitDisjunctions)
theorem law_d (w : World) (hcut : Cut3b w) : Cut3 w := by
  w_top off
  delta Cut3 theProg
  intro body scope loose mean mg mb G L1 s Q E h tk m0 M C f b0 b1 b2 b3 b4 b5 b6 b7 t0 t1 t2 t3 t4 t5 t6 t7 tf tm to tt D2 oa ob oP oR va vb vP v1 v2 v3 v4 v5 ps qs hB hC hR h1 h2 h5 h6 h7 h8 F N da db dP dR hn
  obtain ⟨oc, od, name, params, dV, kV, doc, pm, an, ct, osl, hB⟩ := hB
  obtain ⟨X1, T1, BG, hc73, hc66, l73, l66⟩ := hC
  revert X1
  k_fill
  intro X1
  refine' with_body hB ?zxk ?_
  (case zxk => k_is)
  clear hB
  dsimp only [List.drop]
  obtain ⟨n1, n2, n3, n4, n5, n6⟩ := hn
  refine wpC_execs_at 1 ?_
  dsimp only [List.take, List.drop]
  k_steps
  dsimp only
  rename_i hI8 hL8 Dg hg tkg Fg Ng og
  refine' use_cut3b hcut ?zoB ?zor ⟨X1, T1, BG, hc73, hc66, l73, l66⟩ hR h1 h2 h5 h6 h7 h8 ?zoF Ng da db dP dR ⟨n1, n2, n3, n4, n5, n6⟩ og ?zoy
  (case zoB => exact ⟨_, _, _, _, _, _, _, _, _, _, _, by k_is⟩)
  (case zor => exact rfl)
  (case zoF => exact Fg)
  (case zoy => rw [gaps_eq] at hI8; exact hI8)
end Mine
end
section
open PySem PySem.Spec PySem.Calls PySem.W PyProof.Rows PySem.Builtin.Str
set_option linter.unusedVariables false
set_option maxRecDepth 100000
namespace Mine
/-- the letters of the gaps -/
def letS (g : Nat) : Str := ⟨#[97 + g]⟩
/-- labels with their points -/
def lab (gs : List Nat) : List Nat := gs.flatMap fun g => [46, 97 + g]
theorem lab_cons (g : Nat) (r : List Nat) : lab (g :: r) = 46 :: (97 + g) :: lab r := rfl
theorem lab_len : ∀ gs : List Nat, (lab gs).length = 2 * gs.length
  | [] => rfl
  | g :: r => by rw [lab_cons, List.length_cons, List.length_cons, lab_len r, List.length_cons]; omega
theorem lab_drop : ∀ (gs : List Nat) (k : Nat), (lab gs).drop (2 * k) = lab (gs.drop k)
  | gs, 0 => rfl
  | [], k + 1 => by simp [lab]
  | g :: r, k + 1 => by rw [lab_cons, show 2 * (k + 1) = 2 * k + 1 + 1 by omega, List.drop_succ_cons, List.drop_succ_cons, List.drop_succ_cons, lab_drop r k]
theorem lab_take : ∀ (gs : List Nat) (k : Nat), (lab gs).take (2 * k) = lab (gs.take k)
  | gs, 0 => by simp [lab]
  | [], k + 1 => by simp [lab]
  | g :: r, k + 1 => by rw [lab_cons, show 2 * (k + 1) = 2 * k + 1 + 1 by omega, List.take_succ_cons, List.take_succ_cons, List.take_succ_cons, lab_take r k, lab_cons]
theorem lab_inj : ∀ {a b : List Nat}, lab a = lab b → a = b
  | [], [], _ => rfl
  | [], _ :: _, h => by rw [lab_cons] at h; cases h
  | _ :: _, [], h => by rw [lab_cons] at h; cases h
  | x :: a, y :: b, h => by
    rw [lab_cons, lab_cons] at h
    injection h with _ h
    injection h with h1 h
    rw [lab_inj h, show x = y by omega]
def needle (ps : List Nat) : Str := ⟨(lab ps).toArray⟩
/-- the piece stands in the row -/
def sqB (gs ps : List Nat) : Bool := (List.range (gs.length + 1)).any fun k => decide ((gs.drop k).take ps.length = ps)
theorem at_list (x y : List Nat) (i : Nat) : StrLaws.At ⟨x.toArray⟩ ⟨y.toArray⟩ (⟨x.toArray⟩ : Str).length i ↔ i + y.length ≤ x.length ∧ (x.drop i).take y.length = y := by
  unfold StrLaws.At subAt
  show i + y.toArray.size ≤ x.toArray.size ∧ (x.toArray.extract i (i + y.toArray.size) == y.toArray) = true ↔ _
  rw [beq_iff_eq, List.size_toArray, List.size_toArray, List.extract_toArray, List.extract_eq_take_drop]
  rw [show i + y.length - i = y.length by omega]
  constructor
  · rintro ⟨h1, h2⟩
    exact ⟨h1, by injection h2⟩
  · rintro ⟨h1, h2⟩
    exact ⟨h1, by rw [h2]⟩
theorem at_name (gs ps : List Nat) (hp : ps ≠ []) : (∃ i, StrLaws.At (nameS gs) (needle ps) (nameS gs).length i) ↔ sqB gs ps = true := by
  obtain ⟨p, r, rfl⟩ := List.exists_cons_of_ne_nil hp
  have hl := lab_len (p :: r)
  constructor
  · rintro ⟨i, h⟩
    obtain ⟨h1, h2⟩ := (at_list (nameL gs) (lab (p :: r)) i).mp h
    rw [nameL_len, hl] at h1
    rw [hl] at h2
    have hnl : nameL gs = 120 :: lab gs := rfl
    rw [hnl] at h2
    match i with
    | 0 =>
      rw [List.drop_zero, List.length_cons, show 2 * (r.length + 1) = 2 * r.length + 1 + 1 by omega, List.take_succ_cons, lab_cons] at h2
      injection h2 with h2 _
      exact absurd h2 (by decide)
    | i + 1 =>
      rw [List.drop_succ_cons] at h2
      obtain ⟨k, hk⟩ : ∃ k, i = 2 * k ∨ i = 2 * k + 1 := ⟨i / 2, by omega⟩
      rcases hk with rfl | rfl
      · rw [lab_drop, lab_take] at h2
        refine List.any_eq_true.mpr ⟨k, List.mem_range.mpr (by omega), decide_eq_true ?_⟩
        exact lab_inj h2
      · rw [← List.drop_drop, lab_drop] at h2
        cases hd : gs.drop k with
        | nil =>
          rw [hd] at h2
          rw [lab_cons] at h2
          cases h2
        | cons g q =>
          rw [hd, lab_cons, lab_cons] at h2
          rw [List.drop_succ_cons, List.drop_zero, List.length_cons, show 2 * (r.length + 1) = 2 * r.length + 1 + 1 by omega, List.take_succ_cons] at h2
          injection h2 with h2 _
          exact absurd h2 (by omega)
  · intro h
    obtain ⟨k, hk, h⟩ := List.any_eq_true.mp h
    have h := of_decide_eq_true h
    have hlen := congrArg List.length h
    rw [List.length_take, List.length_drop] at hlen
    refine ⟨2 * k + 1, (at_list (nameL gs) (lab (p :: r)) _).mpr ⟨?_, ?_⟩⟩
    · rw [nameL_len, hl]
      have := List.length_cons (a := p) (as := r)
      omega
    · have hnl : nameL gs = 120 :: lab gs := rfl
      rw [hnl, List.drop_succ_cons, lab_drop, hl, lab_take, h]
theorem at_zero (gs ps : List Nat) (hp : ps ≠ []) : ¬ StrLaws.At (nameS gs) (needle ps) (nameS gs).length 0 := by
  obtain ⟨p, r, rfl⟩ := List.exists_cons_of_ne_nil hp
  intro h
  obtain ⟨h1, h2⟩ := (at_list (nameL gs) (lab (p :: r)) 0).mp h
  have hnl : nameL gs = 120 :: lab gs := rfl
  rw [hnl, lab_len, List.drop_zero, List.length_cons, show 2 * (r.length + 1) = 2 * r.length + 1 + 1 by omega, List.take_succ_cons, lab_cons] at h2
  injection h2 with h2 _
  exact absurd h2 (by decide)
theorem rfind_name (gs ps : List Nat) (hp : ps ≠ []) : (!(Txt.rfind (nameS gs) (needle ps) == -1 || Txt.rfind (nameS gs) (needle ps) == 0)) = sqB gs ps := by
  rcases rfind_whole (nameS gs) (needle ps) with ⟨h, hn⟩ | ⟨i, h, hi, _⟩
  · have : sqB gs ps = false := by
      cases hs : sqB gs ps with
      | false => rfl
      | true =>
        obtain ⟨i, hi⟩ := (at_name gs ps hp).mpr hs
        exact absurd hi (hn i)
    rw [this, h]
    rfl
  · rw [(at_name gs ps hp).mp ⟨i, hi⟩, h]
    have hz : i ≠ 0 := fun e => at_zero gs ps hp (e ▸ hi)
    have e1 : ((i : Int) == -1) = false := by rw [beq_eq_false_iff_ne]; omega
    have e2 : ((i : Int) == 0) = false := by rw [beq_eq_false_iff_ne]; omega
    rw [e1, e2]
    rfl
/-- great letters and small ones -/
theorem placed_map (l : List Nat) (f : Nat → Nat → List Nat) (g : Nat → Nat) (h : ∀ i c, l[i]? = some c → f i c = [g c]) : placed ⟨l.toArray⟩ f = (l.map g).toArray := by
  unfold placed
  have key : ∀ (l : List Nat) (f : Nat → Nat → List Nat), (∀ i c, l[i]? = some c → f i c = [g c]) → ((l.mapIdx fun i c => (f i c).toArray).map Array.toList).flatten = l.map g := by
    intro l
    induction l with
    | nil => intro f _; rfl
    | cons c r ih =>
      intro f h
      rw [List.mapIdx_cons, List.map_cons, List.flatten_cons, h 0 c rfl, List.map_cons]
      have := ih (fun i c => f (i + 1) c) fun i c e => h (i + 1) c (by simpa using e)
      rw [this]
      rfl
  apply Array.ext'
  rw [Array.toList_flatten]
  simpa using key l f h
def upN (c : Nat) : Nat := if 97 ≤ c then c - 32 else c
theorem up_ok : ∀ c ∈ [46, 97, 98, 99, 120], Unicode.upperOf c = [upN c] := by decide +kernel
theorem low_ok : ∀ c ∈ [46, 97, 98, 99, 120], Unicode.lowerOf (upN c) = [c] := by decide +kernel
theorem low_ok2 : ∀ c ∈ [46, 97, 98, 99, 120], Unicode.lowerOf c = [c] := by decide +kernel
theorem lower_list (l : List Nat) (k : Nat → Nat) (hk : ∀ c ∈ l, Unicode.lowerOf c = [k c]) (h3 : 931 ∉ l) : Txt.lower ⟨l.toArray⟩ = ⟨(l.map k).toArray⟩ := by
  unfold Txt.lower
  rw [placed_map l _ k fun i c e => ?_]
  unfold Unicode.lowerAt
  have e2 : l.toArray[i]? = some c := by rw [List.getElem?_toArray]; exact e
  show (match l.toArray[i]? with | none => [] | some c => if (c == 0x3A3 && Unicode.endsWord l.toArray i) = true then [0x3C2] else Unicode.lowerOf c) = _
  rw [e2]
  have hm := List.mem_of_getElem? e
  have hne : (c == 0x3A3) = false := by
    rw [beq_eq_false_iff_ne]
    intro q
    subst q
    exact h3 hm
  show (if (c == 0x3A3 && Unicode.endsWord l.toArray i) = true then [0x3C2] else Unicode.lowerOf c) = _
  rw [hne, Bool.false_and, if_neg (by decide)]
  exact hk c hm
theorem lab_mem : ∀ {gs : List Nat}, (∀ g ∈ gs, g ≤ 2) → ∀ c ∈ lab gs, c ∈ [46, 97, 98, 99]
  | [], _, c, h => by cases h
  | g :: r, hg, c, h => by
    rw [lab_cons] at h
    have h2 := hg g List.mem_cons_self
    rcases List.mem_cons.mp h with rfl | h
    · decide
    · rcases List.mem_cons.mp h with rfl | h
      · have : g = 0 ∨ g = 1 ∨ g = 2 := by omega
        rcases this with rfl | rfl | rfl <;> decide
      · exact lab_mem (fun g hg' => hg g (List.mem_cons_of_mem _ hg')) c h
theorem sub5 : ∀ c ∈ [46, 97, 98, 99], c ∈ [46, 97, 98, 99, 120] := by decide
theorem sub6 : ∀ c ∈ [46, 97, 98, 99], c ∈ [0, 46, 97, 98, 99, 120] := by decide
theorem name_mem {gs : List Nat} (hg : ∀ g ∈ gs, g ≤ 2) : ∀ c ∈ nameL gs, c ∈ [46, 97, 98, 99, 120] := fun c h => by
  rcases List.mem_cons.mp h with rfl | h
  · decide
  · exact sub5 c (lab_mem hg c h)
def nameU (gs : List Nat) : Str := ⟨((nameL gs).map upN).toArray⟩
theorem upper_name {gs : List Nat} (hg : ∀ g ∈ gs, g ≤ 2) : Txt.upper (nameS gs) = nameU gs := by
  unfold Txt.upper nameS
  rw [placed_map (nameL gs) _ upN fun i c e => up_ok c (name_mem hg c (List.mem_of_getElem? e))]
  rfl
theorem lower_name {gs : List Nat} (hg : ∀ g ∈ gs, g ≤ 2) : Txt.lower (nameU gs) = nameS gs := by
  unfold nameU nameS
  have h1 : ∀ c ∈ (nameL gs).map upN, Unicode.lowerOf c = [if 65 ≤ c then c + 32 else c] := by
    intro c h
    obtain ⟨d, hd, rfl⟩ := List.mem_map.mp h
    have hm := name_mem hg d hd
    rw [low_ok d hm]
    simp only [List.mem_cons, List.not_mem_nil, or_false] at hm
    rcases hm with rfl | rfl | rfl | rfl | rfl <;> decide
  have h3 : 931 ∉ (nameL gs).map upN := by
    intro h
    obtain ⟨d, hd, e⟩ := List.mem_map.mp h
    have hm := name_mem hg d hd
    simp only [List.mem_cons, List.not_mem_nil, or_false] at hm
    rcases hm with rfl | rfl | rfl | rfl | rfl <;> exact absurd e (by decide)
  rw [lower_list _ _ h1 h3, List.map_map]
  congr 2
  refine (List.map_congr_left fun d hd => ?_).trans (List.map_id _)
  have hm := name_mem hg d hd
  simp only [List.mem_cons, List.not_mem_nil, or_false] at hm
  rcases hm with rfl | rfl | rfl | rfl | rfl <;> rfl
theorem lower_needle {ps : List Nat} (hg : ∀ g ∈ ps, g ≤ 2) : Txt.lower (needle ps) = needle ps := by
  unfold needle
  have h1 : ∀ c ∈ lab ps, Unicode.lowerOf c = [id c] := fun c h => low_ok2 c (sub5 c (lab_mem hg c h))
  have h3 : 931 ∉ lab ps := fun h => absurd (lab_mem hg _ h) (by decide)
  rw [lower_list _ id h1 h3, List.map_id]
/-- labels joined by points -/
theorem glue_labels : ∀ (g : Nat) (r : List Nat), Str.join (Str.ofString ".") ((g :: r).map letS) = ⟨((97 + g) :: lab r).toArray⟩
  | g, [] => rfl
  | g, h :: r => by
    have ih := glue_labels h r
    have e : Str.ofString "." = ⟨#[46]⟩ := by decide +kernel
    rw [e] at ih ⊢
    rw [List.map_cons] at ih
    rw [List.map_cons, List.map_cons]
    show (letS g ++ ⟨#[46]⟩ ++ Str.join ⟨#[46]⟩ (letS h :: r.map letS) : Str) = _
    rw [ih, lab_cons]
    show (⟨#[97 + g] ++ #[46] ++ ((97 + h) :: lab r).toArray⟩ : Str) = _
    simp
theorem join_labels (g : Nat) (r : List Nat) : Txt.join (Str.ofString ".") ((g :: r).map letS) = ⟨((97 + g) :: lab r).toArray⟩ := by
  show Builtin.Str.glued _ _ = _
  rw [StrLaws.glued_eq_join]
  exact glue_labels g r
theorem join_name (g : Nat) (r : List Nat) : Txt.join (Str.ofString ".") (Str.ofString "x" :: (g :: r).map letS) = nameS (g :: r) := by
  show Builtin.Str.glued _ _ = _
  rw [StrLaws.glued_eq_join]
  show (Str.ofString "x" ++ Str.ofString "." ++ Str.join (Str.ofString ".") ((g :: r).map letS) : Str) = _
  rw [glue_labels, show Str.ofString "." = ⟨#[46]⟩ by decide +kernel, show Str.ofString "x" = ⟨#[120]⟩ by decide +kernel]
  show (⟨#[120] ++ #[46] ++ ((97 + g) :: lab r).toArray⟩ : Str) = ⟨(120 :: lab (g :: r)).toArray⟩
  rw [lab_cons]
  simp
theorem dot_labels (g : Nat) (r : List Nat) : Str.ofString "." ++ Txt.join (Str.ofString ".") ((g :: r).map letS) = needle (g :: r) := by
  rw [join_labels, show Str.ofString "." = ⟨#[46]⟩ by decide +kernel]
  show (⟨#[46] ++ ((97 + g) :: lab r).toArray⟩ : Str) = ⟨(lab (g :: r)).toArray⟩
  rw [lab_cons]
  simp
/-- no digit, no point at the ends -/
theorem no_digit : ∀ c ∈ [0, 46, 97, 98, 99, 120], Sre.isDigit c = false := by decide +kernel
theorem item_last (l : List Nat) (h : l ≠ []) : Txt.item ⟨l.toArray⟩ (-1) = ⟨#[l.getLast h]⟩ := by
  unfold Txt.item Txt.charAt
  have hp : 0 < l.length := List.length_pos_iff.mpr h
  have e : seqIndex? (-1) (⟨l.toArray⟩ : Str).length = some (l.length - 1) := by
    show seqIndex? (-1) l.toArray.size = _
    rw [List.size_toArray]
    unfold seqIndex?
    simp only [show ((-1 : Int) < 0) from by decide, if_true]
    rw [if_pos (by rw [Bool.and_eq_true, decide_eq_true_eq, decide_eq_true_eq]; omega)]
    congr 1
    omega
  rw [e]
  show (⟨#[((l.toArray)[l.length - 1]?).getD 0]⟩ : Str) = _
  rw [List.getElem?_toArray, ← List.getLast?_eq_getElem?, List.getLast?_eq_some_getLast h]
  rfl
theorem last_name {gs : List Nat} (hg : ∀ g ∈ gs, g ≤ 2) (h : nameL gs ≠ []) (h1 : 1 ≤ gs.length) : (nameL gs).getLast h ≠ 46 := by
  obtain ⟨a, g, rfl⟩ : ∃ a g, gs = a ++ [g] := ⟨gs.dropLast, gs.getLast (by intro q; rw [q] at h1; exact absurd h1 (by decide)), (List.dropLast_concat_getLast _).symm⟩
  intro q
  have e : (nameL (a ++ [g])).getLast? = some (97 + g) := by rw [nameL_snoc, List.getLast?_append]; rfl
  rw [List.getLast?_eq_some_getLast h, q] at e
  injection e with e
  omega
theorem hdn_name {gs : List Nat} (hg : ∀ g ∈ gs, g ≤ 2) (h1 : 1 ≤ gs.length) (h2 : gs.length ≤ 100) : Hdn (nameS gs) where
  d0 := fun i => by
    refine no_digit _ ?_
    show (nameL gs).toArray.getD i 0 ∈ _
    rw [Array.getD_eq_getD_getElem?, List.getElem?_toArray]
    cases h : (nameL gs)[i]? with
    | none => decide
    | some c =>
      exact List.mem_cons_of_mem _ (name_mem hg c (List.mem_of_getElem? h))
  sz := by show 2 ≤ (nameL gs).toArray.size; rw [List.size_toArray, nameL_len]; omega
  sm := by
    show (nameL gs).toArray.size ≤ _
    rw [List.size_toArray, nameL_len]
    have : 201 ≤ 2 ^ 24 := by decide
    omega
  i0 := by
    have e := item_at (nameL gs) 0 120 rfl
    show (Txt.item ⟨(nameL gs).toArray⟩ ((0 : Nat) : Int) == _) = false
    rw [e]
    decide +kernel
  i1 := by
    have hl := nameL_len gs
    have hne : nameL gs ≠ [] := List.cons_ne_nil _ _
    have e : Txt.item ⟨(nameL gs).toArray⟩ (-1) = ⟨#[(nameL gs).getLast hne]⟩ := item_last _ hne
    show (Txt.item ⟨(nameL gs).toArray⟩ (-1) == _) = false
    rw [e]
    have h := last_name hg hne (by omega)
    rw [beq_eq_false_iff_ne]
    intro q
    have q2 : (#[(nameL gs).getLast hne] : Array Nat) = #[46] := (congrArg Str.cps q).trans (by decide +kernel)
    exact h (by simpa using q2)
  ne := by
    rw [beq_eq_false_iff_ne]
    intro q
    have q2 := congrArg Str.length q
    rw [nameS_len] at q2
    have : (Str.ofString "").length = 0 := by decide +kernel
    omega
end Mine
end
section
open PySem PySem.Spec PySem.Calls PySem.W PyProof.Rows PySem.Builtin.Str
set_option linter.unusedVariables false
set_option maxRecDepth 100000
namespace Mine
/-- a piece of a row -/
def pcs {α : Type} (l : List α) (st i : Nat) : List α := (l.drop i).take st
theorem pcs_map {α β : Type} (f : α → β) (l : List α) (st i : Nat) : pcs (l.map f) st i = (pcs l st i).map f := by
  unfold pcs
  rw [← List.map_drop, ← List.map_take]
theorem pcs_len {α : Type} (l : List α) (st i : Nat) (h : i + st ≤ l.length) : (pcs l st i).length = st := by
  unfold pcs
  rw [List.length_take, List.length_drop]
  omega
/-- a slice of ints, in bounds -/
theorem nums_run (ns : List Int) {i j : Nat} {x y : Int} (ex : x = (i : Int)) (ey : y = (j : Int)) (hj : j ≤ ns.length) : pickNums ns (some x) (some y) none = (ns.drop i).take (j - i) := by
  subst ex ey
  have h := pick_run ns.toArray i (j - i)
  unfold pickNums
  rw [sliceBounds_plain]
  simp only [Option.elim, clipAt_nat]
  by_cases hi : i ≤ ns.length
  · rw [Nat.min_eq_left hi, Nat.min_eq_left hj, sliceRange_one]
    simpa using h
  · rw [Nat.min_eq_right (by omega : ns.length ≤ i), Nat.min_eq_left hj, sliceRange_one, show j - ns.length = 0 by omega, show j - i = 0 by omega]
    rfl
theorem ov_at (b0 b1 b2 b3 b4 b5 b6 b7 : Bool) {st i : Nat} (hs : 1 ≤ st ∧ st ≤ 3) (hi : i < 8 - 2 * st) :
    ovI (rowI b0 b1 b2 b3 b4 b5 b6 b7) st i = decide (pcs [b0, b1, b2, b3, b4, b5, b6, b7] (st + 1) i = pcs [b0, b1, b2, b3, b4, b5, b6, b7] (st + 1) (i + st)) := by
  have e : rowI b0 b1 b2 b3 b4 b5 b6 b7 = [b0, b1, b2, b3, b4, b5, b6, b7].map fun b => ((one b : Nat) : Int) := rfl
  have inj : Function.Injective fun b => ((one b : Nat) : Int) := fun x y h => by cases x <;> cases y <;> first | rfl | cases h
  have hl : (rowI b0 b1 b2 b3 b4 b5 b6 b7).length = 8 := rfl
  unfold ovI
  rw [nums_run _ (i := i) (j := i + st + 1) (by omega) (by omega) (by omega), nums_run _ (i := i + st) (j := i + 2 * st + 1) (by omega) (by omega) (by omega), show i + st + 1 - i = st + 1 by omega, show i + 2 * st + 1 - (i + st) = st + 1 by omega, e]
  have k1 := pcs_map (fun b => ((one b : Nat) : Int)) [b0, b1, b2, b3, b4, b5, b6, b7] (st + 1)
  unfold pcs at k1 ⊢
  rw [k1, k1, decide_eq_decide]
  exact List.map_inj_right inj
/-- the differences of a row, each by one more -/
def gapsOf : List Bool → List Nat
  | a :: b :: r => gp a b :: gapsOf (b :: r)
  | _ => []
theorem gaps_drop : ∀ (k : Nat) (l : List Bool), (gapsOf l).drop k = gapsOf (l.drop k)
  | 0, _ => rfl
  | k + 1, [] => rfl
  | k + 1, [_] => by rw [List.drop_succ_cons, List.drop_nil]; rfl
  | k + 1, a :: b :: r => gaps_drop k (b :: r)
theorem gaps_take : ∀ (k : Nat) (l : List Bool), (gapsOf l).take k = gapsOf (l.take (k + 1))
  | k, [] => by cases k <;> rfl
  | k, [_] => by cases k <;> rfl
  | 0, _ :: _ :: _ => rfl
  | k + 1, a :: b :: r => by
    have ih := gaps_take k (b :: r)
    show gp a b :: (gapsOf (b :: r)).take k = gp a b :: gapsOf ((b :: r).take (k + 1))
    rw [ih]
theorem gaps_pcs (l : List Bool) (st i : Nat) : pcs (gapsOf l) st i = gapsOf (pcs l (st + 1) i) := by
  unfold pcs
  rw [gaps_drop, gaps_take]
theorem thue1 : ∀ a b c : Bool, gapsOf [a, b] = gapsOf [b, c] → [a, b] = [b, c] := by decide
theorem thue2 : ∀ a b c d e : Bool, gapsOf [a, b, c] = gapsOf [c, d, e] → [a, b, c] = [c, d, e] := by decide
theorem thue3 : ∀ a b c d e f g : Bool, gapsOf [a, b, c, d] = gapsOf [d, e, f, g] → [a, b, c, d] = [d, e, f, g] := by decide
/-- a square of differences comes of an overlap of the row -/
theorem thue {st : Nat} (hs : 1 ≤ st ∧ st ≤ 3) : ∀ W : List Bool, W.length = 2 * st + 1 → gapsOf (W.take (st + 1)) = gapsOf (W.drop st) → W.take (st + 1) = W.drop st := by
  have : st = 1 ∨ st = 2 ∨ st = 3 := by omega
  rcases this with rfl | rfl | rfl
  · intro W hl
    match W, hl with
    | [a, b, c], _ => exact thue1 a b c
  · intro W hl
    match W, hl with
    | [a, b, c, d, e], _ => exact thue2 a b c d e
  · intro W hl
    match W, hl with
    | [a, b, c, d, e, f, g], _ => exact thue3 a b c d e f g
theorem sq_at (b0 b1 b2 b3 b4 b5 b6 b7 : Bool) {st i : Nat} (hs : 1 ≤ st ∧ st ≤ 3) (hi : i < 8 - 2 * st) :
    sqB (gpl b0 b1 b2 b3 b4 b5 b6 b7) (pcs (gpl b0 b1 b2 b3 b4 b5 b6 b7) st i ++ pcs (gpl b0 b1 b2 b3 b4 b5 b6 b7) st i) =
      (List.range (8 - 2 * st)).any fun j => ovI (rowI b0 b1 b2 b3 b4 b5 b6 b7) st j && decide (pcs (gpl b0 b1 b2 b3 b4 b5 b6 b7) st j = pcs (gpl b0 b1 b2 b3 b4 b5 b6 b7) st i) := by
  have hg : gpl b0 b1 b2 b3 b4 b5 b6 b7 = gapsOf [b0, b1, b2, b3, b4, b5, b6, b7] := rfl
  have hG : (gpl b0 b1 b2 b3 b4 b5 b6 b7).length = 7 := rfl
  generalize hR : [b0, b1, b2, b3, b4, b5, b6, b7] = R at hg
  have hRl : R.length = 8 := by rw [← hR]; rfl
  generalize gpl b0 b1 b2 b3 b4 b5 b6 b7 = G at hg hG
  have hP := pcs_len G st i (by omega)
  generalize pcs G st i = P at hP
  have two : ∀ k, (G.drop k).take (st + st) = pcs G st k ++ pcs G st (k + st) := fun k => by
    unfold pcs
    rw [List.take_add, List.drop_drop]
  rw [Bool.eq_iff_iff, sqB, List.any_eq_true, List.any_eq_true]
  simp only [List.mem_range, Bool.and_eq_true, decide_eq_true_eq, List.length_append, hP, hG]
  constructor
  · rintro ⟨k, hk, e⟩
    have h7 : k + 2 * st ≤ 7 := by
      have := congrArg List.length e
      rw [List.length_take, List.length_drop, List.length_append, hP] at this
      omega
    rw [two k] at e
    obtain ⟨e1, e2⟩ := List.append_inj e (by rw [pcs_len G st k (by omega), hP])
    refine ⟨k, by omega, ?_, e1⟩
    rw [ov_at b0 b1 b2 b3 b4 b5 b6 b7 hs (by omega), hR, decide_eq_true_eq]
    have t := thue hs ((R.drop k).take (2 * st + 1)) (by rw [List.length_take, List.length_drop]; omega)
    rw [List.take_take, List.drop_take, List.drop_drop, show min (st + 1) (2 * st + 1) = st + 1 by omega, show 2 * st + 1 - st = st + 1 by omega] at t
    refine t ?_
    have g1 := gaps_pcs R st k
    have g2 := gaps_pcs R st (k + st)
    rw [← hg, e1] at g1
    rw [← hg, e2] at g2
    exact g1.symm.trans g2
  · rintro ⟨j, hj, h, e⟩
    rw [ov_at b0 b1 b2 b3 b4 b5 b6 b7 hs hj, hR, decide_eq_true_eq] at h
    refine ⟨j, by omega, ?_⟩
    rw [two j, e, ← e, hg, gaps_pcs, gaps_pcs, h]
/-- a piece as data -/
def pdat (ps : List Nat) : Dat := .list (ps.map fun g => Dat.str (letS g))
theorem letS_inj {a b : Nat} (h : letS a = letS b) : a = b := by
  have e : (#[97 + a] : Array Nat) = #[97 + b] := congrArg Str.cps h
  have e2 : 97 + a = 97 + b := by simpa using e
  omega
theorem pdat_inj {a b : List Nat} (h : pdat a = pdat b) : a = b := by
  unfold pdat at h
  injection h with h
  exact List.map_inj_right (fun x y e => by injection e with e; exact letS_inj e) |>.mp h
/-- the overlaps' places -/
def ovL (b0 b1 b2 b3 b4 b5 b6 b7 : Bool) (st : Nat) : List Nat := (List.range (8 - 2 * st)).filter (ovI (rowI b0 b1 b2 b3 b4 b5 b6 b7) st)
open Classical in
theorem in_found (b0 b1 b2 b3 b4 b5 b6 b7 : Bool) {st i : Nat} (hs : 1 ≤ st ∧ st ≤ 3) (hi : i < 8 - 2 * st) :
    decide (pdat (pcs (gpl b0 b1 b2 b3 b4 b5 b6 b7) st i) ∈ (ovL b0 b1 b2 b3 b4 b5 b6 b7 st).map fun j => pdat (pcs (gpl b0 b1 b2 b3 b4 b5 b6 b7) st j)) =
      sqB (gpl b0 b1 b2 b3 b4 b5 b6 b7) (pcs (gpl b0 b1 b2 b3 b4 b5 b6 b7) st i ++ pcs (gpl b0 b1 b2 b3 b4 b5 b6 b7) st i) := by
  rw [sq_at b0 b1 b2 b3 b4 b5 b6 b7 hs hi, Bool.eq_iff_iff, decide_eq_true_eq, List.any_eq_true, List.mem_map]
  unfold ovL
  constructor
  · rintro ⟨j, hj, e⟩
    obtain ⟨h1, h2⟩ := List.mem_filter.mp hj
    exact ⟨j, h1, by rw [h2, decide_eq_true (pdat_inj e)]; rfl⟩
  · rintro ⟨j, hj, e⟩
    obtain ⟨h1, h2⟩ := Bool.and_eq_true_iff.mp e
    exact ⟨j, List.mem_filter.mpr ⟨hj, h1⟩, by rw [of_decide_eq_true h2]⟩
/-- what domain_match tells -/
theorem dm_eq {gs ps : List Nat} (hg : ∀ g ∈ gs, g ≤ 2) (hp : ∀ g ∈ ps, g ≤ 2) (h : ps ≠ []) : dmB (nameU gs) (needle ps) = sqB gs ps := by
  unfold dmB
  rw [lower_name hg, lower_needle hp]
  exact rfind_name gs ps h
theorem dm_start {ps : List Nat} (hp : ∀ g ∈ ps, g ≤ 2) (h : ps ≠ []) : Txt.startswith (Txt.lower (needle ps)) (Str.ofString ".") = true := by
  rw [lower_needle hp, show Str.ofString "." = ⟨#[46]⟩ by decide +kernel]
  obtain ⟨p, r, rfl⟩ := List.exists_cons_of_ne_nil h
  have hat := (at_list (lab (p :: r)) [46] 0).mpr ⟨by rw [lab_len, List.length_cons]; simp only [List.length_cons, List.length_nil]; omega, by rw [lab_cons]; rfl⟩
  unfold Txt.startswith
  rw [Bool.and_eq_true, decide_eq_true_eq]
  exact hat
theorem dm_ne {gs ps : List Nat} (hg : ∀ g ∈ gs, g ≤ 2) (hp : ∀ g ∈ ps, g ≤ 2) (h : ps ≠ []) : (Txt.lower (nameU gs) == Txt.lower (needle ps)) = false := by
  rw [lower_name hg, lower_needle hp, beq_eq_false_iff_ne]
  obtain ⟨p, r, rfl⟩ := List.exists_cons_of_ne_nil h
  intro e
  have e2 : (nameL gs).toArray = (lab (p :: r)).toArray := congrArg Str.cps e
  have e3 : nameL gs = lab (p :: r) := by simpa using e2
  rw [lab_cons] at e3
  have e4 : nameL gs = 120 :: lab gs := rfl
  rw [e4] at e3
  injection e3 with e3 _
  exact absurd e3 (by decide)
theorem needle_tail (p : Nat) (r : List Nat) : Txt.slice (needle (p :: r)) (some 1) none = ⟨((97 + p) :: lab r).toArray⟩ := by
  have hl : (lab (p :: r)).length = 2 * r.length + 2 := by rw [lab_len, List.length_cons]; omega
  have e := slice_cut (lab (p :: r)) 1 (lab (p :: r)).length (by omega) (Nat.le_refl _)
  have e2 : Txt.slice (needle (p :: r)) (some 1) none = Txt.slice (needle (p :: r)) (some ((1 : Nat) : Int)) (some (((lab (p :: r)).length : Nat) : Int)) := by
    unfold Txt.slice
    have hlen : (needle (p :: r)).length = (lab (p :: r)).length := by show (lab (p :: r)).toArray.size = _; rw [List.size_toArray]
    have e3 : strSliceIndices (some 1) none 1 (needle (p :: r)).length = strSliceIndices (some ((1 : Nat) : Int)) (some (((lab (p :: r)).length : Nat) : Int)) 1 (needle (p :: r)).length := by
      rw [hlen]
      unfold strSliceIndices
      simp only [show (1 : Int) > 0 from by decide, if_true]
      congr 1
      omega
    rw [e3]
  rw [e2]
  unfold needle
  rw [e, lab_cons]
  congr 2
  rw [List.drop_succ_cons, List.drop_zero]
  exact List.take_of_length_le (by simp only [List.length_cons]; omega)
theorem last_lab : ∀ (r : List Nat) (p : Nat), ((97 + p) :: lab r).getLast (List.cons_ne_nil _ _) ≥ 97
  | [], p => by show 97 + p ≥ 97; omega
  | q :: r, p => by
    have ih := last_lab r q
    have e : ((97 + p) :: lab (q :: r)).getLast (List.cons_ne_nil _ _) = ((97 + q) :: lab r).getLast (List.cons_ne_nil _ _) := by
      simp only [lab_cons, List.getLast_cons_cons]
    rw [e]
    exact ih
theorem hdn_needle {p q : Nat} {r : List Nat} (hp : ∀ g ∈ p :: q :: r, g ≤ 2) (hr : r.length ≤ 100) : Hdn (Txt.slice (Txt.lower (needle (p :: q :: r))) (some 1) none) := by
  rw [lower_needle hp, needle_tail]
  have hm : ∀ c ∈ (97 + p) :: lab (q :: r), c ∈ [46, 97, 98, 99] := fun c h => lab_mem hp c (by rw [lab_cons]; exact .tail _ h)
  have hl : ((97 + p) :: lab (q :: r)).length = 2 * r.length + 3 := by rw [List.length_cons, lab_len, List.length_cons]; omega
  exact {
    d0 := fun i => by
      refine no_digit _ ?_
      show (((97 + p) :: lab (q :: r)).toArray).getD i 0 ∈ _
      rw [Array.getD_eq_getD_getElem?, List.getElem?_toArray]
      cases h : ((97 + p) :: lab (q :: r))[i]? with
      | none => decide
      | some c =>
        exact sub6 c (hm c (List.mem_of_getElem? h))
    sz := by show 2 ≤ (((97 + p) :: lab (q :: r)).toArray).size; rw [List.size_toArray, hl]; omega
    sm := by
      show (((97 + p) :: lab (q :: r)).toArray).size ≤ _
      rw [List.size_toArray, hl]
      have : 203 ≤ 2 ^ 24 := by decide
      omega
    i0 := by
      have e := item_at ((97 + p) :: lab (q :: r)) 0 (97 + p) rfl
      show (Txt.item ⟨((97 + p) :: lab (q :: r)).toArray⟩ ((0 : Nat) : Int) == _) = false
      rw [e, beq_eq_false_iff_ne]
      intro x
      have x2 : (#[97 + p] : Array Nat) = #[46] := (congrArg Str.cps x).trans (by decide +kernel)
      have x3 : 97 + p = 46 := by simpa using x2
      omega
    i1 := by
      rw [item_last _ (List.cons_ne_nil _ _), beq_eq_false_iff_ne]
      intro x
      have h := last_lab (q :: r) p
      have x2 : (#[((97 + p) :: lab (q :: r)).getLast (List.cons_ne_nil _ _)] : Array Nat) = #[46] := (congrArg Str.cps x).trans (by decide +kernel)
      have x3 : ((97 + p) :: lab (q :: r)).getLast (List.cons_ne_nil _ _) = 46 := by simpa using x2
      omega
    ne := by
      rw [beq_eq_false_iff_ne]
      intro x
      have x2 := congrArg Str.length x
      have h1 : (⟨((97 + p) :: lab (q :: r)).toArray⟩ : Str).length = 2 * r.length + 3 := by show (((97 + p) :: lab (q :: r)).toArray).size = _; rw [List.size_toArray, hl]
      have h2 : (Str.ofString "").length = 0 := by decide +kernel
      omega }
end Mine
end
section
open PySem PySem.Spec PySem.Calls PySem.W PyProof.Rows PyProof.Rows.LCg
set_option linter.unusedVariables false
set_option maxRecDepth 100000
namespace Mine
/-- the law from its statement 15 on -/
def Cut4 (w : World) : Prop := ∀ (body : List Stmt) (scope : Scope) (loose : List Str) (mean : ExcName → Option Value) (mg mb : Str → Option Value) (G : Heap) (L1 : Addr) (s : Shared) (Q : Flow → Shared → Prop) (E : Value → Shared → Prop) (h : Heap) (tk : Nat) (m0 : Str → Option Value)
    (M C : UInt8) (f : Nat) (b0 b1 b2 b3 b4 b5 b6 b7 : Bool) (t0 t1 t2 t3 t4 t5 t6 t7 tf tm to tt tn : Tok) (D3 Dg D2 : Addr) (us : List Value) (ys : List Value) (oa ob oP oR : Obj) (va vP : Option Value) (v1 v2 v3 v4 v5 : Option Value) (ps qs : Array Value),
  LawBody w body scope → LawC w loose mean mg mb G L1 → LawR G s Q → 1 ≤ f → f ≤ 9 → C.toNat = 48 + f → M.toNat ≠ 41 → M.toNat < 127 → C.toNat ≠ M.toNat →
  Fr G L1 h (fun y => if y = Str.ofString "name" then some (.str (nameS (gpl b0 b1 b2 b3 b4 b5 b6 b7)) tn) else if y = Str.ofString "gaps" then some (.ref Dg) else if y = Str.ofString "lifted" then v1 else if y = Str.ofString "rest" then v2 else if y = Str.ofString "quotient" then v3 else if y = Str.ofString "lean" then v4 else if y = Str.ofString "turned" then some (.bytes (octL M C (!b0) (!b1) (!b2) (!b3) (!b4) (!b5) (!b6) (!b7)).toArray tt) else if y = Str.ofString "octets" then some (.bytes (octL M C b0 b1 b2 b3 b4 b5 b6 b7).toArray to) else if y = Str.ofString "bits" then v5 else if y = Str.ofString "figure" then some (.int (f : Int) tf) else if y = Str.ofString "mark" then some (.str ⟨#[M.toNat]⟩ tm) else m0 y) →
  News G L1 h [(D3, lst us), (Dg, lst ys), (D2, rowO b0 b1 b2 b3 b4 b5 b6 b7 t0 t1 t2 t3 t4 t5 t6 t7), (L1 + 1 + 1 + 1 + 1, oa), (L1 + 1 + 1 + 1, ob), (L1 + 1 + 1, oP), (L1 + 1, oR), (73, tabObj ps), (66, tabObj qs)] →
  oa.data = .cell va → ob.data = .cell (some (.ref D3)) → oP.data = .cell vP → oR.data = .cell (some (.ref D2)) →
  ((@Ne Nat (L1 + 1 + 1 + 1 + 1) D2) ∧ (@Ne Nat (L1 + 1 + 1 + 1) D2) ∧ (@Ne Nat (L1 + 1 + 1) D2) ∧ (@Ne Nat (L1 + 1) D2) ∧ (@Ne Nat 73 D2) ∧ (@Ne Nat 66 D2)) → ((@Ne Nat D2 Dg) ∧ (@Ne Nat (L1 + 1 + 1 + 1 + 1) Dg) ∧ (@Ne Nat (L1 + 1 + 1 + 1) Dg) ∧ (@Ne Nat (L1 + 1 + 1) Dg) ∧ (@Ne Nat (L1 + 1) Dg) ∧ (@Ne Nat 73 Dg) ∧ (@Ne Nat 66 Dg)) → IntsAre ys (natsI (gpl b0 b1 b2 b3 b4 b5 b6 b7)) → ((@Ne Nat Dg D3) ∧ (@Ne Nat D2 D3) ∧ (@Ne Nat (L1 + 1 + 1 + 1 + 1) D3) ∧ (@Ne Nat (L1 + 1 + 1 + 1) D3) ∧ (@Ne Nat (L1 + 1 + 1) D3) ∧ (@Ne Nat (L1 + 1) D3) ∧ (@Ne Nat 73 D3) ∧ (@Ne Nat 66 D3)) → StrsAre us ((gpl b0 b1 b2 b3 b4 b5 b6 b7).map letS) →
  wpC (model theProg w) (callerA.deeper (lawE scope L1)) (execs (body.drop 15) (lawE scope L1)) Q E { s with heap := h, toks := tk }
theorem use_cut4 {w : World} (hcut : Cut4 w) {body rest : List Stmt} {scope : Scope} (hB : LawBody w body scope) (hrest : rest = body.drop 15) {loose : List Str} {mean : ExcName → Option Value} {mg mb : Str → Option Value} {G : Heap} {L1 : Addr} {s : Shared} {Q : Flow → Shared → Prop} {E : Value → Shared → Prop} {h : Heap} {tk : Nat} {m0 : Str → Option Value}
    {M C : UInt8} {f : Nat} {b0 b1 b2 b3 b4 b5 b6 b7 : Bool} {t0 t1 t2 t3 t4 t5 t6 t7 tf tm to tt tn : Tok} {D3 Dg D2 : Addr} {us : List Value} {ys : List Value} {oa ob oP oR : Obj} {va vP v1 v2 v3 v4 v5 : Option Value} {ps qs : Array Value}
    (hC : LawC w loose mean mg mb G L1) (hR : LawR G s Q) (h1 : 1 ≤ f) (h2 : f ≤ 9) (h5 : C.toNat = 48 + f) (h6 : M.toNat ≠ 41) (h7 : M.toNat < 127) (h8 : C.toNat ≠ M.toNat)
    (F : Fr G L1 h (fun y => if y = Str.ofString "name" then some (.str (nameS (gpl b0 b1 b2 b3 b4 b5 b6 b7)) tn) else if y = Str.ofString "gaps" then some (.ref Dg) else if y = Str.ofString "lifted" then v1 else if y = Str.ofString "rest" then v2 else if y = Str.ofString "quotient" then v3 else if y = Str.ofString "lean" then v4 else if y = Str.ofString "turned" then some (.bytes (octL M C (!b0) (!b1) (!b2) (!b3) (!b4) (!b5) (!b6) (!b7)).toArray tt) else if y = Str.ofString "octets" then some (.bytes (octL M C b0 b1 b2 b3 b4 b5 b6 b7).toArray to) else if y = Str.ofString "bits" then v5 else if y = Str.ofString "figure" then some (.int (f : Int) tf) else if y = Str.ofString "mark" then some (.str ⟨#[M.toNat]⟩ tm) else m0 y))
    (N : News G L1 h [(D3, lst us), (Dg, lst ys), (D2, rowO b0 b1 b2 b3 b4 b5 b6 b7 t0 t1 t2 t3 t4 t5 t6 t7), (L1 + 1 + 1 + 1 + 1, oa), (L1 + 1 + 1 + 1, ob), (L1 + 1 + 1, oP), (L1 + 1, oR), (73, tabObj ps), (66, tabObj qs)])
    (da : oa.data = .cell va) (db : ob.data = .cell (some (.ref D3))) (dP : oP.data = .cell vP) (dR : oR.data = .cell (some (.ref D2)))
    (hn : (@Ne Nat (L1 + 1 + 1 + 1 + 1) D2) ∧ (@Ne Nat (L1 + 1 + 1 + 1) D2) ∧ (@Ne Nat (L1 + 1 + 1) D2) ∧ (@Ne Nat (L1 + 1) D2) ∧ (@Ne Nat 73 D2) ∧ (@Ne Nat 66 D2)) (hg : ((@Ne Nat D2 Dg) ∧ (@Ne Nat (L1 + 1 + 1 + 1 + 1) Dg) ∧ (@Ne Nat (L1 + 1 + 1 + 1) Dg) ∧ (@Ne Nat (L1 + 1 + 1) Dg) ∧ (@Ne Nat (L1 + 1) Dg) ∧ (@Ne Nat 73 Dg) ∧ (@Ne Nat 66 Dg))) (hy : IntsAre ys (natsI (gpl b0 b1 b2 b3 b4 b5 b6 b7))) (hd : ((@Ne Nat Dg D3) ∧ (@Ne Nat D2 D3) ∧ (@Ne Nat (L1 + 1 + 1 + 1 + 1) D3) ∧ (@Ne Nat (L1 + 1 + 1 + 1) D3) ∧ (@Ne Nat (L1 + 1 + 1) D3) ∧ (@Ne Nat (L1 + 1) D3) ∧ (@Ne Nat 73 D3) ∧ (@Ne Nat 66 D3))) (hu : StrsAre us ((gpl b0 b1 b2 b3 b4 b5 b6 b7).map letS)) :
    wpC (model theProg w) (callerA.deeper (lawE scope L1)) (execs rest (lawE scope L1)) Q E { s with heap := h, toks := tk } := by
  subst hrest
  exact hcut body scope loose mean mg mb G L1 s Q E h tk m0 M C f b0 b1 b2 b3 b4 b5 b6 b7 t0 t1 t2 t3 t4 t5 t6 t7 tf tm to tt tn D3 Dg D2 us ys oa ob oP oR va vP v1 v2 v3 v4 v5 ps qs hB hC hR h1 h2 h5 h6 h7 h8 F N da db dP dR hn hg hy hd hu
/-- the law from its statement 17 on -/
def Cut5 (w : World) : Prop := ∀ (body : List Stmt) (scope : Scope) (loose : List Str) (mean : ExcName → Option Value) (mg mb : Str → Option Value) (G : Heap) (L1 : Addr) (s : Shared) (Q : Flow → Shared → Prop) (E : Value → Shared → Prop) (h : Heap) (tk : Nat) (m : Str → Option Value)
    (b0 b1 b2 b3 b4 b5 b6 b7 : Bool) (t0 t1 t2 t3 t4 t5 t6 t7 tn : Tok) (D3 D2 : Addr) (us : List Value) (oa ob oP oR : Obj) (va vP : Option Value) (ps qs : Array Value),
  LawBody w body scope → LawC w loose mean mg mb G L1 → LawR G s Q →
  Fr G L1 h m → m (Str.ofString "name") = some (.str (nameS (gpl b0 b1 b2 b3 b4 b5 b6 b7)) tn) →
  News G L1 h [(D3, lst us), (D2, rowO b0 b1 b2 b3 b4 b5 b6 b7 t0 t1 t2 t3 t4 t5 t6 t7), (L1 + 1 + 1 + 1 + 1, oa), (L1 + 1 + 1 + 1, ob), (L1 + 1 + 1, oP), (L1 + 1, oR), (73, tabObj ps), (66, tabObj qs)] →
  oa.data = .cell va → ob.data = .cell (some (.ref D3)) → oP.data = .cell vP → oR.data = .cell (some (.ref D2)) →
  ((@Ne Nat (L1 + 1 + 1 + 1 + 1) D2) ∧ (@Ne Nat (L1 + 1 + 1 + 1) D2) ∧ (@Ne Nat (L1 + 1 + 1) D2) ∧ (@Ne Nat (L1 + 1) D2) ∧ (@Ne Nat 73 D2) ∧ (@Ne Nat 66 D2)) →
  ((@Ne Nat D2 D3) ∧ (@Ne Nat (L1 + 1 + 1 + 1 + 1) D3) ∧ (@Ne Nat (L1 + 1 + 1 + 1) D3) ∧ (@Ne Nat (L1 + 1 + 1) D3) ∧ (@Ne Nat (L1 + 1) D3) ∧ (@Ne Nat 73 D3) ∧ (@Ne Nat 66 D3)) →
  StrsAre us ((gpl b0 b1 b2 b3 b4 b5 b6 b7).map letS) →
  wpC (model theProg w) (callerA.deeper (lawE scope L1)) (execs (body.drop 17) (lawE scope L1)) Q E { s with heap := h, toks := tk }
theorem use_cut5 {w : World} (hcut : Cut5 w) {body rest : List Stmt} {scope : Scope} (hB : LawBody w body scope) (hrest : rest = body.drop 17) {loose : List Str} {mean : ExcName → Option Value} {mg mb : Str → Option Value} {G : Heap} {L1 : Addr} {s : Shared} {Q : Flow → Shared → Prop} {E : Value → Shared → Prop} {h : Heap} {tk : Nat} {m : Str → Option Value}
    {b0 b1 b2 b3 b4 b5 b6 b7 : Bool} {t0 t1 t2 t3 t4 t5 t6 t7 tn : Tok} {D3 D2 : Addr} {us : List Value} {oa ob oP oR : Obj} {va vP : Option Value} {ps qs : Array Value}
    (hC : LawC w loose mean mg mb G L1) (hR : LawR G s Q) (F : Fr G L1 h m) (hm : m (Str.ofString "name") = some (.str (nameS (gpl b0 b1 b2 b3 b4 b5 b6 b7)) tn))
    (N : News G L1 h [(D3, lst us), (D2, rowO b0 b1 b2 b3 b4 b5 b6 b7 t0 t1 t2 t3 t4 t5 t6 t7), (L1 + 1 + 1 + 1 + 1, oa), (L1 + 1 + 1 + 1, ob), (L1 + 1 + 1, oP), (L1 + 1, oR), (73, tabObj ps), (66, tabObj qs)])
    (da : oa.data = .cell va) (db : ob.data = .cell (some (.ref D3))) (dP : oP.data = .cell vP) (dR : oR.data = .cell (some (.ref D2)))
    (hn : (@Ne Nat (L1 + 1 + 1 + 1 + 1) D2) ∧ (@Ne Nat (L1 + 1 + 1 + 1) D2) ∧ (@Ne Nat (L1 + 1 + 1) D2) ∧ (@Ne Nat (L1 + 1) D2) ∧ (@Ne Nat 73 D2) ∧ (@Ne Nat 66 D2))
    (hd : (@Ne Nat D2 D3) ∧ (@Ne Nat (L1 + 1 + 1 + 1 + 1) D3) ∧ (@Ne Nat (L1 + 1 + 1 + 1) D3) ∧ (@Ne Nat (L1 + 1 + 1) D3) ∧ (@Ne Nat (L1 + 1) D3) ∧ (@Ne Nat 73 D3) ∧ (@Ne Nat 66 D3))
    (hu : StrsAre us ((gpl b0 b1 b2 b3 b4 b5 b6 b7).map letS)) :
    wpC (model theProg w) (callerA.deeper (lawE scope L1)) (execs rest (lawE scope L1)) Q E { s with heap := h, toks := tk } := by
  subst hrest
  exact hcut body scope loose mean mg mb G L1 s Q E h tk m b0 b1 b2 b3 b4 b5 b6 b7 t0 t1 t2 t3 t4 t5 t6 t7 tn D3 D2 us oa ob oP oR va vP ps qs hB hC hR F hm N da db dP dR hn hd hu
end Mine
end
section
open PySem PySem.Spec PySem.Calls PySem.W PyProof.Rows PyProof.Rows.LCg PyProof.Rows.LCt
set_option maxRecDepth 100000
set_option maxHeartbeats 2000000
set_option linter.unusedVariables false
namespace Mine
/-- the letters of the gaps -/
def letR (g : Nat) : Str := ⟨#[99 - g]⟩
theorem gpl_le : ∀ b0 b1 b2 b3 b4 b5 b6 b7 : Bool, ∀ g ∈ gpl b0 b1 b2 b3 b4 b5 b6 b7, g ≤ 2 := by decide +kernel
theorem gap_at {b0 b1 b2 b3 b4 b5 b6 b7 : Bool} {ys : List Value} {i : Nat} {v : Value} (hy : IntsAre ys (natsI (gpl b0 b1 b2 b3 b4 b5 b6 b7))) (h : ys.toArray[i]? = some v) :
    ∃ (g : Nat) (t : Tok), v = .int (g : Int) t ∧ g ≤ 2 ∧ (gpl b0 b1 b2 b3 b4 b5 b6 b7)[i]? = some g := by
  rw [List.getElem?_toArray] at h
  obtain ⟨n, t, rfl, e⟩ := ints_at hy h
  rw [List.getElem?_map] at e
  cases hg : (gpl b0 b1 b2 b3 b4 b5 b6 b7)[i]? with
  | none => rw [hg] at e; cases e
  | some g =>
    rw [hg] at e
    cases e
    exact ⟨g, t, rfl, gpl_le b0 b1 b2 b3 b4 b5 b6 b7 g (List.mem_of_getElem? hg), rfl⟩
local macro_rules | `(tactic| walk_at "CompSrc") => `(tactic| ((with_reducible show CompSrc _ _ _ _ _ _ _ (Expr.Subscript (Expr.Constant _ _ _) _ _) _ _ _ _ _ _); refine Stop.intro ?_))
local macro_rules | `(tactic| k_ne) => `(tactic| (refine neN ?_; exact Ne.symm (by assumption)))
theorem law_e (w : World) (hcut : Cut4 w) : Cut3b w := by
  w_top off
  delta Cut3b theProg
  intro body scope loose mean mg mb G L1 s Q E h tk m0 M C f b0 b1 b2 b3 b4 b5 b6 b7 t0 t1 t2 t3 t4 t5 t6 t7 tf tm to tt Dg D2 ys oa ob oP oR va vb vP v1 v2 v3 v4 v5 ps qs hB hC hR h1 h2 h5 h6 h7 h8 F N da db dP dR hn hg hy
  obtain ⟨oc, od, name, params, dV, kV, doc, pm, an, ct, osl, hB⟩ := hB
  obtain ⟨X1, T1, BG, hc73, hc66, l73, l66⟩ := hC
  revert X1
  k_fill
  intro X1
  refine' with_body hB ?zxk ?_
  (case zxk => k_is)
  clear hB
  dsimp only [List.drop]
  obtain ⟨n1, n2, n3, n4, n5, n6⟩ := hn
  obtain ⟨p0, p1, p2, p3, p4, p5, p6⟩ := hg
  refine wpC_execs_at 1 ?_
  dsimp only [List.take, List.drop]
  k_steps
  unfold Stop
  have hyl : ys.length = 7 := by rw [hy.length]; rfl
  refine CompSrc.ledger (ax := Dg) (k := ys.length) (its := ys.toArray) rfl F N (.head _) (by rw [List.size_toArray, hyl]; decide +kernel) fun g' => ?_
  rw [List.size_toArray, hyl]
  refine comp_loop (n := 7) (fun i us ns => StrsAre us (((gpl b0 b1 b2 b3 b4 b5 b6 b7).take i).map letS) ∧ ns = [(Dg, lst ys), (D2, rowO b0 b1 b2 b3 b4 b5 b6 b7 t0 t1 t2 t3 t4 t5 t6 t7), (L1 + 1 + 1 + 1 + 1, oa), (L1 + 1 + 1 + 1, ob), (L1 + 1 + 1, oP), (L1 + 1, oR), (73, tabObj ps), (66, tabObj qs)]) ?zpend ?zpstep 7 0 [] _ rfl ?zph0
  case zph0 => exact ⟨.nil, rfl⟩
  case zpstep =>
    rintro i us ns hi ⟨hu, rfl⟩ v I oI Cc oC D m₂ s E' hv hC hx F N off ne
    obtain ⟨g, tg, rfl, hg2, hgi⟩ := gap_at hy hv
    have hgc : g = 0 ∨ g = 1 ∨ g = 2 := by omega
    have hT : ((gpl b0 b1 b2 b3 b4 b5 b6 b7).take (i + 1)).map letS = ((gpl b0 b1 b2 b3 b4 b5 b6 b7).take i).map letS ++ [letS g] := by
      rw [List.take_add_one, hgi, List.map_append]
      rfl
    rcases hgc with rfl | rfl | rfl
    all_goals k_steps
    all_goals refine CompEnd.intro F N _ (fun q hq => hq) off (.inr ⟨_, .head _, rfl, _, rfl⟩) ⟨?_, rfl⟩
    all_goals rw [hT]
    · rw [show letS 0 = Str.ofString "a" from by decide +kernel]
      exact StrsAre.append' hu (.cons _ _ .nil)
    · rw [show letS 1 = Str.ofString "b" from by decide +kernel]
      exact StrsAre.append' hu (.cons _ _ .nil)
    · rw [show letS 2 = Str.ofString "c" from by decide +kernel]
      exact StrsAre.append' hu (.cons _ _ .nil)
  case zpend =>
    rintro us ns ⟨hu, rfl⟩
    k_steps
    dsimp only
    rename_i D3 h3 tk3 l3 h4 ob' F4 N4 db'
    have hu7 : StrsAre us ((gpl b0 b1 b2 b3 b4 b5 b6 b7).map letS) := hu
    clear hu
    refine wpC_execs_cons (wpC_Assign_Name (wpC_Call_Name ?_))
    k_steps
    refine wpC_callWith_K (K := hdC.heap_39 w.params) (by k_is) ?_
    k_steps
    refine' c_read w _ M C f b0 b1 b2 b3 b4 b5 b6 b7 _ _ _ h8 h6 ?zqC h1 h2 h5 _ _ _ _ _ _ _ _ _ _ _ _ _ _ _ _ _ _ _ ?zqB ?zqF ?zqX ?zqN ?zqT ?zqk ?zqd ?zqu ?_
    (case zqC => omega)
    (case zqB => exact BG)
    (case zqF => k_asm)
    (case zqX => exact X1)
    (case zqN => k_asm)
    (case zqT => exact T1)
    (case zqk => rfl)
    (case zqd => decide)
    (case zqu => decide)
    intro tn h5' tk5 F5 N5
    k_steps
    dsimp only
    refine' use_cut4 hcut ?zrB ?zrr ⟨X1, T1, BG, hc73, hc66, l73, l66⟩ hR h1 h2 h5 h6 h7 h8 ?zrF ?zrN da db' dP dR ⟨n1, n2, n3, n4, n5, n6⟩ ⟨p0, p1, p2, p3, p4, p5, p6⟩ hy l3 hu7
    (case zrB => exact ⟨_, _, _, _, _, _, _, _, _, _, _, by k_is⟩)
    (case zrr => exact rfl)
    (case zrF => k_asm)
    (case zrN => k_asm)
end Mine
end
section
open PySem PySem.Spec PySem.Calls PySem.W PyProof.Rows PyProof.Rows.LCg PyProof.Rows.LCt
set_option maxRecDepth 100000
set_option maxHeartbeats 2000000
set_option linter.unusedVariables false
namespace Mine
theorem gp_not (a b : Bool) : gp (!a) (!b) = 2 - gp a b := by cases a <;> cases b <;> rfl
theorem gpl_not (b0 b1 b2 b3 b4 b5 b6 b7 : Bool) : gpl (!b0) (!b1) (!b2) (!b3) (!b4) (!b5) (!b6) (!b7) = (gpl b0 b1 b2 b3 b4 b5 b6 b7).map (2 - ·) := by
  simp only [gpl, gp_not, List.map_cons, List.map_nil]
theorem letR_S {g : Nat} (h : g ≤ 2) : letR g = letS (2 - g) := by
  match g, h with
  | 0, _ => rfl
  | 1, _ => rfl
  | 2, _ => rfl
theorem sum_len : ∀ gs : List Nat, ((Str.ofString "x" :: gs.map letS).map (·.length)).sum + (Str.ofString "x" :: gs.map letS).length = 2 * gs.length + 2
  | [] => by decide +kernel
  | g :: r => by
    have ih := sum_len r
    simp only [List.map_cons, List.sum_cons, List.length_cons] at ih ⊢
    have : (letS g).length = 1 := rfl
    omega
theorem strs_one {s : Str} {t : Tok} {us : List Value} {ws : List Str} (h : StrsAre us ws) : StrsAre (([.str s t] : List Value) ++ us) (s :: ws) := .cons _ _ h
theorem ne_self {x y : Str} (h : x = y) : (x != y) = false := by rw [h]; exact bne_self_eq_false _
theorem eq_str_v {prog : Program} {w : World} {A : Around} {E : Value → Shared → Prop} {s : Shared} {x y : Str} {t u : Tok} {Q : Value → Shared → Prop} (e : x = y) (h : Q (.bool false) s) : wpAny (model prog w) A (compareOp .NotEq (.str x t) (.str y u)) Q E s :=
  PyProof.Rows.ne_str (by rw [ne_self e]; exact h)
local macro_rules | `(tactic| walk_at "eval ListComp") => `(tactic| (k_here; (with_reducible show wpAny _ _ (eval (Expr.ListComp _ _ _ _) _) _ _ _); refine Stop.intro ?_))
local macro_rules | `(tactic| walk_at "CompSrc") => `(tactic| ((with_reducible show CompSrc _ _ _ _ _ _ _ (Expr.Subscript (Expr.Constant _ _ _) _ _) _ _ _ _ _ _); refine Stop.intro ?_))
local macro_rules | `(tactic| walk_at "binaryOp Add ref ref") => `(tactic| (k_here; (with_reducible show wpAny _ _ (binaryOp _ (Value.ref _) (Value.ref _)) _ _ _); refine Stop.intro ?_))
local macro_rules | `(tactic| walk_at "call builtin:str.join") => `(tactic| (k_here; (with_reducible show wpAny _ _ (call _ _) _ _ _); refine Stop.intro ?_))
local macro_rules | `(tactic| walk_at "compareOp NotEq str str") => `(tactic| (k_here; (with_reducible show wpAny _ _ (compareOp _ _ _) _ _ _); refine Stop.intro ?_))
theorem law_f (w : World) (hcut : Cut5 w) : Cut4 w := by
  w_top off
  delta Cut4 theProg
  intro body scope loose mean mg mb G L1 s Q E h tk m0 M C f b0 b1 b2 b3 b4 b5 b6 b7 t0 t1 t2 t3 t4 t5 t6 t7 tf tm to tt tn D3 Dg D2 us ys oa ob oP oR va vP v1 v2 v3 v4 v5 ps qs hB hC hR h1 h2 h5 h6 h7 h8 F N da db dP dR hn hg hy hd hu
  obtain ⟨oc, od, name, params, dV, kV, doc, pm, an, ct, osl, hB⟩ := hB
  obtain ⟨X1, T1, BG, hc73, hc66, l73, l66⟩ := hC
  revert X1
  k_fill
  intro X1
  refine' with_body hB ?zxk ?_
  (case zxk => k_is)
  clear hB
  dsimp only [List.drop]
  obtain ⟨n1, n2, n3, n4, n5, n6⟩ := hn
  obtain ⟨p0, p1, p2, p3, p4, p5, p6⟩ := hg
  obtain ⟨q0, q1, q2, q3, q4, q5, q6, q7⟩ := hd
  have hul : us.length = 7 := by rw [StrsAre.length hu]; rfl
  have hyl : ys.length = 7 := by rw [hy.length]; rfl
  refine wpC_execs_at 1 ?_
  dsimp only [List.take, List.drop]
  k_steps
  unfold Stop
  refine' kmk_add_lit (its := #[.str (Str.ofString "x") _]) (its2 := us.toArray) ?zaF ?zaN ?zaa ?zab rfl ?_ ?zaz
  (case zaF => k_asm)
  (case zaN => k_asm)
  (case zaa => exact News.isList (by k_asm) (.head _))
  (case zab => exact News.isList (by k_asm) (.tail _ (.head _)))
  (case zaz => show 1 + us.length ≤ sizeLine; rw [hul]; decide +kernel)
  intro D5 h5' F5 N5 l5
  k_steps
  unfold Stop
  have hu1 := strs_one (s := Str.ofString "x") (t := 0) hu
  refine join_listW (ys := Str.ofString "x" :: (gpl b0 b1 b2 b3 b4 b5 b6 b7).map letS) (News.isList N5 (.head _)) (.cons _ _ hu) (by decide +kernel) ?zaw ?_
  (case zaw => rw [sum_len]; exact Nat.le_of_ble_eq_true rfl)
  intro t6' k6'
  rw [show Txt.join (Str.ofString ".") (Str.ofString "x" :: List.map letS (gpl b0 b1 b2 b3 b4 b5 b6 b7)) = nameS (gpl b0 b1 b2 b3 b4 b5 b6 b7) from join_name _ _]
  k_steps
  unfold Stop
  refine eq_str_v rfl ?_
  k_steps
  dsimp only
  have NA := PyProof.Rows.News.tail' (PyProof.Rows.News.tail' N5)
  clear N5 l5
  refine wpC_execs_cons (wpC_If (wpC_isTrue_Compare1 (wpC_Call_Name ?_)))
  k_steps
  refine wpC_callWith_K (K := hdC.heap_39 w.params) (by k_is) ?_
  k_steps
  refine' c_read w _ M C f (!b0) (!b1) (!b2) (!b3) (!b4) (!b5) (!b6) (!b7) _ _ _ h8 h6 ?zqC h1 h2 h5 _ _ _ _ _ _ _ _ _ _ _ _ _ _ _ _ _ _ _ ?zqB ?zqF ?zqX ?zqN ?zqT ?zqk ?zqd ?zqu ?_
  (case zqC => omega)
  (case zqB => exact BG)
  (case zqF => k_asm)
  (case zqX => exact X1)
  (case zqN => k_asm)
  (case zqT => exact T1)
  (case zqk => rfl)
  (case zqd => decide)
  (case zqu => decide)
  intro tn2 h6' tk6 F6 N6
  k_steps
  unfold Stop
  rename_i D6 h7' F7 N7 l7'
  (try k_lt l7')
  refine ListComp_U (h₀ := G) (L := L1) F7 (by with_unfolding_all rfl) (by decide) rfl (by decide) rfl ?_
  k_steps
  unfold Stop
  refine CompSrc.ledger (ax := Dg) (k := ys.length) (its := ys.toArray) rfl F7 N7 (.tail _ (.tail _ (.head _))) (by rw [List.size_toArray, hyl]; decide +kernel) fun g' => ?_
  rw [List.size_toArray, hyl]
  obtain ⟨tx, htx⟩ : ∃ tx, tk6 + 1 = tx := ⟨_, rfl⟩
  rw [htx] at N7
  refine comp_loop (n := 7) (fun i vs ns => StrsAre vs (((gpl b0 b1 b2 b3 b4 b5 b6 b7).take i).map letR) ∧ ns = [(D6, listOf #[.str (Str.ofString "x") tx] 0), (D3, lst us), (Dg, lst ys), (D2, rowO b0 b1 b2 b3 b4 b5 b6 b7 t0 t1 t2 t3 t4 t5 t6 t7), (L1 + 1 + 1 + 1 + 1, oa), (L1 + 1 + 1 + 1, ob), (L1 + 1 + 1, oP), (L1 + 1, oR), (73, tabObj ps), (66, tabObj qs)]) ?zpend ?zpstep 7 0 [] _ rfl ?zph0
  case zph0 => exact ⟨.nil, by rw [htx]⟩
  case zpstep =>
    rintro i vs ns hi ⟨hv7, rfl⟩ v I oI Cc oC D m₂ s E' hv hC hx F N off ne
    obtain ⟨g, tg, rfl, hg2, hgi⟩ := gap_at hy hv
    have hgc : g = 0 ∨ g = 1 ∨ g = 2 := by omega
    have hT : ((gpl b0 b1 b2 b3 b4 b5 b6 b7).take (i + 1)).map letR = ((gpl b0 b1 b2 b3 b4 b5 b6 b7).take i).map letR ++ [letR g] := by
      rw [List.take_add_one, hgi, List.map_append]
      rfl
    rcases hgc with rfl | rfl | rfl
    all_goals k_steps
    all_goals refine CompEnd.intro F N _ (fun q hq => hq) off (.inr ⟨_, .tail _ (.tail _ (.head _)), rfl, _, rfl⟩) ⟨?_, rfl⟩
    all_goals rw [hT]
    · rw [show letR 0 = Str.ofString "c" from by decide +kernel]
      exact StrsAre.append' hv7 (.cons _ _ .nil)
    · rw [show letR 1 = Str.ofString "b" from by decide +kernel]
      exact StrsAre.append' hv7 (.cons _ _ .nil)
    · rw [show letR 2 = Str.ofString "a" from by decide +kernel]
      exact StrsAre.append' hv7 (.cons _ _ .nil)
  case zpend =>
    rintro vs ns ⟨hv7', rfl⟩
    have hv7 : StrsAre vs ((gpl b0 b1 b2 b3 b4 b5 b6 b7).map letR) := hv7'
    clear hv7'
    have hvl : vs.length = 7 := by rw [StrsAre.length hv7]; rfl
    have hRS : (gpl b0 b1 b2 b3 b4 b5 b6 b7).map letR = (gpl (!b0) (!b1) (!b2) (!b3) (!b4) (!b5) (!b6) (!b7)).map letS := by
      rw [gpl_not, List.map_map]
      exact List.map_congr_left fun g hg => letR_S (gpl_le b0 b1 b2 b3 b4 b5 b6 b7 g hg)
    rw [hRS] at hv7
    k_steps
    unfold Stop
    refine' kmk_add_lit (its := #[.str (Str.ofString "x") tx]) (its2 := vs.toArray) ?zbF ?zbN ?zba ?zbb rfl ?_ ?zbz
    (case zbF => k_asm)
    (case zbN => k_asm)
    (case zba => exact News.isList (by k_asm) (.tail _ (.head _)))
    (case zbb => exact News.isList (by k_asm) (.head _))
    (case zbz => show 1 + vs.length ≤ sizeLine; rw [hvl]; decide +kernel)
    intro D8 h8' F8 N8 l8
    k_steps
    unfold Stop
    refine join_listW (ys := Str.ofString "x" :: (gpl (!b0) (!b1) (!b2) (!b3) (!b4) (!b5) (!b6) (!b7)).map letS) (News.isList N8 (.head _)) (.cons _ _ hv7) (by decide +kernel) ?zbw ?_
    (case zbw => rw [sum_len]; exact Nat.le_of_ble_eq_true rfl)
    intro t8' k8'
    rw [show Txt.join (Str.ofString ".") (Str.ofString "x" :: List.map letS (gpl (!b0) (!b1) (!b2) (!b3) (!b4) (!b5) (!b6) (!b7))) = nameS (gpl (!b0) (!b1) (!b2) (!b3) (!b4) (!b5) (!b6) (!b7)) from join_name _ _]
    k_steps
    unfold Stop
    refine eq_str_v rfl ?_
    k_steps
    dsimp only
    have NB := news_drop2 (PyProof.Rows.News.tail' (PyProof.Rows.News.tail' (PyProof.Rows.News.tail' N8)))
    refine' use_cut5 hcut ?zsB ?zsr ⟨X1, T1, BG, hc73, hc66, l73, l66⟩ hR ?zsF ?zsm NB da db dP dR ⟨n1, n2, n3, n4, n5, n6⟩ ⟨q1, q2, q3, q4, q5, q6, q7⟩ hu
    (case zsB => exact ⟨_, _, _, _, _, _, _, _, _, _, _, by k_is⟩)
    (case zsr => exact rfl)
    (case zsF => exact F8)
    (case zsm => exact if_pos rfl)
end Mine
end
section
open PySem PySem.Spec PySem.Calls PySem.W PyProof.Rows PyProof.Rows.LCg PyProof.Rows.LCt
set_option linter.unusedVariables false
set_option maxRecDepth 100000
namespace Mine
/-- a slice of a list in bounds -/
theorem pick_in (us : List Value) {i st : Nat} (h : i + st ≤ us.length) : (slicePick us.toArray (some (i : Int)) (some ((i : Int) + (st : Int))) none).toList = pcs us st i := by
  have e : sliceBounds (some (i : Int)) (some ((i : Int) + (st : Int))) none us.toArray.size = ((i : Int), ((i + st : Nat) : Int), 1) := by
    rw [List.size_toArray]
    simp only [sliceBounds, Option.getD_none, show (1 : Int) > 0 by decide, if_true, if_neg (show ¬ ((i : Int) < 0) by omega), if_neg (show ¬ ((i : Int) + (st : Int) < 0) by omega)]
    congr 1
    · omega
    · congr 1
      omega
  rw [kmk_pick_nat _ e]
  unfold pcs
  rw [show i + st - i = st by omega]
theorem strs_drop : ∀ {us : List Value} {ws : List Str} (k : Nat), StrsAre us ws → StrsAre (us.drop k) (ws.drop k)
  | _, _, 0, h => h
  | _, _, k + 1, .nil => .nil
  | _, _, k + 1, .cons _ _ r => strs_drop k r
theorem strs_take : ∀ {us : List Value} {ws : List Str} (k : Nat), StrsAre us ws → StrsAre (us.take k) (ws.take k)
  | _, _, 0, h => .nil
  | _, _, k + 1, .nil => .nil
  | _, _, k + 1, .cons y t r => .cons y t (strs_take k r)
theorem strs_pcs {us : List Value} {gs : List Nat} (h : StrsAre us (gs.map letS)) (st i : Nat) : StrsAre (pcs us st i) ((pcs gs st i).map letS) := by
  rw [← pcs_map]
  exact strs_take st (strs_drop i h)
theorem dat_strs {ns : List (Addr × Obj)} : ∀ {us : List Value} {gs : List Nat}, StrsAre us (gs.map letS) → DatAll ns us (gs.map fun g => Dat.str (letS g))
  | _, [], h => by
    cases h
    exact .nil
  | _, g :: gs, h => by
    rw [List.map_cons] at h
    cases h with
    | cons y t r => exact .cons (.str _ _) (dat_strs r)
theorem pdat_ok (ps : List Nat) (h : ∀ g ∈ ps, g ≤ 2) : kqdOk 8 (pdat ps) = true := by
  show (ps.map fun g => Dat.str (letS g)).all (kqdOk 7) = true
  rw [List.all_eq_true]
  intro d hd
  obtain ⟨g, hg, rfl⟩ := List.mem_map.mp hd
  have h2 := h g hg
  have : g = 0 ∨ g = 1 ∨ g = 2 := by omega
  rcases this with rfl | rfl | rfl <;> decide +kernel
theorem pcs_mem {gs : List Nat} (h : ∀ g ∈ gs, g ≤ 2) (st i : Nat) : ∀ g ∈ pcs gs st i, g ≤ 2 := fun g hg => h g (List.mem_of_mem_drop (List.mem_of_mem_take hg))
end Mine
end
section
open PySem PySem.Spec PySem.Calls PySem.W PyProof.Rows PyProof.Rows.LCg PyProof.Rows.LCt
set_option maxRecDepth 100000
set_option maxHeartbeats 2000000
set_option linter.unusedVariables false
namespace Mine
theorem mem_end3 {α : Type} (a b c : α) (l : List α) : ∀ p ∈ c :: l, p ∈ a :: b :: c :: l := fun p h => .tail _ (.tail _ h)
theorem two_of {α : Type} : ∀ l : List α, 2 ≤ l.length → ∃ p q r, l = p :: q :: r
  | p :: q :: r, _ => ⟨p, q, r, rfl⟩
  | [_], h => absurd h (show ¬ 2 ≤ 1 by decide)
  | [], h => absurd h (show ¬ 2 ≤ 0 by decide)
theorem sum_letS : ∀ gs : List Nat, ((gs.map letS).map (·.length)).sum = gs.length
  | [] => rfl
  | g :: r => by
    have ih := sum_letS r
    simp only [List.map_cons, List.sum_cons, List.length_cons]
    rw [ih]
    have : (letS g).length = 1 := rfl
    omega
theorem nameU_len (gs : List Nat) : (nameU gs).length = 2 * gs.length + 1 := by
  show ((nameL gs).map upN).toArray.size = _
  rw [List.size_toArray, List.length_map, nameL_len]
theorem needle_len (ps : List Nat) : (needle ps).length = 2 * ps.length := by
  show (lab ps).toArray.size = _
  rw [List.size_toArray, lab_len]
theorem off_swap {I : Addr} {a b c d e f g h : Addr} {oa ob oc oc' od oe of og oh : Obj} (off : ∀ q ∈ [(a, oa), (b, ob), (c, oc), (d, od), (e, oe), (f, of), (g, og), (h, oh)], q.1 ≠ I) : ∀ q ∈ [(a, oa), (b, ob), (c, oc'), (d, od), (e, oe), (f, of), (g, og), (h, oh)], q.1 ≠ I := by
  intro q hq
  simp only [List.mem_cons, List.not_mem_nil, or_false] at hq
  rcases hq with rfl | rfl | rfl | rfl | rfl | rfl | rfl | rfl
  · exact off _ (.head _)
  · exact off _ (.tail _ (.head _))
  · exact off (c, oc) (.tail _ (.tail _ (.head _)))
  · exact off _ (.tail _ (.tail _ (.tail _ (.head _))))
  · exact off _ (.tail _ (.tail _ (.tail _ (.tail _ (.head _)))))
  · exact off _ (.tail _ (.tail _ (.tail _ (.tail _ (.tail _ (.head _))))))
  · exact off _ (.tail _ (.tail _ (.tail _ (.tail _ (.tail _ (.tail _ (.head _)))))))
  · exact off _ (.tail _ (.tail _ (.tail _ (.tail _ (.tail _ (.tail _ (.tail _ (.head _))))))))
theorem mem_turn {α : Type} {p a b c x : α} {base pp : List α} (h : p ∈ a :: b :: c :: (base ++ (x :: pp))) : p ∈ x :: a :: b :: c :: (base ++ pp) := by
  simp only [List.mem_cons, List.mem_append] at h ⊢
  rcases h with h | h | h | h | h | h
  all_goals simp [h]
theorem mem_turn2 {α : Type} {p x : α} {base pp : List α} (h : p ∈ base ++ (x :: pp)) : p = x ∨ p ∈ base ++ pp := by
  simp only [List.mem_cons, List.mem_append] at h ⊢
  rcases h with h | h | h
  all_goals simp [h]
theorem dat_snoc {ns : List (Addr × Obj)} {v : Value} {d : Dat} : ∀ {vs : List Value} {ds : List Dat}, DatAll ns vs ds → DatIn ns v d → DatAll ns (vs ++ [v]) (ds ++ [d])
  | _, _, .nil, h => .cons h .nil
  | _, _, .cons a r, h => .cons a (dat_snoc r h)
/-- what holds between the turns of the comprehension -/
def FdInv (base : List (Addr × Obj)) (D9 : Addr) (ws9 us : List Value) (gs ov : List Nat) (st k : Nat) (vs : List Value) (ns : List (Addr × Obj)) : Prop :=
  ∃ pp, ns = base ++ pp ∧ DatAll pp vs ((ov.take k).map fun j => pdat (pcs gs st j))
abbrev baseL (D3 D2 L1 : Addr) (us : List Value) (b0 b1 b2 b3 b4 b5 b6 b7 : Bool) (t0 t1 t2 t3 t4 t5 t6 t7 : Tok) (oa ob oP oR : Obj) (ps qs : Array Value) : List (Addr × Obj) :=
  [(D3, lst us), (D2, rowO b0 b1 b2 b3 b4 b5 b6 b7 t0 t1 t2 t3 t4 t5 t6 t7), (L1 + 1 + 1 + 1 + 1, oa), (L1 + 1 + 1 + 1, ob), (L1 + 1 + 1, oP), (L1 + 1, oR), (73, tabObj ps), (66, tabObj qs)]
local macro_rules | `(tactic| k_ne) => `(tactic| (refine neN ?_; exact Ne.symm (by assumption)))
local macro_rules | `(tactic| walk_at "compareOp NotEq bool bool") => `(tactic| refine Stop.intro ?_)
local macro_rules | `(tactic| walk_at "eval Name") => `(tactic| (k_here; k_dflt (refine nameX_L (by k_asm) (by assumption) ?_ (by rfl) (by rfl) (by decide); k_whole)))
local macro_rules | `(tactic| walk_at "binaryOp Add ref ref") => `(tactic| (k_here; (with_reducible show wpAny _ _ (binaryOp _ (Value.ref _) (Value.ref _)) _ _ _); refine Stop.intro ?_))
local macro_rules | `(tactic| walk_at "binaryOp Add str str") => `(tactic| refine Stop.intro ?_)
local macro_rules | `(tactic| walk_at "call builtin:str.join") => `(tactic| refine Stop.intro ?_)
local macro_rules | `(tactic| walk_at "call builtin:str.upper") => `(tactic| refine Stop.intro ?_)
local macro_rules | `(tactic| walk_at "compareOp In ref ref") => `(tactic| refine Stop.intro ?_)
set_option hygiene false in
local macro_rules | `(tactic| walk_at "subscriptTail Name Slice ref ref") => `(tactic| (k_dflt (refine' kmk_slice_lit ?zzF ?zzN ?zzl ?zzp ?zzq hpk ?_ ?zzs ?zzt ?zzz; (case zzF => k_asm); (case zzN => k_asm); (case zzl => exact News.isList (by k_asm) (by k_mem)); (case zzp => kmk_part); (case zzq => kmk_part); (case zzt => kmk_pure); (case zzz => (rw [List.size_toArray, hul]; exact Nat.le_of_ble_eq_true rfl)); (case zzs => with_unfolding_all rfl)); intro Dp hp Fp Np lp))
local macro_rules | `(tactic| walk_at "exec Assign cons ListComp") => `(tactic| refine Stop.intro ?_)
local macro_rules | `(tactic| walk_at "CompSrc") => `(tactic| refine Stop.intro ?_)
local macro_rules | `(tactic| walk_at "pyIter ref") => `(tactic| refine Stop.intro ?_)
local macro_rules | `(tactic| walk_at "call type:range") => `(tactic| (k_here; (with_reducible show wpAny _ _ (call (Value.type _) [Value.int _ _]) _ _ _); (refine range1_L (by k_asm) (by k_asm) ?_; k_whole); intro D' h' tk' t1' t2' F' N' l1; (try k_lt l1)))
local macro_rules | `(tactic| walk_at "call type:range") => `(tactic| (k_here; (with_reducible show wpAny _ _ (call (Value.type _) [Value.int _ _, Value.int _ _]) _ _ _); (refine range2_L (by k_asm) (by k_asm) ?_; k_whole); intro D' h' tk' t1' F' N' l1; (try k_lt l1)))
local macro_rules | `(tactic| walk_at "call ref") => `(tactic| ((with_reducible show wpAny _ _ (call (Value.ref 153) _) _ _ _); refine Stop.intro ?_))
local macro_rules | `(tactic| walk_at "call ref") => `(tactic| ((with_reducible show wpAny _ _ (call (Value.ref 50) _) _ _ _); refine Stop.intro ?_))
theorem law_g (w : World) : Cut5 w := by
  w_top off
  delta Cut5 theProg
  intro body scope loose mean mg mb G L1 s Q E h tk m b0 b1 b2 b3 b4 b5 b6 b7 t0 t1 t2 t3 t4 t5 t6 t7 tn D3 D2 us oa ob oP oR va vP ps qs hB hC hR F hm N da db dP dR hn hd hu
  obtain ⟨oc, od, name, params, dV, kV, doc, pm, an, ct, osl, hB⟩ := hB
  obtain ⟨X1, T1, BG, hc73, hc66, l73, l66⟩ := hC
  revert X1
  k_fill
  intro X1
  refine' with_body hB ?zxk ?_
  (case zxk => k_is)
  clear hB
  dsimp only [List.drop]
  obtain ⟨n1, n2, n3, n4, n5, n6⟩ := hn
  obtain ⟨q1, q2, q3, q4, q5, q6, q7⟩ := hd
  have hul : us.length = 7 := by rw [StrsAre.length hu]; rfl
  refine wpC_execs_cons (wpC_For ?_)
  k_steps
  unfold Stop
  rename_i D6 h6 tk6 v6 F6 N6 l6
  refine pyIter_rangeW (n := 3) F6 N6 (.head _) (by decide) (by decide +kernel) fun I6 h7 F7 N7 hI7 lI7 hIL hI0 => ?_
  have N8 := PyProof.Rows.News.tail' N7
  dsimp only
  refine range_loopG (a := 1) (c := 1) (n := 3) (fun _ m ns => ∃ oa va, oa.data = .cell va ∧ m (Str.ofString "name") = some (.str (nameS (gpl b0 b1 b2 b3 b4 b5 b6 b7)) tn) ∧ ns = baseL D3 D2 L1 us b0 b1 b2 b3 b4 b5 b6 b7 t0 t1 t2 t3 t4 t5 t6 t7 oa ob oP oR ps qs) rfl (by intro _; rfl) ?zgstep ?zgend (?zg0 : ∃ oa va, _) F7 N8 (fun q hq => Nat.ne_of_lt (lI7 q (.tail _ hq))) hI7 hIL hI0
  case zg0 => exact ⟨oa, va, da, hm, rfl⟩
  case zgend =>
    rintro m ns h tk ⟨oa, va, da, hm, rfl⟩ F N
    dsimp only
    have F' : Fr G L1 h m := F
    have N' : News G L1 h (baseL D3 D2 L1 us b0 b1 b2 b3 b4 b5 b6 b7 t0 t1 t2 t3 t4 t5 t6 t7 oa ob oP oR ps qs) := N
    clear F N
    delta baseL at N'
    refine wpC_of_any ?_
    k_steps
    exact hR L1 m h _ _ ps qs F' N' (by k_mem) (by k_mem)
  case zgstep =>
    rintro i m ns h tk it tv hi ⟨oa, va, da, hm, rfl⟩ F N off
    have F' : Fr G L1 h m := F
    have N' : News G L1 h ((I6, it) :: baseL D3 D2 L1 us b0 b1 b2 b3 b4 b5 b6 b7 t0 t1 t2 t3 t4 t5 t6 t7 oa ob oP oR ps qs) := N
    clear F N
    have o1 : (@Ne Nat D3 I6) := off _ (.head _)
    have o2 : (@Ne Nat D2 I6) := off _ (.tail _ (.head _))
    have o3 : (@Ne Nat (L1 + 1 + 1 + 1 + 1) I6) := off _ (.tail _ (.tail _ (.head _)))
    have o4 : (@Ne Nat (L1 + 1 + 1 + 1) I6) := off _ (.tail _ (.tail _ (.tail _ (.head _))))
    have o5 : (@Ne Nat (L1 + 1 + 1) I6) := off _ (.tail _ (.tail _ (.tail _ (.tail _ (.head _)))))
    have o6 : (@Ne Nat (L1 + 1) I6) := off _ (.tail _ (.tail _ (.tail _ (.tail _ (.tail _ (.head _))))))
    have o7 : (@Ne Nat 73 I6) := off _ (.tail _ (.tail _ (.tail _ (.tail _ (.tail _ (.tail _ (.head _)))))))
    have o8 : (@Ne Nat 66 I6) := off _ (.tail _ (.tail _ (.tail _ (.tail _ (.tail _ (.tail _ (.tail _ (.head _))))))))
    delta baseL at N'
    obtain ⟨st, hst⟩ : ∃ st : Nat, st = i + 1 := ⟨_, rfl⟩
    have hst1 : 1 ≤ st ∧ st ≤ 3 := by omega
    have hstI : (1 : Int) + (i : Int) * 1 = (st : Int) := by omega
    rw [hstI]
    k_steps
    rename_i h8 o8' F8 N8 d8
    refine wpC_execs_at 1 ?_
    dsimp only [List.take, List.drop]
    k_steps
    unfold Stop
    refine Assign_ListComp_U (F₀ := F8) (by rfl) (by with_unfolding_all rfl) (by with_unfolding_all rfl) (by decide) (by rfl) (by decide) (by rfl) (by rfl) (by rfl) ?_
    k_steps
    unfold Stop
    refine' c_ov w _ D2 ((one b0 : Nat) : Int) ((one b1 : Nat) : Int) ((one b2 : Nat) : Int) ((one b3 : Nat) : Int) ((one b4 : Nat) : Int) ((one b5 : Nat) : Int) ((one b6 : Nat) : Int) ((one b7 : Nat) : Int) _ _ _ _ _ _ _ _ tv st hst1 _ _ _ _ _ _ _ _ _ _ _ _ _ _ _ _ _ _ _ _ _ ?zbl ?zbB ?zbF ?zbX ?zbN ?zbT ?zbk ?zbd ?zbu ?_
    (case zbl => exact News.isList (by k_asm) (.tail _ (.tail _ (.head _))))
    (case zbB => exact BG)
    (case zbF => k_asm)
    (case zbX => exact X1)
    (case zbN => k_asm)
    (case zbT => exact T1)
    (case zbk => rfl)
    (case zbd => decide)
    (case zbu => decide)
    intro D9 ws9 h9 tk9 hI9 F9 N9 ne9
    k_steps
    unfold Stop
    have hI9' : IntsAre ws9 ((ovL b0 b1 b2 b3 b4 b5 b6 b7 st).map fun (k : Nat) => (k : Int)) := hI9
    clear hI9
    have hov : ∀ j ∈ ovL b0 b1 b2 b3 b4 b5 b6 b7 st, j < 8 - 2 * st := fun j hj => List.mem_range.mp (List.mem_filter.mp hj).1
    have hwl : ws9.length = (ovL b0 b1 b2 b3 b4 b5 b6 b7 st).length := by rw [hI9'.length, List.length_map]
    have hol : (ovL b0 b1 b2 b3 b4 b5 b6 b7 st).length ≤ 8 := by
      have := List.length_filter_le (ovI (rowI b0 b1 b2 b3 b4 b5 b6 b7) st) (List.range (8 - 2 * st))
      rw [List.length_range] at this
      unfold ovL
      omega
    refine CompSrc.ledger (ax := D9) (k := ws9.length) (its := ws9.toArray) rfl F9 N9 (.head _) (by rw [List.size_toArray]; have : 8 ≤ sizeLine := (by decide +kernel); omega) fun g' => ?_
    rw [List.size_toArray]
    refine comp_loop (n := ws9.length) (FdInv [(D9, lst ws9), (I6, it), (D3, lst us), (D2, rowO b0 b1 b2 b3 b4 b5 b6 b7 t0 t1 t2 t3 t4 t5 t6 t7), (L1 + 1 + 1 + 1 + 1, o8'), (L1 + 1 + 1 + 1, ob), (L1 + 1 + 1, oP), (L1 + 1, oR), (73, tabObj ps), (66, tabObj qs)] D9 ws9 us (gpl b0 b1 b2 b3 b4 b5 b6 b7) (ovL b0 b1 b2 b3 b4 b5 b6 b7 st) st) ?zhend ?zhstep ws9.length 0 [] _ (by omega) ?zh0
    case zh0 => exact ⟨[], rfl, .nil⟩
    case zhstep =>
      rintro k vs ns hk ⟨pp, rfl, hDat⟩ v I oI Cc oC D m₂ s E' hv hC hx F N off ne
      rw [List.getElem?_toArray] at hv
      obtain ⟨n9, tj, rfl, hj9⟩ := ints_at hI9' hv
      rw [List.getElem?_map] at hj9
      obtain ⟨j, hj, rfl⟩ := Option.map_eq_some_iff.mp hj9
      have hjr := hov j (List.mem_of_getElem? hj)
      have hpk := pick_in us (i := j) (st := st) (by omega)
      simp only [List.cons_append, List.nil_append] at N
      k_steps
      refine CompEnd.intro Fp Np ([(D9, lst ws9), (I6, it), (D3, lst us), (D2, rowO b0 b1 b2 b3 b4 b5 b6 b7 t0 t1 t2 t3 t4 t5 t6 t7), (L1 + 1 + 1 + 1 + 1, o8'), (L1 + 1 + 1 + 1, ob), (L1 + 1 + 1, oP), (L1 + 1, oR), (73, tabObj ps), (66, tabObj qs)] ++ ((Dp, listOf (pcs us st j).toArray 0) :: pp)) (fun p hp => mem_turn hp) (LCg.Off3.of fun p hp => ?zhoff) (.inr ⟨_, .head _, rfl, _, rfl⟩) ⟨(Dp, listOf (pcs us st j).toArray 0) :: pp, rfl, ?zhdat⟩
      case zhdat =>
        rw [List.take_add_one, hj, List.map_append]
        refine dat_snoc (DatAll.mono (fun p hp => .tail _ hp) hDat) ?_
        exact .list (.head _) (dat_strs (strs_pcs hu st j))
      case zhoff =>
        rcases mem_turn2 hp with rfl | hp
        · exact ⟨Nat.ne_of_gt (lp _ (.head _)), Nat.ne_of_gt (lp _ (.tail _ (.head _))), Nat.ne_of_gt (lp _ (.tail _ (.tail _ (.head _))))⟩
        · exact off.mem p hp
    case zhend =>
      rintro vs ns ⟨pp, rfl, hDat⟩
      unfold LCg.FinA
      simp only [List.cons_append, List.nil_append]
      intro D4 h10 tk10 F10 N10 off10
      k_steps
      dsimp only
      have hDat2 : DatAll pp vs ((ovL b0 b1 b2 b3 b4 b5 b6 b7 st).map fun j => pdat (pcs (gpl b0 b1 b2 b3 b4 b5 b6 b7) st j)) := by
        rw [hwl, List.take_length] at hDat
        exact hDat
      clear hDat
      have NA := news_drop2 N10
      clear N10
      refine wpC_execs_cons (wpC_For ?_)
      k_steps
      unfold Stop
      rename_i D5 h11 tk11 v11 w11 F11 N11 l11
      have e8 : (8 : Int) - 2 * (st : Int) = ((8 - 2 * st : Nat) : Int) := by omega
      rw [e8] at N11
      refine pyIter_rangeN (n := 8 - 2 * st) F11 N11 (.head _) (by omega) fun J h12 F12 N12 hJ lJ hJL hJ0 => ?_
      have NB := PyProof.Rows.News.tail' N12
      clear N11 F11 N12
      refine range_loopC (n := 8 - 2 * st) (fun _ m ns => m (Str.ofString "name") = some (.str (nameS (gpl b0 b1 b2 b3 b4 b5 b6 b7)) tn) ∧ m (Str.ofString "found") = some (.ref D4) ∧ ns = ((D4, lst vs) :: (I6, it) :: (D3, lst us) :: (D2, rowO b0 b1 b2 b3 b4 b5 b6 b7 t0 t1 t2 t3 t4 t5 t6 t7) :: (L1 + 1 + 1 + 1 + 1, o8') :: (L1 + 1 + 1 + 1, ob) :: (L1 + 1 + 1, oP) :: (L1 + 1, oR) :: (73, tabObj ps) :: (66, tabObj qs) :: pp)) rfl (by rfl) (by rfl) ?zkstep ?zkend (?zk0 : _ ∧ _ ∧ _) F12 NB (fun q hq => Nat.ne_of_lt (lJ q (.tail _ hq))) hJ hJL hJ0
      case zk0 => exact ⟨hm, if_pos rfl, rfl⟩
      case zkend =>
        rintro m2 ns h13 tk13 ⟨hm2, hf2, rfl⟩ F N
        dsimp only
        refine wpC_of_any ?_
        k_steps
        exact TurnEnd.intro F N (baseL D3 D2 L1 us b0 b1 b2 b3 b4 b5 b6 b7 t0 t1 t2 t3 t4 t5 t6 t7 o8' ob oP oR ps qs) (fun p hp => .tail _ (List.mem_append_left pp hp)) (off_swap off) ⟨o8', _, d8, hm2, rfl⟩
      case zkstep =>
        rintro k m2 ns h13 tk13 jt tj hk ⟨hm2, hf2, rfl⟩ F N offJ
        have F' : Fr G L1 h13 (fun y => if y = Str.ofString "i" then some (.int (k : Int) tj) else m2 y) := F
        have N' : News G L1 h13 _ := N
        clear F N
        have hpk := pick_in us (i := k) (st := st) (by omega)
        have hg2 := gpl_le b0 b1 b2 b3 b4 b5 b6 b7
        obtain ⟨gs, hgs⟩ : ∃ gs, gpl b0 b1 b2 b3 b4 b5 b6 b7 = gs := ⟨_, rfl⟩
        have hgl : gs.length = 7 := by rw [← hgs]; rfl
        have hpl := pcs_len gs st k (by omega)
        have hPm : ∀ g ∈ pcs gs st k ++ pcs gs st k, g ≤ 2 := fun g hg => by
          rw [← hgs] at hg
          rcases List.mem_append.mp hg with hg | hg
          · exact pcs_mem hg2 st k g hg
          · exact pcs_mem hg2 st k g hg
        obtain ⟨p, q, r, hPP⟩ := two_of (pcs gs st k ++ pcs gs st k) (by rw [List.length_append]; omega)
        have hrl : r.length ≤ 4 := by
          have := congrArg List.length hPP
          rw [List.length_append, List.length_cons, List.length_cons] at this
          omega
        have hSP : StrsAre (pcs us st k ++ pcs us st k) ((p :: q :: r).map letS) := by
          rw [← hPP, List.map_append]
          rw [hgs] at hu
          exact (strs_pcs hu st k).append' (strs_pcs hu st k)
        have hW : (((p :: q :: r).map letS).map (·.length)).sum + ((p :: q :: r).map letS).length ≤ 1048576 := by
          rw [sum_letS, List.length_map, List.length_cons, List.length_cons]
          omega
        have hn1 : (nameU gs).length ≤ 100 := by rw [nameU_len]; omega
        have hn2 : (needle (p :: q :: r)).length ≤ 100 := by rw [needle_len, List.length_cons, List.length_cons]; omega
        have hpm : ∀ g ∈ p :: q :: r, g ≤ 2 := hPP ▸ hPm
        have hjl : (Txt.join (Str.ofString ".") ((p :: q :: r).map letS)).length ≤ 200 := by
          rw [join_labels]
          show (((97 + p) :: lab (q :: r)).toArray).size ≤ 200
          rw [List.size_toArray, List.length_cons, lab_len, List.length_cons]
          omega
        rw [hgs] at hm2 hg2
        refine wpC_of_any ?_
        k_steps
        unfold Stop
        dsimp only
        refine KXw.upper (upper_name hg2) ?zku fun t5 k5 => ?_
        case zku =>
          rw [upper_name hg2, nameU_len, hgl]
          decide +kernel
        k_steps
        unfold Stop
        rename_i h14 F14 N14
        refine' kmk_add_lit (its := (pcs us st k).toArray) (its2 := (pcs us st k).toArray) F14 N14 (News.isList N14 (.head _)) (News.isList N14 (.head _)) rfl ?_ ?zkz
        (case zkz => show (pcs us st k).length + (pcs us st k).length ≤ sizeLine; rw [pcs_len us st k (by omega)]; have : 8 ≤ sizeLine := (by decide +kernel); omega)
        intro D15 h15 F15 N15 l15
        k_steps
        unfold Stop
        refine join_listW (ys := (p :: q :: r).map letS) (News.isList N15 (.head _)) hSP (by decide +kernel) hW ?_
        intro t16 k16
        k_steps
        unfold Stop
        refine add_v (dot_labels p (q :: r)) (by decide +kernel) hjl ?_
        intro t17 k17
        k_steps
        unfold Stop
        have hne0 : (p :: q :: r) ≠ [] := List.cons_ne_nil _ _
        refine' c_dm w _ (nameU gs) (needle (p :: q :: r)) t5 t17 hn1 hn2 (dm_ne hg2 hpm hne0) ?zmX (hdn_needle hpm (by omega)) (dm_start hpm hne0) _ _ _ _ _ _ _ _ _ _ _ _ _ _ _ _ _ _ _ _ _ ?zmB ?zmF ?zmK ?zmN ?zmT ?zmk ?zmd ?zmu ?_
        (case zmX => rw [lower_name hg2]; exact hdn_name hg2 (by omega) (by omega))
        (case zmB => exact BG)
        (case zmF => k_asm)
        (case zmK => exact X1)
        (case zmN => exact N15)
        (case zmT => exact T1)
        (case zmk => rfl)
        (case zmd => decide)
        (case zmu => decide)
        intro t18 h18 tk18 F18 N18
        rw [dm_eq hg2 hpm hne0]
        k_steps
        unfold Stop
        rename_i h19 F19 N19
        refine kqd_isIn (n₁ := pp) (d := pdat (pcs (gpl b0 b1 b2 b3 b4 b5 b6 b7) st k)) N19 (.tail _ (.tail _ (.tail _ (.head _)))) rfl rfl hDat2 (fun p hp => by repeat (first | exact hp | apply List.Mem.tail)) (.list (.tail _ (.head _)) (dat_strs (strs_pcs hu st k))) (fun _ hp => hp) ?zma ?zmd (Nat.le_of_ble_eq_true rfl) ?_
        case zma =>
          intro d hd
          obtain ⟨j, _, rfl⟩ := List.mem_map.mp hd
          exact pdat_ok _ (pcs_mem (gpl_le b0 b1 b2 b3 b4 b5 b6 b7) st j)
        case zmd => exact pdat_ok _ (pcs_mem (gpl_le b0 b1 b2 b3 b4 b5 b6 b7) st k)
        rw [in_found b0 b1 b2 b3 b4 b5 b6 b7 hst1 hk, hgs, hPP]
        k_steps
        unfold Stop
        dsimp only
        refine ne_bool ?_
        rw [bne_self_eq_false]
        k_steps
        exact TurnEnd.intro F19 N19 _ (mem_end3 _ _ _ _) offJ ⟨(if_neg (by decide)).trans ((if_neg (by decide)).trans ((if_neg (by decide)).trans hm2)), (if_neg (by decide)).trans ((if_neg (by decide)).trans ((if_neg (by decide)).trans hf2)), rfl⟩
end Mine
end
section
open PySem PySem.W PyProof.Rows
theorem PySem.Challenge.cw_zo0030_01_holds : PySem.Challenge.rw_zo0030_01.Holds := by
  exact Mine.cw_of fun w => Mine.law_a w (Mine.law_b w (Mine.law_c w (Mine.law_d w (Mine.law_e w (Mine.law_f w (Mine.law_g w))))))
end
