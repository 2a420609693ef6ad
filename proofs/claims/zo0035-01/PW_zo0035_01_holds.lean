import PyProof.Rows.All
import Wide.All
import OpenK.AllK
import Wide.FinOn
import PySem.Challenge.RW_zo0035_01
open PySem PySem.W PySem.Calls PyProof.Rows
set_option Elab.async false
section
set_option maxRecDepth 100000
set_option maxHeartbeats 8000000
namespace Mine
open PySem.Sem (wp)

/-- the built-ins that hold a buffer while they run: what bytearray(n) looks for on the stack -/
noncomputable def heldIds : List String := ["bytearray.__contains__", "bytearray.__mod__", "bytearray.__rmod__", "_struct.pack_into.held", "bytearray.find.held"] ++ PySem.Builtin.Bytes.decodersThatHold
noncomputable def heldCode : Code → Bool
  | .builtin id _ => heldIds.contains id
  | _ => false
/-- no such built-in is under way -/
noncomputable def Clean (Γ : Ctx) : Prop := heldCode Γ.code = false ∧ ∀ x ∈ Γ.below, heldCode x.1 = false

/-- as wpAny, of the clean contexts alone; nothing is raised -/
noncomputable def wpS {α : Type} (M : Model) (A : Around) (t : Sem α) (Q : α → Shared → Prop) (s : Shared) : Prop :=
  ∀ Γ p, Γ.In A → Clean Γ → wp M Γ t (fun a _ s' => Q a s') (fun _ _ _ => False) p s
noncomputable def codeS (M : Model) (A : Around) (c : Code) (R : Result → Shared → Prop) (s : Shared) : Prop :=
  ∀ Γ p, Γ.code = c → Γ.Below A → Clean Γ → wpCode M Γ R p s

section
variable {α β : Type} {M : Model} {A : Around} {s : Shared}
theorem wpS_of {t : Sem α} {Q : α → Shared → Prop} (h : wpAny M A t Q (fun _ _ => False) s) : wpS M A t Q s := fun Γ p hΓ _ => h Γ p hΓ
theorem codeS_of {c : Code} {R : Result → Shared → Prop} (h : codeAny M A c R s) : codeS M A c R s := fun Γ p hc hΓ _ => h Γ p hc hΓ
theorem wpS_mono {t : Sem α} {Q Q' : α → Shared → Prop} (h : wpS M A t Q s) (hQ : ∀ a s, Q a s → Q' a s) : wpS M A t Q' s :=
  fun Γ p hΓ hc => Sem.wp_mono M Γ t (fun a _ s' h' => hQ a s' h') (fun _ _ _ h' => h') p s (h Γ p hΓ hc)
theorem wpS_pure {a : α} {Q : α → Shared → Prop} (h : Q a s) : wpS M A (pure a) Q s := wpS_of (wpAny_pure h)
theorem wpS_bind {m : Sem α} {f : α → Sem β} {Q : β → Shared → Prop} (h : wpS M A m (fun a s' => wpS M A (f a) Q s') s) : wpS M A (m >>= f) Q s := fun Γ p hΓ hc => by
  rw [Sem.wp_bind']
  exact Sem.wp_mono M Γ m (fun a p' s' h' => h' Γ p' hΓ hc) (fun _ _ _ h' => h') p s (h Γ p hΓ hc)
/-- first a part that is known for every context -/
theorem wpS_then {m : Sem α} {f : α → Sem β} {Q : β → Shared → Prop} (h : wpAny M A m (fun a s' => wpS M A (f a) Q s') (fun _ _ => False) s) : wpS M A (m >>= f) Q s := wpS_bind (wpS_of h)
theorem wpS_keep {vs : List Value} {m : Sem α} {Q : α → Shared → Prop} (h : wpS M A m Q s) : wpS M A (m.keep vs) Q s := fun Γ p hΓ hc => by rw [Sem.wp_keep]; exact h Γ p hΓ hc
theorem wpS_holding {vs : List Value} {m : Sem α} {Q : α → Shared → Prop} (h : wpS M A m Q s) : wpS M A (holding vs m) Q s := fun Γ p hΓ hc => by rw [Sem.wp_holding]; exact h Γ p hΓ hc
theorem wpS_onRaise {m : Sem α} {k : Value → Sem Unit} {Q : α → Shared → Prop} (h : wpS M A m Q s) : wpS M A (m.onRaise k) Q s := fun Γ p hΓ hc => by
  rw [Sem.wp_onRaise]
  exact Sem.wp_mono M Γ m (fun _ _ _ h' => h') (fun _ _ _ h' => h'.elim) p s (h Γ p hΓ hc)
theorem clean_enter {Γ : Ctx} {c : Code} {h : Option Value} {p : Pos} (hc : Clean Γ) (hb : heldCode c = false) : Clean (Γ.enter c h p) :=
  ⟨hb, fun x hx => by
    rcases List.mem_cons.mp hx with rfl | hx
    · exact hc.1
    · exact hc.2 x hx⟩
theorem wpS_runValue {c : Code} {Q : Value → Shared → Prop} (hb : heldCode c = false) (hc : codeS M A c (fun r s' => match r with | .ok (.ret v) => Q v s' | _ => False) s) : wpS M A (runValue c) Q s := fun Γ p hΓ hcl => by
  rw [Sem.wp_runValue]
  refine wpCode_mono (fun r s' hr => ?_) (hc _ p rfl (hΓ.enter c none p (by intro x; cases x)) (clean_enter hcl hb))
  rcases r with e | (v | _ | _ | _) <;> exact hr
theorem wpS_call {f : Value} {pos : List Value} {kw : List (PySem.Str × Value)} {Q : Value → Shared → Prop} (hc : codeS M A (.call f ⟨pos, kw⟩) (fun r s' => match r with | .ok (.ret v) => Q v s' | _ => False) s) :
    wpS M A (call f pos kw) Q s := wpS_runValue rfl hc
theorem codeS_of_tree {c : Code} {R : Result → Shared → Prop}
    (h : wpS M (A.under c) (M.den c) (fun fin s' => match fin with | .done f => R (.ok f) s' | .again c' => c'.quiet = true ∧ heldCode c' = false ∧ codeS M A c' R s') s) : codeS M A c R s := fun Γ p hc hΓ hcl => by
  rw [wpCode_iff_wp, hc]
  refine Sem.wp_mono M Γ _ (fun fin p' s' h' => ?_) (fun _ _ _ h' => h'.elim) p s (h Γ p (hc ▸ hΓ.in) hcl)
  cases fin with
  | done f => exact h'
  | again c' => exact ⟨h'.1, h'.2.2 (Γ.goto c') p' rfl (hΓ.goto c') ⟨h'.2.1, hcl.2⟩⟩
theorem codeS_mono {c : Code} {R R' : Result → Shared → Prop} (h : codeS M A c R s) (hR : ∀ r s, R r s → R' r s) : codeS M A c R' s := fun Γ p hc hΓ hcl => wpCode_mono hR (h Γ p hc hΓ hcl)
/-- a run of a Code within a tree -/
theorem wpS_run {c : Code} {Q : Flow → Shared → Prop} (hb : heldCode c = false) (hc : codeS M A c (fun r s' => match r with | .ok f => Q f s' | _ => False) s) : wpS M A (run c) Q s := fun Γ p hΓ hcl => by
  rw [Sem.wp_run]
  refine wpCode_mono (fun r s' hr => ?_) (hc _ p rfl (hΓ.enter c none p (by intro x; cases x)) (clean_enter hcl hb))
  rcases r with e | f <;> exact hr
end

section
variable {prog : Program} {w : World} {A : Around} {s : Shared}
theorem codeS_func {body : List Stmt} {env : Env} {R : Result → Shared → Prop} (h : wpS (model prog w) (A.deeper env) (execs body env) (fun f s' => R (.ok (.ret (match f with | .ret v => v | _ => .none))) s') s) :
    codeS (model prog w) A (.func body env) R s := by
  refine codeS_of_tree ?_
  show wpS _ (A.deeper env) (do point; match ← (execs body env).onRaise (leaving env) with | .ret v => ret v | _ => ret .none) _ s
  refine wpS_then (wpAny_point (wpS_bind (wpS_onRaise (wpS_mono h fun f s' h' => ?_))))
  cases f <;> exact wpS_pure h'
theorem codeS_call_function {a : Addr} {args : Args} {o : Obj} {fd : FuncData} {body : List Stmt} {R : Result → Shared → Prop} (hroom : A.depth < recursionLimit)
    (ho : s.heap.get? a = some o) (hd : o.data = .func fd) (hco : fd.scope.isCoroutine = false) (hgen : fd.scope.isGenerator = false) (hbody : fd.body = .stmts body) (hcd : s.heap.CodeRec fd.code fd.qualname)
    (h : wpAny (model prog w) A.in1 (bindArgs fd args) (fun binds s₁ =>
      wpAny (model prog w) A.in1 (newFunctionEnv fd.scope fd.globals fd.closure binds (fd.qualname ++ ".<locals>.") (some a) fd.code none fd.builtins)
        (fun env s₂ => s₂.heap.NoLimit ∧ codeS (model prog w) A (.func body env) R s₂) (fun _ _ => False) s₁) (fun _ _ => False) s) :
    codeS (model prog w) A (.call (.ref a) args) R s := by
  refine codeS_of_tree (wpS_of ?_)
  show wpAny _ A.in1 (callAny (.ref a) args) _ _ s
  simp only [callAny]
  refine wpAny_bind (wpAny_load ho ?_)
  obtain ⟨c, oc, vs, tq, hc, hoc, hdc, hq⟩ := hcd
  simp only [hd, callFunction, hco, hgen, hbody, hc]
  rw [hc] at h
  refine wpAny_bind (m := field (.ref c) 1) (wpAny_field hoc hdc hq (wpAny_bind (wpAny_pure ?_)))
  exact wpAny_bind (wpAny_mono h (fun binds s₁ h₁ => wpAny_bind (wpAny_mono h₁ (fun env s₂ h₂ => wpAny_bind (wpAny_enterFrame h₂.1 hroom
    (wpAny_pure (And.intro rfl (And.intro rfl h₂.2))))) fun _ _ h' => h')) fun _ _ h' => h')
end

section
variable {M : Model} {A : Around} {s : Shared} {env : Env}
theorem execsS_cons {st : Stmt} {rest : List Stmt} {Q : Flow → Shared → Prop} (h : wpS M A (exec st env) (fun f s' => match f with | .next => wpS M A (execs rest env) Q s' | f => Q f s') s) : wpS M A (execs (st :: rest) env) Q s := by
  rw [execs]
  refine wpS_bind (wpS_mono h fun f s' h' => ?_)
  cases f <;> first | exact h' | exact wpS_pure h'
theorem execsS_nil {Q : Flow → Shared → Prop} (h : Q .next s) : wpS M A (execs [] env) Q s := by
  rw [execs]; exact wpS_pure h
theorem execs_append (l₁ l₂ : List Stmt) (env : Env) : execs (l₁ ++ l₂) env = (execs l₁ env >>= fun f => match f with | .next => execs l₂ env | f => pure f) := by
  induction l₁ with
  | nil => rw [List.nil_append]; conv => rhs; rw [execs]
           rw [pure_bind]
  | cons st r ih =>
    rw [List.cons_append, execs, execs, bind_assoc]
    refine congrArg _ (funext fun f => ?_)
    cases f <;> first | exact ih | (dsimp only; rw [pure_bind])
/-- a first part that is known for every context, then the rest -/
theorem execsS_append {l₁ l₂ : List Stmt} {Q : Flow → Shared → Prop} (h : wpS M A (execs l₁ env) (fun f s' => f = .next ∧ wpS M A (execs l₂ env) Q s') s) : wpS M A (execs (l₁ ++ l₂) env) Q s := by
  rw [execs_append]
  refine wpS_bind (wpS_mono h fun f s' h' => ?_)
  obtain ⟨rfl, h'⟩ := h'
  exact h'
/-- x = e -/
theorem execS_Assign {x : PySem.Str} {pos' pos : Pos} {value : PySem.Expr} {Q : Flow → Shared → Prop}
    (h : wpS M A (eval value env) (fun v s₁ => wpAny M A (storeName env x v) (fun _ => Q .next) (fun _ _ => False) s₁) s)
    (hs : swapsWith value (some (.Name x pos')) pos.line env = pure false) : wpS M A (exec (.Assign [.Name x pos'] value pos) env) Q s := by
  rw [exec_Assign_Name env x pos' value pos hs]
  refine wpS_then (wpAny_standAt (wpS_bind (wpS_mono h fun v s₁ h₁ => ?_)))
  exact wpS_of (wpAny_bind (wpAny_standAt (wpAny_bind (wpAny_bindName (wpAny_mono h₁ (fun _ _ h₂ => wpAny_pure h₂) fun _ _ e => e)))))
theorem splicedS_nil {Q : List Value → Shared → Prop} (h : Q [] s) : wpS M A (spliced []) Q s := by
  rw [spliced]; exact wpS_pure h
theorem splicedS_cons {x : Sem Value} {rest : List (Bool × Sem Value)} {Q : List Value → Shared → Prop}
    (h : wpS M A x (fun v s₁ => wpS M A (spliced rest) (fun vs s₂ => Q (v :: vs) s₂) s₁) s) : wpS M A (spliced ((false, x) :: rest)) Q s := by
  rw [spliced]
  refine wpS_bind (wpS_mono h fun v s₁ h₁ => ?_)
  simp only [Bool.false_eq_true, if_false]
  exact wpS_then (wpAny_pure (wpS_bind (wpS_holding (wpS_mono h₁ fun vs s₂ h₂ => wpS_pure h₂))))
theorem callS_args {pos : Pos} {f : Value} {x : Sem Value} {rest : List (Bool × Sem Value)} {k : Keeper} {Q : Value → Shared → Prop} (hplain : ((false, x) :: rest).any (·.1) = false) (hkk : k = Keeper.frame ∨ k = Keeper.machine ∨ k = Keeper.boundFrame)
    (h : wpS M A (spliced ((false, x) :: rest)) (fun vs s₁ => Looks M s₁.heap (keeperOf f) k ∧ wpS M A (call f vs) Q s₁) s) : wpS M A (callWith pos f [] ((false, x) :: rest) []) Q s := by
  unfold callWith
  refine wpS_bind (wpS_holding (?_ : wpS M A (evalArgs f true ((false, x) :: rest) []) _ s))
  unfold evalArgs
  show wpS M A (spliced ((false, x) :: rest) >>= _) _ s
  refine wpS_bind (wpS_mono h fun vs s₁ h₁ => wpS_holding ?_)
  refine wpS_then (wpAny_pure (wpS_then (wpAny_pure (wpS_pure ?_))))
  refine wpS_then (wpAny_standAt ?_)
  simp only [hplain, List.any_nil, Bool.or_false]
  refine wpS_then (h₁.1.here ?_)
  have tail : ∀ {t : Sem Value}, wpS M A t Q s₁ → wpS M A (t >>= fun r => holding [r] point >>= fun _ => pure r) Q s₁ :=
    fun ht => wpS_bind (wpS_mono ht fun r s₂ hr => wpS_of (wpAny_bind (wpAny_holding (wpAny_point (wpAny_pure hr)))))
  have h2 : wpS M A (call f vs []) Q s₁ := h₁.2
  have marked (mk : Value) : wpS M A (callMarked mk f vs []) Q s₁ := by unfold callMarked; exact wpS_keep h2
  rcases hkk with rfl | rfl | rfl <;> dsimp only [List.nil_append] <;> first | exact tail h2 | (split <;> first | exact tail h2 | exact tail (marked _))
/-- f(e, ..), f a plain name -/
theorem evalS_Call {x : PySem.Str} {p1 : Pos} {e : PySem.Expr} {rest : List PySem.Expr} {pos : Pos} {f : Value} {k : Keeper} {Q : Value → Shared → Prop} (hf : wpAny M A (eval (.Name x p1) env) (fun v s' => v = f ∧ s' = s) (fun _ _ => False) s)
    (hkk : k = Keeper.frame ∨ k = Keeper.machine ∨ k = Keeper.boundFrame)
    (h : wpS M A (spliced (backTo pos (starEach (e :: rest) env))) (fun vs s₁ => Looks M s₁.heap (keeperOf f) k ∧ wpS M A (call f vs) Q s₁) s)
    (he : starEach (e :: rest) env = (false, eval e env) :: starEach rest env) (hplain : (backTo pos (starEach rest env)).any (·.1) = false) : wpS M A (eval (.Call (.Name x p1) (e :: rest) [] pos) env) Q s := by
  show wpS M A (eval (.Name x p1) env >>= fun fv => callWith pos fv [] (backTo pos (starEach (e :: rest) env)) (backToKw pos (keywordEach [] env))) Q s
  refine wpS_then (wpAny_mono hf (fun v s' h' => ?_) fun _ _ x => x)
  obtain ⟨rfl, rfl⟩ := h'
  rw [he] at h ⊢
  exact callS_args (by show (false || (backTo pos (starEach rest env)).any (·.1)) = false; rw [hplain]; rfl) hkk h
end

section
variable {prog : Program} {w : World} {A : Around} {s : Shared} {env : Env}
theorem wpS_runOwn {M : Model} {c : Code} {Q : Flow → Shared → Prop} (hb : heldCode c = false) (hc : codeS M A c (fun r s' => match r with | .ok f => Q f s' | _ => False) s) : wpS M A (runOwn c env) Q s := by
  unfold runOwn
  exact wpS_onRaise (wpS_run hb hc)
theorem execS_For {M : Model} {target iter : PySem.Expr} {body orelse : List Stmt} {pos : Pos} {Q : Flow → Shared → Prop}
    (h : wpAny M A (eval iter env) (fun x s₁ => wpAny M A (pyIter x) (fun it s₂ => codeS M A (.forLoop target it body orelse env) (fun r s' => match r with | .ok f => Q f s' | _ => False) s₂) (fun _ _ => False) s₁) (fun _ _ => False) s)
    (hs : ∀ x, foldedSetIterable iter env x = pure x) : wpS M A (exec (.For target iter body orelse pos) env) Q s := by
  rw [exec_For]
  refine wpS_then (wpAny_standAt (wpS_then (wpAny_mono h (fun x s₁ h₁ => wpS_then (wpAny_of_eq (hs x) (wpS_then (wpAny_standAt (wpS_then (wpAny_holding (wpAny_mono h₁ (fun it s₂ h₂ => ?_) fun _ _ e => e))))))) fun _ _ e => e)))
  exact wpS_runOwn rfl h₂
theorem codeS_forItem {x : PySem.Str} {px : Pos} {it v : Value} {body : List Stmt} {R : Result → Shared → Prop}
    (h : wpAny (model prog w) A (pyNext it) (fun o s₁ => o = some v ∧ wpAny (model prog w) A (storeName env x v) (fun _ s₂ => wpS (model prog w) A (execs body env) (fun f s₃ => f = .next ∧ codeS (model prog w) A (.forLoop (.Name x px) it body [] env) R s₃) s₂) (fun _ _ => False) s₁) (fun _ _ => False) s) :
    codeS (model prog w) A (.forLoop (.Name x px) it body [] env) R s := by
  refine codeS_of_tree ?_
  rw [Around.under_of_weight rfl]
  show wpS _ A ((forTurn (.Name x px) it body [] env).onRaise (fun x => do noteFrame x env; theTreesLotGoes x)) _ s
  refine wpS_onRaise ?_
  unfold forTurn
  refine wpS_then (wpAny_standAt (wpS_then (wpAny_onRaise (wpAny_mono h (fun o s₁ h₁ => ?_) fun _ _ e => e.elim))))
  obtain ⟨rfl, h₁⟩ := h₁
  dsimp only
  refine wpS_then (wpAny_pure (wpS_then ?_))
  rw [PySem.assign_Name]
  refine wpAny_bind (wpAny_standAt (wpAny_bindName (wpAny_mono h₁ (fun _ s₂ h₂ => ?_) fun _ _ e => e)))
  refine wpS_bind (wpS_mono h₂ fun f s₃ h₃ => ?_)
  obtain ⟨rfl, h₃⟩ := h₃
  exact wpS_pure ⟨rfl, rfl, h₃⟩
theorem codeS_forEnd {x : PySem.Str} {px : Pos} {it : Value} {body : List Stmt} {R : Result → Shared → Prop}
    (h : wpAny (model prog w) A (pyNext it) (fun o s₁ => o = none ∧ R (.ok .next) s₁) (fun _ _ => False) s) :
    codeS (model prog w) A (.forLoop (.Name x px) it body [] env) R s := by
  refine codeS_of_tree ?_
  rw [Around.under_of_weight rfl]
  show wpS _ A ((forTurn (.Name x px) it body [] env).onRaise (fun x => do noteFrame x env; theTreesLotGoes x)) _ s
  refine wpS_onRaise ?_
  unfold forTurn
  refine wpS_then (wpAny_standAt (wpS_then (wpAny_onRaise (wpAny_mono h (fun o s₁ h₁ => ?_) fun _ _ e => e.elim))))
  obtain ⟨rfl, h₁⟩ := h₁
  dsimp only
  refine wpS_pure ⟨rfl, rfl, codeS_of_tree ?_⟩
  rw [Around.under_of_weight rfl]
  show wpS _ A (((execs [] env).onRaise (fun x => do noteFrame x env; theTreesLotGoes x)) >>= fun f => pure (Fin.done f)) _ s₁
  refine wpS_bind (wpS_onRaise (execsS_nil (wpS_pure h₁)))
end
end Mine
end
section
set_option maxRecDepth 100000
set_option maxHeartbeats 8000000
namespace Mine
open PySem.Sem (wp)
noncomputable abbrev sOf (x : String) : PySem.Str := PySem.Str.ofString x
theorem ba_mro : mroOf (.type "bytearray") = pure [.type "bytearray", .type "object"] := by rw [mroOf_type]; kernel_rfl
theorem ba_lookup_new : typeLookup (.type "bytearray") "__new__" = pure (some (.builtin "bytearray.__new__")) := by rw [typeLookup_type, builtinLookup_eq_fast]; kernel_rfl
theorem ba_slot_init : Slot "bytearray" "__init__" "bytearray.__init__" :=
  .of (owner := "bytearray") (n := "__init__") (by rw [typeLookup_type, builtinLookup_eq_fast]; kernel_rfl) (by decide +kernel) (by decide +kernel) (by decide +kernel)
    (by first | exact .inl (by decide +kernel) | exact .inr (by decide +kernel)) (by rw [isSubtype_type]; kernel_rfl)
theorem ba_called : TypeCalled "bytearray" "bytearray.__new__" "bytearray.__init__" :=
  ⟨by decide +kernel, by decide +kernel, ⟨_, _, ba_mro⟩, madeBy_type ba_mro ba_lookup_new (by decide +kernel), by decide +kernel, by rw [isSubtype_type]; kernel_rfl, ba_slot_init⟩
theorem ba_typeCall (a : Value) : checkTypeCall "bytearray" ⟨[a], []⟩ = pure () := by kernel_rfl
theorem ba_newCall (a : Value) : checkBuiltinCall "bytearray.__new__" ⟨[.type "bytearray", a], []⟩ = pure () := by kernel_rfl
theorem ba_plain_new : plainId "bytearray.__new__" = true := by decide +kernel
theorem ba_plain_init : plainId "bytearray.__init__" = true := by decide +kernel
theorem ba_entry_new : entryFor table "bytearray.__new__" = some Builtin.«list.__new__» :=
  entryFor_alias (id' := "list.__new__") (by rw [fastTable_eq_tree]; kernel_rfl) (by first | rfl | decide +kernel) (by decide +kernel) (by rw [fastTable_eq_tree]; kernel_rfl)
theorem ba_entry_init : entryFor table "bytearray.__init__" = some Builtin.«bytearray.__init__» := by first | exact entryFor_of_fast (by kernel_rfl) | exact entryFor_of_tree (by kernel_rfl)
theorem ba_sub : isSubtype (.type "bytearray") (.type "bytearray") = pure true := by rw [isSubtype_type]; kernel_rfl
set_option maxRecDepth 1000000 in
theorem ba_owner : ("bytearray.__new__".splitOn ".__new__").headD "" = "bytearray" := by simp +decide [String.splitOn, String.splitOnAux]
theorem ba_initArgs (a b : Value) : argsOk "bytearray.__init__" ⟨[a, b], []⟩ := by unfold argsOk; kernel_rfl
theorem ba_bind (v : Value) : Builtin.Bytes.bindOptional "bytearray.__init__" "bytearray" ["source", "encoding", "errors"] [v] [] = pure [some v, none, none] := by kernel_rfl
theorem ba_release : typeLookup (.type "bytearray") "__release_buffer__" = pure (some (.builtin "bytearray.__release_buffer__")) := by rw [typeLookup_type, builtinLookup_eq_fast]; kernel_rfl
theorem ba_index : typeLookup (.type "int") "__index__" = pure (some (.builtin "int.__index__")) := by rw [typeLookup_type, builtinLookup_eq_fast]; kernel_rfl
theorem ba_buffer : typeLookup (.type "bytearray") "__buffer__" = pure (some (.builtin "bytearray.__buffer__")) := by rw [typeLookup_type, builtinLookup_eq_fast]; kernel_rfl
theorem ba_no_bytes : typeLookup (.type "bytearray") "__bytes__" = pure none := by rw [typeLookup_type, builtinLookup_eq_fast]; kernel_rfl
theorem ba_no_index : typeLookup (.type "bytearray") "__index__" = pure none := by rw [typeLookup_type, builtinLookup_eq_fast]; kernel_rfl
noncomputable abbrev baObj (b : Array UInt8) : Obj := { cls := .type "bytearray", data := .bytearray b }

section
variable {prog : Program} {w : World} {A : Around} {E : Value → Shared → Prop} {s : Shared}
theorem ba_new (a : Value) {Q₁ : Value → Shared → Prop} (h : Q₁ (.ref s.heap.objs.size) { s with heap := s.heap.push (baObj #[]) }) :
    codeAny (model prog w) A (.call (.builtin "bytearray.__new__") ⟨[.type "bytearray", a], []⟩) (wants Q₁ E) s := by
  refine codeAny_of_tree ?_
  show wpAny _ A.in1 (do checkBuiltinCall "bytearray.__new__" ⟨[.type "bytearray", a], []⟩; again (.builtin "bytearray.__new__" ⟨[.type "bytearray", a], []⟩)) _ _ s
  refine wpAny_bind (wpAny_of_eq (ba_newCall a) (wpAny_pure ⟨plainId_quiet ba_plain_new _, codeAny_builtin_stack ba_entry_new rfl fun p st => ?_⟩))
  rw [Around.under_plainId ba_plain_new _]
  have hsub := ba_sub
  have hown := ba_owner
  obtain ⟨hp, g, d, tk, os⟩ := s
  simp only [hown]
  wp_walk
  exact h
end

section
variable {prog : Program} {w : World} {A : Around} {s : Shared}
theorem codeS_builtin {id : String} {args : Args} {b : Builtin} {R : Result → Shared → Prop} (hb : entryFor table id = some b)
    (h : wpS (model prog w) (A.under (.builtin id args)) (b args) (fun fin s' => match fin with | .done f => R (.ok f) s' | .again c' => c'.quiet = true ∧ heldCode c' = false ∧ codeS (model prog w) A c' R s') s) :
    codeS (model prog w) A (.builtin id args) R s := by
  refine codeS_of_tree ?_
  have hden : (model prog w).den (.builtin id args) = b args := by
    show (match entryFor table id with | some b => b args | none => unsupported ((withoutEnding? id "#data").getD id)) = _
    rw [hb]
  rw [hden]
  exact h

/-- no built-in under way holds the bytearray -/
theorem exportedS {a : Addr} {Q : Bool → Shared → Prop} (h : Q false s) : wpS (model prog w) A (Builtin.Bytes.exported (.ref a)) Q s := by
  intro Γ p hΓ hc
  unfold Builtin.Bytes.exported
  show wp _ Γ (Sem.bind stack _) _ _ p s
  unfold stack
  rw [Sem.wp_bind, Sem.wp_stack]
  rw [Sem.wp_pure, Sem.wp_pure']
  have hall : ∀ x ∈ (Γ.code, p) :: Γ.below, heldCode x.1 = false := fun x hx => by
    rcases List.mem_cons.mp hx with rfl | hx
    · exact hc.1
    · exact hc.2 x hx
  show Q (((Γ.code, p) :: Γ.below).any _) s
  rw [List.any_eq_false.mpr ?_]
  · exact h
  · intro x hx
    have hx' := hall x hx
    obtain ⟨c, q⟩ := x
    cases c
    case builtin id args =>
      obtain ⟨pos, kw⟩ := args
      have hm : ∀ y, y ∈ heldIds → ¬ id = y := fun y hy e => by
        have hx2 : heldIds.contains id = false := hx'
        rw [e, List.contains_iff_mem.mpr hy] at hx2
        cases hx2
      have hd : Builtin.Bytes.decodersThatHold.contains id = false := by
        cases hc2 : Builtin.Bytes.decodersThatHold.contains id
        · rfl
        · exact (hm id (List.mem_append_right _ (List.contains_iff_mem.mp hc2)) rfl).elim
      refine fun e0 => Bool.false_ne_true (Eq.trans (Eq.symm ?_) e0)
      delta Builtin.Bytes.exported.match_1 Builtin.Bytes.exported._sparseCasesOn_1 Builtin.Bytes.exported._sparseCasesOn_2
      refine (dif_neg (hm _ (.head _))).trans ?_
      refine (dif_neg (hm _ (.tail _ (.head _)))).trans ?_
      refine (dif_neg (hm _ (.tail _ (.tail _ (.head _))))).trans ?_
      refine (dif_neg (hm _ (.tail _ (.tail _ (.tail _ (.head _)))))).trans ?_
      refine (dif_neg (hm _ (.tail _ (.tail _ (.tail _ (.tail _ (.head _))))))).trans ?_
      cases pos
      · rfl
      · exact (congrArg (_ && ·) hd).trans (Bool.and_false _)
    all_goals exact Bool.false_ne_true
end
end Mine
end
section
set_option maxRecDepth 100000
set_option maxHeartbeats 8000000
namespace Mine
open PySem.Sem (wp)
section
variable {prog : Program} {w : World} {A : Around} {E : Value → Shared → Prop} {s : Shared}
theorem rel_ends : (!("bytearray.__release_buffer__".endsWith ("." ++ "__release_buffer__"))) = false := by decide +kernel
theorem rel_drop : "bytearray.__release_buffer__".dropRight ("__release_buffer__".length + 1) = "bytearray" := by decide +kernel
theorem ownRel {D : Addr} {Q : Bool → Shared → Prop} (hT : s.TypeIs (.ref D) "bytearray") (h : Q false s) : wpAny (model prog w) A (Builtin.Bytes.ownRelease (.ref D)) Q E s := by
  unfold Builtin.Bytes.ownRelease Builtin.Bytes.slotIsOwn
  refine wpAny_bind (wpAny_bind (wpAny_specialOf hT ba_release ?_))
  dsimp only
  refine bm_if_false rel_ends ?_
  rw [rel_drop]
  exact wpAny_isInstance hT ba_sub (wpAny_pure h)

theorem ba_write {D : Addr} {b : Array UInt8} {f : Array UInt8 → Array UInt8} {Q : Unit → Shared → Prop} (hD : s.heap.get? D = some (baObj b)) (hz : (f b).size ≤ sizeLine)
    (h : Q () { s with heap := s.heap.update D (Obj.mapBytearray f) }) : wpAny (model prog w) A (Builtin.Bytes.write (.ref D) f) Q E s := by
  show wpAny _ _ (updateBytearray D f) _ _ _
  unfold updateBytearray
  refine wpAny_bind (wpAny_load hD ?_)
  show wpAny _ _ (update D (Obj.mapBytearray f) >>= fun _ => lookBehind D) _ _ _
  refine wpAny_bind (wpAny_update hD ?_)
  have hS : (s.heap.update D (Obj.mapBytearray f)).get? D = some (baObj (f b)) := Heap.get?_update_self (Obj.mapBytearray f) hD rfl
  refine wpAny_lookBehind hS ?_ h
  show (if (f b).size > sizeLine then some "bytearray:memory" else none) = none
  rw [if_neg (by omega)]

theorem ifS_f {α : Type} {c : Bool} {t e : Sem α} {Q : α → Shared → Prop} (h : c = false) (k : wpS (model prog w) A e Q s) : wpS (model prog w) A (if c = true then t else e) Q s := by
  subst h
  exact k
theorem ifS_n {α : Type} {c : Prop} [Decidable c] {t e : Sem α} {Q : α → Shared → Prop} (h : ¬ c) (k : wpS (model prog w) A e Q s) : wpS (model prog w) A (if c then t else e) Q s := by
  rw [if_neg h]
  exact k
theorem ifS_t {α : Type} {c : Bool} {t e : Sem α} {Q : α → Shared → Prop} (h : c = true) (k : wpS (model prog w) A t Q s) : wpS (model prog w) A (if c = true then t else e) Q s := by
  subst h
  exact k

theorem ba_init {D : Addr} {n : Int} {t : Tok} (hD : s.heap.get? D = some (baObj #[])) (h0 : 0 ≤ n) (h1 : n ≤ 1000) {Q : Fin → Shared → Prop}
    (h : ∀ h', (∀ b, b ≠ D → h'.get? b = s.heap.get? b) → h'.get? D = some (baObj (Array.replicate n.toNat 0)) → Q (.done (.ret .none)) { s with heap := h' }) :
    wpS (model prog w) A (Builtin.«bytearray.__init__» ⟨[.ref D, .int n t], []⟩) Q s := by
  have hT : s.TypeIs (.ref D) "bytearray" := ⟨_, hD, rfl⟩
  unfold Builtin.«bytearray.__init__»
  refine wpS_then (ownRel hT ?_)
  refine ifS_f rfl ?_
  refine wpS_then (wpAny_of_eq (ba_bind _) ?_)
  dsimp only
  refine wpS_then (wpAny_of_eq (a := ()) rfl ?_)
  refine wpS_then (wpAny_of_eq (a := ()) rfl ?_)
  refine wpS_bind ?_
  show wpS _ _ (Builtin.Bytes.exported (.ref D) >>= _) _ _
  refine wpS_bind (exportedS ?_)
  show wpS _ _ (Builtin.Bytes.exportsOf (.ref D) >>= _) _ _
  unfold Builtin.Bytes.exportsOf
  refine wpS_then (wpAny_bind (wpAny_load hD (wpAny_pure (wpS_pure ?_))))
  refine ifS_f rfl ?_
  refine wpS_then (ba_write (f := fun _ => #[]) hD (Nat.zero_le _) ?_)
  have hD1 : (s.heap.update D (Obj.mapBytearray fun _ => #[])).get? D = some (baObj #[]) := Heap.get?_update_self (Obj.mapBytearray fun _ => #[]) hD rfl
  refine wpS_then (wpAny_of_eq (a := none) rfl ?_)
  refine ifS_f rfl ?_
  refine wpS_then (wpAny_pure ?_)
  refine wpS_then (wpAny_specialOf (typeIs_int _ n t) ba_index ?_)
  refine ifS_t rfl ?_
  have ei : (asIndex (.int n t)).attempt = pure (.ok n) := rfl
  rw [ei]
  refine wpS_then (wpAny_pure ?_)
  dsimp only
  have f1 : (!Builtin.Bytes.fitsIndex n) = false := by
    unfold Builtin.Bytes.fitsIndex
    simp only [Bool.not_eq_false', Bool.and_eq_true, decide_eq_true_eq]
    omega
  have f2 : ¬ n < 0 := by omega
  have f3 : (n == 2 ^ 63 - 1) = false := by rw [beq_eq_false_iff_ne]; omega
  have f4 : Builtin.Bytes.tooLong n.toNat = false := by unfold Builtin.Bytes.tooLong; rw [decide_eq_false_iff_not, sizeLine_eq]; omega
  refine ifS_f f1 ?_
  refine ifS_n f2 ?_
  refine ifS_f f3 ?_
  refine ifS_f f4 ?_
  refine wpS_then (wpAny_rule ?_)
  have keep1 : ∀ b, b ≠ D → (s.heap.update D (Obj.mapBytearray fun _ => #[])).get? b = s.heap.get? b := fun b hb => Heap.get?_update_ne _ _ _ _ hb
  split
  · refine wpS_then (ba_write (b := #[]) (f := fun _ => Array.replicate n.toNat 0) hD1 (by rw [Array.size_replicate, sizeLine_eq]; omega) (wpS_pure ?_))
    refine h _ (fun b hb => (Heap.get?_update_ne _ _ _ _ hb).trans (keep1 b hb)) ?_
    exact Heap.get?_update_self (Obj.mapBytearray fun _ => Array.replicate n.toNat 0) hD1 rfl
  · refine wpS_pure (h _ keep1 ?_)
    have : n = 0 := by omega
    subst this
    exact hD1

/-- bytearray(n) -/
theorem call_ba {n : Int} {t : Tok} (h0 : 0 ≤ n) (h1 : n ≤ 1000) {Q : Value → Shared → Prop}
    (h : ∀ h', (∀ b o, s.heap.get? b = some o → h'.get? b = some o) → h'.get? s.heap.objs.size = some (baObj (Array.replicate n.toNat 0)) → Q (.ref s.heap.objs.size) { s with heap := h' }) :
    wpS (model prog w) A (call (.type "bytearray") [.int n t]) Q s := by
  refine wpS_call (codeS_of_tree (wpS_of ?_))
  show wpAny _ _ (callAny (.type "bytearray") _) _ _ _
  refine wpAny_pure ⟨Code.quiet_builtin _ (by decide +kernel), rfl, codeS_builtin F.entry_type_call ?_⟩
  rw [Around.under_plain (weight_type_call_type "bytearray" [.int n t] []) rfl]
  have h1' := ba_called.notType
  have h2' := ba_called.canCreate
  have hct := ba_typeCall (.int n t)
  unfold Builtin.«type.__call__»
  simp only [h1', Bool.false_eq_true, if_false, h2', hct]
  refine wpS_then (wpAny_pure ?_)
  refine wpS_then (wpAny_of_eq ba_mro ?_)
  simp only [List.isEmpty_cons, Bool.false_eq_true, if_false]
  refine wpS_then (wpAny_of_eq ba_called.made ?_)
  dsimp only
  refine wpS_then (wpAny_pure ?_)
  refine wpS_then (wpAny_holding (wpAny_call (codeAny_mono (ba_new (A := A.in1) (E := fun _ _ => False) (.int n t) (Q₁ := fun v s' => v = .ref s.heap.objs.size ∧ s' = { s with heap := s.heap.push (baObj #[]) }) ⟨rfl, rfl⟩) fun r s' hr => ?_)))
  rcases r with e | (v | _ | _ | _) <;> first | exact hr.elim | skip
  obtain ⟨rfl, rfl⟩ := hr
  have hD : (s.heap.push (baObj #[])).get? s.heap.objs.size = some (baObj #[]) := Heap.get?_push_size _ rfl
  have hT : ({ s with heap := s.heap.push (baObj #[]) } : Shared).TypeIs (.ref s.heap.objs.size) "bytearray" := ⟨_, hD, rfl⟩
  refine wpS_then (wpAny_isInstance hT ba_sub ?_)
  simp only [Bool.not_true, Bool.false_eq_true, if_false]
  refine wpS_bind (wpS_holding ?_)
  unfold callSpecial?
  refine wpS_then (wpAny_specialOf hT ba_slot_init.lookup ?_)
  dsimp only
  refine wpS_holding ?_
  refine wpS_then (wpAny_of_eq (ba_slot_init.bind _) ?_)
  dsimp only
  refine wpS_bind (wpS_call (codeS_of_tree ?_))
  show wpS _ A.in1.in1 (do checkBuiltinCall "bytearray.__init__" ⟨[.ref s.heap.objs.size, .int n t], []⟩; again (.builtin "bytearray.__init__" ⟨[.ref s.heap.objs.size, .int n t], []⟩)) _ _
  refine wpS_then (ba_slot_init.check _ _ _ _ _ _ _ _ hT (ba_initArgs _ _) (wpS_pure ⟨plainId_quiet ba_plain_init _, rfl, codeS_builtin ba_entry_init ?_⟩))
  refine ba_init hD h0 h1 fun h' hk hD' => ?_
  dsimp only
  refine wpS_pure (wpS_pure ?_)
  dsimp only
  refine h h' (fun b o e => ?_) hD'
  have hb : b ≠ s.heap.objs.size := Nat.ne_of_lt (Heap.lt_size e)
  exact (hk b hb).trans (Heap.get?_push_of_some _ e)
end
end Mine
end
section
set_option maxRecDepth 100000
set_option maxHeartbeats 8000000
namespace Mine
open PySem.Sem (wp)
theorem ba_slot_set : Slot "bytearray" "__setitem__" "bytearray.__setitem__" :=
  .of (owner := "bytearray") (n := "__setitem__") (by rw [typeLookup_type, builtinLookup_eq_fast]; kernel_rfl) (by decide +kernel) (by decide +kernel) (by decide +kernel)
    (by first | exact .inl (by decide +kernel) | exact .inr (by decide +kernel)) (by rw [isSubtype_type]; kernel_rfl)
theorem ba_entry_set : entryFor table "bytearray.__setitem__" = some Builtin.«bytearray.__setitem__» := by first | exact entryFor_of_fast (by kernel_rfl) | exact entryFor_of_tree (by kernel_rfl)
theorem ba_args_set (a b c : Value) : argsOk "bytearray.__setitem__" ⟨[a, b, c], []⟩ := by unfold argsOk; kernel_rfl
section
variable {prog : Program} {w : World} {A : Around} {E : Value → Shared → Prop} {s : Shared}
theorem ba_setItem {D : Addr} {b : Array UInt8} {k x : Int} {t u : Tok} {Q : Unit → Shared → Prop} (hD : s.heap.get? D = some (baObj b)) (hz : b.size ≤ sizeLine)
    (h0 : 0 ≤ k) (h1 : k < b.size) (h2 : k < 2 ^ 63) (x0 : 0 ≤ x) (x1 : x < 256)
    (h : Q () { s with heap := s.heap.update D (Obj.mapBytearray (·.setIfInBounds k.toNat x.toNat.toUInt8)) }) : wpAny (model prog w) A (setItem (.ref D) (.int k t) (.int x u)) Q E s := by
  have hT : s.TypeIs (.ref D) "bytearray" := ⟨_, hD, rfl⟩
  unfold setItem
  try with_reducible refine wpAny_holding ?_
  first | refine wpAny_bind (wpAny_pure ?_) | skip
  refine wpAny_bind (wpAny_sequenceKey hT (by decide) ?_)
  refine wpAny_bind (wpAny_callSpecial?_slot (name := PySem.Str.ofString "__setitem__") hT ba_slot_set
    (wpAny_call_entry ba_slot_set hT ba_entry_set ?_ (ba_args_set _ _ _)))
  unfold Builtin.«bytearray.__setitem__»
  have e0 : (!(([] : List (PySem.Str × Value)).isEmpty)) = false := rfl
  simp only [e0, Bool.false_eq_true, if_false]
  refine wpAny_bind ?_
  unfold Builtin.Bytes.subscript?
  refine wpAny_bind (wpAny_specialOf (typeIs_int _ k t) ba_index ?_)
  simp only [Option.isNone_some, Bool.false_eq_true, if_false]
  refine wpAny_bind (wpAny_of_eq (rfl : asIndex (.int k t) = pure k) ?_)
  have f1 : (!Builtin.Bytes.fitsIndex k) = false := by
    unfold Builtin.Bytes.fitsIndex
    simp only [Bool.not_eq_false', Bool.and_eq_true, decide_eq_true_eq]
    omega
  refine bm_if_false f1 (wpAny_pure ?_)
  dsimp only
  refine wpAny_bind ?_
  unfold Builtin.Bytes.byteValue
  refine wpAny_bind (wpAny_of_eq (rfl : asIndex (.int x u) = pure x) ?_)
  refine bm_if_false (by simp only [Bool.or_eq_false_iff, decide_eq_false_iff_not]; omega) (wpAny_pure ?_)
  refine wpAny_bind ?_
  unfold Builtin.Bytes.payload Builtin.Bytes.payload?
  refine wpAny_bind (wpAny_bind (wpAny_load hD (wpAny_pure (wpAny_pure ?_))))
  have hseq : seqIndex? k b.size = some k.toNat := by
    unfold seqIndex?
    have : ¬ k < 0 := by omega
    simp only [this, if_false]
    rw [if_pos (by simp only [Bool.and_eq_true, decide_eq_true_eq]; omega)]
  rw [hseq]
  dsimp only
  refine wpAny_bind (ba_write hD (by rw [Array.size_setIfInBounds]; exact hz) ?_)
  exact wpAny_pure ⟨.none, rfl, wpAny_pure h⟩

theorem buf_ends : (!("bytearray.__buffer__".endsWith ("." ++ "__buffer__"))) = false := by decide +kernel
theorem buf_drop : "bytearray.__buffer__".dropRight ("__buffer__".length + 1) = "bytearray" := by decide +kernel
theorem slotOwn_buf {D : Addr} {Q : Bool → Shared → Prop} (hT : s.TypeIs (.ref D) "bytearray") (h : Q true s) : wpAny (model prog w) A (Builtin.Bytes.slotIsOwn (.ref D) "__buffer__") Q E s := by
  unfold Builtin.Bytes.slotIsOwn
  refine wpAny_bind (wpAny_specialOf hT ba_buffer ?_)
  dsimp only
  refine bm_if_false buf_ends ?_
  rw [buf_drop]
  exact wpAny_isInstance hT ba_sub h
/-- bytes(b) of a bytearray -/
theorem bytes_ba {D : Addr} {b : Array UInt8} {Q : Value → Shared → Prop} (hD : s.heap.get? D = some (baObj b)) (hz : b.size ≤ sizeLine)
    (h : ∀ t k, Q (.bytes b t) { s with toks := k }) : wpAny (model prog w) A (call (.type "bytes") [.ref D]) Q E s := by
  have hT : s.TypeIs (.ref D) "bytearray" := ⟨_, hD, rfl⟩
  refine callType_codes (Q₁ := fun obj s₁ => s₁.TypeIs obj "bytes" ∧ Q obj s₁) F.bm_called (F.bm_typeCall _) F.entry_object_init (?_) fun obj s₁ h₁ => ?_
  · refine codeAny_of_tree ?_
    show wpAny _ A.in1.in1 (do checkBuiltinCall "bytes.__new__" ⟨[.type "bytes", .ref D], []⟩; again (.builtin "bytes.__new__" ⟨[.type "bytes", .ref D], []⟩)) _ _ s
    refine wpAny_bind (wpAny_of_eq (F.bm_newCall _) (wpAny_pure ⟨plainId_quiet F.bm_plain _, codeAny_builtin F.bm_entry ?_⟩))
    rw [Around.under_plainId F.bm_plain _]
    unfold Builtin.«bytes.__new__»
    refine wpAny_bind (wpAny_of_eq (a := true) rfl ?_)
    refine bm_if_false rfl ?_
    refine wpAny_bind (wpAny_of_eq F.bm_sub ?_)
    refine bm_if_false rfl ?_
    refine wpAny_bind (wpAny_of_eq (F.bm_bind _) ?_)
    refine wpAny_bind (wpAny_of_eq (a := ()) rfl ?_)
    refine wpAny_bind (wpAny_of_eq (a := ()) rfl ?_)
    refine bm_if_false rfl ?_
    refine wpAny_bind (wpAny_specialOf hT ba_no_bytes ?_)
    refine wpAny_bind (wpAny_bind ?_)
    show wpAny _ _ (load D >>= _) _ _ _
    refine wpAny_bind (wpAny_load hD ?_)
    refine wpAny_pure (wpAny_pure ?_)
    refine bm_if_false rfl ?_
    refine wpAny_bind (wpAny_specialOf hT ba_no_index ?_)
    refine bm_if_true rfl ?_
    first
      | show wpAny _ _ (Builtin.Bytes.buffer? "bytes.__new__" (.ref D) true >>= _) _ _ _
      | (refine wpAny_bind ?_; show wpAny _ _ (Builtin.Bytes.buffer? "bytes.__new__" (.ref D) true >>= _) _ _ _)
    refine wpAny_bind ?_
    unfold Builtin.Bytes.buffer?
    refine wpAny_bind (wpAny_specialOf hT ba_buffer ?_)
    dsimp only
    refine wpAny_bind (slotOwn_buf hT ?_)
    refine bm_if_false rfl ?_
    refine wpAny_bind (wpAny_specialOf hT ba_buffer ?_)
    (try dsimp only)
    refine wpAny_bind (ownRel hT ?_)
    refine bm_if_false rfl ?_
    refine wpAny_bind ?_
    unfold Builtin.Bytes.payload Builtin.Bytes.payload?
    refine wpAny_bind (wpAny_bind (wpAny_load hD (wpAny_pure (wpAny_pure (wpAny_pure ?_)))))
    (try dsimp only)
    refine wpAny_bind (wpAny_rule (wpAny_bind (wpAny_mkBytes ?_ hz)))
    show wpAny _ _ (if (Value.type "bytes" == Value.type "bytes") = true then _ else _) _ _ _
    refine bm_if_true (by decide) ?_
    exact wpAny_pure ⟨PySem.W.typeIs_bytes _ _ _, h _ _⟩
  · exact ⟨h₁.1, F.args_object_init_2 obj _, object_init_meets F.bm_called.init.lookup F.bm_called.made (by decide) prog w A.in1 _ s₁ ⟨h₁.1, rfl, h₁.2⟩⟩
end
end Mine
end
section
set_option maxRecDepth 100000
set_option maxHeartbeats 8000000
namespace Mine
open PySem.Sem (wp)
theorem caller_clean : Clean ⟨.builtin "claim.caller" {}, none, none, [], none⟩ := ⟨by show heldIds.contains "claim.caller" = false; decide +kernel, fun _ h => nomatch h⟩
/-- a thread alone, its tree shown for the clean contexts, comes to its end -/
theorem endsS {prog : Program} {w : World} {t : Sem Fin} {s : Shared} {R : Flow → Shared → Prop} (hz : s.asleep)
    (h : wpS (model prog w) callerA t (fun fin s' => ∃ f, fin = .done f ∧ R f s' ∧ AllBare s'.gens) s) :
    ∃ n f s' s'', runN (denote table) prog w n s ⟨t, .builtin "claim.caller" {}, default, []⟩ = .halted (.done f) s'' ∧
      schedN (denote table) prog w n (.single s ⟨t, .builtin "claim.caller" {}, default, []⟩) = .halted (.done f) s'' ∧ s''.forget = s'.forget ∧ R f s' := by
  have hw := Sem.wp_mono (model prog w) _ t (post' := Sem.finPost (model prog w) ⟨.builtin "claim.caller" {}, none, none, [], none⟩ fun r s' => (∃ f, r = .ok f ∧ R f s') ∧ leftWithCleanup s'.gens = false)
    (exc' := fun e _ s' => (∃ f, (Except.error e : Result) = .ok f ∧ R f s') ∧ leftWithCleanup s'.gens = false)
    (fun fin p s' q => by obtain ⟨f, rfl, a, b⟩ := q; exact ⟨⟨f, rfl, a⟩, leftWithCleanup_false_of_bare b⟩) (fun _ _ _ q => q.elim) default s (h _ default caller_in caller_clean)
  obtain ⟨n, r, s', s'', a, b, c, f, rfl, d⟩ := wp_halts_full (M := model prog w) (R := fun r s' => ∃ f, r = .ok f ∧ R f s') hz hw
  exact ⟨n, f, s', s'', b, a, c, d⟩

/-- the walk that my head asks for: of the clean contexts, nothing raised -/
noncomputable abbrev WalkS (q : Program) (loose : List PySem.Str) (XP : (PySem.Str → Option Value) → Heap → Prop) (YP : World → Heap → Prop) (r : RowW) (d : DefRec) (kwd : List (PySem.Str × PySem.Expr)) : Prop :=
  ∀ (w : World) (s₀ s₁ : Shared) (mg mb : PySem.Str → Option Value), Ground q loose r.records XP w s₀ mg mb s₁.heap → YP w s₁.heap → ∀ (a : Addr) (o : Obj) (pm cd doc dV kV : Value), s₁.heap.get? a = some o →
    o.data = .func { docDef d.name d.params d.body d.scope pm cd doc with defaults := dV, kwdefaults := kV } → s₁.heap.CodeRec cd d.name → Dflts mg s₁.heap d.params kwd dV kV → mg d.name = some (.ref a) → s₁.gens = #[] →
    ∀ (args : List WData) (vals : List Value) (as : List Addr), r.claim.pre args = true → WData.layableAll args = true → ReadsAllW r.records (classAt s₀.heap) s₁.heap vals args as → WellAll w.params s₁.heap vals args → (∀ a ∈ as, (a == sysModules) = false) →
      wpS (model r.prog w) callerA (PySem.call (.ref a) vals) (fun v s' => GoodWG r.claim (classAt s₀.heap) (ExcName.means s₀.heap) args s₁ (.ok (.ret v)) s') s₁

end Mine
/-- the own head of the clean contexts, under a name of its own in Mine: the head's line, said within Mine, finds it there -/
theorem Mine.PySem.W.holds_open {r : OpenRow} {q : Program} {loose : List PySem.Str} {Xt : Shared → Bool} {XP : (PySem.Str → Option Value) → Heap → Prop} {α : Type} {Yf : Shared → α} {Ya : World → α} {YP : World → Heap → Prop} {d : DefRec} {kwd : List (PySem.Str × PySem.Expr)} {N : Nat}
    (left : LeftO r.prog q loose Xt Yf Ya N) (hY : ∀ w s, Yf s = Ya w → YP w s.heap) (hYk : ∀ w h h', YP w h → (∀ b o, h.get? b = some o → h'.get? b = some o) → YP w h')
    (hX : ∀ s, Xt s = true → XP (s.heap.nsMap mainGlobals) s.heap) (hXk : ∀ mg h h', XP mg h → (∀ b o, h.get? b = some o → h'.get? b = some o) → XP mg h')
    (hdef : defOf q r.name = some (d, kwd)) (hp : r.prog.theDef r.name = some (d.params, d.body, d.scope)) (hk : kwWritten? d.params.kwonlyargs d.params.kw_defaults = some kwd) (hRf : ∀ s, Xt s = true → RecFacts r.records s.heap) (hwr : (!r.writes || r.records.isEmpty) = true)
    (k1 : r.wellSaid = true) (ok : (chainsOk q && opensWell r.prog && (frees r.toRowW && r.within.isEmpty)) = true) (hb : r.prog.bare) (hw : r.toRowW.promised)
    (call : WalkS q loose XP YP r.toRowW d kwd) : r.Holds := by
  obtain ⟨⟨hch, hop⟩, hfr, hwi⟩ := (Bool.and_eq_true_iff.mp ok).imp Bool.and_eq_true_iff.mp Bool.and_eq_true_iff.mp
  obtain ⟨hsame, hu, ha, hap, hm⟩ := frees_parts hfr
  refine ⟨k1, hw, ⟨hb, hop, by show r.makers.map _ = []; rw [hm]; rfl⟩, hw.witness, fun w => ?_⟩
  have BH := left.behind (XP := fun mg h => XP mg h ∧ RecFacts r.toRowW.records h) (fun s hs => ⟨hX s hs, hRf s hs⟩) hch w
  refine ⟨BH.1, fun s' hs' => ?_⟩
  obtain ⟨s₀, hf, hg0, s, hT, hz, hge, hg, G2, y⟩ := BH.2 s' hs'
  obtain ⟨gX, RF⟩ := G2.X
  have G0 : Ground q loose [] XP w s (s.heap.nsMap mainGlobals) (s.heap.nsMap builtinsNs) s.heap := { G2 with X := gX }
  have hge : s.gens = #[] := Array.eq_empty_of_size_eq_zero (beq_iff_eq.mp hge)
  have G : Ground q loose r.toRowW.records XP w s _ _ s.heap := RF.ground G0
  refine ⟨s₀, hf, hg0, s, hT, fun n hn => ?_, RF.1, RF.2.1, fun args hpre hlay ord hord => ?_⟩
  · have e : n = r.name := by
      cases hpn : r.pinned with
      | true => rw [hpn] at hn; exact List.mem_singleton.mp hn
      | false => rw [hpn] at hn; cases hn
    subst e
    exact pinned_of_view hg G0 hdef hp hk
  obtain ⟨⟨vs, s₁⟩, hlaid⟩ := Option.isSome_iff_exists.mp (layAllW_isSome (P := w.params) (ord := ord) G.has args r.toRowW.args s (pre_splitW hpre).1)
  have keeps := layAllW_keeps _ _ _ hlaid
  have rest := layAllW_rest _ _ _ hlaid
  obtain ⟨as, hrd, hin, hold⟩ := reads_layAllW hord _ _ _ hlaid hlay s₁.heap (fun _ _ e => e)
  have L : Laid r.toRowW.records w s s₁ args vs as := ⟨⟨ord, hord, hlaid⟩, hrd, hin, hold, keeps, rest.1.trans hge, rest.2.2.1⟩
  have G₁ := G.keeps hXk keeps
  obtain ⟨a, o, pm, cd, doc, dV, kV, f1, f2, f3, f4, f5⟩ := G₁.fn hdef
  have W := call w s s₁ _ _ G₁ (hYk _ _ _ (hY w s y) keeps) a o pm cd doc dV kV f2 f3 f4 f5 (defOf_name hdef ▸ f1) L.gens args vs as hpre hlay L.reads L.well (L.low G.low)
  obtain ⟨n, f, t', t'', hrun, hsch, hfo, v, rfl, hgood⟩ := endsS (prog := r.prog) (w := w) (s := s₁)
    (t := (callStub r.name vs).cur)
    (R := fun f s' => ∃ v, f = .ret v ∧ GoodWG r.toRowW.claim (classAt s.heap) (ExcName.means s.heap) args s₁ (.ok (.ret v)) s')
    (Shared.asleep_of_life rest.2.2.2 hz)
    (wpS_then (wpAny_nsGet G₁.T.g (by rw [f1]; exact wpS_bind (wpS_mono W fun v s' g => wpS_pure ⟨_, rfl, ⟨v, rfl, g⟩, g.2.2.2⟩))))
  obtain ⟨z1, z2, _⟩ := hgood.laid (c := r.toRowW.claim) hsame (List.isEmpty_iff.mp hwi) (ident_freeW hu ha hap) L
  obtain ⟨eh, _, _, eo, _⟩ := Shared.forget_eq hfo
  have z3 := z1.congr eh
  have hkp : r.writes = true → namesKept r.prog r.keeps s.heap t''.heap ∧ ∀ x ∈ r.toRowW.records, ∀ a, classAt s.heap x.1 = some a → recordClass t''.heap a x.1 (x.2.map (·.1)) = true := by
    rw [eh]
    exact fun q => ⟨namesKept_of hT hg r.keeps keeps hgood.2.1.old, noTable hwr q⟩
  refine ⟨vs, s₁, hlaid, n, _, t'', hsch, ?_, (fun _ i x hx => by rw [hge] at hx; simp at hx), hkp, ?_, ?_⟩
  · rcases z3 with ⟨v, e1, d1, d2, d3, d4, d5⟩ | ⟨e, ob, cls, e1, _⟩
    · cases e1
      exact .inl ⟨v, rfl, d1, d2, d3, fun b o y _ => d4 b o y, d5⟩
    · cases e1
  · exact congrArg Life.seen ((runN_life _ _ _ hrun).trans rest.2.2.2)
  · exact Shared.rest_eq (eo.trans z2)
end
section
set_option maxRecDepth 100000
set_option maxHeartbeats 8000000
namespace Mine
open_top hd for PySem.Challenge.rw_zo0035_01
end Mine
end
section
set_option maxRecDepth 100000
set_option maxHeartbeats 8000000
namespace Mine
theorem room0 {u d lim : Nat} (h : u + d < lim) : u < lim := Nat.lt_of_le_of_lt (Nat.le_add_right u d) h
theorem room1 {u d lim a : Nat} (h : u + d < lim) (k : a ≤ d) : u + a < lim := Nat.lt_of_le_of_lt (Nat.add_le_add_left k u) h
theorem room2 {u d lim a b : Nat} (h : u + d < lim) (k : a + b ≤ d) : u + a + b < lim := Nat.add_assoc u a b ▸ room1 h k
theorem room3 {u d lim a b c : Nat} (h : u + d < lim) (k : a + (b + c) ≤ d) : u + a + b + c < lim := Nat.add_assoc (u + a) b c ▸ room2 h k
theorem room4 {u d lim a b c e : Nat} (h : u + d < lim) (k : a + (b + (c + e)) ≤ d) : u + a + b + c + e < lim := Nat.add_assoc (u + a + b) c e ▸ room3 h k

noncomputable abbrev ZAddr := Addr
noncomputable abbrev ZStr := PySem.Str
noncomputable abbrev ZVal := Value
noncomputable abbrev PRG : Program := PySem.Challenge.rw_zo0035_01.row.prog

/-- all that h holds but at X stands in h' -/
noncomputable def StayX (X : List Addr) (h h' : Heap) : Prop := ∀ b o, b ∉ X → h.get? b = some o → h'.get? b = some o
theorem StayX.nil {h h' : Heap} (x : StayX [] h h') (b : Addr) (o : Obj) (e : h.get? b = some o) : h'.get? b = some o := x b o (by simp) e
theorem StayX.trans {X : List Addr} {a b c : Heap} (x : StayX X a b) (y : StayX X b c) : StayX X a c := fun d o hd e => y d o hd (x d o hd e)
theorem StayX.list {X : List Addr} {h h' : Heap} {l : Addr} {its : Array Value} (x : StayX X h h') (hl : l ∉ X) (y : h.IsList l its) : h'.IsList l its := by
  obtain ⟨o, ho, r⟩ := y
  exact ⟨o, x l o hl ho, r⟩

/-- what a call of the def at f does, for any caller -/
noncomputable def Sp (w : World) (f : Addr) (d u : Nat) (X : List Addr) (vs : List Value) (Pre : Heap → Prop) (Post : Heap → Value → Heap → Prop) : Prop :=
  ∀ (dp un : Nat) (gd : Option (List Code)) (cn : PySem.Str) (cs : Scope) (a : Addr) (ccd : Value) (cl : List (PySem.Str × Addr)) (outer : List Env) (A₀ : Around) (base h₀ : Heap) (L : Addr) (m : PySem.Str → Option Value) (s : Shared) (Q E : Value → Shared → Prop)
    (p : Program) (loose : List PySem.Str) (mean : ExcName → Option Value) (mg mb : PySem.Str → Option Value),
    Below A₀ base outer h₀ → Fr h₀ L s.heap m → Frag.In (hd.heap_39 w.params) h₀ → Top p loose mean mg mb h₀ → cs.kind = .function → (∀ x ∈ X, x ≠ L ∧ h₀.get? x = none) → Pre s.heap →
    dp + d < recursionLimit → un + u < cLine →
    (∀ v h' tk', StayX X s.heap h' → Post s.heap v h' → Q v { s with heap := h', toks := tk' }) →
    wpAny (model PySem.Challenge.rw_zo0035_01.row.prog w) (ktrTop dp un gd cn cs L a ccd cl outer) (call (.ref f) vs) Q E s

theorem fr_stay {X : List Addr} {h₀ h h' : Heap} {L : Addr} {m : PySem.Str → Option Value} (F : Fr h₀ L h m) (hX : ∀ x ∈ X, x ≠ L ∧ h₀.get? x = none) (S : StayX X h h') : Fr h₀ L h' m := by
  obtain ⟨oL, es, ep, hL, r⟩ := F.ns
  refine ⟨⟨oL, es, ep, S L oL (fun q => (hX L q).1 rfl) hL, r⟩, fun b o e => S b o (fun q => ?_) (F.keep b o e), F.above⟩
  have := (hX b q).2
  rw [e] at this; cases this
theorem news_stay {h₀ h h' : Heap} {L : Addr} {news : List (Addr × Obj)} (N : News h₀ L h news) (S : StayX [] h h') : News h₀ L h' news := fun p hp => ⟨S _ _ (by simp) (N p hp).1, (N p hp).2⟩
/-- v is a new object in h', none of h's -/
noncomputable def NewAt (h : Heap) (v : Value) (o : Obj) (h' : Heap) : Prop := ∃ D, v = .ref D ∧ h.get? D = none ∧ h'.get? D = some o
theorem news_new {h₀ h h' : Heap} {L : Addr} {m : PySem.Str → Option Value} {news : List (Addr × Obj)} {D : Addr} {o : Obj} (F : Fr h₀ L h m) (N : News h₀ L h' news) (hD : h.get? D = none) (ho : h'.get? D = some o) :
    News h₀ L h' ((D, o) :: news) := by
  obtain ⟨oL, _, _, hL, _⟩ := F.ns
  intro p hp
  rcases List.mem_cons.mp hp with rfl | hp
  · refine ⟨ho, fun q => ?_, ?_⟩
    · have q' : D = L := q
      subst q'
      rw [hD] at hL; cases hL
    · cases hq : h₀.get? D with
      | none => rfl
      | some o' => have := F.keep _ _ hq; rw [hD] at this; cases this
  · exact N p hp
noncomputable def AllNe (d : Nat) : List (Addr × Obj) → Prop
  | [] => True
  | p :: r => @Ne Nat p.1 d ∧ AllNe d r
theorem allNe_of {h₀ h : Heap} {L : Addr} {news : List (Addr × Obj)} {D : Addr} (N : News h₀ L h news) (hD : h.get? D = none) : AllNe D news := by
  induction news with
  | nil => trivial
  | cons p r ih =>
    refine ⟨fun q => ?_, ih fun q hq => N q (.tail _ hq)⟩
    have := (N p (.head _)).1
    rw [q, hD] at this; cases this
/-- the end of a callee: an object of its ledger is new to the caller -/
theorem newAt_of {X : List Addr} {h g h' : Heap} {L : Addr} {news : List (Addr × Obj)} {D : Addr} {o : Obj} (hg : StayX X h g) (hX : D ∉ X) (N : News g L h' news) (hm : (D, o) ∈ news) : NewAt h (.ref D) o h' := by
  refine ⟨D, rfl, ?_, (N _ hm).1⟩
  cases q : h.get? D with
  | none => rfl
  | some o' => have := hg _ _ hX q; rw [(N _ hm).2.2] at this; cases this
theorem news_lt {h₀ h : Heap} {L : Addr} {news : List (Addr × Obj)} {D : Addr} (N : News h₀ L h news) (hD : h.objs.size ≤ D) : ∀ p ∈ news, p.1 < D := fun p hp => Nat.lt_of_lt_of_le (Heap.lt_size (N p hp).1) hD

section
variable {w : World} {f : Addr} {d u : Nat} {vs : List Value} {Pre : Heap → Prop} {Post : Heap → Value → Heap → Prop} {dp un : Nat} {gd : Option (List Code)} {cn : PySem.Str} {cs : Scope} {a : Addr} {ccd : Value} {cl : List (PySem.Str × Addr)} {outer : List Env} {A₀ : Around} {base h₀ : Heap} {L : Addr} {m : PySem.Str → Option Value} {s : Shared} {Q E : Value → Shared → Prop}
    {p : Program} {loose : List PySem.Str} {mean : ExcName → Option Value} {mg mb : PySem.Str → Option Value} {news : List (Addr × Obj)}
/-- a call of a def that changes nothing that stands -/
theorem use0 (S : Sp w f d u [] vs Pre Post) (B : Below A₀ base outer h₀) (F : Fr h₀ L s.heap m) (KX : Frag.In (hd.heap_39 w.params) h₀) (T : Top p loose mean mg mb h₀) (N : News h₀ L s.heap news) (hk : cs.kind = .function) (hp : Pre s.heap) (h1 : dp + d < recursionLimit) (h2 : un + u < cLine)
    (h : ∀ v h' tk', StayX [] s.heap h' → Fr h₀ L h' m → News h₀ L h' news → Post s.heap v h' → Q v { s with heap := h', toks := tk' }) :
    wpAny (model PySem.Challenge.rw_zo0035_01.row.prog w) (ktrTop dp un gd cn cs L a ccd cl outer) (call (.ref f) vs) Q E s :=
  S dp un gd cn cs a ccd cl outer A₀ base h₀ L m s Q E p loose mean mg mb B F KX T hk (by intro _ hx; cases hx) hp h1 h2 fun v h' tk' st po => h v h' tk' st (fr_stay F (by intro _ hx; cases hx) st) (news_stay N st) po
end

section
variable {prog : Program} {w : World} {A₀ A : Around} {s : Shared} {base h₀ : Heap} {outer : List Env} {L : Addr} {m mg mb : PySem.Str → Option Value} {env : Env} {news : List (Addr × Obj)} {K : Frag} {p : Program} {loose : List PySem.Str} {mean : ExcName → Option Value}
  {R : Result → Shared → Prop} {name qual : PySem.Str} {params : Arguments} {body : List Stmt} {scope : Scope} {cl : List (PySem.Str × Addr)} {dV kV doc pm cdv ct : Value} {an : Option Addr} {fo : Obj} {f : Addr} {args : Args} {binds : List (PySem.Str × Value)}

theorem top_hide (T : Top p loose mean mg mb h₀) {g : Heap} (st : h₀.StaysIn g) : Top p loose mean mg mb g := T.keeps st

/-- a def is entered; the ledger in hand is laid aside, all else is the new base, and that is said -/
theorem enter0 {oc : Value} {od : Option Addr} {osl : Array (Option Value)} (B : Below A₀ base outer h₀) (F : Fr h₀ L s.heap m) (X₀ : K.In h₀) (N : News h₀ L s.heap news) (T : Top p loose mean mg mb h₀) (hA : A.frames = some (env :: outer)) (hf : env.frame = some L) (hke : env.scope.kind = .function)
    (ho : K.lookup f = some ⟨oc, od, .func (fnOf name qual params body scope dV kV doc pm an cdv ct), osl⟩) (hcd : codeIn K cdv qual = true) (hroom : A.depth < recursionLimit)
    (hbind : BindsTo s (fnOf name qual params body scope dV kV doc pm an cdv ct) args binds) (hloc : ∀ y ∈ binds, scope.names.lookup y.1 = some .local)
    (h : ∀ g L' h₁, StayX (news.map (·.1)) s.heap g → Fr g L' h₁ (fun y => binds.reverse.lookup y) → News g L' h₁ news → Below A base (env :: outer) g → K.In g → Top p loose mean mg mb g →
      wpAny (model prog w) (A.deeper (envOf qual scope L' f cdv)) (execs body (envOf qual scope L' f cdv))
        (fun fl s' => LeaveK h₀ L m g R (match fl with | .ret v => v | _ => .none) s')
        (fun e s' => wpAny (model prog w) (A.deeper (envOf qual scope L' f cdv)) (leaving (envOf qual scope L' f cdv) e) (fun _ s'' => R (.error e) s'') (fun e' s'' => R (.error e') s'') s')
        { s with heap := h₁, toks := s.toks + binds.length })
    (hco : scope.isCoroutine = false) (hgen : scope.isGenerator = false) (hk : scope.kind = .function)
    (hcell : ∀ x ∈ scope.names, x.2 ≠ .cell) : codeAny (model prog w) A (.call (.ref f) args) R s := by
  obtain ⟨FG, BG, st, lv⟩ := groundX (R := R) B F N hA hf hke
  have o1 := (X₀.keeps F.keep) _ _ ho
  refine codeAny_call_def (fd := fnOf name qual params body scope dV kV doc pm an cdv ct) (body := body) (binds := binds) hroom o1 rfl (T.nolimit.keeps F.keep) (codeRec_of (X₀.keeps F.keep) hcd) rfl hbind hcell hloc (fun h₁ hns hk₁ => ?_) hco hgen hk
  exact wpAny_mono (h _ s.heap.objs.size h₁ (fun b o hb e => hideAll_get _ e hb) ⟨hns, fun b o e => hk₁ b o (of_hideAll _ e), Nat.le_of_eq (hideAll_size _ _)⟩
    (fun q hq => ⟨hk₁ _ _ (N q hq).1, Nat.ne_of_lt (Heap.lt_size (N q hq).1), hideAll_none _ (List.mem_map_of_mem hq)⟩) BG (X₀.keeps st) (T.keeps st)) (fun fl s' hl => lv _ _ hl) fun _ _ y => y
end
end Mine
namespace Mine
/-- the walk stops here -/
structure Halt (P : Prop) : Prop where
  out : P
theorem halt {P : Prop} (h : Halt P) : P := h.out
theorem fr_ex {h₀ h : Heap} {L : Addr} {m : PySem.Str → Option Value} (F : Fr h₀ L h m) : ∃ m', m' = m ∧ Fr h₀ L h m' := ⟨m, rfl, F⟩
theorem news_ex {h₀ h : Heap} {L : Addr} {n : List (Addr × Obj)} (F : News h₀ L h n) : ∃ m', m' = n ∧ News h₀ L h m' := ⟨n, rfl, F⟩
end Mine
namespace Mine
theorem ws2_next {h₀ h' : Heap} {L : Addr} {s : Shared} {J : Nat → (PySem.Str → Option Value) → List (Addr × Obj) → Prop} {Q : Flow → Shared → Prop} {n n' tk : Nat} {m₂ : PySem.Str → Option Value} {news₂ : List (Addr × Obj)}
    (F : Fr h₀ L h' m₂) (N : News h₀ L h' news₂) (hlt : n' < n) (hJ : J n' m₂ news₂) : WhileStep2 h₀ L s J Q n .next { s with heap := h', toks := tk } := ⟨h', tk, m₂, news₂, n', rfl, F, N, hlt, hJ⟩
end Mine
end
section
set_option maxRecDepth 100000
set_option maxHeartbeats 8000000
namespace Mine
/-- Sp, of the clean contexts -/
noncomputable def SpS (w : World) (f : Addr) (d u : Nat) (vs : List Value) (Pre : Heap → Prop) (Post : Heap → Value → Heap → Prop) : Prop :=
  ∀ (dp un : Nat) (gd : Option (List Code)) (cn : PySem.Str) (cs : Scope) (a : Addr) (ccd : Value) (cl : List (PySem.Str × Addr)) (outer : List Env) (A₀ : Around) (base h₀ : Heap) (L : Addr) (m : PySem.Str → Option Value) (s : Shared) (Q : Value → Shared → Prop)
    (p : Program) (loose : List PySem.Str) (mean : ExcName → Option Value) (mg mb : PySem.Str → Option Value),
    Below A₀ base outer h₀ → Fr h₀ L s.heap m → Frag.In (hd.heap_39 w.params) h₀ → Top p loose mean mg mb h₀ → cs.kind = .function → Pre s.heap →
    dp + d < recursionLimit → un + u < cLine →
    (∀ v h' tk', StayX [] s.heap h' → Post s.heap v h' → Q v { s with heap := h', toks := tk' }) →
    wpS (model PySem.Challenge.rw_zo0035_01.row.prog w) (ktrTop dp un gd cn cs L a ccd cl outer) (call (.ref f) vs) Q s
section
variable {w : World} {f : Addr} {d u : Nat} {vs : List Value} {Pre : Heap → Prop} {Post : Heap → Value → Heap → Prop} {dp un : Nat} {gd : Option (List Code)} {cn : PySem.Str} {cs : Scope} {a : Addr} {ccd : Value} {cl : List (PySem.Str × Addr)} {outer : List Env} {A₀ : Around} {base h₀ : Heap} {L : Addr} {m : PySem.Str → Option Value} {s : Shared} {Q : Value → Shared → Prop}
    {p : Program} {loose : List PySem.Str} {mean : ExcName → Option Value} {mg mb : PySem.Str → Option Value} {news : List (Addr × Obj)}
theorem useS (S : SpS w f d u vs Pre Post) (B : Below A₀ base outer h₀) (F : Fr h₀ L s.heap m) (KX : Frag.In (hd.heap_39 w.params) h₀) (T : Top p loose mean mg mb h₀) (N : News h₀ L s.heap news) (hk : cs.kind = .function) (hp : Pre s.heap) (h1 : dp + d < recursionLimit) (h2 : un + u < cLine)
    (h : ∀ v h' tk', StayX [] s.heap h' → Fr h₀ L h' m → News h₀ L h' news → Post s.heap v h' → Q v { s with heap := h', toks := tk' }) :
    wpS (model PySem.Challenge.rw_zo0035_01.row.prog w) (ktrTop dp un gd cn cs L a ccd cl outer) (call (.ref f) vs) Q s :=
  S dp un gd cn cs a ccd cl outer A₀ base h₀ L m s Q p loose mean mg mb B F KX T hk hp h1 h2 fun v h' tk' st po => h v h' tk' st (fr_stay F (by intro _ hx; cases hx) st) (news_stay N st) po
end
section
variable {prog : Program} {w : World} {A₀ A : Around} {s : Shared} {base h₀ : Heap} {outer : List Env} {L : Addr} {m mg mb : PySem.Str → Option Value} {env : Env} {news : List (Addr × Obj)} {K : Frag} {p : Program} {loose : List PySem.Str} {mean : ExcName → Option Value}
  {R : Result → Shared → Prop} {name qual : PySem.Str} {params : Arguments} {body : List Stmt} {scope : Scope} {cl : List (PySem.Str × Addr)} {dV kV doc pm cdv ct : Value} {an : Option Addr} {fo : Obj} {f : Addr} {args : Args} {binds : List (PySem.Str × Value)}
/-- a def is entered, nothing laid aside -/
theorem enterS {oc : Value} {od : Option Addr} {osl : Array (Option Value)} (B : Below A₀ base outer h₀) (F : Fr h₀ L s.heap m) (X₀ : K.In h₀) (T : Top p loose mean mg mb h₀) (hA : A.frames = some (env :: outer)) (hf : env.frame = some L) (hke : env.scope.kind = .function)
    (ho : K.lookup f = some ⟨oc, od, .func (fnOf name qual params body scope dV kV doc pm an cdv ct), osl⟩) (hcd : codeIn K cdv qual = true) (hroom : A.depth < recursionLimit)
    (hbind : BindsTo s (fnOf name qual params body scope dV kV doc pm an cdv ct) args binds) (hloc : ∀ y ∈ binds, scope.names.lookup y.1 = some .local)
    (h : ∀ g L' h₁, StayX [] s.heap g → Fr g L' h₁ (fun y => binds.reverse.lookup y) → News g L' h₁ [] → Below A base (env :: outer) g → K.In g → Top p loose mean mg mb g →
      wpS (model prog w) (A.deeper (envOf qual scope L' f cdv)) (execs body (envOf qual scope L' f cdv))
        (fun fl s' => R (.ok (.ret (match fl with | .ret v => v | _ => .none))) s') { s with heap := h₁, toks := s.toks + binds.length })
    (hco : scope.isCoroutine = false) (hgen : scope.isGenerator = false) (hk : scope.kind = .function)
    (hcell : ∀ x ∈ scope.names, x.2 ≠ .cell) : codeS (model prog w) A (.call (.ref f) args) R s := by
  obtain ⟨FG, BG, st, lv⟩ := groundX (R := R) B F (News.nil : News h₀ L s.heap []) hA hf hke
  have o1 := (X₀.keeps F.keep) _ _ ho
  refine codeS_call_function (fd := fnOf name qual params body scope dV kV doc pm an cdv ct) (body := body) hroom o1 rfl hco hgen rfl (codeRec_of (X₀.keeps F.keep) hcd) (hbind _ _ _ _ ?_)
  refine wpAny_newFunctionEnv hcell hloc (fun h₁ hns hsb => ⟨(T.nolimit.keeps F.keep).fresh _ hsb, codeS_func (?_)⟩) hk
  exact h _ s.heap.objs.size h₁ (fun b o hb e => hideAll_get _ e hb) ⟨hns, fun b o e => hsb.extBut b o (Nat.ne_of_lt (Heap.lt_size (of_hideAll _ e))) (Heap.get?_push_of_some _ (of_hideAll _ e)), Nat.le_of_eq (hideAll_size _ _)⟩
    (fun q hq => nomatch hq) BG (X₀.keeps st) (T.keeps st)
end
end Mine
end
section
set_option maxRecDepth 100000
set_option maxHeartbeats 8000000
namespace Mine
section
variable {prog : Program} {w : World} {A : Around} {E : Value → Shared → Prop} {s : Shared} {env : Env} {h₀ : Heap} {x : PySem.Str} {body : List Stmt} {Q : Flow → Shared → Prop}
noncomputable def TurnEnd (h₀ : Heap) (L : Addr) (J : (PySem.Str → Option Value) → List (Addr × Obj) → Prop) (I : Addr) (o : Obj) (s : Shared) (f : Flow) (s₂ : Shared) : Prop :=
  f = .next ∧ ∃ h' tk' m' news', s₂ = { s with heap := h', toks := tk' } ∧ Fr h₀ L h' m' ∧ News h₀ L h' ((I, o) :: news') ∧ (∀ p ∈ news', p.1 ≠ I) ∧ J m' news'
theorem turn_end {L : Addr} {J : (PySem.Str → Option Value) → List (Addr × Obj) → Prop} {I : Addr} {o : Obj} {h' : Heap} {tk' : Nat} {m' : PySem.Str → Option Value} {news' : List (Addr × Obj)}
    (F : Fr h₀ L h' m') (N : News h₀ L h' ((I, o) :: news')) (hne : ∀ p ∈ news', p.1 ≠ I) (hJ : J m' news') : TurnEnd h₀ L J I o s .next { s with heap := h', toks := tk' } := ⟨rfl, h', tk', m', news', rfl, F, N, hne, hJ⟩
theorem krsRest_of {I : Addr} {a c : Int} {n : Nat} (J : Nat → (PySem.Str → Option Value) → List (Addr × Obj) → Prop)
    (turn : ∀ i m₁ news₁ t h tk, i < n → J i m₁ news₁ → Fr h₀ env.locals h (fun y => if y = x then some (.int (a + (i : Int) * c) t) else m₁ y) → News h₀ env.locals h ((I, krsIt (a + ((i + 1 : Nat) : Int) * c) ((n : Int) - ((i + 1 : Nat) : Int)) c) :: news₁) →
      wpAny (model prog w) A (execs body env) (TurnEnd h₀ env.locals (J (i + 1)) I (krsIt (a + ((i + 1 : Nat) : Int) * c) ((n : Int) - ((i + 1 : Nat) : Int)) c) { s with heap := h, toks := tk }) E { s with heap := h, toks := tk })
    (done : ∀ m₁ news₁ h tk, J n m₁ news₁ → Fr h₀ env.locals h m₁ → News h₀ env.locals h news₁ → Q .next { s with heap := h, toks := tk }) :
    ∀ (k i : Nat) (m : PySem.Str → Option Value) (news : List (Addr × Obj)), i + k = n → J i m news → KrsRest prog w A E h₀ env x body Q s I a c n k i m news
  | 0, i, m, news, hk, hJ => by
    have : i = n := by omega
    subst this
    exact fun h tk F N => done m news h tk hJ F N
  | k + 1, i, m, news, hk, hJ => by
    intro t h tk F N
    refine wpAny_mono (turn i m news t h tk (by omega) hJ F N) (fun f s₂ q => ?_) fun _ _ e => e
    obtain ⟨rfl, h', tk', m', news', rfl, F', N', hne, hJ'⟩ := q
    exact ⟨h', tk', m', news', rfl, F', N', hne, krsRest_of J turn done k (i + 1) m' news' (by omega) hJ'⟩
end
theorem news_ba {h₀ h h' : Heap} {L D : Addr} {m : PySem.Str → Option Value} {news : List (Addr × Obj)} {o : Obj} (F : Fr h₀ L h m) (N : News h₀ L h news) (hk : ∀ b o, h.get? b = some o → h'.get? b = some o) (hD : h.get? D = none) (ho : h'.get? D = some o) :
    Fr h₀ L h' m ∧ News h₀ L h' ((D, o) :: news) :=
  have S : StayX [] h h' := fun b o _ e => hk b o e
  ⟨fr_stay F (by intro _ hx; cases hx) S, news_new F (news_stay N S) hD ho⟩
theorem get_size (h : Heap) : h.get? h.objs.size = none := by
  cases e : h.get? h.objs.size with
  | none => rfl
  | some o => exact absurd (Heap.lt_size e) (Nat.lt_irrefl _)
theorem upd_first {h₀ h : Heap} {L D : Addr} {m : PySem.Str → Option Value} {pre post : List (Addr × Obj)} {o o' : Obj} {f : Obj → Obj} (F : Fr h₀ L h m) (N : News h₀ L h (pre ++ (D, o) :: post)) (h1 : ∀ p ∈ pre, p.1 ≠ D) (h2 : ∀ p ∈ post, p.1 ≠ D) (e : f o = o') (hf : o'.isFreed = false) :
    Fr h₀ L (h.update D f) m ∧ News h₀ L (h.update D f) (pre ++ (D, o') :: post) := news_upd F N h1 h2 e hf

/-- the first j of x from behind -/
noncomputable def revB (x : Array UInt8) : Nat → Array UInt8
  | 0 => Array.replicate x.size 0
  | j + 1 => (revB x j).setIfInBounds (x.size - 1 - j) (x.getD j 0)
theorem revB_size (x : Array UInt8) : ∀ j, (revB x j).size = x.size
  | 0 => by simp [revB]
  | j + 1 => by simp [revB, revB_size x j]
theorem revB_at (x : Array UInt8) : ∀ j, j ≤ x.size → ∀ i, i < x.size → (revB x j)[i]? = some (if x.size - j ≤ i then x.getD (x.size - 1 - i) 0 else 0)
  | 0, _, i, hi => by
    rw [if_neg (by omega)]
    simp [revB, hi]
  | j + 1, hj, i, hi => by
    simp only [revB]
    rw [Array.getElem?_setIfInBounds]
    by_cases h : x.size - 1 - j = i
    · subst h
      rw [if_pos rfl, if_pos (by rw [revB_size]; exact hi), if_pos (by omega)]
      congr 2; omega
    · rw [if_neg h, revB_at x j (by omega) i hi]
      congr 1
      by_cases h2 : x.size - j ≤ i
      · rw [if_pos h2, if_pos (by omega)]
      · rw [if_neg h2, if_neg (by omega)]
theorem revB_all (x : Array UInt8) : revB x x.size = x.reverse := by
  apply Array.ext_getElem?
  intro i
  by_cases hi : i < x.size
  · rw [revB_at x x.size (Nat.le_refl _) i hi, if_pos (by omega)]
    rw [Array.getElem?_reverse hi]
    have : x.size - 1 - i < x.size := by omega
    simp [Array.getD, this]
  · rw [Array.getElem?_eq_none (by rw [revB_size]; omega), Array.getElem?_eq_none (by simp; omega)]
end Mine
end
section
set_option maxRecDepth 100000
set_option maxHeartbeats 8000000
set_option autoImplicit false
namespace Mine
section
variable {prog : Program} {w : World} {A₀ A : Around} {s : Shared} {base h₀ : Heap} {outer : List Env} {L : Addr} {m mg mb : PySem.Str → Option Value} {env : Env} {news : List (Addr × Obj)} {K : Frag} {p : Program} {loose : List PySem.Str} {mean : ExcName → Option Value}
  {R : Result → Shared → Prop} {name qual : PySem.Str} {params : Arguments} {body : List Stmt} {scope : Scope} {cl : List (PySem.Str × Addr)} {dV kV doc pm cdv ct : Value} {an : Option Addr} {fo : Obj} {f : Addr} {args : Args} {binds : List (PySem.Str × Value)}
/-- a def with cells is entered, the given ledger laid aside -/
theorem enterC {oc : Value} {od : Option Addr} {osl : Array (Option Value)} (B : Below A₀ base outer h₀) (F : Fr h₀ L s.heap m) (X₀ : K.In h₀) (N : News h₀ L s.heap news) (T : Top p loose mean mg mb h₀) (hA : A.frames = some (env :: outer)) (hf : env.frame = some L) (hke : env.scope.kind = .function)
    (ho : K.lookup f = some ⟨oc, od, .func (fnOf name qual params body scope dV kV doc pm an cdv ct), osl⟩) (hcd : codeIn K cdv qual = true) (hroom : A.depth < recursionLimit)
    (hbind : BindsTo s (fnOf name qual params body scope dV kV doc pm an cdv ct) args binds) (hkind : (binds.all fun y => scope.names.lookup y.1 == some .local || scope.names.lookup y.1 == some .cell) = true)
    (hnd : ((cellsFrom 0 scope.names []).map (·.1)).Nodup)
    (h : ∀ g L' h₁ tk cells, StayX (news.map (·.1)) s.heap g → Fr g L' h₁ (bindL (envOfC qual scope L' f cdv).kindOf binds fun _ => none) → News g L' h₁ (cells ++ news) →
      CellsAre (bindC (envOfC qual scope L' f cdv).kindOf binds fun _ => none) (cellsFrom (L' + 1) scope.names []) cells → Below A base (env :: outer) g → K.In g → Top p loose mean mg mb g → (∀ p ∈ news, p.1 < L') →
      wpAny (model prog w) (A.deeper (envOfC qual scope L' f cdv)) (execs body (envOfC qual scope L' f cdv))
        (fun fl s' => LeaveK h₀ L m g R (match fl with | .ret v => v | _ => .none) s')
        (fun e s' => wpAny (model prog w) (A.deeper (envOfC qual scope L' f cdv)) (leaving (envOfC qual scope L' f cdv) e) (fun _ s'' => R (.error e) s'') (fun e' s'' => R (.error e') s'') s')
        { s with heap := h₁, toks := tk })
    (hco : scope.isCoroutine = false) (hgen : scope.isGenerator = false) (hk : scope.kind = .function) : codeAny (model prog w) A (.call (.ref f) args) R s := by
  obtain ⟨FG, BG, st, lv⟩ := groundX (R := R) B F N hA hf hke
  refine codeAny_call_function (fd := fnOf name qual params body scope dV kV doc pm an cdv ct) (body := body) hroom ((X₀.keeps F.keep) _ _ ho) rfl hco hgen rfl (codeRec_of (X₀.keeps F.keep) hcd) (hbind _ _ _ _ ?_)
  refine wpAny_newFunctionEnv_cells hk (kindsX hkind _) fun env' he s' x => ?_
  subst he
  refine ⟨(T.nolimit.keeps F.keep).keeps x.toInCall.keep, codeAny_func ?_⟩
  obtain ⟨h₁, tk, rfl, _⟩ := x.done
  have hk₁ := x.toInCall.keep
  obtain ⟨cells, NC, Y⟩ := Cl.news (h₀ := s.heap) (Nat.le_refl _) fun n c hm => ⟨x.cell n c (lookup_of_mem_nodup (cellsFrom_names scope.names 0 (s.heap.objs.size + 1) [] [] rfl ▸ hnd) hm), x.above n c hm⟩
  refine wpAny_mono (h _ s.heap.objs.size h₁ tk cells (fun b o hb e => hideAll_get _ e hb) ⟨x.toInCall.ns, fun b o e => hk₁ b o (of_hideAll _ e), Nat.le_of_eq (hideAll_size _ _)⟩ (fun p hp => ?_) Y BG (X₀.keeps st) (T.keeps st) (fun p hp => Heap.lt_size (N p hp).1)) (fun fl s' hl => lv _ _ hl) fun _ _ y => y
  rcases List.mem_append.mp hp with hp | hp
  · refine ⟨(NC p hp).1, (NC p hp).2.1, ?_⟩
    cases q : (hideAll s.heap (news.map (·.1))).get? p.1 with
    | none => rfl
    | some o => have := of_hideAll _ q; rw [(NC p hp).2.2] at this; cases this
  · exact ⟨hk₁ _ _ (N p hp).1, Nat.ne_of_lt (Heap.lt_size (N p hp).1), hideAll_none _ (List.mem_map_of_mem hp)⟩
/-- a def that a def made is entered, the given ledger laid aside -/
theorem enterN (B : Below A₀ base outer h₀) (F : Fr h₀ L s.heap m) (X₀ : K.In h₀) (N : News h₀ L s.heap news) (T : Top p loose mean mg mb h₀) (hA : A.frames = some (env :: outer)) (hf : env.frame = some L) (hke : env.scope.kind = .function)
    (ho : s.heap.get? f = some fo) (hd : fo.data = .func (fnX name qual params body scope cl dV kV doc pm an cdv ct)) (hcd : s.heap.CodeRec cdv qual) (hroom : A.depth < recursionLimit)
    (hbind : BindsTo s (fnX name qual params body scope cl dV kV doc pm an cdv ct) args binds) (hloc : ∀ y ∈ binds, scope.names.lookup y.1 = some .local)
    (h : ∀ g L' h₁, StayX (news.map (·.1)) s.heap g → Fr g L' h₁ (fun y => binds.reverse.lookup y) → News g L' h₁ news → Below A base (env :: outer) g → K.In g → Top p loose mean mg mb g →
      wpAny (model prog w) (A.deeper (envX qual scope L' f cdv cl)) (execs body (envX qual scope L' f cdv cl))
        (fun fl s' => LeaveK h₀ L m g R (match fl with | .ret v => v | _ => .none) s')
        (fun e s' => wpAny (model prog w) (A.deeper (envX qual scope L' f cdv cl)) (leaving (envX qual scope L' f cdv cl) e) (fun _ s'' => R (.error e) s'') (fun e' s'' => R (.error e') s'') s')
        { s with heap := h₁, toks := s.toks + binds.length })
    (hcell : ∀ x ∈ scope.names, x.2 ≠ .cell) (hco : scope.isCoroutine = false) (hgen : scope.isGenerator = false) (hk : scope.kind = .function) : codeAny (model prog w) A (.call (.ref f) args) R s := by
  obtain ⟨FG, BG, st, lv⟩ := groundX (R := R) B F N hA hf hke
  refine codeAny_call_def (fd := fnX name qual params body scope cl dV kV doc pm an cdv ct) (body := body) (binds := binds) hroom ho hd (T.nolimit.keeps F.keep) hcd rfl hbind hcell hloc (fun h₁ hns hk₁ => ?_) hco hgen hk
  exact wpAny_mono (h _ s.heap.objs.size h₁ (fun b o hb e => hideAll_get _ e hb) ⟨hns, fun b o e => hk₁ b o (of_hideAll _ e), Nat.le_of_eq (hideAll_size _ _)⟩
    (fun p hp => ⟨hk₁ _ _ (N p hp).1, Nat.ne_of_lt (Heap.lt_size (N p hp).1), hideAll_none _ (List.mem_map_of_mem hp)⟩) BG (X₀.keeps st) (T.keeps st)) (fun fl s' hl => lv _ _ hl) fun _ _ y => y
end
section
variable {M : Model} {A : Around} {E : Value → Shared → Prop} {s : Shared} {a L c : Addr} {cn : PySem.Str} {cs : Scope} {ccd v : Value} {cl : List (PySem.Str × Addr)} {x : PySem.Str} {pos : Pos} {Q : Value → Shared → Prop} {o : Obj}
/-- a captured name, its cell being in the heap -/
theorem nameX_h (hm : s.heap.get? c = some o) (hc : cl.lookup x = some c) (hd : o.data = .cell (some v)) (h : Q v s)
    (hk : cs.kind = .function) (hx : (envX cn cs L a ccd cl).kindOf x = some .free) (hb : (x == ("__debug__" : PySem.Str)) = false) (hn : (x == ("__classdict__" : PySem.Str)) = false) :
    wpAny M A (eval (.Name x pos) (envX cn cs L a ccd cl)) Q E s := wpAny_Name (wpAny_loadName_free hk hx hc ⟨o, hm, hd⟩ h hn) hb
end
section
variable {w : World} {f x : Addr} {d u : Nat} {vs : List Value} {Pre : Heap → Prop} {Post : Heap → Value → Heap → Prop} {dp un : Nat} {gd : Option (List Code)} {cn : PySem.Str} {cs : Scope} {a : Addr} {ccd : Value} {cl : List (PySem.Str × Addr)} {outer : List Env} {A₀ : Around} {base h₀ : Heap} {L : Addr} {m : PySem.Str → Option Value} {s : Shared} {Q : Value → Shared → Prop} {E : Value → Shared → Prop}
    {p : Program} {loose : List PySem.Str} {mean : ExcName → Option Value} {mg mb : PySem.Str → Option Value} {pre post : List (Addr × Obj)} {o : Obj}
/-- a use, one object of the ledger being given away to the call -/
theorem use1 (S : Sp w f d u [x] vs Pre Post) (B : Below A₀ base outer h₀) (F : Fr h₀ L s.heap m) (KX : Frag.In (hd.heap_39 w.params) h₀) (T : Top p loose mean mg mb h₀) (N : News h₀ L s.heap (pre ++ (x, o) :: post)) (hne1 : ∀ p ∈ pre, p.1 ≠ x) (hne2 : ∀ p ∈ post, p.1 ≠ x) (hk : cs.kind = .function) (hp : Pre s.heap) (h1 : dp + d < recursionLimit) (h2 : un + u < cLine)
    (h : ∀ v h' tk', StayX [x] s.heap h' → Fr h₀ L h' m → (∀ o', h'.get? x = some o' → News h₀ L h' (pre ++ (x, o') :: post)) → Post s.heap v h' → Q v { s with heap := h', toks := tk' }) :
    wpAny (model PySem.Challenge.rw_zo0035_01.row.prog w) (ktrTop dp un gd cn cs L a ccd cl outer) (call (.ref f) vs) Q E s := by
  have hx := N (x, o) (List.mem_append_right _ (.head _))
  refine S dp un gd cn cs a ccd cl outer A₀ base h₀ L m s Q E p loose mean mg mb B F KX T hk ?_ hp h1 h2 fun v h' tk' st po => h v h' tk' st (fr_stay F ?_ st) ?_ po
  · intro y hy
    rw [List.mem_singleton.mp hy]
    exact hx.2
  · intro y hy
    rw [List.mem_singleton.mp hy]
    exact hx.2
  · intro o' ho' q hq
    rcases List.mem_append.mp hq with hq | hq
    · have n := N q (List.mem_append_left _ hq)
      exact ⟨st _ _ (by simpa using hne1 q hq) n.1, n.2⟩
    · rcases List.mem_cons.mp hq with rfl | hq
      · exact ⟨ho', hx.2⟩
      · have n := N q (List.mem_append_right _ (.tail _ hq))
        exact ⟨st _ _ (by simpa using hne2 q hq) n.1, n.2⟩
end
end Mine
end
section
set_option maxRecDepth 100000
set_option maxHeartbeats 8000000
set_option autoImplicit false
namespace Mine
/-- the table of made codes: empty, or with the one code -/
noncomputable def TabSt (P : Addr) (line col : Nat) (qual : PySem.Str) (h : Heap) : Prop := h.get? P = some (tabObj #[]) ∨ ∃ c', c' ≠ P ∧ h.get? P = some (tabObj #[rawInt line, rawInt col, .ref c']) ∧ h.CodeRec (.ref c') qual
/-- an object that is the code of that name -/
noncomputable def CodeOf (oc : Obj) (q : PySem.Str) : Prop := ∃ vs t, oc.data = .fields vs ∧ vs[1]? = some (.str q t)
theorem CodeOf.rec {oc : Obj} {q : PySem.Str} {h : Heap} {c : Addr} (x : CodeOf oc q) (e : h.get? c = some oc) : h.CodeRec (.ref c) q :=
  let ⟨vs, t, a, b⟩ := x; ⟨c, oc, vs, t, rfl, e, a, b⟩
/-- the table's end after the first making -/
noncomputable def MadeCode (P : Addr) (line col : Nat) (q : PySem.Str) (h h'' : Heap) : Prop := ∃ c' oc, h.get? c' = none ∧ h''.get? c' = some oc ∧ CodeOf oc q ∧ h''.get? P = some (tabObj #[rawInt line, rawInt col, .ref c'])
theorem fresh_of {X : List Addr} {h g h' : Heap} {L : Addr} {news : List (Addr × Obj)} {D : Addr} {o : Obj} (hg : StayX X h g) (hX : D ∉ X) (N : News g L h' news) (hm : (D, o) ∈ news) : h.get? D = none := by
  cases q : h.get? D with
  | none => rfl
  | some o' => have := hg _ _ hX q; rw [(N _ hm).2.2] at this; cases this
theorem codeHd_stay {h h' : Heap} {c P : Addr} (x : CodeHd h c P) (k : StayX [P] h h') : CodeHd h' c P :=
  let ⟨o, vs, file, tf, flags, tg, inF, text, tt, e, r⟩ := x
  ⟨o, vs, file, tf, flags, tg, inF, text, tt, k _ _ (by rw [List.mem_singleton]; exact r.2.2.2.2.2.2.2.2) e, r⟩
theorem codeRec_stay {h h' : Heap} {c P : Addr} {q : PySem.Str} (x : h.CodeRec (.ref c) q) (hne : c ≠ P) (k : StayX [P] h h') : h'.CodeRec (.ref c) q := by
  obtain ⟨c2, o, vs, t, e, e2, r⟩ := x
  cases e
  exact ⟨c, o, vs, t, rfl, k _ _ (by rw [List.mem_singleton]; exact hne) e2, r⟩
section
variable {w : World} {f x : Addr} {d u : Nat} {vs : List Value} {Pre : Heap → Prop} {Post : Heap → Value → Heap → Prop} {dp un : Nat} {gd : Option (List Code)} {cn : PySem.Str} {cs : Scope} {a : Addr} {ccd : Value} {cl : List (PySem.Str × Addr)} {outer : List Env} {A₀ : Around} {base h₀ : Heap} {L : Addr} {m : PySem.Str → Option Value} {s : Shared} {Q : Value → Shared → Prop} {E : Value → Shared → Prop}
    {p : Program} {loose : List PySem.Str} {mean : ExcName → Option Value} {mg mb : PySem.Str → Option Value} {news : List (Addr × Obj)} {o : Obj} {g : Obj → List (Addr × Obj)}
theorem use1U (S : Sp w f d u [x] vs Pre Post) (B : Below A₀ base outer h₀) (F : Fr h₀ L s.heap m) (KX : Frag.In (hd.heap_39 w.params) h₀) (T : Top p loose mean mg mb h₀) (N : News h₀ L s.heap news) (U : UpdF x o news g) (hk : cs.kind = .function) (hp : Pre s.heap) (h1 : dp + d < recursionLimit) (h2 : un + u < cLine)
    (h : ∀ v h' tk', StayX [x] s.heap h' → Fr h₀ L h' m → (∀ o', h'.get? x = some o' → News h₀ L h' (g o')) → Post s.heap v h' → Q v { s with heap := h', toks := tk' }) :
    wpAny (model PySem.Challenge.rw_zo0035_01.row.prog w) (ktrTop dp un gd cn cs L a ccd cl outer) (call (.ref f) vs) Q E s := by
  obtain ⟨pre, post, rfl, hg, a1, a2⟩ := U.split
  exact use1 S B F KX T N a1 a2 hk hp h1 h2 fun v h' tk' st F' N' po => h v h' tk' st F' (fun o' e => by rw [hg]; exact N' o' e) po
end
section
variable {prog : Program} {w : World} {A : Around} {E : Value → Shared → Prop} {s : Shared} {h₀ : Heap} {L a c P : Addr} {m mg mb : PySem.Str → Option Value} {cn : PySem.Str} {cs : Scope} {ccd : Value} {cl : List (PySem.Str × Addr)} {news : List (Addr × Obj)} {g : Obj → List (Addr × Obj)}
  {p : Program} {loose : List PySem.Str} {mean : ExcName → Option Value} {name qual : PySem.Str} {params : Arguments} {body : List Stmt} {scope : Scope} {ps : Array Value} {pos : Pos} {firstLine : Nat} {clos : List (PySem.Str × Addr)}
theorem nest_any {Q : Value → Shared → Prop} (F : Fr h₀ L s.heap m) (N : News h₀ L s.heap news) (T : Top p loose mean mg mb h₀) (C : CodeHd h₀ c P) (hcd : ccd = .ref c) (U : UpdF P (tabObj ps) news g)
    (hst : ps = #[] ∨ ∃ c', ps = #[rawInt pos.line, rawInt pos.col, .ref c'] ∧ c' ≠ P ∧ h₀.CodeRec (.ref c') qual)
    (hcl : closureFor scope (envX cn cs L a ccd cl) = pure clos)
    (h : ∀ f c' ctv doc h' tk ps', Fr h₀ L h' m → News h₀ L h' ((f, fnMade name qual params body scope clos doc ((mg "__name__").getD .none) c' ctv) :: g (tabObj ps')) → TabSt P pos.line pos.col qual h' → h'.CodeRec (.ref c') qual → (∀ q ∈ news, q.1 < f) → Q (.ref f) { s with heap := h', toks := tk }) :
    wpAny (model prog w) A (makeFunction name qual params (.stmts body) scope (envX cn cs L a ccd cl) [] [] [] pos firstLine) Q E s := by
  obtain ⟨pre, post, hnews, hg, a1, a2⟩ := U.split
  have hmem : (P, tabObj ps) ∈ news := by rw [hnews]; exact List.mem_append_right _ (.head _)
  rcases hst with rfl | ⟨c', rfl, hne, hrec⟩
  · refine nest_K F N T C hcd U trivial rfl hcl fun f c' oc vs t ctv doc h' tk F' N' hd hv l1 l2 => ?_
    have hr := codeRec_news N' (.tail _ (.head _)) hd hv
    refine h f c' ctv doc h' tk (#[] ++ #[rawInt pos.line, rawInt pos.col, .ref c']) F' (fun q hq => ?_) (.inr ⟨c', Nat.ne_of_gt (l1 _ hmem), ?_, hr⟩) hr (fun q hq => Nat.lt_trans (l1 q hq) l2)
    · rcases List.mem_cons.mp hq with rfl | hq
      · exact N' _ (.head _)
      · exact N' _ (.tail _ (.tail _ hq))
    · have := N' (P, tabObj (#[] ++ #[rawInt pos.line, rawInt pos.col, .ref c'])) (.tail _ (.tail _ (by rw [hg]; exact List.mem_append_right _ (.head _))))
      exact this.1
  · refine nestHit_K (c' := c') F N T C hcd hmem trivial (by simp [codeAmong, rawInt]) hcl fun f ctv doc h' tk F' N' l1 => ?_
    have hr := hrec.keeps F'.keep
    refine h f c' ctv doc h' tk #[rawInt pos.line, rawInt pos.col, .ref c'] F' (by rw [hg, ← hnews]; exact N') (.inr ⟨c', hne, (N' _ (.tail _ hmem)).1, hr⟩) hr l1
end
end Mine
end
section
set_option maxRecDepth 100000
set_option maxHeartbeats 8000000
set_option linter.unusedVariables false
namespace Mine
open PySem.Builtin PySem.Builtin.Re
theorem rp_ga : typeLookup (.type "re.Pattern") "__getattribute__" = pure (some (.builtin "object.__getattribute__")) := by rw [typeLookup_type, builtinLookup_eq_fast]; kernel_rfl
theorem rp_pa : PlainAttrs "re.Pattern" := ⟨⟨_, rp_ga, by decide +kernel⟩, by rw [typeLookup_type, builtinLookup_eq_fast]; kernel_rfl⟩
theorem rp_slot : Slot "re.Pattern" "search" "re.Pattern.search" :=
  .of (owner := "re.Pattern") (n := "search") (by rw [typeLookup_type, builtinLookup_eq_fast]; kernel_rfl) (by decide +kernel) (by decide +kernel) (by decide +kernel)
    (by first | exact .inl (by decide +kernel) | exact .inr (by decide +kernel)) (by rw [isSubtype_type]; kernel_rfl)
theorem rp_type : typeOf (.builtin "re.Pattern.search") = pure (.type "method_descriptor") := by show builtinType _ = _; rw [builtinType_eq_fast]; kernel_rfl
theorem rp_args (a b : Value) : argsOk "re.Pattern.search" ⟨[a, b], []⟩ := by unfold argsOk; kernel_rfl
theorem rp_entry : entryFor table "re.Pattern.search" = some Builtin.«re.Pattern.search» := by first | exact entryFor_of_fast (by kernel_rfl) | exact entryFor_of_tree (by kernel_rfl)
theorem rp_named (v : Value) : reNamed "re.Pattern.search" "search" ["string", "pos", "endpos"] 1 [v] [] = pure [some v, none, none] := by kernel_rfl

/-- the machine runs to its end in n turns and finds nothing -/
noncomputable def noFind : Nat → Sre.M → Bool
  | 0, _ => false
  | n + 1, m =>
    let m := m.runFor reTurnSteps
    if m.outcome.isSome then (match m.outcome with | some .failed => true | _ => false) else noFind n m

section
variable {M : Model} {A : Around} {E : Value → Shared → Prop} {s : Shared}
theorem reDrive_ok {Q : Sre.M → Shared → Prop} (h : ∀ m, m.outcome = some .failed → Q m s) : ∀ (n N : Nat) (m : Sre.M), noFind n m = true → n ≤ N → wpAny M A (reDrive N m) Q E s
  | 0, _, _, hn, _ => nomatch hn
  | n + 1, 0, _, _, hN => absurd hN (by omega)
  | n + 1, N + 1, m, hn, hN => by
    rw [noFind] at hn
    rw [reDrive]
    try dsimp only at hn
    try dsimp only
    split at hn
    · rename_i hs
      rw [if_pos hs]
      refine wpAny_pure (h _ ?_)
      revert hn
      cases (m.runFor reTurnSteps).outcome with
      | none => intro hn; cases hn
      | some o => cases o <;> intro hn <;> first | rfl | cases hn
    · rename_i hs
      rw [if_neg hs]
      exact wpAny_bind (wpAny_rule (reDrive_ok h n N _ hn (by omega)))
theorem rules_ok {Q : PUnit → Shared → Prop} (c : Nat → Bool) (f : Nat → String) (h : Q ⟨⟩ s) : ∀ (l : List Nat), wpAny M A (forIn l PUnit.unit (fun i _ => if c i = true then (rule (f i) >>= fun _ => pure (ForInStep.yield PUnit.unit)) else pure (ForInStep.yield PUnit.unit))) Q E s
  | [] => wpAny_pure h
  | i :: l => by
    rw [List.forIn_cons]
    refine wpAny_bind ?_
    by_cases hc : c i = true
    · rw [if_pos hc]
      exact wpAny_bind (wpAny_rule (wpAny_pure (rules_ok c f h l)))
    · rw [if_neg hc]
      exact wpAny_pure (rules_ok c f h l)
theorem reRun_ok {Q : Option Sre.M → Shared → Prop} {m : Sre.M} {n : Nat} (hn : noFind n m = true) (hN : n ≤ 2 ^ 64) (h : Q none s) : wpAny M A (reRunToEnd m) Q E s := by
  unfold reRunToEnd
  refine wpAny_bind (reDrive_ok (fun m' hm => ?_) n _ m hn hN)
  refine wpAny_bind (rules_ok (fun i => m'.seen.has i) (fun i => Sre.names.getD i "") ?_ _)
  rw [hm]
  exact wpAny_pure h
theorem reTarget_ok {Q : ReTarget → Shared → Prop} {a ca : Addr} {o co : Obj} {fs items : Array Value} {k : Nat} {x : PySem.Str} {t : Tok} (ho : s.heap.get? a = some o) (hd : o.data = .fields fs) (hc : s.heap.get? ca = some co) (hcd : co.data = .seq items k)
    (h2 : reRawNat (fs.getD 2 .none) = 0) (h5 : fs.getD 5 .none = .ref ca) (h6 : reRawNat (fs.getD 6 .none) = 0)
    (h : Q { pattern := .ref a, string := .str x t, code := (items.map reRawOf).map (·.toNat), text := x.cps, kind := 0, groups := 0, pos := min (0 : Int).toNat x.cps.size, lim := min ((2 : Int) ^ 63 - 1).toNat x.cps.size } s) :
    wpAny M A (reTarget "re.Pattern.search" "search" ⟨[.ref a, .str x t], []⟩) Q E s := by
  unfold reTarget
  dsimp only
  refine wpAny_bind (wpAny_of_eq (rp_named _) ?_)
  dsimp only
  refine wpAny_bind (wpAny_pure (wpAny_bind (wpAny_pure ?_)))
  refine wpAny_bind (wpAny_fieldsOf ho hd ?_)
  refine wpAny_bind (wpAny_of_eq (a := (x.cps, 0)) rfl ?_)
  dsimp only
  rw [h6, h5]
  refine wpAny_bind (wpAny_pure ?_)
  refine wpAny_bind (wpAny_bind (wpAny_seqItems hc hcd ?_))
  refine wpAny_pure (wpAny_pure ?_)
  rw [h2]
  exact h
end
noncomputable def patCode : Array Nat := #[14,8,1,2,4294967295,1,1,46,0,16,46,24,9,1,4294967295,13,4,8,0,0,1,6,5,1]
noncomputable def noMatch (x : PySem.Str) : Bool := noFind 4000 (Sre.forSearch patCode x.cps 0 (min (0 : Int).toNat x.cps.size) (min ((2 : Int) ^ 63 - 1).toNat x.cps.size) false)
section
variable {prog : Program} {w : World} {A : Around} {E : Value → Shared → Prop} {s : Shared}
theorem search_none {Q : Value → Shared → Prop} {a ca : Addr} {o co : Obj} {fs items : Array Value} {k : Nat} {x : PySem.Str} {t : Tok} (ho : s.heap.get? a = some o) (hty : o.cls = .type "re.Pattern") (hd : o.data = .fields fs) (hc : s.heap.get? ca = some co) (hcd : co.data = .seq items k)
    (h2 : reRawNat (fs.getD 2 .none) = 0) (h5 : fs.getD 5 .none = .ref ca) (h6 : reRawNat (fs.getD 6 .none) = 0) (hcode : (items.map reRawOf).map (·.toNat) = patCode) (hx : noMatch x = true)
    (h : Q .none s) : wpAny (model prog w) A (call (.builtin "re.Pattern.search") [.ref a, .str x t]) Q E s := by
  refine wpAny_call (codeAny_of_tree ?_)
  show wpAny _ A.in1 (do checkBuiltinCall "re.Pattern.search" ⟨[.ref a, .str x t], []⟩; again (.builtin "re.Pattern.search" ⟨[.ref a, .str x t], []⟩)) _ _ s
  refine wpAny_bind (rp_slot.check _ _ _ _ _ _ _ _ ⟨_, ho, hty⟩ (rp_args _ _) (wpAny_pure ⟨plainId_quiet rp_slot.plain _, codeAny_builtin rp_entry ?_⟩))
  rw [Around.under_plainId rp_slot.plain _]
  unfold Builtin.«re.Pattern.search»
  refine wpAny_bind (reTarget_ok ho hd hc hcd h2 h5 h6 ?_)
  dsimp only
  rw [hcode]
  unfold reAnswer
  dsimp only
  refine wpAny_bind (reRun_ok hx (by decide) ?_)
  exact wpAny_pure h
end
end Mine
end
section
set_option maxRecDepth 100000
set_option maxHeartbeats 8000000
set_option linter.unusedVariables false
namespace Mine

noncomputable def hdnB (x : PySem.Str) : Bool := decide (1 ≤ x.length) && decide (x.length ≤ 1000) && noMatch x && !(x == PySem.Str.ofString "") && !(Txt.item x 0 == PySem.Str.ofString ".") && !(Txt.item x (-1) == PySem.Str.ofString ".")
structure hdnOk (x : PySem.Str) : Prop where
  b : hdnB x = true
theorem hdnOk.all {x : PySem.Str} (h : hdnOk x) : 1 ≤ x.length ∧ x.length ≤ 1000 ∧ noMatch x = true ∧ (x == PySem.Str.ofString "") = false ∧ (Txt.item x 0 == PySem.Str.ofString ".") = false ∧ (Txt.item x (-1) == PySem.Str.ofString ".") = false := by
  have := h.b
  unfold hdnB at this
  simp only [Bool.and_eq_true, Bool.not_eq_true', decide_eq_true_eq] at this
  exact ⟨this.1.1.1.1.1, this.1.1.1.1.2, this.1.1.1.2, this.1.1.2, this.1.2, this.2⟩
theorem S43 (w : World) (x : PySem.Str) (t : Tok) : Sp w 43 3 24 [] [.str x t] (fun h => hdnOk x) (fun h v h'' => v = .bool true) := by
  unfold Sp
  k_fill
  k_with_none
  w_top off
  intro dp un gd cn cs a ccd cl outer A₀ base h₀ L m s Q E p loose mean mg mb B F KX T hk hX hpre hdp hun hret
  have N0 : News h₀ L s.heap [] := News.nil
  refine wpAny_call ?_
  k_dflt (refine' enter0 ?k1 ?k2 ?k3 ?k4 ?k5 ?kA ?kF ?kK ?k6 ?k7 ?k8 ?k9 ?kB ?_ ?c2 ?c3 ?c4 ?c5; (case kA => exact rfl); (case kF => exact rfl); (case kK => exact hk); (case k1 => exact B); (case k2 => exact F); (case k3 => exact KX); (case k4 => exact N0); (case k5 => exact T); (case k6 => k_is); (case k7 => k_is); (case k8 => (first | exact room0 hdp | exact room1 hdp (by decide) | exact room2 hdp (by decide) | exact room3 hdp (by decide) | exact room4 hdp (by decide) | ktr_room)); (case k9 => exact BindsTo.of_eq rfl); (case c5 => decide); (case kB => exact locs rfl); (case c2 => exact rfl); (case c3 => exact rfl); (case c4 => exact rfl); k_whole)
  intro g' L' h' hg F' N' B' X' T'
  try dsimp only
  obtain ⟨hp0, hp1, hp2, hp3, hp4, hp5⟩ := hpre.all
  try k_fold
  k_steps
  refine getMethod_builtin (T := "re.Pattern") ⟨_, (X'.keeps F'.keep) 36 _ rfl, rfl⟩ rp_pa rp_slot rp_type ?_ ?_
  · intro a h
    cases h
    exact ⟨_, (X'.keeps F'.keep) 36 _ rfl, rfl⟩
  k_steps
  refine search_none ((X'.keeps F'.keep) 36 _ rfl) rfl rfl ((X'.keeps F'.keep) 35 _ rfl) rfl rfl rfl rfl (by decide +kernel) hp2 ?_
  k_steps
  all_goals (refine hret _ _ _ (fun b o hb e => Fr.keep (by assumption) b o (hg b o hb e)) ?_)
  all_goals first | rfl | (rename (Txt.item x _ == _) = true => hc; first | (rw [hp4] at hc; cases hc) | (rw [hp5] at hc; cases hc))
end Mine
end
section
set_option maxRecDepth 100000
set_option maxHeartbeats 8000000
set_option linter.unusedVariables false
namespace Mine

noncomputable def reachB (x : PySem.Str) : PySem.Str := Txt.slice x (some (Txt.find x (PySem.Str.ofString ".") + 1)) none
noncomputable def reachF (x : PySem.Str) : PySem.Str :=
  if 0 ≤ Txt.find x (PySem.Str.ofString ".") then
    (if 0 ≤ Txt.find (reachB x) (PySem.Str.ofString ".") then PySem.Str.ofString "." ++ reachB x
     else if (reachB x == PySem.Str.ofString "local") = true then PySem.Str.ofString "." ++ reachB x else x)
  else x
noncomputable def domF (x y : PySem.Str) : Bool :=
  if (Txt.lower x == Txt.lower y) = true then true
  else if Txt.rfind (Txt.lower x) (Txt.lower y) = -1 then false
  else if Txt.rfind (Txt.lower x) (Txt.lower y) = 0 then false
  else Txt.startswith (Txt.lower y) (PySem.Str.ofString ".")
theorem S57 (w : World) (x : PySem.Str) (t : Tok) : Sp w 57 5 40 [] [.str x t] (fun h => x.length ≤ 1000 ∧ hdnOk x) (fun h v h'' => ∃ t, v = .str (reachF x) t) := by
  unfold Sp
  k_fill
  k_with_none
  w_top off
  k_with "call ref" => (k_here; (with_reducible show wpAny _ _ (call (Value.ref 43) _) _ _ _); k_dflt (refine' use0 (S43 _ _ _) ?k1 ?k2 ?k3 ?k4 ?k5 ?k6 ?k7 ?k8 ?k9 ?_; (case k1 => k_asm); (case k2 => k_asm); (case k3 => k_asm); (case k4 => k_asm); (case k5 => k_asm); (case k6 => first | exact rfl | assumption); (case k7 => assumption); (case k8 => ktr_room); (case k9 => ktr_units)); intro v9 h9 tk9 st9 F9 N9 po9; (subst po9); (try dsimp only); (try k_fold))
  intro dp un gd cn cs a ccd cl outer A₀ base h₀ L m s Q E p loose mean mg mb B F KX T hk hX hpre hdp hun hret
  have N0 : News h₀ L s.heap [] := News.nil
  refine wpAny_call ?_
  k_dflt (refine' enter0 ?k1 ?k2 ?k3 ?k4 ?k5 ?kA ?kF ?kK ?k6 ?k7 ?k8 ?k9 ?kB ?_ ?c2 ?c3 ?c4 ?c5; (case kA => exact rfl); (case kF => exact rfl); (case kK => exact hk); (case k1 => exact B); (case k2 => exact F); (case k3 => exact KX); (case k4 => exact N0); (case k5 => exact T); (case k6 => k_is); (case k7 => k_is); (case k8 => (first | exact room0 hdp | exact room1 hdp (by decide) | exact room2 hdp (by decide) | exact room3 hdp (by decide) | exact room4 hdp (by decide) | ktr_room)); (case k9 => exact BindsTo.of_eq rfl); (case c5 => decide); (case kB => exact locs rfl); (case c2 => exact rfl); (case c3 => exact rfl); (case c4 => exact rfl); k_whole)
  intro g' L' h' hg F' N' B' X' T'
  try dsimp only
  obtain ⟨hp1, hp2⟩ := hpre
  try k_fold
  k_steps
  all_goals (refine hret _ _ _ (fun b o hb e => Fr.keep (by assumption) b o (hg b o hb e)) ?_)
  all_goals (refine ⟨_, congrArg (fun z => Value.str z _) ?_⟩; unfold reachF; first
    | (rw [if_pos (by assumption), if_pos (by assumption)]; rfl)
    | (rw [if_pos (by assumption), if_neg (by assumption), if_pos (by assumption)]; rfl)
    | (rw [if_pos (by assumption), if_neg (by assumption), if_neg (by simp_all [reachB])])
    | (rw [if_neg (by assumption)]))
theorem S50 (w : World) (x y : PySem.Str) (t t2 : Tok) : Sp w 50 5 40 [] [.str x t, .str y t2] (fun h => x.length ≤ 1000 ∧ y.length ≤ 1000 ∧ hdnOk (Txt.lower x) ∧ hdnOk (Txt.slice (Txt.lower y) (some 1) none)) (fun h v h'' => v = .bool (domF x y)) := by
  unfold Sp
  k_fill
  k_with_none
  w_top off
  k_with "call ref" => (k_here; (with_reducible show wpAny _ _ (call (Value.ref 43) _) _ _ _); k_dflt (refine' use0 (S43 _ _ _) ?k1 ?k2 ?k3 ?k4 ?k5 ?k6 ?k7 ?k8 ?k9 ?_; (case k1 => k_asm); (case k2 => k_asm); (case k3 => k_asm); (case k4 => k_asm); (case k5 => k_asm); (case k6 => first | exact rfl | assumption); (case k7 => assumption); (case k8 => ktr_room); (case k9 => ktr_units)); intro v9 h9 tk9 st9 F9 N9 po9; (subst po9); (try dsimp only); (try k_fold))
  intro dp un gd cn cs a ccd cl outer A₀ base h₀ L m s Q E p loose mean mg mb B F KX T hk hX hpre hdp hun hret
  have N0 : News h₀ L s.heap [] := News.nil
  refine wpAny_call ?_
  k_dflt (refine' enter0 ?k1 ?k2 ?k3 ?k4 ?k5 ?kA ?kF ?kK ?k6 ?k7 ?k8 ?k9 ?kB ?_ ?c2 ?c3 ?c4 ?c5; (case kA => exact rfl); (case kF => exact rfl); (case kK => exact hk); (case k1 => exact B); (case k2 => exact F); (case k3 => exact KX); (case k4 => exact N0); (case k5 => exact T); (case k6 => k_is); (case k7 => k_is); (case k8 => (first | exact room0 hdp | exact room1 hdp (by decide) | exact room2 hdp (by decide) | exact room3 hdp (by decide) | exact room4 hdp (by decide) | ktr_room)); (case k9 => exact BindsTo.of_eq rfl); (case c5 => decide); (case kB => exact locs rfl); (case c2 => exact rfl); (case c3 => exact rfl); (case c4 => exact rfl); k_whole)
  intro g' L' h' hg F' N' B' X' T'
  try dsimp only
  obtain ⟨hp1, hp2, hp3, hp4⟩ := hpre
  try k_fold
  k_steps
  all_goals (refine hret _ _ _ (fun b o hb e => Fr.keep (by assumption) b o (hg b o hb e)) ?_)
  all_goals (refine congrArg Value.bool ?_; unfold domF; first
    | (rw [if_pos (by assumption)]; done)
    | (rw [if_neg (by simp_all), if_pos (by assumption)]; done)
    | (rw [if_neg (by simp_all), if_neg (by assumption), if_pos (by assumption)]; done)
    | (rw [if_neg (by simp_all), if_neg (by assumption), if_neg (by assumption)]; symm; assumption))
end Mine
end
section
set_option maxRecDepth 100000
set_option maxHeartbeats 8000000
set_option linter.unusedVariables false
namespace Mine
theorem nopy {x y : Int} (h0 : 0 < y) (h : y < 2 ^ 200) : PySem.Builtin.divisionGoesByPylong x y = false := by
  refine PyProof.noPylong_of_log2 ?_
  have h1 : y.natAbs < 2 ^ 200 := by omega
  have h2 : y.natAbs ≠ 0 := by omega
  have := (Nat.log2_lt h2).mpr h1
  omega
theorem S64 (w : World) (x y n : Int) (t t2 t3 : Tok) : Sp w 64 5 40 [] [.int x t, .int y t2, .int n t3] (fun h => 0 ≤ x ∧ 0 < y ∧ y < 2 ^ 200 ∧ (PySem.Builtin.Int.intBits x : Int) - n ≤ 4000) (fun h v h'' => ∃ t1 t2 c, NewAt h v { cls := .type "tuple", data := .seq #[.int (x.fdiv y) t1, .int (x.fmod y) t2] c } h'') := by
  unfold Sp
  k_fill
  k_with_none
  w_top off
  k_with "call builtin:divmod" => ((with_reducible show wpAny _ _ (call (Value.builtin _) [Value.int _ _, Value.int _ _]) _ _ _); refine divmod_N (by assumption) (by assumption) (by omega) ?_ (Or.inl (nopy (by assumption) (by assumption))); intro _ _ _)
  intro dp un gd cn cs a ccd cl outer A₀ base h₀ L m s Q E p loose mean mg mb B F KX T hk hX hpre hdp hun hret
  have N0 : News h₀ L s.heap [] := News.nil
  refine wpAny_call ?_
  k_dflt (refine' enter0 ?k1 ?k2 ?k3 ?k4 ?k5 ?kA ?kF ?kK ?k6 ?k7 ?k8 ?k9 ?kB ?_ ?c2 ?c3 ?c4 ?c5; (case kA => exact rfl); (case kF => exact rfl); (case kK => exact hk); (case k1 => exact B); (case k2 => exact F); (case k3 => exact KX); (case k4 => exact N0); (case k5 => exact T); (case k6 => k_is); (case k7 => k_is); (case k8 => (first | exact room0 hdp | exact room1 hdp (by decide) | exact room2 hdp (by decide) | exact room3 hdp (by decide) | exact room4 hdp (by decide) | ktr_room)); (case k9 => exact BindsTo.of_eq rfl); (case c5 => decide); (case kB => exact locs rfl); (case c2 => exact rfl); (case c3 => exact rfl); (case c4 => exact rfl); k_whole)
  intro g' L' h' hg F' N' B' X' T'
  try dsimp only
  obtain ⟨hp1, hp2, hp3, hp4⟩ := hpre
  try k_fold
  k_steps
  all_goals (refine hret _ _ _ (fun b o hb e => Fr.keep (by assumption) b o (hg b o hb e)) ?_)
  all_goals (exact ⟨_, _, _, newAt_of hg (by simp) (by assumption) (List.Mem.head _)⟩)
end Mine
end
section
set_option maxRecDepth 100000
set_option maxHeartbeats 8000000
set_option linter.unusedVariables false
namespace Mine

/-- 1, 2, 3, 5, 8 .. -/
noncomputable def fb : Nat → Int
  | 0 => 1
  | 1 => 2
  | k + 2 => fb (k + 1) + fb k
noncomputable def fbs (k : Nat) : List Int := (List.range k).map fb
theorem fb_pos : ∀ k, 1 ≤ fb k ∧ 1 ≤ fb (k + 1)
  | 0 => by decide
  | k + 1 => by
    have h := fb_pos k
    refine ⟨h.2, ?_⟩
    show 1 ≤ fb (k + 1) + fb k
    omega
theorem fb_up (k : Nat) : ∀ d, fb k ≤ fb (k + d)
  | 0 => by simp
  | d + 1 => by
    have h := fb_up k d
    have : fb (k + d) ≤ fb (k + d + 1) := by
      cases e : k + d with
      | zero => decide
      | succ j => show fb (j + 1) ≤ fb (j + 1) + fb j; have := (fb_pos j).1; omega
    exact Int.le_trans h this
theorem fb_le {j : Nat} (h : fb j ≤ 200) : j ≤ 10 := by
  rcases Nat.lt_or_ge 10 j with h1 | h1
  · have h2 := fb_up 11 (j - 11)
    have e : 11 + (j - 11) = j := by omega
    rw [e] at h2
    have h3 : fb 11 = 233 := by decide
    omega
  · exact h1
theorem fbs_len (k : Nat) : (fbs k).length = k := by simp [fbs]
theorem fbs_at (k i : Nat) (h : i < k) : (fbs k).getD i 0 = fb i := by simp [fbs, List.getD_eq_getElem?_getD, h]
theorem fbs_snoc (k : Nat) : fbs (k + 1) = fbs k ++ [fb k] := by simp [fbs, List.range_succ]
theorem fbs_m1 (j : Nat) : (fbs (j + 2)).getD (-1 + ((fbs (j + 2)).length : Int)).toNat 0 = fb (j + 1) := by
  have e : (-1 + ((fbs (j + 2)).length : Int)).toNat = j + 1 := by rw [fbs_len]; omega
  rw [e]; exact fbs_at _ _ (by omega)
theorem fbs_m2 (j : Nat) : (fbs (j + 2)).getD (-2 + ((fbs (j + 2)).length : Int)).toNat 0 = fb j := by
  have e : (-2 + ((fbs (j + 2)).length : Int)).toNat = j := by rw [fbs_len]; omega
  rw [e]; exact fbs_at _ _ (by omega)
theorem ints_snoc {vs : List Value} {ns : List Int} (h : IntsAre vs ns) (i : Int) (t : Tok) : IntsAre (vs ++ [.int i t]) (ns ++ [i]) := by
  induction h with
  | nil => exact .cons _ _ .nil
  | cons _ _ _ ih => exact .cons _ _ ih

theorem item_neg {prog : Program} {w : World} {A : Around} {E : Value → Shared → Prop} {s : Shared} {value slice : PySem.Expr} {l : Addr} {vs : List Value} {ns : List Int} {k : Int} {u : Tok} {Q : Value → Shared → Prop} (hl : s.heap.IsList l vs.toArray) (hi : IntsAre vs ns)
    (h0 : k < 0) (h1 : -(ns.length : Int) ≤ k) (hfit : -(2 ^ 63) ≤ k) (h : ∀ t, Q (.int (ns.getD (k + ns.length).toNat 0) t) s)
    (hs : subscripted slice false (.ref l) (.int k u) = operate [.ref l, .int k u] (getItem (.ref l) (.int k u))) :
    wpAny (model prog w) A (subscriptTail value slice (.ref l) (.int k u)) Q E s := by
  have hlen : vs.toArray.size = ns.length := by rw [List.size_toArray]; exact hi.length
  have hk : ns[(k + ns.length).toNat]? = some (ns.getD (k + ns.length).toNat 0) := by
    rw [List.getD_eq_getElem?_getD, List.getElem?_eq_getElem (by omega)]; rfl
  obtain ⟨t, hx⟩ := hi.get _ _ hk
  exact tail_any hl.typeIs slot_list_getitem.lookup (wpAny_getItem_list_neg hl h0 (by rw [hlen]; exact h1) hfit (by rw [hlen]; simpa using hx) (h t)) hs

noncomputable def figStep (st : List Int × Int) (part : Int) : List Int × Int :=
  if part ≤ st.2 then (st.1 ++ [1], st.2 - part) else if st.1 = [] then st else (st.1 ++ [0], st.2)
theorem fig_a {n kN number : Int} {told pre : List Int} (h : (told, number) = pre.foldl figStep ([], n)) (hl : told.length ≤ pre.length) (hc : kN ≤ number) :
    (told ++ [1], number - kN) = (pre ++ [kN]).foldl figStep ([], n) ∧ (told ++ [1]).length ≤ (pre ++ [kN]).length := by
  refine ⟨?_, by simp only [List.length_append, List.length_cons, List.length_nil]; omega⟩
  rw [List.foldl_append, ← h]
  simp only [List.foldl_cons, List.foldl_nil, figStep]
  rw [if_pos hc]
theorem fig_b {n kN number : Int} {told pre : List Int} (h : (told, number) = pre.foldl figStep ([], n)) (hl : told.length ≤ pre.length) (hc : ¬ kN ≤ number) (hn' : decide (told = []) = false) :
    (told ++ [0], number) = (pre ++ [kN]).foldl figStep ([], n) ∧ (told ++ [0]).length ≤ (pre ++ [kN]).length := by
  refine ⟨?_, by simp only [List.length_append, List.length_cons, List.length_nil]; omega⟩
  rw [List.foldl_append, ← h]
  simp only [List.foldl_cons, List.foldl_nil, figStep]
  rw [if_neg hc, if_neg (of_decide_eq_false hn')]
theorem fig_c {n kN number : Int} {told pre : List Int} (h : (told, number) = pre.foldl figStep ([], n)) (hl : told.length ≤ pre.length) (hc : ¬ kN ≤ number) (hn' : decide (told = []) = true) :
    (told, number) = (pre ++ [kN]).foldl figStep ([], n) ∧ told.length ≤ (pre ++ [kN]).length := by
  refine ⟨?_, by simp only [List.length_append, List.length_cons, List.length_nil]; omega⟩
  rw [List.foldl_append, ← h]
  simp only [List.foldl_cons, List.foldl_nil, figStep]
  rw [if_neg hc, if_pos (of_decide_eq_true hn')]
noncomputable def figUpTo (n : Int) (k : Nat) : List Int × Int := (fbs k).reverse.foldl figStep ([], n)
noncomputable def figs (n : Int) : List Int := (figUpTo n 12).1
theorem figUp_succ {n : Int} {k : Nat} (h : ¬ fb k ≤ n) : figUpTo n (k + 1) = figUpTo n k := by
  unfold figUpTo
  rw [fbs_snoc, List.reverse_append]
  simp only [List.reverse_cons, List.reverse_nil, List.nil_append, List.singleton_append, List.foldl_cons]
  have : figStep ([], n) (fb k) = ([], n) := by simp only [figStep]; rw [if_neg h]; rfl
  rw [this]
theorem figUp_up {n : Int} {j : Nat} (h : ¬ fb (j + 1) ≤ n) : ∀ d, figUpTo n (j + 2 + d) = figUpTo n (j + 2)
  | 0 => rfl
  | d + 1 => by
    have := fb_up (j + 1) (d + 1)
    have e : j + 1 + (d + 1) = j + 2 + d := by omega
    rw [e] at this
    rw [← figUp_up h d]
    exact figUp_succ (k := j + 2 + d) (by omega)
theorem figs_is {n : Int} {j : Nat} (h : ¬ fb (j + 1) ≤ n) (hj : j ≤ 10) : figUpTo n (j + 2) = figUpTo n 12 := by
  have := figUp_up h (10 - j)
  have e : j + 2 + (10 - j) = 12 := by omega
  rw [e] at this
  exact this.symm

local macro_rules | `(tactic| size_fits) => `(tactic| assumption)
local macro_rules | `(tactic| kmk_size) => `(tactic| assumption)
local macro_rules | `(tactic| units_room) => `(tactic| ktr_units)
theorem S145 (w : World) (n : Int) (t : Tok) : Sp w 145 3 100 [] [.int n t] (fun h => 0 ≤ n ∧ n ≤ 200) (fun h v h'' => ∃ vs c, NewAt h v (PySem.W.listOf (List.toArray vs) c) h'' ∧ IntsAre vs (figs n)) := by
  unfold Sp
  k_fill
  k_with_none
  w_top off
  k_with "subscriptTail" => (k_here; (with_reducible show wpAny _ _ (subscriptTail _ _ (Value.ref _) (Value.int _ _)) _ _ _); (with_unfolding_all refine' item_neg ?k1 ?k2 ?k3 ?k4 ?k5 ?_ ?k6; (case k1 => is_list); (case k2 => assumption); (case k3 => decide); (case k4 => (simp only [fbs_len]; omega)); (case k5 => decide); (case k6 => with_unfolding_all rfl); k_whole); intro _)
  intro dp un gd cn cs a ccd cl outer A₀ base h₀ L m s Q E p loose mean mg mb B F KX T hk hX hpre hdp hun hret
  have N0 : News h₀ L s.heap [] := News.nil
  refine wpAny_call ?_
  k_dflt (refine' enter0 ?k1 ?k2 ?k3 ?k4 ?k5 ?kA ?kF ?kK ?k6 ?k7 ?k8 ?k9 ?kB ?_ ?c2 ?c3 ?c4 ?c5; (case kA => exact rfl); (case kF => exact rfl); (case kK => exact hk); (case k1 => exact B); (case k2 => exact F); (case k3 => exact KX); (case k4 => exact N0); (case k5 => exact T); (case k6 => k_is); (case k7 => k_is); (case k8 => (first | exact room0 hdp | exact room1 hdp (by decide) | exact room2 hdp (by decide) | exact room3 hdp (by decide) | exact room4 hdp (by decide) | ktr_room)); (case k9 => exact BindsTo.of_eq rfl); (case c5 => decide); (case kB => exact locs rfl); (case c2 => exact rfl); (case c3 => exact rfl); (case c4 => exact rfl); k_whole)
  intro g' L' h' hg F' N' B' X' T'
  try dsimp only
  obtain ⟨hp1, hp2⟩ := hpre
  try k_fold
  k_with "exec While" => (refine halt ?_)
  k_steps
  refine ⟨?_⟩
  rename Fr _ _ _ _ => F1
  rename News _ _ _ _ => N1
  rename_i l1 _ _ _
  obtain ⟨mm, hmm, F2⟩ := fr_ex F1
  clear F1
  refine While_inv2 (fun k m₁ nx => m₁ = mm ∧ ∃ vs c j, nx = [(l1, PySem.W.listOf (List.toArray vs) c)] ∧ IntsAre vs (fbs (j+2)) ∧ k = 20 - j ∧ (0 < j → fb j ≤ n)) (n₀ := 20) F2 N1 ⟨rfl, [_, _], _, 0, rfl, .cons _ _ (.cons _ _ .nil), rfl, by omega⟩ ?_
  rintro k m₁ nx h1 tk1 F3 N3 ⟨rfl, vs, c, j, rfl, hI, rfl, hj⟩
  subst hmm
  have hj10 : j ≤ 10 := by
    rcases Nat.eq_zero_or_pos j with h0 | h0
    · omega
    · exact fb_le (Int.le_trans (hj h0) hp2)
  have hsz : (List.toArray vs).size ≤ sizeLine := by rw [List.size_toArray, hI.length, fbs_len, sizeLine_eq]; omega
  try dsimp only
  k_with "exec For" => (refine halt ?_)
  k_steps
  · rename _ ≤ n => hle
    rw [fbs_m1] at hle
    refine ws2_next (by assumption) (by assumption) (n' := 20 - (j + 1)) (by omega) ⟨rfl, vs ++ [_], c + 1, j + 1, congrArg (fun z => [(l1, PySem.W.listOf z (c + 1))]) (List.push_toArray vs _), ?_, rfl, fun _ => hle⟩
    rw [fbs_m1, fbs_m2, show j + 1 + 2 = (j + 2) + 1 from rfl, fbs_snoc]
    exact ints_snoc hI _ _
  · refine ⟨?_⟩
    rename ¬ _ => hgt
    rw [fbs_m1] at hgt
    k_with_none
    k_with "subscriptTail" => (k_here; (with_reducible show wpAny _ _ (subscriptTail _ _ (Value.ref _) (Value.int _ _)) _ _ _); (with_unfolding_all refine' item_neg ?k1 ?k2 ?k3 ?k4 ?k5 ?_ ?k6; (case k1 => is_list); (case k2 => assumption); (case k3 => decide); (case k4 => (simp only [fbs_len]; omega)); (case k5 => decide); (case k6 => with_unfolding_all rfl); k_whole); intro _)
    k_with "pyIter ref" => k_state (fun pre told number => (told, number) = pre.foldl figStep ([], n) ∧ told.length ≤ pre.length) "told" "number"
    k_with "state" => (first | exact ⟨rfl, Nat.zero_le _⟩ | exact fig_a (by assumption) (by assumption) (by assumption) | exact fig_b (by assumption) (by assumption) (by assumption) (by assumption) | exact fig_c (by assumption) (by assumption) (by assumption) (by assumption))
    k_steps
    rename (_, _) = List.foldl figStep ([], n) (fbs (j + 2)).reverse => hfin
    have hfin2 : _ = figUpTo n (j + 2) := hfin
    rw [figs_is hgt hj10] at hfin2
    have hfin3 := congrArg Prod.fst hfin2
    dsimp only at hfin3
    refine hret _ _ _ (fun b o hb e => Fr.keep (by assumption) b o (hg b o hb e)) ⟨_, _, newAt_of hg (by simp) (by assumption) (List.Mem.tail _ (List.Mem.head _)), ?_⟩
    show IntsAre _ (figUpTo n 12).1
    rw [← hfin3]
    assumption
end Mine
end
section
set_option maxRecDepth 100000
set_option maxHeartbeats 3000000
set_option linter.unusedVariables false
namespace Mine

noncomputable abbrev qt : PySem.Str := PySem.Str.ofString "\""
noncomputable def parR (x : PySem.Str) : Nat → Int → PySem.Str → PySem.Str
  | 0, _, d => d
  | k + 1, i, d =>
    if i < (x.length : Int) then
      (if (Txt.item x i == PySem.Str.ofString "\"") = true then
        (if (x.length : Int) ≤ i + 1 then d else if (Txt.item x (i + 1) != PySem.Str.ofString "\"") = true then d else parR x k (i + 1 + 1) (d ++ Txt.item x i))
       else parR x k (i + 1) (d ++ Txt.item x i))
    else d
noncomputable def parF (x : PySem.Str) : PySem.Str := parR x 1001 5 (PySem.Str.ofString "")
structure parP (x d : PySem.Str) (i : Int) : Prop where
  out : 5 ≤ i ∧ (d.length : Int) ≤ i ∧ ∃ k : Nat, (x.length : Int) < k + i ∧ parR x k i d = parF x
theorem par_0 {x : PySem.Str} (hx : x.length ≤ 1000) : parP x (PySem.Str.ofString "") 5 := by
  refine ⟨by omega, ?_, 1001, by omega, rfl⟩
  have : (PySem.Str.ofString "").length = 0 := by decide +kernel
  omega
theorem par_a {x d : PySem.Str} {i : Int} (h : parP x d i) (h1 : i < (x.length : Int)) (hl : 1 ≤ (Txt.item x i).length ∧ (Txt.item x i).length ≤ 1) (h2 : (Txt.item x i == PySem.Str.ofString "\"") = false) : parP x (d ++ Txt.item x i) (i + 1) := by
  obtain ⟨h5, hd, k, hk, e⟩ := h.out
  obtain ⟨k, rfl⟩ : ∃ j, k = j + 1 := ⟨k - 1, by omega⟩
  refine ⟨by omega, ?_, k, by omega, ?_⟩
  · rw [PySem.Str.length_append]; omega
  · rw [← e, parR, if_pos h1, if_neg (by rw [h2]; decide)]
theorem par_b {x d : PySem.Str} {i : Int} (h : parP x d i) (h1 : i < (x.length : Int)) (hl : 1 ≤ (Txt.item x i).length ∧ (Txt.item x i).length ≤ 1) (h2 : (Txt.item x i == PySem.Str.ofString "\"") = true) (h3 : ¬ (x.length : Int) ≤ i + 1) (h4 : (Txt.item x (i + 1) != PySem.Str.ofString "\"") = false) :
    parP x (d ++ Txt.item x i) (i + 1 + 1) := by
  obtain ⟨h5, hd, k, hk, e⟩ := h.out
  obtain ⟨k, rfl⟩ : ∃ j, k = j + 1 := ⟨k - 1, by omega⟩
  refine ⟨by omega, ?_, k, by omega, ?_⟩
  · rw [PySem.Str.length_append]; omega
  · rw [← e, parR, if_pos h1, if_pos h2, if_neg h3, if_neg (by rw [h4]; decide)]
theorem par_x {x d : PySem.Str} {i : Int} (h : parP x d i) (h1 : ¬ i < (x.length : Int)) : d = parF x := by
  obtain ⟨h5, hd, k, hk, e⟩ := h.out
  rw [← e]
  cases k with
  | zero => rfl
  | succ k => rw [parR, if_neg h1]
theorem par_y {x d : PySem.Str} {i : Int} (h : parP x d i) (h1 : i < (x.length : Int)) (h2 : (Txt.item x i == PySem.Str.ofString "\"") = true) (h3 : (x.length : Int) ≤ i + 1) : d = parF x := by
  obtain ⟨h5, hd, k, hk, e⟩ := h.out
  obtain ⟨k, rfl⟩ : ∃ j, k = j + 1 := ⟨k - 1, by omega⟩
  rw [← e, parR, if_pos h1, if_pos h2, if_pos h3]
theorem par_z {x d : PySem.Str} {i : Int} (h : parP x d i) (h1 : i < (x.length : Int)) (h2 : (Txt.item x i == PySem.Str.ofString "\"") = true) (h3 : ¬ (x.length : Int) ≤ i + 1) (h4 : (Txt.item x (i + 1) != PySem.Str.ofString "\"") = true) : d = parF x := by
  obtain ⟨h5, hd, k, hk, e⟩ := h.out
  obtain ⟨k, rfl⟩ : ∃ j, k = j + 1 := ⟨k - 1, by omega⟩
  rw [← e, parR, if_pos h1, if_pos h2, if_neg h3, if_pos h4]
theorem par_in {x d : PySem.Str} {i : Int} (h : parP x d i) : 5 ≤ i ∧ (d.length : Int) ≤ i := ⟨h.out.1, h.out.2.1⟩
theorem S131 (w : World) (x : PySem.Str) (t : Tok) : Sp w 131 3 40 [] [.str x t] (fun h => x.length ≤ 1000 ∧ (Txt.slice x none (some 3) != PySem.Str.ofString "257") = false ∧ (Txt.slice x (some 3) (some 5) != PySem.Str.ofString " \"") = false) (fun h v h'' => ∃ t, v = .str (parF x) t) := by
  unfold Sp
  k_fill
  k_with_none
  w_top off
  intro dp un gd cn cs a ccd cl outer A₀ base h₀ L m s Q E p loose mean mg mb B F KX T hk hX hpre hdp hun hret
  have N0 : News h₀ L s.heap [] := News.nil
  refine wpAny_call ?_
  k_dflt (refine' enter0 ?k1 ?k2 ?k3 ?k4 ?k5 ?kA ?kF ?kK ?k6 ?k7 ?k8 ?k9 ?kB ?_ ?c2 ?c3 ?c4 ?c5; (case kA => exact rfl); (case kF => exact rfl); (case kK => exact hk); (case k1 => exact B); (case k2 => exact F); (case k3 => exact KX); (case k4 => exact N0); (case k5 => exact T); (case k6 => k_is); (case k7 => k_is); (case k8 => (first | exact room0 hdp | exact room1 hdp (by decide) | exact room2 hdp (by decide) | exact room3 hdp (by decide) | exact room4 hdp (by decide) | ktr_room)); (case k9 => exact BindsTo.of_eq rfl); (case c5 => decide); (case kB => exact locs rfl); (case c2 => exact rfl); (case c3 => exact rfl); (case c4 => exact rfl); k_whole)
  intro g' L' h' hg F' N' B' X' T'
  try dsimp only
  obtain ⟨hp1, hp2, hp3⟩ := hpre
  try k_fold
  k_with "exec While" => (k_while (fun script d i => parP x d i ∧ 5 ≤ i ∧ (d.length : Int) ≤ i) (fun script d i => 2000 - i.toNat) "dirname" "i")
  k_with "state" => (
    first
    | exact ⟨par_0 hp1, par_in (par_0 hp1)⟩
    | exact ⟨par_a (by assumption) (by assumption) (by assumption) (by assumption), par_in (par_a (by assumption) (by assumption) (by assumption) (by assumption))⟩
    | exact ⟨par_b (by assumption) (by assumption) (by assumption) (by assumption) (by assumption) (by assumption), par_in (par_b (by assumption) (by assumption) (by assumption) (by assumption) (by assumption) (by assumption))⟩)
  k_with "measure" => omega
  k_steps
  all_goals (refine hret _ _ _ (fun b o hb e => Fr.keep (by assumption) b o (hg b o hb e)) ?_)
  all_goals (refine ⟨_, congrArg (fun z => Value.str z _) ?_⟩
             first
             | exact par_x (by assumption) (by assumption)
             | exact par_y (by assumption) (by assumption) (by assumption) (by assumption)
             | exact par_z (by assumption) (by assumption) (by assumption) (by assumption) (by assumption))
end Mine
end
section
set_option maxRecDepth 100000
set_option maxHeartbeats 8000000
set_option linter.unusedVariables false
namespace Mine
noncomputable def nb : Nat → Int × Int
  | 0 => (1, 1)
  | k + 1 => ((nb k).2, (nb k).1 + (nb k).2)
theorem S152 (w : World) (n : Int) (t : Tok) : Sp w 152 3 40 [] [.int n t] (fun h => 0 ≤ n ∧ n ≤ 100) (fun h v h'' => ∃ t1 t2 c, NewAt h v { cls := .type "tuple", data := .seq #[.int (nb n.toNat).1 t1, .int (nb n.toNat).2 t2] c } h'') := by
  unfold Sp
  k_fill
  k_with_none
  w_top off
  intro dp un gd cn cs a ccd cl outer A₀ base h₀ L m s Q E p loose mean mg mb B F KX T hk hX hpre hdp hun hret
  have N0 : News h₀ L s.heap [] := News.nil
  refine wpAny_call ?_
  k_dflt (refine' enter0 ?k1 ?k2 ?k3 ?k4 ?k5 ?kA ?kF ?kK ?k6 ?k7 ?k8 ?k9 ?kB ?_ ?c2 ?c3 ?c4 ?c5; (case kA => exact rfl); (case kF => exact rfl); (case kK => exact hk); (case k1 => exact B); (case k2 => exact F); (case k3 => exact KX); (case k4 => exact N0); (case k5 => exact T); (case k6 => k_is); (case k7 => k_is); (case k8 => (first | exact room0 hdp | exact room1 hdp (by decide) | exact room2 hdp (by decide) | exact room3 hdp (by decide) | exact room4 hdp (by decide) | ktr_room)); (case k9 => exact BindsTo.of_eq rfl); (case c5 => decide); (case kB => exact locs rfl); (case c2 => exact rfl); (case c3 => exact rfl); (case c4 => exact rfl); k_whole)
  intro g' L' h' hg F' N' B' X' T'
  try dsimp only
  obtain ⟨hp1, hp2⟩ := hpre
  try k_fold
  k_with "pyIter ref" => k_state (fun pre lo up => lo = (nb pre.length).1 ∧ up = (nb pre.length).2) "lower" "upper"
  k_with "state" => (first | exact ⟨rfl, rfl⟩ | (simp_all [nb]; done))
  k_steps
  rename _ = (nb _).1 => e1
  rename _ = (nb _).2 => e2
  have e3 : (rangeKs 0 (n - 0).toNat).length = n.toNat := by rw [rangeKs_length]; omega
  rw [e3] at e1 e2
  subst e1 e2
  all_goals (refine hret _ _ _ (fun b o hb e => Fr.keep (by assumption) b o (hg b o hb e)) ?_)
  exact ⟨_, _, _, newAt_of hg (by simp) (by assumption) (List.Mem.head _)⟩
end Mine
end
section
set_option maxRecDepth 100000
set_option maxHeartbeats 8000000
set_option linter.unusedVariables false
namespace Mine

theorem rs_n {n : Int} (h : 0 < n) : PySem.Builtin.Range.rangeSize 0 n n = ((1 : Nat) : Int) := by
  unfold PySem.Builtin.Range.rangeSize
  rw [if_pos h, if_pos h, Int.ediv_eq_zero_of_lt (by omega) (by omega)]
  rfl
theorem sm_n {n : Int} (h : 0 < n) (h1 : n ≤ 1000) : PySem.Builtin.Range.small 0 n n = true := by
  unfold PySem.Builtin.Range.small
  rw [rs_n h]
  simp only [PySem.Builtin.Range.rangeFitsLong, Bool.and_eq_true, Bool.or_eq_true, decide_eq_true_eq, beq_iff_eq]
  have hn : n > 0 := h
  simp only [hn, if_true, Bool.and_eq_true, decide_eq_true_eq]
  refine ⟨⟨⟨⟨?_, ?_⟩, ?_⟩, ?_⟩, .inr ?_⟩
  · decide
  · omega
  · omega
  · decide
  · omega
theorem ba_set_K {prog : Program} {w : World} {A : Around} {E : Value → Shared → Prop} {s : Shared} {h₀ : Heap} {L D : Addr} {m : PySem.Str → Option Value} {news news' : List (Addr × Obj)} {b : Array UInt8} {k z : Int} {t u : Tok} {Q : Unit → Shared → Prop}
    (F : Fr h₀ L s.heap m) (N : News h₀ L s.heap news) (U : Upd D (baObj b) (baObj (b.setIfInBounds k.toNat z.toNat.toUInt8)) news news') (hz : b.size ≤ 1000) (h0 : 0 ≤ k) (h1 : k < b.size) (x0 : 0 ≤ z) (x1 : z < 256)
    (h : ∀ h', Fr h₀ L h' m → News h₀ L h' news' → Q () { s with heap := h' }) : wpAny (model prog w) A (setItem (.ref D) (.int k t) (.int z u)) Q E s := by
  obtain ⟨pre, post, rfl, rfl, a, c⟩ := U.split
  have hD := N (D, baObj b) (List.mem_append.mpr (.inr (.head _)))
  obtain ⟨F', N'⟩ := upd_first F N a c (f := Obj.mapBytearray (·.setIfInBounds k.toNat z.toNat.toUInt8)) rfl rfl
  exact ba_setItem hD.1 (by rw [sizeLine_eq]; omega) h0 h1 (by omega) x0 x1 (h _ F' N')
theorem item_ba {prog : Program} {w : World} {A : Around} {E : Value → Shared → Prop} {s : Shared} {value slice : Expr} {b : Array UInt8} {i : Int} {t ui : Tok} {Q : Value → Shared → Prop} (hfit : b.size ≤ 1000) (h0 : 0 ≤ i) (h1 : i < (b.size : Int))
    (h : ∀ t' k, Q (.int (b.getD i.toNat 0).toNat t') { s with toks := k })
    (hs : subscripted slice false (.bytes b t) (.int i ui) = operate [.bytes b t, .int i ui] (getItem (.bytes b t) (.int i ui)))
    (ht : ∀ r, letTemporaryGo value (.bytes b t) r = pure ()) : wpAny (model prog w) A (subscriptTail value slice (.bytes b t) (.int i ui)) Q E s := by
  have e : b.toList.toArray = b := Array.toArray_toList
  have g : wpAny (model prog w) A (getItem (.bytes b.toList.toArray t) (.int i ui)) Q E s := by
    refine getItem_bytes (l := b.toList) (by simp; omega) h0 (by simpa using h1) ?_
    have : b.toList.getD i.toNat 0 = b.getD i.toNat 0 := by
      rw [List.getD_eq_getElem?_getD]
      simp [Array.getD]
      split <;> simp_all
    rw [this]
    exact h _ _
  rw [e] at g
  exact tail_of_ItemOn ⟨"bytes", _, FB.slot_bytes_getitem.lookup, typeIs_bytes _ _ _, g⟩ hs ht
theorem u8_back (z : UInt8) : ((z.toNat : Int)).toNat.toUInt8 = z := by simp
theorem S138 (w : World) (x : Array UInt8) (n : Int) (t t2 : Tok) : SpS w 138 5 60 [.bytes x t, .int n t2] (fun h => n = x.size ∧ 0 < n ∧ n ≤ 1000) (fun h v h'' => ∃ t, v = .bytes x.reverse t) := by
  unfold SpS
  k_fill
  k_with_none
  w_top off
  k_with "subscriptTail" => (k_here; (with_reducible show wpAny _ _ (subscriptTail _ _ (Value.bytes _ _) (Value.int _ _)) _ _ _); (refine item_ba (by omega) (by omega) (by omega) (fun t8 k8 => ?_) (by with_unfolding_all rfl) (by intro _; with_unfolding_all rfl)); (try k_sweep))
  k_with "setItem ref int" => (k_here; (with_reducible show wpAny _ _ (setItem (Value.ref _) (Value.int _ _) (Value.int _ _)) _ _ _); k_dflt (refine' ba_set_K ?k1 ?k2 ?k3 ?k4 ?k5 ?k6 ?k7 ?k8 ?_; (case k1 => k_asm); (case k2 => k_asm); (case k3 => k_upd); (case k4 => (rw [revB_size]; omega)); (case k5 => omega); (case k6 => (rw [revB_size]; omega)); (case k7 => omega); (case k8 => (have := UInt8.toNat_lt; omega)); k_whole); intro h' F' N'; (try k_sweep))
  intro dp un gd cn cs a ccd cl outer A₀ base h₀ L m s Q p loose mean mg mb B F KX T hk hpre hdp hun hret
  refine wpS_call ?_
  k_dflt (refine' enterS ?k1 ?k2 ?k3 ?k5 ?kA ?kF ?kK ?k6 ?k7 ?k8 ?k9 ?kB ?_ ?c2 ?c3 ?c4 ?c5; (case kA => exact rfl); (case kF => exact rfl); (case kK => exact hk); (case k1 => exact B); (case k2 => exact F); (case k3 => exact KX); (case k5 => exact T); (case k6 => k_is); (case k7 => k_is); (case k8 => (first | exact room0 hdp | exact room1 hdp (by decide) | exact room2 hdp (by decide) | exact room3 hdp (by decide) | exact room4 hdp (by decide) | ktr_room)); (case k9 => exact BindsTo.of_eq rfl); (case c5 => decide); (case kB => exact locs rfl); (case c2 => exact rfl); (case c3 => exact rfl); (case c4 => exact rfl); k_whole)
  intro g' L' h' hg F' N' B' X' T'
  try dsimp only
  obtain ⟨hp1, hp2, hp3⟩ := hpre
  subst hp1
  refine execsS_cons (execS_Assign (evalS_Call (f := .type "bytearray") (k := .machine) ?n (.inr (.inl rfl)) (wpS_of ?a) (by rfl) (by rfl)) (by rfl))
  case n =>
    try k_fold
    k_steps
  case a =>
    try k_fold
    k_steps
    · exact Looks.of_pure rfl
    · refine call_ba (by omega) (by omega) (fun h1 st1 hD1 => ?_)
      obtain ⟨F1, N1⟩ := news_ba F' N' st1 (get_size _) hD1
      dsimp only at F1 N1
      clear hD1 st1
      generalize h'.objs.size = D at N1 ⊢
      clear F' N'
      k_steps
      refine wpS_of ?_
      try k_fold
      k_with "pyIter ref" => (refine halt ?_)
      k_steps
      refine ⟨?_⟩
      rename IsRange _ _ _ _ _ _ _ _ => rg
      rename Fr _ _ _ _ => F2
      rename News _ _ _ _ => N2
      refine krs_iter (n := 1) rfl rg (sm_n hp2 hp3) (rs_n hp2) F2 N2 (fun I hI => ?_)
      k_lt hI
      refine KrsRest.succ (v := 0) (by simp) (fun t3 h3 tk3 F3 N3 => ?_)
      try dsimp only at F3 N3
      try k_fold
      k_steps
      refine ⟨?_⟩
      rename IsRange _ _ _ _ _ _ _ _ => rg2
      rename Fr _ _ _ _ => F4
      rename News _ _ _ _ => N4
      obtain ⟨mm, hmm, F5⟩ := fr_ex F4
      clear F4
      refine krs_iter (n := x.size) rfl rg2 (small_one (by omega) (by omega) (by omega) (by omega)) (by rw [rangeSize_one, if_pos hp2]; omega) F5 N4 (fun I2 hI2 => krsRest_of (fun j m₁ nx => (∃ u, m₁ = fun y => if y = PySem.Str.ofString "j" then u else mm y) ∧ nx = [(I, krsIt (0 + ((0 + 1 : Nat) : Int) * (x.size : Int)) (((1 : Nat) : Int) - ((0 + 1 : Nat) : Int)) (x.size : Int)), (D, baObj (revB x j))]) ?turn ?done x.size 0 _ _ (by omega) ⟨⟨mm (PySem.Str.ofString "j"), ?m0⟩, ?n0⟩)
      case m0 =>
        funext y
        by_cases hy : y = PySem.Str.ofString "j"
        · rw [if_pos hy, hy]
        · rw [if_neg hy]
      case n0 => simp [revB]
      case turn =>
        k_lt hI2
        rintro j m₁ nx t5 h5 tk5 hj ⟨⟨u, rfl⟩, rfl⟩ F6 N6
        subst hmm
        try dsimp only at F6 N6
        try dsimp only
        k_with_none
        k_with "subscriptTail" => (k_here; (with_reducible show wpAny _ _ (subscriptTail _ _ (Value.bytes _ _) (Value.int _ _)) _ _ _); (refine item_ba (by omega) (by omega) (by omega) (fun t8 k8 => ?_) (by with_unfolding_all rfl) (by intro _; with_unfolding_all rfl)); (try k_sweep))
        k_with "setItem ref int" => (k_here; (with_reducible show wpAny _ _ (setItem (Value.ref _) (Value.int _ _) (Value.int _ _)) _ _ _); k_dflt (refine' ba_set_K ?k1 ?k2 ?k3 ?k4 ?k5 ?k6 ?k7 ?k8 ?_; (case k1 => k_asm); (case k2 => k_asm); (case k3 => k_upd); (case k4 => (rw [revB_size]; omega)); (case k5 => omega); (case k6 => (rw [revB_size]; omega)); (case k7 => omega); (case k8 => (have := UInt8.toNat_lt; omega)); k_whole); intro h' F' N'; (try k_sweep))
        k_steps
        refine' ba_set_K (D := D) (b := revB x j) F6 N6 ?U ?a1 ?a2 ?a3 ?a4 ?a5 ?_
        case a1 => rw [revB_size]; omega
        case a2 => omega
        case a3 => rw [revB_size]; omega
        case a4 => omega
        case a5 => have := UInt8.toNat_lt (x.getD (0 + (0 + (j : Int) * 1)).toNat 0); omega
        case U => k_upd
        intro h9 F9 N9
        rw [u8_back] at N9
        try k_fold
        k_steps
        refine turn_end F9 N9 (by k_all) ⟨⟨some (.int (0 + (j : Int) * 1) t5), ?_⟩, ?_⟩
        · funext y
          by_cases hy : y = PySem.Str.ofString "j"
          · rw [if_pos hy, if_pos hy]
          · rw [if_neg hy, if_neg hy, if_neg hy]
        · congr 3
          have e1 : (0 + (x.size : Int) - 1 - (0 + (j : Int) * 1)).toNat = x.size - 1 - j := by omega
          have e2 : (0 + (0 + (j : Int) * 1)).toNat = j := by omega
          rw [e1, e2]
          rfl
      case done =>
        k_lt hI2
        rintro m₁ nx h5 tk5 ⟨⟨u, rfl⟩, rfl⟩ F6 N6
        subst hmm
        try dsimp only at F6 N6
        try dsimp only
        k_with_none
        k_with "subscriptTail" => (k_here; (with_reducible show wpAny _ _ (subscriptTail _ _ (Value.bytes _ _) (Value.int _ _)) _ _ _); (refine item_ba (by omega) (by omega) (by omega) (fun t8 k8 => ?_) (by with_unfolding_all rfl) (by intro _; with_unfolding_all rfl)); (try k_sweep))
        k_with "setItem ref int" => (k_here; (with_reducible show wpAny _ _ (setItem (Value.ref _) (Value.int _ _) (Value.int _ _)) _ _ _); k_dflt (refine' ba_set_K ?k1 ?k2 ?k3 ?k4 ?k5 ?k6 ?k7 ?k8 ?_; (case k1 => k_asm); (case k2 => k_asm); (case k3 => k_upd); (case k4 => (rw [revB_size]; omega)); (case k5 => omega); (case k6 => (rw [revB_size]; omega)); (case k7 => omega); (case k8 => (have := UInt8.toNat_lt; omega)); k_whole); intro h' F' N'; (try k_sweep))
        k_steps
        rename News _ _ _ _ => N7
        refine bytes_ba (b := revB x x.size) (N7 (D, _) (.head _)).1 (by rw [revB_size, sizeLine_eq]; omega) (fun t9 k9 => ?_)
        try k_fold
        k_steps
        refine hret _ _ _ (fun b o hb e => Fr.keep (by assumption) b o (hg b o hb e)) ⟨_, congrArg (fun z => Value.bytes z _) (revB_all x)⟩
end Mine
end
section
set_option maxRecDepth 100000
set_option maxHeartbeats 8000000
set_option linter.unusedVariables false
set_option autoImplicit false
namespace Mine

theorem keeps_rfl (s : Shared) : Keeps s s := ⟨s.heap, s.toks, rfl, fun _ _ h => h⟩
noncomputable def stepOf (k : Int) : PySem.Str := PySem.Str.ofString "/" ++ (if k = 0 then PySem.Str.ofString "o" else PySem.Str.ofString "\"")
noncomputable def dblOf (a : PySem.Str) : PySem.Str := if (a == PySem.Str.ofString "\"") = true then a ++ a else a
noncomputable def ordOf (a : PySem.Str) : Int := ((a.cps.getD 0 0 : Nat) : Int)
theorem looks_fn {M : Model} {h : Heap} {f : Addr} {o : Obj} {d : FuncData} (ho : h.get? f = some o) (hd : o.data = .func d) : Looks M h (keeperOf (.ref f)) .frame := by
  refine (Looks.ld (part := none) ho).andThen ?_
  simp only [hd]
  exact .now
noncomputable def dotOf (k : Int) : PySem.Str := if k = 47 then PySem.Str.ofString "." else ⟨#[k.toNat]⟩
/-- what the host's steps hold, one by one -/
structure HostEq (ns : List Int) (P D R W0 : PySem.Str) (O : Array UInt8) (J H : PySem.Str) : Prop where
  j : Txt.join (PySem.Str.ofString "") ((KBw.bInts O.reverse).map dotOf) = J
  h : J ++ PySem.Str.ofString "local" = H
  p : Txt.join (PySem.Str.ofString "") (ns.map stepOf) = P
  d : Txt.join (PySem.Str.ofString "") ((signs P).map dblOf) = D
  r : PySem.Str.ofString "257 \"" ++ D ++ PySem.Str.ofString "\" is where we are" = R
  t : parF R = W0
  o : byteArr ((signs W0).map ordOf) = O
  o1 : ∀ n : Int, n ∈ (signs W0).map ordOf → 0 ≤ n ∧ n < 256
  r1 : (Txt.slice R none (some 3) != PySem.Str.ofString "257") = false
  r2 : (Txt.slice R (some 3) (some 5) != PySem.Str.ofString " \"") = false
theorem filt_true {α : Type} (l : List α) : l.filter (fun _ => true) = l := by simp
theorem join_mine {α : Type} {prog : Program} {w : World} {A : Around} {E : Value → Shared → Prop} {s : Shared} {Q : Value → Shared → Prop} {x : PySem.Str} {t : Tok} {D : Addr} {ys : List Value} {l : List α} {g : α → PySem.Str} (B : Nat) (hl : s.heap.IsList D ys.toArray) (hc : CarriedAll ys ((l.filter (fun _ => true)).map (fun a => PyData.str (g a)))) (hB : ∀ a ∈ l, (g a).length ≤ B) (hn : l.length ≤ 1000) (hs : B + x.length ≤ 16)
    (h : ∀ t' k, Q (.str (Txt.join x (l.map g)) t') { s with toks := k }) : wpAny (model prog w) A (call (.builtin "str.join") [.str x t, .ref D]) Q E s :=
  join_madeW B hl (by rw [filt_true] at hc; rw [List.map_map]; exact hc) hB (by omega) hs h
theorem join_mine2 {α : Type} {prog : Program} {w : World} {A : Around} {E : Value → Shared → Prop} {s : Shared} {Q : Value → Shared → Prop} {x : PySem.Str} {t : Tok} {D : Addr} {ys : List Value} {l : List α} {g : α → PySem.Str} (B : Nat) (hl : s.heap.IsList D ys.toArray) (hc : CarriedAll ys (l.map (fun a => PyData.str (g a)))) (hB : ∀ a ∈ l, (g a).length ≤ B) (hn : l.length ≤ 1000) (hs : B + x.length ≤ 16)
    (h : ∀ t' k, Q (.str (Txt.join x (l.map g)) t') { s with toks := k }) : wpAny (model prog w) A (call (.builtin "str.join") [.str x t, .ref D]) Q E s :=
  join_madeW B hl (by rw [List.map_map]; exact hc) hB (by omega) hs h
theorem dot_len (k : Int) : (dotOf k).length ≤ 3 := by
  unfold dotOf
  split
  · decide +kernel
  · exact (by decide : 1 ≤ 3)
theorem step_len (k : Int) : (stepOf k).length ≤ 3 := by
  unfold stepOf
  split <;> decide +kernel
theorem dbl_len {y : PySem.Str} : ∀ a ∈ signs y, (dblOf a).length ≤ 3 := by
  intro a ha
  have := sign_length_one y a ha
  unfold dblOf
  split
  · have e : (a ++ a).length = a.length + a.length := by
      show (a.cps ++ a.cps).size = _
      simp [PySem.Str.length]
    omega
  · omega
end Mine
end
section
set_option maxRecDepth 100000
set_option maxHeartbeats 8000000
set_option linter.unusedVariables false
namespace Mine

theorem nameG_B {M : Model} {A : Around} {E : Value → Shared → Prop} {s : Shared} {h₀ : Heap} {L : Addr} {m : PySem.Str → Option Value} {env : Env} {K : Frag} {mg mb : PySem.Str → Option Value} {p : Program} {loose : List PySem.Str} {x : PySem.Str} {pos : Pos} {v : Value} {Q : Value → Shared → Prop} (F : Fr h₀ L s.heap m) (X : K.In h₀) (T : TopRead p loose mg mb h₀)
    (e : nsIn K mainGlobals x = some none) (hv : bootBuiltins x = some v) (hn : x ≠ "__name__") (h : Q v s) (hg : env.globals = mainGlobals) (hb : env.builtins = builtinsNs) (hk : env.scope.kind = .function) (hx : env.kindOf x = some .globalImplicit) (hd : (x == ("__debug__" : PySem.Str)) = false) :
    wpAny M A (eval (.Name x pos) env) Q E s :=
  Calls.Name_function_global hk hx (Calls.loadGlobal_builtin (env := env) (by rw [hg]; exact T.g.keeps F.keep) (mg_none_of X T.g e) (by rw [hb]; exact T.b.keeps F.keep) ((T.builtins x hn).trans hv) h) hd
section
variable {prog : Program} {w : World} {A : Around} {E : Value → Shared → Prop} {s₁ : Shared} {h₀ : Heap} {L : Addr} {m : PySem.Str → Option Value} {news : List (Addr × Obj)}
theorem no_ifs {C : Addr} {scope : Scope} {env : Env} {s₃ : Shared} {E' : Value → Shared → Prop} {p : Bool} (hp : p = true) : wpAny (model prog w) A (forIn ([] : List Expr) true fun c r => if r = true then do let ok ← isTrue c (compEnv scope C env) (eval c (compEnv scope C env)); pure (ForInStep.yield ok) else pure (ForInStep.yield r))
          (fun ok s₃' => ok = p ∧ Keeps s₃ s₃') E' s₃ := wpAny_pure ⟨hp.symm, s₃.heap, s₃.toks, rfl, fun _ _ h => h⟩
theorem srcC_signsK {env : Env} {elt : Expr} {x : PySem.Str} {scope : Scope} {Q : Value → Shared → Prop} {y : PySem.Str} {t : Tok} (d : PySem.Str → PyData)
    (hh : A.handled = none) (F : Fr h₀ L s₁.heap m) (N : News h₀ L s₁.heap news)
    (g2 : ∀ C c u s₂ m₂ E', c ∈ y.cps → s₂.heap.Ns (compEnv scope C env).locals m₂ → m₂ x = some (.str ⟨#[c]⟩ u) → (∀ b o, s₁.heap.get? b = some o → s₂.heap.get? b = some o) → wpAny (model prog w) A (eval elt (compEnv scope C env)) (fun r s₃ => Carried r (d ⟨#[c]⟩) ∧ Keeps s₂ s₃) E' s₂)
    (g3 : ∀ D (ys : List Value) h' tk, Fr h₀ L h' m → News h₀ L h' news → h₀.get? D = none → h'.IsList D ys.toArray → CarriedAll ys ((signs y).map d) → Q (.ref D) { s₁ with heap := h', toks := tk }) (hsz : y.length ≤ sizeLine) :
    wpAny (model prog w) A (pyIter (.str y t)) (CompPost prog w A env scope x [] elt Q) E s₁ := by
  unfold CompPost
  refine wpAny_pyIter_str fun o St W hst => ?_
  have up : ∀ (h' : Heap), (∀ b o', b ∉ [s₁.heap.objs.size] → (s₁.heap.push o).get? b = some o' → h'.get? b = some o') → ∀ b o', s₁.heap.get? b = some o' → h'.get? b = some o' :=
    fun h' hk b o' e => hk b o' (old_not_new e) (Heap.get?_push_of_some _ e)
  refine ⟨ItemKind.str.lift (fun _ => true), fun v r => ∃ a, ItemKind.str.is a v ∧ Carried r (d a), s₁.heap.objs.size, [s₁.heap.objs.size], [s₁.heap.objs.size], y.cps.size, SignAt y, St, rfl, W A hh, hsz, hst, ?_, ⟨?_, ?_⟩, ?_⟩
  · intro b hb
    show b < (s₁.heap.push o).objs.size
    rw [Heap.size_push, List.mem_singleton.mp hb]
    exact Nat.lt_succ_self _
  · intro C i v s₃ m₃ E' hP hn hm _ htk
    obtain ⟨c, u, _, rfl⟩ := hP
    have ha : ItemKind.str.is ⟨#[c]⟩ (.str ⟨#[c]⟩ u) := ⟨u, rfl⟩
    rw [ItemKind.lift_is ha]
    exact no_ifs rfl
  · intro C i v s₃ m₃ E' hP hp hn hm hk htk
    obtain ⟨c, u, hc, rfl⟩ := hP
    have ha : ItemKind.str.is ⟨#[c]⟩ (.str ⟨#[c]⟩ u) := ⟨u, rfl⟩
    exact wpAny_mono (g2 C c u s₃ m₃ E' (Array.mem_of_getElem? hc) hn hm (up _ hk)) (fun r s₄ h₄ => ⟨⟨_, ha, h₄.1⟩, h₄.2⟩) fun _ _ e => e
  · intro D h' tk ys vs hnew hlD hplD hlen hP hF hk
    refine g3 D ys.toList h' tk (F.keeps (up h' hk)) (N.grown (up h' hk)) ?_ (by rw [Array.toArray_toList]; exact hlD) ?_
    · cases e : h₀.get? D with
      | none => rfl
      | some o' => rw [Heap.get?_push_of_some _ (F.keep _ _ e)] at hnew; cases hnew
    · have := (areOf_signs hlen hP).paired (fun _ => true) d _ hF
      rwa [List.filter_eq_self.mpr (fun _ _ => rfl)] at this
theorem srcC_bytesK {env : Env} {elt : Expr} {x : PySem.Str} {scope : Scope} {Q : Value → Shared → Prop} {b : Array UInt8} {t : Tok} (d : Int → PyData)
    (hh : A.handled = none) (F : Fr h₀ L s₁.heap m) (N : News h₀ L s₁.heap news)
    (g2 : ∀ C (c : UInt8) u s₂ m₂ E', c ∈ b → s₂.heap.Ns (compEnv scope C env).locals m₂ → m₂ x = some (.int (c.toNat : Int) u) → (∀ b o, s₁.heap.get? b = some o → s₂.heap.get? b = some o) → wpAny (model prog w) A (eval elt (compEnv scope C env)) (fun r s₃ => Carried r (d (c.toNat : Int)) ∧ Keeps s₂ s₃) E' s₂)
    (g3 : ∀ D (ys : List Value) h' tk, Fr h₀ L h' m → News h₀ L h' news → h₀.get? D = none → h'.IsList D ys.toArray → CarriedAll ys ((KBw.bInts b).map d) → Q (.ref D) { s₁ with heap := h', toks := tk }) (hsz : b.size ≤ sizeLine) :
    wpAny (model prog w) A (pyIter (.bytes b t)) (CompPost prog w A env scope x [] elt Q) E s₁ := by
  unfold CompPost
  refine KBw.pyIter_bytes ?_
  have W := KBw.walks (prog := prog) (w := w) hh s₁.heap.objs.size b t
  have up : ∀ (h' : Heap), (∀ a o', a ∉ [s₁.heap.objs.size] → (s₁.heap.push { cls := .type "bytes_iterator", data := .fields #[.bytes b t, .int 0 0] }).get? a = some o' → h'.get? a = some o') → ∀ a o', s₁.heap.get? a = some o' → h'.get? a = some o' :=
    fun h' hk a o' e => hk a o' (old_not_new e) (Heap.get?_push_of_some _ e)
  refine ⟨ItemKind.int.lift (fun _ => true), fun v r => ∃ a, ItemKind.int.is a v ∧ Carried r (d a), s₁.heap.objs.size, [s₁.heap.objs.size], [s₁.heap.objs.size], b.size, _, _, rfl, W, hsz, ⟨_, Heap.get?_push_size _ rfl, rfl, rfl⟩, ?_, ⟨?_, ?_⟩, ?_⟩
  · intro b' hb
    show b' < (s₁.heap.push _).objs.size
    rw [Heap.size_push, List.mem_singleton.mp hb]
    exact Nat.lt_succ_self _
  · intro C i v s₃ m₃ E' hP hn hm _ htk
    obtain ⟨c, u, _, rfl⟩ := hP
    have ha : ItemKind.int.is (c.toNat : Int) (.int (c.toNat : Int) u) := ⟨u, rfl⟩
    rw [ItemKind.lift_is ha]
    exact no_ifs rfl
  · intro C i v s₃ m₃ E' hP hp hn hm hk htk
    obtain ⟨c, u, hc, rfl⟩ := hP
    have ha : ItemKind.int.is (c.toNat : Int) (.int (c.toNat : Int) u) := ⟨u, rfl⟩
    exact wpAny_mono (g2 C c u s₃ m₃ E' (Array.mem_of_getElem? hc) hn hm (up _ hk)) (fun r s₄ h₄ => ⟨⟨_, ha, h₄.1⟩, h₄.2⟩) fun _ _ e => e
  · intro D h' tk ys vs hnew hlD hplD hlen hP hF hk
    refine g3 D ys.toList h' tk (F.keeps (up h' hk)) (N.grown (up h' hk)) ?_ (by rw [Array.toArray_toList]; exact hlD) ?_
    · cases e : h₀.get? D with
      | none => rfl
      | some o' => rw [Heap.get?_push_of_some _ (F.keep _ _ e)] at hnew; cases hnew
    · have hi : AreOf ItemKind.int vs (KBw.bInts b) := areOf_of_get vs _ (by rw [hlen, KBw.ints_length]) fun j v hv => by
        obtain ⟨c, u, hc, rfl⟩ := hP j v hv
        exact ⟨_, KBw.ints_get hc, u, rfl⟩
      have := hi.paired (fun _ => true) d _ hF
      rwa [List.filter_eq_self.mpr (fun _ _ => rfl)] at this
end
end Mine
end
section
set_option maxRecDepth 100000
set_option maxHeartbeats 8000000
set_option linter.unusedVariables false
set_option autoImplicit false
namespace Mine
theorem S157 (w : World) (l c : Addr) (vs : List Value) (ns : List Int) (P D R W0 : PySem.Str) (O : Array UInt8) (J H : PySem.Str) : SpS w 157 8 100 [.ref l] (fun h => h.get? l = some (W.listOf vs.toArray c) ∧ IntsAre vs ns ∧ ns.length ≤ 20 ∧ (∀ k ∈ ns, k = 0 ∨ k = 1) ∧ HostEq ns P D R W0 O J H ∧ P.length ≤ 100 ∧ D.length ≤ 200 ∧ R.length ≤ 1000 ∧ W0.length ≤ 200 ∧ 0 < O.size ∧ O.size ≤ 200 ∧ J.length ≤ 300) (fun h v h'' => ∃ t, v = .str H t) := by
  unfold SpS
  k_fill
  k_with_none
  w_top off
  k_with "eval Name" => (k_here; (with_reducible show wpAny _ _ (eval (Expr.Name _ _) (compEnv _ _ _)) _ _ _); (with_reducible rename Fr _ _ _ _ => kF); k_dflt (refine' nameG_B kF ?k1 ?k2 ?k3 ?k4 ?k5 ?_ ?k6 ?k7 ?k8 ?k9 ?kA; (case k6 => rfl); (case k7 => rfl); (case k8 => rfl); (case k9 => rfl); (case kA => decide); (case k1 => k_asm); (case k2 => k_asm); (case k3 => k_is); (case k4 => boot_by_name); (case k5 => decide); k_whole))
  intro dp un gd cn cs a ccd cl outer A₀ base h₀ L m s Q p loose mean mg mb B F KX T hk hpre hdp hun hret
  refine wpS_call ?_
  k_dflt (refine' enterS ?k1 ?k2 ?k3 ?k5 ?kA ?kF ?kK ?k6 ?k7 ?k8 ?k9 ?kB ?_ ?c2 ?c3 ?c4 ?c5; (case kA => exact rfl); (case kF => exact rfl); (case kK => exact hk); (case k1 => exact B); (case k2 => exact F); (case k3 => exact KX); (case k5 => exact T); (case k6 => k_is); (case k7 => k_is); (case k8 => (first | exact room0 hdp | exact room1 hdp (by decide) | exact room2 hdp (by decide) | exact room3 hdp (by decide) | exact room4 hdp (by decide) | ktr_room)); (case k9 => exact BindsTo.of_eq rfl); (case c5 => decide); (case kB => exact locs rfl); (case c2 => exact rfl); (case c3 => exact rfl); (case c4 => exact rfl); k_whole)
  intro g' L' h' hg F' N' B' X' T'
  try dsimp only
  obtain ⟨hp1, hp2, q1, q2, hH, q3, q4, q5, q6, q7, q8, q9⟩ := hpre
  have hlg : g'.IsList l vs.toArray := ⟨_, hg l _ (by intro hx; cases hx) hp1, rfl, _, rfl⟩
  try k_fold
  k_with "pyIter ref" => (refine halt ?_)
  refine execsS_cons (wpS_of ?_)
  try k_fold
  k_steps
  refine ⟨?_⟩
  refine srcC_listDW (pz := fun _ => true) (d := fun a => .str (stepOf a)) rfl (Fr.lst (by assumption) hlg) hp2.areOf (by assumption) (by assumption) ?g1 ?g2 ?g3 (by rw [sizeLine_eq]; omega)
  case g1 =>
    intros
    exact wpAny_pure ⟨rfl, keeps_rfl _⟩
  case g2 =>
    intros
    rename ItemKind.is _ _ _ => i1
    obtain ⟨_, e1⟩ := ItemKind.int_is i1; subst e1
    refine wpAny_leafK ?_
    rename (_ : Int) ∈ ns => hin
    rcases q2 _ hin with e2 | e2
    all_goals (
      subst e2
      k_with_none
      k_with "eval Name" => (k_here; (with_reducible show wpAny _ _ (eval (Expr.Name _ _) (compEnv _ _ _)) _ _ _); (with_reducible rename Fr _ _ _ _ => kF); k_dflt (refine' nameG_B kF ?k1 ?k2 ?k3 ?k4 ?k5 ?_ ?k6 ?k7 ?k8 ?k9 ?kA; (case k6 => rfl); (case k7 => rfl); (case k8 => rfl); (case k9 => rfl); (case kA => decide); (case k1 => k_asm); (case k2 => k_asm); (case k3 => k_is); (case k4 => boot_by_name); (case k5 => decide); k_whole))
      k_steps)
  case g3 =>
    intros D1 ys1 h1 tk1 F1 N1 hD1 L1 P1 C1
    k_with "call builtin:str.join" => (refine halt ?_)
    k_steps
    refine ⟨?_⟩
    refine join_mine 3 L1 C1 (fun a _ => step_len a) (by omega) (by decide +kernel) (fun t2 k2 => ?_)
    rw [hH.p]
    clear L1 P1 C1 hD1 hlg
    k_with_none
    k_with "eval Name" => (k_here; (with_reducible show wpAny _ _ (eval (Expr.Name _ _) (compEnv _ _ _)) _ _ _); (with_reducible rename Fr _ _ _ _ => kF); k_dflt (refine' nameG_B kF ?k1 ?k2 ?k3 ?k4 ?k5 ?_ ?k6 ?k7 ?k8 ?k9 ?kA; (case k6 => rfl); (case k7 => rfl); (case k8 => rfl); (case k9 => rfl); (case kA => decide); (case k1 => k_asm); (case k2 => k_asm); (case k3 => k_is); (case k4 => boot_by_name); (case k5 => decide); k_whole))
    k_steps
    k_with "pyIter str" => (refine halt ?_)
    refine execsS_cons (wpS_of ?_)
    try k_fold
    k_steps
    refine ⟨?_⟩
    rename Fr _ _ _ _ => F1
    rename News _ _ _ _ => N1
    refine srcC_signsD (pz := fun _ => true) (d := fun a => .str (dblOf a)) rfl F1 N1 ?g1 ?g2 ?g3 (by rw [sizeLine_eq]; omega)
    case g1 =>
      intros
      exact wpAny_pure ⟨rfl, keeps_rfl _⟩
    case g2 =>
      intro C a v s₂ m₂ E' i1
      intros
      obtain ⟨_, e1⟩ := ItemKind.str_is i1; subst e1
      refine wpAny_leafK ?_
      by_cases hq : (a == PySem.Str.ofString "\"") = true
      · have e3 : a = PySem.Str.ofString "\"" := eq_of_beq hq
        subst e3
        k_with_none
        k_with "eval Name" => (k_here; (with_reducible show wpAny _ _ (eval (Expr.Name _ _) (compEnv _ _ _)) _ _ _); (with_reducible rename Fr _ _ _ _ => kF); k_dflt (refine' nameG_B kF ?k1 ?k2 ?k3 ?k4 ?k5 ?_ ?k6 ?k7 ?k8 ?k9 ?kA; (case k6 => rfl); (case k7 => rfl); (case k8 => rfl); (case k9 => rfl); (case kA => decide); (case k1 => k_asm); (case k2 => k_asm); (case k3 => k_is); (case k4 => boot_by_name); (case k5 => decide); k_whole))
        k_steps
      · have hq2 : (a == PySem.Str.ofString "\"") = false := by simpa using hq
        clear hq
        k_with_none
        k_with "eval Name" => (k_here; (with_reducible show wpAny _ _ (eval (Expr.Name _ _) (compEnv _ _ _)) _ _ _); (with_reducible rename Fr _ _ _ _ => kF); k_dflt (refine' nameG_B kF ?k1 ?k2 ?k3 ?k4 ?k5 ?_ ?k6 ?k7 ?k8 ?k9 ?kA; (case k6 => rfl); (case k7 => rfl); (case k8 => rfl); (case k9 => rfl); (case kA => decide); (case k1 => k_asm); (case k2 => k_asm); (case k3 => k_is); (case k4 => boot_by_name); (case k5 => decide); k_whole))
        k_steps
        all_goals first
          | (rename (a == PySem.Str.ofString "\"") = true => hc; rw [hq2] at hc; cases hc; done)
          | (show Carried _ _ ∧ Keeps _ _
             refine ⟨?_, _, _, rfl, fun _ _ h => h⟩
             unfold dblOf
             rw [if_neg (by rw [hq2]; exact Bool.false_ne_true)]
             exact .str _ _)
    case g3 =>
      intros D1 ys1 h1 tk1 F2 N2 hD1 L1 P1 C1
      k_with "call builtin:str.join" => (refine halt ?_)
      k_steps
      refine ⟨?_⟩
      refine join_mine 3 L1 C1 dbl_len (by rw [signs_length]; omega) (by decide +kernel) (fun t3 k3 => ?_)
      rw [hH.d]
      clear L1 P1 C1 hD1
      k_with_none
      k_with "eval Name" => (k_here; (with_reducible show wpAny _ _ (eval (Expr.Name _ _) (compEnv _ _ _)) _ _ _); (with_reducible rename Fr _ _ _ _ => kF); k_dflt (refine' nameG_B kF ?k1 ?k2 ?k3 ?k4 ?k5 ?_ ?k6 ?k7 ?k8 ?k9 ?kA; (case k6 => rfl); (case k7 => rfl); (case k8 => rfl); (case k9 => rfl); (case kA => decide); (case k1 => k_asm); (case k2 => k_asm); (case k3 => k_is); (case k4 => boot_by_name); (case k5 => decide); k_whole))
      k_steps
      k_with "call ref" => (refine halt ?_)
      refine execsS_cons (wpS_of ?_)
      try k_fold
      k_steps
      refine ⟨?_⟩
      rw [hH.r]
      refine' use0 (S131 _ _ _) ?k1 ?k2 ?k3 ?k4 ?k5 ?k6 ?k7 ?k8 ?k9 ?_
      case k1 => k_asm
      case k2 => k_asm
      case k3 => k_asm
      case k4 => k_asm
      case k5 => k_asm
      case k6 => first | exact rfl | assumption
      case k7 => exact ⟨q5, hH.r1, hH.r2⟩
      case k8 => (first | exact room0 hdp | exact room1 hdp (by decide) | exact room2 hdp (by decide) | exact room3 hdp (by decide) | exact room4 hdp (by decide) | ktr_room)
      case k9 => (first | exact room0 hun | exact room1 hun (by decide) | exact room2 hun (by decide) | exact room3 hun (by decide) | exact room4 hun (by decide) | ktr_units)
      intro v9 h9 tk9 st9 F9 N9 po9
      obtain ⟨t4, rfl⟩ := po9
      rw [hH.t]
      try dsimp only
      try k_fold
      k_with_none
      k_with "eval Name" => (k_here; (with_reducible show wpAny _ _ (eval (Expr.Name _ _) (compEnv _ _ _)) _ _ _); (with_reducible rename Fr _ _ _ _ => kF); k_dflt (refine' nameG_B kF ?k1 ?k2 ?k3 ?k4 ?k5 ?_ ?k6 ?k7 ?k8 ?k9 ?kA; (case k6 => rfl); (case k7 => rfl); (case k8 => rfl); (case k9 => rfl); (case kA => decide); (case k1 => k_asm); (case k2 => k_asm); (case k3 => k_is); (case k4 => boot_by_name); (case k5 => decide); k_whole))
      k_steps
      k_with "eval ListComp" => (refine halt ?_)
      refine execsS_cons (wpS_of ?_)
      try k_fold
      k_steps
      refine ⟨?_⟩
      with_reducible apply ListComp_rowsP
      case hfree => decide
      case hcell => decide
      case hkind => with_unfolding_all rfl
      case hnames => decide
      case hx => with_unfolding_all rfl
      case hs => intro _; with_unfolding_all rfl
      try k_fold
      k_with "pyIter str" => (refine halt ?_)
      k_steps
      refine ⟨?_⟩
      rename Fr _ _ _ _ => F1
      rename News _ _ _ _ => N1
      refine srcC_signsK (y := W0) (fun a => .int (ordOf a)) rfl F1 N1 ?g2 ?g3 (by rw [sizeLine_eq]; omega)
      case g2 =>
        intro C c u s₂ m₂ E' hc hn hm hkp
        have F4 := F1.keeps hkp
        have N4 := N1.grown hkp
        have cE := InElt.start s₂.heap
        refine wpAny_leafK ?_
        k_with_none
        k_with "eval Name" => (k_here; (with_reducible show wpAny _ _ (eval (Expr.Name _ _) (compEnv _ _ _)) _ _ _); (with_reducible rename Fr _ _ _ _ => kF); k_dflt (refine' nameG_B kF ?k1 ?k2 ?k3 ?k4 ?k5 ?_ ?k6 ?k7 ?k8 ?k9 ?kA; (case k6 => rfl); (case k7 => rfl); (case k8 => rfl); (case k9 => rfl); (case kA => decide); (case k1 => k_asm); (case k2 => k_asm); (case k3 => k_is); (case k4 => boot_by_name); (case k5 => decide); k_whole))
        k_steps
      case g3 =>
        intros D1 ys1 h1 tk1 F2 N2 hD1 L1 C1
        k_with "call type:bytes" => (refine halt ?_)
        k_steps
        refine ⟨?_⟩
        have I1 : IntsAre ys1 ((signs W0).map ordOf) := CarriedAll.intsOf C1
        refine call_bytes_ints L1 I1 hH.o1 (by rw [I1.length, List.length_map, signs_length, sizeLine_eq]; omega) rfl (fun h2 t5 k5 kp => ?_)
        have F3 := F2.keeps kp
        have N3 := N2.grown kp
        clear F2 N2 kp L1 C1 I1
        rw [hH.o]
        k_with_none
        k_with "eval Name" => (k_here; (with_reducible show wpAny _ _ (eval (Expr.Name _ _) (compEnv _ _ _)) _ _ _); (with_reducible rename Fr _ _ _ _ => kF); k_dflt (refine' nameG_B kF ?k1 ?k2 ?k3 ?k4 ?k5 ?_ ?k6 ?k7 ?k8 ?k9 ?kA; (case k6 => rfl); (case k7 => rfl); (case k8 => rfl); (case k9 => rfl); (case kA => decide); (case k1 => k_asm); (case k2 => k_asm); (case k3 => k_is); (case k4 => boot_by_name); (case k5 => decide); k_whole))
        k_steps
        refine execsS_cons (execS_Assign (evalS_Call (f := .ref 138) (k := .frame) ?n (.inl rfl) (wpS_of ?a) (by rfl) (by rfl)) (by rfl))
        case n =>
          try k_fold
          k_steps
        case a =>
          try k_fold
          k_steps
          · exact looks_fn ((X'.keeps (Fr.keep (by assumption))) 138 _ rfl) rfl
          · refine' useS (S138 _ _ _ _ _) ?k1 ?k2 ?k3 ?k4 ?k5 ?k6 ?k7 ?k8 ?k9 ?_
            case k1 => k_asm
            case k2 => k_asm
            case k3 => k_asm
            case k4 => k_asm
            case k5 => k_asm
            case k6 => first | exact rfl | assumption
            case k7 => exact ⟨rfl, by omega, by omega⟩
            case k8 => (first | exact room0 hdp | exact room1 hdp (by decide) | exact room2 hdp (by decide) | exact room3 hdp (by decide) | exact room4 hdp (by decide) | ktr_room)
            case k9 => (first | exact room0 hun | exact room1 hun (by decide) | exact room2 hun (by decide) | exact room3 hun (by decide) | exact room4 hun (by decide) | ktr_units)
            intro v9 h9 tk9 st9 F9 N9 po9
            obtain ⟨t6, rfl⟩ := po9
            try dsimp only
            try k_fold
            k_steps
            k_with "eval ListComp" => (refine halt ?_)
            refine wpS_of ?_
            try k_fold
            k_steps
            refine ⟨?_⟩
            with_reducible apply ListComp_rowsP
            case hfree => decide
            case hcell => decide
            case hkind => with_unfolding_all rfl
            case hnames => decide
            case hx => with_unfolding_all rfl
            case hs => intro _; with_unfolding_all rfl
            try k_fold
            k_with "pyIter bytes" => (refine halt ?_)
            k_steps
            refine ⟨?_⟩
            rename Fr _ _ _ _ => F5
            rename News _ _ _ _ => N5
            refine srcC_bytesK (b := O.reverse) (fun a => .str (dotOf a)) rfl F5 N5 ?g2 ?g3 (by rw [sizeLine_eq, Array.size_reverse]; omega)
            case g2 =>
              intro C c u s₂ m₂ E' hc hn hm hkp
              have F4 := F5.keeps hkp
              have N4 := N5.grown hkp
              have cE := InElt.start s₂.heap
              have hz1 := UInt8.toNat_lt c
              have hz2 : (0 : Int) ≤ (c.toNat : Int) := by omega
              have hz3 : (c.toNat : Int) < 256 := by omega
              clear hc hz1
              generalize (c.toNat : Int) = z at *
              refine wpAny_leafK ?_
              k_with_none
              k_with "eval Name" => (k_here; (with_reducible show wpAny _ _ (eval (Expr.Name _ _) (compEnv _ _ _)) _ _ _); (with_reducible rename Fr _ _ _ _ => kF); k_dflt (refine' nameG_B kF ?k1 ?k2 ?k3 ?k4 ?k5 ?_ ?k6 ?k7 ?k8 ?k9 ?kA; (case k6 => rfl); (case k7 => rfl); (case k8 => rfl); (case k9 => rfl); (case kA => decide); (case k1 => k_asm); (case k2 => k_asm); (case k3 => k_is); (case k4 => boot_by_name); (case k5 => decide); k_whole))
              k_steps
              all_goals
                (show Carried _ _ ∧ Keeps _ _
                 refine ⟨?_, _, _, rfl, fun _ _ h => h⟩
                 unfold dotOf
                 first
                   | (rw [if_pos (by assumption)]; exact .str _ _)
                   | (rw [if_neg (by assumption)]; exact .str _ _))
            case g3 =>
              intros D1 ys1 h1 tk1 F2 N2 hD1 L1 C1
              k_with "call builtin:str.join" => (refine halt ?_)
              k_steps
              refine ⟨?_⟩
              refine join_mine2 3 L1 C1 (fun a _ => dot_len a) (by rw [KBw.ints_length, Array.size_reverse]; omega) (by decide +kernel) (fun t7 k7 => ?_)
              rw [hH.j]
              k_with_none
              k_with "eval Name" => (k_here; (with_reducible show wpAny _ _ (eval (Expr.Name _ _) (compEnv _ _ _)) _ _ _); (with_reducible rename Fr _ _ _ _ => kF); k_dflt (refine' nameG_B kF ?k1 ?k2 ?k3 ?k4 ?k5 ?_ ?k6 ?k7 ?k8 ?k9 ?kA; (case k6 => rfl); (case k7 => rfl); (case k8 => rfl); (case k9 => rfl); (case kA => decide); (case k1 => k_asm); (case k2 => k_asm); (case k3 => k_is); (case k4 => boot_by_name); (case k5 => decide); k_whole))
              k_steps
              refine hret _ _ _ (fun b o hb e => Fr.keep (by assumption) b o (hg b o hb e)) ⟨_, congrArg (fun z => Value.str z _) hH.h⟩
end Mine
end
section
set_option maxRecDepth 100000
set_option maxHeartbeats 8000000
set_option linter.unusedVariables false
set_option autoImplicit false
namespace Mine

noncomputable def horn (b : Int) : List Int → Int
  | [] => 0
  | d :: r => d + b * horn b r
theorem mid_in {Lo Hi : Int} (h : Lo + 2 ≤ Hi) : Lo < (Lo + Hi).fdiv (2 ^ Int.toNat 1) ∧ (Lo + Hi).fdiv (2 ^ Int.toNat 1) < Hi := by
  have e : (Lo + Hi).fdiv (2 ^ Int.toNat 1) = (Lo + Hi) / 2 := by
    rw [show (2 : Int) ^ Int.toNat 1 = 2 from rfl]
    exact Int.fdiv_eq_ediv_of_nonneg _ (by decide)
  rw [e]
  omega
theorem horn_append (b : Int) : ∀ (x y : List Int), horn b (x ++ y) = horn b x + b ^ x.length * horn b y
  | [], y => by simp [horn]
  | d :: r, y => by
    simp only [List.cons_append, horn, horn_append b r y, List.length_cons, Int.pow_succ]
    rw [Int.mul_add, Int.mul_comm (b ^ r.length) b, Int.mul_assoc]
    omega
noncomputable def seg (ns : List Int) (i j : Int) : List Int := (ns.drop i.toNat).take (j - i).toNat
theorem seg_one (b : Int) (ns : List Int) (i : Int) (h0 : 0 ≤ i) (h1 : i < ns.length) : horn b (seg ns i (i + 1)) = ns.getD i.toNat 0 := by
  unfold seg
  have hl : i.toNat < ns.length := by omega
  rw [show (i + 1 - i).toNat = 1 by omega, List.drop_eq_getElem_cons hl]
  show ns[i.toNat] + b * 0 = _
  simp [hl]
theorem seg_cat (ns : List Int) (i m j : Int) (h0 : 0 ≤ i) (h1 : i ≤ m) (h2 : m ≤ j) : seg ns i j = seg ns i m ++ seg ns m j := by
  unfold seg
  have e1 : (j - i).toNat = (m - i).toNat + (j - m).toNat := by omega
  have e2 : m.toNat = i.toNat + (m - i).toNat := by omega
  rw [e1, List.take_add, List.drop_drop, e2]
theorem seg_len (ns : List Int) (i j : Int) (h0 : 0 ≤ i) (h1 : i ≤ j) (h2 : j ≤ ns.length) : (seg ns i j).length = (j - i).toNat := by
  unfold seg
  rw [List.length_take, List.length_drop]
  omega
theorem seg_mem {ns : List Int} {i j d : Int} (h : d ∈ seg ns i j) : d ∈ ns := List.mem_of_mem_drop (List.mem_of_mem_take h)
theorem seg_all (ns : List Int) : seg ns 0 ns.length = ns := by
  unfold seg
  simp
theorem horn_bound (b : Int) (hb : 0 < b) : ∀ (x : List Int), (∀ d ∈ x, 0 ≤ d ∧ d < b) → 0 ≤ horn b x ∧ horn b x < b ^ x.length
  | [], _ => by simp [horn]
  | d :: r, h => by
    have ih := horn_bound b hb r fun e he => h e (List.mem_cons_of_mem _ he)
    have hd := h d (List.mem_cons_self ..)
    simp only [horn, List.length_cons, Int.pow_succ]
    have h1 : 0 ≤ b * horn b r := Int.mul_nonneg (by omega) ih.1
    have h2 : b * (horn b r + 1) ≤ b * b ^ r.length := Int.mul_le_mul_of_nonneg_left (by omega) (by omega)
    rw [Int.mul_add, Int.mul_comm b (b ^ r.length)] at h2
    omega
theorem horn_small (ns : List Int) (n : Int) (h0 : 0 ≤ n) (h1 : n ≤ 200) (h2 : ns.length ≤ 20) (h3 : ∀ d ∈ ns, 0 ≤ d ∧ d < 2 ^ n.toNat) (i j : Int) (a0 : 0 ≤ i) (a1 : i ≤ j) (a2 : j ≤ ns.length) : 0 ≤ horn (2 ^ n.toNat) (seg ns i j) ∧ horn (2 ^ n.toNat) (seg ns i j) < 2 ^ 4000 := by
  have hb := horn_bound (2 ^ n.toNat) (Int.pow_pos (by decide)) (seg ns i j) fun d hd => h3 d (seg_mem hd)
  refine ⟨hb.1, Int.lt_of_lt_of_le hb.2 ?_⟩
  rw [← Int.pow_mul]
  have hl := seg_len ns i j a0 a1 a2
  have hm : n.toNat * (seg ns i j).length ≤ 200 * 20 := Nat.mul_le_mul (by omega) (by omega)
  exact_mod_cast Nat.pow_le_pow_right (by decide : 2 > 0) (Nat.le_trans hm (by decide : 200 * 20 ≤ 4000))
theorem horn_join (ns : List Int) (n : Int) (h0 : 0 ≤ n) (i m j : Int) (a0 : 0 ≤ i) (a1 : i ≤ m) (a2 : m ≤ j) (a3 : j ≤ ns.length) : horn (2 ^ n.toNat) (seg ns m j) * 2 ^ ((m - i) * n).toNat + horn (2 ^ n.toNat) (seg ns i m) = horn (2 ^ n.toNat) (seg ns i j) := by
  rw [seg_cat ns i m j a0 a1 a2, horn_append, seg_len ns i m a0 a1 (by omega), ← Int.pow_mul]
  have e : ((m - i) * n).toNat = n.toNat * (m - i).toNat := by
    rw [Int.toNat_mul (by omega) h0, Nat.mul_comm]
  rw [e, Int.mul_comm (horn _ (seg ns m j))]
  omega
theorem bits_4000 {a : Int} (h0 : 0 ≤ a) (h1 : a < 2 ^ 4000) : (Builtin.Int.intBits a : Int) ≤ 4001 := by
  obtain ⟨m, rfl⟩ := Int.eq_ofNat_of_zero_le h0
  unfold Builtin.Int.intBits
  have h2 : m < 2 ^ 4000 := by exact_mod_cast h1
  split
  · exact (by decide)
  · have hne : m ≠ 0 := by rename_i h; simpa using h
    have := (Nat.log2_lt hne).mpr h2
    show (((m.log2 + 1 : Nat)) : Int) ≤ 4001
    omega
theorem pick {h₀ h : Heap} {L f : Addr} {o : Obj} {r : List (Addr × Obj)} {G : Prop} (N : News h₀ L h ((f, o) :: r)) (k : ∀ (f' : Addr) (h' : Heap), f' = f → h' = h → G) : G := k f h rfl rfl
end Mine
end
section
set_option maxRecDepth 100000
set_option maxHeartbeats 8000000
set_option linter.unusedVariables false
set_option autoImplicit false
namespace Mine
theorem S85f (w : World) (l c : Addr) (vs : List Value) (ns : List Int) (n : Int) (t : Tok) : Sp w 85 30 900 [80] [.ref l, .int n t] (fun h => h.get? l = some (W.listOf vs.toArray c) ∧ IntsAre vs ns ∧ ns.length ≤ 20 ∧ 1 ≤ ns.length ∧ 0 < n ∧ n ≤ 200 ∧ l ≠ 80 ∧ CodeHd h 84 80 ∧ (∀ d ∈ ns, 0 ≤ d ∧ d < 2 ^ n.toNat) ∧ h.get? 80 = some (tabObj #[])) (fun h v h'' => (∃ t, v = .int (horn (2 ^ n.toNat) ns) t) ∧ MadeCode 80 81 4 (PySem.Str.ofString "_digits2int.<locals>.inner") h h'') := by
  unfold Sp
  k_fill
  k_with_none
  w_top off
  intro dp un gd cn cs a ccd cl outer A₀ base h₀ L m s Q E p loose mean mg mb B F KX T hk hX hpre hdp hun hret
  obtain ⟨hp1, hp2, hp3, hp4, hp5, hp6, hp7, hp8, hp10, hps⟩ := hpre
  have N0 : News h₀ L s.heap [(80, tabObj #[])] := fun q hq => by
    rw [List.mem_singleton.mp hq]
    exact ⟨hps, (hX 80 (.head _)).1, (hX 80 (.head _)).2⟩
  refine wpAny_call ?_
  k_dflt (refine' enterC ?k1 ?k2 ?k3 ?k4 ?k5 ?kA ?kF ?kK ?k6 ?k7 ?k8 ?k9 ?kB ?kD ?_ ?c2 ?c3 ?c4; (case kA => exact rfl); (case kF => exact rfl); (case kK => exact hk); (case k1 => exact B); (case k2 => exact F); (case k3 => exact KX); (case k4 => exact N0); (case k5 => exact T); (case k6 => k_is); (case k7 => k_is); (case k8 => (first | exact room0 hdp | exact room1 hdp (by decide) | exact room2 hdp (by decide) | exact room3 hdp (by decide) | exact room4 hdp (by decide) | ktr_room)); (case k9 => exact BindsTo.of_eq rfl); (case kB => exact rfl); (case kD => decide +kernel); (case c2 => exact rfl); (case c3 => exact rfl); (case c4 => exact rfl); k_whole)
  intro g' L' h' tk' cells' hg F' N' Y' B' X' T' l1
  try k_lt l1
  k_cells Y'
  try simp only [List.cons_append, List.nil_append] at N'
  try dsimp only
  try k_fold

  have C1 := codeHd_stay hp8 hg
  have hl7 : ∀ h'' : Heap, (∀ b o, g'.get? b = some o → h''.get? b = some o) → h''.IsList l vs.toArray := fun h'' k => ⟨_, k _ _ (hg l _ (by rw [List.map, List.map, List.mem_singleton]; exact hp7) hp1), rfl, _, rfl⟩
  have hlg := hl7 g' fun _ _ e => e
  k_with "call ref" => (refine halt ?_)
  k_steps
  try refine ⟨?_⟩

  rename News _ _ _ _ => N7
  rename Fr _ _ _ _ => F7
  refine pick N7 (fun f hb e1 e2 => ?_)
  try dsimp only at e2
  subst e1
  subst e2
  have cr8 := codeRec_news N7 (.tail _ (.head _)) (by assumption) (by assumption)
  have hf := (N7 _ (.head _)).1
  have hci := (N7 _ (.tail _ (.tail _ (.head _)))).1
  have hcn := (N7 _ (.tail _ (.tail _ (.tail _ (.head _))))).1
  have hcd := (N7 _ (.tail _ (.tail _ (.tail _ (.tail _ (.head _)))))).1
  have hl8 := F7.keep
  try dsimp only at hf hci hcn hcd
  rename _ = Data.cell (some (Value.ref f)) => hdi
  rename _ = Data.cell (some (Value.int n t)) => hdn0
  rename _ = Data.cell (some (Value.ref l)) => hdd0
  have hdn := hdn0
  change _ = Data.cell (some (Value.int n t)) at hdn
  have hdd := hdd0
  change _ = Data.cell (some (Value.ref l)) at hdd
  change _ = some (fnMade _ (PySem.Str.ofString "_digits2int.<locals>.inner") _ _ _ _ _ _ _ _) at hf
  change Heap.CodeRec _ _ (PySem.Str.ofString "_digits2int.<locals>.inner") at cr8

  have hfn : ∀ h : Heap, (∀ b o, hb.get? b = some o → h.get? b = some o) → FnAt f h := fun h k => ⟨_, _, _, _, k _ _ hf⟩
  have inner : ∀ (k : Nat) (Lo Hi : Int) (t1 t2 : Tok), 0 ≤ Lo → Lo < Hi → Hi ≤ ns.length → Hi - Lo ≤ k → Sp w f (k + 2) (40 * k + 60) [] [.int Lo t1, .int Hi t2] (fun h => ∀ b o, hb.get? b = some o → h.get? b = some o) (fun h v h'' => ∃ t, v = .int (horn (2 ^ n.toNat) (seg ns Lo Hi)) t) := by
    intro k
    induction k with
    | zero => intro Lo Hi t1 t2 a1 a2 a3 a4; omega
    | succ k ih =>
      intro Lo Hi t1 t2 a1 a2 a3 a4
      unfold Sp
      intro dp2 un2 gd2 cn2 cs2 a' ccd2 cl2 outer2 A2 base2 h2 L2 m2 s2 Q2 E2 p2 loose2 mean2 mg2 mb2 B2 F2 KX2 T2 hk2 hX2 hpre2 hdp2 hun2 hret2
      have N2 : News h2 L2 s2.heap [] := News.nil
      refine wpAny_call ?_
      k_dflt (refine' enterN ?k1 ?k2 ?k3 ?k4 ?k5 ?kA ?kF ?kK ?k6 ?k7 ?k8 ?k8b ?k9 ?kB ?_ ?c2 ?c3 ?c4 ?c5; (case kA => exact rfl); (case kF => exact rfl); (case kK => exact hk2); (case k1 => exact B2); (case k2 => exact F2); (case k3 => exact KX2); (case k4 => exact N2); (case k5 => exact T2); (case k6 => exact hpre2 _ _ hf); (case k7 => exact rfl); (case k8 => exact cr8.keeps hpre2); (case k8b => ktr_room); (case k9 => exact BindsTo.of_eq rfl); (case c2 => decide); (case kB => exact locs rfl); (case c3 => exact rfl); (case c4 => exact rfl); (case c5 => exact rfl); k_whole)
      intro g3 L3 h3 hg3 F3 N3 B3 X3 T3
      try dsimp only
      have hG : ∀ b o, hb.get? b = some o → g3.get? b = some o := fun b o e => hg3 b o (by intro hx; cases hx) (hpre2 b o e)
      have hlg3 : g3.IsList l vs.toArray := hl7 g3 (fun b o e => hG b o (hl8 b o e))
      k_with "eval Name" => (first
        | (refine nameX_h (Fr.keep (by k_asm) _ _ (hG _ _ hci)) rfl hdi ?_ rfl rfl (by decide) (by decide))
        | (refine nameX_h (Fr.keep (by k_asm) _ _ (hG _ _ hcn)) rfl hdn ?_ rfl rfl (by decide) (by decide))
        | (refine nameX_h (Fr.keep (by k_asm) _ _ (hG _ _ hcd)) rfl hdd ?_ rfl rfl (by decide) (by decide)))
      clear hdn0 hdd0 N7 F7 hlg hret hf hp1 hX hps hg N0
      try k_fold
      k_with "callWith ref" => (refine halt ?_)
      k_steps
      · refine hret2 _ _ _ (fun b o hb e => Fr.keep (by assumption) b o (hg3 b o hb e)) ⟨_, congrArg (fun z => Value.int z _) ?_⟩
        have e1 : Hi = Lo + 1 := by omega
        subst e1
        exact (seg_one _ ns Lo a1 (by omega)).symm
      · refine ⟨?_⟩
        have hmid1 : Lo < (Lo + Hi).fdiv (2 ^ Int.toNat 1) ∧ (Lo + Hi).fdiv (2 ^ Int.toNat 1) < Hi := mid_in (by omega)
        generalize (Lo + Hi).fdiv (2 ^ Int.toNat 1) = mid at *
        obtain ⟨hm1, hm2⟩ := hmid1
        have hs1 : 0 ≤ (mid - Lo) * n := Int.mul_nonneg (by omega) (by omega)
        have hs2 : (mid - Lo) * n ≤ 20 * 200 := Int.mul_le_mul (by omega) hp6 (by omega) (by omega)
        k_with_none
        k_with "eval Name" => (first
          | (refine nameX_h (Fr.keep (by k_asm) _ _ (hG _ _ hci)) rfl hdi ?_ rfl rfl (by decide) (by decide))
          | (refine nameX_h (Fr.keep (by k_asm) _ _ (hG _ _ hcn)) rfl hdn ?_ rfl rfl (by decide) (by decide))
          | (refine nameX_h (Fr.keep (by k_asm) _ _ (hG _ _ hcd)) rfl hdd ?_ rfl rfl (by decide) (by decide)))
        k_with "callWith ref" => (refine callWith_F (hfn _ (fun b o e => Fr.keep (by k_asm) _ _ (hG b o e))) ?_ rfl rfl)
        k_with "FnAt" => (exact hfn _ (fun b o e => Fr.keep (by k_asm) _ _ (hG b o e)))
        k_with "call ref" => (refine halt ?_)
        refine callWith_F (hfn _ (fun b o e => Fr.keep (by k_asm) _ _ (hG b o e))) ?_ rfl rfl
        try k_fold
        k_steps
        refine ⟨?_⟩
        dsimp only [List.nil_append, List.cons_append]
        refine' use0 (ih mid Hi _ _ (by omega) (by omega) (by omega) (by omega)) ?k1 ?k2 ?k3 ?k4 ?k5 ?k6 ?k7 ?k8 ?k9 ?_
        case k1 => k_asm
        case k2 => k_asm
        case k3 => k_asm
        case k4 => k_asm
        case k5 => k_asm
        case k6 => first | exact rfl | assumption
        case k7 => exact fun b o e => Fr.keep (by k_asm) _ _ (hG b o e)
        case k8 => (first | exact room0 hdp | exact room1 hdp (by decide) | exact room2 hdp (by decide) | exact room3 hdp (by decide) | exact room4 hdp (by decide) | ktr_room)
        case k9 => (first | exact room0 hun | exact room1 hun (by decide) | exact room2 hun (by decide) | exact room3 hun (by decide) | exact room4 hun (by decide) | ktr_units)
        intro v9 h9 tk9 st9 F9 N9 po9
        obtain ⟨t9, rfl⟩ := po9
        have hb1 := horn_small ns n (by omega) hp6 hp3 hp10 mid Hi (by omega) (by omega) (by omega)
        have hv1 : ∃ V1, V1 = horn (2 ^ n.toNat) (seg ns mid Hi) := ⟨_, rfl⟩
        obtain ⟨V1, hv1⟩ := hv1
        rw [← hv1] at hb1 ⊢
        try dsimp only
        try k_fold
        k_with "binaryOp LShift int int" => (refine lshift_int (by omega) (by have := bits_4000 hb1.1 hb1.2; omega) ?_)
        k_steps
        refine ⟨?_⟩
        refine' use0 (ih Lo mid _ _ (by omega) (by omega) (by omega) (by omega)) ?k1 ?k2 ?k3 ?k4 ?k5 ?k6 ?k7 ?k8 ?k9 ?_
        case k1 => k_asm
        case k2 => k_asm
        case k3 => k_asm
        case k4 => k_asm
        case k5 => k_asm
        case k6 => first | exact rfl | assumption
        case k7 => exact fun b o e => Fr.keep (by k_asm) _ _ (hG b o e)
        case k8 => (first | exact room0 hdp | exact room1 hdp (by decide) | exact room2 hdp (by decide) | exact room3 hdp (by decide) | exact room4 hdp (by decide) | ktr_room)
        case k9 => (first | exact room0 hun | exact room1 hun (by decide) | exact room2 hun (by decide) | exact room3 hun (by decide) | exact room4 hun (by decide) | ktr_units)
        intro v9 h9 tk9 st9 F9 N9 po9
        obtain ⟨t8, rfl⟩ := po9
        have hb2 := horn_small ns n (by omega) hp6 hp3 hp10 Lo mid (by omega) (by omega) (by omega)
        have hv2 : ∃ V2, V2 = horn (2 ^ n.toNat) (seg ns Lo mid) := ⟨_, rfl⟩
        obtain ⟨V2, hv2⟩ := hv2
        rw [← hv2] at hb2 ⊢
        have hres : V1 * 2 ^ ((mid - Lo) * n).toNat + V2 = horn (2 ^ n.toNat) (seg ns Lo Hi) := by
          rw [hv1, hv2]
          exact horn_join ns n (by omega) Lo mid Hi (by omega) (by omega) (by omega) (by omega)
        try dsimp only
        try k_fold
        k_steps
        refine hret2 _ _ _ (fun b o hb e => Fr.keep (by assumption) b o (hg3 b o hb e)) ⟨_, congrArg (fun z => Value.int z _) hres⟩
  k_with_none
  refine' use0 (inner 20 0 ns.length _ _ (by omega) (by omega) (by omega) (by omega)) ?k1 ?k2 ?k3 ?k4 ?k5 ?k6 ?k7 ?k8 ?k9 ?_
  case k1 => k_asm
  case k2 => k_asm
  case k3 => k_asm
  case k4 => k_asm
  case k5 => k_asm
  case k6 => first | exact rfl | assumption
  case k7 => exact fun _ _ e => e
  case k8 => (first | exact room0 hdp | exact room1 hdp (by decide) | exact room2 hdp (by decide) | exact room3 hdp (by decide) | exact room4 hdp (by decide) | ktr_room)
  case k9 => (first | exact room0 hun | exact room1 hun (by decide) | exact room2 hun (by decide) | exact room3 hun (by decide) | exact room4 hun (by decide) | ktr_units)
  intro v9 h9 tk9 st9 F9 N9 po9
  obtain ⟨t9, rfl⟩ := po9
  rw [seg_all]
  clear hfn inner
  try dsimp only
  try k_fold
  k_steps
  rename _ ∧ _ ∧ _ ∧ _ < _ => lc
  exact hret _ _ _ (fun b o hb2 e => F9.keep b o (hg b o hb2 e)) ⟨⟨t9, rfl⟩, ⟨_, _, fresh_of hg (by rw [List.map, List.map, List.mem_singleton]; exact Nat.ne_of_gt lc.2.2.2) N9 (.tail _ (.head _)), (N9 _ (.tail _ (.head _))).1, ⟨_, _, by assumption, by assumption⟩, (N9 _ (.tail _ (.tail _ (.tail _ (.tail _ (.tail _ (.head _))))))).1⟩⟩
end Mine
end
section
set_option maxRecDepth 100000
set_option maxHeartbeats 8000000
set_option linter.unusedVariables false
set_option autoImplicit false
namespace Mine
theorem S85h (w : World) (l c : Addr) (vs : List Value) (ns : List Int) (n : Int) (t : Tok) (c' : Addr) : Sp w 85 30 900 [80] [.ref l, .int n t] (fun h => h.get? l = some (W.listOf vs.toArray c) ∧ IntsAre vs ns ∧ ns.length ≤ 20 ∧ 1 ≤ ns.length ∧ 0 < n ∧ n ≤ 200 ∧ l ≠ 80 ∧ CodeHd h 84 80 ∧ (∀ d ∈ ns, 0 ≤ d ∧ d < 2 ^ n.toNat) ∧ h.get? 80 = some (tabObj #[rawInt 81, rawInt 4, .ref c']) ∧ c' ≠ 80 ∧ h.CodeRec (.ref c') (PySem.Str.ofString "_digits2int.<locals>.inner")) (fun h v h'' => (∃ t, v = .int (horn (2 ^ n.toNat) ns) t) ∧ h''.get? 80 = some (tabObj #[rawInt 81, rawInt 4, .ref c'])) := by
  unfold Sp
  k_fill
  k_with_none
  w_top off
  intro dp un gd cn cs a ccd cl outer A₀ base h₀ L m s Q E p loose mean mg mb B F KX T hk hX hpre hdp hun hret
  obtain ⟨hp1, hp2, hp3, hp4, hp5, hp6, hp7, hp8, hp10, hps, hc2, hc3⟩ := hpre
  have N0 : News h₀ L s.heap [(80, tabObj #[rawInt 81, rawInt 4, .ref c'])] := fun q hq => by
    rw [List.mem_singleton.mp hq]
    exact ⟨hps, (hX 80 (.head _)).1, (hX 80 (.head _)).2⟩
  refine wpAny_call ?_
  k_dflt (refine' enterC ?k1 ?k2 ?k3 ?k4 ?k5 ?kA ?kF ?kK ?k6 ?k7 ?k8 ?k9 ?kB ?kD ?_ ?c2 ?c3 ?c4; (case kA => exact rfl); (case kF => exact rfl); (case kK => exact hk); (case k1 => exact B); (case k2 => exact F); (case k3 => exact KX); (case k4 => exact N0); (case k5 => exact T); (case k6 => k_is); (case k7 => k_is); (case k8 => (first | exact room0 hdp | exact room1 hdp (by decide) | exact room2 hdp (by decide) | exact room3 hdp (by decide) | exact room4 hdp (by decide) | ktr_room)); (case k9 => exact BindsTo.of_eq rfl); (case kB => exact rfl); (case kD => decide +kernel); (case c2 => exact rfl); (case c3 => exact rfl); (case c4 => exact rfl); k_whole)
  intro g' L' h' tk' cells' hg F' N' Y' B' X' T' l1
  try k_lt l1
  k_cells Y'
  try simp only [List.cons_append, List.nil_append] at N'
  try dsimp only
  try k_fold

  have C1 := codeHd_stay hp8 hg
  have hl7 : ∀ h'' : Heap, (∀ b o, g'.get? b = some o → h''.get? b = some o) → h''.IsList l vs.toArray := fun h'' k => ⟨_, k _ _ (hg l _ (by rw [List.map, List.map, List.mem_singleton]; exact hp7) hp1), rfl, _, rfl⟩
  have hlg := hl7 g' fun _ _ e => e
  k_with "call ref" => (refine halt ?_)
  k_steps
  try refine ⟨?_⟩

  rename News _ _ _ _ => N7
  rename Fr _ _ _ _ => F7
  refine pick N7 (fun f hb e1 e2 => ?_)
  try dsimp only at e2
  subst e1
  subst e2
  have cr8 := (codeRec_stay hc3 hc2 hg).keeps F7.keep
  have hf := (N7 _ (.head _)).1
  have hci := (N7 _ (.tail _ (.head _))).1
  have hcn := (N7 _ (.tail _ (.tail _ (.head _)))).1
  have hcd := (N7 _ (.tail _ (.tail _ (.tail _ (.head _))))).1
  have hl8 := F7.keep
  try dsimp only at hf hci hcn hcd
  rename _ = Data.cell (some (Value.ref f)) => hdi
  rename _ = Data.cell (some (Value.int n t)) => hdn0
  rename _ = Data.cell (some (Value.ref l)) => hdd0
  have hdn := hdn0
  change _ = Data.cell (some (Value.int n t)) at hdn
  have hdd := hdd0
  change _ = Data.cell (some (Value.ref l)) at hdd
  change _ = some (fnMade _ (PySem.Str.ofString "_digits2int.<locals>.inner") _ _ _ _ _ _ _ _) at hf
  change Heap.CodeRec _ _ (PySem.Str.ofString "_digits2int.<locals>.inner") at cr8

  have hfn : ∀ h : Heap, (∀ b o, hb.get? b = some o → h.get? b = some o) → FnAt f h := fun h k => ⟨_, _, _, _, k _ _ hf⟩
  have inner : ∀ (k : Nat) (Lo Hi : Int) (t1 t2 : Tok), 0 ≤ Lo → Lo < Hi → Hi ≤ ns.length → Hi - Lo ≤ k → Sp w f (k + 2) (40 * k + 60) [] [.int Lo t1, .int Hi t2] (fun h => ∀ b o, hb.get? b = some o → h.get? b = some o) (fun h v h'' => ∃ t, v = .int (horn (2 ^ n.toNat) (seg ns Lo Hi)) t) := by
    intro k
    induction k with
    | zero => intro Lo Hi t1 t2 a1 a2 a3 a4; omega
    | succ k ih =>
      intro Lo Hi t1 t2 a1 a2 a3 a4
      unfold Sp
      intro dp2 un2 gd2 cn2 cs2 a' ccd2 cl2 outer2 A2 base2 h2 L2 m2 s2 Q2 E2 p2 loose2 mean2 mg2 mb2 B2 F2 KX2 T2 hk2 hX2 hpre2 hdp2 hun2 hret2
      have N2 : News h2 L2 s2.heap [] := News.nil
      refine wpAny_call ?_
      k_dflt (refine' enterN ?k1 ?k2 ?k3 ?k4 ?k5 ?kA ?kF ?kK ?k6 ?k7 ?k8 ?k8b ?k9 ?kB ?_ ?c2 ?c3 ?c4 ?c5; (case kA => exact rfl); (case kF => exact rfl); (case kK => exact hk2); (case k1 => exact B2); (case k2 => exact F2); (case k3 => exact KX2); (case k4 => exact N2); (case k5 => exact T2); (case k6 => exact hpre2 _ _ hf); (case k7 => exact rfl); (case k8 => exact cr8.keeps hpre2); (case k8b => ktr_room); (case k9 => exact BindsTo.of_eq rfl); (case c2 => decide); (case kB => exact locs rfl); (case c3 => exact rfl); (case c4 => exact rfl); (case c5 => exact rfl); k_whole)
      intro g3 L3 h3 hg3 F3 N3 B3 X3 T3
      try dsimp only
      have hG : ∀ b o, hb.get? b = some o → g3.get? b = some o := fun b o e => hg3 b o (by intro hx; cases hx) (hpre2 b o e)
      have hlg3 : g3.IsList l vs.toArray := hl7 g3 (fun b o e => hG b o (hl8 b o e))
      k_with "eval Name" => (first
        | (refine nameX_h (Fr.keep (by k_asm) _ _ (hG _ _ hci)) rfl hdi ?_ rfl rfl (by decide) (by decide))
        | (refine nameX_h (Fr.keep (by k_asm) _ _ (hG _ _ hcn)) rfl hdn ?_ rfl rfl (by decide) (by decide))
        | (refine nameX_h (Fr.keep (by k_asm) _ _ (hG _ _ hcd)) rfl hdd ?_ rfl rfl (by decide) (by decide)))
      clear hdn0 hdd0 N7 F7 hlg hret hf hp1 hX hps hg N0
      try k_fold
      k_with "callWith ref" => (refine halt ?_)
      k_steps
      · refine hret2 _ _ _ (fun b o hb e => Fr.keep (by assumption) b o (hg3 b o hb e)) ⟨_, congrArg (fun z => Value.int z _) ?_⟩
        have e1 : Hi = Lo + 1 := by omega
        subst e1
        exact (seg_one _ ns Lo a1 (by omega)).symm
      · refine ⟨?_⟩
        have hmid1 : Lo < (Lo + Hi).fdiv (2 ^ Int.toNat 1) ∧ (Lo + Hi).fdiv (2 ^ Int.toNat 1) < Hi := mid_in (by omega)
        generalize (Lo + Hi).fdiv (2 ^ Int.toNat 1) = mid at *
        obtain ⟨hm1, hm2⟩ := hmid1
        have hs1 : 0 ≤ (mid - Lo) * n := Int.mul_nonneg (by omega) (by omega)
        have hs2 : (mid - Lo) * n ≤ 20 * 200 := Int.mul_le_mul (by omega) hp6 (by omega) (by omega)
        k_with_none
        k_with "eval Name" => (first
          | (refine nameX_h (Fr.keep (by k_asm) _ _ (hG _ _ hci)) rfl hdi ?_ rfl rfl (by decide) (by decide))
          | (refine nameX_h (Fr.keep (by k_asm) _ _ (hG _ _ hcn)) rfl hdn ?_ rfl rfl (by decide) (by decide))
          | (refine nameX_h (Fr.keep (by k_asm) _ _ (hG _ _ hcd)) rfl hdd ?_ rfl rfl (by decide) (by decide)))
        k_with "callWith ref" => (refine callWith_F (hfn _ (fun b o e => Fr.keep (by k_asm) _ _ (hG b o e))) ?_ rfl rfl)
        k_with "FnAt" => (exact hfn _ (fun b o e => Fr.keep (by k_asm) _ _ (hG b o e)))
        k_with "call ref" => (refine halt ?_)
        refine callWith_F (hfn _ (fun b o e => Fr.keep (by k_asm) _ _ (hG b o e))) ?_ rfl rfl
        try k_fold
        k_steps
        refine ⟨?_⟩
        dsimp only [List.nil_append, List.cons_append]
        refine' use0 (ih mid Hi _ _ (by omega) (by omega) (by omega) (by omega)) ?k1 ?k2 ?k3 ?k4 ?k5 ?k6 ?k7 ?k8 ?k9 ?_
        case k1 => k_asm
        case k2 => k_asm
        case k3 => k_asm
        case k4 => k_asm
        case k5 => k_asm
        case k6 => first | exact rfl | assumption
        case k7 => exact fun b o e => Fr.keep (by k_asm) _ _ (hG b o e)
        case k8 => (first | exact room0 hdp | exact room1 hdp (by decide) | exact room2 hdp (by decide) | exact room3 hdp (by decide) | exact room4 hdp (by decide) | ktr_room)
        case k9 => (first | exact room0 hun | exact room1 hun (by decide) | exact room2 hun (by decide) | exact room3 hun (by decide) | exact room4 hun (by decide) | ktr_units)
        intro v9 h9 tk9 st9 F9 N9 po9
        obtain ⟨t9, rfl⟩ := po9
        have hb1 := horn_small ns n (by omega) hp6 hp3 hp10 mid Hi (by omega) (by omega) (by omega)
        have hv1 : ∃ V1, V1 = horn (2 ^ n.toNat) (seg ns mid Hi) := ⟨_, rfl⟩
        obtain ⟨V1, hv1⟩ := hv1
        rw [← hv1] at hb1 ⊢
        try dsimp only
        try k_fold
        k_with "binaryOp LShift int int" => (refine lshift_int (by omega) (by have := bits_4000 hb1.1 hb1.2; omega) ?_)
        k_steps
        refine ⟨?_⟩
        refine' use0 (ih Lo mid _ _ (by omega) (by omega) (by omega) (by omega)) ?k1 ?k2 ?k3 ?k4 ?k5 ?k6 ?k7 ?k8 ?k9 ?_
        case k1 => k_asm
        case k2 => k_asm
        case k3 => k_asm
        case k4 => k_asm
        case k5 => k_asm
        case k6 => first | exact rfl | assumption
        case k7 => exact fun b o e => Fr.keep (by k_asm) _ _ (hG b o e)
        case k8 => (first | exact room0 hdp | exact room1 hdp (by decide) | exact room2 hdp (by decide) | exact room3 hdp (by decide) | exact room4 hdp (by decide) | ktr_room)
        case k9 => (first | exact room0 hun | exact room1 hun (by decide) | exact room2 hun (by decide) | exact room3 hun (by decide) | exact room4 hun (by decide) | ktr_units)
        intro v9 h9 tk9 st9 F9 N9 po9
        obtain ⟨t8, rfl⟩ := po9
        have hb2 := horn_small ns n (by omega) hp6 hp3 hp10 Lo mid (by omega) (by omega) (by omega)
        have hv2 : ∃ V2, V2 = horn (2 ^ n.toNat) (seg ns Lo mid) := ⟨_, rfl⟩
        obtain ⟨V2, hv2⟩ := hv2
        rw [← hv2] at hb2 ⊢
        have hres : V1 * 2 ^ ((mid - Lo) * n).toNat + V2 = horn (2 ^ n.toNat) (seg ns Lo Hi) := by
          rw [hv1, hv2]
          exact horn_join ns n (by omega) Lo mid Hi (by omega) (by omega) (by omega) (by omega)
        try dsimp only
        try k_fold
        k_steps
        refine hret2 _ _ _ (fun b o hb e => Fr.keep (by assumption) b o (hg3 b o hb e)) ⟨_, congrArg (fun z => Value.int z _) hres⟩
  k_with_none
  refine' use0 (inner 20 0 ns.length _ _ (by omega) (by omega) (by omega) (by omega)) ?k1 ?k2 ?k3 ?k4 ?k5 ?k6 ?k7 ?k8 ?k9 ?_
  case k1 => k_asm
  case k2 => k_asm
  case k3 => k_asm
  case k4 => k_asm
  case k5 => k_asm
  case k6 => first | exact rfl | assumption
  case k7 => exact fun _ _ e => e
  case k8 => (first | exact room0 hdp | exact room1 hdp (by decide) | exact room2 hdp (by decide) | exact room3 hdp (by decide) | exact room4 hdp (by decide) | ktr_room)
  case k9 => (first | exact room0 hun | exact room1 hun (by decide) | exact room2 hun (by decide) | exact room3 hun (by decide) | exact room4 hun (by decide) | ktr_units)
  intro v9 h9 tk9 st9 F9 N9 po9
  obtain ⟨t9, rfl⟩ := po9
  rw [seg_all]
  clear hfn inner
  try dsimp only
  try k_fold
  k_steps
  exact hret _ _ _ (fun b o hb2 e => F9.keep b o (hg b o hb2 e)) ⟨⟨t9, rfl⟩, (N9 _ (.tail _ (.tail _ (.tail _ (.tail _ (.head _)))))).1⟩
end Mine
end
section
set_option maxRecDepth 100000
set_option maxHeartbeats 8000000
set_option linter.unusedVariables false
set_option autoImplicit false
namespace Mine

theorem cnt_in {a n : Int} (h0 : 0 < a) (h1 : 0 < n) (h2 : (Builtin.Int.intBits a : Int) ≤ 20 * n) : 1 ≤ ((Builtin.Int.intBits a : Int) + n - 1).fdiv n ∧ ((Builtin.Int.intBits a : Int) + n - 1).fdiv n ≤ 20 := by
  have hb : 1 ≤ (Builtin.Int.intBits a : Int) := by
    unfold Builtin.Int.intBits
    rw [if_neg (by simp; omega)]
    omega
  rw [Int.fdiv_eq_ediv_of_nonneg _ (by omega)]
  constructor
  · exact Int.le_ediv_of_mul_le h1 (by omega)
  · have : ((Builtin.Int.intBits a : Int) + n - 1) / n < 21 := Int.ediv_lt_of_lt_mul h1 (by omega)
    omega
theorem is_one {h : Heap} {l : Addr} {v : Value} {k : Nat} (e : h.get? l = some (W.listOf #[v] k)) : h.IsList l [v].toArray := ⟨_, e, rfl, _, rfl⟩
noncomputable def digs (b : Int) : Int → Nat → List Int
  | _, 0 => []
  | x, 1 => [x]
  | x, k + 2 => x % b :: digs b (x / b) (k + 1)
noncomputable def put (ms : List Int) (i : Int) (l : List Int) : List Int := ms.take i.toNat ++ l ++ ms.drop (i.toNat + l.length)
theorem pick2 {h₀ h : Heap} {L f c : Addr} {o oc : Obj} {r : List (Addr × Obj)} {G : Prop} (N : News h₀ L h ((f, o) :: (c, oc) :: r)) (k : ∀ (f' c' : Addr) (h' : Heap), f' = f → c' = c → h' = h → G) : G := k f c h rfl rfl rfl
theorem ints_one (i : Int) (t : Tok) : IntsAre [.int i t] [i] := .cons _ _ .nil
end Mine
end
section
namespace Mine
theorem digs_len (b : Int) : ∀ (k : Nat) (x : Int), (digs b x k).length = k
  | 0, _ => by simp [digs]
  | 1, _ => by simp [digs]
  | k + 2, x => by simp [digs, digs_len b (k + 1)]
theorem mod_div (x b c : Int) (hx : 0 ≤ x) (hb : 0 ≤ b) (hc : 0 ≤ c) : (x % (b * c)) / b = (x / b) % c := by
  obtain ⟨m, rfl⟩ := Int.eq_ofNat_of_zero_le hx
  obtain ⟨d, rfl⟩ := Int.eq_ofNat_of_zero_le hb
  obtain ⟨e, rfl⟩ := Int.eq_ofNat_of_zero_le hc
  exact_mod_cast Nat.mod_mul_right_div_self m d e
theorem digs_cat (b : Int) (hb : 0 < b) (j : Nat) (hj : 1 ≤ j) : ∀ (i : Nat) (x : Int), 1 ≤ i → 0 ≤ x → digs b x (i + j) = digs b (x % b ^ i) i ++ digs b (x / b ^ i) j
  | 0, _, h, _ => by omega
  | 1, x, _, hx => by
    obtain ⟨k, rfl⟩ : ∃ k, j = k + 1 := ⟨j - 1, by omega⟩
    rw [show 1 + (k + 1) = k + 2 by omega, Int.pow_succ, Int.pow_zero, Int.one_mul]
    rfl
  | i + 2, x, _, hx => by
    have ih := digs_cat b hb j hj (i + 1) (x / b) (by omega) (Int.ediv_nonneg hx (by omega))
    rw [show i + 2 + j = (i + j) + 2 by omega]
    simp only [digs]
    rw [show i + j + 1 = i + 1 + j by omega, ih]
    have e1 : b ^ (i + 2) = b * b ^ (i + 1) := by rw [Int.pow_succ, Int.mul_comm]
    have hp : 0 ≤ b ^ (i + 1) := Int.pow_nonneg (by omega)
    rw [e1, Int.emod_emod_of_dvd x (Int.dvd_mul_right b _), mod_div x b _ hx (by omega) hp, Int.ediv_ediv_of_nonneg (by omega)]
    simp
theorem put_len (ms l : List Int) (i : Int) (h0 : 0 ≤ i) (h : i.toNat + l.length ≤ ms.length) : (put ms i l).length = ms.length := by
  unfold put
  simp
  omega
theorem put_one (ms : List Int) (i x : Int) (h : i.toNat < ms.length) : put ms i [x] = ms.set i.toNat x := by
  unfold put
  rw [List.set_eq_take_append_cons_drop, if_pos h]
  simp
theorem put_put (ms l1 l2 : List Int) (i j : Int) (h0 : 0 ≤ i) (hj : j.toNat = i.toNat + l1.length) (h : i.toNat + l1.length + l2.length ≤ ms.length) : put (put ms i l1) j l2 = put ms i (l1 ++ l2) := by
  unfold put
  have e1 : (ms.take i.toNat ++ l1).length = j.toNat := by simp; omega
  rw [List.take_left' e1, ← List.drop_drop, List.drop_left' e1, List.drop_drop, List.length_append, List.append_assoc, List.append_assoc, List.append_assoc, Nat.add_assoc, List.append_assoc]
theorem put_all (ms l : List Int) (h : l.length = ms.length) : put ms 0 l = l := by
  unfold put
  simp [h]
theorem fdiv_in {x : Int} (k : Nat) (h0 : 0 ≤ x) (h1 : x < 2 ^ 4000) : 0 ≤ x.fdiv (2 ^ k) ∧ x.fdiv (2 ^ k) < 2 ^ 4000 := by
  have hp : (0 : Int) < 2 ^ k := Int.pow_pos (by decide)
  rw [Int.fdiv_eq_ediv_of_nonneg _ (by omega)]
  refine ⟨Int.ediv_nonneg h0 (by omega), Int.lt_of_le_of_lt (Int.ediv_le_self _ h0) h1⟩
theorem shift_in {Lo Hi n : Int} (a1 : 0 ≤ Lo) (a2 : Lo < Hi) (a3 : Hi ≤ 20) (h0 : 0 < n) (h1 : n ≤ 200) : 0 ≤ ((Lo + Hi).fdiv (2 ^ Int.toNat 1) - Lo) * n ∧ ((Lo + Hi).fdiv (2 ^ Int.toNat 1) - Lo) * n ≤ 20 * 200 := by
  have e : (Lo + Hi).fdiv (2 ^ Int.toNat 1) = (Lo + Hi) / 2 := by
    rw [show (2 : Int) ^ Int.toNat 1 = 2 from rfl]
    exact Int.fdiv_eq_ediv_of_nonneg _ (by decide)
  rw [e]
  exact ⟨Int.mul_nonneg (by omega) (by omega), Int.mul_le_mul (by omega) h1 (by omega) (by omega)⟩
theorem split_put (ms : List Int) {Lo mid Hi n x lo up : Int} {sN : Nat} (a1 : 0 ≤ Lo) (hm1 : Lo < mid) (hm2 : mid < Hi) (a3 : Hi ≤ ms.length) (a6 : 0 ≤ x) (hn : 0 ≤ n) (hs : ((mid - Lo) * n).toNat = sN) (hlow : lo = x % 2 ^ sN) (hup : x.fdiv (2 ^ sN) = up) :
    put (put ms Lo (digs (2 ^ n.toNat) lo (mid - Lo).toNat)) mid (digs (2 ^ n.toNat) up (Hi - mid).toNat) = put ms Lo (digs (2 ^ n.toNat) x (Hi - Lo).toNat) := by
  rw [put_put _ _ _ _ _ a1 (by rw [digs_len]; omega) (by rw [digs_len, digs_len]; omega)]
  have e1 : (Hi - Lo).toNat = (mid - Lo).toNat + (Hi - mid).toNat := by omega
  have e2 : (2 : Int) ^ sN = (2 ^ n.toNat) ^ (mid - Lo).toNat := by
    rw [← Int.pow_mul, ← hs, Int.toNat_mul (by omega) hn, Nat.mul_comm]
  have hp : (0 : Int) < 2 ^ sN := Int.pow_pos (by decide)
  rw [Int.fdiv_eq_ediv_of_nonneg _ (by omega)] at hup
  rw [e1, digs_cat _ (Int.pow_pos (by decide)) _ (by omega) _ x (by omega) a6, hlow, ← hup, e2]
theorem xor_low {x : Int} (k : Nat) (h0 : 0 ≤ x) : Builtin.bitXor x (x.fdiv (2 ^ k) * 2 ^ k) = x % 2 ^ k := by
  obtain ⟨m, rfl⟩ := Int.eq_ofNat_of_zero_le h0
  rw [Int.fdiv_eq_ediv_of_nonneg _ (Int.pow_nonneg (by decide))]
  have e1 : ((m : Int) / 2 ^ k) * 2 ^ k = ((m / 2 ^ k * 2 ^ k : Nat) : Int) := by push_cast; rfl
  have e2 : (m : Int) % 2 ^ k = ((m % 2 ^ k : Nat) : Int) := by push_cast; rfl
  rw [e1, e2]
  have e3 : m &&& (m / 2 ^ k * 2 ^ k) = m / 2 ^ k * 2 ^ k := by
    apply Nat.eq_of_testBit_eq
    intro i
    rw [Nat.testBit_and, Nat.testBit_mul_two_pow, Nat.testBit_div_two_pow]
    by_cases h : i < k
    · simp [Nat.not_le.mpr h]
    · have h' : k ≤ i := Nat.le_of_not_lt h
      simp [h', Nat.sub_add_cancel h']
  have e4 : Builtin.bitAnd (m : Int) ((m / 2 ^ k * 2 ^ k : Nat) : Int) = ((m &&& (m / 2 ^ k * 2 ^ k) : Nat) : Int) := by
    have d1 : decide ((0 : Int) ≤ (m : Int)) = true := by simp
    have d2 : decide ((0 : Int) ≤ ((m / 2 ^ k * 2 ^ k : Nat) : Int)) = true := decide_eq_true (Int.natCast_nonneg _)
    unfold Builtin.bitAnd
    rw [d1, d2]
    rfl
  rw [bitXor_and, e4, e3]
  have := Nat.div_add_mod m (2 ^ k)
  rw [Nat.mul_comm] at this
  omega
end Mine
end
section
set_option maxRecDepth 100000
set_option maxHeartbeats 8000000
set_option linter.unusedVariables false
set_option autoImplicit false
namespace Mine
theorem S78f (w : World) (a0 n : Int) (t t0 : Tok) : Sp w 78 30 1000 [73] [.int a0 t0, .int n t] (fun h => 0 < a0 ∧ a0 < 2 ^ 4000 ∧ 0 < n ∧ n ≤ 200 ∧ (Builtin.Int.intBits a0 : Int) ≤ 20 * n ∧ CodeHd h 77 73 ∧ h.get? 73 = some (tabObj #[])) (fun h v h'' => (∃ vs c, NewAt h v (W.listOf vs.toArray c) h'' ∧ IntsAre vs (digs (2 ^ n.toNat) a0 (((Builtin.Int.intBits a0 : Int) + n - 1).fdiv n).toNat)) ∧ MadeCode 73 66 4 (PySem.Str.ofString "_int2digits.<locals>.inner") h h'') := by
  unfold Sp
  k_fill
  k_with_none
  w_top off
  intro dp un gd cn cs a ccd cl outer A₀ base h₀ L m s Q E p loose mean mg mb B F KX T hk hX hpre hdp hun hret
  obtain ⟨hp1, hp2, hp3, hp4, hp5, hp8, hps⟩ := hpre
  have N0 : News h₀ L s.heap [(73, tabObj #[])] := fun q hq => by
    rw [List.mem_singleton.mp hq]
    exact ⟨hps, (hX 73 (.head _)).1, (hX 73 (.head _)).2⟩
  refine wpAny_call ?_
  k_dflt (refine' enterC ?k1 ?k2 ?k3 ?k4 ?k5 ?kA ?kF ?kK ?k6 ?k7 ?k8 ?k9 ?kB ?kD ?_ ?c2 ?c3 ?c4; (case kA => exact rfl); (case kF => exact rfl); (case kK => exact hk); (case k1 => exact B); (case k2 => exact F); (case k3 => exact KX); (case k4 => exact N0); (case k5 => exact T); (case k6 => k_is); (case k7 => k_is); (case k8 => (first | exact room0 hdp | exact room1 hdp (by decide) | exact room2 hdp (by decide) | exact room3 hdp (by decide) | exact room4 hdp (by decide) | ktr_room)); (case k9 => exact BindsTo.of_eq rfl); (case kB => exact rfl); (case kD => decide +kernel); (case c2 => exact rfl); (case c3 => exact rfl); (case c4 => exact rfl); k_whole)
  intro g' L' h' tk' cells' hg F' N' Y' B' X' T' l1
  try k_lt l1
  k_cells Y'
  try simp only [List.cons_append, List.nil_append] at N'
  try dsimp only
  try k_fold
  have C1 := codeHd_stay hp8 hg
  have hcnt0 := cnt_in hp1 hp3 hp5
  have hbits := bits_4000 (Int.le_of_lt hp1) hp2
  k_with "binaryOp Mult ref int" => (refine halt ?_)
  k_steps
  refine ⟨?_⟩
  generalize hcnt : ((Builtin.Int.intBits a0 : Int) + n - 1).fdiv n = cnt at *
  obtain ⟨hcn1, hcn2⟩ := hcnt0
  rename Fr _ _ _ _ => F1
  rename News _ _ _ _ => N1
  refine KM.mul F1 N1 (is_one (N1 _ (.head _)).1) (ints_one _ _) (by omega) (by omega) (by simp; omega) ?_
  intro D1 h1 F2 N2 l2 i2 cn2 e2 e3 e4 e5
  k_lt l2
  have hz : ((List.replicate cnt.toNat [(0 : Int)]).flatten.length : Int) = cnt := by rw [e3, e5 (by omega)]; simp
  generalize (List.replicate cnt.toNat [Value.int 0 _]).flatten = vs0 at N2 i2 e2 ⊢
  generalize (List.replicate cnt.toNat [(0 : Int)]).flatten = ms at i2 hz e3
  clear e2 e3 e4 e5
  have hp0 : a0 ≠ 0 := by omega
  k_with_none
  k_with "call ref" => (refine halt ?_)
  k_steps
  rotate_left
  · exact absurd (by assumption) hp0
  refine ⟨?_⟩
  rename News _ _ _ _ => N7
  rename Fr _ _ _ _ => F7
  refine pick2 N7 (fun f c' hb e1 e3 e2 => ?_)
  try dsimp only at e2
  subst e1
  subst e3
  subst e2
  rename _ ∧ _ ∧ _ ∧ _ ∧ _ ∧ _ => lc
  have lcf : c' < f := by assumption
  have nef : f ≠ D1 := Nat.ne_of_gt (Nat.lt_trans lc.1 lcf)
  have nec : c' ≠ D1 := Nat.ne_of_gt lc.1
  have hl8 := F7.keep
  have cr8 := codeRec_news N7 (.tail _ (.head _)) (by assumption) (by assumption)
  have hf := (N7 _ (.head _)).1
  have hcl := (N7 _ (.tail _ (.tail _ (.head _)))).1
  have hci := (N7 _ (.tail _ (.tail _ (.tail _ (.tail _ (.head _)))))).1
  have hca := (N7 _ (.tail _ (.tail _ (.tail _ (.tail _ (.tail _ (.head _))))))).1
  have hcn := (N7 _ (.tail _ (.tail _ (.tail _ (.tail _ (.tail _ (.tail _ (.head _)))))))).1
  have nei : L' + 1 + 1 + 1 ≠ D1 := Nat.ne_of_lt l2.2.1
  have nea : L' + 1 + 1 ≠ D1 := Nat.ne_of_lt l2.2.2.1
  have nen : L' + 1 ≠ D1 := Nat.ne_of_lt l2.2.2.2.1
  try dsimp only at hf hci hca hcn hcl
  rename _ = Data.cell (some (Value.ref f)) => hdi
  rename _ = Data.cell (some (Value.ref D1)) => hda
  rename _ = Data.cell (some (Value.int n t)) => hdn0
  have hdn := hdn0
  change _ = Data.cell (some (Value.int n t)) at hdn
  change _ = some (fnMade _ (PySem.Str.ofString "_int2digits.<locals>.inner") _ _ _ _ _ _ _ _) at hf
  change Heap.CodeRec _ _ (PySem.Str.ofString "_int2digits.<locals>.inner") at cr8
  have hfn : ∀ h : Heap, (∀ b o, b ≠ D1 → hb.get? b = some o → h.get? b = some o) → FnAt f h := fun h k => ⟨_, _, _, _, k _ _ nef hf⟩
  have hcr : ∀ h : Heap, (∀ b o, b ≠ D1 → hb.get? b = some o → h.get? b = some o) → h.CodeRec (.ref _) (PySem.Str.ofString "_int2digits.<locals>.inner") := fun h k => codeRec_stay cr8 nec (fun b o hb e => k b o (by rintro rfl; exact hb (.head _)) e)
  have inner : ∀ (k : Nat) (x Lo Hi : Int) (ms : List Int) (t1 t2 t3 : Tok), 0 ≤ Lo → Lo < Hi → Hi ≤ ms.length → Hi - Lo ≤ k → ms.length ≤ 20 → 0 ≤ x → x < 2 ^ 4000 → Sp w f (k + 2) (40 * k + 60) [D1] [.int x t1, .int Lo t2, .int Hi t3]
      (fun h => (∀ b o, b ≠ D1 → hb.get? b = some o → h.get? b = some o) ∧ ∃ vs c, h.get? D1 = some (W.listOf vs.toArray c) ∧ IntsAre vs ms)
      (fun h v h'' => v = .none ∧ ∃ vs c, h''.get? D1 = some (W.listOf vs.toArray c) ∧ IntsAre vs (put ms Lo (digs (2 ^ n.toNat) x (Hi - Lo).toNat))) := by
    intro k
    induction k with
    | zero => intro x Lo Hi ms t1 t2 t3 a1 a2 a3 a4; omega
    | succ k ih =>
      intro x Lo Hi ms t1 t2 t3 a1 a2 a3 a4 a5 a6 a7
      unfold Sp
      intro dp2 un2 gd2 cn2 cs2 a' ccd2 cl2 outer2 A2 base2 h2 L2 m2 s2 Q2 E2 p2 loose2 mean2 mg2 mb2 B2 F2 KX2 T2 hk2 hX2 hpre2 hdp2 hun2 hret2
      obtain ⟨hkp, vs1, c1, hvs, ivs⟩ := hpre2
      have N2 : News h2 L2 s2.heap [(D1, W.listOf vs1.toArray c1)] := fun q hq => by
        rw [List.mem_singleton.mp hq]
        exact ⟨hvs, (hX2 D1 (.head _)).1, (hX2 D1 (.head _)).2⟩
      refine wpAny_call ?_
      k_dflt (refine' enterN ?k1 ?k2 ?k3 ?k4 ?k5 ?kA ?kF ?kK ?k6 ?k7 ?k8 ?k8b ?k9 ?kB ?_ ?c2 ?c3 ?c4 ?c5; (case kA => exact rfl); (case kF => exact rfl); (case kK => exact hk2); (case k1 => exact B2); (case k2 => exact F2); (case k3 => exact KX2); (case k4 => exact N2); (case k5 => exact T2); (case k6 => exact hkp _ _ nef hf); (case k7 => exact rfl); (case k8 => exact hcr _ hkp); (case k8b => ktr_room); (case k9 => exact BindsTo.of_eq rfl); (case c2 => decide); (case kB => exact locs rfl); (case c3 => exact rfl); (case c4 => exact rfl); (case c5 => exact rfl); k_whole)
      intro g3 L3 h3 hg3 F3 N3 B3 X3 T3
      try dsimp only
      have hG : ∀ b o, b ≠ D1 → hb.get? b = some o → g3.get? b = some o := fun b o hne e => hg3 b o (by rw [List.map, List.map, List.mem_singleton]; exact hne) (hkp b o hne e)
      k_with_none
      k_with "eval Name" => (first
        | (refine nameX_h (Fr.keep (by k_asm) _ _ (hG _ _ nei hci)) rfl hdi ?_ rfl rfl (by decide) (by decide))
        | (refine nameX_h (Fr.keep (by k_asm) _ _ (hG _ _ nen hcn)) rfl hdn ?_ rfl rfl (by decide) (by decide))
        | (refine nameX_h (Fr.keep (by k_asm) _ _ (hG _ _ nea hca)) rfl hda ?_ rfl rfl (by decide) (by decide)))
      clear hdn0 N7 F7 hret hf hX hps hg N0
      try k_fold
      obtain ⟨hsh1, hsh2⟩ := shift_in a1 a2 (by omega) hp3 hp4
      have hup := fdiv_in (((Lo + Hi).fdiv (2 ^ Int.toNat 1) - Lo) * n).toNat a6 a7
      have hlow := xor_low (((Lo + Hi).fdiv (2 ^ Int.toNat 1) - Lo) * n).toNat a6
      k_with "binaryOp LShift int int" => (refine lshift_int (by omega) (by have := bits_4000 hup.1 hup.2; omega) ?_)
      k_with "callWith ref" => (refine halt ?_)
      k_steps
      · rename News _ _ _ _ => N8
        refine hret2 _ _ _ (fun b o hb e => Fr.keep (h₀ := g3) (by assumption) b o (hg3 b o hb e)) ⟨rfl, _, _, (N8 _ (.head _)).1, ?_⟩
        have e1 : Hi = Lo + 1 := by omega
        subst e1
        rw [show (Lo + 1 - Lo).toNat = 1 by omega, digs, put_one _ _ _ (by omega)]
        assumption
      · refine ⟨?_⟩
        have hmid1 : Lo < (Lo + Hi).fdiv (2 ^ Int.toNat 1) ∧ (Lo + Hi).fdiv (2 ^ Int.toNat 1) < Hi := mid_in (by omega)
        generalize (Lo + Hi).fdiv (2 ^ Int.toNat 1) = mid at *
        obtain ⟨hm1, hm2⟩ := hmid1
        generalize hsN : ((mid - Lo) * n).toNat = sN at *
        generalize hlo : Builtin.bitXor x (x.fdiv (2 ^ sN) * 2 ^ sN) = lo at *
        generalize hup0 : x.fdiv (2 ^ sN) = up at *
        have hlo1 : 0 ≤ lo ∧ lo < 2 ^ 4000 := by
          rw [hlow]
          have hp : (0 : Int) < 2 ^ sN := Int.pow_pos (by decide)
          refine ⟨Int.emod_nonneg _ (by omega), Int.lt_of_le_of_lt ?_ a7⟩
          rw [Int.emod_def]
          have := Int.mul_nonneg (Int.le_of_lt hp) (Int.ediv_nonneg a6 (Int.le_of_lt hp))
          omega
        k_with_none
        k_with "eval Name" => (first
          | (refine nameX_h (Fr.keep (by k_asm) _ _ (hG _ _ nei hci)) rfl hdi ?_ rfl rfl (by decide) (by decide))
          | (refine nameX_h (Fr.keep (by k_asm) _ _ (hG _ _ nen hcn)) rfl hdn ?_ rfl rfl (by decide) (by decide))
          | (refine nameX_h (Fr.keep (by k_asm) _ _ (hG _ _ nea hca)) rfl hda ?_ rfl rfl (by decide) (by decide)))
        k_with "callWith ref" => (refine callWith_F (hfn _ (fun b o hne e => Fr.keep (by k_asm) _ _ (hG b o hne e))) ?_ rfl rfl)
        k_with "FnAt" => (exact hfn _ (fun b o hne e => Fr.keep (by k_asm) _ _ (hG b o hne e)))
        k_with "call ref" => (refine halt ?_)
        refine callWith_F (hfn _ (fun b o hne e => Fr.keep (by k_asm) _ _ (hG b o hne e))) ?_ rfl rfl
        try k_fold
        k_steps
        refine ⟨?_⟩
        dsimp only [List.nil_append, List.cons_append]
        rename News _ _ _ _ => N8
        refine' use1 (pre := []) (post := []) (ih lo Lo mid ms _ _ _ a1 hm1 (by omega) (by omega) a5 hlo1.1 hlo1.2) ?k1 ?k2 ?k3 ?k4 N8 ?k5 ?k5b ?k6 ?k7 ?k8 ?k9 ?_
        case k1 => k_asm
        case k2 => k_asm
        case k3 => k_asm
        case k4 => k_asm
        case k5 => intro _ hx; cases hx
        case k5b => intro _ hx; cases hx
        case k6 => first | exact rfl | assumption
        case k7 => exact ⟨fun b o hne e => Fr.keep (by k_asm) _ _ (hG b o hne e), _, _, (N8 _ (.head _)).1, ivs⟩
        case k8 => (first | exact room0 hdp | exact room1 hdp (by decide) | exact room2 hdp (by decide) | exact room3 hdp (by decide) | exact room4 hdp (by decide) | ktr_room)
        case k9 => (first | exact room0 hun | exact room1 hun (by decide) | exact room2 hun (by decide) | exact room3 hun (by decide) | exact room4 hun (by decide) | ktr_units)
        intro v9 h9 tk9 st9 F9 N9 po9
        obtain ⟨rfl, vs2, c2, hv2, iv2⟩ := po9
        have N10 := N9 _ hv2
        clear N9 st9
        try dsimp only [List.nil_append] at N10
        try dsimp only
        try k_fold
        k_steps
        refine ⟨?_⟩
        try dsimp only [List.nil_append, List.cons_append]
        rename News _ _ _ _ => N11
        have hlen2 : (put ms Lo (digs (2 ^ n.toNat) lo (mid - Lo).toNat)).length = ms.length := put_len _ _ _ a1 (by rw [digs_len]; omega)
        refine' use1 (pre := []) (post := []) (ih up mid Hi (put ms Lo (digs (2 ^ n.toNat) lo (mid - Lo).toNat)) _ _ _ (by omega) hm2 (by omega) (by omega) (by omega) hup.1 hup.2) ?k1 ?k2 ?k3 ?k4 N11 ?k5 ?k5b ?k6 ?k7 ?k8 ?k9 ?_
        case k1 => k_asm
        case k2 => k_asm
        case k3 => k_asm
        case k4 => k_asm
        case k5 => intro _ hx; cases hx
        case k5b => intro _ hx; cases hx
        case k6 => first | exact rfl | assumption
        case k7 => exact ⟨fun b o hne e => Fr.keep (by k_asm) _ _ (hG b o hne e), _, _, (N11 _ (.head _)).1, iv2⟩
        case k8 => (first | exact room0 hdp | exact room1 hdp (by decide) | exact room2 hdp (by decide) | exact room3 hdp (by decide) | exact room4 hdp (by decide) | ktr_room)
        case k9 => (first | exact room0 hun | exact room1 hun (by decide) | exact room2 hun (by decide) | exact room3 hun (by decide) | exact room4 hun (by decide) | ktr_units)
        intro v9 h9 tk9 st9 F9 N9 po9
        obtain ⟨rfl, vs3, c3, hv3, iv3⟩ := po9
        have N12 := N9 _ hv3
        clear N9 st9
        try dsimp only [List.nil_append] at N12
        try dsimp only
        try k_fold
        k_steps
        refine hret2 _ _ _ (fun b o hb e => Fr.keep (h₀ := g3) (by assumption) b o (hg3 b o hb e)) ⟨rfl, _, _, (N12 _ (.head _)).1, ?_⟩
        rw [← split_put ms a1 hm1 hm2 a3 a6 (by omega) hsN hlow hup0]
        exact iv3
  k_with_none
  refine' use1U (inner 20 a0 0 ms.length ms _ _ _ (by omega) (by omega) (by omega) (by omega) (by omega) (by omega) hp2) ?k1 ?k2 ?k3 ?k4 ?kN ?k5 ?k6 ?k7 ?k8 ?k9 ?_
  case k1 => k_asm
  case k2 => k_asm
  case k3 => k_asm
  case k4 => k_asm
  case kN => exact N7
  case k5 => k_updF
  case k6 => first | exact rfl | assumption
  case k7 => exact ⟨fun b o _ e => e, _, _, (N7 _ (.tail _ (.tail _ (.head _)))).1, i2⟩
  case k8 => (first | exact room0 hdp | exact room1 hdp (by decide) | exact room2 hdp (by decide) | exact room3 hdp (by decide) | exact room4 hdp (by decide) | ktr_room)
  case k9 => (first | exact room0 hun | exact room1 hun (by decide) | exact room2 hun (by decide) | exact room3 hun (by decide) | exact room4 hun (by decide) | ktr_units)
  intro v9 h9 tk9 st9 F9 N9 po9
  obtain ⟨rfl, vs4, c4, hv4, iv4⟩ := po9
  have N13 := N9 _ hv4
  clear N9 inner
  try dsimp only [List.cons_append, List.nil_append] at N13
  try dsimp only
  try k_fold
  k_steps
  refine hret _ _ _ (fun b o hb2 e => Fr.keep (h₀ := g') (by assumption) b o (hg b o hb2 e)) ⟨⟨_, _, newAt_of hg (by rw [List.map, List.map, List.mem_singleton]; exact Nat.ne_of_gt l2.2.2.2.2) N13 (.tail _ (.tail _ (.head _))), ?_⟩, ⟨c', _, fresh_of hg (by rw [List.map, List.map, List.mem_singleton]; exact Nat.ne_of_gt lc.2.2.2.2.2) N13 (.tail _ (.head _)), (N13 _ (.tail _ (.head _))).1, ⟨_, _, by assumption, by assumption⟩, (N13 _ (.tail _ (.tail _ (.tail _ (.tail _ (.tail _ (.tail _ (.tail _ (.head _))))))))).1⟩⟩
  rw [put_all _ _ (by rw [digs_len]; omega)] at iv4
  have e1 : ((ms.length : Int) - 0).toNat = cnt.toNat := by omega
  rw [← e1]
  exact iv4
end Mine
end
section
set_option maxRecDepth 100000
set_option maxHeartbeats 8000000
set_option linter.unusedVariables false
set_option autoImplicit false
namespace Mine
theorem S78h (w : World) (a0 n : Int) (t t0 : Tok) (c' : Addr) : Sp w 78 30 1000 [73] [.int a0 t0, .int n t] (fun h => 0 < a0 ∧ a0 < 2 ^ 4000 ∧ 0 < n ∧ n ≤ 200 ∧ (Builtin.Int.intBits a0 : Int) ≤ 20 * n ∧ CodeHd h 77 73 ∧ h.get? 73 = some (tabObj #[rawInt 66, rawInt 4, .ref c']) ∧ c' ≠ 73 ∧ h.CodeRec (.ref c') (PySem.Str.ofString "_int2digits.<locals>.inner")) (fun h v h'' => (∃ vs c, NewAt h v (W.listOf vs.toArray c) h'' ∧ IntsAre vs (digs (2 ^ n.toNat) a0 (((Builtin.Int.intBits a0 : Int) + n - 1).fdiv n).toNat)) ∧ h''.get? 73 = some (tabObj #[rawInt 66, rawInt 4, .ref c'])) := by
  unfold Sp
  k_fill
  k_with_none
  w_top off
  intro dp un gd cn cs a ccd cl outer A₀ base h₀ L m s Q E p loose mean mg mb B F KX T hk hX hpre hdp hun hret
  obtain ⟨hp1, hp2, hp3, hp4, hp5, hp8, hps, hc2, hc3⟩ := hpre
  have N0 : News h₀ L s.heap [(73, tabObj #[rawInt 66, rawInt 4, .ref c'])] := fun q hq => by
    rw [List.mem_singleton.mp hq]
    exact ⟨hps, (hX 73 (.head _)).1, (hX 73 (.head _)).2⟩
  refine wpAny_call ?_
  k_dflt (refine' enterC ?k1 ?k2 ?k3 ?k4 ?k5 ?kA ?kF ?kK ?k6 ?k7 ?k8 ?k9 ?kB ?kD ?_ ?c2 ?c3 ?c4; (case kA => exact rfl); (case kF => exact rfl); (case kK => exact hk); (case k1 => exact B); (case k2 => exact F); (case k3 => exact KX); (case k4 => exact N0); (case k5 => exact T); (case k6 => k_is); (case k7 => k_is); (case k8 => (first | exact room0 hdp | exact room1 hdp (by decide) | exact room2 hdp (by decide) | exact room3 hdp (by decide) | exact room4 hdp (by decide) | ktr_room)); (case k9 => exact BindsTo.of_eq rfl); (case kB => exact rfl); (case kD => decide +kernel); (case c2 => exact rfl); (case c3 => exact rfl); (case c4 => exact rfl); k_whole)
  intro g' L' h' tk' cells' hg F' N' Y' B' X' T' l1
  try k_lt l1
  k_cells Y'
  try simp only [List.cons_append, List.nil_append] at N'
  try dsimp only
  try k_fold
  have C1 := codeHd_stay hp8 hg
  have hcnt0 := cnt_in hp1 hp3 hp5
  have hbits := bits_4000 (Int.le_of_lt hp1) hp2
  k_with "binaryOp Mult ref int" => (refine halt ?_)
  k_steps
  refine ⟨?_⟩
  generalize hcnt : ((Builtin.Int.intBits a0 : Int) + n - 1).fdiv n = cnt at *
  obtain ⟨hcn1, hcn2⟩ := hcnt0
  rename Fr _ _ _ _ => F1
  rename News _ _ _ _ => N1
  refine KM.mul F1 N1 (is_one (N1 _ (.head _)).1) (ints_one _ _) (by omega) (by omega) (by simp; omega) ?_
  intro D1 h1 F2 N2 l2 i2 cn2 e2 e3 e4 e5
  k_lt l2
  have hz : ((List.replicate cnt.toNat [(0 : Int)]).flatten.length : Int) = cnt := by rw [e3, e5 (by omega)]; simp
  generalize (List.replicate cnt.toNat [Value.int 0 _]).flatten = vs0 at N2 i2 e2 ⊢
  generalize (List.replicate cnt.toNat [(0 : Int)]).flatten = ms at i2 hz e3
  clear e2 e3 e4 e5
  have hp0 : a0 ≠ 0 := by omega
  k_with_none
  k_with "call ref" => (refine halt ?_)
  k_steps
  rotate_left
  · exact absurd (by assumption) hp0
  refine ⟨?_⟩
  rename News _ _ _ _ => N7
  rename Fr _ _ _ _ => F7
  refine pick N7 (fun f hb e1 e2 => ?_)
  try dsimp only at e2
  subst e1
  subst e2
  rename _ ∧ _ ∧ _ ∧ _ ∧ _ ∧ _ => lc
  have nef : f ≠ D1 := Nat.ne_of_gt lc.1
  have nec : c' ≠ D1 := by
    rintro rfl
    obtain ⟨c2, o, _, _, e, e2, _⟩ := codeRec_stay hc3 hc2 hg
    cases e
    rw [(N7 _ (.tail _ (.head _))).2.2] at e2
    cases e2
  have hl8 := F7.keep
  have cr8 := (codeRec_stay hc3 hc2 hg).keeps F7.keep
  have hf := (N7 _ (.head _)).1
  have hcl := (N7 _ (.tail _ (.head _))).1
  have hci := (N7 _ (.tail _ (.tail _ (.tail _ (.head _))))).1
  have hca := (N7 _ (.tail _ (.tail _ (.tail _ (.tail _ (.head _)))))).1
  have hcn := (N7 _ (.tail _ (.tail _ (.tail _ (.tail _ (.tail _ (.head _))))))).1
  have nei : L' + 1 + 1 + 1 ≠ D1 := Nat.ne_of_lt l2.2.1
  have nea : L' + 1 + 1 ≠ D1 := Nat.ne_of_lt l2.2.2.1
  have nen : L' + 1 ≠ D1 := Nat.ne_of_lt l2.2.2.2.1
  try dsimp only at hf hci hca hcn hcl
  rename _ = Data.cell (some (Value.ref f)) => hdi
  rename _ = Data.cell (some (Value.ref D1)) => hda
  rename _ = Data.cell (some (Value.int n t)) => hdn0
  have hdn := hdn0
  change _ = Data.cell (some (Value.int n t)) at hdn
  change _ = some (fnMade _ (PySem.Str.ofString "_int2digits.<locals>.inner") _ _ _ _ _ _ _ _) at hf
  change Heap.CodeRec _ _ (PySem.Str.ofString "_int2digits.<locals>.inner") at cr8
  have hfn : ∀ h : Heap, (∀ b o, b ≠ D1 → hb.get? b = some o → h.get? b = some o) → FnAt f h := fun h k => ⟨_, _, _, _, k _ _ nef hf⟩
  have hcr : ∀ h : Heap, (∀ b o, b ≠ D1 → hb.get? b = some o → h.get? b = some o) → h.CodeRec (.ref _) (PySem.Str.ofString "_int2digits.<locals>.inner") := fun h k => codeRec_stay cr8 nec (fun b o hb e => k b o (by rintro rfl; exact hb (.head _)) e)
  have inner : ∀ (k : Nat) (x Lo Hi : Int) (ms : List Int) (t1 t2 t3 : Tok), 0 ≤ Lo → Lo < Hi → Hi ≤ ms.length → Hi - Lo ≤ k → ms.length ≤ 20 → 0 ≤ x → x < 2 ^ 4000 → Sp w f (k + 2) (40 * k + 60) [D1] [.int x t1, .int Lo t2, .int Hi t3]
      (fun h => (∀ b o, b ≠ D1 → hb.get? b = some o → h.get? b = some o) ∧ ∃ vs c, h.get? D1 = some (W.listOf vs.toArray c) ∧ IntsAre vs ms)
      (fun h v h'' => v = .none ∧ ∃ vs c, h''.get? D1 = some (W.listOf vs.toArray c) ∧ IntsAre vs (put ms Lo (digs (2 ^ n.toNat) x (Hi - Lo).toNat))) := by
    intro k
    induction k with
    | zero => intro x Lo Hi ms t1 t2 t3 a1 a2 a3 a4; omega
    | succ k ih =>
      intro x Lo Hi ms t1 t2 t3 a1 a2 a3 a4 a5 a6 a7
      unfold Sp
      intro dp2 un2 gd2 cn2 cs2 a' ccd2 cl2 outer2 A2 base2 h2 L2 m2 s2 Q2 E2 p2 loose2 mean2 mg2 mb2 B2 F2 KX2 T2 hk2 hX2 hpre2 hdp2 hun2 hret2
      obtain ⟨hkp, vs1, c1, hvs, ivs⟩ := hpre2
      have N2 : News h2 L2 s2.heap [(D1, W.listOf vs1.toArray c1)] := fun q hq => by
        rw [List.mem_singleton.mp hq]
        exact ⟨hvs, (hX2 D1 (.head _)).1, (hX2 D1 (.head _)).2⟩
      refine wpAny_call ?_
      k_dflt (refine' enterN ?k1 ?k2 ?k3 ?k4 ?k5 ?kA ?kF ?kK ?k6 ?k7 ?k8 ?k8b ?k9 ?kB ?_ ?c2 ?c3 ?c4 ?c5; (case kA => exact rfl); (case kF => exact rfl); (case kK => exact hk2); (case k1 => exact B2); (case k2 => exact F2); (case k3 => exact KX2); (case k4 => exact N2); (case k5 => exact T2); (case k6 => exact hkp _ _ nef hf); (case k7 => exact rfl); (case k8 => exact hcr _ hkp); (case k8b => ktr_room); (case k9 => exact BindsTo.of_eq rfl); (case c2 => decide); (case kB => exact locs rfl); (case c3 => exact rfl); (case c4 => exact rfl); (case c5 => exact rfl); k_whole)
      intro g3 L3 h3 hg3 F3 N3 B3 X3 T3
      try dsimp only
      have hG : ∀ b o, b ≠ D1 → hb.get? b = some o → g3.get? b = some o := fun b o hne e => hg3 b o (by rw [List.map, List.map, List.mem_singleton]; exact hne) (hkp b o hne e)
      k_with_none
      k_with "eval Name" => (first
        | (refine nameX_h (Fr.keep (by k_asm) _ _ (hG _ _ nei hci)) rfl hdi ?_ rfl rfl (by decide) (by decide))
        | (refine nameX_h (Fr.keep (by k_asm) _ _ (hG _ _ nen hcn)) rfl hdn ?_ rfl rfl (by decide) (by decide))
        | (refine nameX_h (Fr.keep (by k_asm) _ _ (hG _ _ nea hca)) rfl hda ?_ rfl rfl (by decide) (by decide)))
      clear hdn0 N7 F7 hret hf hX hps hg N0
      try k_fold
      obtain ⟨hsh1, hsh2⟩ := shift_in a1 a2 (by omega) hp3 hp4
      have hup := fdiv_in (((Lo + Hi).fdiv (2 ^ Int.toNat 1) - Lo) * n).toNat a6 a7
      have hlow := xor_low (((Lo + Hi).fdiv (2 ^ Int.toNat 1) - Lo) * n).toNat a6
      k_with "binaryOp LShift int int" => (refine lshift_int (by omega) (by have := bits_4000 hup.1 hup.2; omega) ?_)
      k_with "callWith ref" => (refine halt ?_)
      k_steps
      · rename News _ _ _ _ => N8
        refine hret2 _ _ _ (fun b o hb e => Fr.keep (h₀ := g3) (by assumption) b o (hg3 b o hb e)) ⟨rfl, _, _, (N8 _ (.head _)).1, ?_⟩
        have e1 : Hi = Lo + 1 := by omega
        subst e1
        rw [show (Lo + 1 - Lo).toNat = 1 by omega, digs, put_one _ _ _ (by omega)]
        assumption
      · refine ⟨?_⟩
        have hmid1 : Lo < (Lo + Hi).fdiv (2 ^ Int.toNat 1) ∧ (Lo + Hi).fdiv (2 ^ Int.toNat 1) < Hi := mid_in (by omega)
        generalize (Lo + Hi).fdiv (2 ^ Int.toNat 1) = mid at *
        obtain ⟨hm1, hm2⟩ := hmid1
        generalize hsN : ((mid - Lo) * n).toNat = sN at *
        generalize hlo : Builtin.bitXor x (x.fdiv (2 ^ sN) * 2 ^ sN) = lo at *
        generalize hup0 : x.fdiv (2 ^ sN) = up at *
        have hlo1 : 0 ≤ lo ∧ lo < 2 ^ 4000 := by
          rw [hlow]
          have hp : (0 : Int) < 2 ^ sN := Int.pow_pos (by decide)
          refine ⟨Int.emod_nonneg _ (by omega), Int.lt_of_le_of_lt ?_ a7⟩
          rw [Int.emod_def]
          have := Int.mul_nonneg (Int.le_of_lt hp) (Int.ediv_nonneg a6 (Int.le_of_lt hp))
          omega
        k_with_none
        k_with "eval Name" => (first
          | (refine nameX_h (Fr.keep (by k_asm) _ _ (hG _ _ nei hci)) rfl hdi ?_ rfl rfl (by decide) (by decide))
          | (refine nameX_h (Fr.keep (by k_asm) _ _ (hG _ _ nen hcn)) rfl hdn ?_ rfl rfl (by decide) (by decide))
          | (refine nameX_h (Fr.keep (by k_asm) _ _ (hG _ _ nea hca)) rfl hda ?_ rfl rfl (by decide) (by decide)))
        k_with "callWith ref" => (refine callWith_F (hfn _ (fun b o hne e => Fr.keep (by k_asm) _ _ (hG b o hne e))) ?_ rfl rfl)
        k_with "FnAt" => (exact hfn _ (fun b o hne e => Fr.keep (by k_asm) _ _ (hG b o hne e)))
        k_with "call ref" => (refine halt ?_)
        refine callWith_F (hfn _ (fun b o hne e => Fr.keep (by k_asm) _ _ (hG b o hne e))) ?_ rfl rfl
        try k_fold
        k_steps
        refine ⟨?_⟩
        dsimp only [List.nil_append, List.cons_append]
        rename News _ _ _ _ => N8
        refine' use1 (pre := []) (post := []) (ih lo Lo mid ms _ _ _ a1 hm1 (by omega) (by omega) a5 hlo1.1 hlo1.2) ?k1 ?k2 ?k3 ?k4 N8 ?k5 ?k5b ?k6 ?k7 ?k8 ?k9 ?_
        case k1 => k_asm
        case k2 => k_asm
        case k3 => k_asm
        case k4 => k_asm
        case k5 => intro _ hx; cases hx
        case k5b => intro _ hx; cases hx
        case k6 => first | exact rfl | assumption
        case k7 => exact ⟨fun b o hne e => Fr.keep (by k_asm) _ _ (hG b o hne e), _, _, (N8 _ (.head _)).1, ivs⟩
        case k8 => (first | exact room0 hdp | exact room1 hdp (by decide) | exact room2 hdp (by decide) | exact room3 hdp (by decide) | exact room4 hdp (by decide) | ktr_room)
        case k9 => (first | exact room0 hun | exact room1 hun (by decide) | exact room2 hun (by decide) | exact room3 hun (by decide) | exact room4 hun (by decide) | ktr_units)
        intro v9 h9 tk9 st9 F9 N9 po9
        obtain ⟨rfl, vs2, c2, hv2, iv2⟩ := po9
        have N10 := N9 _ hv2
        clear N9 st9
        try dsimp only [List.nil_append] at N10
        try dsimp only
        try k_fold
        k_steps
        refine ⟨?_⟩
        try dsimp only [List.nil_append, List.cons_append]
        rename News _ _ _ _ => N11
        have hlen2 : (put ms Lo (digs (2 ^ n.toNat) lo (mid - Lo).toNat)).length = ms.length := put_len _ _ _ a1 (by rw [digs_len]; omega)
        refine' use1 (pre := []) (post := []) (ih up mid Hi (put ms Lo (digs (2 ^ n.toNat) lo (mid - Lo).toNat)) _ _ _ (by omega) hm2 (by omega) (by omega) (by omega) hup.1 hup.2) ?k1 ?k2 ?k3 ?k4 N11 ?k5 ?k5b ?k6 ?k7 ?k8 ?k9 ?_
        case k1 => k_asm
        case k2 => k_asm
        case k3 => k_asm
        case k4 => k_asm
        case k5 => intro _ hx; cases hx
        case k5b => intro _ hx; cases hx
        case k6 => first | exact rfl | assumption
        case k7 => exact ⟨fun b o hne e => Fr.keep (by k_asm) _ _ (hG b o hne e), _, _, (N11 _ (.head _)).1, iv2⟩
        case k8 => (first | exact room0 hdp | exact room1 hdp (by decide) | exact room2 hdp (by decide) | exact room3 hdp (by decide) | exact room4 hdp (by decide) | ktr_room)
        case k9 => (first | exact room0 hun | exact room1 hun (by decide) | exact room2 hun (by decide) | exact room3 hun (by decide) | exact room4 hun (by decide) | ktr_units)
        intro v9 h9 tk9 st9 F9 N9 po9
        obtain ⟨rfl, vs3, c3, hv3, iv3⟩ := po9
        have N12 := N9 _ hv3
        clear N9 st9
        try dsimp only [List.nil_append] at N12
        try dsimp only
        try k_fold
        k_steps
        refine hret2 _ _ _ (fun b o hb e => Fr.keep (h₀ := g3) (by assumption) b o (hg3 b o hb e)) ⟨rfl, _, _, (N12 _ (.head _)).1, ?_⟩
        rw [← split_put ms a1 hm1 hm2 a3 a6 (by omega) hsN hlow hup0]
        exact iv3
  k_with_none
  refine' use1U (inner 20 a0 0 ms.length ms _ _ _ (by omega) (by omega) (by omega) (by omega) (by omega) (by omega) hp2) ?k1 ?k2 ?k3 ?k4 ?kN ?k5 ?k6 ?k7 ?k8 ?k9 ?_
  case k1 => k_asm
  case k2 => k_asm
  case k3 => k_asm
  case k4 => k_asm
  case kN => exact N7
  case k5 => k_updF
  case k6 => first | exact rfl | assumption
  case k7 => exact ⟨fun b o _ e => e, _, _, (N7 _ (.tail _ (.head _))).1, i2⟩
  case k8 => (first | exact room0 hdp | exact room1 hdp (by decide) | exact room2 hdp (by decide) | exact room3 hdp (by decide) | exact room4 hdp (by decide) | ktr_room)
  case k9 => (first | exact room0 hun | exact room1 hun (by decide) | exact room2 hun (by decide) | exact room3 hun (by decide) | exact room4 hun (by decide) | ktr_units)
  intro v9 h9 tk9 st9 F9 N9 po9
  obtain ⟨rfl, vs4, c4, hv4, iv4⟩ := po9
  have N13 := N9 _ hv4
  clear N9 inner
  try dsimp only [List.cons_append, List.nil_append] at N13
  try dsimp only
  try k_fold
  k_steps
  refine hret _ _ _ (fun b o hb2 e => Fr.keep (h₀ := g') (by assumption) b o (hg b o hb2 e)) ⟨⟨_, _, newAt_of hg (by rw [List.map, List.map, List.mem_singleton]; exact Nat.ne_of_gt l2.2.2.2.2) N13 (.tail _ (.head _)), ?_⟩, (N13 _ (.tail _ (.tail _ (.tail _ (.tail _ (.tail _ (.tail _ (.head _)))))))).1⟩
  rw [put_all _ _ (by rw [digs_len]; omega)] at iv4
  have e1 : ((ms.length : Int) - 0).toNat = cnt.toNat := by omega
  rw [← e1]
  exact iv4
end Mine
end
section
set_option maxRecDepth 100000
set_option maxHeartbeats 8000000
set_option autoImplicit false
namespace Mine
section
variable {prog : Program} {w : World} {A : Around} {E : Value → Shared → Prop} {s : Shared} {env : Env} {h₀ : Heap} {x : PySem.Str} {body : List Stmt} {Q : Flow → Shared → Prop}
theorem revRest_of {I : Addr} {lp : Addr × Obj} (J : List Value → (PySem.Str → Option Value) → List (Addr × Obj) → Prop)
    (turn : ∀ v r m₁ nx (it : Obj) h tk, J (v :: r) m₁ nx → Fr h₀ env.locals h (fun y => if y = x then some v else m₁ y) → News h₀ env.locals h ((I, it) :: nx) →
      wpAny (model prog w) A (execs body env) (TurnEnd h₀ env.locals (fun m' n' => lp ∈ n' ∧ J r m' n') I it { s with heap := h, toks := tk }) E { s with heap := h, toks := tk })
    (done : ∀ m₁ nx h tk, J [] m₁ nx → Fr h₀ env.locals h m₁ → News h₀ env.locals h nx → Q .next { s with heap := h, toks := tk }) :
    ∀ (r : List Value) (m : PySem.Str → Option Value) (news : List (Addr × Obj)), J r m news → RevRest prog w A E h₀ env x body Q s I lp r m news
  | [], m, news, hJ => fun h tk F N => done m news h tk hJ F N
  | v :: r, m, news, hJ => by
    intro it h tk hc F N
    refine wpAny_mono (turn v r m news it h tk hJ F N) (fun f s₂ q => ?_) fun _ _ e => e
    obtain ⟨rfl, h', tk', m', news', rfl, F', N', hne, hl, hJ'⟩ := q
    exact ⟨h', tk', m', news', rfl, F', N', hne, hl, revRest_of J turn done r m' news' hJ'⟩
end
/-- the digits of the remainder, most significant first -/
theorem horn_snoc (b : Int) (x : List Int) (d : Int) : horn b (x ++ [d]) = horn b x + b ^ x.length * d := by
  induction x with
  | nil => simp [horn]
  | cons a r ih =>
    simp only [List.cons_append, horn, ih, List.length_cons, Int.pow_succ]
    rw [Int.mul_add, Int.mul_comm (b ^ r.length) b, Int.mul_assoc]
    omega
end Mine
end
section
set_option maxRecDepth 100000
set_option maxHeartbeats 8000000
set_option linter.unusedVariables false
set_option autoImplicit false
namespace Mine

theorem codeHd_stayX {h h' : Heap} {c P : Addr} {X : List Addr} (x : CodeHd h c P) (k : StayX X h h') (hc : c ∉ X) : CodeHd h' c P :=
  let ⟨o, vs, file, tf, flags, tg, inF, text, tt, e, r⟩ := x
  ⟨o, vs, file, tf, flags, tg, inF, text, tt, k _ _ hc e, r⟩
theorem codeRec_stayX {h h' : Heap} {c : Addr} {q : PySem.Str} {X : List Addr} (x : h.CodeRec (.ref c) q) (k : StayX X h h') (hc : c ∉ X) : h'.CodeRec (.ref c) q := by
  obtain ⟨c2, o, vs, t, e, e2, r⟩ := x
  cases e
  exact ⟨c, o, vs, t, rfl, k _ _ hc e2, r⟩
/-- what stands between two turns of the long division -/
structure DivInv (a b B : Int) (ds : List Int) (rr : Int) (qs : List Int) : Prop where
  r0 : 0 ≤ rr
  r1 : rr < b
  d : ∀ d ∈ ds, 0 ≤ d ∧ d < B
  q : ∀ d ∈ qs, 0 ≤ d ∧ d < B
  n : qs.length + ds.length ≤ 20
  n1 : 1 ≤ qs.length + ds.length
  e : (rr * B ^ ds.length + horn B ds.reverse) % b = a % b
theorem offI_of {I : Addr} {it : Obj} : ∀ {news : List (Addr × Obj)}, (∀ p ∈ news, p.1 ≠ I) → OffI I it news
  | [], _ => trivial
  | p :: r, h => ⟨.inl (h p (List.mem_cons_self ..)), offI_of fun q hq => h q (List.mem_cons_of_mem _ hq)⟩
theorem pow_up : (2 : Int) ^ 200 < 2 ^ 4000 := by exact_mod_cast Nat.pow_lt_pow_right (by decide : 1 < 2) (by decide : 200 < 4000)
theorem step_in {b rr d n : Int} (hb0 : 0 < b) (hb : b < 2 ^ 200) (hn0 : 1 ≤ n) (hn : n ≤ 200) (h0 : 0 ≤ rr) (h1 : rr < b) (h2 : 0 ≤ d) (h3 : d < 2 ^ n.toNat) : 0 ≤ rr * 2 ^ n.toNat + d ∧ rr * 2 ^ n.toNat + d < 2 ^ 4000 := by
  have hp : (0 : Int) < 2 ^ n.toNat := Int.pow_pos (by decide)
  have e1 : 0 ≤ rr * 2 ^ n.toNat := Int.mul_nonneg h0 (Int.le_of_lt hp)
  have e2 : (rr + 1) * 2 ^ n.toNat ≤ 2 ^ 200 * 2 ^ 200 := by
    refine Int.mul_le_mul (by omega) ?_ (Int.le_of_lt hp) (by decide)
    exact_mod_cast Nat.pow_le_pow_right (by decide : 2 > 0) (by omega : n.toNat ≤ 200)
  rw [Int.add_mul] at e2
  have e3 : (2 : Int) ^ 200 * 2 ^ 200 < 2 ^ 4000 := by
    rw [← Int.pow_add]
    exact_mod_cast Nat.pow_lt_pow_right (by decide : 1 < 2) (by decide : 200 + 200 < 4000)
  omega
theorem bits_in {b : Int} (h0 : 0 < b) (h1 : b < 2 ^ 200) : 1 ≤ (Builtin.Int.intBits b : Int) ∧ (Builtin.Int.intBits b : Int) ≤ 200 := by
  obtain ⟨m, rfl⟩ := Int.eq_ofNat_of_zero_le (Int.le_of_lt h0)
  have hm : m ≠ 0 := by rintro rfl; exact absurd h0 (by decide)
  have h2 : m < 2 ^ 200 := by exact_mod_cast h1
  have := (Nat.log2_lt hm).mpr h2
  unfold Builtin.Int.intBits
  rw [if_neg (by simpa using hm)]
  show 1 ≤ ((m.log2 + 1 : Nat) : Int) ∧ ((m.log2 + 1 : Nat) : Int) ≤ 200
  omega
end Mine
end
section
set_option autoImplicit false
namespace Mine
theorem mod_step (x P H b : Int) : ((x % b) * P + H) % b = (x * P + H) % b := by
  rw [Int.add_emod, Int.mul_emod, Int.emod_emod, ← Int.mul_emod, ← Int.add_emod]
theorem div_step {a b B d rr : Int} {ds qs : List Int} (hb : 0 < b) (hB : 0 < B) (i : DivInv a b B (d :: ds) rr qs) : DivInv a b B ds ((rr * B + d).fmod b) (qs ++ [(rr * B + d).fdiv b]) := by
  have hd := i.d d (.head _)
  have h0 := Int.mul_nonneg i.r0 (Int.le_of_lt hB)
  have e1 : (rr * B + d).fmod b = (rr * B + d) % b := Int.fmod_eq_emod_of_nonneg _ (Int.le_of_lt hb)
  have e2 : (rr * B + d).fdiv b = (rr * B + d) / b := Int.fdiv_eq_ediv_of_nonneg _ (Int.le_of_lt hb)
  rw [e1, e2]
  refine ⟨Int.emod_nonneg _ (by omega), Int.emod_lt_of_pos _ hb, fun e he => i.d e (.tail _ he), ?_, ?_, ?_, ?_⟩
  · intro q hq
    rcases List.mem_append.mp hq with hq | hq
    · exact i.q q hq
    · rw [List.mem_singleton.mp hq]
      refine ⟨Int.ediv_nonneg (by omega) (by omega), Int.ediv_lt_of_lt_mul hb ?_⟩
      have h2 : (rr + 1) * B ≤ b * B := Int.mul_le_mul_of_nonneg_right (by have := i.r1; omega) (by omega)
      rw [Int.add_mul, Int.mul_comm b B] at h2
      omega
  · have := i.n; simp at this ⊢; omega
  · simp; omega
  · have he := i.e
    rw [List.reverse_cons, horn_snoc, List.length_reverse, List.length_cons, Int.pow_succ] at he
    rw [mod_step, ← he]
    congr 1
    rw [Int.add_mul, Int.mul_comm (B ^ ds.length) B, ← Int.mul_assoc, Int.mul_comm d]
    omega
theorem div_end {a b B rr : Int} {qs : List Int} (i : DivInv a b B [] rr qs) : rr = a % b := by
  have he := i.e
  simp [horn] at he
  rw [← he]
  exact (Int.emod_eq_of_lt i.r0 i.r1).symm
theorem digs_in (B : Int) (hB : 0 < B) : ∀ (k : Nat) (x : Int), 0 ≤ x → x < B ^ k → ∀ d ∈ digs B x k, 0 ≤ d ∧ d < B
  | 0, _, _, _, d, hd => by simp [digs] at hd
  | 1, x, h0, h1, d, hd => by
    simp [digs] at hd
    subst hd
    rw [Int.pow_succ, Int.pow_zero, Int.one_mul] at h1
    exact ⟨h0, h1⟩
  | k + 2, x, h0, h1, d, hd => by
    simp only [digs, List.mem_cons] at hd
    rcases hd with rfl | hd
    · exact ⟨Int.emod_nonneg _ (by omega), Int.emod_lt_of_pos _ hB⟩
    · refine digs_in B hB (k + 1) (x / B) (Int.ediv_nonneg h0 (by omega)) ?_ d hd
      refine Int.ediv_lt_of_lt_mul hB ?_
      rw [← Int.pow_succ]
      exact h1
theorem digs_horn (B : Int) (hB : 0 < B) : ∀ (k : Nat) (x : Int), 1 ≤ k → horn B (digs B x k) = x
  | 0, _, h => by omega
  | 1, x, _ => by simp [digs, horn]
  | k + 2, x, _ => by
    simp only [digs, horn]
    rw [digs_horn B hB (k + 1) (x / B) (by omega)]
    exact Int.emod_add_mul_ediv x B
theorem ints_rev {vs : List Value} {ns : List Int} (h : IntsAre vs ns) : IntsAre vs.reverse ns.reverse := by
  have app : ∀ {as : List Value} {bs : List Int} {v : List Value} {c : List Int}, IntsAre as bs → IntsAre v c → IntsAre (as ++ v) (bs ++ c) := by
    intro as bs v c h1 h2
    induction h1 with
    | nil => exact h2
    | cons i t _ ih => exact .cons _ _ ih
  induction h with
  | nil => exact .nil
  | cons i t _ ih =>
    rw [List.reverse_cons, List.reverse_cons]
    exact app ih (.cons _ _ .nil)
theorem lt_bits {a : Int} (h : 0 < a) : a < 2 ^ Builtin.Int.intBits a := by
  obtain ⟨m, rfl⟩ := Int.eq_ofNat_of_zero_le (Int.le_of_lt h)
  have hm : m ≠ 0 := by rintro rfl; exact absurd h (by decide)
  unfold Builtin.Int.intBits
  rw [if_neg (by simpa using hm)]
  have := (Nat.log2_lt hm).mp (Nat.lt_succ_self m.log2)
  show (m : Int) < 2 ^ (m.log2 + 1)
  exact_mod_cast this
theorem bits_cnt {a n : Int} (ha : 0 < a) (hn : 0 < n) : a < (2 ^ n.toNat) ^ (((Builtin.Int.intBits a : Int) + n - 1).fdiv n).toNat := by
  refine Int.lt_of_lt_of_le (lt_bits ha) ?_
  rw [← Int.pow_mul]
  have h1 : (Builtin.Int.intBits a : Int) ≤ n * ((Builtin.Int.intBits a : Int) + n - 1).fdiv n := by
    rw [Int.fdiv_eq_ediv_of_nonneg _ (by omega)]
    have h2 := Int.emod_add_mul_ediv ((Builtin.Int.intBits a : Int) + n - 1) n
    have h3 := Int.emod_lt_of_pos ((Builtin.Int.intBits a : Int) + n - 1) hn
    omega
  have h4 : 0 ≤ ((Builtin.Int.intBits a : Int) + n - 1).fdiv n := by
    rw [Int.fdiv_eq_ediv_of_nonneg _ (by omega)]
    exact Int.ediv_nonneg (by omega) (by omega)
  have h5 : Builtin.Int.intBits a ≤ n.toNat * (((Builtin.Int.intBits a : Int) + n - 1).fdiv n).toNat := by
    have : ((n.toNat * (((Builtin.Int.intBits a : Int) + n - 1).fdiv n).toNat : Nat) : Int) = n * ((Builtin.Int.intBits a : Int) + n - 1).fdiv n := by
      push_cast
      rw [Int.toNat_of_nonneg (by omega), Int.toNat_of_nonneg h4]
    omega
  exact_mod_cast Nat.pow_le_pow_right (by decide : 2 > 0) h5
theorem div_init {a b n : Int} (ha : 0 < a) (hb : 0 < b) (hn : 0 < n) (hc : (Builtin.Int.intBits a : Int) ≤ 20 * n) : DivInv a b (2 ^ n.toNat) (digs (2 ^ n.toNat) a (((Builtin.Int.intBits a : Int) + n - 1).fdiv n).toNat).reverse 0 [] := by
  have hB : (0 : Int) < 2 ^ n.toNat := Int.pow_pos (by decide)
  have hcnt := cnt_in ha hn hc
  refine ⟨Int.le_refl _, hb, fun d hd => digs_in _ hB _ a (Int.le_of_lt ha) (bits_cnt ha hn) d (List.mem_reverse.mp hd), (fun d hd => nomatch hd), ?_, ?_, ?_⟩
  · simp [digs_len]; omega
  · simp [digs_len]; omega
  · rw [Int.zero_mul, Int.zero_add, List.reverse_reverse, digs_horn _ hB _ _ (by omega)]
end Mine
end
section
set_option maxRecDepth 100000
set_option maxHeartbeats 8000000
set_option linter.unusedVariables false
set_option autoImplicit false
namespace Mine
theorem S92f (w : World) (a0 b : Int) (t t0 : Tok) (c80 : Addr) : Sp w 92 40 1400 [73, 80] [.int a0 t, .int b t0] (fun h => 0 < a0 ∧ a0 < 2 ^ 4000 ∧ 0 < b ∧ b < 2 ^ 200 ∧ (Builtin.Int.intBits a0 : Int) ≤ 20 * (Builtin.Int.intBits b : Int) ∧ CodeHd h 77 73 ∧ CodeHd h 84 80 ∧ h.get? 80 = some (tabObj #[rawInt 81, rawInt 4, .ref c80]) ∧ c80 ≠ 80 ∧ c80 ≠ 73 ∧ h.CodeRec (.ref c80) (PySem.Str.ofString "_digits2int.<locals>.inner") ∧ h.get? 73 = some (tabObj #[])) (fun h v h'' => ∃ q t1 t2 ct, NewAt h v { cls := .type "tuple", data := .seq #[.int q t1, .int (a0 % b) t2] ct } h'' ∧ MadeCode 73 66 4 (PySem.Str.ofString "_int2digits.<locals>.inner") h h'' ∧ h''.get? 80 = some (tabObj #[rawInt 81, rawInt 4, .ref c80])) := by
  unfold Sp
  k_fill
  k_with_none
  w_top off
  intro dp un gd cn cs a ccd cl outer A₀ base h₀ L m s Q E p loose mean mg mb B F KX T hk hX hpre hdp hun hret
  have N0 : News h₀ L s.heap [(73, tabObj #[]), (80, tabObj #[rawInt 81, rawInt 4, .ref c80])] := by
    obtain ⟨hp1, hp2, hp3, hp4, hp5, hp6, hp7, h80, h80a, h80b, h80c, h73⟩ := hpre
    intro q hq
    rcases List.mem_cons.mp hq with rfl | hq
    · exact ⟨h73, (hX 73 (.head _)).1, (hX 73 (.head _)).2⟩
    · rw [List.mem_singleton.mp hq]
      exact ⟨h80, (hX 80 (.tail _ (.head _))).1, (hX 80 (.tail _ (.head _))).2⟩
  obtain ⟨hp1, hp2, hp3, hp4, hp5, hp6, hp7, h80, h80a, h80b, h80c, h73⟩ := hpre
  refine wpAny_call ?_
  k_dflt (refine' enter0 ?k1 ?k2 ?k3 ?k4 ?k5 ?kA ?kF ?kK ?k6 ?k7 ?k8 ?k9 ?kB ?_ ?c2 ?c3 ?c4 ?c5; (case kA => exact rfl); (case kF => exact rfl); (case kK => exact hk); (case k1 => exact B); (case k2 => exact F); (case k3 => exact KX); (case k4 => exact N0); (case k5 => exact T); (case k6 => k_is); (case k7 => k_is); (case k8 => (first | exact room0 hdp | exact room1 hdp (by decide) | exact room2 hdp (by decide) | exact room3 hdp (by decide) | exact room4 hdp (by decide) | ktr_room)); (case k9 => exact BindsTo.of_eq rfl); (case c5 => decide); (case kB => exact locs rfl); (case c2 => exact rfl); (case c3 => exact rfl); (case c4 => exact rfl); k_whole)
  intro g' L' h' hg F' N' B' X' T'
  try dsimp only
  try k_fold
  have hg2 : StayX [73, 80] s.heap g' := hg
  have C1 := codeHd_stayX hp6 hg2 (by decide)
  have C2 := codeHd_stayX hp7 hg2 (by decide)
  have R80 := codeRec_stayX h80c hg2 (by intro hx; rcases List.mem_cons.mp hx with hx | hx; exact h80b hx; exact h80a (List.mem_singleton.mp hx))
  have hbb := bits_in hp3 hp4
  k_with "call ref" => (refine halt ?_)
  k_steps
  refine ⟨?_⟩
  rename Fr _ _ _ _ => F7
  rename News _ _ _ _ => N7
  refine' use1U (S78f w a0 _ _ _) ?k1 ?k2 ?k3 ?k4 ?kN ?k5 ?k6 ?k7 ?k8 ?k9 ?_
  case k1 => k_asm
  case k2 => k_asm
  case k3 => k_asm
  case k4 => k_asm
  case kN => k_asm
  case k5 => k_updF
  case k6 => first | exact rfl | assumption
  case k7 => exact ⟨hp1, hp2, by omega, by omega, hp5, C1.keeps F7.keep, (N7 _ (.head _)).1⟩
  case k8 => (first | exact room0 hdp | exact room1 hdp (by decide) | exact room2 hdp (by decide) | exact room3 hdp (by decide) | exact room4 hdp (by decide) | ktr_room)
  case k9 => (first | exact room0 hun | exact room1 hun (by decide) | exact room2 hun (by decide) | exact room3 hun (by decide) | exact room4 hun (by decide) | ktr_units)
  clear hp2
  intro v9 h9 tk9 st9 F9 N9 po9
  obtain ⟨⟨vsd, cd, ⟨Dd, rfl, nDd, eDd⟩, Id⟩, c73, oc, n73, e73, co73, tab73⟩ := po9
  obtain ⟨nc1, nc2, -⟩ := allNe_of N7 n73
  obtain ⟨nd1, nd2, -⟩ := allNe_of N7 nDd
  dsimp only at nc1 nc2 nd1 nd2
  have N10 := news_new F7 (news_new F7 (N9 _ tab73) n73 e73) nDd eDd
  clear N9 N7 F7
  try dsimp only at N10
  try dsimp only
  try k_fold
  k_steps
  rename Fr _ _ _ _ => F1
  rename News _ _ _ _ => N1
  refine pick2 N1 (fun I2 lq hb2 e1 e3 e2 => ?_)
  try dsimp only at e2
  subst e1
  subst e3
  subst e2
  rename _ ∧ _ ∧ _ ∧ _ ∧ _ => li
  have ll : Dd < lq ∧ c73 < lq ∧ 73 < lq ∧ 80 < lq := by assumption
  obtain ⟨mm, hmm, F2⟩ := fr_ex F1
  clear F1
  refine iter_revUnr (lo := W.listOf vsd.toArray cd) (n := cd) rfl F2 N1 (offI_of (List.forall_mem_cons.mpr ⟨Nat.ne_of_lt li.1, List.forall_mem_cons.mpr ⟨Nat.ne_of_lt li.2.1, List.forall_mem_cons.mpr ⟨Nat.ne_of_lt li.2.2.1, List.forall_mem_cons.mpr ⟨Nat.ne_of_lt li.2.2.2.1, List.forall_mem_cons.mpr ⟨Nat.ne_of_lt li.2.2.2.2, List.forall_mem_nil _⟩⟩⟩⟩⟩)) (.tail _ (.head _)) rfl rfl (revRest_of (fun rest m₁ nx => ∃ ds rr tr u1 u2 vq cq qs, IntsAre rest ds ∧ (m₁ = fun y => if y = PySem.Str.ofString "r" then some (.int rr tr) else if y = PySem.Str.ofString "q_digit" then u1 else if y = PySem.Str.ofString "a_digit" then u2 else mm y) ∧ nx = [(lq, W.listOf (List.toArray vq) cq), (Dd, W.listOf vsd.toArray cd), (c73, oc), (73, tabObj #[rawInt 66, rawInt 4, .ref c73]), (80, tabObj #[rawInt 81, rawInt 4, .ref c80])] ∧ IntsAre vq qs ∧ DivInv a0 b (2 ^ (Builtin.Int.intBits b : Int).toNat) ds rr qs) ?turn ?done vsd.reverse _ _ ?init)
  case init =>
    obtain ⟨tr0, htr⟩ : ∃ tr0, mm (PySem.Str.ofString "r") = some (.int 0 tr0) := by
      subst hmm
      exact ⟨_, rfl⟩
    refine ⟨_, 0, tr0, mm (PySem.Str.ofString "q_digit"), mm (PySem.Str.ofString "a_digit"), [], 0, [], ints_rev Id, ?_, rfl, .nil, div_init hp1 hp3 (by omega) hp5⟩
    funext y
    by_cases h1 : y = PySem.Str.ofString "r"
    · rw [if_pos h1, h1, htr]
    · rw [if_neg h1]
      by_cases h2 : y = PySem.Str.ofString "q_digit"
      · rw [if_pos h2, h2]
      · rw [if_neg h2]
        by_cases h3 : y = PySem.Str.ofString "a_digit"
        · rw [if_pos h3, h3]
        · rw [if_neg h3]
  case done =>
    rintro m₁ nx h5 tk5 ⟨ds, rr, tr, u1, u2, vq, cq, qs, i1, rfl, rfl, i2, inv⟩ F6 N6
    try dsimp only at F6 N6
    try dsimp only
    subst hmm
    cases i1
    have hrr := div_end inv
    have hq1 := inv.n
    have hq2 := inv.n1
    have hq3 := inv.q
    simp only [List.length_nil, Nat.add_zero] at hq1 hq2
    have hvq : vq.length ≤ 20 := by have := i2.length; omega
    have hvq2 : vq.toArray.size ≤ 20 := by simpa using hvq
    k_with_none
    k_with "call ref" => (refine halt ?_)
    k_with "call builtin:list.reverse" => (refine halt ?_)
    k_steps
    refine ⟨?_⟩
    rename Fr _ _ _ _ => F7
    rename News _ _ _ _ => N7
    refine' kl_reverse (its := vq.toArray) (l := vq.reverse) F7 N7 (by simp) ?U ?z ?_
    case U => k_upd
    case z => rw [sizeLine_eq]; simp; omega
    intro h8 F8 N8
    clear F7 N7
    try dsimp only
    try k_fold
    k_steps
    refine ⟨?_⟩
    rename Fr _ _ _ _ => F7
    rename News _ _ _ _ => N7
    refine' use1U (S85h w lq cq vq.reverse qs.reverse (Builtin.Int.intBits b : Int) _ c80) ?k1 ?k2 ?k3 ?k4 ?kN ?k5 ?k6 ?k7 ?k8 ?k9 ?_
    case k1 => k_asm
    case k2 => k_asm
    case k3 => k_asm
    case k4 => k_asm
    case kN => k_asm
    case k5 => k_updF
    case k6 => first | exact rfl | assumption
    case k7 => exact ⟨(N7 _ (.head _)).1, ints_rev i2, by rw [List.length_reverse]; exact hq1, by rw [List.length_reverse]; exact hq2, by omega, by omega, Nat.ne_of_gt ll.2.2.2, C2.keeps F7.keep, fun d hd => hq3 d (List.mem_reverse.mp hd), (N7 _ (.tail _ (.tail _ (.tail _ (.tail _ (.head _)))))).1, h80a, R80.keeps F7.keep⟩
    case k8 => (first | exact room0 hdp | exact room1 hdp (by decide) | exact room2 hdp (by decide) | exact room3 hdp (by decide) | exact room4 hdp (by decide) | ktr_room)
    case k9 => (first | exact room0 hun | exact room1 hun (by decide) | exact room2 hun (by decide) | exact room3 hun (by decide) | exact room4 hun (by decide) | ktr_units)
    intro v9 h9 tk9 st9 F9 N9 po9
    obtain ⟨⟨t9, rfl⟩, tab80⟩ := po9
    have N10 := N9 _ tab80
    clear N9 N7 F7
    try dsimp only at N10
    try dsimp only
    try k_fold
    k_steps
    rename News g' _ _ _ => N12
    rename _ ∧ _ ∧ _ ∧ _ ∧ _ => lt5
    refine hret _ _ _ (fun b o hb2 e => Fr.keep (h₀ := g') (by assumption) b o (hg b o hb2 e)) ⟨_, _, tr, _, newAt_of hg2 (by intro hx; rcases List.mem_cons.mp hx with hx | hx; exact Nat.ne_of_gt lt5.2.2.2.1 hx; exact Nat.ne_of_gt lt5.2.2.2.2 (List.mem_singleton.mp hx)) N12 (by rw [← hrr]; exact .head _), ⟨c73, oc, fresh_of hg2 (by intro hx; rcases List.mem_cons.mp hx with hx | hx; exact nc1 hx.symm; exact nc2 (List.mem_singleton.mp hx).symm) N12 (.tail _ (.tail _ (.tail _ (.head _)))), (N12 _ (.tail _ (.tail _ (.tail _ (.head _))))).1, co73, (N12 _ (.tail _ (.tail _ (.tail _ (.tail _ (.head _)))))).1⟩, (N12 _ (.tail _ (.tail _ (.tail _ (.tail _ (.tail _ (.head _))))))).1⟩
  case turn =>
    rintro v r m₁ nx it h5 tk5 ⟨ds, rr, tr, u1, u2, vq, cq, qs, i1, rfl, rfl, i2, inv⟩ F6 N6
    try dsimp only at F6 N6
    try dsimp only
    subst hmm
    cases i1
    rename IntsAre r _ => i1
    rename_i d td ds2
    obtain ⟨hx0, hx1⟩ := step_in hp3 hp4 hbb.1 hbb.2 inv.r0 inv.r1 (inv.d _ (.head _)).1 (inv.d _ (.head _)).2
    have hr4 : rr < 2 ^ 4000 := Int.lt_trans (Int.lt_trans inv.r1 hp4) pow_up
    have hr0 := inv.r0
    k_with_none
    k_with "binaryOp LShift int int" => (refine lshift_int (by omega) (by have := bits_4000 hr0 hr4; omega) ?_)
    k_with "call ref" => (refine halt ?_)
    k_steps
    refine ⟨?_⟩
    rename Fr _ _ _ _ => F7
    rename News _ _ _ _ => N7
    refine' use0 (S64 w _ _ _ _ _ _) ?k1 ?k2 ?k3 ?k4 ?k5 ?k6 ?k7 ?k8 ?k9 ?_
    case k1 => k_asm
    case k2 => k_asm
    case k3 => k_asm
    case k4 => k_asm
    case k5 => k_asm
    case k6 => first | exact rfl | assumption
    case k7 => exact ⟨hx0, hp3, hp4, by have := bits_4000 hx0 hx1; omega⟩
    case k8 => (first | exact room0 hdp | exact room1 hdp (by decide) | exact room2 hdp (by decide) | exact room3 hdp (by decide) | exact room4 hdp (by decide) | ktr_room)
    case k9 => (first | exact room0 hun | exact room1 hun (by decide) | exact room2 hun (by decide) | exact room3 hun (by decide) | exact room4 hun (by decide) | ktr_units)
    clear hr4 hx1
    intro v9 h9 tk9 st9 F9 N9 po9
    obtain ⟨t1, t2, ct, D3, rfl, n3, e3⟩ := po9
    have N10 := news_new F7 N9 n3 e3
    obtain ⟨nn1, nn2, nn3, nn4, nn5, nn6, -⟩ := allNe_of N7 n3
    dsimp only at nn1 nn2 nn3 nn4 nn5 nn6
    have hvq : vq.length ≤ 20 := by have := i2.length; have := inv.n; omega
    have hvq2 : vq.toArray.size ≤ 20 := by simpa using hvq
    clear N9 F7 N7
    try dsimp only
    try k_fold
    k_steps
    rename Fr _ _ _ _ => F8
    rename News _ _ _ _ => N8
    refine turn_end (I := I2) (o := it) F8 (fun q hq => N8 q (.tail _ hq)) (List.forall_mem_cons.mpr ⟨Nat.ne_of_lt li.1, List.forall_mem_cons.mpr ⟨Nat.ne_of_lt li.2.1, List.forall_mem_cons.mpr ⟨Nat.ne_of_lt li.2.2.1, List.forall_mem_cons.mpr ⟨Nat.ne_of_lt li.2.2.2.1, List.forall_mem_cons.mpr ⟨Nat.ne_of_lt li.2.2.2.2, List.forall_mem_nil _⟩⟩⟩⟩⟩) ⟨.tail _ (.head _), ds2, (rr * 2 ^ (Builtin.Int.intBits b : Int).toNat + d).fmod b, t2, some (.int ((rr * 2 ^ (Builtin.Int.intBits b : Int).toNat + d).fdiv b) t1), some (.int d td), vq ++ [.int ((rr * 2 ^ (Builtin.Int.intBits b : Int).toNat + d).fdiv b) t1], cq + 1, qs ++ [(rr * 2 ^ (Builtin.Int.intBits b : Int).toNat + d).fdiv b], i1, ?_, ?_, ints_snoc i2 _ t1, div_step hp3 (Int.pow_pos (by decide)) inv⟩
    · funext y
      by_cases h1 : y = PySem.Str.ofString "r"
      · exact (if_pos h1).trans (if_pos h1).symm
      · refine (if_neg h1).trans (Eq.trans ?_ (if_neg h1).symm)
        by_cases h2 : y = PySem.Str.ofString "q_digit"
        · exact (if_pos h2).trans (if_pos h2).symm
        · refine (if_neg h2).trans (Eq.trans ?_ (if_neg h2).symm)
          by_cases h3 : y = PySem.Str.ofString "a_digit"
          · exact (if_pos h3).trans (if_pos h3).symm
          · refine (if_neg h3).trans (Eq.trans ?_ (if_neg h3).symm)
            exact (if_neg h1).trans ((if_neg h2).trans (if_neg h3))
    · congr 2
      exact congrArg (fun z => W.listOf z (cq + 1)) (List.push_toArray vq _)
end Mine
end
section
set_option maxRecDepth 100000
set_option maxHeartbeats 8000000
set_option linter.unusedVariables false
set_option autoImplicit false
namespace Mine
theorem S92h (w : World) (a0 b : Int) (t t0 : Tok) (c80 : Addr) (c73 : Addr) : Sp w 92 40 1400 [73, 80] [.int a0 t, .int b t0] (fun h => 0 < a0 ∧ a0 < 2 ^ 4000 ∧ 0 < b ∧ b < 2 ^ 200 ∧ (Builtin.Int.intBits a0 : Int) ≤ 20 * (Builtin.Int.intBits b : Int) ∧ CodeHd h 77 73 ∧ CodeHd h 84 80 ∧ h.get? 80 = some (tabObj #[rawInt 81, rawInt 4, .ref c80]) ∧ c80 ≠ 80 ∧ c80 ≠ 73 ∧ h.CodeRec (.ref c80) (PySem.Str.ofString "_digits2int.<locals>.inner") ∧ h.get? 73 = some (tabObj #[rawInt 66, rawInt 4, .ref c73]) ∧ c73 ≠ 73 ∧ c73 ≠ 80 ∧ h.CodeRec (.ref c73) (PySem.Str.ofString "_int2digits.<locals>.inner")) (fun h v h'' => ∃ q t1 t2 ct, NewAt h v { cls := .type "tuple", data := .seq #[.int q t1, .int (a0 % b) t2] ct } h'' ∧ h''.get? 73 = some (tabObj #[rawInt 66, rawInt 4, .ref c73]) ∧ h''.get? 80 = some (tabObj #[rawInt 81, rawInt 4, .ref c80])) := by
  unfold Sp
  k_fill
  k_with_none
  w_top off
  intro dp un gd cn cs a ccd cl outer A₀ base h₀ L m s Q E p loose mean mg mb B F KX T hk hX hpre hdp hun hret
  have N0 : News h₀ L s.heap [(73, tabObj #[rawInt 66, rawInt 4, .ref c73]), (80, tabObj #[rawInt 81, rawInt 4, .ref c80])] := by
    obtain ⟨hp1, hp2, hp3, hp4, hp5, hp6, hp7, h80, h80a, h80b, h80c, h73, h73a, h73b, h73c⟩ := hpre
    intro q hq
    rcases List.mem_cons.mp hq with rfl | hq
    · exact ⟨h73, (hX 73 (.head _)).1, (hX 73 (.head _)).2⟩
    · rw [List.mem_singleton.mp hq]
      exact ⟨h80, (hX 80 (.tail _ (.head _))).1, (hX 80 (.tail _ (.head _))).2⟩
  obtain ⟨hp1, hp2, hp3, hp4, hp5, hp6, hp7, h80, h80a, h80b, h80c, h73, h73a, h73b, h73c⟩ := hpre
  refine wpAny_call ?_
  k_dflt (refine' enter0 ?k1 ?k2 ?k3 ?k4 ?k5 ?kA ?kF ?kK ?k6 ?k7 ?k8 ?k9 ?kB ?_ ?c2 ?c3 ?c4 ?c5; (case kA => exact rfl); (case kF => exact rfl); (case kK => exact hk); (case k1 => exact B); (case k2 => exact F); (case k3 => exact KX); (case k4 => exact N0); (case k5 => exact T); (case k6 => k_is); (case k7 => k_is); (case k8 => (first | exact room0 hdp | exact room1 hdp (by decide) | exact room2 hdp (by decide) | exact room3 hdp (by decide) | exact room4 hdp (by decide) | ktr_room)); (case k9 => exact BindsTo.of_eq rfl); (case c5 => decide); (case kB => exact locs rfl); (case c2 => exact rfl); (case c3 => exact rfl); (case c4 => exact rfl); k_whole)
  intro g' L' h' hg F' N' B' X' T'
  try dsimp only
  try k_fold
  have hg2 : StayX [73, 80] s.heap g' := hg
  have C1 := codeHd_stayX hp6 hg2 (by decide)
  have C2 := codeHd_stayX hp7 hg2 (by decide)
  have R80 := codeRec_stayX h80c hg2 (by intro hx; rcases List.mem_cons.mp hx with hx | hx; exact h80b hx; exact h80a (List.mem_singleton.mp hx))
  have R73 := codeRec_stayX h73c hg2 (by intro hx; rcases List.mem_cons.mp hx with hx | hx; exact h73a hx; exact h73b (List.mem_singleton.mp hx))
  have hbb := bits_in hp3 hp4
  k_with "call ref" => (refine halt ?_)
  k_steps
  refine ⟨?_⟩
  rename Fr _ _ _ _ => F7
  rename News _ _ _ _ => N7
  refine' use1U (S78h w a0 _ _ _ c73) ?k1 ?k2 ?k3 ?k4 ?kN ?k5 ?k6 ?k7 ?k8 ?k9 ?_
  case k1 => k_asm
  case k2 => k_asm
  case k3 => k_asm
  case k4 => k_asm
  case kN => k_asm
  case k5 => k_updF
  case k6 => first | exact rfl | assumption
  case k7 => exact ⟨hp1, hp2, by omega, by omega, hp5, C1.keeps F7.keep, (N7 _ (.head _)).1, h73a, R73.keeps F7.keep⟩
  case k8 => (first | exact room0 hdp | exact room1 hdp (by decide) | exact room2 hdp (by decide) | exact room3 hdp (by decide) | exact room4 hdp (by decide) | ktr_room)
  case k9 => (first | exact room0 hun | exact room1 hun (by decide) | exact room2 hun (by decide) | exact room3 hun (by decide) | exact room4 hun (by decide) | ktr_units)
  clear hp2
  intro v9 h9 tk9 st9 F9 N9 po9
  obtain ⟨⟨vsd, cd, ⟨Dd, rfl, nDd, eDd⟩, Id⟩, tab73⟩ := po9
  obtain ⟨nd1, nd2, -⟩ := allNe_of N7 nDd
  dsimp only at nd1 nd2
  have N10 := news_new F7 (N9 _ tab73) nDd eDd
  clear N9 N7 F7
  try dsimp only at N10
  try dsimp only
  try k_fold
  k_steps
  rename Fr _ _ _ _ => F1
  rename News _ _ _ _ => N1
  refine pick2 N1 (fun I2 lq hb2 e1 e3 e2 => ?_)
  try dsimp only at e2
  subst e1
  subst e3
  subst e2
  rename _ ∧ _ ∧ _ ∧ _ => li
  have ll : Dd < lq ∧ 73 < lq ∧ 80 < lq := by assumption
  obtain ⟨mm, hmm, F2⟩ := fr_ex F1
  clear F1
  refine iter_revUnr (lo := W.listOf vsd.toArray cd) (n := cd) rfl F2 N1 (offI_of (List.forall_mem_cons.mpr ⟨Nat.ne_of_lt li.1, List.forall_mem_cons.mpr ⟨Nat.ne_of_lt li.2.1, List.forall_mem_cons.mpr ⟨Nat.ne_of_lt li.2.2.1, List.forall_mem_cons.mpr ⟨Nat.ne_of_lt li.2.2.2, List.forall_mem_nil _⟩⟩⟩⟩)) (.tail _ (.head _)) rfl rfl (revRest_of (fun rest m₁ nx => ∃ ds rr tr u1 u2 vq cq qs, IntsAre rest ds ∧ (m₁ = fun y => if y = PySem.Str.ofString "r" then some (.int rr tr) else if y = PySem.Str.ofString "q_digit" then u1 else if y = PySem.Str.ofString "a_digit" then u2 else mm y) ∧ nx = [(lq, W.listOf (List.toArray vq) cq), (Dd, W.listOf vsd.toArray cd), (73, tabObj #[rawInt 66, rawInt 4, .ref c73]), (80, tabObj #[rawInt 81, rawInt 4, .ref c80])] ∧ IntsAre vq qs ∧ DivInv a0 b (2 ^ (Builtin.Int.intBits b : Int).toNat) ds rr qs) ?turn ?done vsd.reverse _ _ ?init)
  case init =>
    obtain ⟨tr0, htr⟩ : ∃ tr0, mm (PySem.Str.ofString "r") = some (.int 0 tr0) := by
      subst hmm
      exact ⟨_, rfl⟩
    refine ⟨_, 0, tr0, mm (PySem.Str.ofString "q_digit"), mm (PySem.Str.ofString "a_digit"), [], 0, [], ints_rev Id, ?_, rfl, .nil, div_init hp1 hp3 (by omega) hp5⟩
    funext y
    by_cases h1 : y = PySem.Str.ofString "r"
    · rw [if_pos h1, h1, htr]
    · rw [if_neg h1]
      by_cases h2 : y = PySem.Str.ofString "q_digit"
      · rw [if_pos h2, h2]
      · rw [if_neg h2]
        by_cases h3 : y = PySem.Str.ofString "a_digit"
        · rw [if_pos h3, h3]
        · rw [if_neg h3]
  case done =>
    rintro m₁ nx h5 tk5 ⟨ds, rr, tr, u1, u2, vq, cq, qs, i1, rfl, rfl, i2, inv⟩ F6 N6
    try dsimp only at F6 N6
    try dsimp only
    subst hmm
    cases i1
    have hrr := div_end inv
    have hq1 := inv.n
    have hq2 := inv.n1
    have hq3 := inv.q
    simp only [List.length_nil, Nat.add_zero] at hq1 hq2
    have hvq : vq.length ≤ 20 := by have := i2.length; omega
    have hvq2 : vq.toArray.size ≤ 20 := by simpa using hvq
    k_with_none
    k_with "call ref" => (refine halt ?_)
    k_with "call builtin:list.reverse" => (refine halt ?_)
    k_steps
    refine ⟨?_⟩
    rename Fr _ _ _ _ => F7
    rename News _ _ _ _ => N7
    refine' kl_reverse (its := vq.toArray) (l := vq.reverse) F7 N7 (by simp) ?U ?z ?_
    case U => k_upd
    case z => rw [sizeLine_eq]; simp; omega
    intro h8 F8 N8
    clear F7 N7
    try dsimp only
    try k_fold
    k_steps
    refine ⟨?_⟩
    rename Fr _ _ _ _ => F7
    rename News _ _ _ _ => N7
    refine' use1U (S85h w lq cq vq.reverse qs.reverse (Builtin.Int.intBits b : Int) _ c80) ?k1 ?k2 ?k3 ?k4 ?kN ?k5 ?k6 ?k7 ?k8 ?k9 ?_
    case k1 => k_asm
    case k2 => k_asm
    case k3 => k_asm
    case k4 => k_asm
    case kN => k_asm
    case k5 => k_updF
    case k6 => first | exact rfl | assumption
    case k7 => exact ⟨(N7 _ (.head _)).1, ints_rev i2, by rw [List.length_reverse]; exact hq1, by rw [List.length_reverse]; exact hq2, by omega, by omega, Nat.ne_of_gt ll.2.2, C2.keeps F7.keep, fun d hd => hq3 d (List.mem_reverse.mp hd), (N7 _ (.tail _ (.tail _ (.tail _ (.head _))))).1, h80a, R80.keeps F7.keep⟩
    case k8 => (first | exact room0 hdp | exact room1 hdp (by decide) | exact room2 hdp (by decide) | exact room3 hdp (by decide) | exact room4 hdp (by decide) | ktr_room)
    case k9 => (first | exact room0 hun | exact room1 hun (by decide) | exact room2 hun (by decide) | exact room3 hun (by decide) | exact room4 hun (by decide) | ktr_units)
    intro v9 h9 tk9 st9 F9 N9 po9
    obtain ⟨⟨t9, rfl⟩, tab80⟩ := po9
    have N10 := N9 _ tab80
    clear N9 N7 F7
    try dsimp only at N10
    try dsimp only
    try k_fold
    k_steps
    rename News g' _ _ _ => N12
    rename _ ∧ _ ∧ _ ∧ _ => lt5
    refine hret _ _ _ (fun b o hb2 e => Fr.keep (h₀ := g') (by assumption) b o (hg b o hb2 e)) ⟨_, _, tr, _, newAt_of hg2 (by intro hx; rcases List.mem_cons.mp hx with hx | hx; exact Nat.ne_of_gt lt5.2.2.1 hx; exact Nat.ne_of_gt lt5.2.2.2 (List.mem_singleton.mp hx)) N12 (by rw [← hrr]; exact .head _), (N12 _ (.tail _ (.tail _ (.tail _ (.head _))))).1, (N12 _ (.tail _ (.tail _ (.tail _ (.tail _ (.head _)))))).1⟩
  case turn =>
    rintro v r m₁ nx it h5 tk5 ⟨ds, rr, tr, u1, u2, vq, cq, qs, i1, rfl, rfl, i2, inv⟩ F6 N6
    try dsimp only at F6 N6
    try dsimp only
    subst hmm
    cases i1
    rename IntsAre r _ => i1
    rename_i d td ds2
    obtain ⟨hx0, hx1⟩ := step_in hp3 hp4 hbb.1 hbb.2 inv.r0 inv.r1 (inv.d _ (.head _)).1 (inv.d _ (.head _)).2
    have hr4 : rr < 2 ^ 4000 := Int.lt_trans (Int.lt_trans inv.r1 hp4) pow_up
    have hr0 := inv.r0
    k_with_none
    k_with "binaryOp LShift int int" => (refine lshift_int (by omega) (by have := bits_4000 hr0 hr4; omega) ?_)
    k_with "call ref" => (refine halt ?_)
    k_steps
    refine ⟨?_⟩
    rename Fr _ _ _ _ => F7
    rename News _ _ _ _ => N7
    refine' use0 (S64 w _ _ _ _ _ _) ?k1 ?k2 ?k3 ?k4 ?k5 ?k6 ?k7 ?k8 ?k9 ?_
    case k1 => k_asm
    case k2 => k_asm
    case k3 => k_asm
    case k4 => k_asm
    case k5 => k_asm
    case k6 => first | exact rfl | assumption
    case k7 => exact ⟨hx0, hp3, hp4, by have := bits_4000 hx0 hx1; omega⟩
    case k8 => (first | exact room0 hdp | exact room1 hdp (by decide) | exact room2 hdp (by decide) | exact room3 hdp (by decide) | exact room4 hdp (by decide) | ktr_room)
    case k9 => (first | exact room0 hun | exact room1 hun (by decide) | exact room2 hun (by decide) | exact room3 hun (by decide) | exact room4 hun (by decide) | ktr_units)
    clear hr4 hx1
    intro v9 h9 tk9 st9 F9 N9 po9
    obtain ⟨t1, t2, ct, D3, rfl, n3, e3⟩ := po9
    have N10 := news_new F7 N9 n3 e3
    obtain ⟨nn1, nn2, nn3, nn4, nn5, -⟩ := allNe_of N7 n3
    dsimp only at nn1 nn2 nn3 nn4 nn5
    have hvq : vq.length ≤ 20 := by have := i2.length; have := inv.n; omega
    have hvq2 : vq.toArray.size ≤ 20 := by simpa using hvq
    clear N9 F7 N7
    try dsimp only
    try k_fold
    k_steps
    rename Fr _ _ _ _ => F8
    rename News _ _ _ _ => N8
    refine turn_end (I := I2) (o := it) F8 (fun q hq => N8 q (.tail _ hq)) (List.forall_mem_cons.mpr ⟨Nat.ne_of_lt li.1, List.forall_mem_cons.mpr ⟨Nat.ne_of_lt li.2.1, List.forall_mem_cons.mpr ⟨Nat.ne_of_lt li.2.2.1, List.forall_mem_cons.mpr ⟨Nat.ne_of_lt li.2.2.2, List.forall_mem_nil _⟩⟩⟩⟩) ⟨.tail _ (.head _), ds2, (rr * 2 ^ (Builtin.Int.intBits b : Int).toNat + d).fmod b, t2, some (.int ((rr * 2 ^ (Builtin.Int.intBits b : Int).toNat + d).fdiv b) t1), some (.int d td), vq ++ [.int ((rr * 2 ^ (Builtin.Int.intBits b : Int).toNat + d).fdiv b) t1], cq + 1, qs ++ [(rr * 2 ^ (Builtin.Int.intBits b : Int).toNat + d).fdiv b], i1, ?_, ?_, ints_snoc i2 _ t1, div_step hp3 (Int.pow_pos (by decide)) inv⟩
    · funext y
      by_cases h1 : y = PySem.Str.ofString "r"
      · exact (if_pos h1).trans (if_pos h1).symm
      · refine (if_neg h1).trans (Eq.trans ?_ (if_neg h1).symm)
        by_cases h2 : y = PySem.Str.ofString "q_digit"
        · exact (if_pos h2).trans (if_pos h2).symm
        · refine (if_neg h2).trans (Eq.trans ?_ (if_neg h2).symm)
          by_cases h3 : y = PySem.Str.ofString "a_digit"
          · exact (if_pos h3).trans (if_pos h3).symm
          · refine (if_neg h3).trans (Eq.trans ?_ (if_neg h3).symm)
            exact (if_neg h1).trans ((if_neg h2).trans (if_neg h3))
    · congr 2
      exact congrArg (fun z => W.listOf z (cq + 1)) (List.push_toArray vq _)
end Mine
end
section
set_option maxRecDepth 100000
set_option maxHeartbeats 8000000
set_option linter.unusedVariables false
set_option autoImplicit false
namespace Mine

theorem back_none {h g h' : Heap} (hg : StayX [73, 80] h g) (k : ∀ b o, g.get? b = some o → h'.get? b = some o) (o73 : ∃ o, h'.get? 73 = some o) (o80 : ∃ o, h'.get? 80 = some o) : ∀ D, h'.get? D = none → h.get? D = none := fun D n => by
  cases e : h.get? D with
  | none => rfl
  | some o =>
    by_cases h1 : D ∈ [73, 80]
    · rcases List.mem_cons.mp h1 with rfl | h1
      · obtain ⟨_, e1⟩ := o73
        rw [e1] at n; cases n
      · obtain ⟨_, e1⟩ := o80
        rw [List.mem_singleton.mp h1, e1] at n; cases n
    · have := k _ _ (hg _ _ h1 e)
      rw [this] at n; cases n
section
variable {w : World} {f : Addr} {d u : Nat} {X : List Addr} {vs : List Value} {Pre : Heap → Prop} {Post : Heap → Value → Heap → Prop} {dp un : Nat} {gd : Option (List Code)} {cn : PySem.Str} {cs : Scope} {a : Addr} {ccd : Value} {cl : List (PySem.Str × Addr)} {outer : List Env} {A₀ : Around} {base h₀ : Heap} {L : Addr} {m : PySem.Str → Option Value} {s : Shared} {Q : Value → Shared → Prop} {E : Value → Shared → Prop}
    {p : Program} {loose : List PySem.Str} {mean : ExcName → Option Value} {mg mb : PySem.Str → Option Value}
theorem useX (S : Sp w f d u X vs Pre Post) (B : Below A₀ base outer h₀) (F : Fr h₀ L s.heap m) (KX : Frag.In (hd.heap_39 w.params) h₀) (T : Top p loose mean mg mb h₀) (hk : cs.kind = .function) (hX : ∀ x ∈ X, x ≠ L ∧ h₀.get? x = none) (hp : Pre s.heap) (h1 : dp + d < recursionLimit) (h2 : un + u < cLine)
    (h : ∀ v h' tk', StayX X s.heap h' → Fr h₀ L h' m → Post s.heap v h' → Q v { s with heap := h', toks := tk' }) :
    wpAny (model PySem.Challenge.rw_zo0035_01.row.prog w) (ktrTop dp un gd cn cs L a ccd cl outer) (call (.ref f) vs) Q E s :=
  S dp un gd cn cs a ccd cl outer A₀ base h₀ L m s Q E p loose mean mg mb B F KX T hk hX hp h1 h2 fun v h' tk' st po => h v h' tk' st (fr_stay F hX st) po
end
end Mine
end
section
set_option maxRecDepth 100000
set_option maxHeartbeats 8000000
set_option linter.unusedVariables false
set_option autoImplicit false
namespace Mine
theorem S99h (w : World) (a0 b : Int) (t t0 : Tok) (c80 : Addr) (c73 : Addr) : Sp w 99 50 1600 [73, 80] [.int a0 t, .int b t0] (fun h => 0 < a0 ∧ a0 < 2 ^ 4000 ∧ 0 < b ∧ b < 2 ^ 200 ∧ (Builtin.Int.intBits a0 : Int) ≤ 20 * (Builtin.Int.intBits b : Int) ∧ CodeHd h 77 73 ∧ CodeHd h 84 80 ∧ h.get? 80 = some (tabObj #[rawInt 81, rawInt 4, .ref c80]) ∧ c80 ≠ 80 ∧ c80 ≠ 73 ∧ h.CodeRec (.ref c80) (PySem.Str.ofString "_digits2int.<locals>.inner") ∧ h.get? 73 = some (tabObj #[rawInt 66, rawInt 4, .ref c73]) ∧ c73 ≠ 73 ∧ c73 ≠ 80 ∧ h.CodeRec (.ref c73) (PySem.Str.ofString "_int2digits.<locals>.inner")) (fun h v h'' => ∃ q t1 t2 ct, NewAt h v { cls := .type "tuple", data := .seq #[.int q t1, .int (a0 % b) t2] ct } h'' ∧ h''.get? 73 = some (tabObj #[rawInt 66, rawInt 4, .ref c73]) ∧ h''.get? 80 = some (tabObj #[rawInt 81, rawInt 4, .ref c80])) := by
  unfold Sp
  k_fill
  k_with_none
  w_top off
  intro dp un gd cn cs a ccd cl outer A₀ base h₀ L m s Q E p loose mean mg mb B F KX T hk hX hpre hdp hun hret
  have N0 : News h₀ L s.heap [(73, tabObj #[rawInt 66, rawInt 4, .ref c73]), (80, tabObj #[rawInt 81, rawInt 4, .ref c80])] := by
    obtain ⟨hp1, hp2, hp3, hp4, hp5, hp6, hp7, h80, h80a, h80b, h80c, h73, h73a, h73b, h73c⟩ := hpre
    intro q hq
    rcases List.mem_cons.mp hq with rfl | hq
    · exact ⟨h73, (hX 73 (.head _)).1, (hX 73 (.head _)).2⟩
    · rw [List.mem_singleton.mp hq]
      exact ⟨h80, (hX 80 (.tail _ (.head _))).1, (hX 80 (.tail _ (.head _))).2⟩
  obtain ⟨hp1, hp2, hp3, hp4, hp5, hp6, hp7, h80, h80a, h80b, h80c, h73, h73a, h73b, h73c⟩ := hpre
  refine wpAny_call ?_
  k_dflt (refine' enter0 ?k1 ?k2 ?k3 ?k4 ?k5 ?kA ?kF ?kK ?k6 ?k7 ?k8 ?k9 ?kB ?_ ?c2 ?c3 ?c4 ?c5; (case kA => exact rfl); (case kF => exact rfl); (case kK => exact hk); (case k1 => exact B); (case k2 => exact F); (case k3 => exact KX); (case k4 => exact N0); (case k5 => exact T); (case k6 => k_is); (case k7 => k_is); (case k8 => (first | exact room0 hdp | exact room1 hdp (by decide) | exact room2 hdp (by decide) | exact room3 hdp (by decide) | exact room4 hdp (by decide) | ktr_room)); (case k9 => exact BindsTo.of_eq rfl); (case c5 => decide); (case kB => exact locs rfl); (case c2 => exact rfl); (case c3 => exact rfl); (case c4 => exact rfl); k_whole)
  intro g' L' h' hg F' N' B' X' T'
  try dsimp only
  try k_fold
  have hg2 : StayX [73, 80] s.heap g' := hg
  have C1 := codeHd_stayX hp6 hg2 (by decide)
  have C2 := codeHd_stayX hp7 hg2 (by decide)
  have R80 := codeRec_stayX h80c hg2 (by intro hx; rcases List.mem_cons.mp hx with hx | hx; exact h80b hx; exact h80a (List.mem_singleton.mp hx))
  have R73 := codeRec_stayX h73c hg2 (by intro hx; rcases List.mem_cons.mp hx with hx | hx; exact h73a hx; exact h73b (List.mem_singleton.mp hx))
  k_with "call ref" => (refine halt ?_)
  k_steps
  · exfalso; omega
  refine ⟨?_⟩
  rename Fr _ _ _ _ => F7
  rename News _ _ _ _ => N7
  have hX7 : ∀ x ∈ [73, 80], x ≠ L' ∧ g'.get? x = none := fun x hx => by
    rcases List.mem_cons.mp hx with rfl | hx
    · exact (N7 _ (.head _)).2
    · rw [List.mem_singleton.mp hx]
      exact (N7 _ (.tail _ (.head _))).2
  refine' useX (S92h w a0 b _ _ c80 c73) ?k1 ?k2 ?k3 ?k4 ?k6 hX7 ?k7 ?k8 ?k9 ?_
  case k1 => k_asm
  case k2 => k_asm
  case k3 => k_asm
  case k4 => k_asm
  case k6 => first | exact rfl | assumption
  case k7 => exact ⟨hp1, hp2, hp3, hp4, hp5, C1.keeps F7.keep, C2.keeps F7.keep, (N7 _ (.tail _ (.head _))).1, h80a, h80b, R80.keeps F7.keep, (N7 _ (.head _)).1, h73a, h73b, R73.keeps F7.keep⟩
  case k8 => (first | exact room0 hdp | exact room1 hdp (by decide) | exact room2 hdp (by decide) | exact room3 hdp (by decide) | exact room4 hdp (by decide) | ktr_room)
  case k9 => (first | exact room0 hun | exact room1 hun (by decide) | exact room2 hun (by decide) | exact room3 hun (by decide) | exact room4 hun (by decide) | ktr_units)
  intro v9 h9 tk9 st9 F9 po9
  obtain ⟨q, t1, t2, ct, ⟨D, rfl, nD, eD⟩, po73, po80⟩ := po9
  have nb := back_none hg2 F7.keep ⟨_, (N7 _ (.head _)).1⟩ ⟨_, (N7 _ (.tail _ (.head _))).1⟩
  have nss := nb _ nD
  clear N7 F7
  have N9 : News g' L' h9 [] := News.nil
  try dsimp only
  try k_fold
  k_steps
  refine hret _ _ _ (fun b o hb2 e => Fr.keep (h₀ := g') (by assumption) b o (hg b o hb2 e)) ⟨q, t1, t2, ct, ⟨D, rfl, nss, eD⟩, ?_, po80⟩
  exact po73
end Mine
end
section
set_option maxRecDepth 100000
set_option maxHeartbeats 8000000
set_option linter.unusedVariables false
set_option autoImplicit false
namespace Mine
theorem S99f (w : World) (a0 b : Int) (t t0 : Tok) (c80 : Addr) : Sp w 99 50 1600 [73, 80] [.int a0 t, .int b t0] (fun h => 0 < a0 ∧ a0 < 2 ^ 4000 ∧ 0 < b ∧ b < 2 ^ 200 ∧ (Builtin.Int.intBits a0 : Int) ≤ 20 * (Builtin.Int.intBits b : Int) ∧ CodeHd h 77 73 ∧ CodeHd h 84 80 ∧ h.get? 80 = some (tabObj #[rawInt 81, rawInt 4, .ref c80]) ∧ c80 ≠ 80 ∧ c80 ≠ 73 ∧ h.CodeRec (.ref c80) (PySem.Str.ofString "_digits2int.<locals>.inner") ∧ h.get? 73 = some (tabObj #[])) (fun h v h'' => ∃ q t1 t2 ct, NewAt h v { cls := .type "tuple", data := .seq #[.int q t1, .int (a0 % b) t2] ct } h'' ∧ MadeCode 73 66 4 (PySem.Str.ofString "_int2digits.<locals>.inner") h h'' ∧ h''.get? 80 = some (tabObj #[rawInt 81, rawInt 4, .ref c80])) := by
  unfold Sp
  k_fill
  k_with_none
  w_top off
  intro dp un gd cn cs a ccd cl outer A₀ base h₀ L m s Q E p loose mean mg mb B F KX T hk hX hpre hdp hun hret
  have N0 : News h₀ L s.heap [(73, tabObj #[]), (80, tabObj #[rawInt 81, rawInt 4, .ref c80])] := by
    obtain ⟨hp1, hp2, hp3, hp4, hp5, hp6, hp7, h80, h80a, h80b, h80c, h73⟩ := hpre
    intro q hq
    rcases List.mem_cons.mp hq with rfl | hq
    · exact ⟨h73, (hX 73 (.head _)).1, (hX 73 (.head _)).2⟩
    · rw [List.mem_singleton.mp hq]
      exact ⟨h80, (hX 80 (.tail _ (.head _))).1, (hX 80 (.tail _ (.head _))).2⟩
  obtain ⟨hp1, hp2, hp3, hp4, hp5, hp6, hp7, h80, h80a, h80b, h80c, h73⟩ := hpre
  refine wpAny_call ?_
  k_dflt (refine' enter0 ?k1 ?k2 ?k3 ?k4 ?k5 ?kA ?kF ?kK ?k6 ?k7 ?k8 ?k9 ?kB ?_ ?c2 ?c3 ?c4 ?c5; (case kA => exact rfl); (case kF => exact rfl); (case kK => exact hk); (case k1 => exact B); (case k2 => exact F); (case k3 => exact KX); (case k4 => exact N0); (case k5 => exact T); (case k6 => k_is); (case k7 => k_is); (case k8 => (first | exact room0 hdp | exact room1 hdp (by decide) | exact room2 hdp (by decide) | exact room3 hdp (by decide) | exact room4 hdp (by decide) | ktr_room)); (case k9 => exact BindsTo.of_eq rfl); (case c5 => decide); (case kB => exact locs rfl); (case c2 => exact rfl); (case c3 => exact rfl); (case c4 => exact rfl); k_whole)
  intro g' L' h' hg F' N' B' X' T'
  try dsimp only
  try k_fold
  have hg2 : StayX [73, 80] s.heap g' := hg
  have C1 := codeHd_stayX hp6 hg2 (by decide)
  have C2 := codeHd_stayX hp7 hg2 (by decide)
  have R80 := codeRec_stayX h80c hg2 (by intro hx; rcases List.mem_cons.mp hx with hx | hx; exact h80b hx; exact h80a (List.mem_singleton.mp hx))
  k_with "call ref" => (refine halt ?_)
  k_steps
  · exfalso; omega
  refine ⟨?_⟩
  rename Fr _ _ _ _ => F7
  rename News _ _ _ _ => N7
  have hX7 : ∀ x ∈ [73, 80], x ≠ L' ∧ g'.get? x = none := fun x hx => by
    rcases List.mem_cons.mp hx with rfl | hx
    · exact (N7 _ (.head _)).2
    · rw [List.mem_singleton.mp hx]
      exact (N7 _ (.tail _ (.head _))).2
  refine' useX (S92f w a0 b _ _ c80) ?k1 ?k2 ?k3 ?k4 ?k6 hX7 ?k7 ?k8 ?k9 ?_
  case k1 => k_asm
  case k2 => k_asm
  case k3 => k_asm
  case k4 => k_asm
  case k6 => first | exact rfl | assumption
  case k7 => exact ⟨hp1, hp2, hp3, hp4, hp5, C1.keeps F7.keep, C2.keeps F7.keep, (N7 _ (.tail _ (.head _))).1, h80a, h80b, R80.keeps F7.keep, (N7 _ (.head _)).1⟩
  case k8 => (first | exact room0 hdp | exact room1 hdp (by decide) | exact room2 hdp (by decide) | exact room3 hdp (by decide) | exact room4 hdp (by decide) | ktr_room)
  case k9 => (first | exact room0 hun | exact room1 hun (by decide) | exact room2 hun (by decide) | exact room3 hun (by decide) | exact room4 hun (by decide) | ktr_units)
  intro v9 h9 tk9 st9 F9 po9
  obtain ⟨q, t1, t2, ct, ⟨D, rfl, nD, eD⟩, po73, po80⟩ := po9
  have nb := back_none hg2 F7.keep ⟨_, (N7 _ (.head _)).1⟩ ⟨_, (N7 _ (.tail _ (.head _))).1⟩
  have nss := nb _ nD
  clear N7 F7
  have N9 : News g' L' h9 [] := News.nil
  try dsimp only
  try k_fold
  k_steps
  refine hret _ _ _ (fun b o hb2 e => Fr.keep (h₀ := g') (by assumption) b o (hg b o hb2 e)) ⟨q, t1, t2, ct, ⟨D, rfl, nss, eD⟩, ?_, po80⟩
  obtain ⟨c', oc, n1, n2, n3, n4⟩ := po73
  exact ⟨c', oc, nb _ n1, n2, n3, n4⟩
end Mine
end
section
set_option maxRecDepth 100000
set_option maxHeartbeats 8000000
set_option linter.unusedVariables false
set_option autoImplicit false
namespace Mine

theorem size_down (n : Nat) : PySem.Builtin.Range.rangeSize ((n : Int) - 1) (-1) (-1) = (n : Int) := by
  unfold PySem.Builtin.Range.rangeSize
  rw [if_neg (by decide)]
  split
  · have e : ((n : Int) - 1 - (-1) - 1) / (- (-1)) = (n : Int) - 1 := by
      rw [show -(-1 : Int) = 1 by decide, Int.ediv_one]; omega
    first | (rw [e]; omega) | omega
  · omega
theorem small_down (n : Nat) (h : n ≤ 20) : PySem.Builtin.Range.small ((n : Int) - 1) (-1) (-1) = true := by
  unfold PySem.Builtin.Range.small
  rw [size_down]
  have hn : ¬ (-1 : Int) > 0 := by decide
  simp only [PySem.Builtin.Range.rangeFitsLong, hn, if_false, Bool.and_eq_true, Bool.or_eq_true, decide_eq_true_eq, beq_iff_eq]
  refine ⟨⟨⟨⟨?_, ?_⟩, ?_⟩, ?_⟩, .inr ?_⟩
  · omega
  · decide
  · decide
  · omega
  · decide
/-- one turn of the ladder -/
structure LadStep (lo up : Int) (ns : List Int) (num : Nat → Int) (host ups : Nat → PySem.Str) (i : Nat) : Prop where
  hd : hdnOk (host i)
  hl : (host i).length ≤ 1000
  u : reachF (host i) = ups i
  ul : (ups i).length ≤ 1000
  n0 : 0 ≤ num i
  n1 : num i ≤ 200
  x0 : 0 ≤ (num i + 2) * lo
  x1 : (num i + 2) * lo < 2 ^ 4000
  q : ((num i + 2) * lo).fdiv up = num (i + 1) + 1
  c1 : ((num i + 2) * lo).fmod up > lo → (host i != PySem.Str.ofString "\"" ++ ups i) = false
  c2 : ¬ ((num i + 2) * lo).fmod up > lo → (host i != PySem.Str.ofString "o" ++ ups i) = false
  h : Txt.slice (ups i) (some 1) none = host (i + 1)
  f : figs (num (i + 1)) = ns.take (ns.length - 1 - i)
  m0 : 0 ≤ num (i + 1)
  m1 : num (i + 1) ≤ 200
/-- the rungs so far: values and the tuples that they name -/
inductive Rungs : List (Int × PySem.Str) → List Value → List (Addr × Obj) → Prop
  | nil : Rungs [] [] []
  | snoc {ps : List (Int × PySem.Str)} {vs : List Value} {ts : List (Addr × Obj)} (n : Int) (x : PySem.Str) (t u : Tok) (c : Nat) (D : Addr) : Rungs ps vs ts → Rungs (ps ++ [(n, x)]) (vs ++ [.ref D]) ((D, { cls := .type "tuple", data := .seq #[.int n t, .str x u] c }) :: ts)
theorem rungs_cls {ps : List (Int × PySem.Str)} {vs : List Value} {ts : List (Addr × Obj)} (h : Rungs ps vs ts) : ∀ p ∈ ts, p.2.cls = .type "tuple" := by
  induction h with
  | nil => intro p hp; cases hp
  | snoc n x t u c D _ ih =>
    intro p hp
    rcases List.mem_cons.mp hp with rfl | hp
    · rfl
    · exact ih p hp
theorem nx_swap {h₀ h : Heap} {L : Addr} {a b c d e f : Addr × Obj} {ts : List (Addr × Obj)} (N : News h₀ L h (a :: b :: c :: d :: e :: f :: ts)) : News h₀ L h (e :: f :: a :: ts) := fun q hq => by
  rcases List.mem_cons.mp hq with rfl | hq
  · exact N _ (.tail _ (.tail _ (.tail _ (.tail _ (.head _)))))
  · rcases List.mem_cons.mp hq with rfl | hq
    · exact N _ (.tail _ (.tail _ (.tail _ (.tail _ (.tail _ (.head _))))))
    · rcases List.mem_cons.mp hq with rfl | hq
      · exact N _ (.head _)
      · exact N _ (.tail _ (.tail _ (.tail _ (.tail _ (.tail _ (.tail _ hq))))))
noncomputable def LadJ (num : Nat → Int) (host : Nat → PySem.Str) (mm : PySem.Str → Option Value) (lr : Addr) (j : Nat) (m₁ : PySem.Str → Option Value) (nx : List (Addr × Obj)) : Prop :=
  ∃ (tn tx : Tok) (u1 u2 u3 u4 : Option Value) (vr : List Value) (cr : Nat) (ts : List (Addr × Obj)),
    (m₁ = fun y => if y = PySem.Str.ofString "host" then some (.str (host j) tx) else if y = PySem.Str.ofString "number" then some (.int (num j) tn) else if y = PySem.Str.ofString "rest" then u1 else if y = PySem.Str.ofString "quotient" then u2 else if y = PySem.Str.ofString "up" then u3 else if y = PySem.Str.ofString "left" then u4 else mm y) ∧
    nx = (lr, W.listOf vr.toArray cr) :: ts ∧ Rungs ((List.range (j + 1)).map fun k => (num k, host k)) vr ts
end Mine
end
section
set_option maxRecDepth 100000
set_option maxHeartbeats 8000000
set_option linter.unusedVariables false
set_option autoImplicit false
namespace Mine

theorem if_over {α : Type} {p : Prop} [Decidable p] (h : ¬ p) {a b : α} : (if p then a else b) = b := if_neg h
theorem rungs_len {ps : List (Int × PySem.Str)} {vs : List Value} {ts : List (Addr × Obj)} (h : Rungs ps vs ts) : vs.length = ps.length := by
  induction h with
  | nil => rfl
  | snoc n x t u c D _ ih => simp [ih]
theorem ladJ_init {num : Nat → Int} {host : Nat → PySem.Str} {mm : PySem.Str → Option Value} {lr D : Addr} {cr c : Nat} {t1 t2 t u : Tok} (e1 : mm (PySem.Str.ofString "host") = some (.str (host 0) t2)) (e2 : mm (PySem.Str.ofString "number") = some (.int (num 0) t1)) :
    LadJ num host mm lr 0 mm [(lr, W.listOf #[Value.ref D] cr), (D, { cls := .type "tuple", data := .seq #[.int (num 0) t, .str (host 0) u] c })] := by
  refine ⟨t1, t2, mm (PySem.Str.ofString "rest"), mm (PySem.Str.ofString "quotient"), mm (PySem.Str.ofString "up"), mm (PySem.Str.ofString "left"), [.ref D], cr, [(D, _)], ?_, rfl, ?_⟩
  · funext y
    by_cases h1 : y = PySem.Str.ofString "host"
    · rw [if_pos h1, h1, e1]
    rw [if_neg h1]
    by_cases h2 : y = PySem.Str.ofString "number"
    · rw [if_pos h2, h2, e2]
    rw [if_neg h2]
    by_cases h3 : y = PySem.Str.ofString "rest"
    · rw [if_pos h3, h3]
    rw [if_neg h3]
    by_cases h4 : y = PySem.Str.ofString "quotient"
    · rw [if_pos h4, h4]
    rw [if_neg h4]
    by_cases h5 : y = PySem.Str.ofString "up"
    · rw [if_pos h5, h5]
    rw [if_neg h5]
    by_cases h6 : y = PySem.Str.ofString "left"
    · rw [if_pos h6, h6]
    rw [if_neg h6]
  · exact Rungs.snoc (ps := []) (vs := []) _ _ _ _ _ _ .nil
theorem ladJ_next {num : Nat → Int} {host ups : Nat → PySem.Str} {mm : PySem.Str → Option Value} {lr D : Addr} {i cr c : Nat} {tn tx t u : Tok} {u1 u2 u3 u4 a1 a2 a3 a4 a5 a6 : Option Value} {vr : List Value} {ts : List (Addr × Obj)}
    (hr : Rungs ((List.range (i + 1)).map fun k => (num k, host k)) vr ts) (hn : num (i + 1) + 1 - 1 = num (i + 1)) (hh : Txt.slice (ups i) (some 1) none = host (i + 1)) :
    LadJ num host mm lr (i + 1) (fun y => if y = PySem.Str.ofString "host" then some (.str (Txt.slice (ups i) (some 1) none) tx) else if y = PySem.Str.ofString "number" then some (.int (num (i + 1) + 1 - 1) tn) else if y = PySem.Str.ofString "rest" then u1 else if y = PySem.Str.ofString "quotient" then u2 else if y = PySem.Str.ofString "up" then u3 else if y = PySem.Str.ofString "left" then u4 else
      if y = PySem.Str.ofString "host" then a1 else if y = PySem.Str.ofString "number" then a2 else if y = PySem.Str.ofString "rest" then a3 else if y = PySem.Str.ofString "quotient" then a4 else if y = PySem.Str.ofString "up" then a5 else if y = PySem.Str.ofString "left" then a6 else mm y)
      ((lr, W.listOf (vr ++ [Value.ref D]).toArray cr) :: (D, { cls := .type "tuple", data := .seq #[.int (num (i + 1)) t, .str (host (i + 1)) u] c }) :: ts) := by
  refine ⟨tn, tx, u1, u2, u3, u4, vr ++ [.ref D], cr, (D, _) :: ts, ?_, rfl, ?_⟩
  · rw [hh, hn]
    funext y
    by_cases h1 : y = PySem.Str.ofString "host"
    · exact (if_pos h1).trans (if_pos h1).symm
    refine (if_neg h1).trans (Eq.trans ?_ (if_neg h1).symm)
    by_cases h2 : y = PySem.Str.ofString "number"
    · exact (if_pos h2).trans (if_pos h2).symm
    refine (if_neg h2).trans (Eq.trans ?_ (if_neg h2).symm)
    by_cases h3 : y = PySem.Str.ofString "rest"
    · exact (if_pos h3).trans (if_pos h3).symm
    refine (if_neg h3).trans (Eq.trans ?_ (if_neg h3).symm)
    by_cases h4 : y = PySem.Str.ofString "quotient"
    · exact (if_pos h4).trans (if_pos h4).symm
    refine (if_neg h4).trans (Eq.trans ?_ (if_neg h4).symm)
    by_cases h5 : y = PySem.Str.ofString "up"
    · exact (if_pos h5).trans (if_pos h5).symm
    refine (if_neg h5).trans (Eq.trans ?_ (if_neg h5).symm)
    by_cases h6 : y = PySem.Str.ofString "left"
    · exact (if_pos h6).trans (if_pos h6).symm
    refine (if_neg h6).trans (Eq.trans ?_ (if_neg h6).symm)
    exact (if_neg h1).trans ((if_neg h2).trans ((if_neg h3).trans ((if_neg h4).trans ((if_neg h5).trans (if_neg h6)))))
  · rw [List.range_succ, List.map_append]
    exact .snoc _ _ _ _ _ _ hr
end Mine
end
section
set_option maxRecDepth 100000
set_option maxHeartbeats 8000000
set_option linter.unusedVariables false
set_option autoImplicit false
namespace Mine
theorem S164 (w : World) (n lo up : Int) (x : PySem.Str) (l c : Addr) (vs : List Value) (ns : List Int) (t1 t2 t3 t4 : Tok) (num : Nat → Int) (host ups : Nat → PySem.Str) : Sp w 164 10 200 [] [.int (num 0) t1, .str (host 0) t2, .ref l, .int lo t3, .int up t4] (fun h => h.get? l = some (W.listOf vs.toArray c) ∧ IntsAre vs ns ∧ ns.length ≤ 20 ∧ (∀ i, i < ns.length → LadStep lo up ns num host ups i) ∧ 0 < up ∧ up < 2 ^ 200) (fun h v h'' => ∃ vr cr ts, NewAt h v (W.listOf (List.toArray vr) cr) h'' ∧ Rungs ((List.range (ns.length + 1)).map fun k => (num k, host k)) vr ts ∧ ∀ q ∈ ts, h.get? q.1 = none ∧ h''.get? q.1 = some q.2) := by
  unfold Sp
  k_fill
  k_with_none
  w_top off
  intro dp un gd cn cs a ccd cl outer A₀ base h₀ L m s Q E p loose mean mg mb B F KX T hk hX hpre hdp hun hret
  have N0 : News h₀ L s.heap [] := News.nil
  refine wpAny_call ?_
  k_dflt (refine' enter0 ?k1 ?k2 ?k3 ?k4 ?k5 ?kA ?kF ?kK ?k6 ?k7 ?k8 ?k9 ?kB ?_ ?c2 ?c3 ?c4 ?c5; (case kA => exact rfl); (case kF => exact rfl); (case kK => exact hk); (case k1 => exact B); (case k2 => exact F); (case k3 => exact KX); (case k4 => exact N0); (case k5 => exact T); (case k6 => k_is); (case k7 => k_is); (case k8 => (first | exact room0 hdp | exact room1 hdp (by decide) | exact room2 hdp (by decide) | exact room3 hdp (by decide) | exact room4 hdp (by decide) | ktr_room)); (case k9 => exact BindsTo.of_eq rfl); (case c5 => decide); (case kB => exact locs rfl); (case c2 => exact rfl); (case c3 => exact rfl); (case c4 => exact rfl); k_whole)
  intro g' L' h' hg F' N' B' X' T'
  try dsimp only
  obtain ⟨hp1, hp2, hp3, hp4, hp5, hp6⟩ := hpre
  have hlg : g'.IsList l vs.toArray := ⟨_, hg l _ (by intro hx; cases hx) hp1, rfl, _, rfl⟩
  try k_fold
  k_with "pyIter ref" => (refine halt ?_)
  k_steps
  refine ⟨?_⟩
  rename IsRange _ _ _ _ _ _ _ _ => rg
  rename Fr _ _ _ _ => F2
  rename News _ _ _ _ => N2
  refine pick2 N2 (fun lr D0 hb2 e1 e3 e2 => ?_)
  try dsimp only at e2
  subst e1
  subst e3
  subst e2
  obtain ⟨mm, hmm, F3⟩ := fr_ex F2
  clear F2
  refine krs_iter (n := ns.length) rfl rg (by exact small_down ns.length hp3) (by exact size_down ns.length) F3 N2 (fun I2 hI2 => krsRest_of (fun j m₁ nx => LadJ num host mm lr j m₁ nx) ?turn ?done ns.length 0 _ _ (by omega) ?init)
  case init =>
    have e1 : mm (PySem.Str.ofString "host") = some (.str (host 0) t2) := by subst hmm; rfl
    have e2 : mm (PySem.Str.ofString "number") = some (.int (num 0) t1) := by subst hmm; rfl
    exact ladJ_init e1 e2
  case done =>
    k_lt hI2
    intro m₁ nx h5 tk5 hJ F6 N6
    obtain ⟨tn, tx, u1, u2, u3, u4, vr, cr, ts, rfl, rfl, hr⟩ := hJ
    subst hmm
    try dsimp only at F6 N6
    try dsimp only
    k_with_none
    k_steps
    rename News g' _ _ _ => N8
    refine hret _ _ _ (fun b o hb e => Fr.keep (h₀ := g') (by assumption) b o (hg b o hb e)) ⟨vr, cr, ts, newAt_of hg (by intro hx; cases hx) N8 (.head _), hr, fun q hq2 => ⟨fresh_of hg (by intro hx; cases hx) N8 (.tail _ hq2), (N8 q (.tail _ hq2)).1⟩⟩
  case turn =>
    k_lt hI2
    intro i m₁ nx t5 h5 tk5 hi hJ F6 N6
    obtain ⟨tn, tx, u1, u2, u3, u4, vr, cr, ts, rfl, rfl, hr⟩ := hJ
    subst hmm
    try dsimp only at F6 N6
    try dsimp only
    k_with_none
    k_with "call ref" => (refine halt ?_)
    k_steps
    refine ⟨?_⟩
    have st := hp4 i hi
    have sn0 := st.n0
    have sn1 := st.n1
    have sm0 := st.m0
    have sm1 := st.m1
    have sul := st.ul
    have shl := st.hl
    have sbu := bits_in hp5 hp6
    refine' use0 (S57 w _ _) ?k1 ?k2 ?k3 ?k4 ?k5 ?k6 ?k7 ?k8 ?k9 ?_
    case k1 => k_asm
    case k2 => k_asm
    case k3 => k_asm
    case k4 => k_asm
    case k5 => k_asm
    case k6 => first | exact rfl | assumption
    case k7 => exact ⟨st.hl, st.hd⟩
    case k8 => (first | exact room0 hdp | exact room1 hdp (by decide) | exact room2 hdp (by decide) | exact room3 hdp (by decide) | exact room4 hdp (by decide) | ktr_room)
    case k9 => (first | exact room0 hun | exact room1 hun (by decide) | exact room2 hun (by decide) | exact room3 hun (by decide) | exact room4 hun (by decide) | ktr_units)
    intro v9 h9 tk9 st9 F9 N9 po9
    obtain ⟨t6, rfl⟩ := po9
    rw [st.u]
    clear N6 F6
    try dsimp only
    try k_fold
    k_steps
    refine ⟨?_⟩
    rename Fr _ _ _ _ => F7
    rename News _ _ _ _ => N7
    refine' use0 (S64 w _ _ _ _ _ _) ?k1 ?k2 ?k3 ?k4 ?k5 ?k6 ?k7 ?k8 ?k9 ?_
    case k1 => k_asm
    case k2 => k_asm
    case k3 => k_asm
    case k4 => k_asm
    case k5 => k_asm
    case k6 => first | exact rfl | assumption
    case k7 => exact ⟨st.x0, hp5, hp6, by have := bits_4000 st.x0 st.x1; omega⟩
    case k8 => (first | exact room0 hdp | exact room1 hdp (by decide) | exact room2 hdp (by decide) | exact room3 hdp (by decide) | exact room4 hdp (by decide) | ktr_room)
    case k9 => (first | exact room0 hun | exact room1 hun (by decide) | exact room2 hun (by decide) | exact room3 hun (by decide) | exact room4 hun (by decide) | ktr_units)
    intro v9 h9 tk9 st9 F9 N9 po9
    obtain ⟨t7, t8, ct, D3, rfl, n3, e3⟩ := po9
    rw [st.q] at e3
    obtain ⟨m1, m2, -⟩ := allNe_of N7 n3
    dsimp only at m1 m2
    have N10 := news_new F7 N9 n3 e3
    clear N9 F7 N7
    try dsimp only
    try k_fold
    have sc : ∃ e : PySem.Str, (((num i + 2) * lo).fmod up > lo ∧ (host i != PySem.Str.ofString "\"" ++ ups i) = false) ∨ (¬ ((num i + 2) * lo).fmod up > lo ∧ (host i != PySem.Str.ofString "o" ++ ups i) = false) := by
      by_cases hgt : ((num i + 2) * lo).fmod up > lo
      · exact ⟨ups i, .inl ⟨hgt, st.c1 hgt⟩⟩
      · exact ⟨ups i, .inr ⟨hgt, st.c2 hgt⟩⟩
    obtain ⟨-, sc⟩ := sc
    rcases sc with ⟨hgt, hc⟩ | ⟨hgt, hc⟩
    all_goals (
      k_steps
      refine ⟨?_⟩
      rename Fr _ _ _ _ => F7
      rename News _ _ _ _ => N7
      have hq : num (i + 1) + 1 - 1 = num (i + 1) := by omega
      rw [hq]
      refine' use0 (S145 w _ _) ?k1 ?k2 ?k3 ?k4 ?k5 ?k6 ?k7 ?k8 ?k9 ?_
      case k1 => k_asm
      case k2 => k_asm
      case k3 => k_asm
      case k4 => k_asm
      case k5 => k_asm
      case k6 => first | exact rfl | assumption
      case k7 => exact ⟨sm0, sm1⟩
      case k8 => (first | exact room0 hdp | exact room1 hdp (by decide) | exact room2 hdp (by decide) | exact room3 hdp (by decide) | exact room4 hdp (by decide) | ktr_room)
      case k9 => (first | exact room0 hun | exact room1 hun (by decide) | exact room2 hun (by decide) | exact room3 hun (by decide) | exact room4 hun (by decide) | ktr_units)
      intro v9 h9 tk9 st9 F9 N9 po9
      obtain ⟨vsf, cf, ⟨Df, rfl, nf, ef⟩, If⟩ := po9
      rw [st.f] at If
      obtain ⟨k1, k2, k3, -⟩ := allNe_of N7 nf
      dsimp only at k1 k2 k3
      have N10 := news_new F7 N9 nf ef
      clear N9 F7 N7
      try dsimp only
      try k_fold
      k_steps
      rotate_left
      · rename ¬ (List.take _ ns = _) => hne
        exact absurd (by congr 1; omega) hne
      rename Fr _ _ _ _ => F7
      rename News _ _ _ _ => N7
      have htl : ∀ p ∈ ts, p.1 ≠ lr := fun p hp e => by
        have h1 := (N7 p (by repeat (first | exact hp | apply List.Mem.tail))).1
        have h2 := (N7 (lr, W.listOf vr.toArray cr) (by repeat (first | exact .head _ | apply List.Mem.tail))).1
        rw [e] at h1
        have h3 := Option.some.inj (h1.symm.trans h2)
        have h4 := rungs_cls hr p hp
        rw [h3] at h4
        exact absurd (Value.type.inj h4) (by decide)
      refine' append_K F7 N7 ?U ?_ ?z
      case U => exact .tail (by k_ne) (.tail (by k_ne) (.tail (by k_ne) (.tail (by k_ne) (.tail (by k_ne) (.head htl)))))
      case z => (have := rungs_len hr; simp at this; first | (rw [sizeLine_eq]; simp; omega) | (simp; omega))
      intro h8 F8 N8
      clear F7 N7
      try dsimp only
      try k_fold
      k_steps
      rename Fr _ _ _ _ => F9
      rename News _ _ _ _ => N9
      refine pick N9 (fun D5 hb5 e5 e6 => ?_)
      try dsimp only at e6
      subst e5
      subst e6
      rw [hq, st.h, List.push_toArray] at N9
      have hti : ∀ p ∈ ts, p.1 ≠ I2 := fun p hp e => by
        have h1 := (N9 p (by repeat (first | exact hp | apply List.Mem.tail))).1
        have h2 := (N9 (I2, _) (.tail _ (.tail _ (.tail _ (.tail _ (.head _)))))).1
        rw [e] at h1
        have h3 := Option.some.inj (h1.symm.trans h2)
        have h4 := rungs_cls hr p hp
        rw [h3] at h4
        exact absurd (Value.type.inj h4) (by decide)
      refine turn_end (I := I2) F9 (nx_swap N9) (List.forall_mem_cons.mpr ⟨by k_ne, List.forall_mem_cons.mpr ⟨by k_ne, hti⟩⟩) (ladJ_next hr hq st.h))
end Mine
end
section
set_option maxRecDepth 100000
set_option maxHeartbeats 8000000
set_option autoImplicit false
namespace Mine
section
variable {prog : Program} {w : World} {s : Shared} {mg mb : PySem.Str → Option Value} {K : Frag} {p : Program} {loose : List PySem.Str} {mean : ExcName → Option Value}
  {R : Result → Shared → Prop} {name qual : PySem.Str} {params : Arguments} {body : List Stmt} {scope : Scope} {dV kV doc pm cdv ct : Value} {an : Option Addr} {f : Addr} {args : Args} {binds : List (PySem.Str × Value)} {tabs : List (Addr × Addr)}
/-- the law itself is entered from the outside: the tables of made codes are laid aside -/
theorem enterL {oc : Value} {od : Option Addr} {osl : Array (Option Value)} (T : Top p loose mean mg mb s.heap) (X : K.In s.heap) (hT : TabsAt tabs s.heap) (hK : noTabs K = true)
    (ho : K.lookup f = some ⟨oc, od, .func (fnOf name qual params body scope dV kV doc pm an cdv ct), osl⟩) (hcd : codeIn K cdv qual = true)
    (hbind : BindsTo s (fnOf name qual params body scope dV kV doc pm an cdv ct) args binds) (hkind : (binds.all fun y => scope.names.lookup y.1 == some .local || scope.names.lookup y.1 == some .cell) = true)
    (hnd : ((cellsFrom 0 scope.names []).map (·.1)).Nodup)
    (h : ∀ L h₁ tk cells, Fr (ghostOf s.heap tabs) L h₁ (bindL (envOfC qual scope L f cdv).kindOf binds fun _ => none) → News (ghostOf s.heap tabs) L h₁ (cells ++ tabNews tabs) →
      CellsAre (bindC (envOfC qual scope L f cdv).kindOf binds fun _ => none) (cellsFrom (L + 1) scope.names []) cells → CodeAll tabs (ghostOf s.heap tabs) → K.In (ghostOf s.heap tabs) →
      Top topProg (loose ++ (recsOf p).map (·.name) ++ (litsOf p).map (·.1) ++ (clssOf p loose).map (·.name)) mean mg mb (ghostOf s.heap tabs) → (∀ q ∈ tabNews tabs, q.1 < L) →
      wpS (model prog w) (callerA.deeper (envOfC qual scope L f cdv)) (execs body (envOfC qual scope L f cdv)) (fun fl s' => R (.ok (.ret (match fl with | .ret v => v | _ => .none))) s') { s with heap := h₁, toks := tk })
    (hco : scope.isCoroutine = false) (hgen : scope.isGenerator = false) (hk : scope.kind = .function) : codeS (model prog w) callerA (.call (.ref f) args) R s := by
  refine codeS_call_function (fd := fnOf name qual params body scope dV kV doc pm an cdv ct) (body := body) (by decide) (X _ _ ho) rfl hco hgen rfl (codeRec_of X hcd) (hbind _ _ _ _ ?_)
  refine wpAny_newFunctionEnv_cells hk (kindsX hkind _) fun env' he s' x => ?_
  subst he
  refine ⟨T.nolimit.keeps x.toInCall.keep, codeS_func ?_⟩
  obtain ⟨h₁, tk, rfl, _⟩ := x.done
  have hk₁ := x.toInCall.keep
  obtain ⟨cells, NC, Y⟩ := Cl.news (h₀ := s.heap) (Nat.le_refl _) fun n c hm => ⟨x.cell n c (lookup_of_mem_nodup (cellsFrom_names scope.names 0 (s.heap.objs.size + 1) [] [] rfl ▸ hnd) hm), x.above n c hm⟩
  have F : Fr s.heap s.heap.objs.size h₁ (bindL (envOfC qual scope s.heap.objs.size f cdv).kindOf binds fun _ => none) := ⟨x.toInCall.ns, fun b o e => hk₁ b o e, Nat.le_refl _⟩
  have N : News s.heap s.heap.objs.size h₁ cells := fun q hq => ⟨(NC q hq).1, (NC q hq).2.1, (NC q hq).2.2⟩
  exact h s.heap.objs.size h₁ tk cells (ghost_fr hT F) (ghost_news hT F N) Y (ghost_code hT) (ghost_K hT X hK) (ghost_top hT T) (ghost_lt hT F)
end
end Mine
end
section
set_option maxRecDepth 100000
set_option maxHeartbeats 8000000
set_option autoImplicit false
namespace Mine
theorem ints_of_all : ∀ (vs : List Value), (∀ v ∈ vs, ∃ n t, v = .int n t) → ∃ us, IntsAre vs us
  | [], _ => ⟨[], .nil⟩
  | v :: r, h => by
    obtain ⟨n, t, rfl⟩ := h v (.head _)
    obtain ⟨us, hu⟩ := ints_of_all r fun x hx => h x (.tail _ hx)
    exact ⟨n :: us, .cons n t hu⟩
theorem all_of_ints {vs : List Value} {us : List Int} (h : IntsAre vs us) : ∀ v ∈ vs, ∃ n t, v = .int n t := by
  induction h with
  | nil => intro v hv; cases hv
  | cons n t _ ih =>
    intro v hv
    rcases List.mem_cons.mp hv with rfl | hv
    · exact ⟨n, t, rfl⟩
    · exact ih v hv
theorem pick_ints {ws : List Value} {nn : List Int} (hi : IntsAre ws nn) (a b c : Option Int) : ∃ us, IntsAre (slicePick ws.toArray a b c).toList us := by
  refine ints_of_all _ fun v hv => ?_
  unfold slicePick at hv
  obtain ⟨i, _, hi2⟩ := List.mem_filterMap.mp (by simpa using hv)
  exact all_of_ints hi v (List.mem_of_getElem? (by simpa using hi2))
section
variable {prog : Program} {w : World} {A : Around} {E : Value → Shared → Prop} {s : Shared} {h₀ : Heap} {L : Addr} {m : PySem.Str → Option Value} {news : List (Addr × Obj)}
/-- sum of a stepped slice of ints: an int -/
theorem sum_pick {l : Addr} {ws : List Value} {nn : List Int} {a b c : Option Int} {Q : Value → Shared → Prop} (hh : A.handled = none) (F : Fr h₀ L s.heap m) (N : News h₀ L s.heap news) (hm : (l, ({ cls := .type "list", data := .seq (slicePick ws.toArray a b c) } : Obj)) ∈ news) (hi : IntsAre ws nn)
    (h : ∀ S h' tk t', Fr h₀ L h' m → News h₀ L h' news → Q (.int S t') { s with heap := h', toks := tk }) :
    wpAny (model prog w) A (call (.builtin "sum") [.ref l]) Q E s := by
  obtain ⟨us, hu⟩ := pick_ints hi a b c
  exact sumK hh F N ⟨_, (N _ hm).1, rfl, 0, by simp⟩ hu (h us.sum)
end
end Mine
namespace Mine
section
variable {prog : Program} {w : World} {A : Around} {s : Shared} {env : Env} {h₀ : Heap} {x : PySem.Str} {px : Pos} {body : List Stmt} {R : Result → Shared → Prop}
/-- the turns that are left of a loop over a made list, of the clean contexts -/
noncomputable def RestS (prog : Program) (w : World) (A : Around) (h₀ : Heap) (env : Env) (x : PySem.Str) (body : List Stmt) (R : Result → Shared → Prop) (s : Shared) (I : Addr) (lp : Addr × Obj) : List Value → (PySem.Str → Option Value) → List (Addr × Obj) → Prop
  | [], m, news => ∀ h tk, Fr h₀ env.locals h m → News h₀ env.locals h news → R (.ok .next) { s with heap := h, toks := tk }
  | v :: r, m, news => ∀ (it : Obj) h tk, it.cls = .type "list_iterator" → Fr h₀ env.locals h (fun y => if y = x then some v else m y) → News h₀ env.locals h ((I, it) :: news) →
      wpS (model prog w) A (execs body env) (TurnEnd h₀ env.locals (fun m' n' => lp ∈ n' ∧ RestS prog w A h₀ env x body R s I lp r m' n') I it { s with heap := h, toks := tk }) { s with heap := h, toks := tk }
theorem forS_rest {I l : Addr} {vs : List Value} {c : Nat} (hh : A.handled = none) (hx : env.kindOf x = some .local) (hp : (env.scope.kind == .class || (env.scope.kind == .module && env.locals != env.globals)) = false) (hIL : I ≠ env.locals) (hI0 : h₀.get? I = none) :
    ∀ (r : List Value) (i : Nat) (m : PySem.Str → Option Value) (news : List (Addr × Obj)) (h : Heap) (tk : Nat), vs.drop i = r → h.IsListIter I l i → (l, W.listOf vs.toArray c) ∈ news → (∀ p ∈ news, p.1 ≠ I) → Fr h₀ env.locals h m → News h₀ env.locals h news →
      RestS prog w A h₀ env x body R s I (l, W.listOf vs.toArray c) r m news → codeS (model prog w) A (.forLoop (.Name x px) (.ref I) body [] env) R { s with heap := h, toks := tk }
  | [], i, m, news, h, tk, hr, hit, hm, hne, F, N, H => by
    have hl : h.IsList l vs.toArray := ⟨_, (N _ hm).1, rfl, _, rfl⟩
    have hn : vs.toArray[i]? = none := by
      have := List.drop_eq_nil_iff.mp hr
      simp; omega
    refine codeS_forEnd (wpAny_pyNext_list_end hh hit hl hn fun h' he => ⟨rfl, ?_⟩)
    have S : StayX [I] h h' := fun b o hb e => he b o (by simpa using hb) e
    exact H h' tk (fr_stay F (fun y hy => by rw [List.mem_singleton.mp hy]; exact ⟨hIL, hI0⟩) S) (fun p hp => ⟨S _ _ (by simpa using hne p hp) (N p hp).1, (N p hp).2⟩)
  | v :: r, i, m, news, h, tk, hr, hit, hm, hne, F, N, H => by
    have hl : h.IsList l vs.toArray := ⟨_, (N _ hm).1, rfl, _, rfl⟩
    have hv : vs.toArray[i]? = some v := by
      have e : (vs.drop i)[0]? = some v := by rw [hr]; rfl
      simpa using e
    have hr2 : vs.drop (i + 1) = r := by
      rw [← List.drop_drop, hr]; rfl
    refine codeS_forItem (wpAny_pyNext_list_item hit hl hv fun h₁ hit₁ hs₁ => ⟨rfl, ?_⟩)
    have S : StayX [I] h h₁ := fun b o hb e => (hs₁.2 b (by simpa using hb)).trans e
    have F₁ := fr_stay F (fun y hy => by rw [List.mem_singleton.mp hy]; exact ⟨hIL, hI0⟩) S
    have N₁ : News h₀ env.locals h₁ news := fun p hp => ⟨S _ _ (by simpa using hne p hp) (N p hp).1, (N p hp).2⟩
    refine wpAny_storeName_local hx F₁.ns (fun h₂ hn₂ hs₂ => ?_) hp
    obtain ⟨it, e1, e2, e3⟩ := hit₁
    have N₂ : News h₀ env.locals h₂ ((I, it) :: news) := (show News h₀ env.locals h₁ ((I, it) :: news) from fun p hp => by
      rcases List.mem_cons.mp hp with rfl | hp
      · exact ⟨e1, hIL, hI0⟩
      · exact N₁ p hp).set hs₂
    refine wpS_mono (H it h₂ (tk + 1) e2 (F₁.set hn₂ hs₂) N₂) fun f s₃ q => ?_
    obtain ⟨rfl, h', tk', m', news', rfl, F', N', hne', hm', H'⟩ := q
    exact ⟨rfl, forS_rest hh hx hp hIL hI0 r (i + 1) m' news' h' tk' hr2 ⟨it, (N' _ (.head _)).1, e2, e3⟩ hm' hne' F' (fun p hp => N' p (.tail _ hp)) H'⟩
theorem forS_list {l : Addr} {vs : List Value} {c : Nat} {m : PySem.Str → Option Value} {news : List (Addr × Obj)} (hh : A.handled = none) (hx : env.kindOf x = some .local) (hp : (env.scope.kind == .class || (env.scope.kind == .module && env.locals != env.globals)) = false)
    (F : Fr h₀ env.locals s.heap m) (N : News h₀ env.locals s.heap news) (hm : (l, W.listOf vs.toArray c) ∈ news)
    (rest : ∀ I : Addr, (∀ p ∈ news, p.1 < I) → RestS prog w A h₀ env x body R s I (l, W.listOf vs.toArray c) vs m news) :
    wpAny (model prog w) A (pyIter (.ref l)) (fun it s₂ => codeS (model prog w) A (.forLoop (.Name x px) it body [] env) R s₂) (fun _ _ => False) s := by
  have hl : s.heap.IsList l vs.toArray := ⟨_, (N _ hm).1, rfl, _, rfl⟩
  have lt : ∀ p ∈ news, p.1 < s.heap.objs.size := fun p hp => Heap.lt_size (N p hp).1
  refine wpAny_pyIter_list hl ?_
  exact forS_rest (s := s) (tk := s.toks) hh hx hp (Nat.ne_of_gt F.ns.lt) (next_is_new F) vs 0 m news _ rfl ⟨_, Heap.get?_push_size _ rfl, rfl, rfl⟩ hm (fun p hp => Nat.ne_of_lt (lt p hp)) (F.push _)
    (fun p hp => ⟨Heap.get?_push_of_some _ (N p hp).1, (N p hp).2⟩) (rest _ lt)
end
end Mine
namespace Mine
section
variable {prog : Program} {w : World} {A : Around} {s : Shared} {env : Env} {h₀ : Heap} {x : PySem.Str} {body : List Stmt} {R : Result → Shared → Prop}
/-- two turns, by what holds ahead of, between and behind them -/
theorem restS_two {I : Addr} {lp : Addr × Obj} {v0 v1 : Value} (J0 J1 : Addr × Obj → (PySem.Str → Option Value) → List (Addr × Obj) → Prop) (J2 : (PySem.Str → Option Value) → List (Addr × Obj) → Prop)
    (done : ∀ m n h tk, J2 m n → Fr h₀ env.locals h m → News h₀ env.locals h n → R (.ok .next) { s with heap := h, toks := tk })
    (t2 : ∀ m n (it : Obj) h tk, J1 lp m n → (∀ p ∈ n, p.1 ≠ I) → it.cls = .type "list_iterator" → Fr h₀ env.locals h (fun y => if y = x then some v1 else m y) → News h₀ env.locals h ((I, it) :: n) →
      wpS (model prog w) A (execs body env) (TurnEnd h₀ env.locals (fun m' n' => lp ∈ n' ∧ J2 m' n') I it { s with heap := h, toks := tk }) { s with heap := h, toks := tk })
    (t1 : ∀ m n (it : Obj) h tk, J0 lp m n → it.cls = .type "list_iterator" → Fr h₀ env.locals h (fun y => if y = x then some v0 else m y) → News h₀ env.locals h ((I, it) :: n) →
      wpS (model prog w) A (execs body env) (TurnEnd h₀ env.locals (fun m' n' => lp ∈ n' ∧ J1 lp m' n') I it { s with heap := h, toks := tk }) { s with heap := h, toks := tk })
    {m : PySem.Str → Option Value} {news : List (Addr × Obj)} (h0 : J0 lp m news) : RestS prog w A h₀ env x body R s I lp [v0, v1] m news := by
  intro it h tk hc F N
  refine wpS_mono (t1 m news it h tk h0 hc F N) fun f s₂ q => ?_
  obtain ⟨rfl, h', tk', m', n', rfl, F', N', hne, hl, hJ⟩ := q
  refine ⟨rfl, h', tk', m', n', rfl, F', N', hne, hl, ?_⟩
  intro it2 h2 tk2 hc2 F2 N2
  refine wpS_mono (t2 m' n' it2 h2 tk2 hJ hne hc2 F2 N2) fun f s₂ q => ?_
  obtain ⟨rfl, h', tk', m', n', rfl, F', N', hne, hl, hJ⟩ := q
  exact ⟨rfl, h', tk', m', n', rfl, F', N', hne, hl, fun h3 tk3 F3 N3 => done m' n' h3 tk3 hJ F3 N3⟩
end
end Mine
end
section
set_option maxRecDepth 100000
set_option maxHeartbeats 8000000
set_option linter.unusedVariables false
set_option autoImplicit false
namespace Mine

structure LawEnd (h h' : Heap) : Prop where
  k : ∀ b o, b ≠ 73 → b ≠ 80 → h.get? b = some o → h'.get? b = some o
  a : ∃ ps, h'.get? 73 = some (tabObj ps)
  b : ∃ ps, h'.get? 80 = some (tabObj ps)
noncomputable abbrev q73 : PySem.Str := PySem.Str.ofString "_int2digits.<locals>.inner"
noncomputable abbrev q80 : PySem.Str := PySem.Str.ofString "_digits2int.<locals>.inner"
/-- ahead of the first turn -/
noncomputable def J0 (L : Addr) (lo up bs tl : Int) (lp : Addr × Obj) (m : PySem.Str → Option Value) (n : List (Addr × Obj)) : Prop :=
  ∃ (lads : Addr) (oc : Obj) (ta tb t1 t2 : Tok) (mm : PySem.Str → Option Value),
    (m = fun y => if y = PySem.Str.ofString "upper" then some (.int up t2) else if y = PySem.Str.ofString "lower" then some (.int lo t1) else if y = PySem.Str.ofString "base" then some (.int bs ta) else if y = PySem.Str.ofString "total" then some (.int tl tb) else mm y) ∧ n = [lp, (lads, W.listOf #[] 0), (L + 1, oc), (80, tabObj #[]), (73, tabObj #[])] ∧ oc.data = .cell (some (.ref lads)) ∧
    @LT.lt Nat _ 80 L ∧ @LT.lt Nat _ (L + 1) lads ∧ @LT.lt Nat _ lads lp.1
/-- between the turns -/
noncomputable def J1 (L : Addr) (lo up bs tl : Int) (R0 : List (Int × PySem.Str)) (lp : Addr × Obj) (m : PySem.Str → Option Value) (n : List (Addr × Obj)) : Prop :=
  ∃ (lads D0 c73 c80 : Addr) (oc o73 o80 : Obj) (ta tb t1 t2 : Tok) (u1 u2 u3 u4 u5 u6 : Option Value) (mm : PySem.Str → Option Value) (cl c0 : Nat) (vr0 : List Value) (ts : List (Addr × Obj)),
    (m = fun y => if y = PySem.Str.ofString "golden" then u1 else if y = PySem.Str.ofString "rest" then u2 else if y = PySem.Str.ofString "whole" then u3 else if y = PySem.Str.ofString "ladder" then u4 else if y = PySem.Str.ofString "figures" then u5 else if y = PySem.Str.ofString "number" then u6 else if y = PySem.Str.ofString "upper" then some (.int up t2) else if y = PySem.Str.ofString "lower" then some (.int lo t1) else if y = PySem.Str.ofString "base" then some (.int bs ta) else if y = PySem.Str.ofString "total" then some (.int tl tb) else mm y) ∧ n = lp :: (lads, W.listOf #[.ref D0] cl) :: (D0, W.listOf vr0.toArray c0) :: (L + 1, oc) :: (80, tabObj #[rawInt 81, rawInt 4, .ref c80]) :: (73, tabObj #[rawInt 66, rawInt 4, .ref c73]) :: (c80, o80) :: (c73, o73) :: ts ∧
    oc.data = .cell (some (.ref lads)) ∧ CodeOf o80 q80 ∧ CodeOf o73 q73 ∧ Rungs R0 vr0 ts ∧ @LT.lt Nat _ 80 L ∧ @LT.lt Nat _ (L + 1) lads ∧ @LT.lt Nat _ lads lp.1 ∧
    (@Ne Nat D0 lads ∧ @Ne Nat c80 lads ∧ @Ne Nat c73 lads ∧ @Ne Nat D0 80 ∧ @Ne Nat c80 80 ∧ @Ne Nat c73 80 ∧ @Ne Nat D0 73 ∧ @Ne Nat c80 73 ∧ @Ne Nat c73 73)
/-- behind the last turn -/
noncomputable def J2 (L : Addr) (R0 R1 : List (Int × PySem.Str)) (m : PySem.Str → Option Value) (n : List (Addr × Obj)) : Prop :=
  ∃ (lp : Addr × Obj) (lads D0 D1 : Addr) (oc : Obj) (cl c0 c1 : Nat) (p80 p73 : Array Value) (vr0 vr1 : List Value) (ts : List (Addr × Obj)) (ts0 ts1 : List (Addr × Obj)),
    n = lp :: (lads, W.listOf #[.ref D0, .ref D1] cl) :: (D0, W.listOf vr0.toArray c0) :: (D1, W.listOf vr1.toArray c1) :: (L + 1, oc) :: (80, tabObj p80) :: (73, tabObj p73) :: ts ∧
    oc.data = .cell (some (.ref lads)) ∧ Rungs R0 vr0 ts0 ∧ Rungs R1 vr1 ts1 ∧ (∀ p ∈ ts0, p ∈ ts) ∧ (∀ p ∈ ts1, p ∈ ts) ∧ @LT.lt Nat _ 80 L ∧ @LT.lt Nat _ (L + 1) lads

theorem trimL {g h : Heap} {L : Addr} {a b c d e f i j k : Addr × Obj} (N : News g L h ([a, b, c, d, e, f, i, j, k])) : News g L h ([a, d, i, j, k]) :=
  List.forall_mem_cons.mpr ⟨N _ (.head _), List.forall_mem_cons.mpr ⟨N _ (.tail _ (.tail _ (.tail _ (.head _)))), List.forall_mem_cons.mpr ⟨N _ (.tail _ (.tail _ (.tail _ (.tail _ (.tail _ (.tail _ (.head _))))))), List.forall_mem_cons.mpr ⟨N _ (.tail _ (.tail _ (.tail _ (.tail _ (.tail _ (.tail _ (.tail _ (.head _)))))))), List.forall_mem_cons.mpr ⟨N _ (.tail _ (.tail _ (.tail _ (.tail _ (.tail _ (.tail _ (.tail _ (.tail _ (.head _))))))))), fun _ hq => nomatch hq⟩⟩⟩⟩⟩
/-- what one turn of the law needs of its number k -/
structure TurnOk (lo up wd bs k : Int) (P D R W0 : PySem.Str) (O : Array UInt8) (J : PySem.Str) (num : Nat → Int) (host ups : Nat → PySem.Str) : Prop where
  k0 : 0 ≤ k
  k1 : k ≤ 200
  l20 : (figs k).length ≤ 12
  b01 : ∀ d ∈ figs k, d = 0 ∨ d = 1
  hq : HostEq (figs k) P D R W0 O J (host 0)
  lP : P.length ≤ 100
  lD : D.length ≤ 200
  lR : R.length ≤ 1000
  lW : W0.length ≤ 200
  lO : 0 < O.size
  lO2 : O.size ≤ 200
  lJ : J.length ≤ 300
  n0 : num 0 = k
  so : ∀ i, i ≤ (figs k).length → PyData.strOk (host i) = true
  st : ∀ i, i < (figs k).length → LadStep lo up (figs k) num host ups i
  up0 : 0 < up
  up1 : up < 2 ^ 200
  lo0 : 0 ≤ lo
  lo1 : lo < 2 ^ 200
  w0 : 9 ≤ wd
  w1 : wd ≤ 16
  bq : bs = 2 ^ wd.toNat
  e0 : num (figs k).length = 0
  e1 : host (figs k).length = PySem.Str.ofString "local"
  a0 : 0 < horn (2 ^ wd.toNat) (0 :: 0 :: (figs k).reverse)
  a1 : horn (2 ^ wd.toNat) (0 :: 0 :: (figs k).reverse) < 2 ^ 4000
  a2 : (Builtin.Int.intBits (horn (2 ^ wd.toNat) (0 :: 0 :: (figs k).reverse)) : Int) ≤ 20 * (Builtin.Int.intBits (bs * bs - bs - 1) : Int)
  m0 : 0 < bs * bs - bs - 1
  m1 : bs * bs - bs - 1 < 2 ^ 200
  r0 : 0 < horn (2 ^ wd.toNat) (0 :: 0 :: (figs k).reverse) % (bs * bs - bs - 1)
  r1 : horn (2 ^ wd.toNat) (0 :: 0 :: (figs k).reverse) % (bs * bs - bs - 1) < 2 ^ 4000
  r2 : (Builtin.Int.intBits (horn (2 ^ wd.toNat) (0 :: 0 :: (figs k).reverse) % (bs * bs - bs - 1)) : Int) ≤ 20 * wd
  g0 : 0 ≤ (k + 1) * lo
  g1 : (Builtin.Int.intBits ((k + 1) * lo) : Int) ≤ 4000
  dg : digs (2 ^ wd.toNat) (horn (2 ^ wd.toNat) (0 :: 0 :: (figs k).reverse) % (bs * bs - bs - 1)) (((Builtin.Int.intBits (horn (2 ^ wd.toNat) (0 :: 0 :: (figs k).reverse) % (bs * bs - bs - 1)) : Int) + wd - 1).fdiv wd).toNat = [((k + 1) * lo).fdiv up, k]
/-- the rungs of a ladder -/
noncomputable def rungL (k : Int) (num : Nat → Int) (host : Nat → PySem.Str) : List (Int × PySem.Str) := (List.range ((figs k).length + 1)).map fun i => (num i, host i)
end Mine
end
section
set_option maxRecDepth 100000
set_option maxHeartbeats 8000000
set_option linter.unusedVariables false
set_option autoImplicit false
namespace Mine

theorem splicedS_e {M : Model} {A : Around} {s : Shared} {env : Env} {e : PySem.Expr} {rest : List PySem.Expr} {pos : Pos} {Q : List Value → Shared → Prop} (h : wpS M A (eval e env) (fun v s₁ => wpS M A (spliced (backTo pos (starEach rest env))) (fun vs s₂ => Q (v :: vs) s₂) s₁) s)
    (he : starEach (e :: rest) env = (false, eval e env) :: starEach rest env) : wpS M A (spliced (backTo pos (starEach (e :: rest) env))) Q s := by
  rw [he]
  exact splicedS_cons h
theorem news_app {g h h' : Heap} {L : Addr} {m : PySem.Str → Option Value} {news ts : List (Addr × Obj)} (F : Fr g L h m) (N : News g L h' news) (hf : ∀ q ∈ ts, h.get? q.1 = none ∧ h'.get? q.1 = some q.2) : News g L h' (news ++ ts) := by
  intro p hp
  rcases List.mem_append.mp hp with hp | hp
  · exact N p hp
  · have N1 : News g L h' [(p.1, p.2)] := news_new F (fun q hq => nomatch hq) (hf p hp).1 (hf p hp).2
    exact N1 _ (.head _)
theorem fresh_ne {g h h' : Heap} {L : Addr} {news ts : List (Addr × Obj)} (N : News g L h news) (hf : ∀ q ∈ ts, h.get? q.1 = none ∧ h'.get? q.1 = some q.2) {p : Addr × Obj} (hp : p ∈ news) : ∀ q ∈ ts, q.1 ≠ p.1 := fun q hq e => by
  have h1 := (hf q hq).1
  rw [e, (N p hp).1] at h1
  cases h1

theorem lo_hdn : hdnOk (PySem.Str.ofString "local") := ⟨by decide +kernel⟩
theorem lo_reach : reachF (PySem.Str.ofString "local") = PySem.Str.ofString "local" := by decide +kernel
end Mine
end
section
set_option maxRecDepth 100000
set_option maxHeartbeats 8000000
set_option linter.unusedVariables false
set_option autoImplicit false
namespace Mine
noncomputable def rungD (p : Int × PySem.Str) : Dat := .tuple [.int p.1, .str p.2]
theorem rungs_dat {R : List (Int × PySem.Str)} {vr : List Value} {ts : List (Addr × Obj)} (h : Rungs R vr ts) : DatAll ts vr (R.map rungD) := by
  induction h with
  | nil => exact .nil
  | snoc n x t u c D _ ih =>
    rw [List.map_append]
    exact DatAll.append (ih.mono fun p hp => .tail _ hp) (.one (.tuple (vs := [.int n t, .str x u]) (.head _) (.cons (.int n t) (.cons (.str x u) .nil))))
theorem rung_ok {p : Int × PySem.Str} (h : PyData.strOk p.2 = true) : kqdOk 8 (rungD p) = true := by
  unfold rungD
  simp [kqdOk, h]
theorem rungs_ok {R : List (Int × PySem.Str)} (h : ∀ p ∈ R, PyData.strOk p.2 = true) : ∀ d ∈ R.map rungD, kqdOk 8 d = true := fun d hd => by
  obtain ⟨p, hp, rfl⟩ := List.mem_map.mp hd
  exact rung_ok (h p hp)
theorem rungD_inj {p q : Int × PySem.Str} (h : rungD p = rungD q) : p = q := by
  simp only [rungD, Dat.tuple.injEq, List.cons.injEq, Dat.int.injEq, Dat.str.injEq, and_true] at h
  exact Prod.ext h.1 h.2
section
variable {prog : Program} {w : World} {A : Around} {E : Value → Shared → Prop} {s : Shared} {g : Heap} {L : Addr} {news ts n₁ n₂ : List (Addr × Obj)} {Q : Value → Shared → Prop}
/-- a ladder is not empty -/
theorem eq_nil {D N0 : Addr} {R : List (Int × PySem.Str)} {vr : List Value} {c c2 : Nat} (N : News g L s.heap news) (hR : Rungs R vr ts) (hts : ∀ p ∈ ts, p ∈ news) (m1 : (D, W.listOf vr.toArray c) ∈ news) (m2 : (N0, W.listOf #[] c2) ∈ news)
    (hne : R ≠ []) (hs : ∀ p ∈ R, PyData.strOk p.2 = true) (hu : A.units + 64 < cLine) (h : Q (.bool false) s) : wpAny (model prog w) A (compareOp .Eq (.ref D) (.ref N0)) Q E s := by
  refine kqd_eq (xs := vr) (ys := []) (ds := R.map rungD) (es := []) (n₂ := []) N m1 rfl rfl (rungs_dat hR) hts m2 rfl rfl .nil (fun _ h => nomatch h) (rungs_ok hs) (fun _ h => nomatch h) hu ?_
  rw [decide_eq_false (by simpa using hne)]
  exact h
/-- data that are not the same compare so, data that are too -/
theorem ne_dat {a b : Value} {d e : Dat} (N : News g L s.heap news) (Da : DatIn n₁ a d) (sa : ∀ p ∈ n₁, p ∈ news) (Db : DatIn n₂ b e) (sb : ∀ p ∈ n₂, p ∈ news) (ha : kqdOk 8 d = true) (hb : kqdOk 8 e = true) (hu : A.units + 64 < cLine)
    (h : ∀ c : Bool, (c = true ↔ d ≠ e) → Q (.bool c) s) : wpAny (model prog w) A (compareOp .NotEq a b) Q E s := by
  obtain ⟨as, ra⟩ := kqd_in N 8 (Da.mono sa) ha
  obtain ⟨bs, rb⟩ := kqd_in N 8 (Db.mono sb) hb
  have la := kqd_lay 8 d ha
  have lb := kqd_lay 8 e hb
  have q := kqd_eqv 8 d e 8 ha hb
  refine ne_dataH ra rb ?_ ?_ hu (h _ ?_)
  · unfold SeqAt.shaped; rw [la.1, Bool.true_and]; exact decide_eq_true (Nat.le_trans la.2 (by decide))
  · unfold SeqAt.shaped; rw [lb.1, Bool.true_and]; exact decide_eq_true (Nat.le_trans lb.2 (by decide))
  · rw [Bool.not_eq_true', ← Bool.not_eq_true, q]
/-- the last rung -/
theorem rungs_last {R : List (Int × PySem.Str)} {p : Int × PySem.Str} {vr : List Value} {ts : List (Addr × Obj)} (h : Rungs (R ++ [p]) vr ts) : ∃ vs D, vr = vs ++ [.ref D] ∧ DatIn ts (.ref D) (rungD p) := by
  generalize hq : R ++ [p] = R' at h
  cases h with
  | nil => simp at hq
  | @snoc ps vs ts n x t u c D _ =>
    obtain ⟨_, rfl⟩ := List.append_inj' hq rfl |>.imp id (fun h => List.cons.inj h |>.1)
    exact ⟨vs, D, rfl, .tuple (vs := [.int n t, .str x u]) (.head _) (.cons (.int n t) (.cons (.str x u) .nil))⟩
end
end Mine
namespace Mine
section
variable {prog : Program} {w : World} {A : Around} {E : Value → Shared → Prop} {s : Shared} {Q : Value → Shared → Prop}
theorem item_last {value slice : PySem.Expr} {l : Addr} {xs : List Value} {v : Value} {c : Nat} {u : Tok} (hl : s.heap.get? l = some (W.listOf (xs ++ [v]).toArray c)) (hz : xs.length ≤ 1000) (h : Q v s)
    (hs : subscripted slice false (.ref l) (.int (-1) u) = operate [.ref l, .int (-1) u] (getItem (.ref l) (.int (-1) u))) :
    wpAny (model prog w) A (subscriptTail value slice (.ref l) (.int (-1) u)) Q E s := by
  have il : s.heap.IsList l (xs ++ [v]).toArray := ⟨_, hl, rfl, _, rfl⟩
  refine tail_any il.typeIs slot_list_getitem.lookup (wpAny_getItem_list_neg il (by decide) ?_ (by decide) ?_ h) hs
  · simp; omega
  · have : (-1 + ((xs ++ [v]).toArray.size : Int)).toNat = xs.length := by simp; omega
    rw [this]
    simp
theorem rungL_last (k : Int) (num : Nat → Int) (host : Nat → PySem.Str) : rungL k num host = ((List.range (figs k).length).map fun i => (num i, host i)) ++ [(num (figs k).length, host (figs k).length)] := by
  unfold rungL
  rw [List.range_succ, List.map_append]
  rfl
end
end Mine
namespace Mine
theorem trimT {g h : Heap} {L : Addr} {a b c d e f f2 i j k l m n : Addr × Obj} {ts : List (Addr × Obj)} (N : News g L h (a :: b :: c :: d :: e :: f :: f2 :: i :: j :: k :: l :: m :: n :: ts)) : News g L h (m :: a :: n :: f :: i :: j :: k :: l :: ts) :=
  List.forall_mem_cons.mpr ⟨N _ (.tail _ (.tail _ (.tail _ (.tail _ (.tail _ (.tail _ (.tail _ (.tail _ (.tail _ (.tail _ (.tail _ (.head _)))))))))))), List.forall_mem_cons.mpr ⟨N _ (.head _), List.forall_mem_cons.mpr ⟨N _ (.tail _ (.tail _ (.tail _ (.tail _ (.tail _ (.tail _ (.tail _ (.tail _ (.tail _ (.tail _ (.tail _ (.tail _ (.head _))))))))))))), List.forall_mem_cons.mpr ⟨N _ (.tail _ (.tail _ (.tail _ (.tail _ (.tail _ (.head _)))))), List.forall_mem_cons.mpr ⟨N _ (.tail _ (.tail _ (.tail _ (.tail _ (.tail _ (.tail _ (.tail _ (.head _)))))))), List.forall_mem_cons.mpr ⟨N _ (.tail _ (.tail _ (.tail _ (.tail _ (.tail _ (.tail _ (.tail _ (.tail _ (.head _))))))))), List.forall_mem_cons.mpr ⟨N _ (.tail _ (.tail _ (.tail _ (.tail _ (.tail _ (.tail _ (.tail _ (.tail _ (.tail _ (.head _)))))))))), List.forall_mem_cons.mpr ⟨N _ (.tail _ (.tail _ (.tail _ (.tail _ (.tail _ (.tail _ (.tail _ (.tail _ (.tail _ (.tail _ (.head _))))))))))), fun q hq => N q (.tail _ (.tail _ (.tail _ (.tail _ (.tail _ (.tail _ (.tail _ (.tail _ (.tail _ (.tail _ (.tail _ (.tail _ (.tail _ (hq))))))))))))))⟩⟩⟩⟩⟩⟩⟩⟩
theorem news_stay2 {g h h' : Heap} {L : Addr} {o73 o80 o73' o80' : Obj} {rest : List (Addr × Obj)} (N : News g L h ((73, o73) :: (80, o80) :: rest)) (S : StayX [73, 80] h h') (hne : ∀ p ∈ rest, p.1 ≠ 73 ∧ p.1 ≠ 80) (h73 : h'.get? 73 = some o73') (h80 : h'.get? 80 = some o80') : News g L h' ((73, o73') :: (80, o80') :: rest) := by
  intro p hp
  rcases List.mem_cons.mp hp with rfl | hp
  · exact ⟨h73, (N (73, o73) (.head _)).2⟩
  rcases List.mem_cons.mp hp with rfl | hp
  · exact ⟨h80, (N (80, o80) (.tail _ (.head _))).2⟩
  have n := N p (.tail _ (.tail _ hp))
  refine ⟨S _ _ ?_ n.1, n.2⟩
  intro hx
  rcases List.mem_cons.mp hx with hx | hx
  · exact (hne p hp).1 hx
  · exact (hne p hp).2 (List.mem_singleton.mp hx)
theorem two_cast (n : Nat) : ((2 ^ n : Nat) : Int) = (2 : Int) ^ n := Int.natCast_pow 2 n
theorem dig01 {ns : List Int} {wd : Int} (h : ∀ d ∈ ns, d = 0 ∨ d = 1) (hw : 9 ≤ wd) : ∀ d ∈ (0 : Int) :: 0 :: ns.reverse, 0 ≤ d ∧ d < 2 ^ wd.toNat := by
  have h2 : (2 : Int) ≤ 2 ^ wd.toNat := by
    have h3 : (2 : Nat) ≤ 2 ^ wd.toNat := Nat.le_trans (by decide : 2 ≤ 2 ^ 1) (Nat.pow_le_pow_right (by decide) (by omega))
    rw [← two_cast]
    omega
  intro d hd
  have hd2 : d = 0 ∨ d = 1 := by
    rcases List.mem_cons.mp hd with rfl | hd
    · exact .inl rfl
    rcases List.mem_cons.mp hd with rfl | hd
    · exact .inl rfl
    exact h d (List.mem_reverse.mp hd)
  omega
theorem pow_small {wd : Int} (hw : 9 ≤ wd) (hw2 : wd ≤ 16) : (0 : Int) < 2 ^ wd.toNat ∧ (2 : Int) ^ wd.toNat ≤ 65536 := by
  have h1 : (2 : Nat) ^ wd.toNat ≤ 65536 := Nat.le_trans (Nat.pow_le_pow_right (by decide) (by omega)) (by decide : 2 ^ 16 ≤ 65536)
  have h2 : 0 < (2 : Nat) ^ wd.toNat := Nat.pow_pos (by decide)
  rw [← two_cast]
  omega
end Mine
namespace Mine
theorem pickI {vs : List Value} {ns : List Int} {G : Prop} (h : IntsAre vs ns) (k : ∀ ws, ws = vs → G) : G := k vs rfl
end Mine
namespace Mine
theorem trimU {g h : Heap} {L : Addr} {a b c d e f i j k : Addr × Obj} {ts : List (Addr × Obj)} (N : News g L h (a :: ([] ++ b :: c :: d :: e :: f :: i :: j :: k :: ts))) : News g L h (d :: b :: a :: e :: f :: i :: j :: k :: ts) :=
  List.forall_mem_cons.mpr ⟨N _ (.tail _ (.tail _ (.tail _ (.head _)))), List.forall_mem_cons.mpr ⟨N _ (.tail _ (.head _)), List.forall_mem_cons.mpr ⟨N _ (.head _), List.forall_mem_cons.mpr ⟨N _ (.tail _ (.tail _ (.tail _ (.tail _ (.head _))))), List.forall_mem_cons.mpr ⟨N _ (.tail _ (.tail _ (.tail _ (.tail _ (.tail _ (.head _)))))), List.forall_mem_cons.mpr ⟨N _ (.tail _ (.tail _ (.tail _ (.tail _ (.tail _ (.tail _ (.head _))))))), List.forall_mem_cons.mpr ⟨N _ (.tail _ (.tail _ (.tail _ (.tail _ (.tail _ (.tail _ (.tail _ (.head _)))))))), List.forall_mem_cons.mpr ⟨N _ (.tail _ (.tail _ (.tail _ (.tail _ (.tail _ (.tail _ (.tail _ (.tail _ (.head _))))))))), fun q hq => N q (.tail _ (.tail _ (.tail _ (.tail _ (.tail _ (.tail _ (.tail _ (.tail _ (.tail _ (hq))))))))))⟩⟩⟩⟩⟩⟩⟩⟩
end Mine
namespace Mine
/-- a fact laid by, out of the closers' sight -/
structure Hide (P : Prop) : Prop where
  out : P
end Mine
namespace Mine
theorem ne73 {a : Addr} (h : @LT.lt Nat _ 80 a) : a ≠ 73 ∧ a ≠ 80 :=
  ⟨fun e => absurd (show @LT.lt Nat _ 80 73 from e ▸ h) (by decide), fun e => absurd (show @LT.lt Nat _ 80 80 from e ▸ h) (by decide)⟩
end Mine
namespace Mine
theorem trimV {g h : Heap} {L : Addr} {a b c d e f i j k l m : Addr × Obj} {ts : List (Addr × Obj)} (N : News g L h (a :: b :: c :: d :: e :: f :: i :: j :: k :: l :: m :: ts)) : News g L h (d :: c :: e :: f :: i :: j :: k :: l :: m :: ts) :=
  List.forall_mem_cons.mpr ⟨N _ (.tail _ (.tail _ (.tail _ (.head _)))), List.forall_mem_cons.mpr ⟨N _ (.tail _ (.tail _ (.head _))), List.forall_mem_cons.mpr ⟨N _ (.tail _ (.tail _ (.tail _ (.tail _ (.head _))))), List.forall_mem_cons.mpr ⟨N _ (.tail _ (.tail _ (.tail _ (.tail _ (.tail _ (.head _)))))), List.forall_mem_cons.mpr ⟨N _ (.tail _ (.tail _ (.tail _ (.tail _ (.tail _ (.tail _ (.head _))))))), List.forall_mem_cons.mpr ⟨N _ (.tail _ (.tail _ (.tail _ (.tail _ (.tail _ (.tail _ (.tail _ (.head _)))))))), List.forall_mem_cons.mpr ⟨N _ (.tail _ (.tail _ (.tail _ (.tail _ (.tail _ (.tail _ (.tail _ (.tail _ (.head _))))))))), List.forall_mem_cons.mpr ⟨N _ (.tail _ (.tail _ (.tail _ (.tail _ (.tail _ (.tail _ (.tail _ (.tail _ (.tail _ (.head _)))))))))), List.forall_mem_cons.mpr ⟨N _ (.tail _ (.tail _ (.tail _ (.tail _ (.tail _ (.tail _ (.tail _ (.tail _ (.tail _ (.tail _ (.head _))))))))))), fun q hq => N q (.tail _ (.tail _ (.tail _ (.tail _ (.tail _ (.tail _ (.tail _ (.tail _ (.tail _ (.tail _ (.tail _ (hq))))))))))))⟩⟩⟩⟩⟩⟩⟩⟩⟩
theorem ints_two {vs : List Value} {a b : Int} (h : IntsAre vs [a, b]) : ∃ t u, vs = [.int a t, .int b u] := by
  cases h with
  | cons _ t h =>
    cases h with
    | cons _ u h =>
      cases h
      exact ⟨_, _, rfl⟩
end Mine
namespace Mine
theorem trimW {g h : Heap} {L : Addr} {a b t73 c73 t80 c80 dl it lp la cl : Addr × Obj} {ts : List (Addr × Obj)} (N : News g L h (a :: b :: t73 :: c73 :: t80 :: c80 :: dl :: it :: lp :: la :: cl :: ts)) : News g L h (it :: lp :: la :: dl :: cl :: t80 :: t73 :: c80 :: c73 :: ts) :=
  List.forall_mem_cons.mpr ⟨N _ (.tail _ (.tail _ (.tail _ (.tail _ (.tail _ (.tail _ (.tail _ (.head _)))))))), List.forall_mem_cons.mpr ⟨N _ (.tail _ (.tail _ (.tail _ (.tail _ (.tail _ (.tail _ (.tail _ (.tail _ (.head _))))))))), List.forall_mem_cons.mpr ⟨N _ (.tail _ (.tail _ (.tail _ (.tail _ (.tail _ (.tail _ (.tail _ (.tail _ (.tail _ (.head _)))))))))), List.forall_mem_cons.mpr ⟨N _ (.tail _ (.tail _ (.tail _ (.tail _ (.tail _ (.tail _ (.head _))))))), List.forall_mem_cons.mpr ⟨N _ (.tail _ (.tail _ (.tail _ (.tail _ (.tail _ (.tail _ (.tail _ (.tail _ (.tail _ (.tail _ (.head _))))))))))), List.forall_mem_cons.mpr ⟨N _ (.tail _ (.tail _ (.tail _ (.tail _ (.head _))))), List.forall_mem_cons.mpr ⟨N _ (.tail _ (.tail _ (.head _))), List.forall_mem_cons.mpr ⟨N _ (.tail _ (.tail _ (.tail _ (.tail _ (.tail _ (.head _)))))), List.forall_mem_cons.mpr ⟨N _ (.tail _ (.tail _ (.tail _ (.head _)))), fun q hq => N q (.tail _ (.tail _ (.tail _ (.tail _ (.tail _ (.tail _ (.tail _ (.tail _ (.tail _ (.tail _ (.tail _ (hq))))))))))))⟩⟩⟩⟩⟩⟩⟩⟩⟩
theorem ne_lt {a b : Addr} (h : @LT.lt Nat _ a b) : a ≠ b := Nat.ne_of_lt h
theorem ne_gt {a b : Addr} (h : @LT.lt Nat _ b a) : a ≠ b := Nat.ne_of_gt h
end Mine
namespace Mine
theorem ts_ne {g h : Heap} {L : Addr} {news ts : List (Addr × Obj)} {R : List (Int × PySem.Str)} {vr : List Value} (N : News g L h news) (hR : Rungs R vr ts) (hts : ∀ p ∈ ts, p ∈ news) {p : Addr × Obj} (hp : p ∈ news) (hc : p.2.cls ≠ .type "tuple") : ∀ q ∈ ts, q.1 ≠ p.1 := fun q hq e => by
  have h1 := (N q (hts q hq)).1
  rw [e, (N p hp).1] at h1
  exact hc ((congrArg Obj.cls (Option.some.inj h1)).trans (rungs_cls hR q hq))
theorem trimT2 {g h : Heap} {L : Addr} {a b c d e dl df it lp la d0 cl t80 t73 c80 c73 : Addr × Obj} {ts : List (Addr × Obj)} (N : News g L h (a :: b :: c :: d :: e :: dl :: df :: it :: lp :: la :: d0 :: cl :: t80 :: t73 :: c80 :: c73 :: ts)) : News g L h (t80 :: a :: t73 :: c80 :: c73 :: dl :: it :: lp :: la :: d0 :: cl :: ts) :=
  List.forall_mem_cons.mpr ⟨N _ (.tail _ (.tail _ (.tail _ (.tail _ (.tail _ (.tail _ (.tail _ (.tail _ (.tail _ (.tail _ (.tail _ (.tail _ (.head _))))))))))))), List.forall_mem_cons.mpr ⟨N _ (.head _), List.forall_mem_cons.mpr ⟨N _ (.tail _ (.tail _ (.tail _ (.tail _ (.tail _ (.tail _ (.tail _ (.tail _ (.tail _ (.tail _ (.tail _ (.tail _ (.tail _ (.head _)))))))))))))), List.forall_mem_cons.mpr ⟨N _ (.tail _ (.tail _ (.tail _ (.tail _ (.tail _ (.tail _ (.tail _ (.tail _ (.tail _ (.tail _ (.tail _ (.tail _ (.tail _ (.tail _ (.head _))))))))))))))), List.forall_mem_cons.mpr ⟨N _ (.tail _ (.tail _ (.tail _ (.tail _ (.tail _ (.tail _ (.tail _ (.tail _ (.tail _ (.tail _ (.tail _ (.tail _ (.tail _ (.tail _ (.tail _ (.head _)))))))))))))))), List.forall_mem_cons.mpr ⟨N _ (.tail _ (.tail _ (.tail _ (.tail _ (.tail _ (.head _)))))), List.forall_mem_cons.mpr ⟨N _ (.tail _ (.tail _ (.tail _ (.tail _ (.tail _ (.tail _ (.tail _ (.head _)))))))), List.forall_mem_cons.mpr ⟨N _ (.tail _ (.tail _ (.tail _ (.tail _ (.tail _ (.tail _ (.tail _ (.tail _ (.head _))))))))), List.forall_mem_cons.mpr ⟨N _ (.tail _ (.tail _ (.tail _ (.tail _ (.tail _ (.tail _ (.tail _ (.tail _ (.tail _ (.head _)))))))))), List.forall_mem_cons.mpr ⟨N _ (.tail _ (.tail _ (.tail _ (.tail _ (.tail _ (.tail _ (.tail _ (.tail _ (.tail _ (.tail _ (.head _))))))))))), List.forall_mem_cons.mpr ⟨N _ (.tail _ (.tail _ (.tail _ (.tail _ (.tail _ (.tail _ (.tail _ (.tail _ (.tail _ (.tail _ (.tail _ (.head _)))))))))))), fun q hq => N q (.tail _ (.tail _ (.tail _ (.tail _ (.tail _ (.tail _ (.tail _ (.tail _ (.tail _ (.tail _ (.tail _ (.tail _ (.tail _ (.tail _ (.tail _ (.tail _ (hq)))))))))))))))))⟩⟩⟩⟩⟩⟩⟩⟩⟩⟩⟩
theorem trimU2 {g h : Heap} {L : Addr} {t80 a t73 c80 c73 dl it lp la d0 cl : Addr × Obj} {ts : List (Addr × Obj)} (N : News g L h ([] ++ t80 :: a :: t73 :: c80 :: c73 :: dl :: it :: lp :: la :: d0 :: cl :: ts)) : News g L h (t73 :: t80 :: c80 :: c73 :: dl :: it :: lp :: la :: d0 :: cl :: ts) :=
  List.forall_mem_cons.mpr ⟨N _ (.tail _ (.tail _ (.head _))), List.forall_mem_cons.mpr ⟨N _ (.head _), List.forall_mem_cons.mpr ⟨N _ (.tail _ (.tail _ (.tail _ (.head _)))), List.forall_mem_cons.mpr ⟨N _ (.tail _ (.tail _ (.tail _ (.tail _ (.head _))))), List.forall_mem_cons.mpr ⟨N _ (.tail _ (.tail _ (.tail _ (.tail _ (.tail _ (.head _)))))), List.forall_mem_cons.mpr ⟨N _ (.tail _ (.tail _ (.tail _ (.tail _ (.tail _ (.tail _ (.head _))))))), List.forall_mem_cons.mpr ⟨N _ (.tail _ (.tail _ (.tail _ (.tail _ (.tail _ (.tail _ (.tail _ (.head _)))))))), List.forall_mem_cons.mpr ⟨N _ (.tail _ (.tail _ (.tail _ (.tail _ (.tail _ (.tail _ (.tail _ (.tail _ (.head _))))))))), List.forall_mem_cons.mpr ⟨N _ (.tail _ (.tail _ (.tail _ (.tail _ (.tail _ (.tail _ (.tail _ (.tail _ (.tail _ (.head _)))))))))), List.forall_mem_cons.mpr ⟨N _ (.tail _ (.tail _ (.tail _ (.tail _ (.tail _ (.tail _ (.tail _ (.tail _ (.tail _ (.tail _ (.head _))))))))))), fun q hq => N q (.tail _ (.tail _ (.tail _ (.tail _ (.tail _ (.tail _ (.tail _ (.tail _ (.tail _ (.tail _ (.tail _ (hq))))))))))))⟩⟩⟩⟩⟩⟩⟩⟩⟩⟩
theorem trimV2 {g h : Heap} {L : Addr} {a b t73 t80 c80 c73 dl it lp la d0 cl : Addr × Obj} {ts : List (Addr × Obj)} (N : News g L h (a :: b :: t73 :: t80 :: c80 :: c73 :: dl :: it :: lp :: la :: d0 :: cl :: ts)) : News g L h (t73 :: t80 :: c80 :: c73 :: dl :: it :: lp :: la :: d0 :: cl :: ts) := fun q hq => N q (.tail _ (.tail _ hq))
theorem trimW2 {g h : Heap} {L : Addr} {a b t73 t80 c80 c73 dl it lp la d0 cl : Addr × Obj} {ts : List (Addr × Obj)} (N : News g L h (a :: b :: t73 :: t80 :: c80 :: c73 :: dl :: it :: lp :: la :: d0 :: cl :: ts)) : News g L h (it :: lp :: la :: d0 :: dl :: cl :: t80 :: t73 :: ts) :=
  List.forall_mem_cons.mpr ⟨N _ (.tail _ (.tail _ (.tail _ (.tail _ (.tail _ (.tail _ (.tail _ (.head _)))))))), List.forall_mem_cons.mpr ⟨N _ (.tail _ (.tail _ (.tail _ (.tail _ (.tail _ (.tail _ (.tail _ (.tail _ (.head _))))))))), List.forall_mem_cons.mpr ⟨N _ (.tail _ (.tail _ (.tail _ (.tail _ (.tail _ (.tail _ (.tail _ (.tail _ (.tail _ (.head _)))))))))), List.forall_mem_cons.mpr ⟨N _ (.tail _ (.tail _ (.tail _ (.tail _ (.tail _ (.tail _ (.tail _ (.tail _ (.tail _ (.tail _ (.head _))))))))))), List.forall_mem_cons.mpr ⟨N _ (.tail _ (.tail _ (.tail _ (.tail _ (.tail _ (.tail _ (.head _))))))), List.forall_mem_cons.mpr ⟨N _ (.tail _ (.tail _ (.tail _ (.tail _ (.tail _ (.tail _ (.tail _ (.tail _ (.tail _ (.tail _ (.tail _ (.head _)))))))))))), List.forall_mem_cons.mpr ⟨N _ (.tail _ (.tail _ (.tail _ (.head _)))), List.forall_mem_cons.mpr ⟨N _ (.tail _ (.tail _ (.head _))), fun q hq => N q (.tail _ (.tail _ (.tail _ (.tail _ (.tail _ (.tail _ (.tail _ (.tail _ (.tail _ (.tail _ (.tail _ (.tail _ (hq)))))))))))))⟩⟩⟩⟩⟩⟩⟩⟩
theorem trimS {g h : Heap} {L : Addr} {a b c dl df it lp la cl t80 t73 : Addr × Obj} {ts : List (Addr × Obj)} (N : News g L h (a :: b :: c :: dl :: df :: it :: lp :: la :: cl :: t80 :: t73 :: ts)) : News g L h (t80 :: a :: t73 :: dl :: it :: lp :: la :: cl :: ts) :=
  List.forall_mem_cons.mpr ⟨N _ (.tail _ (.tail _ (.tail _ (.tail _ (.tail _ (.tail _ (.tail _ (.tail _ (.tail _ (.head _)))))))))), List.forall_mem_cons.mpr ⟨N _ (.head _), List.forall_mem_cons.mpr ⟨N _ (.tail _ (.tail _ (.tail _ (.tail _ (.tail _ (.tail _ (.tail _ (.tail _ (.tail _ (.tail _ (.head _))))))))))), List.forall_mem_cons.mpr ⟨N _ (.tail _ (.tail _ (.tail _ (.head _)))), List.forall_mem_cons.mpr ⟨N _ (.tail _ (.tail _ (.tail _ (.tail _ (.tail _ (.head _)))))), List.forall_mem_cons.mpr ⟨N _ (.tail _ (.tail _ (.tail _ (.tail _ (.tail _ (.tail _ (.head _))))))), List.forall_mem_cons.mpr ⟨N _ (.tail _ (.tail _ (.tail _ (.tail _ (.tail _ (.tail _ (.tail _ (.head _)))))))), List.forall_mem_cons.mpr ⟨N _ (.tail _ (.tail _ (.tail _ (.tail _ (.tail _ (.tail _ (.tail _ (.tail _ (.head _))))))))), fun q hq => N q (.tail _ (.tail _ (.tail _ (.tail _ (.tail _ (.tail _ (.tail _ (.tail _ (.tail _ (.tail _ (.tail _ (hq))))))))))))⟩⟩⟩⟩⟩⟩⟩⟩
theorem trimS2 {g h : Heap} {L : Addr} {a b c dl df it lp la d0 cl t80 t73 c80 c73 : Addr × Obj} {ts : List (Addr × Obj)} (N : News g L h (a :: b :: c :: dl :: df :: it :: lp :: la :: d0 :: cl :: t80 :: t73 :: c80 :: c73 :: ts)) : News g L h (t80 :: a :: t73 :: c80 :: c73 :: dl :: it :: lp :: la :: d0 :: cl :: ts) :=
  List.forall_mem_cons.mpr ⟨N _ (.tail _ (.tail _ (.tail _ (.tail _ (.tail _ (.tail _ (.tail _ (.tail _ (.tail _ (.tail _ (.head _))))))))))), List.forall_mem_cons.mpr ⟨N _ (.head _), List.forall_mem_cons.mpr ⟨N _ (.tail _ (.tail _ (.tail _ (.tail _ (.tail _ (.tail _ (.tail _ (.tail _ (.tail _ (.tail _ (.tail _ (.head _)))))))))))), List.forall_mem_cons.mpr ⟨N _ (.tail _ (.tail _ (.tail _ (.tail _ (.tail _ (.tail _ (.tail _ (.tail _ (.tail _ (.tail _ (.tail _ (.tail _ (.head _))))))))))))), List.forall_mem_cons.mpr ⟨N _ (.tail _ (.tail _ (.tail _ (.tail _ (.tail _ (.tail _ (.tail _ (.tail _ (.tail _ (.tail _ (.tail _ (.tail _ (.tail _ (.head _)))))))))))))), List.forall_mem_cons.mpr ⟨N _ (.tail _ (.tail _ (.tail _ (.head _)))), List.forall_mem_cons.mpr ⟨N _ (.tail _ (.tail _ (.tail _ (.tail _ (.tail _ (.head _)))))), List.forall_mem_cons.mpr ⟨N _ (.tail _ (.tail _ (.tail _ (.tail _ (.tail _ (.tail _ (.head _))))))), List.forall_mem_cons.mpr ⟨N _ (.tail _ (.tail _ (.tail _ (.tail _ (.tail _ (.tail _ (.tail _ (.head _)))))))), List.forall_mem_cons.mpr ⟨N _ (.tail _ (.tail _ (.tail _ (.tail _ (.tail _ (.tail _ (.tail _ (.tail _ (.head _))))))))), List.forall_mem_cons.mpr ⟨N _ (.tail _ (.tail _ (.tail _ (.tail _ (.tail _ (.tail _ (.tail _ (.tail _ (.tail _ (.head _)))))))))), fun q hq => N q (.tail _ (.tail _ (.tail _ (.tail _ (.tail _ (.tail _ (.tail _ (.tail _ (.tail _ (.tail _ (.tail _ (.tail _ (.tail _ (.tail _ (hq)))))))))))))))⟩⟩⟩⟩⟩⟩⟩⟩⟩⟩⟩
theorem trimE {g h : Heap} {L : Addr} {a b c d e f i j k l : Addr × Obj} {ts : List (Addr × Obj)} (N : News g L h (a :: b :: c :: d :: e :: f :: i :: j :: k :: l :: ts)) : News g L h (a :: c :: e :: f :: i :: j :: k :: l :: ts) :=
  List.forall_mem_cons.mpr ⟨N _ (.head _), List.forall_mem_cons.mpr ⟨N _ (.tail _ (.tail _ (.head _))), List.forall_mem_cons.mpr ⟨N _ (.tail _ (.tail _ (.tail _ (.tail _ (.head _))))), List.forall_mem_cons.mpr ⟨N _ (.tail _ (.tail _ (.tail _ (.tail _ (.tail _ (.head _)))))), List.forall_mem_cons.mpr ⟨N _ (.tail _ (.tail _ (.tail _ (.tail _ (.tail _ (.tail _ (.head _))))))), List.forall_mem_cons.mpr ⟨N _ (.tail _ (.tail _ (.tail _ (.tail _ (.tail _ (.tail _ (.tail _ (.head _)))))))), List.forall_mem_cons.mpr ⟨N _ (.tail _ (.tail _ (.tail _ (.tail _ (.tail _ (.tail _ (.tail _ (.tail _ (.head _))))))))), List.forall_mem_cons.mpr ⟨N _ (.tail _ (.tail _ (.tail _ (.tail _ (.tail _ (.tail _ (.tail _ (.tail _ (.tail _ (.head _)))))))))), fun q hq => N q (.tail _ (.tail _ (.tail _ (.tail _ (.tail _ (.tail _ (.tail _ (.tail _ (.tail _ (.tail _ (hq)))))))))))⟩⟩⟩⟩⟩⟩⟩⟩
end Mine
end
section
set_option maxRecDepth 100000
set_option maxHeartbeats 8000000
set_option linter.unusedVariables false
set_option autoImplicit false
namespace Mine
section
variable {prog : Program} {w : World} {A : Around} {s : Shared} {env : Env} {h₀ : Heap} {x : PySem.Str} {px : Pos} {body : List Stmt} {R : Result → Shared → Prop}
/-- every turn keeps J -/
theorem restS_all {I : Addr} {lp : Addr × Obj} (J : (PySem.Str → Option Value) → List (Addr × Obj) → Prop) :
    ∀ (vs : List Value),
    (∀ v, v ∈ vs → ∀ m n (it : Obj) h tk, J m n → it.cls = .type "list_iterator" → Fr h₀ env.locals h (fun y => if y = x then some v else m y) → News h₀ env.locals h ((I, it) :: n) →
      wpS (model prog w) A (execs body env) (TurnEnd h₀ env.locals (fun m' n' => lp ∈ n' ∧ J m' n') I it { s with heap := h, toks := tk }) { s with heap := h, toks := tk }) →
    (∀ m n h tk, J m n → Fr h₀ env.locals h m → News h₀ env.locals h n → R (.ok .next) { s with heap := h, toks := tk }) →
    ∀ m news, J m news → RestS prog w A h₀ env x body R s I lp vs m news
  | [], _, done, m, news, hJ => fun h tk F N => done m news h tk hJ F N
  | v :: r, turn, done, m, news, hJ => fun it h tk hc F N =>
    wpS_mono (turn v (.head _) m news it h tk hJ hc F N) fun f s₂ q => by
      obtain ⟨rfl, h', tk', m', n', rfl, F', N', hne, hl, hJ'⟩ := q
      exact ⟨rfl, h', tk', m', n', rfl, F', N', hne, hl, restS_all J r (fun u hu => turn u (.tail _ hu)) done m' n' hJ'⟩
end
/-- a name that the map holds is written out -/
theorem fr_name {g h : Heap} {L : Addr} {a b : PySem.Str} {u : Option Value} {v : Value} {m : PySem.Str → Option Value} (F : Fr g L h (fun y => if y = a then u else m y)) (hb : m b = some v) : Fr g L h (fun y => if y = a then u else if y = b then some v else m y) := by
  have e : (fun y => if y = a then u else if y = b then some v else m y) = (fun y => if y = a then u else m y) := by
    funext y
    by_cases h1 : y = a
    · rw [if_pos h1, if_pos h1]
    · rw [if_neg h1, if_neg h1]
      by_cases h2 : y = b
      · rw [if_pos h2, h2, hb]
      · rw [if_neg h2]
  rw [e]; exact F
theorem fr_name0 {g h : Heap} {L : Addr} {b : PySem.Str} {v : Value} {m : PySem.Str → Option Value} (F : Fr g L h m) (hb : m b = some v) : Fr g L h (fun y => if y = b then some v else m y) := by
  have e : (fun y => if y = b then some v else m y) = m := by
    funext y
    by_cases h2 : y = b
    · rw [if_pos h2, h2, hb]
    · rw [if_neg h2]
  rw [e]; exact F
/-- p is among R -/
noncomputable def inR (R : List (Int × PySem.Str)) (p : Int × PySem.Str) : Bool := R.any fun q => q.1 == p.1 && q.2 == p.2
theorem inR_iff {R : List (Int × PySem.Str)} {p : Int × PySem.Str} : inR R p = true ↔ p ∈ R := by
  unfold inR
  rw [List.any_eq_true]
  constructor
  · rintro ⟨q, hq, e⟩
    obtain ⟨e1, e2⟩ := Bool.and_eq_true_iff.mp e
    have : q = p := Prod.ext (eq_of_beq e1) (eq_of_beq e2)
    exact this ▸ hq
  · intro h
    exact ⟨p, h, by simp⟩
noncomputable abbrev tupO (n : Int) (t : Tok) (x : PySem.Str) (u : Tok) (c : Nat) : Obj := { cls := .type "tuple", data := .seq #[.int n t, .str x u] c }
/-- the first of the rungs -/
theorem rungs_first : ∀ {R : List (Int × PySem.Str)} {vr : List Value} {ts : List (Addr × Obj)}, DatAll ts vr (R.map rungD) → R ≠ [] → ∃ p R' D vs' t u c, R = p :: R' ∧ vr = .ref D :: vs' ∧ (D, tupO p.1 t p.2 u c) ∈ ts ∧ DatAll ts vs' (R'.map rungD)
  | [], _, _, _, h => absurd rfl h
  | p :: R', _, ts, hd, _ => by
    rw [List.map_cons] at hd
    cases hd with
    | cons h1 h2 =>
      unfold rungD at h1
      cases h1 with
      | @tuple a ws c ds hm h3 =>
        cases h3 with
        | cons k1 k2 =>
          cases k1
          cases k2 with
          | cons k3 k4 =>
            cases k3
            cases k4
            exact ⟨p, R', a, _, _, _, c, rfl, rfl, hm, h2⟩
section
variable {prog : Program} {w : World} {A : Around} {E : Value → Shared → Prop} {s : Shared} {g : Heap} {L : Addr} {news ts n₁ n₂ : List (Addr × Obj)} {Q : Value → Shared → Prop}
theorem in_rungs {D : Addr} {R : List (Int × PySem.Str)} {p : Int × PySem.Str} {v : Value} {vr : List Value} {c : Nat} (N : News g L s.heap news) (hD : DatAll n₁ vr (R.map rungD)) (hts : ∀ p ∈ n₁, p ∈ news) (m1 : (D, W.listOf vr.toArray c) ∈ news)
    (hv : DatIn n₂ v (rungD p)) (hs2 : ∀ p ∈ n₂, p ∈ news) (hs : ∀ p ∈ R, PyData.strOk p.2 = true) (hp : PyData.strOk p.2 = true) (hu : A.units + 64 < cLine) (h : Q (.bool (inR R p)) s) : wpAny (model prog w) A (compareOp .In v (.ref D)) Q E s := by
  classical
  refine kqd_isIn (xs := vr) (ds := R.map rungD) N m1 rfl rfl hD hts hv hs2 (rungs_ok hs) (rung_ok hp) hu ?_
  have e : ∀ i : Decidable (rungD p ∈ R.map rungD), @decide _ i = inR R p := fun i => by
    rw [Bool.eq_iff_iff, decide_eq_true_iff, inR_iff]
    constructor
    · intro hm
      obtain ⟨q, hq, e⟩ := List.mem_map.mp hm
      exact rungD_inj e ▸ hq
    · exact fun hm => List.mem_map_of_mem hm
  rw [e]
  exact h
end
end Mine
namespace Mine
theorem pick_tail (v : Value) (vx : List Value) : slicePick (v :: vx).toArray (some 1) none none = vx.toArray := by
  have e : sliceBounds (some 1) none none (v :: vx).toArray.size = (((1 : Nat) : Int), (((v :: vx).toArray.size : Nat) : Int), 1) := by
    have h : min ((1 : Int).toNat) (v :: vx).toArray.size = 1 := by
      simp
    simp only [sliceBounds, Option.getD_none, show (1 : Int) > 0 by decide, if_true, if_neg (show ¬ ((1 : Int) < 0) by decide)]
    have h2 : ((v :: vx).toArray.size : Int) = (vx.length : Int) + 1 := by simp
    congr 1
    first | omega | (rw [h2]; omega)
  rw [kmk_pick_nat _ e]
  simp
section
variable {prog : Program} {w : World} {A : Around} {E : Value → Shared → Prop} {s : Shared} {g : Heap} {L l : Addr} {m : PySem.Str → Option Value} {news : List (Addr × Obj)} {Q : Value → Shared → Prop}
theorem slice_tail {value slice : PySem.Expr} {v : Value} {vx : List Value} {t : Tok} {c : Nat} (F : Fr g L s.heap m) (N : News g L s.heap news) (hl : (l, W.listOf (v :: vx).toArray c) ∈ news) (hz : vx.length ≤ 1000)
    (h : ∀ D h', Fr g L h' m → News g L h' ((D, W.listOf vx.toArray 0) :: news) → (∀ p ∈ news, p.1 < D) → Q (.ref D) { s with heap := h' })
    (hs : subscripted slice false (.ref l) (.ref s.heap.objs.size) = operate [.ref s.heap.objs.size, .ref l] (getItem (.ref l) (.ref s.heap.objs.size))) (ht : ∀ r, letTemporaryGo value (.ref l) r = pure ()) :
    wpAny (model prog w) A (subscriptTail value slice (.ref l) (.ref s.heap.objs.size)) Q E { s with heap := s.heap.push { cls := .type "slice", data := .fields #[.int 1 t, .none, .none] } } := by
  refine kmk_slice F N ⟨_, (N _ hl).1, rfl, _, rfl⟩ (.int _ _) .none (fun D h' F' N' l1 => h D h' F' ?_ l1) hs ht (by simp [sizeLine_eq]; omega)
  rw [pick_tail] at N'
  exact N'
end
end Mine
end
section
set_option maxRecDepth 100000
set_option maxHeartbeats 8000000
set_option linter.unusedVariables false
set_option autoImplicit false
namespace Mine
theorem segA (w : World) {oc : Value} {od : Option Addr} {osl : Array (Option Value)} {name qual : PySem.Str} {params : Arguments} {a0 a1 a2 a3 a4 : Stmt} {tgt iter : PySem.Expr} {s0 s1 s2 : Stmt} {tb rs : List Stmt} {pos : Pos} {scope : Scope} {dV kV doc pm cdv ct : Value} {an : Option Addr} (s : Shared) (g : Heap) (L : Addr) (lo up wd bs k : Int) (tk0 t1 t2 : Tok) (P D R W0 : PySem.Str) (O : Array UInt8) (J : PySem.Str) (num : Nat → Int) (host ups : Nat → PySem.Str)
    (p : Program) (loose : List PySem.Str) (mean : ExcName → Option Value) (mg mb : PySem.Str → Option Value) (m : PySem.Str → Option Value) (n : List (Addr × Obj)) (h : Heap) (tk : Nat) (Q : Flow → Shared → Prop) :
    (hd.heap_39 w.params).lookup 169 = some ⟨oc, od, .func (fnOf name qual params (a0 :: a1 :: a2 :: a3 :: a4 :: Stmt.For tgt iter (s0 :: s1 :: s2 :: tb) [] pos :: rs) scope dV kV doc pm an cdv ct), osl⟩ → TurnOk lo up wd bs k P D R W0 O J num host ups → Below callerA g [] g → Frag.In (hd.heap_39 w.params) g → Top p loose mean mg mb g →
    m (PySem.Str.ofString "upper") = some (.int up t2) → m (PySem.Str.ofString "lower") = some (.int lo t1) → Fr g L h (fun y => if y = PySem.Str.ofString "number" then some (.int k tk0) else m y) → News g L h n →
    (∀ (h' : Heap) (tk' : Nat) (Dl Df : Addr) (vr vsf : List Value) (cr cf : Nat) (ts : List (Addr × Obj)), Fr g L h' (fun y => if y = PySem.Str.ofString "ladder" then some (.ref Dl) else if y = PySem.Str.ofString "figures" then some (.ref Df) else if y = PySem.Str.ofString "number" then some (.int k tk0) else m y) →
      News g L h' ((Dl, W.listOf vr.toArray cr) :: (Df, W.listOf vsf.toArray cf) :: (n ++ ts)) → IntsAre vsf (figs k) → Rungs (rungL k num host) vr ts → (∀ p ∈ n, ∀ q ∈ ts, q.1 ≠ p.1) → AllNe Dl n →
      wpS (model PySem.Challenge.rw_zo0035_01.row.prog w) (callerA.deeper (envOfC qual scope L 169 cdv)) (execs tb (envOfC qual scope L 169 cdv)) Q { s with heap := h', toks := tk' }) →
    wpS (model PySem.Challenge.rw_zo0035_01.row.prog w) (callerA.deeper (envOfC qual scope L 169 cdv)) (execs (s0 :: s1 :: s2 :: tb) (envOfC qual scope L 169 cdv)) Q { s with heap := h, toks := tk } := by
  k_fill
  k_with_none
  w_top off
  intro hb ok B' X' T' hmu hml F3 N3 cont
  have e : _ = some _ := hb.symm.trans (by k_is)
  cases e
  clear hb
  have F4 := fr_name (fr_name F3 hml) (b := PySem.Str.ofString "upper") (v := .int up t2) (by rw [if_neg (by decide)]; exact hmu)
  clear F3
  try k_fold
  k_with "call ref" => (refine halt ?_)
  refine execsS_cons (wpS_of ?_)
  try k_fold
  k_steps
  refine ⟨?_⟩
  rename Fr _ _ _ _ => F7
  rename News _ _ _ _ => N7
  refine' use0 (S145 _ _ _) ?k1 ?k2 ?k3 ?k4 ?k5 ?k6 ?k7 ?k8 ?k9 ?_
  case k1 => k_asm
  case k2 => k_asm
  case k3 => k_asm
  case k4 => k_asm
  case k5 => k_asm
  case k6 => first | exact rfl | assumption
  case k7 => exact ⟨ok.k0, ok.k1⟩
  case k8 => ktr_room
  case k9 => ktr_units
  intro v9 h9 tk9 st9 F9 N9 po9
  obtain ⟨vsf, cf, ⟨Df, rfl, nf, ef⟩, If⟩ := po9
  have p0 := allNe_of N7 nf
  have N10 := news_new F7 N9 nf ef
  clear N9 F7 N7
  try dsimp only
  try k_fold
  k_steps
  refine execsS_cons (execS_Assign (evalS_Call (f := .ref 164) (k := .frame) ?n (.inl rfl) ?a (by rfl) (by rfl)) (by rfl))
  case n =>
    try k_fold
    k_steps
  case a =>
    refine splicedS_e (wpS_of ?_) (by rfl)
    try k_fold
    k_steps
    refine splicedS_e (evalS_Call (f := .ref 157) (k := .frame) ?n (.inl rfl) (wpS_of ?b) (by rfl) (by rfl)) (by rfl)
    case n =>
      try k_fold
      k_steps
    case b =>
      try k_fold
      k_steps
      · exact looks_fn ((X'.keeps (Fr.keep (by assumption))) 157 _ rfl) rfl
      · try k_fold
        rename Fr _ _ _ _ => F7
        rename News _ _ _ _ => N7
        refine' useS (S157 w Df cf vsf (figs k) P D R W0 O J (host 0)) ?k1 ?k2 ?k3 ?k4 ?k5 ?k6 ?k7 ?k8 ?k9 ?_
        case k1 => k_asm
        case k2 => k_asm
        case k3 => k_asm
        case k4 => k_asm
        case k5 => k_asm
        case k6 => first | exact rfl | assumption
        case k7 => exact ⟨(N7 _ (.head _)).1, If, by have := ok.l20; omega, ok.b01, ok.hq, ok.lP, ok.lD, ok.lR, ok.lW, ok.lO, ok.lO2, ok.lJ⟩
        case k8 => ktr_room
        case k9 => ktr_units
        intro v9 h9 tk9 st9 F9 N9 po9
        obtain ⟨t6, rfl⟩ := po9
        clear N7 F7
        try dsimp only
        refine wpS_of ?_
        try k_fold
        k_steps
        · exact looks_fn ((X'.keeps (Fr.keep (by assumption))) 164 _ rfl) rfl
        try k_fold
        rename Fr _ _ _ _ => F7
        rename News _ _ _ _ => N7
        have SL := S164 w 0 lo up (PySem.Str.ofString "") Df cf vsf (figs k) tk0 t6 t1 t2 num host ups
        rw [ok.n0] at SL
        refine wpS_of ?_
        refine' use0 SL ?k1 ?k2 ?k3 ?k4 ?k5 ?k6 ?k7 ?k8 ?k9 ?_
        case k1 => k_asm
        case k2 => k_asm
        case k3 => k_asm
        case k4 => k_asm
        case k5 => k_asm
        case k6 => first | exact rfl | assumption
        case k7 => exact ⟨(N7 _ (.head _)).1, If, by have := ok.l20; omega, ok.st, ok.up0, ok.up1⟩
        case k8 => ktr_room
        case k9 => ktr_units
        intro v9 h9 tk9 st9 F9 N9 po9
        obtain ⟨vr, cr, ts, ⟨Dl, rfl, nl, el⟩, hR, hf⟩ := po9
        have zz : ∀ p ∈ n, ∀ q ∈ ts, q.1 ≠ p.1 := fun p hp => fresh_ne N7 hf (.tail _ hp)
        have rr := (allNe_of N7 nl).2
        have N10 := news_app F7 (news_new F7 N9 nl el) hf
        simp only [List.cons_append, List.nil_append] at N10
        clear N9 F7 N7 hf SL
        try dsimp only
        try k_fold
        k_steps
        refine execsS_cons (wpS_of ?_)
        k_with "compareOp Eq ref ref" => (refine halt ?_)
        try k_fold
        k_steps
        refine ⟨?_⟩
        rename News _ _ _ _ => N7
        have hso : ∀ p ∈ rungL k num host, PyData.strOk p.2 = true := fun p hp => by
          obtain ⟨i, hi, rfl⟩ := List.mem_map.mp hp
          exact ok.so i (by have := List.mem_range.mp hi; omega)
        refine' eq_nil (R := rungL k num host) N7 hR ?t1 (.tail _ (.head _)) (.head _) ?t2 hso ?t3 ?_
        case t1 => exact fun p hp => .tail _ (.tail _ (.tail _ (List.mem_append_right _ hp)))
        case t2 => rw [rungL_last]; simp
        case t3 => ktr_units
        have hR2 : Rungs (rungL k num host) vr ts := hR
        rw [rungL_last, ok.e0, ok.e1] at hR2
        obtain ⟨vr', Dz, rfl, hDz⟩ := rungs_last hR2
        k_with "subscriptTail" => (refine halt ?_)
        try dsimp only
        try k_fold
        k_steps
        refine ⟨?_⟩
        have hvl : vr'.length ≤ 1000 := by
          have h1 := rungs_len hR2
          have h2 := ok.l20
          simp at h1 h2
          omega
        refine item_last (N7 _ (.tail _ (.head _))).1 hvl ?_ (by with_unfolding_all rfl)
        k_with "compareOp NotEq ref ref" => (refine halt ?_)
        try dsimp only
        try k_fold
        k_steps
        refine ⟨?_⟩
        rename Fr _ _ _ _ => F7
        rename News _ _ _ _ => N7
        refine' use0 (S57 w _ _) ?k1 ?k2 ?k3 ?k4 ?k5 ?k6 ?k7 ?k8 ?k9 ?_
        case k1 => k_asm
        case k2 => k_asm
        case k3 => k_asm
        case k4 => k_asm
        case k5 => k_asm
        case k6 => first | exact rfl | assumption
        case k7 => exact ⟨by decide, lo_hdn⟩
        case k8 => ktr_room
        case k9 => ktr_units
        intro v9 h9 tk9 st9 F9 N9 po9
        obtain ⟨t8, rfl⟩ := po9
        rw [lo_reach]
        clear N7 F7
        try dsimp only
        try k_fold
        k_steps
        refine ⟨?_⟩
        rename News _ _ _ _ => N7
        refine ne_dat (d := rungD (0, PySem.Str.ofString "local")) (e := rungD (0, PySem.Str.ofString "local")) N7 hDz ?s1 (DatIn.tuple (.head _) (.cons (.int _ _) (.cons (.str _ _) .nil))) (fun _ h => h) ?s2 ?s3 ?s4 ?s5
        case s1 => exact fun p hp => by repeat (first | exact hp | exact List.mem_append_right _ hp | apply List.Mem.tail)
        case s2 => decide +kernel
        case s3 => decide +kernel
        case s4 => ktr_units
        case s5 =>
          intro c0 hc0
          have hc1 : c0 = false := by
            cases c0 with
            | false => rfl
            | true => exact absurd rfl (hc0.mp rfl)
          subst hc1
          clear hc0
          try dsimp only
          try k_fold
          k_steps
          k_with_none
          rename Fr _ _ _ _ => F7
          have e2 : (fun y => if y = PySem.Str.ofString "upper" then some (Value.int up t2) else if y = PySem.Str.ofString "lower" then some (Value.int lo t1) else m y) = m := funext fun y => by
            by_cases h1 : y = PySem.Str.ofString "upper"
            · rw [if_pos h1, h1, hmu]
            · rw [if_neg h1]
              by_cases h2 : y = PySem.Str.ofString "lower"
              · rw [if_pos h2, h2, hml]
              · rw [if_neg h2]
          have F8 : Fr g L _ (fun y => if y = PySem.Str.ofString "ladder" then some (.ref Dl) else if y = PySem.Str.ofString "figures" then some (.ref Df) else if y = PySem.Str.ofString "number" then some (.int k tk0) else (fun y => if y = PySem.Str.ofString "upper" then some (Value.int up t2) else if y = PySem.Str.ofString "lower" then some (Value.int lo t1) else m y) y) := F7
          rw [e2] at F8
          rename News _ _ _ (_ :: _ :: _ :: _) => N9
          exact cont _ _ Dl Df _ vsf cr cf ts F8 (fun q hq => N9 q (.tail _ (.tail _ hq))) If hR zz rr
end Mine
end
section
set_option maxRecDepth 100000
set_option maxHeartbeats 8000000
set_option linter.unusedVariables false
set_option autoImplicit false
namespace Mine
theorem segBf (w : World) {oc : Value} {od : Option Addr} {osl : Array (Option Value)} {name qual : PySem.Str} {params : Arguments} {a0 a1 a2 a3 a4 : Stmt} {tgt iter : PySem.Expr} {s0 s1 s2 s3 s4 : Stmt} {tb rs : List Stmt} {pos : Pos} {scope : Scope} {dV kV doc pm cdv ct : Value} {an : Option Addr} (s : Shared) (g : Heap) (L Df : Addr) (vsf : List Value) (cf : Nat) (lo up bs tl k : Int) (tt ta : Tok) (P D R W0 : PySem.Str) (O : Array UInt8) (J : PySem.Str) (num : Nat → Int) (host ups : Nat → PySem.Str)
    (p : Program) (loose : List PySem.Str) (mean : ExcName → Option Value) (mg mb : PySem.Str → Option Value) (m : PySem.Str → Option Value) (n : List (Addr × Obj)) (h : Heap) (tk : Nat) (Q : Flow → Shared → Prop) :
    (hd.heap_39 w.params).lookup 169 = some ⟨oc, od, .func (fnOf name qual params (a0 :: a1 :: a2 :: a3 :: a4 :: Stmt.For tgt iter (s0 :: s1 :: s2 :: s3 :: s4 :: tb) [] pos :: rs) scope dV kV doc pm an cdv ct), osl⟩ → TurnOk lo up (9 + tl.fmod 8) bs k P D R W0 O J num host ups → 0 ≤ tl → Below callerA g [] g → Frag.In (hd.heap_39 w.params) g → Top p loose mean mg mb g → CodeHd g 84 80 ∧ CodeHd g 77 73 →
    (∀ q ∈ n, q.1 ≠ 73 ∧ q.1 ≠ 80) → IntsAre vsf (figs k) → m (PySem.Str.ofString "total") = some (.int tl tt) → m (PySem.Str.ofString "base") = some (.int bs ta) → m (PySem.Str.ofString "figures") = some (.ref Df) → Fr g L h m → News g L h ((80, tabObj #[]) :: (73, tabObj #[]) :: (Df, W.listOf vsf.toArray cf) :: n) →
    (∀ (h' : Heap) (tk' : Nat) (u : Option Value) (tr : Tok) (c73 c80 : Addr) (o73 o80 : Obj), CodeOf o80 q80 → CodeOf o73 q73 → (c80 ≠ 80 ∧ c73 ≠ 80 ∧ c80 ≠ 73 ∧ c73 ≠ 73) → AllNe c80 n → AllNe c73 n → Fr g L h' (fun y => if y = PySem.Str.ofString "rest" then some (.int ((horn (2 ^ (9 + tl.fmod 8).toNat) (0 :: 0 :: (figs k).reverse)) % (bs * bs - bs - 1)) tr) else if y = PySem.Str.ofString "whole" then u else m y) → News g L h' ((73, tabObj #[rawInt 66, rawInt 4, .ref c73]) :: (80, tabObj #[rawInt 81, rawInt 4, .ref c80]) :: (c80, o80) :: (c73, o73) :: n) → wpS (model PySem.Challenge.rw_zo0035_01.row.prog w) (callerA.deeper (envOfC qual scope L 169 cdv)) (execs tb (envOfC qual scope L 169 cdv)) Q { s with heap := h', toks := tk' }) →
    wpS (model PySem.Challenge.rw_zo0035_01.row.prog w) (callerA.deeper (envOfC qual scope L 169 cdv)) (execs (s3 :: s4 :: tb) (envOfC qual scope L 169 cdv)) Q { s with heap := h, toks := tk } := by
  k_fill
  k_with_none
  w_top off
  intro hb ok htl B' X' T' ⟨C80, C73⟩ e4 If m0 m1 m2 F3 N3 cont
  have e : _ = some _ := hb.symm.trans (by k_is)
  cases e
  clear hb
  have F10 := fr_name0 (b := PySem.Str.ofString "total") (v := .int tl tt) F3 (m0)
  have F11 := fr_name0 (b := PySem.Str.ofString "base") (v := .int bs ta) F10 ((if_neg (by decide)).trans (m1))
  have F12 := fr_name0 (b := PySem.Str.ofString "figures") (v := .ref Df) F11 ((if_neg (by decide)).trans ((if_neg (by decide)).trans (m2)))
  clear F3 F10 F11
  have hl20 := ok.l20
  have ow0 := ok.w0
  have ow1 := ok.w1
  try k_fold
  k_with "call ref" => (refine halt ?_)
  refine execsS_cons (wpS_of ?_)
  try k_fold
  k_steps
  refine ⟨?_⟩
  rename Fr _ _ _ _ => F7
  rename News _ _ _ _ => N7
  rename IntsAre _ ([0, 0] ++ _) => I5
  refine pick N7 (fun D5 hb5 e5 e6 => ?_)
  try dsimp only at e6
  subst e5
  subst e6
  refine pickI I5 (fun ws5 e7 => ?_)
  subst e7
  have N8 : News g L _ ((80, tabObj #[]) :: (D5, W.listOf ws5.toArray 0) :: (73, tabObj #[]) :: n) := List.forall_mem_cons.mpr ⟨N7 _ (.tail _ (.tail _ (.tail _ (.head _)))), List.forall_mem_cons.mpr ⟨N7 _ (.head _), List.forall_mem_cons.mpr ⟨N7 _ (.tail _ (.tail _ (.tail _ (.tail _ (.head _))))), fun q hq => N7 q (.tail _ (.tail _ (.tail _ (.tail _ (.tail _ (.tail _ (hq)))))))⟩⟩⟩
  refine' use1 (pre := []) (S85f w D5 0 ws5 (0 :: 0 :: (figs k).reverse) (9 + tl.fmod 8) _) ?k1 ?k2 ?k3 ?k4 N8 ?k5 ?k5b ?k6 ?k7 ?k8 ?k9 ?_
  case k1 => k_asm
  case k2 => k_asm
  case k3 => k_asm
  case k4 => k_asm
  case k5 => intro _ hx; cases hx
  case k5b => exact List.forall_mem_cons.mpr ⟨by k_ne, List.forall_mem_cons.mpr ⟨show @Ne Nat 73 80 by decide, fun q hq => (e4 q hq).2⟩⟩
  case k6 => first | exact rfl | assumption
  case k7 => exact ⟨(N8 _ (.tail _ (.head _))).1, I5, by simp; omega, by simp, by omega, by omega, by k_ne, C80.keeps F7.keep, dig01 ok.b01 ow0, (N8 _ (.head _)).1⟩
  case k8 => ktr_room
  case k9 => ktr_units
  intro v9 h9 tk9 st9 F9 N9 po9
  obtain ⟨⟨t9, rfl⟩, c80, o80, n80, e80, co80, et80⟩ := po9
  have N9 := N9 _ et80
  obtain ⟨w0, w1, w2, w3⟩ := allNe_of N8 n80
  dsimp only at w0 w1 w2
  have N10 := news_new F7 N9 n80 e80
  clear N9 F7 N7 N8 w1
  simp only [List.nil_append] at N10
  have hF2 := Hide.mk (And.intro ok.a0 (And.intro ok.a1 (And.intro ok.m0 (And.intro ok.m1 ok.a2))))
  obtain ⟨fb0, fb1⟩ := pow_small ow0 ow1
  rw [← ok.bq] at fb0 fb1
  generalize horn (2 ^ (9 + tl.fmod 8).toNat) (0 :: 0 :: (figs k).reverse) = av at *
  try dsimp only
  try k_fold
  k_steps
  refine execsS_cons (wpS_of ?_)
  try k_fold
  k_steps
  refine ⟨?_⟩
  rename Fr _ _ _ _ => F7
  rename News _ _ _ _ => N7
  have N8 : News g L _ ((73, tabObj #[]) :: (80, tabObj #[rawInt 81, rawInt 4, .ref c80]) :: (c80, o80) :: n) := List.forall_mem_cons.mpr ⟨N7 _ (.tail _ (.tail _ (.tail _ (.head _)))), List.forall_mem_cons.mpr ⟨N7 _ (.tail _ (.head _)), List.forall_mem_cons.mpr ⟨N7 _ (.head _), fun q hq => N7 q (.tail _ (.tail _ (.tail _ (.tail _ (hq)))))⟩⟩⟩
  have hX7 : ∀ x ∈ [73, 80], x ≠ L ∧ g.get? x = none := fun x hx => by
    rcases List.mem_cons.mp hx with rfl | hx
    · exact (N8 _ (.head _)).2
    · rw [List.mem_singleton.mp hx]
      exact (N8 _ (.tail _ (.head _))).2
  refine' useX (S99f w av (bs * bs - bs - 1) _ _ c80) ?k1 ?k2 ?k3 ?k4 ?k6 hX7 ?k7 ?k8 ?k9 ?_
  case k1 => k_asm
  case k2 => k_asm
  case k3 => k_asm
  case k4 => k_asm
  case k6 => first | exact rfl | assumption
  case k7 => exact ⟨hF2.out.1, hF2.out.2.1, hF2.out.2.2.1, hF2.out.2.2.2.1, hF2.out.2.2.2.2, C73.keeps F7.keep, C80.keeps F7.keep, (N8 _ (.tail _ (.head _))).1, w0.symm, w2.symm, co80.rec (N8 _ (.tail _ (.tail _ (.head _)))).1, (N8 _ (.head _)).1⟩
  case k8 => ktr_room
  case k9 => ktr_units
  intro v9 h9 tk9 st9 F9 po9
  obtain ⟨qv, t10, t11, ct6, ⟨D6, rfl, n6, e6⟩, ⟨c73, o73, n73, e73, co73, et73⟩, et80⟩ := po9
  obtain ⟨x0, x1, x2, x3⟩ := allNe_of N8 n73
  dsimp only at x0 x1 x2
  have N9 := news_stay2 N8 st9 (List.forall_mem_cons.mpr ⟨⟨w2.symm, w0.symm⟩, e4⟩) et73 et80
  have N10 := news_new F7 (news_new F7 N9 n73 e73) n6 e6
  clear N9 F7 N7 N8
  try dsimp only
  try k_fold
  k_steps
  rename Fr _ _ _ _ => F7
  rename News _ _ _ _ => N7
  have e9 : (fun y => if y = PySem.Str.ofString "figures" then some (Value.ref Df) else if y = PySem.Str.ofString "base" then some (Value.int bs ta) else if y = PySem.Str.ofString "total" then some (Value.int tl tt) else m y) = m := funext fun y => by
    by_cases q2 : y = PySem.Str.ofString "figures"
    · subst q2; simp only [if_true]; exact m2.symm
    rw [if_neg q2]
    by_cases q1 : y = PySem.Str.ofString "base"
    · subst q1; simp only [if_true]; exact m1.symm
    rw [if_neg q1]
    by_cases q0 : y = PySem.Str.ofString "total"
    · subst q0; simp only [if_true]; exact m0.symm
    rw [if_neg q0]
  have F8 : Fr g L _ (fun y => if y = PySem.Str.ofString "rest" then _ else if y = PySem.Str.ofString "whole" then _ else (fun y => if y = PySem.Str.ofString "figures" then some (Value.ref Df) else if y = PySem.Str.ofString "base" then some (Value.int bs ta) else if y = PySem.Str.ofString "total" then some (Value.int tl tt) else m y) y) := F7
  rw [e9] at F8
  exact cont _ _ _ _ c73 c80 o73 o80 co80 co73 ⟨w0.symm, x1.symm, w2.symm, x0.symm⟩ w3 x3 F8 (List.forall_mem_cons.mpr ⟨N7 _ (.tail _ (.tail _ (.head _))), List.forall_mem_cons.mpr ⟨N7 _ (.tail _ (.tail _ (.tail _ (.head _)))), List.forall_mem_cons.mpr ⟨N7 _ (.tail _ (.tail _ (.tail _ (.tail _ (.head _))))), List.forall_mem_cons.mpr ⟨N7 _ (.tail _ (.head _)), fun q hq => N7 q (.tail _ (.tail _ (.tail _ (.tail _ (.tail _ (hq))))))⟩⟩⟩⟩)
end Mine
end
section
set_option maxRecDepth 100000
set_option maxHeartbeats 8000000
set_option linter.unusedVariables false
set_option autoImplicit false
namespace Mine
theorem segBh (w : World) {oc : Value} {od : Option Addr} {osl : Array (Option Value)} {name qual : PySem.Str} {params : Arguments} {a0 a1 a2 a3 a4 : Stmt} {tgt iter : PySem.Expr} {s0 s1 s2 s3 s4 : Stmt} {tb rs : List Stmt} {pos : Pos} {scope : Scope} {dV kV doc pm cdv ct : Value} {an : Option Addr} (s : Shared) (g : Heap) (L Df : Addr) (vsf : List Value) (cf : Nat) (c73 c80 : Addr) (o73 o80 : Obj) (lo up bs tl k : Int) (tt ta : Tok) (P D R W0 : PySem.Str) (O : Array UInt8) (J : PySem.Str) (num : Nat → Int) (host ups : Nat → PySem.Str)
    (p : Program) (loose : List PySem.Str) (mean : ExcName → Option Value) (mg mb : PySem.Str → Option Value) (m : PySem.Str → Option Value) (n : List (Addr × Obj)) (h : Heap) (tk : Nat) (Q : Flow → Shared → Prop) :
    (hd.heap_39 w.params).lookup 169 = some ⟨oc, od, .func (fnOf name qual params (a0 :: a1 :: a2 :: a3 :: a4 :: Stmt.For tgt iter (s0 :: s1 :: s2 :: s3 :: s4 :: tb) [] pos :: rs) scope dV kV doc pm an cdv ct), osl⟩ → TurnOk lo up (9 + tl.fmod 8) bs k P D R W0 O J num host ups → 0 ≤ tl → Below callerA g [] g → Frag.In (hd.heap_39 w.params) g → Top p loose mean mg mb g → CodeHd g 84 80 ∧ CodeHd g 77 73 → CodeOf o80 q80 → CodeOf o73 q73 → (c80 ≠ 80 ∧ c73 ≠ 80 ∧ c80 ≠ 73 ∧ c73 ≠ 73) →
    (∀ q ∈ n, q.1 ≠ 73 ∧ q.1 ≠ 80) → IntsAre vsf (figs k) → m (PySem.Str.ofString "total") = some (.int tl tt) → m (PySem.Str.ofString "base") = some (.int bs ta) → m (PySem.Str.ofString "figures") = some (.ref Df) → Fr g L h m → News g L h ((80, tabObj #[rawInt 81, rawInt 4, .ref c80]) :: (73, tabObj #[rawInt 66, rawInt 4, .ref c73]) :: (c80, o80) :: (c73, o73) :: (Df, W.listOf vsf.toArray cf) :: n) →
    (∀ (h' : Heap) (tk' : Nat) (u : Option Value) (tr : Tok), Fr g L h' (fun y => if y = PySem.Str.ofString "rest" then some (.int ((horn (2 ^ (9 + tl.fmod 8).toNat) (0 :: 0 :: (figs k).reverse)) % (bs * bs - bs - 1)) tr) else if y = PySem.Str.ofString "whole" then u else m y) → News g L h' ((73, tabObj #[rawInt 66, rawInt 4, .ref c73]) :: (80, tabObj #[rawInt 81, rawInt 4, .ref c80]) :: (c80, o80) :: (c73, o73) :: n) → wpS (model PySem.Challenge.rw_zo0035_01.row.prog w) (callerA.deeper (envOfC qual scope L 169 cdv)) (execs tb (envOfC qual scope L 169 cdv)) Q { s with heap := h', toks := tk' }) →
    wpS (model PySem.Challenge.rw_zo0035_01.row.prog w) (callerA.deeper (envOfC qual scope L 169 cdv)) (execs (s3 :: s4 :: tb) (envOfC qual scope L 169 cdv)) Q { s with heap := h, toks := tk } := by
  k_fill
  k_with_none
  w_top off
  intro hb ok htl B' X' T' ⟨C80, C73⟩ co80 co73 ⟨dc2, dx2, dc3, dx3⟩ e4 If m0 m1 m2 F3 N3 cont
  have e : _ = some _ := hb.symm.trans (by k_is)
  cases e
  clear hb
  have F10 := fr_name0 (b := PySem.Str.ofString "total") (v := .int tl tt) F3 (m0)
  have F11 := fr_name0 (b := PySem.Str.ofString "base") (v := .int bs ta) F10 ((if_neg (by decide)).trans (m1))
  have F12 := fr_name0 (b := PySem.Str.ofString "figures") (v := .ref Df) F11 ((if_neg (by decide)).trans ((if_neg (by decide)).trans (m2)))
  clear F3 F10 F11
  have hl20 := ok.l20
  have ow0 := ok.w0
  have ow1 := ok.w1
  try k_fold
  k_with "call ref" => (refine halt ?_)
  refine execsS_cons (wpS_of ?_)
  try k_fold
  k_steps
  refine ⟨?_⟩
  rename Fr _ _ _ _ => F7
  rename News _ _ _ _ => N7
  rename IntsAre _ ([0, 0] ++ _) => I5
  refine pick N7 (fun D5 hb5 e5 e6 => ?_)
  try dsimp only at e6
  subst e5
  subst e6
  refine pickI I5 (fun ws5 e7 => ?_)
  subst e7
  have N8 : News g L _ ((80, tabObj #[rawInt 81, rawInt 4, .ref c80]) :: (D5, W.listOf ws5.toArray 0) :: (73, tabObj #[rawInt 66, rawInt 4, .ref c73]) :: (c80, o80) :: (c73, o73) :: n) := List.forall_mem_cons.mpr ⟨N7 _ (.tail _ (.tail _ (.tail _ (.head _)))), List.forall_mem_cons.mpr ⟨N7 _ (.head _), List.forall_mem_cons.mpr ⟨N7 _ (.tail _ (.tail _ (.tail _ (.tail _ (.head _))))), List.forall_mem_cons.mpr ⟨N7 _ (.tail _ (.tail _ (.tail _ (.tail _ (.tail _ (.head _)))))), List.forall_mem_cons.mpr ⟨N7 _ (.tail _ (.tail _ (.tail _ (.tail _ (.tail _ (.tail _ (.head _))))))), fun q hq => N7 q (.tail _ (.tail _ (.tail _ (.tail _ (.tail _ (.tail _ (.tail _ (.tail _ (hq)))))))))⟩⟩⟩⟩⟩
  refine' use1 (pre := []) (S85h w D5 0 ws5 (0 :: 0 :: (figs k).reverse) (9 + tl.fmod 8) _ c80) ?k1 ?k2 ?k3 ?k4 N8 ?k5 ?k5b ?k6 ?k7 ?k8 ?k9 ?_
  case k1 => k_asm
  case k2 => k_asm
  case k3 => k_asm
  case k4 => k_asm
  case k5 => intro _ hx; cases hx
  case k5b => exact List.forall_mem_cons.mpr ⟨by k_ne, List.forall_mem_cons.mpr ⟨show @Ne Nat 73 80 by decide, List.forall_mem_cons.mpr ⟨dc2, List.forall_mem_cons.mpr ⟨dx2, fun q hq => (e4 q hq).2⟩⟩⟩⟩
  case k6 => first | exact rfl | assumption
  case k7 => exact ⟨(N8 _ (.tail _ (.head _))).1, I5, by simp; omega, by simp, by omega, by omega, by k_ne, C80.keeps F7.keep, dig01 ok.b01 ow0, (N8 _ (.head _)).1, dc2, co80.rec (N8 _ (.tail _ (.tail _ (.tail _ (.head _))))).1⟩
  case k8 => ktr_room
  case k9 => ktr_units
  intro v9 h9 tk9 st9 F9 N9 po9
  obtain ⟨⟨t9, rfl⟩, et80⟩ := po9
  have N10 := N9 _ et80
  clear N9 F7 N7 N8
  simp only [List.nil_append] at N10
  have hF2 := Hide.mk (And.intro ok.a0 (And.intro ok.a1 (And.intro ok.m0 (And.intro ok.m1 ok.a2))))
  obtain ⟨fb0, fb1⟩ := pow_small ow0 ow1
  rw [← ok.bq] at fb0 fb1
  generalize horn (2 ^ (9 + tl.fmod 8).toNat) (0 :: 0 :: (figs k).reverse) = av at *
  try dsimp only
  try k_fold
  k_steps
  refine execsS_cons (wpS_of ?_)
  try k_fold
  k_steps
  refine ⟨?_⟩
  rename Fr _ _ _ _ => F7
  rename News _ _ _ _ => N7
  have N8 : News g L _ ((73, tabObj #[rawInt 66, rawInt 4, .ref c73]) :: (80, tabObj #[rawInt 81, rawInt 4, .ref c80]) :: (c80, o80) :: (c73, o73) :: n) := List.forall_mem_cons.mpr ⟨N7 _ (.tail _ (.tail _ (.head _))), List.forall_mem_cons.mpr ⟨N7 _ (.head _), List.forall_mem_cons.mpr ⟨N7 _ (.tail _ (.tail _ (.tail _ (.head _)))), List.forall_mem_cons.mpr ⟨N7 _ (.tail _ (.tail _ (.tail _ (.tail _ (.head _))))), fun q hq => N7 q (.tail _ (.tail _ (.tail _ (.tail _ (.tail _ (hq))))))⟩⟩⟩⟩
  have hX7 : ∀ x ∈ [73, 80], x ≠ L ∧ g.get? x = none := fun x hx => by
    rcases List.mem_cons.mp hx with rfl | hx
    · exact (N8 _ (.head _)).2
    · rw [List.mem_singleton.mp hx]
      exact (N8 _ (.tail _ (.head _))).2
  refine' useX (S99h w av (bs * bs - bs - 1) _ _ c80 c73) ?k1 ?k2 ?k3 ?k4 ?k6 hX7 ?k7 ?k8 ?k9 ?_
  case k1 => k_asm
  case k2 => k_asm
  case k3 => k_asm
  case k4 => k_asm
  case k6 => first | exact rfl | assumption
  case k7 => exact ⟨hF2.out.1, hF2.out.2.1, hF2.out.2.2.1, hF2.out.2.2.2.1, hF2.out.2.2.2.2, C73.keeps F7.keep, C80.keeps F7.keep, (N8 _ (.tail _ (.head _))).1, dc2, dc3, co80.rec (N8 _ (.tail _ (.tail _ (.head _)))).1, (N8 _ (.head _)).1, dx3, dx2, co73.rec (N8 _ (.tail _ (.tail _ (.tail _ (.head _))))).1⟩
  case k8 => ktr_room
  case k9 => ktr_units
  intro v9 h9 tk9 st9 F9 po9
  obtain ⟨qv, t10, t11, ct6, ⟨D6, rfl, n6, e6⟩, et73, et80⟩ := po9
  have N9 := news_stay2 N8 st9 (List.forall_mem_cons.mpr ⟨⟨dc3, dc2⟩, List.forall_mem_cons.mpr ⟨⟨dx3, dx2⟩, e4⟩⟩) et73 et80
  have N10 := news_new F7 N9 n6 e6
  clear N9 F7 N7 N8
  try dsimp only
  try k_fold
  k_steps
  rename Fr _ _ _ _ => F7
  rename News _ _ _ _ => N7
  have e9 : (fun y => if y = PySem.Str.ofString "figures" then some (Value.ref Df) else if y = PySem.Str.ofString "base" then some (Value.int bs ta) else if y = PySem.Str.ofString "total" then some (Value.int tl tt) else m y) = m := funext fun y => by
    by_cases q2 : y = PySem.Str.ofString "figures"
    · subst q2; simp only [if_true]; exact m2.symm
    rw [if_neg q2]
    by_cases q1 : y = PySem.Str.ofString "base"
    · subst q1; simp only [if_true]; exact m1.symm
    rw [if_neg q1]
    by_cases q0 : y = PySem.Str.ofString "total"
    · subst q0; simp only [if_true]; exact m0.symm
    rw [if_neg q0]
  have F8 : Fr g L _ (fun y => if y = PySem.Str.ofString "rest" then _ else if y = PySem.Str.ofString "whole" then _ else (fun y => if y = PySem.Str.ofString "figures" then some (Value.ref Df) else if y = PySem.Str.ofString "base" then some (Value.int bs ta) else if y = PySem.Str.ofString "total" then some (Value.int tl tt) else m y) y) := F7
  rw [e9] at F8
  exact cont _ _ _ _ F8 (List.forall_mem_cons.mpr ⟨N7 _ (.tail _ (.head _)), List.forall_mem_cons.mpr ⟨N7 _ (.tail _ (.tail _ (.head _))), List.forall_mem_cons.mpr ⟨N7 _ (.tail _ (.tail _ (.tail _ (.head _)))), List.forall_mem_cons.mpr ⟨N7 _ (.tail _ (.tail _ (.tail _ (.tail _ (.head _))))), fun q hq => N7 q (.tail _ (.tail _ (.tail _ (.tail _ (.tail _ (hq))))))⟩⟩⟩⟩)
end Mine
end
section
set_option maxRecDepth 100000
set_option maxHeartbeats 8000000
set_option linter.unusedVariables false
set_option autoImplicit false
namespace Mine
theorem segC (w : World) {oc : Value} {od : Option Addr} {osl : Array (Option Value)} {name qual : PySem.Str} {params : Arguments} {a0 a1 a2 a3 a4 : Stmt} {tgt iter : PySem.Expr} {s0 s1 s2 s3 s4 s5 s6 s7 : Stmt} {rs : List Stmt} {pos : Pos} {scope : Scope} {dV kV doc pm cdv ct : Value} {an : Option Addr} (s : Shared) (g : Heap) (L lads c73 Dl : Addr) (ob o73 : Obj) (xs : List Value) (cl : Nat) (lo up bs tl k rv : Int) (tk0 t1 t2 tr tt : Tok) (P D R W0 : PySem.Str) (O : Array UInt8) (J : PySem.Str) (num : Nat → Int) (host ups : Nat → PySem.Str)
    (p : Program) (loose : List PySem.Str) (mean : ExcName → Option Value) (mg mb : PySem.Str → Option Value) (m : PySem.Str → Option Value) (n : List (Addr × Obj)) (h : Heap) (tk : Nat) (Q : Flow → Shared → Prop) :
    (hd.heap_39 w.params).lookup 169 = some ⟨oc, od, .func (fnOf name qual params (a0 :: a1 :: a2 :: a3 :: a4 :: Stmt.For tgt iter (s0 :: s1 :: s2 :: s3 :: s4 :: s5 :: s6 :: s7 :: []) [] pos :: rs) scope dV kV doc pm an cdv ct), osl⟩ → TurnOk lo up (9 + tl.fmod 8) bs k P D R W0 O J num host ups → Hide (0 < rv ∧ rv < 2 ^ 4000 ∧ (Builtin.Int.intBits rv : Int) ≤ 20 * (9 + tl.fmod 8)) → Hide (digs (2 ^ (9 + tl.fmod 8).toNat) rv (((Builtin.Int.intBits rv : Int) + (9 + tl.fmod 8) - 1).fdiv (9 + tl.fmod 8)).toNat = [((k + 1) * lo).fdiv up, k]) → 0 ≤ tl →
    Below callerA g [] g → Frag.In (hd.heap_39 w.params) g → Top p loose mean mg mb g → CodeHd g 77 73 → ob.data = .cell (some (.ref lads)) → CodeOf o73 q73 → xs.length ≤ 100 →
    (c73 ≠ 73 ∧ lads ≠ 73 ∧ L + 1 ≠ 73 ∧ ∀ q ∈ n, q.1 ≠ 73) → (c73 ≠ lads ∧ L + 1 ≠ lads ∧ ∀ q ∈ n, q.1 ≠ lads) → m (PySem.Str.ofString "rest") = some (.int rv tr) → m (PySem.Str.ofString "total") = some (.int tl tt) → m (PySem.Str.ofString "number") = some (.int k tk0) → m (PySem.Str.ofString "lower") = some (.int lo t1) → m (PySem.Str.ofString "upper") = some (.int up t2) → m (PySem.Str.ofString "ladder") = some (.ref Dl) → Fr g L h m →
    News g L h ((73, tabObj #[rawInt 66, rawInt 4, .ref c73]) :: (c73, o73) :: (lads, W.listOf xs.toArray cl) :: (L + 1, ob) :: n) →
    (∀ (h' : Heap) (tk' : Nat) (u : Option Value), Fr g L h' (fun y => if y = PySem.Str.ofString "golden" then u else m y) → News g L h' ((73, tabObj #[rawInt 66, rawInt 4, .ref c73]) :: (c73, o73) :: (lads, W.listOf (xs ++ [Value.ref Dl]).toArray (cl + 1)) :: (L + 1, ob) :: n) → Q .next { s with heap := h', toks := tk' }) →
    wpS (model PySem.Challenge.rw_zo0035_01.row.prog w) (callerA.deeper (envOfC qual scope L 169 cdv)) (execs [s5, s6, s7] (envOfC qual scope L 169 cdv)) Q { s with heap := h, toks := tk } := by
  k_fill
  k_with_none
  w_top off
  intro hb ok hF hdg htl B' X' T' C73 hcell co73 hxs ⟨e1, e2, e3, e4⟩ ⟨g1, g2, g3⟩ m0 m1 m2 m3 m4 m5 F3 N3 cont
  have e : _ = some _ := hb.symm.trans (by k_is)
  cases e
  clear hb
  have F10 := fr_name0 (b := PySem.Str.ofString "rest") (v := .int rv tr) F3 (m0)
  have F11 := fr_name0 (b := PySem.Str.ofString "total") (v := .int tl tt) F10 ((if_neg (by decide)).trans (m1))
  have F12 := fr_name0 (b := PySem.Str.ofString "number") (v := .int k tk0) F11 ((if_neg (by decide)).trans ((if_neg (by decide)).trans (m2)))
  have F13 := fr_name0 (b := PySem.Str.ofString "lower") (v := .int lo t1) F12 ((if_neg (by decide)).trans ((if_neg (by decide)).trans ((if_neg (by decide)).trans (m3))))
  have F14 := fr_name0 (b := PySem.Str.ofString "upper") (v := .int up t2) F13 ((if_neg (by decide)).trans ((if_neg (by decide)).trans ((if_neg (by decide)).trans ((if_neg (by decide)).trans (m4)))))
  have F15 := fr_name0 (b := PySem.Str.ofString "ladder") (v := .ref Dl) F14 ((if_neg (by decide)).trans ((if_neg (by decide)).trans ((if_neg (by decide)).trans ((if_neg (by decide)).trans ((if_neg (by decide)).trans (m5))))))
  clear F3 F10 F11 F12 F13 F14
  have gk0 := ok.k0
  have gk1 := ok.k1
  have gl0 := ok.lo0
  have gl1 := ok.lo1
  have hG := Hide.mk (And.intro ok.up0 (And.intro ok.up1 (bits_in ok.up0 ok.up1)))
  try k_fold
  k_with "call ref" => (refine halt ?_)
  refine execsS_cons (wpS_of ?_)
  try k_fold
  k_steps
  refine ⟨?_⟩
  rename Fr _ _ _ _ => F7
  rename News _ _ _ _ => N7
  refine' use0 (S64 w _ _ _ _ _ _) ?k1 ?k2 ?k3 ?k4 ?k5 ?k6 ?k7 ?k8 ?k9 ?_
  case k1 => k_asm
  case k2 => k_asm
  case k3 => k_asm
  case k4 => k_asm
  case k5 => k_asm
  case k6 => first | exact rfl | assumption
  case k7 => exact ⟨ok.g0, hG.out.1, hG.out.2.1, by have := ok.g1; have := hG.out.2.2; omega⟩
  case k8 => ktr_room
  case k9 => ktr_units
  intro v9 h9 tk9 st9 F9 N9 po9
  obtain ⟨t12, t13, ct8, D8, rfl, n8, e8⟩ := po9
  have N10 := news_new F7 N9 n8 e8
  clear N9 F7 N7
  generalize ((k + 1) * lo).fdiv up = gv at *
  try dsimp only
  try k_fold
  k_steps
  refine execsS_cons (wpS_of ?_)
  try k_fold
  k_steps
  refine ⟨?_⟩
  rename Fr _ _ _ _ => F7
  rename News _ _ _ _ => N7
  have N8 : News g L _ ((73, tabObj #[rawInt 66, rawInt 4, .ref c73]) :: (c73, o73) :: (lads, W.listOf xs.toArray cl) :: (L + 1, ob) :: n) := fun q hq => N7 q (.tail _ hq)
  have ow0 := ok.w0
  have ow1 := ok.w1
  refine' use1 (pre := []) (S78h w rv (9 + tl.fmod 8) _ _ c73) ?k1 ?k2 ?k3 ?k4 N8 ?k5 ?k5b ?k6 ?k7 ?k8 ?k9 ?_
  case k1 => k_asm
  case k2 => k_asm
  case k3 => k_asm
  case k4 => k_asm
  case k5 => intro _ hx; cases hx
  case k5b => exact List.forall_mem_cons.mpr ⟨e1, List.forall_mem_cons.mpr ⟨e2, List.forall_mem_cons.mpr ⟨e3, e4⟩⟩⟩
  case k6 => first | exact rfl | assumption
  case k7 => exact ⟨hF.out.1, hF.out.2.1, by omega, by omega, hF.out.2.2, C73.keeps F7.keep, (N8 _ (.head _)).1, e1, co73.rec (N8 _ (.tail _ (.head _))).1⟩
  case k8 => ktr_room
  case k9 => ktr_units
  intro v9 h9 tk9 st9 F9 N9 po9
  obtain ⟨⟨vs7, cc7, ⟨D7, rfl, n7, e7⟩, I7⟩, et73⟩ := po9
  have N9 := N9 _ et73
  rw [hdg.out] at I7
  obtain ⟨t14, t15, rfl⟩ := ints_two I7
  have N10 := news_new F7 N9 n7 e7
  simp only [List.nil_append] at N10
  clear N9 F7 N7 N8
  try dsimp only
  try k_fold
  k_steps
  rename News _ _ _ _ => N7
  have N8 : News g L _ ((73, tabObj #[rawInt 66, rawInt 4, .ref c73]) :: (c73, o73) :: (lads, W.listOf xs.toArray cl) :: (L + 1, ob) :: n) := fun q hq => N7 q (.tail _ (.tail _ hq))
  clear N7
  k_with "call builtin:list.append" => (refine halt ?_)
  refine execsS_cons (wpS_of ?_)
  try k_fold
  k_steps
  refine ⟨?_⟩
  rename Fr _ _ _ _ => F7
  rename News _ _ _ _ => N7
  refine' append_K F7 N7 ?U ?_ ?z
  case U => exact .tail e2.symm (.tail g1 (.head (List.forall_mem_cons.mpr ⟨g2, g3⟩)))
  case z => simp only [List.size_toArray, sizeLine_eq]; omega
  intro h8 F8 N8
  clear F7 N7
  try dsimp only
  try k_fold
  k_steps
  refine execsS_nil ?_
  rename Fr _ _ _ _ => F9
  rename News _ _ _ _ => N9
  have e9 : (fun y => if y = PySem.Str.ofString "ladder" then some (Value.ref Dl) else if y = PySem.Str.ofString "upper" then some (Value.int up t2) else if y = PySem.Str.ofString "lower" then some (Value.int lo t1) else if y = PySem.Str.ofString "number" then some (Value.int k tk0) else if y = PySem.Str.ofString "total" then some (Value.int tl tt) else if y = PySem.Str.ofString "rest" then some (Value.int rv tr) else m y) = m := funext fun y => by
    by_cases q5 : y = PySem.Str.ofString "ladder"
    · subst q5; simp only [if_true]; exact m5.symm
    rw [if_neg q5]
    by_cases q4 : y = PySem.Str.ofString "upper"
    · subst q4; simp only [if_true]; exact m4.symm
    rw [if_neg q4]
    by_cases q3 : y = PySem.Str.ofString "lower"
    · subst q3; simp only [if_true]; exact m3.symm
    rw [if_neg q3]
    by_cases q2 : y = PySem.Str.ofString "number"
    · subst q2; simp only [if_true]; exact m2.symm
    rw [if_neg q2]
    by_cases q1 : y = PySem.Str.ofString "total"
    · subst q1; simp only [if_true]; exact m1.symm
    rw [if_neg q1]
    by_cases q0 : y = PySem.Str.ofString "rest"
    · subst q0; simp only [if_true]; exact m0.symm
    rw [if_neg q0]
  have F8 : Fr g L _ (fun y => if y = PySem.Str.ofString "golden" then _ else (fun y => if y = PySem.Str.ofString "ladder" then some (Value.ref Dl) else if y = PySem.Str.ofString "upper" then some (Value.int up t2) else if y = PySem.Str.ofString "lower" then some (Value.int lo t1) else if y = PySem.Str.ofString "number" then some (Value.int k tk0) else if y = PySem.Str.ofString "total" then some (Value.int tl tt) else if y = PySem.Str.ofString "rest" then some (Value.int rv tr) else m y) y) := F9
  rw [e9] at F8
  rw [List.push_toArray] at N9
  exact cont _ _ _ F8 N9
end Mine
end
section
set_option maxRecDepth 100000
set_option maxHeartbeats 8000000
set_option linter.unusedVariables false
set_option autoImplicit false
namespace Mine
theorem turn1 (w : World) {oc : Value} {od : Option Addr} {osl : Array (Option Value)} {name qual : PySem.Str} {params : Arguments} {a0 a1 a2 a3 a4 : Stmt} {tgt iter : PySem.Expr} {tb rs : List Stmt} {pos : Pos} {scope : Scope} {dV kV doc pm cdv ct : Value} {an : Option Addr} (s : Shared) (g : Heap) (L I : Addr) (it : Obj) (lp : Addr × Obj) (lo up bs tl k : Int) (tk0 : Tok) (P D R W0 : PySem.Str) (O : Array UInt8) (J : PySem.Str) (num : Nat → Int) (host ups : Nat → PySem.Str)
    (p : Program) (loose : List PySem.Str) (mean : ExcName → Option Value) (mg mb : PySem.Str → Option Value) (m : PySem.Str → Option Value) (n : List (Addr × Obj)) (h : Heap) (tk : Nat) :
    (hd.heap_39 w.params).lookup 169 = some ⟨oc, od, .func (fnOf name qual params (a0 :: a1 :: a2 :: a3 :: a4 :: Stmt.For tgt iter tb [] pos :: rs) scope dV kV doc pm an cdv ct), osl⟩ → TurnOk lo up (9 + tl.fmod 8) bs k P D R W0 O J num host ups → 0 ≤ tl → Below callerA g [] g → Frag.In (hd.heap_39 w.params) g → Top p loose mean mg mb g → CodeHd g 84 80 ∧ CodeHd g 77 73 →
    J0 L lo up bs tl lp m n → (∀ p ∈ n, p.1 < I) → Fr g L h (fun y => if y = PySem.Str.ofString "number" then some (.int k tk0) else m y) → News g L h ((I, it) :: n) →
    wpS (model PySem.Challenge.rw_zo0035_01.row.prog w) (callerA.deeper (envOfC qual scope L 169 cdv)) (execs tb (envOfC qual scope L 169 cdv)) (TurnEnd g L (fun m' n' => lp ∈ n' ∧ J1 L lo up bs tl (rungL k num host) lp m' n') I it { s with heap := h, toks := tk }) { s with heap := h, toks := tk } := by
  k_fill
  k_with_none
  w_top off
  intro hb ok htl B' X' T' C' hJ hI F3 N3
  have e : _ = some _ := hb.symm.trans (by k_is)
  cases e
  obtain ⟨lads, oc, ta, tb, t1, t2, mm, rfl, rfl, hcell, o1, o2, o3⟩ := hJ
  k_lt hI
  try dsimp only at F3 N3 hI
  have ko1 : @LT.lt Nat _ 80 lp.1 := by omega
  have ko2 : @LT.lt Nat _ 80 lads := by omega
  have ko3 : @LT.lt Nat _ 80 (L + 1) := by omega
  have ko4 : @LT.lt Nat _ 80 I := hI.2.2.2.1
  try k_fold
  refine segA w s g L lo up (9 + tl.fmod 8) bs k tk0 t1 t2 P D R W0 O J num host ups p loose mean mg mb _ _ h tk _ hb ok B' X' T' rfl rfl F3 N3 (fun h1 tk1 Dl Df vr vsf cr cf ts F5 N5 If hR zz rr => ?_)
  clear F3 N3
  obtain ⟨r1, r2, r3, r4, r5, r6, -⟩ := rr
  dsimp only at r1 r2 r3 r4 r5 r6
  have z73 : ∀ q ∈ ts, q.1 ≠ 73 := zz (73, tabObj #[]) (.tail _ (.tail _ (.tail _ (.tail _ (.tail _ (.head _))))))
  have z80 : ∀ q ∈ ts, q.1 ≠ 80 := zz (80, tabObj #[]) (.tail _ (.tail _ (.tail _ (.tail _ (.head _)))))
  have zla : ∀ q ∈ ts, q.1 ≠ lads := zz (lads, W.listOf #[] 0) (.tail _ (.tail _ (.head _)))
  have zI : ∀ q ∈ ts, q.1 ≠ I := zz (I, it) (.head _)
  clear zz
  have N6 : News g L h1 ((80, tabObj #[]) :: (73, tabObj #[]) :: (Df, W.listOf vsf.toArray cf) :: (Dl, W.listOf vr.toArray cr) :: (I, it) :: lp :: (lads, W.listOf #[] 0) :: (L + 1, oc) :: ts) := List.forall_mem_cons.mpr ⟨N5 _ (.tail _ (.tail _ (.tail _ (.tail _ (.tail _ (.tail _ (.head _))))))), List.forall_mem_cons.mpr ⟨N5 _ (.tail _ (.tail _ (.tail _ (.tail _ (.tail _ (.tail _ (.tail _ (.head _)))))))), List.forall_mem_cons.mpr ⟨N5 _ (.tail _ (.head _)), List.forall_mem_cons.mpr ⟨N5 _ (.head _), List.forall_mem_cons.mpr ⟨N5 _ (.tail _ (.tail _ (.head _))), List.forall_mem_cons.mpr ⟨N5 _ (.tail _ (.tail _ (.tail _ (.head _)))), List.forall_mem_cons.mpr ⟨N5 _ (.tail _ (.tail _ (.tail _ (.tail _ (.head _))))), List.forall_mem_cons.mpr ⟨N5 _ (.tail _ (.tail _ (.tail _ (.tail _ (.tail _ (.head _)))))), fun q hq => N5 q (.tail _ (.tail _ (.tail _ (.tail _ (.tail _ (.tail _ (.tail _ (.tail _ (hq)))))))))⟩⟩⟩⟩⟩⟩⟩⟩
  refine segBf w s g L Df vsf cf lo up bs tl k tb ta P D R W0 O J num host ups p loose mean mg mb _ _ h1 tk1 _ hb ok htl B' X' T' C' ?e4 If rfl rfl rfl F5 N6 (fun h2 tk2 u1 tr c73 c80 o73 o80 co80 co73 hc a80 a73 F6 N7 => ?_)
  case e4 => exact List.forall_mem_cons.mpr ⟨⟨r6.symm, r5.symm⟩, List.forall_mem_cons.mpr ⟨ne73 ko4, List.forall_mem_cons.mpr ⟨ne73 ko1, List.forall_mem_cons.mpr ⟨ne73 ko2, List.forall_mem_cons.mpr ⟨ne73 ko3, fun q hq => ⟨z73 q hq, z80 q hq⟩⟩⟩⟩⟩⟩
  clear F5 N5 N6
  obtain ⟨v1, v2, v3, v4, v5, -⟩ := a80
  obtain ⟨x1, x2, x3, x4, x5, -⟩ := a73
  dsimp only at v1 v2 v3 v4 v5 x1 x2 x3 x4 x5
  have N8 : News g L h2 ((73, tabObj #[rawInt 66, rawInt 4, .ref c73]) :: (c73, o73) :: (lads, W.listOf (List.toArray []) 0) :: (L + 1, oc) :: (80, tabObj #[rawInt 81, rawInt 4, .ref c80]) :: (c80, o80) :: (Dl, W.listOf vr.toArray cr) :: (I, it) :: lp :: ts) := List.forall_mem_cons.mpr ⟨N7 _ (.head _), List.forall_mem_cons.mpr ⟨N7 _ (.tail _ (.tail _ (.tail _ (.head _)))), List.forall_mem_cons.mpr ⟨N7 _ (.tail _ (.tail _ (.tail _ (.tail _ (.tail _ (.tail _ (.tail _ (.head _)))))))), List.forall_mem_cons.mpr ⟨N7 _ (.tail _ (.tail _ (.tail _ (.tail _ (.tail _ (.tail _ (.tail _ (.tail _ (.head _))))))))), List.forall_mem_cons.mpr ⟨N7 _ (.tail _ (.head _)), List.forall_mem_cons.mpr ⟨N7 _ (.tail _ (.tail _ (.head _))), List.forall_mem_cons.mpr ⟨N7 _ (.tail _ (.tail _ (.tail _ (.tail _ (.head _))))), List.forall_mem_cons.mpr ⟨N7 _ (.tail _ (.tail _ (.tail _ (.tail _ (.tail _ (.head _)))))), List.forall_mem_cons.mpr ⟨N7 _ (.tail _ (.tail _ (.tail _ (.tail _ (.tail _ (.tail _ (.head _))))))), fun q hq => N7 q (.tail _ (.tail _ (.tail _ (.tail _ (.tail _ (.tail _ (.tail _ (.tail _ (.tail _ (hq))))))))))⟩⟩⟩⟩⟩⟩⟩⟩⟩
  refine segC w s g L lads c73 Dl oc o73 [] 0 lo up bs tl k _ tk0 t1 t2 tr tb P D R W0 O J num host ups p loose mean mg mb _ _ h2 tk2 _ hb ok (Hide.mk ⟨ok.r0, ok.r1, ok.r2⟩) (Hide.mk ok.dg) htl B' X' T' C'.2 hcell co73 (by decide) ⟨hc.2.2.2, (ne73 ko2).1, (ne73 ko3).1, ?n73⟩ ⟨x4.symm, ne_lt o2, ?nla⟩ rfl rfl rfl rfl rfl rfl F6 N8 (fun h3 tk3 u F8 N9 => ?_)
  case n73 => exact List.forall_mem_cons.mpr ⟨show @Ne Nat 80 73 by decide, List.forall_mem_cons.mpr ⟨hc.2.2.1, List.forall_mem_cons.mpr ⟨r6.symm, List.forall_mem_cons.mpr ⟨(ne73 ko4).1, List.forall_mem_cons.mpr ⟨(ne73 ko1).1, z73⟩⟩⟩⟩⟩
  case nla => exact List.forall_mem_cons.mpr ⟨ne_lt ko2, List.forall_mem_cons.mpr ⟨v4.symm, List.forall_mem_cons.mpr ⟨r3.symm, List.forall_mem_cons.mpr ⟨ne_gt hI.2.1, List.forall_mem_cons.mpr ⟨ne_gt o3, zla⟩⟩⟩⟩⟩
  have N10 : News g L h3 ((I, it) :: lp :: (lads, W.listOf #[.ref Dl] (0 + 1)) :: (Dl, W.listOf vr.toArray cr) :: (L + 1, oc) :: (80, tabObj #[rawInt 81, rawInt 4, .ref c80]) :: (73, tabObj #[rawInt 66, rawInt 4, .ref c73]) :: (c80, o80) :: (c73, o73) :: ts) := List.forall_mem_cons.mpr ⟨N9 _ (.tail _ (.tail _ (.tail _ (.tail _ (.tail _ (.tail _ (.tail _ (.head _)))))))), List.forall_mem_cons.mpr ⟨N9 _ (.tail _ (.tail _ (.tail _ (.tail _ (.tail _ (.tail _ (.tail _ (.tail _ (.head _))))))))), List.forall_mem_cons.mpr ⟨N9 _ (.tail _ (.tail _ (.head _))), List.forall_mem_cons.mpr ⟨N9 _ (.tail _ (.tail _ (.tail _ (.tail _ (.tail _ (.tail _ (.head _))))))), List.forall_mem_cons.mpr ⟨N9 _ (.tail _ (.tail _ (.tail _ (.head _)))), List.forall_mem_cons.mpr ⟨N9 _ (.tail _ (.tail _ (.tail _ (.tail _ (.head _))))), List.forall_mem_cons.mpr ⟨N9 _ (.head _), List.forall_mem_cons.mpr ⟨N9 _ (.tail _ (.tail _ (.tail _ (.tail _ (.tail _ (.head _)))))), List.forall_mem_cons.mpr ⟨N9 _ (.tail _ (.head _)), fun q hq => N9 q (.tail _ (.tail _ (.tail _ (.tail _ (.tail _ (.tail _ (.tail _ (.tail _ (.tail _ (hq))))))))))⟩⟩⟩⟩⟩⟩⟩⟩⟩
  refine turn_end (I := I) F8 N10 (List.forall_mem_cons.mpr ⟨ne_lt hI.1, List.forall_mem_cons.mpr ⟨ne_lt hI.2.1, List.forall_mem_cons.mpr ⟨r1.symm, List.forall_mem_cons.mpr ⟨ne_lt hI.2.2.1, List.forall_mem_cons.mpr ⟨ne_lt hI.2.2.2.1, List.forall_mem_cons.mpr ⟨ne_lt hI.2.2.2.2, List.forall_mem_cons.mpr ⟨v2.symm, List.forall_mem_cons.mpr ⟨x2.symm, zI⟩⟩⟩⟩⟩⟩⟩⟩) ⟨.head _, ?_⟩
  exact ⟨lads, Dl, c73, c80, oc, o73, o80, ta, tb, t1, t2, _, _, _, _, _, _, mm, _, _, _, ts, rfl, rfl, hcell, co80, co73, hR, o1, o2, o3, r3.symm, v4.symm, x4.symm, r5.symm, hc.1, hc.2.1, r6.symm, hc.2.2.1, hc.2.2.2⟩
end Mine
end
section
set_option maxRecDepth 100000
set_option maxHeartbeats 8000000
set_option linter.unusedVariables false
set_option autoImplicit false
namespace Mine
theorem turn2 (w : World) {oc : Value} {od : Option Addr} {osl : Array (Option Value)} {name qual : PySem.Str} {params : Arguments} {a0 a1 a2 a3 a4 : Stmt} {tgt iter : PySem.Expr} {tb rs : List Stmt} {pos : Pos} {scope : Scope} {dV kV doc pm cdv ct : Value} {an : Option Addr} (s : Shared) (g : Heap) (L I : Addr) (it : Obj) (lp : Addr × Obj) (R0 : List (Int × PySem.Str)) (lo up bs tl k : Int) (tk0 : Tok) (P D R W0 : PySem.Str) (O : Array UInt8) (J : PySem.Str) (num : Nat → Int) (host ups : Nat → PySem.Str)
    (p : Program) (loose : List PySem.Str) (mean : ExcName → Option Value) (mg mb : PySem.Str → Option Value) (m : PySem.Str → Option Value) (n : List (Addr × Obj)) (h : Heap) (tk : Nat) :
    (hd.heap_39 w.params).lookup 169 = some ⟨oc, od, .func (fnOf name qual params (a0 :: a1 :: a2 :: a3 :: a4 :: Stmt.For tgt iter tb [] pos :: rs) scope dV kV doc pm an cdv ct), osl⟩ → TurnOk lo up (9 + tl.fmod 8) bs k P D R W0 O J num host ups → 0 ≤ tl → Below callerA g [] g → Frag.In (hd.heap_39 w.params) g → Top p loose mean mg mb g → CodeHd g 84 80 ∧ CodeHd g 77 73 →
    J1 L lo up bs tl R0 lp m n → (∀ p ∈ n, p.1 ≠ I) → Fr g L h (fun y => if y = PySem.Str.ofString "number" then some (.int k tk0) else m y) → News g L h ((I, it) :: n) →
    wpS (model PySem.Challenge.rw_zo0035_01.row.prog w) (callerA.deeper (envOfC qual scope L 169 cdv)) (execs tb (envOfC qual scope L 169 cdv)) (TurnEnd g L (fun m' n' => lp ∈ n' ∧ J2 L R0 (rungL k num host) m' n') I it { s with heap := h, toks := tk }) { s with heap := h, toks := tk } := by
  k_fill
  k_with_none
  w_top off
  intro hb ok htl B' X' T' C' hJ hI F3 N3
  have e : _ = some _ := hb.symm.trans (by k_is)
  cases e
  obtain ⟨lads, D0, c73, c80, oc, o73, o80, ta, tb, t1, t2, u1, u2, u3, u4, u5, u6, mm, cl, c0, vr0, ts0, rfl, rfl, hcell, co80, co73, hR0, o1, o2, o3, dD1, dc1, dx1, dD2, dc2, dx2, dD3, dc3, dx3⟩ := hJ
  have hts0 : ∀ p ∈ ts0, p ∈ (I, it) :: lp :: (lads, W.listOf #[.ref D0] cl) :: (D0, W.listOf vr0.toArray c0) :: (L + 1, oc) :: (80, tabObj #[rawInt 81, rawInt 4, .ref c80]) :: (73, tabObj #[rawInt 66, rawInt 4, .ref c73]) :: (c80, o80) :: (c73, o73) :: ts0 := fun p hp => (by repeat (first | exact hp | apply List.Mem.tail))
  have s73 := ts_ne N3 hR0 hts0 (p := (73, tabObj #[rawInt 66, rawInt 4, .ref c73])) (by repeat (first | exact .head _ | apply List.Mem.tail)) (by intro e; cases e)
  have s80 := ts_ne N3 hR0 hts0 (p := (80, tabObj #[rawInt 81, rawInt 4, .ref c80])) (by repeat (first | exact .head _ | apply List.Mem.tail)) (by intro e; cases e)
  have sla := ts_ne N3 hR0 hts0 (p := (lads, W.listOf #[.ref D0] cl)) (by repeat (first | exact .head _ | apply List.Mem.tail)) (by intro e; exact absurd (Value.type.inj e) (by decide))
  have sI : ∀ q ∈ ts0, q.1 ≠ I := fun q hq => hI q (by repeat (first | exact hq | apply List.Mem.tail))
  clear hts0
  replace hI := And.intro (hI lp (.head _)) (And.intro (hI _ (.tail _ (.head _))) (And.intro (hI _ (.tail _ (.tail _ (.head _)))) (And.intro (hI _ (.tail _ (.tail _ (.tail _ (.head _))))) (And.intro (hI _ (.tail _ (.tail _ (.tail _ (.tail _ (.head _)))))) (And.intro (hI _ (.tail _ (.tail _ (.tail _ (.tail _ (.tail _ (.head _))))))) (And.intro (hI _ (.tail _ (.tail _ (.tail _ (.tail _ (.tail _ (.tail _ (.head _)))))))) (hI _ (.tail _ (.tail _ (.tail _ (.tail _ (.tail _ (.tail _ (.tail _ (.head _))))))))))))))) 
  try dsimp only at F3 N3 hI
  have ko1 : @LT.lt Nat _ 80 lp.1 := by omega
  have ko2 : @LT.lt Nat _ 80 lads := by omega
  have ko3 : @LT.lt Nat _ 80 (L + 1) := by omega
  try k_fold
  refine segA w s g L lo up (9 + tl.fmod 8) bs k tk0 t1 t2 P D R W0 O J num host ups p loose mean mg mb _ _ h tk _ hb ok B' X' T' rfl rfl F3 N3 (fun h1 tk1 Dl Df vr vsf cr cf ts F5 N5 If hR zz rr => ?_)
  clear F3 N3
  obtain ⟨r1, r2, r3, r4, r5, r6, r7, r8, r9, -⟩ := rr
  dsimp only at r1 r2 r3 r4 r5 r6 r7 r8 r9
  have htt : ∃ tt, tt = ts0 ++ ts := ⟨_, rfl⟩
  obtain ⟨tt, htt⟩ := htt
  have k73 : ∀ q ∈ tt, q.1 ≠ 73 := fun q hq => by rw [htt] at hq; rcases List.mem_append.mp hq with hq | hq; exact s73 q hq; exact zz (73, tabObj #[rawInt 66, rawInt 4, .ref c73]) (.tail _ (.tail _ (.tail _ (.tail _ (.tail _ (.tail _ (.head _))))))) q hq
  have k80 : ∀ q ∈ tt, q.1 ≠ 80 := fun q hq => by rw [htt] at hq; rcases List.mem_append.mp hq with hq | hq; exact s80 q hq; exact zz (80, tabObj #[rawInt 81, rawInt 4, .ref c80]) (.tail _ (.tail _ (.tail _ (.tail _ (.tail _ (.head _)))))) q hq
  have kla : ∀ q ∈ tt, q.1 ≠ lads := fun q hq => by rw [htt] at hq; rcases List.mem_append.mp hq with hq | hq; exact sla q hq; exact zz (lads, W.listOf #[.ref D0] cl) (.tail _ (.tail _ (.head _))) q hq
  have kI : ∀ q ∈ tt, q.1 ≠ I := fun q hq => by rw [htt] at hq; rcases List.mem_append.mp hq with hq | hq; exact sI q hq; exact zz (I, it) (.head _) q hq
  have kt0 : ∀ q ∈ ts0, q ∈ tt := fun q hq => by rw [htt]; exact List.mem_append_left _ hq
  have kt1 : ∀ q ∈ ts, q ∈ tt := fun q hq => by rw [htt]; exact List.mem_append_right _ hq
  simp only [List.cons_append, ← htt] at N5
  clear htt s73 s80 sla sI zz
  have N6 : News g L h1 ((80, tabObj #[rawInt 81, rawInt 4, .ref c80]) :: (73, tabObj #[rawInt 66, rawInt 4, .ref c73]) :: (c80, o80) :: (c73, o73) :: (Df, W.listOf vsf.toArray cf) :: (Dl, W.listOf vr.toArray cr) :: (I, it) :: lp :: (lads, W.listOf #[.ref D0] cl) :: (D0, W.listOf vr0.toArray c0) :: (L + 1, oc) :: tt) := List.forall_mem_cons.mpr ⟨N5 _ (.tail _ (.tail _ (.tail _ (.tail _ (.tail _ (.tail _ (.tail _ (.head _)))))))), List.forall_mem_cons.mpr ⟨N5 _ (.tail _ (.tail _ (.tail _ (.tail _ (.tail _ (.tail _ (.tail _ (.tail _ (.head _))))))))), List.forall_mem_cons.mpr ⟨N5 _ (.tail _ (.tail _ (.tail _ (.tail _ (.tail _ (.tail _ (.tail _ (.tail _ (.tail _ (.head _)))))))))), List.forall_mem_cons.mpr ⟨N5 _ (.tail _ (.tail _ (.tail _ (.tail _ (.tail _ (.tail _ (.tail _ (.tail _ (.tail _ (.tail _ (.head _))))))))))), List.forall_mem_cons.mpr ⟨N5 _ (.tail _ (.head _)), List.forall_mem_cons.mpr ⟨N5 _ (.head _), List.forall_mem_cons.mpr ⟨N5 _ (.tail _ (.tail _ (.head _))), List.forall_mem_cons.mpr ⟨N5 _ (.tail _ (.tail _ (.tail _ (.head _)))), List.forall_mem_cons.mpr ⟨N5 _ (.tail _ (.tail _ (.tail _ (.tail _ (.head _))))), List.forall_mem_cons.mpr ⟨N5 _ (.tail _ (.tail _ (.tail _ (.tail _ (.tail _ (.head _)))))), List.forall_mem_cons.mpr ⟨N5 _ (.tail _ (.tail _ (.tail _ (.tail _ (.tail _ (.tail _ (.head _))))))), fun q hq => N5 q (.tail _ (.tail _ (.tail _ (.tail _ (.tail _ (.tail _ (.tail _ (.tail _ (.tail _ (.tail _ (.tail _ (hq))))))))))))⟩⟩⟩⟩⟩⟩⟩⟩⟩⟩⟩
  refine segBh w s g L Df vsf cf c73 c80 o73 o80 lo up bs tl k tb ta P D R W0 O J num host ups p loose mean mg mb _ _ h1 tk1 _ hb ok htl B' X' T' C' co80 co73 ⟨dc2, dx2, dc3, dx3⟩ ?e4 If rfl rfl rfl F5 N6 (fun h2 tk2 u1 tr F6 N7 => ?_)
  case e4 => exact List.forall_mem_cons.mpr ⟨⟨r7.symm, r6.symm⟩, List.forall_mem_cons.mpr ⟨⟨hI.2.2.2.2.2.1.symm, hI.2.2.2.2.1.symm⟩, List.forall_mem_cons.mpr ⟨ne73 ko1, List.forall_mem_cons.mpr ⟨ne73 ko2, List.forall_mem_cons.mpr ⟨⟨dD3, dD2⟩, List.forall_mem_cons.mpr ⟨ne73 ko3, fun q hq => ⟨k73 q hq, k80 q hq⟩⟩⟩⟩⟩⟩⟩
  clear F5 N5 N6
  have N8 : News g L h2 ((73, tabObj #[rawInt 66, rawInt 4, .ref c73]) :: (c73, o73) :: (lads, W.listOf (List.toArray [.ref D0]) cl) :: (L + 1, oc) :: (80, tabObj #[rawInt 81, rawInt 4, .ref c80]) :: (c80, o80) :: (Dl, W.listOf vr.toArray cr) :: (I, it) :: lp :: (D0, W.listOf vr0.toArray c0) :: tt) := List.forall_mem_cons.mpr ⟨N7 _ (.head _), List.forall_mem_cons.mpr ⟨N7 _ (.tail _ (.tail _ (.tail _ (.head _)))), List.forall_mem_cons.mpr ⟨N7 _ (.tail _ (.tail _ (.tail _ (.tail _ (.tail _ (.tail _ (.tail _ (.head _)))))))), List.forall_mem_cons.mpr ⟨N7 _ (.tail _ (.tail _ (.tail _ (.tail _ (.tail _ (.tail _ (.tail _ (.tail _ (.tail _ (.head _)))))))))), List.forall_mem_cons.mpr ⟨N7 _ (.tail _ (.head _)), List.forall_mem_cons.mpr ⟨N7 _ (.tail _ (.tail _ (.head _))), List.forall_mem_cons.mpr ⟨N7 _ (.tail _ (.tail _ (.tail _ (.tail _ (.head _))))), List.forall_mem_cons.mpr ⟨N7 _ (.tail _ (.tail _ (.tail _ (.tail _ (.tail _ (.head _)))))), List.forall_mem_cons.mpr ⟨N7 _ (.tail _ (.tail _ (.tail _ (.tail _ (.tail _ (.tail _ (.head _))))))), List.forall_mem_cons.mpr ⟨N7 _ (.tail _ (.tail _ (.tail _ (.tail _ (.tail _ (.tail _ (.tail _ (.tail _ (.head _))))))))), fun q hq => N7 q (.tail _ (.tail _ (.tail _ (.tail _ (.tail _ (.tail _ (.tail _ (.tail _ (.tail _ (.tail _ (hq)))))))))))⟩⟩⟩⟩⟩⟩⟩⟩⟩⟩
  refine segC w s g L lads c73 Dl oc o73 [.ref D0] cl lo up bs tl k _ tk0 t1 t2 tr tb P D R W0 O J num host ups p loose mean mg mb _ _ h2 tk2 _ hb ok (Hide.mk ⟨ok.r0, ok.r1, ok.r2⟩) (Hide.mk ok.dg) htl B' X' T' C'.2 hcell co73 (show 1 ≤ 100 by decide) ⟨dx3, (ne73 ko2).1, (ne73 ko3).1, ?n73⟩ ⟨dx1, ne_lt o2, ?nla⟩ rfl rfl rfl rfl rfl rfl F6 N8 (fun h3 tk3 u F8 N9 => ?_)
  case n73 => exact List.forall_mem_cons.mpr ⟨show @Ne Nat 80 73 by decide, List.forall_mem_cons.mpr ⟨dc3, List.forall_mem_cons.mpr ⟨r7.symm, List.forall_mem_cons.mpr ⟨hI.2.2.2.2.2.1.symm, List.forall_mem_cons.mpr ⟨(ne73 ko1).1, List.forall_mem_cons.mpr ⟨dD3, k73⟩⟩⟩⟩⟩⟩
  case nla => exact List.forall_mem_cons.mpr ⟨ne_lt ko2, List.forall_mem_cons.mpr ⟨dc1, List.forall_mem_cons.mpr ⟨r3.symm, List.forall_mem_cons.mpr ⟨hI.2.1.symm, List.forall_mem_cons.mpr ⟨ne_gt o3, List.forall_mem_cons.mpr ⟨dD1, kla⟩⟩⟩⟩⟩⟩
  have N10 : News g L h3 ((I, it) :: lp :: (lads, W.listOf #[.ref D0, .ref Dl] (cl + 1)) :: (D0, W.listOf vr0.toArray c0) :: (Dl, W.listOf vr.toArray cr) :: (L + 1, oc) :: (80, tabObj #[rawInt 81, rawInt 4, .ref c80]) :: (73, tabObj #[rawInt 66, rawInt 4, .ref c73]) :: tt) := List.forall_mem_cons.mpr ⟨N9 _ (.tail _ (.tail _ (.tail _ (.tail _ (.tail _ (.tail _ (.tail _ (.head _)))))))), List.forall_mem_cons.mpr ⟨N9 _ (.tail _ (.tail _ (.tail _ (.tail _ (.tail _ (.tail _ (.tail _ (.tail _ (.head _))))))))), List.forall_mem_cons.mpr ⟨N9 _ (.tail _ (.tail _ (.head _))), List.forall_mem_cons.mpr ⟨N9 _ (.tail _ (.tail _ (.tail _ (.tail _ (.tail _ (.tail _ (.tail _ (.tail _ (.tail _ (.head _)))))))))), List.forall_mem_cons.mpr ⟨N9 _ (.tail _ (.tail _ (.tail _ (.tail _ (.tail _ (.tail _ (.head _))))))), List.forall_mem_cons.mpr ⟨N9 _ (.tail _ (.tail _ (.tail _ (.head _)))), List.forall_mem_cons.mpr ⟨N9 _ (.tail _ (.tail _ (.tail _ (.tail _ (.head _))))), List.forall_mem_cons.mpr ⟨N9 _ (.head _), fun q hq => N9 q (.tail _ (.tail _ (.tail _ (.tail _ (.tail _ (.tail _ (.tail _ (.tail _ (.tail _ (.tail _ (hq)))))))))))⟩⟩⟩⟩⟩⟩⟩⟩
  refine turn_end (I := I) F8 N10 (List.forall_mem_cons.mpr ⟨hI.1, List.forall_mem_cons.mpr ⟨hI.2.1, List.forall_mem_cons.mpr ⟨hI.2.2.1, List.forall_mem_cons.mpr ⟨r1.symm, List.forall_mem_cons.mpr ⟨hI.2.2.2.1, List.forall_mem_cons.mpr ⟨hI.2.2.2.2.1, List.forall_mem_cons.mpr ⟨hI.2.2.2.2.2.1, kI⟩⟩⟩⟩⟩⟩⟩) ⟨.head _, ?_⟩
  exact ⟨lp, lads, D0, Dl, oc, _, _, _, _, _, vr0, _, tt, ts0, ts, rfl, hcell, hR0, hR, kt0, kt1, o1, o2⟩
end Mine
end
section
set_option maxRecDepth 100000
set_option maxHeartbeats 8000000
set_option linter.unusedVariables false
set_option autoImplicit false
namespace Mine
open PyProof.Rows.LCt PyProof.Rows.LCg
section
variable {prog : Program} {w : World} {A : Around} {s : Shared} {env : Env} {h₀ : Heap} {L : Addr} {m : PySem.Str → Option Value} {ct elt : PySem.Expr} {x : PySem.Str} {scope : Scope} {cl : List (PySem.Str × Addr)}
/-- a comprehension over a ladder with one test -/
theorem compRest {S : List (Addr × Obj) → Prop} {Fin : List Value → List (Addr × Obj) → Prop} {vs : List Value} {R0 : List (Int × PySem.Str)} {q : Int × PySem.Str → Bool} {ts news : List (Addr × Obj)}
    (hd : DatAll ts vs (R0.map rungD)) (hS : S news) (hFin : ∀ ys, DatAll ts ys ((R0.filter q).map rungD) → Fin ys news)
    (turn : ∀ p v I oI C oC D ys m₂ h tk (E' : Value → Shared → Prop), p ∈ R0 → DatIn ts v (rungD p) → NsObj oC m₂ → m₂ x = some v → Fr h₀ L h m → News h₀ L h ((I, oI) :: (C, oC) :: (D, lst ys) :: news) →
      wpAny (model prog w) A (isTrue ct (compEnvC scope cl C env) (eval ct (compEnvC scope cl C env))) (fun ok s' => ok = q p ∧ ∃ h' tk', s' = { s with heap := h', toks := tk' } ∧ Fr h₀ L h' m ∧ News h₀ L h' ((I, oI) :: (C, oC) :: (D, lst ys) :: news)) E' { s with heap := h, toks := tk })
    (el : ∀ v I oI C oC D ys m₂ h tk (E' : Value → Shared → Prop), NsObj oC m₂ → m₂ x = some v → Fr h₀ L h m → News h₀ L h ((I, oI) :: (C, oC) :: (D, lst ys) :: news) →
      wpAny (model prog w) A (eval elt (compEnvC scope cl C env)) (fun y s' => y = v ∧ ∃ h' tk', s' = { s with heap := h', toks := tk' } ∧ Fr h₀ L h' m ∧ News h₀ L h' ((I, oI) :: (C, oC) :: (D, lst ys) :: news)) E' { s with heap := h, toks := tk }) :
    ∀ (k i : Nat) (ys : List Value), i + k = R0.length → DatAll ts ys (((R0.take i).filter q).map rungD) → CompRestT prog w A h₀ L m env ct elt x scope cl s S (fun i v => vs.toArray[i]? = some v) Fin k i ys news
  | 0, i, ys, hk, hy => by
    refine CompRestT.zero (hFin ys ?_)
    rw [List.take_of_length_le (by omega)] at hy
    exact hy
  | k + 1, i, ys, hk, hy => by
    refine CompRestT.succ fun v I oI C oC D m₂ h tk E' hP ho hm F N off hne => ?_
    have hi : i < R0.length := by omega
    obtain ⟨v', hv', hDv⟩ := hd.get (k := i) (by simpa using hi)
    have e : v' = v := by
      have h1 : vs[i]? = some v := by simpa using hP
      exact Option.some.inj (hv'.symm.trans h1)
    subst e
    have hDp : DatIn ts v' (rungD R0[i]) := by simpa using hDv
    have htk : (R0.take (i + 1)).filter q = (R0.take i).filter q ++ (if q R0[i] = true then [R0[i]] else []) := by
      rw [List.take_succ_eq_append_getElem hi, List.filter_append]
      congr 1
      rw [List.filter_cons]
      cases q R0[i] <;> rfl
    refine wpAny_mono (turn R0[i] v' I oI C oC D ys m₂ h tk E' (List.getElem_mem hi) hDp ho hm F N) (fun ok s' hq => ?_) fun _ _ e => e
    obtain ⟨rfl, h', tk', rfl, F', N'⟩ := hq
    cases hqp : q R0[i] with
    | true =>
      simp only [if_true]
      refine wpAny_mono (el v' I oI C oC D ys m₂ h' tk' E' ho hm F' N') (fun y s'' hy2 => ?_) fun _ _ e => e
      obtain ⟨rfl, h2, tk2, rfl, F2, N2⟩ := hy2
      refine ⟨h2, tk2, news, rfl, F2, N2, off, hS, ?_⟩
      refine compRest hd hS hFin turn el k (i + 1) _ (by omega) ?_
      rw [htk, hqp, if_pos rfl, List.map_append]
      exact DatAll.append hy (.one hDp)
    | false =>
      simp only [Bool.false_eq_true, if_false]
      refine ⟨h', tk', news, rfl, F', N', off, hS, ?_⟩
      refine compRest hd hS hFin turn el k (i + 1) _ (by omega) ?_
      rw [htk, hqp, if_neg (by decide), List.append_nil]
      exact hy
end
end Mine
end
section
set_option maxRecDepth 100000
set_option maxHeartbeats 8000000
set_option linter.unusedVariables false
set_option autoImplicit false
namespace Mine

/-- what the last loops ask of a ladder's first rung, its other rungs, and a rung -/
structure DomOk (a : Int × PySem.Str) (X : List (Int × PySem.Str)) (p : Int × PySem.Str) : Prop where
  h1 : hdnOk (Txt.lower (Txt.upper a.2))
  h2 : hdnOk (Txt.slice (Txt.lower (PySem.Str.ofString "." ++ p.2)) (some 1) none)
  d : domF (Txt.upper a.2) (PySem.Str.ofString "." ++ p.2) = inR X p
  l1 : a.2.length ≤ 100
  l2 : p.2.length ≤ 100
  l3 : (Txt.upper a.2).length ≤ 1000
  l4 : (PySem.Str.ofString "." ++ p.2).length ≤ 1000
  s1 : PyData.strOk p.2 = true
  s2 : ∀ q ∈ X, PyData.strOk q.2 = true
  n : X.length ≤ 20
theorem turnI (w : World) {oc : Value} {od : Option Addr} {osl : Array (Option Value)} {name qual : PySem.Str} {params : Arguments} {a0 a1 a2 a3 a4 a5 a6 : Stmt} {xo xi : PySem.Str} {po1 pi1 posO posI : Pos} {iterO iterI : PySem.Expr} {ib rs : List Stmt} {scope : Scope} {dV kV doc pm cdv ct : Value} {an : Option Addr} (s : Shared) (g : Heap) (L I Dx Da Dp : Addr) (it : Obj) (lp : Addr × Obj) (a p : Int × PySem.Str) (X : List (Int × PySem.Str)) (vx : List Value) (cx ca cp : Nat) (ta tb tc td : Tok) (tx bs : List (Addr × Obj)) (vm : Value)
    (pr : Program) (loose : List PySem.Str) (mean : ExcName → Option Value) (mg mb : PySem.Str → Option Value) (m : PySem.Str → Option Value) (h : Heap) (tk : Nat) :
    (hd.heap_39 w.params).lookup 169 = some ⟨oc, od, .func (fnOf name qual params (a0 :: a1 :: a2 :: a3 :: a4 :: a5 :: a6 :: Stmt.For (.Name xo po1) iterO [Stmt.For (.Name xi pi1) iterI ib [] posI] [] posO :: rs) scope dV kV doc pm an cdv ct), osl⟩ → DomOk a X p → Below callerA g [] g → Frag.In (hd.heap_39 w.params) g → Top pr loose mean mg mb g →
    DatAll tx vx (X.map rungD) → (∀ q ∈ tx, q ∈ bs) → (Dx, W.listOf (Value.ref Da :: vx).toArray cx) ∈ bs → (Da, tupO a.1 ta a.2 tb ca) ∈ bs → (Dp, tupO p.1 tc p.2 td cp) ∈ bs → lp ∈ bs → (∀ q ∈ bs, q.1 ≠ I) → m (PySem.Str.ofString "ladder") = some (.ref Dx) → m (PySem.Str.ofString "meet") = some vm →
    Fr g L h (fun y => if y = PySem.Str.ofString "rung" then some (.ref Dp) else m y) → News g L h ((I, it) :: bs) →
    wpS (model PySem.Challenge.rw_zo0035_01.row.prog w) (callerA.deeper (envOfC qual scope L 169 cdv)) (execs ib (envOfC qual scope L 169 cdv)) (TurnEnd g L (fun m' n' => lp ∈ n' ∧ n' = bs ∧ m' (PySem.Str.ofString "ladder") = some (.ref Dx) ∧ m' (PySem.Str.ofString "meet") = some vm) I it { s with heap := h, toks := tk }) { s with heap := h, toks := tk } := by
  k_fill
  k_with_none
  w_top off
  intro hb ok B' X' T' hX hXs mDx mDa mDp mlp hI hml hmm F3 N3
  have e : _ = some _ := hb.symm.trans (by k_is)
  cases e
  clear hb
  have F4 := fr_name F3 hml
  have N4 : News g L h ((Dx, W.listOf (Value.ref Da :: vx).toArray cx) :: (Da, tupO a.1 ta a.2 tb ca) :: (Dp, tupO p.1 tc p.2 td cp) :: (I, it) :: bs) := fun q hq => by
    rcases List.mem_cons.mp hq with rfl | hq
    · exact N3 _ (.tail _ mDx)
    rcases List.mem_cons.mp hq with rfl | hq
    · exact N3 _ (.tail _ mDa)
    rcases List.mem_cons.mp hq with rfl | hq
    · exact N3 _ (.tail _ mDp)
    exact N3 _ hq
  clear F3 N3
  have ol1 := ok.l1
  have ol2 := ok.l2
  obtain ⟨an, ax⟩ := a
  obtain ⟨pn, px⟩ := p
  dsimp only at ol1 ol2
  try dsimp only [tupO] at F4 N4
  refine wpS_of ?_
  try k_fold
  k_with "call ref" => (refine halt ?_)
  k_with "subscriptTail Name Slice" => (refine halt ?_)
  k_with "compareOp In" => (refine halt ?_)
  k_steps
  refine ⟨?_⟩
  rename Fr _ _ _ _ => F7
  rename News _ _ _ _ => N7
  refine' use0 (S50 w _ _ _ _) ?k1 ?k2 ?k3 ?k4 ?k5 ?k6 ?k7 ?k8 ?k9 ?_
  case k1 => k_asm
  case k2 => k_asm
  case k3 => k_asm
  case k4 => k_asm
  case k5 => k_asm
  case k6 => first | exact rfl | assumption
  case k7 => exact ⟨ok.l3, ok.l4, ok.h1, ok.h2⟩
  case k8 => ktr_room
  case k9 => ktr_units
  intro v9 h9 tk9 st9 F9 N9 po9
  subst po9
  rw [ok.d]
  clear N7 F7
  try dsimp only
  try k_fold
  k_steps
  refine ⟨?_⟩
  have hvz : vx.length ≤ 1000 := by
    have h1 := hX.length
    have h2 := ok.n
    simp at h1
    omega
  rename Fr _ _ _ _ => F7
  rename News _ _ _ _ => N7
  refine' slice_tail ?F ?N ?l ?z ?_ ?s ?t
  case F => k_asm
  case N => k_asm
  case l => exact .head _
  case z => exact hvz
  case s => with_unfolding_all rfl
  case t => intro _; with_unfolding_all rfl
  intro Ds h8 F8 N8 l8
  clear F7 N7
  try dsimp only
  try k_fold
  k_steps
  refine ⟨?_⟩
  rename News _ _ _ _ => N7
  refine' in_rungs (R := X) (p := (pn, px)) N7 hX ?s1 (.head _) (n₂ := [(Dp, tupO pn tc px td cp)]) ?s2 ?s3 ok.s2 ok.s1 ?s4 ?_
  case s1 => exact fun q hq => by repeat (first | exact hXs q hq | apply List.Mem.tail)
  case s2 => exact .tuple (vs := [.int pn tc, .str px td]) (.head _) (.cons (.int pn tc) (.cons (.str px td) .nil))
  case s3 => exact fun q hq => by rw [List.mem_singleton.mp hq]; repeat (first | exact .head _ | apply List.Mem.tail)
  case s4 => ktr_units
  k_with_none
  try dsimp only
  try k_fold
  k_steps
  · rename (_ != _) = true => hc
    exact absurd hc (by simp)
  · rename Fr _ _ _ _ => F9
    rename News _ _ _ _ => N9
    have N10 : News g L _ ((I, it) :: bs) := fun q hq => N9 q (.tail _ (.tail _ (.tail _ (.tail _ hq))))
    exact turn_end (I := I) F9 N10 hI ⟨mlp, rfl, rfl, hmm⟩
end Mine
end
section
set_option maxRecDepth 100000
set_option maxHeartbeats 8000000
set_option linter.unusedVariables false
set_option autoImplicit false
namespace Mine
theorem turnO (w : World) {oc : Value} {od : Option Addr} {osl : Array (Option Value)} {name qual : PySem.Str} {params : Arguments} {a0 a1 a2 a3 a4 a5 a6 : Stmt} {xo xi : PySem.Str} {po1 pi1 posO posI : Pos} {iterO iterI : PySem.Expr} {ib rs : List Stmt} {scope : Scope} {dV kV doc pm cdv ct : Value} {an : Option Addr} (s : Shared) (g : Heap) (L I Dx Da D0 D1 Dm A0 A1 Am lads : Addr) (it ob : Obj) (lp : Addr × Obj) (a p0 p1 pz : Int × PySem.Str) (X : List (Int × PySem.Str)) (vx v0 v1 vm : List Value) (cl cx ca c0 c1 cm d0 d1 dm : Nat) (ta tb t00 t01 t10 t11 tm0 tm1 : Tok) (tx bs : List (Addr × Obj))
    (pr : Program) (loose : List PySem.Str) (mean : ExcName → Option Value) (mg mb : PySem.Str → Option Value) (m : PySem.Str → Option Value) (h : Heap) (tk : Nat) :
    (hd.heap_39 w.params).lookup 169 = some ⟨oc, od, .func (fnOf name qual params (a0 :: a1 :: a2 :: a3 :: a4 :: a5 :: a6 :: Stmt.For (.Name xo po1) iterO [Stmt.For (.Name xi pi1) iterI ib [] posI] [] posO :: rs) scope dV kV doc pm an cdv ct), osl⟩ → DomOk a X p0 → DomOk a X p1 → DomOk a X pz → Below callerA g [] g → Frag.In (hd.heap_39 w.params) g → Top pr loose mean mg mb g →
    DatAll tx vx (X.map rungD) → (∀ q ∈ tx, q ∈ bs) → (Dx, W.listOf (Value.ref Da :: vx).toArray cx) ∈ bs → (Da, tupO a.1 ta a.2 tb ca) ∈ bs → lp ∈ bs → (∀ q ∈ bs, q.1 ≠ I) →
    (D0, W.listOf (Value.ref A0 :: v0).toArray c0) ∈ bs → (D1, W.listOf (Value.ref A1 :: v1).toArray c1) ∈ bs → (Dm, W.listOf (Value.ref Am :: vm).toArray cm) ∈ bs → (A0, tupO p0.1 t00 p0.2 t01 d0) ∈ bs → (A1, tupO p1.1 t10 p1.2 t11 d1) ∈ bs → (Am, tupO pz.1 tm0 pz.2 tm1 dm) ∈ bs →
    (lads, W.listOf #[.ref D0, .ref D1] cl) ∈ bs → (L + 1, ob) ∈ bs → ob.data = .cell (some (.ref lads)) → m (PySem.Str.ofString "meet") = some (.ref Dm) →
    Fr g L h (fun y => if y = PySem.Str.ofString "ladder" then some (.ref Dx) else m y) → News g L h ((I, it) :: bs) →
    wpS (model PySem.Challenge.rw_zo0035_01.row.prog w) (callerA.deeper (envOfC qual scope L 169 cdv)) (execs [Stmt.For (.Name xi pi1) iterI ib [] posI] (envOfC qual scope L 169 cdv)) (TurnEnd g L (fun m' n' => lp ∈ n' ∧ n' = bs ∧ m' (PySem.Str.ofString "meet") = some (.ref Dm)) I it { s with heap := h, toks := tk }) { s with heap := h, toks := tk } := by
  k_fill
  k_with_none
  w_top off
  intro hb ok0 ok1 okm B' X' T' hX hXs mDx mDa mlp hI m0 m1 mm k0 k1 km mla mce hce hmm F3 N3
  have e : _ = some _ := hb.symm.trans (by k_is)
  cases e
  have F4 := fr_name F3 hmm
  have N4 : News g L h ((lads, W.listOf #[.ref D0, .ref D1] cl) :: (D0, W.listOf (Value.ref A0 :: v0).toArray c0) :: (D1, W.listOf (Value.ref A1 :: v1).toArray c1) :: (Dm, W.listOf (Value.ref Am :: vm).toArray cm) :: (L + 1, ob) :: (I, it) :: bs) := fun q hq => by
    rcases List.mem_cons.mp hq with rfl | hq
    · exact N3 _ (.tail _ mla)
    rcases List.mem_cons.mp hq with rfl | hq
    · exact N3 _ (.tail _ m0)
    rcases List.mem_cons.mp hq with rfl | hq
    · exact N3 _ (.tail _ m1)
    rcases List.mem_cons.mp hq with rfl | hq
    · exact N3 _ (.tail _ mm)
    rcases List.mem_cons.mp hq with rfl | hq
    · exact N3 _ (.tail _ mce)
    exact N3 _ hq
  clear F3 N3
  refine execsS_cons (execS_For ?_ (by intro _; rfl))
  try k_fold
  k_with "pyIter ref" => (refine halt ?_)
  k_steps
  refine ⟨?_⟩
  dsimp +zetaDelta only
  rename Fr _ _ _ _ => F7
  rename News _ _ _ _ => N7
  refine pick N7 (fun lpI hb5 e5 e6 => ?_)
  try dsimp only at e6
  subst e5
  subst e6
  have N8 : News g L _ ((lpI, W.listOf #[Value.ref A0, Value.ref A1, Value.ref Am] 0) :: (I, it) :: bs) := fun q hq => by
    rcases List.mem_cons.mp hq with rfl | hq
    · exact N7 _ (.head _)
    exact N7 _ (.tail _ (.tail _ (.tail _ (.tail _ (.tail _ (.tail _ hq))))))
  refine forS_list (vs := [.ref A0, .ref A1, .ref Am]) (c := 0) rfl rfl rfl F7 N8 (.head _) (fun I2 hI2 => ?_)
  refine restS_all (fun m2 n2 => n2 = (lpI, W.listOf #[Value.ref A0, Value.ref A1, Value.ref Am] 0) :: (I, it) :: bs ∧ m2 (PySem.Str.ofString "ladder") = some (.ref Dx) ∧ m2 (PySem.Str.ofString "meet") = some (.ref Dm)) _ ?turn ?done _ _ ⟨rfl, rfl, rfl⟩
  case turn =>
    intro v hv m2 n2 it2 h2 tk2 hJ hc F9 N9
    obtain ⟨rfl, j1, j2⟩ := hJ
    have up : ∀ q ∈ bs, q ∈ (lpI, W.listOf #[Value.ref A0, Value.ref A1, Value.ref Am] 0) :: (I, it) :: bs := fun q hq => .tail _ (.tail _ hq)
    have hne : ∀ q ∈ (lpI, W.listOf #[Value.ref A0, Value.ref A1, Value.ref Am] 0) :: (I, it) :: bs, q.1 ≠ I2 := fun q hq => ne_lt (hI2 q hq)
    rcases List.mem_cons.mp hv with rfl | hv
    · exact turnI (lp := (lpI, W.listOf #[Value.ref A0, Value.ref A1, Value.ref Am] 0)) w _ g L I2 Dx Da A0 it2 a p0 X vx cx ca d0 ta tb t00 t01 tx _ (.ref Dm) pr loose mean mg mb m2 h2 tk2 hb ok0 B' X' T' hX (fun q hq => up q (hXs q hq)) (up _ mDx) (up _ mDa) (up _ k0) (.head _) hne j1 j2 F9 N9
    rcases List.mem_cons.mp hv with rfl | hv
    · exact turnI (lp := (lpI, W.listOf #[Value.ref A0, Value.ref A1, Value.ref Am] 0)) w _ g L I2 Dx Da A1 it2 a p1 X vx cx ca d1 ta tb t10 t11 tx _ (.ref Dm) pr loose mean mg mb m2 h2 tk2 hb ok1 B' X' T' hX (fun q hq => up q (hXs q hq)) (up _ mDx) (up _ mDa) (up _ k1) (.head _) hne j1 j2 F9 N9
    rcases List.mem_cons.mp hv with rfl | hv
    · exact turnI (lp := (lpI, W.listOf #[Value.ref A0, Value.ref A1, Value.ref Am] 0)) w _ g L I2 Dx Da Am it2 a pz X vx cx ca dm ta tb tm0 tm1 tx _ (.ref Dm) pr loose mean mg mb m2 h2 tk2 hb okm B' X' T' hX (fun q hq => up q (hXs q hq)) (up _ mDx) (up _ mDa) (up _ km) (.head _) hne j1 j2 F9 N9
    cases hv
  case done =>
    intro m2 n2 h2 tk2 hJ F9 N9
    obtain ⟨rfl, j1, j2⟩ := hJ
    exact execsS_nil (turn_end (I := I) F9 (fun q hq => N9 q (.tail _ hq)) hI ⟨mlp, rfl, j2⟩)
end Mine
end
section
set_option maxRecDepth 100000
set_option maxHeartbeats 8000000
set_option linter.unusedVariables false
set_option autoImplicit false
namespace Mine

/-- what the law's end asks of the two ladders -/
structure EndOk (R0 R1 : List (Int × PySem.Str)) : Prop where
  e0 : R0 ≠ []
  e1 : R1 ≠ []
  em : R0.filter (inR R1) ≠ []
  s0 : ∀ p ∈ R0, PyData.strOk p.2 = true
  s1 : ∀ p ∈ R1, PyData.strOk p.2 = true
  l0 : R0.length ≤ 20
  l1 : R1.length ≤ 20
  ok : ∀ X, X = R0 ∨ X = R1 ∨ X = R0.filter (inR R1) → ∀ a X', X = a :: X' → ∀ Y, Y = R0 ∨ Y = R1 ∨ Y = R0.filter (inR R1) → ∀ p Y', Y = p :: Y' → DomOk a X' p
theorem turnE (w : World) {oc : Value} {od : Option Addr} {osl : Array (Option Value)} {name qual : PySem.Str} {params : Arguments} {a0 a1 a2 a3 a4 : Stmt} {tgt iter : PySem.Expr} {tb rs : List Stmt} {pos : Pos} {scope : Scope} {dV kV doc pm cdv ct : Value} {an : Option Addr} (s : Shared) (g : Heap) (L : Addr) (R0 R1 : List (Int × PySem.Str))
    (pr : Program) (loose : List PySem.Str) (mean : ExcName → Option Value) (mg mb : PySem.Str → Option Value) (m : PySem.Str → Option Value) (n : List (Addr × Obj)) (h : Heap) (tk : Nat) :
    (hd.heap_39 w.params).lookup 169 = some ⟨oc, od, .func (fnOf name qual params (a0 :: a1 :: a2 :: a3 :: a4 :: Stmt.For tgt iter tb [] pos :: rs) scope dV kV doc pm an cdv ct), osl⟩ → EndOk R0 R1 → Below callerA g [] g → Frag.In (hd.heap_39 w.params) g → Top pr loose mean mg mb g → J2 L R0 R1 m n → Fr g L h m → News g L h n →
    wpS (model PySem.Challenge.rw_zo0035_01.row.prog w) (callerA.deeper (envOfC qual scope L 169 cdv)) (execs rs (envOfC qual scope L 169 cdv)) (fun fl s' => fl = .ret (.bool true) ∧ ∃ h' tk', s' = { s with heap := h', toks := tk' } ∧ (∀ b o, g.get? b = some o → h'.get? b = some o) ∧ (∃ ps, h'.get? 73 = some (tabObj ps)) ∧ (∃ ps, h'.get? 80 = some (tabObj ps))) { s with heap := h, toks := tk } := by
  k_fill
  k_with_none
  w_top off
  intro hb ok B' X' T' hJ F3 N3
  have e : _ = some _ := hb.symm.trans (by k_is)
  cases e
  obtain ⟨lp, lads, D0, D1, ob, cl, c0, c1, p80, p73, vr0, vr1, ts, ts0, ts1, rfl, hce, hR0, hR1, u0, u1, o1, o2⟩ := hJ
  have hD0 := rungs_dat hR0
  have hD1 := rungs_dat hR1
  k_with "exec Assign cons ListComp" => (refine halt ?_)
  refine execsS_cons (wpS_of ?_)
  try k_fold
  k_steps
  refine ⟨?_⟩
  k_with_none
  refine LCt.Assign_ListComp_T (F₀ := F3) (by rfl) (by with_unfolding_all rfl) (by with_unfolding_all rfl) (by decide) (by rfl) (by decide) (by rfl) (by rfl) (by rfl) ?_
  try k_fold
  k_steps
  have hl0 : vr0.length = R0.length := by simpa using hD0.length
  refine LCt.CompSrcT.ledger rfl F3 N3 (.tail _ (.tail _ (.head _))) ?sz (fun gg => ?_)
  case sz =>
    have := ok.l0
    rw [sizeLine_eq]
    simp
    omega
  refine compRest (ts := ts0) (q := inR R1) hD0 ?hS ?fin ?turn ?el _ 0 [] (by simp [hl0]) .nil
  case hS => exact .inr ⟨_, .tail _ (.tail _ (.head _)), rfl, _, rfl⟩
  case turn =>
    intro p v I oI C oC D ys m2 hh tkk E' hp hv ho hm F9 N9
    k_with "compareOp In" => (refine halt ?_)
    try dsimp only
    try k_fold
    k_steps
    refine ⟨?_⟩
    refine' in_rungs (R := R1) (p := p) (c := c1) N9 hD1 ?s1 ?s2 hv ?s3 ok.s1 (ok.s0 p hp) ?s4 ?_
    case s1 => exact fun q hq => by simp [u1 q hq]
    case s2 => simp
    case s3 => exact fun q hq => by simp [u0 q hq]
    case s4 => ktr_units
    k_with_none
    try dsimp only
    try k_fold
    k_steps
    all_goals first | exact F9 | exact N9
  case el =>
    intro v I oI C oC D ys m2 hh tkk E' ho hm F9 N9
    k_with_none
    try dsimp only
    try k_fold
    k_steps
    all_goals first | exact F9 | exact N9
  case fin =>
    intro ys hys Dm hm tkm F5 N5 off5
    dsimp +zetaDelta only
    have hM := ok.em
    obtain ⟨p0, P0, A0, w0, t00, t01, d0, rfl, rfl, mA0, hP0⟩ := rungs_first hD0 ok.e0
    obtain ⟨p1, P1, A1, w1, t10, t11, d1, rfl, rfl, mA1, hP1⟩ := rungs_first hD1 ok.e1
    obtain ⟨pz, PZ, Am, wm, tm0, tm1, dm, hZ, rfl, mAm, hPm⟩ := rungs_first hys hM
    try dsimp only [LCg.lst] at N5
    k_with "pyIter ref" => (refine halt ?_)
    refine execsS_cons (execS_For ?_ (by intro _; rfl))
    try k_fold
    k_steps
    refine ⟨?_⟩
    dsimp +zetaDelta only
    rename Fr _ _ _ _ => F7
    rename News _ _ _ _ => N7
    refine pick N7 (fun lpO hb5 e5 e6 => ?_)
    try dsimp only at e6
    subst e5
    subst e6
    have N8 : News g L _ ((lpO, W.listOf #[Value.ref D0, Value.ref D1, Value.ref Dm] 0) :: (Dm, W.listOf (Value.ref Am :: wm).toArray (wm.length + 1)) :: (lads, W.listOf #[.ref D0, .ref D1] cl) :: (D0, W.listOf (Value.ref A0 :: w0).toArray c0) :: (D1, W.listOf (Value.ref A1 :: w1).toArray c1) :: (L + 1, ob) :: (80, tabObj p80) :: (73, tabObj p73) :: ts) := trimE N7
    refine forS_list (vs := [.ref D0, .ref D1, .ref Dm]) (c := 0) rfl rfl rfl F7 N8 (.head _) (fun I hI => ?_)
    refine restS_all (fun m2 n2 => n2 = (lpO, W.listOf #[Value.ref D0, Value.ref D1, Value.ref Dm] 0) :: (Dm, W.listOf (Value.ref Am :: wm).toArray (wm.length + 1)) :: (lads, W.listOf #[.ref D0, .ref D1] cl) :: (D0, W.listOf (Value.ref A0 :: w0).toArray c0) :: (D1, W.listOf (Value.ref A1 :: w1).toArray c1) :: (L + 1, ob) :: (80, tabObj p80) :: (73, tabObj p73) :: ts ∧ m2 (PySem.Str.ofString "meet") = some (.ref Dm)) _ ?turnO ?doneO _ _ ⟨rfl, rfl⟩
    case turnO =>
      intro v hv m2 n2 it2 h2 tk2 hJ hc F9 N9
      obtain ⟨rfl, j1⟩ := hJ
      have up : ∀ q ∈ ts, q ∈ (lpO, W.listOf #[Value.ref D0, Value.ref D1, Value.ref Dm] 0) :: (Dm, W.listOf (Value.ref Am :: wm).toArray (wm.length + 1)) :: (lads, W.listOf #[.ref D0, .ref D1] cl) :: (D0, W.listOf (Value.ref A0 :: w0).toArray c0) :: (D1, W.listOf (Value.ref A1 :: w1).toArray c1) :: (L + 1, ob) :: (80, tabObj p80) :: (73, tabObj p73) :: ts := fun q hq => (.tail _ (.tail _ (.tail _ (.tail _ (.tail _ (.tail _ (.tail _ (.tail _ hq))))))))
      have hne : ∀ q ∈ (lpO, W.listOf #[Value.ref D0, Value.ref D1, Value.ref Dm] 0) :: (Dm, W.listOf (Value.ref Am :: wm).toArray (wm.length + 1)) :: (lads, W.listOf #[.ref D0, .ref D1] cl) :: (D0, W.listOf (Value.ref A0 :: w0).toArray c0) :: (D1, W.listOf (Value.ref A1 :: w1).toArray c1) :: (L + 1, ob) :: (80, tabObj p80) :: (73, tabObj p73) :: ts, q.1 ≠ I := fun q hq => ne_lt (hI q hq)
      have kA0 := up _ (u0 _ mA0)
      have kA1 := up _ (u1 _ mA1)
      have kAm := up _ (u0 _ mAm)
      rcases List.mem_cons.mp hv with rfl | hv
      · exact turnO w _ g L I D0 A0 D0 D1 Dm A0 A1 Am lads it2 ob (lpO, W.listOf #[Value.ref D0, Value.ref D1, Value.ref Dm] 0) p0 p0 p1 pz P0 w0 w0 w1 wm cl c0 d0 c0 c1 (wm.length + 1) d0 d1 dm t00 t01 t00 t01 t10 t11 tm0 tm1 ts0 _ pr loose mean mg mb m2 h2 tk2 hb (ok.ok _ (.inl rfl) p0 P0 rfl _ (.inl rfl) p0 P0 rfl) (ok.ok _ (.inl rfl) p0 P0 rfl _ (.inr (.inl rfl)) p1 P1 rfl) (ok.ok _ (.inl rfl) p0 P0 rfl _ (.inr (.inr rfl)) pz PZ hZ) B' X' T' hP0 (fun q hq => up q (u0 q hq)) (.tail _ (.tail _ (.tail _ (.head _)))) kA0 (.head _) hne (.tail _ (.tail _ (.tail _ (.head _)))) (.tail _ (.tail _ (.tail _ (.tail _ (.head _))))) (.tail _ (.head _)) kA0 kA1 kAm (.tail _ (.tail _ (.head _))) (.tail _ (.tail _ (.tail _ (.tail _ (.tail _ (.head _)))))) hce j1 F9 N9
      rcases List.mem_cons.mp hv with rfl | hv
      · exact turnO w _ g L I D1 A1 D0 D1 Dm A0 A1 Am lads it2 ob (lpO, W.listOf #[Value.ref D0, Value.ref D1, Value.ref Dm] 0) p1 p0 p1 pz P1 w1 w0 w1 wm cl c1 d1 c0 c1 (wm.length + 1) d0 d1 dm t10 t11 t00 t01 t10 t11 tm0 tm1 ts1 _ pr loose mean mg mb m2 h2 tk2 hb (ok.ok _ (.inr (.inl rfl)) p1 P1 rfl _ (.inl rfl) p0 P0 rfl) (ok.ok _ (.inr (.inl rfl)) p1 P1 rfl _ (.inr (.inl rfl)) p1 P1 rfl) (ok.ok _ (.inr (.inl rfl)) p1 P1 rfl _ (.inr (.inr rfl)) pz PZ hZ) B' X' T' hP1 (fun q hq => up q (u1 q hq)) (.tail _ (.tail _ (.tail _ (.tail _ (.head _))))) kA1 (.head _) hne (.tail _ (.tail _ (.tail _ (.head _)))) (.tail _ (.tail _ (.tail _ (.tail _ (.head _))))) (.tail _ (.head _)) kA0 kA1 kAm (.tail _ (.tail _ (.head _))) (.tail _ (.tail _ (.tail _ (.tail _ (.tail _ (.head _)))))) hce j1 F9 N9
      rcases List.mem_cons.mp hv with rfl | hv
      · exact turnO w _ g L I Dm Am D0 D1 Dm A0 A1 Am lads it2 ob (lpO, W.listOf #[Value.ref D0, Value.ref D1, Value.ref Dm] 0) pz p0 p1 pz PZ wm w0 w1 wm cl (wm.length + 1) dm c0 c1 (wm.length + 1) d0 d1 dm tm0 tm1 t00 t01 t10 t11 tm0 tm1 ts0 _ pr loose mean mg mb m2 h2 tk2 hb (ok.ok _ (.inr (.inr rfl)) pz PZ hZ _ (.inl rfl) p0 P0 rfl) (ok.ok _ (.inr (.inr rfl)) pz PZ hZ _ (.inr (.inl rfl)) p1 P1 rfl) (ok.ok _ (.inr (.inr rfl)) pz PZ hZ _ (.inr (.inr rfl)) pz PZ hZ) B' X' T' hPm (fun q hq => up q (u0 q hq)) (.tail _ (.head _)) kAm (.head _) hne (.tail _ (.tail _ (.tail _ (.head _)))) (.tail _ (.tail _ (.tail _ (.tail _ (.head _))))) (.tail _ (.head _)) kA0 kA1 kAm (.tail _ (.tail _ (.head _))) (.tail _ (.tail _ (.tail _ (.tail _ (.tail _ (.head _)))))) hce j1 F9 N9
      cases hv
    case doneO =>
      intro m2 n2 h2 tk2 hJ F9 N9
      obtain ⟨rfl, j1⟩ := hJ
      refine execsS_cons (wpS_of ?_)
      k_with_none
      try dsimp only
      try k_fold
      k_steps
      · exact (N9 (73, tabObj p73) (.tail _ (.tail _ (.tail _ (.tail _ (.tail _ (.tail _ (.tail _ (.head _))))))))).1
      · exact (N9 (80, tabObj p80) (.tail _ (.tail _ (.tail _ (.tail _ (.tail _ (.tail _ (.head _)))))))).1
end Mine
end
section
set_option maxRecDepth 100000
set_option maxHeartbeats 8000000
set_option linter.unusedVariables false
set_option autoImplicit false
namespace Mine
theorem S169 (w : World) (s : Shared) (l : Addr) (vs : List Value) (ns : List Int) (p : Program) (loose : List PySem.Str) (mean : ExcName → Option Value) (mg mb : PySem.Str → Option Value) (num : Int → Nat → Int) (host ups : Int → Nat → PySem.Str) (hOK : ∀ (kk : Nat) (wd k : Int), 16 ≤ kk → kk < 56 → 9 ≤ wd → wd ≤ 16 → 1 ≤ k → k ≤ 143 → ∃ P D R W0 O J, TurnOk (nb kk).1 (nb kk).2 wd (2 ^ wd.toNat) k P D R W0 O J (num k) (host k) (ups k))
    (hEnd : ∀ k0 k1 : Int, 1 ≤ k0 → k0 ≤ 143 → 1 ≤ k1 → k1 ≤ 33 → EndOk (rungL k0 (num k0) (host k0)) (rungL k1 (num k1) (host k1))) :
    Top p loose mean mg mb s.heap → Frag.In (hd.heap_39 w.params) s.heap → TabsAt [(84, 80), (77, 73)] s.heap → s.heap.IsList l vs.toArray → IntsAre vs ns → ns.length ≤ 63 →
    codeS (model PySem.Challenge.rw_zo0035_01.row.prog w) callerA (.call (.ref 169) ⟨[.ref l], []⟩) (fun r s' => r = .ok (.ret (.bool true)) ∧ ∃ h' tk', s' = { s with heap := h', toks := tk' } ∧ LawEnd s.heap h') s := by
  k_fill
  k_with_none
  w_top off
  intro T KX hT hl hI hn
  k_dflt (refine' enterL T KX hT ?k1 ?k2 ?k3 ?k4 ?k5 ?k6 ?_ ?c2 ?c3 ?c4; (case k1 => kernel_rfl); (case k2 => k_is); (case k3 => k_is); (case k4 => exact BindsTo.of_eq rfl); (case k5 => exact rfl); (case k6 => decide +kernel); (case c2 => exact rfl); (case c3 => exact rfl); (case c4 => exact rfl); k_whole)
  intro L' h' tk' cells' F' N' Y' C' X' T' l1
  try k_lt l1
  k_cells Y'
  try simp only [List.cons_append, List.nil_append] at N'
  try dsimp only
  have hlg := ghost_list hT hl
  simp only [tabNews, List.map_cons, List.map_nil] at N' l1
  have hgk : ∀ b o, s.heap.get? b = some o → b ∉ [(84, 80), (77, 73)].map (fun q : Addr × Addr => q.2) → (ghostOf s.heap [(84, 80), (77, 73)]).get? b = some o := fun b o e hb => ghost_ne e hb
  clear hl hT T KX
  generalize ghostOf s.heap [(84, 80), (77, 73)] = g at *
  have B' : Below callerA g [] g := below_caller _
  k_lt l1
  try k_fold
  refine execsS_cons (wpS_of ?_)
  try k_fold
  k_steps
  refine execsS_cons (wpS_of ?_)
  try k_fold
  k_steps
  have tl0 : 0 ≤ (List.take 63 ns).sum.fmod (10 ^ Int.toNat 6) := Int.fmod_nonneg_of_pos _ (by decide)
  have tl1 : (List.take 63 ns).sum.fmod (10 ^ Int.toNat 6) < 1000000 := Int.fmod_lt_of_pos _ (by decide)
  generalize (List.take 63 ns).sum.fmod (10 ^ Int.toNat 6) = tl at *
  refine execsS_cons (wpS_of ?_)
  try k_fold
  k_steps
  k_with "call ref" => (refine halt ?_)
  refine execsS_cons (wpS_of ?_)
  try k_fold
  k_steps
  refine ⟨?_⟩
  have nk0 : 0 ≤ (tl.fdiv 8).fmod 40 := Int.fmod_nonneg_of_pos _ (by decide)
  have nk1 : (tl.fdiv 8).fmod 40 < 40 := Int.fmod_lt_of_pos _ (by decide)
  generalize (tl.fdiv 8).fmod 40 = nk at *
  rename Fr _ _ _ _ => F7
  rename News _ _ _ _ => N7
  refine' use0 (S152 _ _ _) ?k1 ?k2 ?k3 ?k4 ?k5 ?k6 ?k7 ?k8 ?k9 ?_
  case k1 => k_asm
  case k2 => k_asm
  case k3 => k_asm
  case k4 => k_asm
  case k5 => k_asm
  case k6 => first | exact rfl | assumption
  case k7 => exact ⟨by omega, by omega⟩
  case k8 => ktr_room
  case k9 => ktr_units
  intro v9 h9 tk9 st9 F9 N9 po9
  obtain ⟨t1, t2, c1, D1, rfl, n1, e1⟩ := po9
  obtain ⟨m0, m1, m2, m3, -⟩ := allNe_of N7 n1
  dsimp only at m0 m1 m2 m3
  have N10 := news_new F7 N9 n1 e1
  clear N9 F7 N7
  try dsimp only
  try k_fold
  k_steps
  refine execsS_cons (wpS_of ?_)
  try k_fold
  k_steps
  refine execsS_cons (execS_For ?_ (by intro _; rfl))
  k_with "call builtin:sum" => (refine halt ?_)
  try k_fold
  k_steps
  refine ⟨?_⟩
  refine' sum_pick ?h0 ?k1 ?k2 ?k3 ?k4 ?_
  case h0 => rfl
  case k1 => k_asm
  case k2 => k_asm
  case k3 => exact .head _
  case k4 => assumption
  intro S1 h' tk' t' F' N'
  try dsimp only
  try k_fold
  k_steps
  refine ⟨?_⟩
  refine' sum_pick ?h0 ?k1 ?k2 ?k3 ?k4 ?_
  case h0 => rfl
  case k1 => k_asm
  case k2 => k_asm
  case k3 => exact .head _
  case k4 => assumption
  intro S2 h' tk' t' F' N'
  try dsimp only
  try k_fold
  k_with "pyIter ref" => (refine halt ?_)
  k_steps
  refine ⟨?_⟩
  have hn1 : 0 ≤ (11 + S1).fmod 143 := Int.fmod_nonneg_of_pos _ (by decide)
  have hn2 : (11 + S1).fmod 143 < 143 := Int.fmod_lt_of_pos _ (by decide)
  have hn3 : 0 ≤ (3 + S2).fmod 33 := Int.fmod_nonneg_of_pos _ (by decide)
  have hn4 : (3 + S2).fmod 33 < 33 := Int.fmod_lt_of_pos _ (by decide)
  generalize (11 + S1).fmod 143 = na at *
  generalize (3 + S2).fmod 33 = nc at *
  dsimp +zetaDelta only
  have kk0 : 16 ≤ (16 + nk).toNat := by omega
  have kk1 : (16 + nk).toNat < 56 := by omega
  generalize (16 + nk).toNat = kk at *
  have w0 : 9 ≤ 9 + tl.fmod 8 := by omega
  have w1 : 9 + tl.fmod 8 ≤ 16 := by omega
  obtain ⟨P, D, R, W0, O, J, ok1⟩ := hOK kk (9 + tl.fmod 8) (1 + na) kk0 kk1 w0 w1 (by omega) (by omega)
  obtain ⟨P2, D2, R2, W2, O2, J2', ok2⟩ := hOK kk (9 + tl.fmod 8) (1 + nc) kk0 kk1 w0 w1 (by omega) (by omega)
  have ok3 := hEnd (1 + na) (1 + nc) (by omega) (by omega) (by omega) (by omega)
  generalize hlo : (nb kk).1 = lo at *
  generalize hup : (nb kk).2 = up at *
  generalize hbs : (2 : Int) ^ (9 + tl.fmod 8).toNat = bs at *
  rename Fr _ _ _ _ => F1
  rename News _ _ _ _ => N1
  refine forS_list rfl rfl rfl F1 (trimL N1) (.head _) (fun I hI => ?_)
  refine' restS_two (fun lp m n => J0 L' lo up bs tl lp m n ∧ ∀ p ∈ n, p.1 < I) (J1 L' lo up bs tl (rungL (1 + na) (num (1 + na)) (host (1 + na)))) (J2 L' (rungL (1 + na) (num (1 + na)) (host (1 + na))) (rungL (1 + nc) (num (1 + nc)) (host (1 + nc)))) ?done ?t2 ?t1 ?init
  case init =>
    exact ⟨⟨_, _, _, _, _, _, _, rfl, rfl, by assumption, by omega, by omega, by first | omega | (dsimp only; omega)⟩, hI⟩
  case done =>
    intro m n h tk hJ F3 N3
    refine' wpS_mono (turnE w _ g L' _ _ _ _ _ _ _ m n h tk ?hb ok3 B' X' T' hJ F3 N3) ?post
    case hb => k_is
    case post =>
      rintro fl s' ⟨rfl, h', tk', rfl, hk, h73, h80⟩
      exact ⟨rfl, h', tk', rfl, fun b o n1 n2 e => hk b o (hgk b o e (by simp [n1, n2])), h73, h80⟩
  case t2 =>
    intro m n it h tk hJ hne hc F3 N3
    refine' turn2 w _ g L' I it _ _ lo up bs tl (1 + nc) _ P2 D2 R2 W2 O2 J2' (num (1 + nc)) (host (1 + nc)) (ups (1 + nc)) _ _ _ _ _ m n h tk ?hb2 ok2 tl0 B' X' T' ⟨C'.1, C'.2.1⟩ hJ hne F3 N3
    case hb2 => k_is
  case t1 =>
    intro m n it h tk hJ hc F3 N3
    refine' turn1 w _ g L' I it _ lo up bs tl (1 + na) _ P D R W0 O J (num (1 + na)) (host (1 + na)) (ups (1 + na)) _ _ _ _ _ m n h tk ?hb1 ok1 tl0 B' X' T' ⟨C'.1, C'.2.1⟩ hJ.1 hJ.2 F3 N3
    case hb1 => k_is
end Mine
end
section
set_option maxRecDepth 100000
set_option maxHeartbeats 8000000
set_option linter.unusedVariables false
set_option autoImplicit false
namespace Mine
theorem law_goodW {c : ClaimW} {cl : PySem.Str → Option Addr} {mean : ExcName → Option Value} {args : List WData} {s₁ : Shared} {h' : Heap} {tk' : Nat} (hT : TabsAt [(84, 80), (77, 73)] s₁.heap) (hg : s₁.gens = #[]) (hr : ∀ cls, c.raises args cls = false) (hp : c.post args (.bool true) args = true)
    (hE : LawEnd s₁.heap h') : GoodWG c cl mean args s₁ (.ok (.ret (.bool true))) { s₁ with heap := h', toks := tk' } := by
  have tab : ∀ b, (b = 73 ∨ b = 80) → ∃ ps, isCodeTable s₁.heap b ∧ s₁.heap.get? b = some (tabObj #[]) ∧ h'.get? b = some (tabObj ps) := by
    rintro b (rfl | rfl)
    · obtain ⟨ps, e⟩ := hE.a
      have t := hT (77, 73) (.tail _ (.head _))
      exact ⟨ps, (t.1.tab t.2).isCodeTable, t.2, e⟩
    · obtain ⟨ps, e⟩ := hE.b
      have t := hT (84, 80) (.head _)
      exact ⟨ps, (t.1.tab t.2).isCodeTable, t.2, e⟩
  refine ⟨.inl ⟨_, .bool true, [], rfl, hr, .bool true, hp, fun _ => ⟨.nil, fun _ h => nomatch h⟩⟩, ⟨fun b o e => ?_, fun b o e => ?_⟩, rfl, .of_eq hg⟩
  · by_cases hb : b = 73 ∨ b = 80
    · obtain ⟨ps, hc, e1, e2⟩ := tab b hb
      rw [e] at e1
      cases e1
      exact .inr (.inl ⟨hc, rfl, #[], ps, rfl, by rw [Array.empty_append]; exact e2⟩)
    · exact .inl (hE.k b o (fun q => hb (.inl q)) (fun q => hb (.inr q)) e)
  · by_cases hb : b = 73 ∨ b = 80
    · obtain ⟨ps, hc, e1, e2⟩ := tab b hb
      exact ⟨_, e2⟩
    · exact ⟨o, hE.k b o (fun q => hb (.inl q)) (fun q => hb (.inr q)) e⟩
theorem main (num : Int → Nat → Int) (host ups : Int → Nat → PySem.Str) (hOK : ∀ (kk : Nat) (wd k : Int), 16 ≤ kk → kk < 56 → 9 ≤ wd → wd ≤ 16 → 1 ≤ k → k ≤ 143 → ∃ P D R W0 O J, TurnOk (nb kk).1 (nb kk).2 wd (2 ^ wd.toNat) k P D R W0 O J (num k) (host k) (ups k))
    (hEnd : ∀ k0 k1 : Int, 1 ≤ k0 → k0 ≤ 143 → 1 ≤ k1 → k1 ≤ 33 → EndOk (rungL k0 (num k0) (host k0)) (rungL k1 (num k1) (host k1))) : PySem.Challenge.rw_zo0035_01.Holds := hd (by
  k_fill
  k_with_none
  w_top off
  intro w s₀ s₁ mg mb G Y fa o pm cd doc dV kV ho hd hcd hD hmg hg args vals as hpre hlay hrd hwl hlo
  have KX := km_in_of Y
  km_tabs Y
  have X := (Ground.X G).1
  have V := (Ground.X G).2
  refine Ground.open G ?_
  intro T B D TE TW
  clear D
  km_lay T hmg ho hd cd
  have hm9 := mg_of KX (Top.g T) (n := PySem.Str.ofString "law") (v := .ref 169) (by kernel_rfl)
  have hfa : fa = 169 := Value.ref.inj (Option.some.inj (hmg.symm.trans hm9))
  subst hfa
  clear hmg hm9 ho hd hD hcd
  wrow_args hpre hlay hrd hwl hlo
  rename Heap.IsList _ _ _ => hL
  rename IntsAre _ _ => hI
  rename ¬ (_ < _) => hlen
  refine wpS_call (codeS_mono (S169 w s₁ _ _ _ _ _ _ mg mb num host ups hOK hEnd T KX hT9 hL hI (by omega)) fun r s' hr => ?_)
  obtain ⟨rfl, h', tk', rfl, hE⟩ := hr
  refine law_goodW hT9 hg (fun _ => rfl) ?_ hE
  wrow_post)
end Mine
end
section
set_option maxRecDepth 100000
set_option maxHeartbeats 8000000
set_option linter.unusedVariables false
set_option autoImplicit false
namespace Mine
/-- a row from behind -/
noncomputable def labs (n : Int) : List Int := (figs n).reverse
noncomputable def valR : List Int → Int → Int → Int
  | [], _, _ => 0
  | d :: r, a, b => d * a + valR r b (a + b)
noncomputable def Hl : List Int → List Nat
  | [] => [108, 111, 99, 97, 108]
  | d :: r => (if d = 0 then 111 else 34) :: 46 :: Hl r
noncomputable def HS (l : List Int) : PySem.Str := ⟨(Hl l).toArray⟩
noncomputable def upS (l : List Int) : PySem.Str := ⟨(46 :: Hl l).toArray⟩
noncomputable def PP (n : Int) : PySem.Str := Txt.join (PySem.Str.ofString "") ((figs n).map stepOf)
noncomputable def DD (n : Int) : PySem.Str := Txt.join (PySem.Str.ofString "") ((signs (PP n)).map dblOf)
noncomputable def RR (n : Int) : PySem.Str := PySem.Str.ofString "257 \"" ++ DD n ++ PySem.Str.ofString "\" is where we are"
noncomputable def WW (n : Int) : PySem.Str := parF (RR n)
noncomputable def OO (n : Int) : Array UInt8 := byteArr ((signs (WW n)).map ordOf)
noncomputable def JJ (n : Int) : PySem.Str := Txt.join (PySem.Str.ofString "") ((KBw.bInts (OO n).reverse).map dotOf)
/-- what is asked of the row of n alone -/
noncomputable def rowB (n : Int) : Bool := decide ((labs n).length ≤ 11) && (labs n).all (fun d => d == 0 || d == 1) && (valR (labs n) 1 2 == n) && decide (1 ≤ (labs n).length) && (figs (valR (labs n).tail 1 2) == (figs n).dropLast) && decide (0 ≤ valR (labs n).tail 1 2) && decide (valR (labs n).tail 1 2 < n)
noncomputable def hostB (n : Int) : Bool := hdnB (HS (labs n)) && (reachF (HS (labs n)) == upS (labs n).tail) && (Txt.slice (upS (labs n).tail) (some 1) none == HS (labs n).tail) && (Txt.lower (Txt.upper (HS (labs n))) == HS (labs n)) && (Txt.lower (PySem.Str.ofString "." ++ HS (labs n)) == PySem.Str.ofString "." ++ HS (labs n)) && PyData.strOk (HS (labs n))
noncomputable def wayB (n : Int) : Bool := (JJ n ++ PySem.Str.ofString "local" == HS (labs n)) && ((signs (WW n)).map ordOf).all (fun c => decide (0 ≤ c) && decide (c < 256)) && !(Txt.slice (RR n) none (some 3) != PySem.Str.ofString "257") && !(Txt.slice (RR n) (some 3) (some 5) != PySem.Str.ofString " \"") && decide ((PP n).length ≤ 100) && decide ((DD n).length ≤ 200) && decide ((RR n).length ≤ 1000) && decide ((WW n).length ≤ 200) && decide (0 < (OO n).size) && decide ((OO n).size ≤ 200) && decide ((JJ n).length ≤ 300)
end Mine
end
section
set_option maxRecDepth 100000
set_option maxHeartbeats 8000000
set_option linter.unusedVariables false
set_option autoImplicit false
namespace Mine
theorem placed_map (x : PySem.Str) (f : Nat → Nat → List Nat) (φ : Nat → Nat) (h : ∀ i c, x.cps[i]? = some c → f i c = [φ c]) : placed x f = x.cps.map φ := by
  have e : (x.cps.mapIdx fun i c => (f i c).toArray) = x.cps.map fun c => #[φ c] := by
    apply Array.ext_getElem?
    intro i
    rw [Array.getElem?_mapIdx, Array.getElem?_map]
    cases hx : x.cps[i]? with
    | none => rfl
    | some c => simp only [Option.map_some]; rw [h i c hx]
  unfold placed
  rw [e]
  apply Array.toList_inj.mp
  simp only [Array.toList_flatten, Array.toList_map, List.map_map]
  generalize x.cps.toList = l
  induction l with
  | nil => rfl
  | cons a r ih => simp_all
noncomputable def sgn : List Nat := [34, 111, 46, 108, 99, 97]
theorem Hl_in : ∀ (l : List Int), ∀ c ∈ Hl l, c ∈ sgn
  | [], c, h => by
    simp only [Hl, List.mem_cons, List.not_mem_nil, or_false] at h
    rcases h with rfl | rfl | rfl | rfl | rfl <;> decide
  | d :: r, c, h => by
    simp only [Hl, List.mem_cons] at h
    rcases h with rfl | rfl | h
    · split <;> decide
    · decide
    · exact Hl_in r c h
noncomputable def upC (c : Nat) : Nat := if c = 111 then 79 else if c = 108 then 76 else if c = 99 then 67 else if c = 97 then 65 else c
noncomputable def loC (c : Nat) : Nat := if c = 79 then 111 else if c = 76 then 108 else if c = 67 then 99 else if c = 65 then 97 else c
theorem up_one : ∀ c ∈ sgn, Unicode.upperOf c = [upC c] := by decide +kernel
theorem lo_one : ∀ c ∈ sgn, Unicode.lowerOf c = [c] ∧ (c == 0x3A3) = false := by decide +kernel
theorem lo_two : ∀ c ∈ sgn, Unicode.lowerOf (upC c) = [c] ∧ (upC c == 0x3A3) = false := by decide +kernel
theorem lo_up : ∀ c ∈ sgn, loC (upC c) = c := by decide
theorem lowerAt_of {s : Array Nat} {i c d : Nat} (h : s[i]? = some c) (h2 : Unicode.lowerOf c = [d]) (h3 : (c == 0x3A3) = false) : Unicode.lowerAt s i = [d] := by
  unfold Unicode.lowerAt
  rw [h]
  simp only [h3, Bool.false_and, Bool.false_eq_true, if_false, h2]
theorem lower_upper (l : List Int) : Txt.lower (Txt.upper (HS l)) = HS l := by
  have e1 : Txt.upper (HS l) = ⟨(HS l).cps.map upC⟩ := by
    unfold Txt.upper
    rw [placed_map (φ := upC)]
    intro i c hc
    exact up_one c (Hl_in l c (by simpa [HS] using Array.mem_of_getElem? hc))
  rw [e1]
  unfold Txt.lower
  have e2 : placed ⟨(HS l).cps.map upC⟩ (fun i _ => Unicode.lowerAt (⟨(HS l).cps.map upC⟩ : PySem.Str).cps i) = ((HS l).cps.map upC).map fun c => loC c := by
    refine placed_map _ _ (fun c => loC c) fun i c hc => ?_
    have hc' : ((HS l).cps.map upC)[i]? = some c := hc
    rw [Array.getElem?_map] at hc'
    cases hx : (HS l).cps[i]? with
    | none => rw [hx] at hc'; cases hc'
    | some d =>
      rw [hx] at hc'
      have hd : upC d = c := Option.some.inj hc'
      have hin := Hl_in l d (by simpa [HS] using Array.mem_of_getElem? hx)
      have hlo : loC c = d := by rw [← hd]; exact lo_up d hin
      rw [hlo]
      subst hd
      exact lowerAt_of hc (lo_two d hin).1 (lo_two d hin).2
  rw [e2]
  have e3 : ((HS l).cps.map upC).map (fun c => loC c) = (HS l).cps := by
    rw [Array.map_map]
    apply Array.ext_getElem?
    intro i
    rw [Array.getElem?_map]
    cases hx : (HS l).cps[i]? with
    | none => rfl
    | some d =>
      have hin := Hl_in l d (by simpa [HS] using Array.mem_of_getElem? hx)
      simp only [Option.map_some, Function.comp]
      rw [lo_up d hin]
  rw [e3]
theorem up_in (l : List Int) : ∀ c ∈ 46 :: Hl l, c ∈ sgn := fun c h => by
  rcases List.mem_cons.mp h with rfl | h
  · decide
  · exact Hl_in l c h
theorem lower_up (l : List Int) : Txt.lower (upS l) = upS l := by
  unfold Txt.lower
  rw [placed_map (φ := fun c => c)]
  · simp
  · intro i c hc
    have hin := up_in l c (by simpa [upS] using Array.mem_of_getElem? hc)
    exact lowerAt_of hc (lo_one c hin).1 (lo_one c hin).2
theorem strOk_HS (l : List Int) : PyData.strOk (HS l) = true := by
  unfold PyData.strOk
  rw [Array.all_eq_true']
  intro c hc
  have hin := Hl_in l c (by simpa [HS] using hc)
  simp only [sgn, List.mem_cons, List.not_mem_nil, or_false] at hin
  rcases hin with rfl | rfl | rfl | rfl | rfl | rfl <;> decide
theorem dot_app (l : List Int) : PySem.Str.ofString "." ++ HS l = upS l := by
  have e : (PySem.Str.ofString ".").cps = #[46] := by decide +kernel
  show (⟨(PySem.Str.ofString ".").cps ++ (HS l).cps⟩ : PySem.Str) = _
  rw [e]
  simp [HS, upS]
theorem Hl_len : ∀ (l : List Int), (Hl l).length = 2 * l.length + 5
  | [] => rfl
  | d :: r => by simp only [Hl, List.length_cons, Hl_len r]; omega
theorem HS_len (l : List Int) : (HS l).length = 2 * l.length + 5 := by
  show (Hl l).toArray.size = _
  rw [List.size_toArray, Hl_len]
theorem upS_len (l : List Int) : (upS l).length = 2 * l.length + 6 := by
  show (46 :: Hl l).toArray.size = _
  rw [List.size_toArray, List.length_cons, Hl_len]
theorem slice_up (l : List Int) : Txt.slice (upS l) (some 1) none = HS l := by
  unfold Txt.slice
  have hn : (upS l).length = (Hl l).length + 1 := by show (46 :: Hl l).toArray.size = _; simp
  have e : Builtin.Str.strSliceIndices (some 1) none 1 (upS l).length = (List.range (Hl l).length).map (1 + ·) := by
    rw [hn]
    unfold Builtin.Str.strSliceIndices sliceRange
    simp only [show (1 : Int) > 0 by decide, if_true, show ¬ ((1 : Int) < 0) by decide, if_false]
    have h1 : max (0 : Int) (min 1 (((Hl l).length + 1 : Nat) : Int)) = 1 := by omega
    rw [h1]
    have h2 : (if (1 : Int) < (((Hl l).length + 1 : Nat) : Int) then ((((Hl l).length + 1 : Nat) : Int) - 1 + 1 - 1) / 1 else 0).toNat = (Hl l).length := by
      split
      · rw [Int.ediv_one]; omega
      · omega
    rw [h2]
    apply List.map_congr_left
    intro k _
    omega
  have hl : ((Builtin.Str.strSliceIndices (some 1) none 1 (upS l).length).length == (upS l).length) = false := by
    rw [e, hn]
    simp
  rw [if_neg (by rw [hl]; simp), e]
  have := pick_run (upS l).cps 1 (Hl l).length
  rw [this]
  show (⟨_⟩ : PySem.Str) = ⟨_⟩
  congr 1
  simp [upS]
end Mine
end
section
set_option maxRecDepth 100000
set_option maxHeartbeats 8000000
set_option linter.unusedVariables false
set_option autoImplicit false
namespace Mine
noncomputable def bits01 (l : List Int) : Prop := ∀ d ∈ l, d = 0 ∨ d = 1
theorem bits_tail {d : Int} {r : List Int} (h : bits01 (d :: r)) : bits01 r := fun x hx => h x (.tail _ hx)
theorem sgn_c {d : Int} : (if d = 0 then 111 else 34 : Nat) ≠ 46 ∧ (if d = 0 then 111 else 34 : Nat) ≠ 108 := by split <;> decide
theorem sgn_inj {d e : Int} (hd : d = 0 ∨ d = 1) (he : e = 0 ∨ e = 1) (h : (if d = 0 then 111 else 34 : Nat) = if e = 0 then 111 else 34) : d = e := by
  rcases hd with rfl | rfl <;> rcases he with rfl | rfl <;> simp_all
theorem Hl_prefix : ∀ (lb r : List Int), bits01 lb → bits01 r → (Hl r).take (Hl lb).length = Hl lb → r = lb
  | [], [], _, _, _ => rfl
  | [], d :: r, _, _, h => by
    simp only [Hl, List.length_cons, List.length_nil, List.take_succ_cons, List.cons.injEq] at h
    exact absurd h.1 sgn_c.2
  | e :: lb, [], _, _, h => by
    simp only [Hl, List.length_cons, List.take_succ_cons, List.cons.injEq] at h
    exact absurd h.1.symm sgn_c.2
  | e :: lb, d :: r, hb, hr, h => by
    simp only [Hl, List.length_cons, List.take_succ_cons, List.cons.injEq] at h
    rw [sgn_inj (hr d (.head _)) (hb e (.head _)) h.1, Hl_prefix lb r (bits_tail hb) (bits_tail hr) h.2.2]
theorem Hl_infix (lb : List Int) (hb : bits01 lb) : ∀ (la : List Int) (i : Nat), bits01 la → ((Hl la).drop i).take ((Hl lb).length + 1) = 46 :: Hl lb → ∃ j, 1 ≤ j ∧ j ≤ la.length ∧ la.drop j = lb
  | [], i, _, h => by
    have h1 : 46 ∈ ((Hl []).drop i).take ((Hl lb).length + 1) := by rw [h]; exact .head _
    have h2 : 46 ∈ Hl [] := List.mem_of_mem_drop (List.mem_of_mem_take h1)
    simp [Hl] at h2
  | d :: r, 0, _, h => by
    simp only [Hl, List.drop_zero, List.take_succ_cons, List.cons.injEq] at h
    exact absurd h.1 sgn_c.1
  | d :: r, 1, ha, h => by
    simp only [Hl, List.drop_succ_cons, List.drop_zero, List.take_succ_cons, List.cons.injEq, true_and] at h
    exact ⟨1, Nat.le_refl _, by simp, by simpa using Hl_prefix lb r hb (bits_tail ha) h⟩
  | d :: r, i + 2, ha, h => by
    simp only [Hl, List.drop_succ_cons] at h
    obtain ⟨j, h1, h2, h3⟩ := Hl_infix lb hb r i (bits_tail ha) h
    exact ⟨j + 1, by omega, by simp; omega, by simpa using h3⟩
theorem Hl_drop : ∀ (la : List Int) (j : Nat), 1 ≤ j → j ≤ la.length → (Hl la).drop (2 * j - 1) = 46 :: Hl (la.drop j)
  | [], j, h1, h2 => by simp at h2; omega
  | d :: r, 1, _, _ => by simp [Hl]
  | d :: r, j + 2, _, h2 => by
    have e : 2 * (j + 2) - 1 = (2 * (j + 1) - 1) + 2 := by omega
    rw [e]
    simp only [Hl, List.drop_succ_cons]
    exact Hl_drop r (j + 1) (by omega) (by simp at h2; omega)
theorem sub_list (la lb : List Int) (i : Nat) : Builtin.Str.subAt (HS la) (upS lb) i = true ↔ ((Hl la).drop i).take ((Hl lb).length + 1) = 46 :: Hl lb := by
  unfold Builtin.Str.subAt
  have hl : (upS lb).length = (Hl lb).length + 1 := by show (46 :: Hl lb).toArray.size = _; simp
  rw [beq_iff_eq, hl]
  constructor
  · intro h
    have h2 := congrArg Array.toList h
    simpa [HS, upS, List.extract_eq_take_drop] using h2
  · intro h
    apply Array.toList_inj.mp
    simpa [HS, upS, List.extract_eq_take_drop] using h
theorem HS_head (la : List Int) (lb : List Int) : Builtin.Str.subAt (HS la) (upS lb) 0 = true → False := by
  rw [sub_list, List.drop_zero]
  intro h
  cases la with
  | nil => simp [Hl] at h
  | cons d r =>
    simp only [Hl, List.take_succ_cons, List.cons.injEq] at h
    exact sgn_c.1 h.1
theorem HS_ne (la lb : List Int) : (HS la == upS lb) = false := by
  rw [beq_eq_false_iff_ne]
  intro h
  have h2 : Hl la = 46 :: Hl lb := by
    have := congrArg (fun x : PySem.Str => x.cps.toList) h
    simpa [HS, upS] using this
  cases la with
  | nil => simp [Hl] at h2
  | cons d r =>
    simp only [Hl, List.cons.injEq] at h2
    exact sgn_c.1 h2.1
theorem up_starts (lb : List Int) : Txt.startswith (upS lb) (PySem.Str.ofString ".") = true := by
  have e : PySem.Str.ofString "." = ⟨#[46]⟩ := by decide +kernel
  rw [e]
  unfold Txt.startswith Builtin.Str.subAt
  rw [Bool.and_eq_true, decide_eq_true_eq, beq_iff_eq]
  refine ⟨?_, ?_⟩
  · rw [upS_len]; show 0 + 1 ≤ _; omega
  · apply Array.toList_inj.mp
    show ((upS lb).cps.extract 0 (0 + 1)).toList = _
    simp [upS, List.extract_eq_take_drop]
/-- the one host stands behind a label of the other -/
noncomputable def psuf (la lb : List Int) : Prop := ∃ j, 1 ≤ j ∧ j ≤ la.length ∧ la.drop j = lb
theorem domF_law (la lb : List Int) (ha : bits01 la) (hb : bits01 lb) : domF (Txt.upper (HS la)) (upS lb) = true ↔ psuf la lb := by
  unfold domF
  rw [lower_upper, lower_up, HS_ne]
  simp only [Bool.false_eq_true, if_false]
  unfold Txt.rfind
  rcases StrLaws.last_spec (HS la) (upS lb) with ⟨e, hn⟩ | ⟨i, e, hA, -⟩
  · rw [e]
    simp only [if_true, Bool.false_eq_true, false_iff]
    rintro ⟨j, h1, h2, h3⟩
    refine hn (2 * j - 1) ⟨?_, ?_⟩
    · have hl := congrArg List.length h3
      rw [List.length_drop] at hl
      rw [HS_len, upS_len]; omega
    · rw [sub_list, Hl_drop la j h1 h2, h3]
      rw [List.take_of_length_le (by simp)]
  · rw [e]
    have hi : i ≠ 0 := fun q => by
      subst q
      exact HS_head la lb hA.2
    have h1 : ¬ ((i : Int) = -1) := by omega
    have h2 : ¬ ((i : Int) = 0) := by omega
    simp only [h1, h2, if_false, up_starts, true_iff]
    exact Hl_infix lb hb la i ha ((sub_list la lb i).mp hA.2)
end Mine
end
section
set_option maxRecDepth 100000
set_option maxHeartbeats 8000000
set_option linter.unusedVariables false
set_option autoImplicit false
namespace Mine
open PySem.Builtin PySem.Builtin.Re
/-- the machine at a start -/
noncomputable def PM (text : Array Nat) (lim s : Nat) (seen : Sre.Seen) (first : Bool) : Sre.M :=
  { code := patCode, text := text, lim := lim, start := s, lastStart := lim, pc := 9, pos := s, handed := s, outermost := first, marks := #[],
    frames := [{ wait := .nextStart, pc := 9, pos := s, outermost := first }], weight := 1, seen := seen }
noncomputable def sayNo (m : Sre.M) : Sre.M := { m with answer := some false }
theorem step_yes (m : Sre.M) (yes : Bool) (f : Sre.Frame) (rest : List Sre.Frame) (h0 : m.outcome = none) (h1 : m.answer = some yes) (h2 : m.frames = f :: rest) :
    m.step = Sre.M.resume { m with answer := none, frames := rest, weight := m.weight - (1 + f.kept.marks.size), pc := f.pc, pos := f.pos, outermost := f.outermost } f yes := by
  cases m
  cases h0
  cases h1
  cases h2
  rfl
theorem step_exec (m : Sre.M) (h0 : m.outcome = none) (h1 : m.answer = none) (h2 : m.pc < m.code.size) : m.step = m.exec := by
  cases m
  cases h0
  cases h1
  exact if_pos h2
theorem step_say (text : Array Nat) (lim s : Nat) (seen : Sre.Seen) (first : Bool) (h : s < lim) : (sayNo (PM text lim s seen first)).step = PM text lim (s + 1) seen false := by
  refine (step_yes _ _ _ _ rfl rfl rfl).trans ?_
  exact (if_pos h).trans rfl
theorem acc9 (c : Nat) (seen : Sre.Seen) : Sre.accepts patCode 9 c seen = .ok (c == 46, seen) := rfl
theorem acc15 (c : Nat) (seen : Sre.Seen) (h : Sre.isDigit c = false) : Sre.accepts patCode 15 c seen = .ok (false, ((seen.add 8).add 55).add 0) := by
  have e : Sre.accepts patCode 15 c seen = if (Sre.isDigit c != false) = true then .ok (true, (seen.add 8).add 55) else .ok (false, ((seen.add 8).add 55).add 0) := by kernel_rfl
  rw [e, h]
  rfl
theorem lit_all (m : Sre.M) (e : Sre.ops[m.word 0]? = some .LITERAL) :
    (m.pos ≥ m.lim → m.exec = Sre.M.say { m with seen := m.seen.add (m.word 0) } false) ∧
    (∀ seen', ¬ m.pos ≥ m.lim → Sre.accepts m.code m.pc (m.text.getD m.pos 0) (m.seen.add (m.word 0)) = .ok (false, seen') → m.exec = Sre.M.say { m with seen := seen' } false) ∧
    (∀ seen', ¬ m.pos ≥ m.lim → Sre.accepts m.code m.pc (m.text.getD m.pos 0) (m.seen.add (m.word 0)) = .ok (true, seen') → m.exec = { m with seen := seen', pc := m.pc + Sre.itemWidth m.code m.pc, pos := m.pos + 1 }) := by
  delta Sre.M.exec
  rw [e]
  refine ⟨fun hp => if_pos hp, fun seen' hp ha => (if_neg hp).trans ?_, fun seen' hp ha => (if_neg hp).trans ?_⟩
  · rw [ha]
  · rw [ha]
theorem rep_all (m : Sre.M) (e : Sre.ops[m.word 0]? = some .REPEAT_ONE) :
    (((m.word 2 : Nat) : Int) > ((m.lim : Nat) : Int) - (m.pos : Nat) → m.exec = Sre.M.say { m with seen := m.seen.add (m.word 0) } false) ∧
    (∀ seen', ¬ ((m.word 2 : Nat) : Int) > ((m.lim : Nat) : Int) - (m.pos : Nat) → 0 < m.word 2 → Sre.run m.code m.text (m.pc + 4) (min (m.word 3) (((m.lim : Nat) : Int) - (m.pos : Nat)).toNat) m.pos 0 ((m.seen.add (m.word 0)).add (m.word 4)) = .ok (0, seen') → m.exec = Sre.M.say { m with seen := seen' } false) := by
  delta Sre.M.exec
  rw [e]
  refine ⟨fun hp => if_pos hp, fun seen' hp h2 hr => (if_neg hp).trans ?_⟩
  dsimp only
  generalize hg : Sre.run _ _ _ _ _ _ _ = g
  have hg2 : g = .ok (0, seen') := hg.symm.trans hr
  rw [hg2]
  exact if_pos h2
theorem exec_no (text : Array Nat) (lim s : Nat) (seen : Sre.Seen) (first : Bool) (h : s < lim) (hc : (text.getD s 0 == 46) = false) : (PM text lim s seen first).step = sayNo (PM text lim s (seen.add 16) first) :=
  (step_exec _ rfl rfl (show 9 < 24 by decide)).trans ((lit_all (PM text lim s seen first) rfl).2.1 (seen.add 16) (Nat.not_le.mpr h) ((acc9 _ _).trans (congrArg (fun b => Except.ok (b, seen.add 16)) hc)))
theorem exec_end (text : Array Nat) (lim s : Nat) (seen : Sre.Seen) (first : Bool) (h : lim ≤ s) : (PM text lim s seen first).step = sayNo (PM text lim s (seen.add 16) first) :=
  (step_exec _ rfl rfl (show 9 < 24 by decide)).trans ((lit_all (PM text lim s seen first) rfl).1 h)
theorem step_last (m : Sre.M) (h0 : m.outcome = none) (h2 : m.frames = []) : (m.say false).step.outcome = some .failed := by
  cases m
  cases h0
  cases h2
  rfl
theorem say_end (text : Array Nat) (lim s : Nat) (seen : Sre.Seen) (first : Bool) (h : ¬ s < lim) : (sayNo (PM text lim s seen first)).step.step.outcome = some .failed := by
  have e : ∃ m' : Sre.M, (sayNo (PM text lim s seen first)).step = m'.say false ∧ m'.outcome = none ∧ m'.frames = [] := by
    refine ⟨{ PM text lim s seen first with frames := [], weight := 0 }, (step_yes _ false _ [] rfl rfl rfl).trans ?_, rfl, rfl⟩
    exact if_neg h
  obtain ⟨m', e, h0, h2⟩ := e
  rw [e]
  exact step_last m' h0 h2
/-- behind a dot -/
noncomputable def PD (text : Array Nat) (lim s : Nat) (seen : Sre.Seen) (first : Bool) : Sre.M := { PM text lim s seen first with pc := 11, pos := s + 1 }
theorem exec_dot (text : Array Nat) (lim s : Nat) (seen : Sre.Seen) (first : Bool) (h : s < lim) (hc : (text.getD s 0 == 46) = true) : (PM text lim s seen first).step = PD text lim s (seen.add 16) first :=
  (step_exec _ rfl rfl (show 9 < 24 by decide)).trans ((lit_all (PM text lim s seen first) rfl).2.2 (seen.add 16) (Nat.not_le.mpr h) ((acc9 _ _).trans (congrArg (fun b => Except.ok (b, seen.add 16)) hc)))
theorem exec_rep (text : Array Nat) (lim s : Nat) (seen : Sre.Seen) (first : Bool) (hd : Sre.isDigit (text.getD (s + 1) 0) = false) : ∃ seen', (PD text lim s seen first).step = sayNo (PD text lim s seen' first) := by
  by_cases h : ((1 : Nat) : Int) > (lim : Int) - ((s + 1 : Nat) : Int)
  · exact ⟨seen.add 24, (step_exec _ rfl rfl (show 11 < 24 by decide)).trans ((rep_all (PD text lim s seen first) rfl).1 h)⟩
  · refine ⟨_, (step_exec _ rfl rfl (show 11 < 24 by decide)).trans ((rep_all (PD text lim s seen first) rfl).2 ((((((seen.add 24).add 13).add 8).add 55).add 0)) h Nat.one_pos ?_)⟩
    have hn : ∃ k, min 4294967295 ((lim : Int) - ((s + 1 : Nat) : Int)).toNat = k + 1 :=
      ⟨min 4294967295 ((lim : Int) - ((s + 1 : Nat) : Int)).toNat - 1, by omega⟩
    obtain ⟨k, hk⟩ := hn
    show Sre.run patCode text 15 (min 4294967295 ((lim : Int) - ((s + 1 : Nat) : Int)).toNat) (s + 1) 0 ((seen.add 24).add 13) = _
    rw [hk]
    show (Sre.accepts patCode 15 (text.getD (s + 1) 0) ((seen.add 24).add 13) >>= _) = _
    rw [acc15 _ _ hd]
    rfl
theorem say_dot (text : Array Nat) (lim s : Nat) (seen : Sre.Seen) (first : Bool) (h : s < lim) : (sayNo (PD text lim s seen first)).step = PM text lim (s + 1) seen false := by
  refine (step_yes _ _ _ _ rfl rfl rfl).trans ?_
  exact (if_pos h).trans rfl
/-- n steps -/
noncomputable def stepN : Nat → Sre.M → Sre.M
  | 0, m => m
  | n + 1, m => stepN n m.step
theorem stepN_add (a : Nat) : ∀ (b : Nat) (m : Sre.M), stepN b (stepN a m) = stepN (a + b) m := by
  induction a with
  | zero => intro b m; rw [Nat.zero_add]; rfl
  | succ a ih => intro b m; rw [show a + 1 + b = (a + b) + 1 by omega]; exact ih b m.step
theorem step_done (m : Sre.M) (h : m.outcome.isSome = true) : m.step = m := if_pos h
theorem stepN_done : ∀ (n : Nat) (m : Sre.M), m.outcome.isSome = true → stepN n m = m
  | 0, _, _ => rfl
  | n + 1, m, h => by
    show stepN n m.step = m
    rw [step_done m h]
    exact stepN_done n m h
theorem runFor_N : ∀ (n : Nat) (m : Sre.M), m.runFor n = stepN n m
  | 0, _ => rfl
  | n + 1, m => by
    show (if m.outcome.isSome then m else (m.step).runFor n) = stepN (n + 1) m
    by_cases h : m.outcome.isSome = true
    · rw [if_pos h, stepN_done _ _ h]
    · rw [if_neg h]
      exact runFor_N n m.step
theorem noFind_of : ∀ (n k : Nat) (m : Sre.M), k ≤ 4 * n → 0 < n → (stepN k m).outcome = some .failed → noFind n m = true
  | 0, _, _, _, h, _ => absurd h (Nat.lt_irrefl 0)
  | n + 1, k, m, hk, _, h => by
    rw [noFind]
    rw [runFor_N]
    by_cases h4 : (stepN reTurnSteps m).outcome.isSome = true
    · rw [if_pos h4]
      have e : (stepN reTurnSteps m).outcome = some .failed := by
        by_cases hk4 : k ≤ 4
        · have hk5 : stepN reTurnSteps m = stepN k m := by
            rw [show reTurnSteps = k + (4 - k) by show 4 = _; omega, ← stepN_add]
            exact stepN_done _ _ (by rw [h]; rfl)
          rw [hk5]
          exact h
        · rw [show k = reTurnSteps + (k - 4) by show k = 4 + _; omega, ← stepN_add, stepN_done _ _ h4] at h
          exact h
      rw [e]
    · rw [if_neg h4]
      have hk4 : 4 < k := by
        by_cases hk4 : k ≤ 4
        · refine absurd ?_ h4
          have hk5 : stepN reTurnSteps m = stepN k m := by
            rw [show reTurnSteps = k + (4 - k) by show 4 = _; omega, ← stepN_add]
            exact stepN_done _ _ (by rw [h]; rfl)
          rw [hk5, h]
          rfl
        · omega
      rw [show k = reTurnSteps + (k - 4) by show k = 4 + _; omega, ← stepN_add] at h
      refine noFind_of n (k - 4) _ (by omega) ?_ h
      by_cases hn : n = 0
      · omega
      · omega
theorem search_end (text : Array Nat) (lim : Nat) (hd : ∀ i, (text.getD i 0 == 46) = true → Sre.isDigit (text.getD (i + 1) 0) = false) :
    ∀ (d s : Nat) (seen : Sre.Seen) (first : Bool), s + d = lim → ∃ k, k ≤ 3 * d + 3 ∧ (stepN k (PM text lim s seen first)).outcome = some .failed
  | 0, s, seen, first, h => ⟨3, by omega, by
      show ((PM text lim s seen first).step.step.step).outcome = _
      rw [exec_end _ _ _ _ _ (by omega)]
      exact say_end _ _ _ _ _ (by omega)⟩
  | d + 1, s, seen, first, h => by
    cases hc : text.getD s 0 == 46 with
    | false =>
      obtain ⟨k, hk, e⟩ := search_end text lim hd d (s + 1) (seen.add 16) false (by omega)
      refine ⟨k + 2, by omega, ?_⟩
      show (stepN k (PM text lim s seen first).step.step).outcome = _
      rw [exec_no _ _ _ _ _ (by omega) hc, step_say _ _ _ _ _ (by omega)]
      exact e
    | true =>
      obtain ⟨seen', hs⟩ := exec_rep text lim s (seen.add 16) first (hd s hc)
      obtain ⟨k, hk, e⟩ := search_end text lim hd d (s + 1) seen' false (by omega)
      refine ⟨k + 3, by omega, ?_⟩
      show (stepN k (PM text lim s seen first).step.step.step).outcome = _
      rw [exec_dot _ _ _ _ _ (by omega) hc, hs, say_dot _ _ _ _ _ (by omega)]
      exact e
theorem noMatch_of (x : PySem.Str) (h1 : 1 < x.cps.size) (h2 : x.cps.size ≤ 1000) (hd : ∀ i, (x.cps.getD i 0 == 46) = true → Sre.isDigit (x.cps.getD (i + 1) 0) = false) : noMatch x = true := by
  unfold noMatch
  have e1 : min (0 : Int).toNat x.cps.size = 0 := Nat.zero_min _
  have e2 : min ((2 : Int) ^ 63 - 1).toNat x.cps.size = x.cps.size := by
    have e3 : ((2 : Int) ^ 63 - 1).toNat = 9223372036854775807 := by decide
    rw [e3]
    omega
  rw [e1, e2]
  have e : Sre.forSearch patCode x.cps 0 0 x.cps.size false = PM x.cps x.cps.size 0 (({} : Sre.Seen).add 14) true := by
    unfold Sre.forSearch
    dsimp only
    rw [if_neg]
    · rfl
    · show ¬ (decide (0 > x.cps.size) || decide (x.cps.size - 0 < 2)) = true
      rw [Bool.or_eq_true, decide_eq_true_eq, decide_eq_true_eq]
      omega
  rw [e]
  obtain ⟨k, hk, e2⟩ := search_end x.cps x.cps.size hd x.cps.size 0 (({} : Sre.Seen).add 14) true (by omega)
  exact noFind_of 4000 k _ (by omega) (by omega) e2
end Mine
end
section
set_option maxRecDepth 100000
set_option maxHeartbeats 8000000
set_option linter.unusedVariables false
set_option autoImplicit false
namespace Mine
theorem dotS : PySem.Str.ofString "." = ⟨#[46]⟩ := by decide +kernel
theorem no_digit (l : List Int) (j : Nat) : Sre.isDigit ((HS l).cps.getD j 0) = false := by
  rw [Array.getD_eq_getD_getElem?]
  cases h : (HS l).cps[j]? with
  | none => rfl
  | some c =>
    have hin := Hl_in l c (by simpa [HS] using Array.mem_of_getElem? h)
    simp only [sgn, List.mem_cons, List.not_mem_nil, or_false] at hin
    rcases hin with rfl | rfl | rfl | rfl | rfl | rfl <;> rfl
theorem noMatch_HS (l : List Int) (hl : l.length ≤ 11) : noMatch (HS l) = true := by
  have hn : (HS l).cps.size = 2 * l.length + 5 := HS_len l
  exact noMatch_of _ (by omega) (by omega) fun i _ => no_digit l (i + 1)
theorem Hl_last : ∀ l : List Int, (Hl l)[2 * l.length + 4]? = some 108
  | [] => rfl
  | d :: r => by
    rw [show 2 * (d :: r).length + 4 = (2 * r.length + 4) + 1 + 1 by rw [List.length_cons]; omega]
    exact Hl_last r
theorem Hl_first : ∀ l : List Int, ∃ c, (Hl l)[0]? = some c ∧ c ≠ 46
  | [] => ⟨108, rfl, by decide⟩
  | d :: r => ⟨_, rfl, sgn_c.1⟩
theorem item_ne {x : PySem.Str} {i : Int} {c : Nat} (h : Txt.charAt x i = some c) (hc : c ≠ 46) : (Txt.item x i == PySem.Str.ofString ".") = false := by
  rw [dotS, beq_eq_false_iff_ne]
  intro e
  unfold Txt.item at e
  rw [h] at e
  have e2 := congrArg (fun y : PySem.Str => y.cps.toList) e
  simp at e2
  exact hc e2
theorem hdn_HS (l : List Int) (hl : l.length ≤ 11) : hdnOk (HS l) := by
  have hn := HS_len l
  refine ⟨?_⟩
  unfold hdnB
  simp only [Bool.and_eq_true, Bool.not_eq_true', decide_eq_true_eq]
  refine ⟨⟨⟨⟨⟨by omega, by omega⟩, noMatch_HS l hl⟩, ?_⟩, ?_⟩, ?_⟩
  · rw [beq_eq_false_iff_ne]
    intro e
    rw [e] at hn
    have h0 : (PySem.Str.ofString "").length = 0 := by decide +kernel
    omega
  · obtain ⟨c, h1, h2⟩ := Hl_first l
    refine item_ne (c := c) ?_ h2
    have e : seqIndex? 0 (2 * l.length + 5) = some 0 := by
      unfold seqIndex?
      dsimp only
      have h0 : ¬ ((0 : Int) < 0) := by decide
      rw [if_neg h0, if_pos (by rw [Bool.and_eq_true, decide_eq_true_eq, decide_eq_true_eq]; omega)]
      rfl
    unfold Txt.charAt
    rw [hn, e]
    show (Hl l).toArray[0]? = some c
    rw [List.getElem?_toArray, h1]
  · refine item_ne (c := 108) ?_ (by decide)
    have e : seqIndex? (-1) (2 * l.length + 5) = some (2 * l.length + 4) := by
      unfold seqIndex?
      dsimp only
      have h0 : (-1 : Int) < 0 := by decide
      rw [if_pos h0, if_pos (by rw [Bool.and_eq_true, decide_eq_true_eq, decide_eq_true_eq]; omega)]
      congr 1
      omega
    unfold Txt.charAt
    rw [hn, e]
    show (Hl l).toArray[2 * l.length + 4]? = some 108
    rw [List.getElem?_toArray, Hl_last]
theorem dot_at (x : PySem.Str) (i : Nat) : Builtin.Str.subAt x ⟨#[46]⟩ i = true ↔ (x.cps.toList.drop i).take 1 = [46] := by
  unfold Builtin.Str.subAt
  rw [beq_iff_eq]
  show x.cps.extract i (i + 1) = #[46] ↔ _
  constructor
  · intro h
    have h2 := congrArg Array.toList h
    simpa [List.extract_eq_take_drop] using h2
  · intro h
    apply Array.toList_inj.mp
    simpa [List.extract_eq_take_drop] using h
theorem find_cons (d : Int) (r : List Int) : Txt.find (HS (d :: r)) (PySem.Str.ofString ".") = 1 := by
  rw [dotS]
  unfold Txt.find
  have h1 : StrLaws.At (HS (d :: r)) ⟨#[46]⟩ (HS (d :: r)).length 1 := by
    refine ⟨?_, (dot_at _ _).mpr rfl⟩
    rw [HS_len, List.length_cons]
    show 1 + 1 ≤ _
    omega
  rcases StrLaws.occ_head (HS (d :: r)) ⟨#[46]⟩ 1 (Nat.le_refl 1) with ⟨_, hn⟩ | ⟨i, t, e, hi, hk⟩
  · exact absurd h1 (hn 1)
  · rw [e]
    dsimp only
    have i1 : i = 1 := by
      rcases Nat.lt_trichotomy i 1 with h | h | h
      · have i0 : i = 0 := by omega
        subst i0
        have h3 := (dot_at _ _).mp hi.2
        simp only [HS, Hl, List.drop_zero, List.take_succ_cons, List.take_zero, List.cons.injEq, and_true] at h3
        exact absurd h3 sgn_c.1
      · exact h
      · exact absurd h1 (hk 1 h)
    rw [i1]
    rfl
theorem find_nil : Txt.find (HS []) (PySem.Str.ofString ".") = -1 := by decide +kernel
theorem slice_two (d : Int) (r : List Int) : Txt.slice (HS (d :: r)) (some (1 + 1)) none = HS r := by
  unfold Txt.slice
  have hn : (HS (d :: r)).length = (Hl r).length + 2 := by rw [HS_len, Hl_len, List.length_cons]; omega
  have e : Builtin.Str.strSliceIndices (some (1 + 1)) none 1 (HS (d :: r)).length = (List.range (Hl r).length).map (2 + ·) := by
    rw [hn]
    unfold Builtin.Str.strSliceIndices sliceRange
    simp only [show (1 : Int) > 0 by decide, if_true, show ¬ ((1 : Int) + 1 < 0) by decide, if_false]
    have h1 : max (0 : Int) (min (1 + 1) (((Hl r).length + 2 : Nat) : Int)) = 2 := by omega
    rw [h1]
    have h2 : (if (2 : Int) < (((Hl r).length + 2 : Nat) : Int) then ((((Hl r).length + 2 : Nat) : Int) - 2 + 1 - 1) / 1 else 0).toNat = (Hl r).length := by
      split
      · rw [Int.ediv_one]; omega
      · omega
    rw [h2]
    apply List.map_congr_left
    intro k _
    omega
  have hl : ((Builtin.Str.strSliceIndices (some (1 + 1)) none 1 (HS (d :: r)).length).length == (HS (d :: r)).length) = false := by
    rw [e, hn]
    simp
  rw [if_neg (by rw [hl]; simp), e]
  have := pick_run (HS (d :: r)).cps 2 (Hl r).length
  rw [this]
  show (⟨_⟩ : PySem.Str) = ⟨_⟩
  congr 1
  simp [HS, Hl]
theorem reach_HS (d : Int) (r : List Int) : reachF (HS (d :: r)) = upS r := by
  have e : reachB (HS (d :: r)) = HS r := by
    unfold reachB
    rw [find_cons]
    exact slice_two d r
  unfold reachF
  rw [e, find_cons, if_pos (by decide), dot_app]
  cases r with
  | nil =>
    rw [find_nil, if_neg (by decide), if_pos (by decide +kernel)]
  | cons a t =>
    rw [find_cons, if_pos (by decide)]
end Mine
end
section
set_option maxRecDepth 1000000
set_option maxHeartbeats 8000000
set_option linter.unusedVariables false
set_option autoImplicit false

namespace Mine
noncomputable def figsL (n : Int) : List Int := (([233, 144, 89, 55, 34, 21, 13, 8, 5, 3, 2, 1] : List Int).foldl figStep ([], n)).1
theorem figs_L (n : Int) : figs n = figsL n := by
  unfold figs figUpTo figsL
  rw [show (fbs 12).reverse = [233, 144, 89, 55, 34, 21, 13, 8, 5, 3, 2, 1] by decide +kernel]
noncomputable def labL (n : Int) : List Int := (figsL n).reverse
/-- the row of n, from behind: what is asked of it -/
noncomputable def rowC (l : List Int) (n : Int) : Bool := decide (l.length ≤ 11) && l.all (fun d => d == 0 || d == 1) && (valR l 1 2 == n) && decide (1 ≤ l.length) && (figsL (valR l.tail 1 2) == l.tail.reverse) && decide (0 ≤ valR l.tail 1 2) && decide (valR l.tail 1 2 < n)
noncomputable def PL (ns : List Int) : PySem.Str := Txt.join (PySem.Str.ofString "") (ns.map stepOf)
noncomputable def DL (p : PySem.Str) : PySem.Str := Txt.join (PySem.Str.ofString "") ((signs p).map dblOf)
noncomputable def RL (d : PySem.Str) : PySem.Str := PySem.Str.ofString "257 \"" ++ d ++ PySem.Str.ofString "\" is where we are"
noncomputable def OL (x : PySem.Str) : Array UInt8 := byteArr ((signs x).map ordOf)
noncomputable def JL (o : Array UInt8) : PySem.Str := Txt.join (PySem.Str.ofString "") ((KBw.bInts o.reverse).map dotOf)
noncomputable def wayC5 (o : Array UInt8) (h : PySem.Str) : Bool := (JL o ++ PySem.Str.ofString "local" == h) && decide (0 < o.size) && decide (o.size ≤ 200) && decide ((JL o).length ≤ 300)
noncomputable def wayC4 (x h : PySem.Str) : Bool := ((signs x).map ordOf).all (fun c => decide (0 ≤ c) && decide (c < 256)) && decide (x.length ≤ 200) && wayC5 (OL x) h
noncomputable def wayC3 (r h : PySem.Str) : Bool := !(Txt.slice r none (some 3) != PySem.Str.ofString "257") && !(Txt.slice r (some 3) (some 5) != PySem.Str.ofString " \"") && decide (r.length ≤ 1000) && wayC4 (parF r) h
noncomputable def wayC (ns : List Int) (h : PySem.Str) : Bool := decide ((PL ns).length ≤ 100) && decide ((DL (PL ns)).length ≤ 200) && wayC3 (RL (DL (PL ns))) h
noncomputable def nbA : Nat → Int → Int → Int × Int
  | 0, a, b => (a, b)
  | k + 1, a, b => nbA k b (a + b)
theorem nb_A (k : Nat) : ∀ j, nbA k (nb j).1 (nb j).2 = nb (j + k) := by
  induction k with
  | zero => intro j; rfl
  | succ k ih => intro j; rw [show j + (k + 1) = (j + 1) + k by omega, ← ih (j + 1)]; rfl
noncomputable def stepC (l : List Int) (n lo up : Int) : Bool := (((n + 2) * lo).fdiv up == valR l.tail 1 2 + 1) && (decide (((n + 2) * lo).fmod up > lo) == (l.headD 0 == 1)) && (((n + 1) * lo).fdiv up == valR l 1 1) && decide (0 ≤ (n + 2) * lo) && decide ((n + 2) * lo < 2 ^ 4000) && decide (0 ≤ (n + 1) * lo) && decide ((Builtin.Int.intBits ((n + 1) * lo) : Int) ≤ 4000)
noncomputable def stepsC (lo up : Int) : Bool := decide (0 < up) && decide (up < 2 ^ 200) && decide (0 ≤ lo) && decide (lo < 2 ^ 200) && (List.range 143).all fun i => stepC (labL ((i : Int) + 1)) ((i : Int) + 1) lo up
noncomputable def stepsCP (p : Int × Int) : Bool := stepsC p.1 p.2
noncomputable def remC (rv n wd : Int) (l : List Int) : Bool := decide (0 < rv) && decide (rv < 2 ^ 4000) && decide ((Builtin.Int.intBits rv : Int) ≤ 20 * wd) && (digs (2 ^ wd.toNat) rv (((Builtin.Int.intBits rv : Int) + wd - 1).fdiv wd).toNat == [valR l 1 1, n])
noncomputable def digC (av bm n wd : Int) (l : List Int) : Bool := decide (0 < av) && decide (av < 2 ^ 4000) && decide ((Builtin.Int.intBits av : Int) ≤ 20 * (Builtin.Int.intBits bm : Int)) && decide (0 < bm) && decide (bm < 2 ^ 200) && remC (av % bm) n wd l
noncomputable def digsC (wd : Int) : Bool := (List.range 143).all fun i => digC (horn (2 ^ wd.toNat) (0 :: 0 :: labL ((i : Int) + 1))) (2 ^ wd.toNat * 2 ^ wd.toNat - 2 ^ wd.toNat - 1) ((i : Int) + 1) wd (labL ((i : Int) + 1))
/-- a check of all numbers from 1 to 143, by twelves -/
noncomputable def twelve (f : Int → Bool) (c : Nat) : Bool := (List.range 12).all fun i => decide (143 < 12 * c + i + 1) || f ((12 * c + i : Nat) + 1)
theorem of_twelves {f : Int → Bool} (h : ∀ c, c < 12 → twelve f c = true) {n : Int} (h1 : 1 ≤ n) (h2 : n ≤ 143) : f n = true := by
  have hc : (n - 1).toNat / 12 < 12 := by omega
  have := List.all_eq_true.mp (h _ hc) ((n - 1).toNat % 12) (List.mem_range.mpr (by omega))
  have e : 12 * ((n - 1).toNat / 12) + (n - 1).toNat % 12 = (n - 1).toNat := Nat.div_add_mod _ _
  rw [e] at this
  rw [decide_eq_false (by omega), Bool.false_or] at this
  have e2 : ((n - 1).toNat : Int) + 1 = n := by omega
  rw [e2] at this
  exact this
theorem rowT : ((List.range 143).all fun n => rowC (labL ((n : Int) + 1)) ((n : Int) + 1)) = true := by decide +kernel
theorem wayT0 : twelve (fun n => wayC (figsL n) (HS (labL n))) 0 = true := by decide +kernel
theorem wayT1 : twelve (fun n => wayC (figsL n) (HS (labL n))) 1 = true := by decide +kernel
theorem wayT2 : twelve (fun n => wayC (figsL n) (HS (labL n))) 2 = true := by decide +kernel
theorem wayT3 : twelve (fun n => wayC (figsL n) (HS (labL n))) 3 = true := by decide +kernel
theorem wayT4 : twelve (fun n => wayC (figsL n) (HS (labL n))) 4 = true := by decide +kernel
theorem wayT5 : twelve (fun n => wayC (figsL n) (HS (labL n))) 5 = true := by decide +kernel
theorem wayT6 : twelve (fun n => wayC (figsL n) (HS (labL n))) 6 = true := by decide +kernel
theorem wayT7 : twelve (fun n => wayC (figsL n) (HS (labL n))) 7 = true := by decide +kernel
theorem wayT8 : twelve (fun n => wayC (figsL n) (HS (labL n))) 8 = true := by decide +kernel
theorem wayT9 : twelve (fun n => wayC (figsL n) (HS (labL n))) 9 = true := by decide +kernel
theorem wayT10 : twelve (fun n => wayC (figsL n) (HS (labL n))) 10 = true := by decide +kernel
theorem wayT11 : twelve (fun n => wayC (figsL n) (HS (labL n))) 11 = true := by decide +kernel
theorem wayT : ∀ c, c < 12 → twelve (fun n => wayC (figsL n) (HS (labL n))) c = true
  | 0, _ => wayT0
  | 1, _ => wayT1
  | 2, _ => wayT2
  | 3, _ => wayT3
  | 4, _ => wayT4
  | 5, _ => wayT5
  | 6, _ => wayT6
  | 7, _ => wayT7
  | 8, _ => wayT8
  | 9, _ => wayT9
  | 10, _ => wayT10
  | 11, _ => wayT11
  | c + 12, h => absurd h (Nat.not_lt.mpr (Nat.le_add_left _ _))
/-- five pairs of neighbours -/
noncomputable def fives (c : Nat) : Bool := (List.range 5).all fun i => stepsCP (nbA (16 + (5 * c + i)) 1 1)
theorem step0 : fives 0 = true := by decide +kernel
theorem step1 : fives 1 = true := by decide +kernel
theorem step2 : fives 2 = true := by decide +kernel
theorem step3 : fives 3 = true := by decide +kernel
theorem step4 : fives 4 = true := by decide +kernel
theorem step5 : fives 5 = true := by decide +kernel
theorem step6 : fives 6 = true := by decide +kernel
theorem step7 : fives 7 = true := by decide +kernel
theorem stepA : ∀ c, c < 8 → fives c = true
  | 0, _ => step0
  | 1, _ => step1
  | 2, _ => step2
  | 3, _ => step3
  | 4, _ => step4
  | 5, _ => step5
  | 6, _ => step6
  | 7, _ => step7
  | c + 8, h => absurd h (Nat.not_lt.mpr (Nat.le_add_left _ _))
theorem stepT : ∀ kk, 16 ≤ kk → kk < 56 → stepsCP (nbA kk 1 1) = true := fun kk h1 h2 => by
  have hc : (kk - 16) / 5 < 8 := Nat.div_lt_of_lt_mul (by omega)
  have := List.all_eq_true.mp (stepA _ hc) ((kk - 16) % 5) (List.mem_range.mpr (Nat.mod_lt _ (by decide)))
  rw [Nat.div_add_mod, Nat.add_sub_cancel' h1] at this
  exact this
theorem dig9 : digsC 9 = true := by decide +kernel
theorem dig10 : digsC 10 = true := by decide +kernel
theorem dig11 : digsC 11 = true := by decide +kernel
theorem dig12 : digsC 12 = true := by decide +kernel
theorem dig13 : digsC 13 = true := by decide +kernel
theorem dig14 : digsC 14 = true := by decide +kernel
theorem dig15 : digsC 15 = true := by decide +kernel
theorem dig16 : digsC 16 = true := by decide +kernel
theorem digA : ∀ c : Nat, c < 8 → digsC ((9 + c : Nat) : Int) = true
  | 0, _ => dig9
  | 1, _ => dig10
  | 2, _ => dig11
  | 3, _ => dig12
  | 4, _ => dig13
  | 5, _ => dig14
  | 6, _ => dig15
  | 7, _ => dig16
  | c + 8, h => absurd h (Nat.not_lt.mpr (Nat.le_add_left _ _))
theorem digT : ∀ wd : Int, 9 ≤ wd → wd ≤ 16 → digsC wd = true := fun wd h1 h2 => by
  have := digA (wd - 9).toNat (by omega)
  rw [show ((9 + (wd - 9).toNat : Nat) : Int) = wd by omega] at this
  exact this
end Mine
end
section
set_option maxRecDepth 100000
set_option maxHeartbeats 8000000
set_option linter.unusedVariables false
set_option autoImplicit false
namespace Mine
structure RowF (n : Int) : Prop where
  l : (labL n).length ≤ 11
  b : bits01 (labL n)
  v : valR (labL n) 1 2 = n
  ne : 1 ≤ (labL n).length
  f : figsL (valR (labL n).tail 1 2) = (labL n).tail.reverse
  n0 : 0 ≤ valR (labL n).tail 1 2
  n1 : valR (labL n).tail 1 2 < n
theorem rowF {n : Int} (h1 : 1 ≤ n) (h2 : n ≤ 143) : RowF n := by
  have h := List.all_eq_true.mp rowT (n - 1).toNat (List.mem_range.mpr (by omega))
  have e : ((n - 1).toNat : Int) + 1 = n := by omega
  rw [e] at h
  unfold rowC at h
  simp only [Bool.and_eq_true, decide_eq_true_eq, List.all_eq_true, Bool.or_eq_true, beq_iff_eq] at h
  obtain ⟨⟨⟨⟨⟨⟨a, b⟩, c⟩, d⟩, e⟩, f⟩, g⟩ := h
  exact ⟨a, b, c, d, e, f, g⟩
theorem labL_0 : labL 0 = [] := by decide +kernel
theorem bits_drop {l : List Int} (h : bits01 l) (i : Nat) : bits01 (l.drop i) := fun d hd => h d (List.mem_of_mem_drop hd)
theorem labF {n : Int} (h1 : 0 ≤ n) (h2 : n ≤ 143) : (labL n).length ≤ 11 ∧ bits01 (labL n) ∧ valR (labL n) 1 2 = n := by
  by_cases h : n = 0
  · subst h
    rw [labL_0]
    exact ⟨by decide, (fun d hd => nomatch hd), rfl⟩
  · have r := rowF (n := n) (by omega) h2
    exact ⟨r.l, r.b, r.v⟩
noncomputable def numK (k : Int) (i : Nat) : Int := valR ((labL k).drop i) 1 2
noncomputable def hostK (k : Int) (i : Nat) : PySem.Str := HS ((labL k).drop i)
noncomputable def upsK (k : Int) (i : Nat) : PySem.Str := upS ((labL k).drop (i + 1))
theorem chain {k : Int} (h1 : 0 ≤ k) (h2 : k ≤ 143) : ∀ i, i ≤ (labL k).length → labL (numK k i) = (labL k).drop i ∧ 0 ≤ numK k i ∧ numK k i ≤ 143
  | 0, _ => by
    unfold numK
    rw [List.drop_zero, (labF h1 h2).2.2]
    exact ⟨rfl, h1, h2⟩
  | i + 1, hi => by
    obtain ⟨e, a, b⟩ := chain h1 h2 i (by omega)
    have hm : numK k i ≠ 0 := fun q => by
      rw [q, labL_0] at e
      have := congrArg List.length e
      rw [List.length_drop] at this
      simp at this
      omega
    have r := rowF (n := numK k i) (by omega) b
    have et : (labL (numK k i)).tail = (labL k).drop (i + 1) := by rw [e, List.tail_drop]
    have en : numK k (i + 1) = valR (labL (numK k i)).tail 1 2 := by rw [et]; rfl
    have rf := r.f
    have r0 := r.n0
    have r1 := r.n1
    rw [← en] at rf r0 r1
    refine ⟨?_, r0, by omega⟩
    show (figsL (numK k (i + 1))).reverse = _
    rw [rf, List.reverse_reverse, et]
theorem figs_lab (k : Int) : figs k = (labL k).reverse := by rw [figs_L]; unfold labL; rw [List.reverse_reverse]
theorem figs_rev (k : Int) : (figs k).reverse = labL k := by rw [figs_lab, List.reverse_reverse]
theorem hostF {n : Int} (h1 : 1 ≤ n) (h2 : n ≤ 143) : hdnOk (HS (labL n)) ∧ reachF (HS (labL n)) = upS (labL n).tail := by
  have r := rowF h1 h2
  refine ⟨hdn_HS _ r.l, ?_⟩
  have ne := r.ne
  revert ne
  generalize labL n = l
  intro ne
  cases l with
  | nil => exact absurd ne (by decide)
  | cons d t => exact reach_HS d t
structure StepF (n lo up : Int) : Prop where
  q : ((n + 2) * lo).fdiv up = valR (labL n).tail 1 2 + 1
  c : decide (((n + 2) * lo).fmod up > lo) = ((labL n).headD 0 == 1)
  g : ((n + 1) * lo).fdiv up = valR (labL n) 1 1
  x0 : 0 ≤ (n + 2) * lo
  x1 : (n + 2) * lo < 2 ^ 4000
  g0 : 0 ≤ (n + 1) * lo
  g1 : (Builtin.Int.intBits ((n + 1) * lo) : Int) ≤ 4000
theorem nb_is (kk : Nat) : nbA kk 1 1 = nb kk := by
  have := nb_A kk 0
  rw [Nat.zero_add] at this
  exact this
theorem stepsF {kk : Nat} (h1 : 16 ≤ kk) (h2 : kk < 56) : 0 < (nb kk).2 ∧ (nb kk).2 < 2 ^ 200 ∧ 0 ≤ (nb kk).1 ∧ (nb kk).1 < 2 ^ 200 ∧ ∀ n : Int, 1 ≤ n → n ≤ 143 → StepF n (nb kk).1 (nb kk).2 := by
  have h := stepT kk h1 h2
  rw [nb_is] at h
  unfold stepsCP stepsC at h
  simp only [Bool.and_eq_true, decide_eq_true_eq] at h
  obtain ⟨⟨⟨⟨a, b⟩, c⟩, d⟩, e⟩ := h
  refine ⟨a, b, c, d, fun n g1 g2 => ?_⟩
  have h := List.all_eq_true.mp e (n - 1).toNat (List.mem_range.mpr (by omega))
  have e2 : ((n - 1).toNat : Int) + 1 = n := by omega
  rw [e2] at h
  unfold stepC at h
  simp only [Bool.and_eq_true, decide_eq_true_eq, beq_iff_eq] at h
  obtain ⟨⟨⟨⟨⟨⟨k1, k2⟩, k3⟩, k4⟩, k5⟩, k6⟩, k7⟩ := h
  exact ⟨k1, k2, k3, k4, k5, k6, k7⟩
theorem qt_up (l : List Int) : PySem.Str.ofString "\"" ++ upS l = HS (1 :: l) := by
  have e : (PySem.Str.ofString "\"").cps = #[34] := by decide +kernel
  show (⟨(PySem.Str.ofString "\"").cps ++ (upS l).cps⟩ : PySem.Str) = _
  rw [e]
  simp [HS, upS, Hl]
theorem o_up (l : List Int) : PySem.Str.ofString "o" ++ upS l = HS (0 :: l) := by
  have e : (PySem.Str.ofString "o").cps = #[111] := by decide +kernel
  show (⟨(PySem.Str.ofString "o").cps ++ (upS l).cps⟩ : PySem.Str) = _
  rw [e]
  simp [HS, upS, Hl]
theorem ladK {kk : Nat} {k : Int} (h1 : 16 ≤ kk) (h2 : kk < 56) (k1 : 1 ≤ k) (k2 : k ≤ 143) {i : Nat} (hi : i < (figs k).length) : LadStep (nb kk).1 (nb kk).2 (figs k) (numK k) (hostK k) (upsK k) i := by
  have hil : i < (labL k).length := by rw [figs_lab, List.length_reverse] at hi; exact hi
  obtain ⟨e, a, b⟩ := chain (k := k) (by omega) k2 i (by omega)
  obtain ⟨e', a', b'⟩ := chain (k := k) (by omega) k2 (i + 1) (by omega)
  have hm : 1 ≤ numK k i := by
    have : numK k i ≠ 0 := fun q => by
      rw [q, labL_0] at e
      have := congrArg List.length e
      rw [List.length_drop] at this
      simp at this
      omega
    omega
  have r := rowF hm b
  have hF := hostF hm b
  have sF := (stepsF h1 h2).2.2.2.2 _ hm b
  have et : (labL (numK k i)).tail = (labL k).drop (i + 1) := by rw [e, List.tail_drop]
  have hc := List.drop_eq_getElem_cons hil
  have hHS : hostK k i = HS (labL (numK k i)) := by unfold hostK; rw [e]
  have hbit : (labL k)[i] = 0 ∨ (labL k)[i] = 1 := (labF (n := k) (by omega) k2).2.1 _ (List.getElem_mem hil)
  have hl := (labF (n := k) (by omega) k2).1
  have hhead : (labL (numK k i)).headD 0 = (labL k)[i] := by rw [e, hc]; rfl
  have sc := sF.c
  rw [hhead] at sc
  have sq := sF.q
  rw [et] at sq
  refine ⟨?_, ?_, ?_, ?_, a, by omega, sF.x0, sF.x1, sq, ?_, ?_, ?_, ?_, a', by omega⟩
  · rw [hHS]; exact hF.1
  · unfold hostK; rw [HS_len, List.length_drop]; omega
  · rw [hHS, hF.2, et]; rfl
  · unfold upsK; rw [upS_len, List.length_drop]; omega
  · intro hg
    rw [decide_eq_true hg] at sc
    have e1 : (labL k)[i] = 1 := (beq_iff_eq.mp sc.symm)
    unfold hostK upsK
    rw [hc, e1, qt_up]
    simp
  · intro hg
    rw [decide_eq_false hg] at sc
    have e1 : (labL k)[i] = 0 := by
      rcases hbit with q | q
      · exact q
      · rw [q] at sc; cases sc
    unfold hostK upsK
    rw [hc, e1, o_up]
    simp
  · exact slice_up _
  · rw [figs_lab (numK k (i + 1)), e', figs_lab k, List.length_reverse]
    rw [List.take_reverse]
    congr 2
    omega
theorem turnOkK {kk : Nat} {wd k : Int} (h1 : 16 ≤ kk) (h2 : kk < 56) (w1 : 9 ≤ wd) (w2 : wd ≤ 16) (k1 : 1 ≤ k) (k2 : k ≤ 143) : ∃ P D R W0 O J, TurnOk (nb kk).1 (nb kk).2 wd (2 ^ wd.toNat) k P D R W0 O J (numK k) (hostK k) (upsK k) := by
  have r := rowF k1 k2
  have S := stepsF h1 h2
  have s := S.2.2.2.2 k k1 k2
  have hw := of_twelves wayT k1 k2
  rw [← figs_L] at hw
  unfold wayC wayC3 wayC4 wayC5 at hw
  simp only [Bool.and_eq_true, decide_eq_true_eq, beq_iff_eq, Bool.not_eq_true', List.all_eq_true] at hw
  obtain ⟨⟨lP, lD⟩, ⟨⟨r1, r2⟩, lR⟩, ⟨o1, lW⟩, ⟨⟨⟨jh, lO⟩, lO2⟩, lJ⟩⟩ := hw
  have hd := digT wd w1 w2
  have hd := List.all_eq_true.mp hd (k - 1).toNat (List.mem_range.mpr (by omega))
  have e2 : ((k - 1).toNat : Int) + 1 = k := by omega
  rw [e2] at hd
  unfold digC remC at hd
  simp only [Bool.and_eq_true, decide_eq_true_eq, beq_iff_eq] at hd
  obtain ⟨⟨⟨⟨⟨a0, a1⟩, a2⟩, m0⟩, m1⟩, ⟨⟨⟨q0, q1⟩, q2⟩, dg⟩⟩ := hd
  have hl : (figs k).length = (labL k).length := by rw [figs_lab, List.length_reverse]
  have hch := chain (k := k) (by omega) k2
  have hz := hch (figs k).length (by omega)
  have hz2 : numK k (figs k).length = 0 ∧ hostK k (figs k).length = PySem.Str.ofString "local" := by
    unfold numK hostK
    rw [hl, List.drop_length]
    exact ⟨rfl, by decide +kernel⟩
  refine ⟨PL (figs k), DL (PL (figs k)), RL (DL (PL (figs k))), parF (RL (DL (PL (figs k)))), OL (parF (RL (DL (PL (figs k))))), JL (OL (parF (RL (DL (PL (figs k)))))), ?_⟩
  refine { k0 := by omega, k1 := by omega, l20 := by have := r.l; omega, b01 := ?_, hq := ?_, lP := lP, lD := lD, lR := lR, lW := lW, lO := lO, lO2 := lO2, lJ := lJ, n0 := ?_, so := ?_, st := fun i hi => ladK h1 h2 k1 k2 hi, up0 := S.1, up1 := S.2.1, lo0 := S.2.2.1, lo1 := S.2.2.2.1, w0 := w1, w1 := w2, bq := rfl, e0 := hz2.1, e1 := hz2.2, a0 := ?_, a1 := ?_, a2 := ?_, m0 := m0, m1 := m1, r0 := ?_, r1 := ?_, r2 := ?_, g0 := s.g0, g1 := s.g1, dg := ?_ }
  · intro d hd
    exact r.b d (by rw [← figs_rev]; exact List.mem_reverse.mpr hd)
  · exact { j := rfl, h := jh.trans (by unfold hostK; rw [List.drop_zero]), p := rfl, d := rfl, r := rfl, t := rfl, o := rfl, o1 := fun n hn => o1 n hn, r1 := r1, r2 := r2 }
  · unfold numK
    rw [List.drop_zero]
    exact r.v
  · intro i _
    exact strOk_HS _
  all_goals rw [figs_rev]
  · exact a0
  · exact a1
  · exact a2
  · exact q0
  · exact q1
  · exact q2
  · rw [dg, s.g]
end Mine
end
section
set_option maxRecDepth 100000
set_option maxHeartbeats 8000000
set_option linter.unusedVariables false
set_option autoImplicit false
namespace Mine
theorem upper_len (l : List Int) : (Txt.upper (HS l)).length = (HS l).length := by
  have e : placed (HS l) (fun _ c => Unicode.upperOf c) = (HS l).cps.map upC := by
    refine placed_map _ _ upC fun i c hc => up_one c (Hl_in l c (by simpa [HS] using Array.mem_of_getElem? hc))
  show (placed (HS l) (fun _ c => Unicode.upperOf c)).size = _
  rw [e, Array.size_map]
  rfl
theorem hdnK {n : Int} (h1 : 0 ≤ n) (h2 : n ≤ 143) : hdnOk (HS (labL n)) := hdn_HS _ (labF h1 h2).1
noncomputable abbrev RK (k : Int) : List (Int × PySem.Str) := rungL k (numK k) (hostK k)
theorem RK_len (k : Int) : (RK k).length = (labL k).length + 1 := by
  unfold RK rungL
  rw [List.length_map, List.length_range, figs_lab, List.length_reverse]
theorem RK_get {k : Int} {i : Nat} (h : i < (RK k).length) : (RK k)[i] = (numK k i, hostK k i) := by
  have h' : i < (labL k).length + 1 := by rw [← RK_len]; exact h
  have e : (RK k)[i]? = some (numK k i, hostK k i) := by
    unfold RK rungL
    rw [List.getElem?_map, List.getElem?_range (by rw [figs_lab, List.length_reverse]; exact h')]
    rfl
  exact (List.getElem_eq_iff h).mpr e
theorem RK_host {k : Int} (h1 : 0 ≤ k) (h2 : k ≤ 143) {i : Nat} (hi : i ≤ (labL k).length) : hostK k i = HS (labL (numK k i)) := by
  unfold hostK
  rw [(chain h1 h2 i hi).1]
theorem num_inj {k m : Int} {j : Nat} (h1 : 0 ≤ k) (h2 : k ≤ 143) (m1 : 0 ≤ m) (m2 : m ≤ 143) (hj : j ≤ (labL k).length) : m = numK k j ↔ labL m = (labL k).drop j := by
  constructor
  · rintro rfl
    exact (chain h1 h2 j hj).1
  · intro h
    rw [← (labF m1 m2).2.2, h]
    rfl
/-- behind the i-th rung stand just those whose row is a row behind it -/
theorem RK_tail {k m : Int} {i : Nat} (h1 : 0 ≤ k) (h2 : k ≤ 143) (m1 : 0 ≤ m) (m2 : m ≤ 143) (hi : i ≤ (labL k).length) : (m, HS (labL m)) ∈ (RK k).drop (i + 1) ↔ psuf (labL (numK k i)) (labL m) := by
  rw [(chain h1 h2 i hi).1]
  constructor
  · intro h
    obtain ⟨t, ht, e⟩ := List.getElem_of_mem h
    rw [List.length_drop, RK_len] at ht
    rw [List.getElem_drop, RK_get] at e
    have e1 : numK k (i + 1 + t) = m := congrArg Prod.fst e
    refine ⟨t + 1, by omega, by rw [List.length_drop]; omega, ?_⟩
    rw [List.drop_drop]
    rw [show i + (t + 1) = i + 1 + t by omega]
    exact ((num_inj h1 h2 m1 m2 (by omega)).mp e1.symm).symm
  · rintro ⟨j, j1, j2, e⟩
    rw [List.length_drop] at j2
    rw [List.drop_drop] at e
    have hj : i + j ≤ (labL k).length := by omega
    have em := (num_inj h1 h2 m1 m2 hj).mpr e.symm
    have hlt : i + j < (RK k).length := by rw [RK_len]; omega
    have : (RK k)[i + j] = (m, HS (labL m)) := by
      rw [RK_get hlt, RK_host h1 h2 hj, ← em]
    rw [← this]
    have hlt2 : j - 1 < ((RK k).drop (i + 1)).length := by rw [List.length_drop, RK_len]; omega
    have e3 : ((RK k).drop (i + 1))[j - 1] = (RK k)[i + j] := by
      rw [List.getElem_drop]
      congr 1
      omega
    rw [← e3]
    exact List.getElem_mem hlt2
theorem RK_all {k : Int} (h1 : 0 ≤ k) (h2 : k ≤ 143) {p : Int × PySem.Str} (h : p ∈ RK k) : ∃ m, 0 ≤ m ∧ m ≤ 143 ∧ p = (m, HS (labL m)) := by
  obtain ⟨i, hi, e⟩ := List.getElem_of_mem h
  rw [RK_get] at e
  rw [RK_len] at hi
  have c := chain h1 h2 i (by omega)
  exact ⟨numK k i, c.2.1, c.2.2, by rw [← e, RK_host h1 h2 (by omega)]⟩
theorem drop_cons {k : Int} {i : Nat} {a : Int × PySem.Str} {X : List (Int × PySem.Str)} (h : (RK k).drop i = a :: X) : i ≤ (labL k).length ∧ a = (numK k i, hostK k i) ∧ X = (RK k).drop (i + 1) := by
  have hlt : i < (RK k).length := by
    have := congrArg List.length h
    rw [List.length_drop, List.length_cons] at this
    omega
  rw [List.drop_eq_getElem_cons hlt, RK_get hlt] at h
  have h2 := List.cons.inj h
  rw [RK_len] at hlt
  exact ⟨by omega, h2.1.symm, h2.2.symm⟩
theorem domOkK {k m : Int} {i : Nat} {a : Int × PySem.Str} {X : List (Int × PySem.Str)} (h1 : 0 ≤ k) (h2 : k ≤ 143) (m1 : 0 ≤ m) (m2 : m ≤ 143) (h : (RK k).drop i = a :: X) : DomOk a X (m, HS (labL m)) := by
  obtain ⟨hi, rfl, rfl⟩ := drop_cons h
  have c := chain h1 h2 i hi
  have hl := (labF c.2.1 c.2.2).1
  have hl2 := (labF m1 m2).1
  have hl3 := (labF h1 h2).1
  refine ⟨?_, ?_, ?_, ?_, ?_, ?_, ?_, strOk_HS _, ?_, ?_⟩
  · show hdnOk (Txt.lower (Txt.upper (hostK k i)))
    rw [RK_host h1 h2 hi, lower_upper]
    exact hdnK c.2.1 c.2.2
  · show hdnOk (Txt.slice (Txt.lower (PySem.Str.ofString "." ++ HS (labL m))) (some 1) none)
    rw [dot_app, lower_up, slice_up]
    exact hdnK m1 m2
  · show domF (Txt.upper (hostK k i)) (PySem.Str.ofString "." ++ HS (labL m)) = _
    rw [RK_host h1 h2 hi, dot_app, Bool.eq_iff_iff, domF_law _ _ (labF c.2.1 c.2.2).2.1 (labF m1 m2).2.1, inR_iff]
    exact (RK_tail h1 h2 m1 m2 hi).symm
  · show (hostK k i).length ≤ 100
    rw [RK_host h1 h2 hi, HS_len]; omega
  · show (HS (labL m)).length ≤ 100
    rw [HS_len]; omega
  · show (Txt.upper (hostK k i)).length ≤ 1000
    rw [RK_host h1 h2 hi, upper_len, HS_len]; omega
  · show (PySem.Str.ofString "." ++ HS (labL m)).length ≤ 1000
    rw [dot_app, upS_len]; omega
  · intro q hq
    obtain ⟨m', _, _, rfl⟩ := RK_all h1 h2 (List.mem_of_mem_drop hq)
    exact strOk_HS _
  · rw [List.length_drop, RK_len]; omega
theorem filter_drop {α : Type} (q : α → Bool) : ∀ (l : List α), l.Pairwise (fun x y => q x = true → q y = true) → ∃ i, l.filter q = l.drop i
  | [], _ => ⟨0, rfl⟩
  | a :: r, h => by
    obtain ⟨h1, h2⟩ := List.pairwise_cons.mp h
    cases hq : q a with
    | true =>
      refine ⟨0, ?_⟩
      rw [List.drop_zero, List.filter_eq_self]
      intro b hb
      rcases List.mem_cons.mp hb with rfl | hb
      · exact hq
      · exact h1 b hb hq
    | false =>
      obtain ⟨i, e⟩ := filter_drop q r h2
      refine ⟨i + 1, ?_⟩
      rw [List.filter_cons_of_neg (by rw [hq]; exact Bool.false_ne_true), e, List.drop_succ_cons]
theorem RK_mem {k m : Int} (h1 : 0 ≤ k) (h2 : k ≤ 143) (m1 : 0 ≤ m) (m2 : m ≤ 143) : (m, HS (labL m)) ∈ RK k ↔ ∃ j, j ≤ (labL k).length ∧ labL m = (labL k).drop j := by
  constructor
  · intro h
    obtain ⟨i, hi, e⟩ := List.getElem_of_mem h
    rw [RK_get] at e
    rw [RK_len] at hi
    have e1 : numK k i = m := congrArg Prod.fst e
    exact ⟨i, by omega, (num_inj h1 h2 m1 m2 (by omega)).mp e1.symm⟩
  · rintro ⟨j, hj, e⟩
    have em := (num_inj h1 h2 m1 m2 hj).mpr e
    have hlt : j < (RK k).length := by rw [RK_len]; omega
    have : (RK k)[j] = (m, HS (labL m)) := by rw [RK_get hlt, RK_host h1 h2 hj, ← em]
    rw [← this]
    exact List.getElem_mem hlt
theorem meet_drop {k0 k1 : Int} (h1 : 0 ≤ k0) (h2 : k0 ≤ 143) (g1 : 0 ≤ k1) (g2 : k1 ≤ 143) : ∃ i, (RK k0).filter (inR (RK k1)) = (RK k0).drop i := by
  refine filter_drop _ _ ?_
  rw [List.pairwise_iff_getElem]
  intro i j hi hj hij
  rw [inR_iff, inR_iff]
  have hi' := hi
  have hj' := hj
  rw [RK_len] at hi' hj'
  have ci := chain h1 h2 i (by omega)
  have cj := chain h1 h2 j (by omega)
  rw [RK_get hi, RK_get hj, RK_host h1 h2 (by omega), RK_host h1 h2 (by omega), RK_mem g1 g2 ci.2.1 ci.2.2, RK_mem g1 g2 cj.2.1 cj.2.2]
  rintro ⟨t, ht, e⟩
  rw [ci.1] at e
  rw [cj.1]
  have e2 := congrArg (List.drop (j - i)) e
  rw [List.drop_drop, List.drop_drop, show i + (j - i) = j by omega] at e2
  by_cases hle : t + (j - i) ≤ (labL k1).length
  · exact ⟨_, hle, e2⟩
  · refine ⟨(labL k1).length, Nat.le_refl _, ?_⟩
    rw [e2, List.drop_length, List.drop_of_length_le (by omega)]
theorem RK_zero {k : Int} (h1 : 0 ≤ k) (h2 : k ≤ 143) : ((0 : Int), HS (labL 0)) ∈ RK k := by
  rw [RK_mem h1 h2 (by decide) (by decide)]
  exact ⟨_, Nat.le_refl _, by rw [List.drop_length, labL_0]⟩
theorem endOkK {k0 k1 : Int} (h1 : 1 ≤ k0) (h2 : k0 ≤ 143) (g1 : 1 ≤ k1) (g2 : k1 ≤ 33) : EndOk (RK k0) (RK k1) := by
  have a0 : 0 ≤ k0 := by omega
  have b0 : 0 ≤ k1 := by omega
  have b2 : k1 ≤ 143 := by omega
  have z0 := RK_zero a0 h2
  have z1 := RK_zero b0 b2
  have sx : ∀ X, X = RK k0 ∨ X = RK k1 ∨ X = (RK k0).filter (inR (RK k1)) → ∃ k i, 0 ≤ k ∧ k ≤ 143 ∧ X = (RK k).drop i := by
    rintro X (rfl | rfl | rfl)
    · exact ⟨k0, 0, a0, h2, rfl⟩
    · exact ⟨k1, 0, b0, b2, rfl⟩
    · obtain ⟨i, e⟩ := meet_drop a0 h2 b0 b2
      exact ⟨k0, i, a0, h2, e⟩
  refine ⟨List.ne_nil_of_mem z0, List.ne_nil_of_mem z1, List.ne_nil_of_mem (List.mem_filter.mpr ⟨z0, inR_iff.mpr z1⟩), ?_, ?_, ?_, ?_, ?_⟩
  · intro p hp
    obtain ⟨m, _, _, rfl⟩ := RK_all a0 h2 hp
    exact strOk_HS _
  · intro p hp
    obtain ⟨m, _, _, rfl⟩ := RK_all b0 b2 hp
    exact strOk_HS _
  · rw [RK_len]; have := (labF a0 h2).1; omega
  · rw [RK_len]; have := (labF b0 b2).1; omega
  · intro X hX a X' hc Y hY p Y' hcY
    obtain ⟨k, i, c1, c2, rfl⟩ := sx X hX
    obtain ⟨k', i', c1', c2', rfl⟩ := sx Y hY
    obtain ⟨m, m1, m2, rfl⟩ := RK_all c1' c2' (p := p) (List.mem_of_mem_drop (by rw [hcY]; exact .head _))
    exact domOkK c1 c2 m1 m2 hc
end Mine
end
theorem PySem.Challenge.cw_zo0035_01_holds : PySem.Challenge.rw_zo0035_01.Holds := by
  exact Mine.main Mine.numK Mine.hostK Mine.upsK (fun kk wd k h1 h2 w1 w2 k1 k2 => Mine.turnOkK h1 h2 w1 w2 k1 k2) (fun k0 k1 h1 h2 g1 g2 => Mine.endOkK h1 h2 g1 g2)
