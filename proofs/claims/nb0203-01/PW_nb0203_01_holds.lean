import PyProof.Rows.All
import Wide.All
import OpenK.AllK
import Wide.FinOn
import PySem.Challenge.RW_nb0203_01
set_option Elab.async false
section -- NbC
open PySem PySem.W PySem.Calls PyProof.Rows
open PySem.Sem (wp)
set_option Elab.async false
set_option maxRecDepth 100000
set_option linter.unusedVariables false
namespace Mine

/-- a goal under a name: what is taken apart ahead of it stays small -/
theorem hideG {P : Prop} (h : let q := P; q) : P := h

/-- built-ins that would hold a bytearray while they run -/
def heldIds : List String := Builtin.Bytes.decodersThatHold ++ ["bytearray.__contains__", "bytearray.__mod__", "bytearray.__rmod__", "_struct.pack_into.held", "bytearray.find.held"]
def Held : Code → Bool
  | .builtin id _ => heldIds.contains id
  | _ => false
/-- none of them stands on the stack -/
def Clean (Γ : Ctx) : Prop := Held Γ.code = false ∧ ∀ x ∈ Γ.below, Held x.1 = false

def wpC {α : Type} (M : Model) (A : Around) (t : Sem α) (Q : α → Shared → Prop) (E : Value → Shared → Prop) (s : Shared) : Prop :=
  ∀ Γ p, Γ.In A → Clean Γ → wp M Γ t (fun a _ s' => Q a s') (fun e _ s' => E e s') p s
def codeC (M : Model) (A : Around) (c : Code) (R : Result → Shared → Prop) (s : Shared) : Prop :=
  ∀ Γ p, Γ.code = c → Γ.Below A → (∀ x ∈ Γ.below, Held x.1 = false) → wpCode M Γ R p s

section
variable {α β : Type} {M : Model} {A : Around} {E : Value → Shared → Prop} {s : Shared}

theorem cAny {t : Sem α} {Q : α → Shared → Prop} (h : wpAny M A t Q E s) : wpC M A t Q E s := fun Γ p hΓ _ => h Γ p hΓ
theorem codeOfAny {c : Code} {R : Result → Shared → Prop} (h : codeAny M A c R s) : codeC M A c R s := fun Γ p hc hΓ _ => h Γ p hc hΓ
theorem cMono {t : Sem α} {Q Q' : α → Shared → Prop} {E' : Value → Shared → Prop} (h : wpC M A t Q E s)
    (hQ : ∀ a s, Q a s → Q' a s) (hE : ∀ e s, E e s → E' e s) : wpC M A t Q' E' s :=
  fun Γ p hΓ hC => Sem.wp_mono M Γ t (fun a _ s => hQ a s) (fun e _ s => hE e s) p s (h Γ p hΓ hC)
theorem codeCMono {c : Code} {R R' : Result → Shared → Prop} (h : codeC M A c R s) (hR : ∀ r s, R r s → R' r s) : codeC M A c R' s :=
  fun Γ p hc hΓ hC => wpCode_mono hR (h Γ p hc hΓ hC)
theorem cBind {m : Sem α} {f : α → Sem β} {Q : β → Shared → Prop} (h : wpC M A m (fun a s' => wpC M A (f a) Q E s') E s) :
    wpC M A (m >>= f) Q E s := fun Γ p hΓ hC => by
  rw [Sem.wp_bind']
  exact Sem.wp_mono M Γ m (fun a p' s' h' => h' Γ p' hΓ hC) (fun _ _ _ h' => h') p s (h Γ p hΓ hC)
theorem cHolding {vs : List Value} {m : Sem α} {Q : α → Shared → Prop} (h : wpC M A m Q E s) : wpC M A (holding vs m) Q E s :=
  fun Γ p hΓ hC => by rw [Sem.wp_holding]; exact h Γ p hΓ hC
theorem cKeep {vs : List Value} {m : Sem α} {Q : α → Shared → Prop} (h : wpC M A m Q E s) : wpC M A (m.keep vs) Q E s :=
  fun Γ p hΓ hC => by rw [Sem.wp_keep]; exact h Γ p hΓ hC
theorem cOnRaise {m : Sem α} {k : Value → Sem Unit} {Q : α → Shared → Prop}
    (h : wpC M A m Q (fun e s' => wpC M A (k e) (fun _ s'' => E e s'') E s') s) : wpC M A (m.onRaise k) Q E s := fun Γ p hΓ hC => by
  rw [Sem.wp_onRaise]
  exact Sem.wp_mono M Γ m (fun _ _ _ h' => h') (fun e p' s' h' => h' Γ p' hΓ hC) p s (h Γ p hΓ hC)
theorem cPure {a : α} {Q : α → Shared → Prop} (h : Q a s) : wpC M A (pure a) Q E s := fun _ _ _ _ => h
theorem cStand {pos : Pos} {Q : Unit → Shared → Prop} (h : Q () s) : wpC M A (standAt pos) Q E s := fun _ _ _ _ => h
theorem cOfEq {t : Sem α} {a : α} {Q : α → Shared → Prop} (h : t = pure a) (hQ : Q a s) : wpC M A t Q E s := h ▸ cPure hQ

theorem cRun {c : Code} {h : Option Value} {Q : Flow → Shared → Prop}
    (hc : codeC M (A.mark h) c (fun r s' => match r with | .ok f => Q f s' | .error e => E e s') s) (hnb : h ≠ some byPass := by intro x; cases x) :
    wpC M A (run c h) Q E s :=
  fun Γ p hΓ hC => by
    rw [Sem.wp_run]
    exact hc _ p rfl (hΓ.enter c h p hnb) (fun x hx => by
      rcases List.mem_cons.mp hx with rfl | hx
      · exact hC.1
      · exact hC.2 x hx)
theorem cCall {f : Value} {pos : List Value} {kw : List (Str × Value)} {Q : Value → Shared → Prop}
    (hc : codeC M A (.call f ⟨pos, kw⟩) (fun r s' => match r with | .ok (.ret v) => Q v s' | .ok _ => False | .error e => E e s') s) :
    wpC M A (call f pos kw) Q E s := fun Γ p hΓ hC => by
  show wp M Γ (runValue _) _ _ p s
  rw [Sem.wp_runValue]
  exact hc _ p rfl (hΓ.enter _ none p (by intro x; cases x)) (fun x hx => by
      rcases List.mem_cons.mp hx with rfl | hx
      · exact hC.1
      · exact hC.2 x hx)
theorem codeCTree {c : Code} {R : Result → Shared → Prop} (hc' : Held c = false)
    (h : wpC M (A.under c) (M.den c) (fun fin s' => match fin with | .done f => R (.ok f) s' | .again c' => c'.quiet = true ∧ codeC M A c' R s')
      (fun e s' => R (.error e) s') s) : codeC M A c R s := fun Γ p hc hΓ hC => by
  rw [wpCode_iff_wp, hc]
  refine Sem.wp_mono M Γ _ (fun fin p' s' h' => ?_) (fun _ _ _ h' => h') p s (h Γ p (hc ▸ hΓ.in) ⟨hc ▸ hc', hC⟩)
  cases fin with
  | done f => exact h'
  | again c' => exact ⟨h'.1, h'.2 (Γ.goto c') p' rfl (hΓ.goto c') hC⟩
theorem codeCLoop {c : Code} {R : Result → Shared → Prop} (hc' : Held c = false) (hq : c.quiet = true) (I : Nat → Shared → Prop)
    (turn : ∀ n s, I n s → wpC M (A.under c) (M.den c)
      (fun fin s' => match fin with
        | .done f => R (.ok f) s'
        | .again c' => (c' = c ∧ ∃ m, m < n ∧ I m s') ∨ (c'.quiet = true ∧ codeC M A c' R s')) (fun e s' => R (.error e) s') s)
    (n : Nat) (h : I n s) : codeC M A c R s := by
  induction n using Nat.strongRecOn generalizing s with
  | ind n ih =>
    refine codeCTree hc' (cMono (turn n s h) (fun fin s' hf => ?_) fun _ _ h' => h')
    cases fin with
    | done f => exact hf
    | again c' =>
      rcases hf with ⟨rfl, m, hm, hI⟩ | hf
      · exact ⟨hq, ih m hm hI⟩
      · exact hf
end

section
variable {M : Model} {A : Around} {E : Value → Shared → Prop} {s : Shared} {env : Env}

theorem cExecsCons {st rest} {Q : Flow → Shared → Prop}
    (h : wpC M A (exec st env) (fun f s' => match f with | .next => wpC M A (execs rest env) Q E s' | f => Q f s') E s) :
    wpC M A (execs (st :: rest) env) Q E s := by
  rw [execs_cons]
  refine cBind (cMono h (fun f s' h' => ?_) fun _ _ x => x)
  cases f <;> first | exact h' | exact cPure h'
theorem cAssignName {x pos' value pos} {Q : Flow → Shared → Prop}
    (h : wpC M A (eval value env) (fun v s₁ => wpAny M A (storeName env x v) (fun _ => Q .next) E s₁) E s)
    (hs : swapsWith value (some (.Name x pos')) pos.line env = pure false := by rfl) :
    wpC M A (exec (.Assign [.Name x pos'] value pos) env) Q E s := by
  rw [exec_Assign_Name env x pos' value pos hs]
  refine cBind (cStand (cBind (cMono h (fun v s₁ h₁ => cBind (cStand (cBind (cAny ?_)))) fun _ _ x => x)))
  exact wpAny_mono (wpAny_bindName h₁) (fun _ _ h => cPure h) fun _ _ x => x
theorem cIf {test body orelse pos} {Q : Flow → Shared → Prop}
    (h : wpAny M A (isTrue test env (eval test env))
      (fun b s₂ => if b then wpC M A (execs body env) Q E s₂ else wpC M A (execs orelse env) Q E s₂) E s) :
    wpC M A (exec (.If test body orelse pos) env) Q E s := by
  rw [exec_If]
  refine cBind (cStand (cBind (cAny (wpAny_mono h (fun b s₂ h₂ => ?_) fun _ _ x => x))))
  cases b <;> exact h₂
theorem cExpr {e pos} {Q : Flow → Shared → Prop} (h : wpC M A (eval e env) (fun v s' => match v with | .ref _ => False | _ => Q .next s') E s)
    (hi : interactive env = false := by rfl) (hs : swapsWith e none pos.line env = pure false := by rfl) :
    wpC M A (exec (.Expr e pos) env) Q E s := by
  rw [exec_Expr env e pos hi hs]
  refine cBind (cStand (cBind (cMono h (fun v s' h' => ?_) fun _ _ x => x)))
  have hv : ∀ a, v ≠ .ref a := fun a hva => by subst hva; exact h'
  rw [dropValue_plain hv]
  refine cPure ?_
  cases v <;> first | exact h' | exact (hv _ rfl).elim
theorem cRunOwn {c : Code} {Q : Flow → Shared → Prop}
    (hc : codeC M A c (fun r s' => match r with | .ok f => Q f s' | .error e => False) s) :
    wpC M A (runOwn c env none) Q E s := by
  unfold runOwn
  refine cOnRaise (cRun (codeCMono hc fun r s' h => ?_))
  cases r with
  | ok f => exact h
  | error e => exact h.elim
theorem cWhile {test body orelse pos} {Q : Flow → Shared → Prop}
    (h : codeC M A (.whileLoop test body orelse env) (fun r s' => match r with | .ok f => Q f s' | .error e => False) s) :
    wpC M A (exec (.While test body orelse pos) env) Q E s := by
  rw [exec_While]; exact cBind (cStand (cRunOwn h))
theorem cFor {target iter body orelse pos} {Q : Flow → Shared → Prop}
    (h : wpAny M A (eval iter env) (fun x s₁ => wpAny M A (pyIter x) (fun it s₂ =>
      codeC M A (.forLoop target it body orelse env) (fun r s' => match r with | .ok f => Q f s' | .error e => False) s₂) E s₁) E s)
    (hs : ∀ x, foldedSetIterable iter env x = pure x := by intro _; rfl) :
    wpC M A (exec (.For target iter body orelse pos) env) Q E s := by
  rw [exec_For]
  exact cBind (cStand (cBind (cAny (wpAny_mono h (fun x s₁ h₁ => cBind (cOfEq (hs x) (cBind (cStand (cBind (cHolding
    (cAny (wpAny_mono h₁ (fun it s₂ h₂ => cRunOwn h₂) fun _ _ h' => h')))))))) fun _ _ h' => h'))))
theorem cNoted {α : Type} {m : Sem α} {Q : α → Shared → Prop} (h : wpC M A m Q (fun _ _ => False) s) : wpC M A (m.onRaise fun x => do noteFrame x env; theTreesLotGoes x) Q E s :=
  cOnRaise (cMono h (fun _ _ q => q) fun _ _ hx => hx.elim)
end

section
variable {prog : Program} {w : World} {A : Around} {E : Value → Shared → Prop} {R : Result → Shared → Prop} {s : Shared}

theorem codeCWhile {test body orelse env} (I : Nat → Shared → Prop)
    (turn : ∀ n s, I n s →
      wpAny (model prog w) A (isTrue test env (eval test env)) (fun b s₂ =>
        if b then wpC (model prog w) A (execs body env) (fun f s₃ => match f with
            | .next | .cont => ∃ m, m < n ∧ I m s₃
            | .brk => R (.ok .next) s₃
            | .ret v => R (.ok (.ret v)) s₃) (fun _ _ => False) s₂
        else wpC (model prog w) A (execs orelse env) (fun f s₃ => R (.ok f) s₃) (fun _ _ => False) s₂)
        (fun _ _ => False) s)
    (n : Nat) (h : I n s) : codeC (model prog w) A (.whileLoop test body orelse env) R s := by
  refine codeCLoop rfl rfl I (fun n s hI => ?_) n h
  show wpC _ A ((whileTurn test body orelse env).onRaise (fun x => do noteFrame x env; theTreesLotGoes x)) _ _ s
  refine cNoted ?_
  simp only [whileTurn]
  refine cBind (cAny (wpAny_mono (turn n s hI) (fun b s₂ h₂ => ?_) fun _ _ h' => h'))
  cases b with
  | false =>
    simp only [Bool.false_eq_true, if_false] at h₂ ⊢
    exact cBind (cMono h₂ (fun f s₃ h₃ => cPure h₃) fun _ _ h' => h')
  | true =>
    simp only [if_true] at h₂ ⊢
    refine cBind (cMono h₂ (fun f s₃ h₃ => ?_) fun _ _ h' => h')
    cases f with
    | next => exact cPure (.inl ⟨rfl, h₃⟩)
    | cont => exact cPure (.inl ⟨rfl, h₃⟩)
    | brk => exact cPure h₃
    | ret v => exact cPure h₃

theorem codeCFor {target it body env} (I : Nat → Shared → Prop)
    (turn : ∀ n s, I n s → wpAny (model prog w) A (pyNext it) (fun r s₁ => match r with
      | none => R (.ok .next) s₁
      | some v => wpAny (model prog w) A (assign target env v) (fun _ s₂ => wpC (model prog w) A (execs body env) (fun f s₃ => match f with
          | .next | .cont => ∃ m, m < n ∧ I m s₃
          | .brk => R (.ok .next) s₃
          | .ret v => R (.ok (.ret v)) s₃) (fun _ _ => False) s₂) (fun _ _ => False) s₁) (fun _ _ => False) s)
    (n : Nat) (h : I n s) (ht : ∀ v, letOwnedTupleGo target it v = pure () := by intro _; rfl) : codeC (model prog w) A (.forLoop target it body [] env) R s := by
  refine codeCLoop rfl rfl I (fun n s hI => ?_) n h
  show wpC _ _ ((forTurn target it body [] env).onRaise (fun x => do noteFrame x env; theTreesLotGoes x)) _ _ s
  refine cNoted ?_
  simp only [forTurn]
  refine cBind (cStand (cBind (cOnRaise (cAny (wpAny_mono (turn n s hI) (fun r s₁ h₁ => ?_) fun _ _ h' => h'.elim)))))
  cases r with
  | none => exact cPure (.inr ⟨rfl, codeOfAny (codeAny_block (wpAny_execs_nil h₁))⟩)
  | some v =>
    refine cBind (cOfEq (ht v) ?_)
    refine cBind (cAny (wpAny_mono h₁ (fun _ s₂ h₂ => cBind (cMono h₂ (fun f s₃ h₃ => ?_) fun _ _ h' => h')) fun _ _ h' => h'))
    cases f with
    | next => exact cPure (.inl ⟨rfl, h₃⟩)
    | cont => exact cPure (.inl ⟨rfl, h₃⟩)
    | brk => exact cPure h₃
    | ret v => exact cPure h₃

theorem codeCFunc {body env}
    (h : wpC (model prog w) (A.deeper env) (execs body env) (fun f s' => R (.ok (.ret (match f with | .ret v => v | _ => .none))) s') (fun _ _ => False) s) :
    codeC (model prog w) A (.func body env) R s := by
  refine codeCTree rfl ?_
  show wpC _ (A.deeper env) (do point; match ← (execs body env).onRaise (leaving env) with | .ret v => ret v | _ => ret .none) _ _ s
  refine cBind (cAny (wpAny_point (cBind (cOnRaise (cMono h (fun f s' h' => ?_) fun _ _ h' => h'.elim)))))
  cases f <;> exact cPure h'

theorem codeCCallDef {a : Addr} {o : Obj} {fd : FuncData} {body : List Stmt} {args : Args} {binds : List (Str × Value)}
    (hroom : A.depth < recursionLimit) (ho : s.heap.get? a = some o) (hdata : o.data = .func fd) (hlim : s.heap.NoLimit) (hcd : s.heap.CodeRec fd.code fd.qualname)
    (hbody : fd.body = .stmts body) (hbind : BindsTo s fd args binds)
    (hcell : ∀ x ∈ fd.scope.names, x.2 ≠ .cell) (hloc : ∀ x ∈ binds, fd.scope.names.lookup x.1 = some .local)
    (h : ∀ h₀, h₀.Ns s.heap.objs.size (fun x => binds.reverse.lookup x) → (∀ b o, s.heap.get? b = some o → h₀.get? b = some o) →
      wpC (model prog w) (A.deeper (callEnv fd s.heap.objs.size a)) (execs body (callEnv fd s.heap.objs.size a)) (fun f s' => R (.ok (.ret (match f with | .ret v => v | _ => .none))) s')
        (fun _ _ => False) { s with heap := h₀, toks := s.toks + binds.length })
    (hco : fd.scope.isCoroutine = false := by rfl) (hgen : fd.scope.isGenerator = false := by rfl) (hk : fd.scope.kind = .function := by rfl) :
    codeC (model prog w) A (.call (.ref a) args) R s := by
  refine codeCTree rfl ?_
  show wpC _ A.in1 (callAny (.ref a) args) _ _ s
  simp only [callAny]
  refine cBind (cAny (wpAny_load ho ?_))
  obtain ⟨c, oc, vs, tq, hc, hoc, hdc, hq⟩ := hcd
  simp only [hdata, callFunction, hco, hgen, hbody, hc]
  refine cBind (m := field (.ref c) 1) (cAny (wpAny_field hoc hdc hq (cBind (cPure ?_))))
  refine cBind (cAny (hbind _ _ _ _ ?_))
  refine cBind (cAny (wpAny_newFunctionEnv hcell hloc (fun h₀ hns₀ hsb₀ => cBind (cAny (wpAny_enterFrame (hlim.fresh _ hsb₀) hroom (cPure ⟨rfl, ?_⟩)))) hk))
  have e : newEnv fd.scope s.heap.objs.size fd.globals fd.closure (fd.qualname ++ ".<locals>.") (some a) (.ref c) none fd.builtins = callEnv fd s.heap.objs.size a := by
    show _ = newEnv _ _ _ _ _ _ _ _ _
    rw [hc]
  rw [e]
  exact codeCFunc (h h₀ hns₀ fun b o e => hsb₀.extBut b o (Nat.ne_of_lt (Heap.lt_size e)) (Heap.get?_push_of_some _ e))
end
end Mine

end
section -- NbBA
open PySem PySem.W PySem.Calls PyProof.Rows
open PySem.Sem (wp)
set_option Elab.async false
set_option maxRecDepth 100000
set_option linter.unusedVariables false
namespace Mine

theorem ba_slot_init : Slot "bytearray" "__init__" "bytearray.__init__" :=
  .of (owner := "bytearray") (n := "__init__") (by rw [typeLookup_type, builtinLookup_eq_fast]; kernel_rfl) (by decide +kernel) (by decide +kernel) (by decide +kernel)
    (by first | exact .inl (by decide +kernel) | exact .inr (by decide +kernel)) (by rw [isSubtype_type]; kernel_rfl)
theorem ba_slot_append : Slot "bytearray" "append" "bytearray.append" :=
  .of (owner := "bytearray") (n := "append") (by rw [typeLookup_type, builtinLookup_eq_fast]; kernel_rfl) (by decide +kernel) (by decide +kernel) (by decide +kernel)
    (by first | exact .inl (by decide +kernel) | exact .inr (by decide +kernel)) (by rw [isSubtype_type]; kernel_rfl)
theorem ba_type_append : typeOf (.builtin "bytearray.append") = pure (.type "method_descriptor") := by show builtinType _ = _; rw [builtinType_eq_fast]; kernel_rfl
theorem ba_plainAttrs : PlainAttrs "bytearray" :=
  ⟨⟨"bytearray.__getattribute__", by rw [typeLookup_type, builtinLookup_eq_fast]; kernel_rfl, by decide +kernel⟩, by rw [typeLookup_type, builtinLookup_eq_fast]; kernel_rfl⟩
theorem ba_mro : mroOf (.type "bytearray") = pure [.type "bytearray", .type "object"] := by rw [mroOf_type]; kernel_rfl
theorem ba_lookup_new : typeLookup (.type "bytearray") "__new__" = pure (some (.builtin "bytearray.__new__")) := by rw [typeLookup_type, builtinLookup_eq_fast]; kernel_rfl
theorem ba_called : TypeCalled "bytearray" "bytearray.__new__" "bytearray.__init__" :=
  ⟨by decide +kernel, by decide +kernel, ⟨_, _, ba_mro⟩, madeBy_type ba_mro ba_lookup_new (by decide +kernel), by decide +kernel, by rw [isSubtype_type]; kernel_rfl, ba_slot_init⟩
theorem ba_typeCall : checkTypeCall "bytearray" ⟨[], []⟩ = pure () := by kernel_rfl
theorem ba_newCall : checkBuiltinCall "bytearray.__new__" ⟨[.type "bytearray"], []⟩ = pure () := by kernel_rfl
theorem ba_entry_new : entryFor table "bytearray.__new__" = some Builtin.«list.__new__» := entryFor_alias (id' := "list.__new__") (by kernel_rfl) rfl (by decide +kernel) (by kernel_rfl)
theorem ba_plain_new : plainId "bytearray.__new__" = true := by decide +kernel
theorem ba_entry_init : entryFor table "bytearray.__init__" = some Builtin.«bytearray.__init__» := entryFor_of_tree (by kernel_rfl)
theorem ba_entry_append : entryFor table "bytearray.append" = some Builtin.«bytearray.append» := entryFor_of_tree (by kernel_rfl)
theorem ba_args_append (a b : Value) : argsOk "bytearray.append" ⟨[a, b], []⟩ := by unfold argsOk; kernel_rfl
theorem ba_args_init (a : Value) : argsOk "bytearray.__init__" ⟨[a], []⟩ := by unfold argsOk; kernel_rfl
theorem ba_release : typeLookup (.type "bytearray") "__release_buffer__" = pure (some (.builtin "bytearray.__release_buffer__")) := by rw [typeLookup_type, builtinLookup_eq_fast]; kernel_rfl
theorem ba_buffer : typeLookup (.type "bytearray") "__buffer__" = pure (some (.builtin "bytearray.__buffer__")) := by rw [typeLookup_type, builtinLookup_eq_fast]; kernel_rfl
theorem ba_no_bytes : typeLookup (.type "bytearray") "__bytes__" = pure none := by rw [typeLookup_type, builtinLookup_eq_fast]; kernel_rfl
theorem ba_no_index : typeLookup (.type "bytearray") "__index__" = pure none := by rw [typeLookup_type, builtinLookup_eq_fast]; kernel_rfl
theorem ba_sub : isSubtype (.type "bytearray") (.type "bytearray") = pure true := by rw [isSubtype_type]; kernel_rfl
set_option maxRecDepth 1000000 in
set_option maxHeartbeats 4000000 in
theorem ba_owner : ("bytearray.__new__".splitOn ".__new__").headD "" = "bytearray" := by simp +decide [String.splitOn, String.splitOnAux]
end Mine

end
section -- NbBA2
open PySem PySem.W PySem.Calls PyProof.Rows
open PySem.Sem (wp)
set_option Elab.async false
set_option maxRecDepth 100000
set_option linter.unusedVariables false
namespace Mine
abbrev baObj (b : Array UInt8) : Obj := { cls := .type "bytearray", data := .bytearray b }

section
variable {M : Model} {A : Around} {E : Value → Shared → Prop} {s : Shared}
theorem cExported {self : Value} {Q : Bool → Shared → Prop} (h : Q false s) : wpC M A (Builtin.Bytes.exported self) Q E s := by
  intro Γ p hΓ hC
  unfold Builtin.Bytes.exported
  show Q (((Γ.code, p) :: Γ.below).any _) s
  rw [List.any_eq_false.mpr]
  · exact h
  · intro x hx
    have hh : Held x.1 = false := by
      rcases List.mem_cons.mp hx with rfl | hx
      · exact hC.1
      · exact hC.2 x hx
    obtain ⟨c, q⟩ := x
    cases c with
    | builtin id args =>
      have hid : heldIds.contains id = false := hh
      rw [Bool.not_eq_true]
      have h1 : id ≠ "bytearray.__contains__" := by rintro rfl; revert hid; decide +kernel
      have h2 : id ≠ "bytearray.__mod__" := by rintro rfl; revert hid; decide +kernel
      have h3 : id ≠ "bytearray.__rmod__" := by rintro rfl; revert hid; decide +kernel
      have h4 : id ≠ "_struct.pack_into.held" := by rintro rfl; revert hid; decide +kernel
      have h5 : id ≠ "bytearray.find.held" := by rintro rfl; revert hid; decide +kernel
      have h6 : Builtin.Bytes.decodersThatHold.contains id = false := by
        have : heldIds.contains id = (Builtin.Bytes.decodersThatHold.contains id || ["bytearray.__contains__", "bytearray.__mod__", "bytearray.__rmod__", "_struct.pack_into.held", "bytearray.find.held"].contains id) := by
          unfold heldIds; exact List.contains_append
        rw [this] at hid
        exact (Bool.or_eq_false_iff.mp hid).1
      delta PySem.Builtin.Bytes.exported.match_1
      refine (dif_neg h1).trans ((dif_neg h2).trans ((dif_neg h3).trans ((dif_neg h4).trans ((dif_neg h5).trans ?_))))
      obtain ⟨ps, kw⟩ := args
      cases ps with
      | nil => rfl
      | cons v r => exact (congrArg (_ && ·) h6).trans (Bool.and_false _)
    | _ => exact Bool.false_ne_true
theorem cCheckResize {a : Addr} {b : Array UInt8} {Q : Unit → Shared → Prop} (ha : s.heap.get? a = some (baObj b)) (h : Q () s) : wpC M A (Builtin.Bytes.checkResize (.ref a)) Q E s := by
  unfold Builtin.Bytes.checkResize
  refine cBind (cBind (cExported ?_))
  refine cBind (cAny ?_)
  unfold Builtin.Bytes.exportsOf
  refine wpAny_bind (wpAny_load ha ?_)
  refine wpAny_pure ?_
  exact cPure (cPure h)
end

section
variable {prog : Program} {w : World} {A : Around} {E : Value → Shared → Prop} {s : Shared}

theorem cWrite {M : Model} {a : Addr} {b c : Array UInt8} {f : Array UInt8 → Array UInt8} {Q : Unit → Shared → Prop} (ha : s.heap.get? a = some (baObj b)) (hf : f b = c) (hz : c.size ≤ sizeLine)
    (h : Q () { s with heap := s.heap.update a (Obj.mapBytearray f) }) : wpAny M A (Builtin.Bytes.write (.ref a) f) Q E s := by
  show wpAny _ _ (updateBytearray a f) _ _ _
  unfold updateBytearray
  refine wpAny_bind (wpAny_load ha ?_)
  show wpAny _ _ (update a (Obj.mapBytearray f) >>= fun _ => lookBehind a) _ _ _
  refine wpAny_bind (wpAny_update ha ?_)
  have h2 : (s.heap.update a (Obj.mapBytearray f)).get? a = some (baObj c) := by
    subst hf
    exact Heap.get?_update_self (Obj.mapBytearray f) ha rfl
  refine wpAny_lookBehind h2 ?_ h
  show (if c.size > sizeLine then some "bytearray:memory" else none) = none
  rw [if_neg (Nat.not_lt.mpr hz)]

theorem cIfFalse {α : Type} {M : Model} {c : Bool} {a b : Sem α} {Q : α → Shared → Prop} (hc : c = false) (h : wpC M A b Q E s) : wpC M A (if c = true then a else b) Q E s := by
  subst hc
  exact h
theorem cIfTrue {α : Type} {M : Model} {c : Bool} {a b : Sem α} {Q : α → Shared → Prop} (hc : c = true) (h : wpC M A a Q E s) : wpC M A (if c = true then a else b) Q E s := by
  subst hc
  exact h
theorem codeCBuiltin {R : Result → Shared → Prop} {id : String} {args : Args} {b : Builtin} (hh : heldIds.contains id = false) (hb : entryFor table id = some b)
    (h : wpC (model prog w) (A.under (.builtin id args)) (b args)
      (fun fin s' => match fin with | .done f => R (.ok f) s' | .again c' => c'.quiet = true ∧ codeC (model prog w) A c' R s') (fun e s' => R (.error e) s') s) :
    codeC (model prog w) A (.builtin id args) R s := by
  refine codeCTree hh ?_
  show wpC _ _ (match entryFor table id with | some b => b args | none => unsupported ((withoutEnding? id "#data").getD id)) _ _ s
  rw [hb]; exact h
theorem codeCCallBuiltin {R : Result → Shared → Prop} {id : String} {args : Args} {b : Builtin} (hh : heldIds.contains id = false) (hq : plainId id = true) (hb : entryFor table id = some b)
    (h : wpAny (model prog w) A.in1 (checkBuiltinCall id args) (fun _ s₁ => wpC (model prog w) A.in1 (b args)
      (fun fin s' => match fin with | .done f => R (.ok f) s' | .again c' => c'.quiet = true ∧ codeC (model prog w) A c' R s') (fun e s' => R (.error e) s') s₁)
      (fun e s' => R (.error e) s') s) : codeC (model prog w) A (.call (.builtin id) args) R s := by
  refine codeCTree rfl ?_
  show wpC _ A.in1 (do checkBuiltinCall id args; again (.builtin id args)) _ _ s
  refine cBind (cAny (wpAny_mono h (fun _ s₁ h₁ => cPure (And.intro (plainId_quiet hq args) (codeCBuiltin hh hb ?_))) fun _ _ x => x))
  rw [Around.under_plainId hq args]; exact h₁

/-- result.append(k) -/
theorem cAppend {a : Addr} {b : Array UInt8} {k : Int} {t : Tok} {Q : Value → Shared → Prop} (ha : s.heap.get? a = some (baObj b)) (h0 : 0 ≤ k) (h1 : k < 256) (hz : b.size < 1000)
    (h : Q .none { s with heap := s.heap.update a (Obj.mapBytearray (·.push k.toNat.toUInt8)) }) :
    wpC (model prog w) A (call (.builtin "bytearray.append") [.ref a, .int k t]) Q E s := by
  have hT : s.TypeIs (.ref a) "bytearray" := ⟨_, ha, rfl⟩
  refine cCall (codeCCallBuiltin (by decide +kernel) ba_slot_append.plain ba_entry_append (ba_slot_append.check _ _ _ _ _ _ _ _ hT (ba_args_append _ _) ?_))
  unfold Builtin.«bytearray.append»
  refine cBind (cOfEq (a := (.ref a, .int k t)) rfl ?_)
  refine cBind (cAny ?_)
  unfold Builtin.Bytes.byteValue
  refine wpAny_bind (wpAny_of_eq (rfl : asIndex (.int k t) = pure k) ?_)
  refine bm_if_false (by simp only [Bool.or_eq_false_iff, decide_eq_false_iff_not]; omega) ?_
  refine wpAny_pure ?_
  refine cBind (cCheckResize ha ?_)
  refine cBind (cAny (cWrite ha (c := b.push k.toNat.toUInt8) rfl (by rw [Array.size_push]; show _ ≤ 2 ^ 24; omega) ?_))
  exact cPure h

theorem cNewBA {Q₁ : Value → Shared → Prop}
    (h : Q₁ (.ref s.heap.objs.size) { s with heap := s.heap.push (baObj #[]) }) :
    codeAny (model prog w) A (.call (.builtin "bytearray.__new__") ⟨[.type "bytearray"], []⟩) (wants Q₁ E) s := by
  refine codeAny_of_tree ?_
  show wpAny _ A.in1 (do checkBuiltinCall "bytearray.__new__" ⟨[.type "bytearray"], []⟩; again (.builtin "bytearray.__new__" ⟨[.type "bytearray"], []⟩)) _ _ s
  refine wpAny_bind (wpAny_of_eq ba_newCall (wpAny_pure ⟨plainId_quiet ba_plain_new _, codeAny_builtin_stack ba_entry_new rfl fun p st => ?_⟩))
  rw [Around.under_plainId ba_plain_new _]
  have hsub := ba_sub
  have hown := ba_owner
  obtain ⟨hp, g, d, tk, os⟩ := s
  simp only [hown]
  wp_walk
  exact h

theorem cInitBA {a : Addr} {Q : Value → Shared → Prop} (ha : s.heap.get? a = some (baObj #[]))
    (h : Q .none { s with heap := s.heap.update a (Obj.mapBytearray fun _ => #[]) }) :
    wpC (model prog w) A (Builtin.«bytearray.__init__» ⟨[.ref a], []⟩) (fun fin s' => ∃ v, fin = .done (.ret v) ∧ Q v s') E s := by
  have hT : s.TypeIs (.ref a) "bytearray" := ⟨_, ha, rfl⟩
  unfold Builtin.«bytearray.__init__»
  refine cBind (cAny ?_)
  unfold Builtin.Bytes.ownRelease Builtin.Bytes.slotIsOwn
  refine wpAny_bind (wpAny_bind (wpAny_specialOf hT ba_release ?_))
  refine bm_if_false (by decide +kernel) ?_
  refine wpAny_isInstance (T := "bytearray") (b := true) hT (by rw [isSubtype_type]; kernel_rfl) ?_
  refine wpAny_pure ?_
  dsimp only [Bool.not_true, Bool.false_eq_true, if_false]
  refine cBind (cOfEq (a := [none, none, none]) (by rfl) ?_)
  refine cBind (cOfEq (a := ()) rfl ?_)
  refine cBind (cOfEq (a := ()) rfl ?_)
  refine cBind (cBind (cExported ?_))
  refine cBind (cAny ?_)
  unfold Builtin.Bytes.exportsOf
  refine wpAny_bind (wpAny_load ha ?_)
  refine wpAny_pure ?_
  refine cPure ?_
  refine cIfFalse (by decide) ?_
  refine cBind (cAny (cWrite ha (c := #[]) rfl (Nat.zero_le _) ?_))
  exact cPure ⟨_, rfl, h⟩

theorem cSpecial {M : Model} {self : Value} {T : String} {name : Str} {id : String} {args : List Value} {kw : List (Str × Value)}
    {Q : Option Value → Shared → Prop} (hT : s.TypeIs self T) (h : Slot T name id)
    (hc : wpC M A (call (.builtin id) (self :: args) kw) (fun v => Q (some v)) E s) : wpC M A (callSpecial? self name args kw) Q E s := by
  simp only [callSpecial?]
  refine cBind (cAny (wpAny_specialOf hT h.lookup ?_))
  simp only [h.bind]
  exact cHolding (cBind (cPure (cBind (cMono hc (fun v s' h' => cPure h') fun _ _ h' => h'))))

/-- bytearray() -/
theorem cCallBA {Q : Value → Shared → Prop} (h : ∀ s', s'.heap.get? s.heap.objs.size = some (baObj #[]) → (∀ b o, s.heap.get? b = some o → s'.heap.get? b = some o) → s'.gens = s.gens → s'.drawn = s.drawn → s'.os = s.os → Q (.ref s.heap.objs.size) s') :
    wpC (model prog w) A (call (.type "bytearray") []) Q E s := by
  have ft := ba_called
  obtain ⟨c, tl, hmro⟩ := ft.mro
  have hmade := ft.made
  have hsub := ft.sub
  refine cCall (codeCTree rfl ?_)
  show wpC _ _ (callAny (.type "bytearray") _) _ _ _
  refine cPure ⟨Code.quiet_builtin _ (by decide +kernel), codeCBuiltin (by decide +kernel) F.entry_type_call ?_⟩
  rw [Around.under_plain (weight_type_call_type "bytearray" [] []) rfl]
  have h1 := ft.notType
  have h2 := ft.canCreate
  have hct := ba_typeCall
  unfold Builtin.«type.__call__»
  dsimp only
  refine cIfFalse h1 ?_
  refine cIfFalse h2 ?_
  refine cBind (cOfEq hct ?_)
  refine cBind (cOfEq hmro ?_)
  refine cIfFalse rfl ?_
  refine cBind (cOfEq hmade ?_)
  refine cBind (cPure ?_)
  refine cBind (cHolding (cCall (codeOfAny (codeAny_mono (cNewBA (Q₁ := fun v s' => v = .ref s.heap.objs.size ∧ s' = { s with heap := s.heap.push (baObj #[]) }) (E := fun _ _ => False) ⟨rfl, rfl⟩) fun r s' hr => ?_))))
  rcases r with e | fl
  · exact hr.elim
  cases fl with
  | ret v =>
    obtain ⟨rfl, rfl⟩ := hr
    have hS : (s.heap.push (baObj #[])).get? s.heap.objs.size = some (baObj #[]) := Heap.get?_push_size _ rfl
    refine cBind (cAny (wpAny_isInstance (T := "bytearray") (b := true) ⟨_, hS, rfl⟩ hsub ?_))
    refine cIfFalse rfl ?_
    refine cBind (cHolding ?_)
    refine cSpecial (T := "bytearray") ⟨_, hS, rfl⟩ ba_slot_init ?_
    refine cCall (codeCCallBuiltin (by decide +kernel) ba_slot_init.plain ba_entry_init (ba_slot_init.check _ _ _ _ _ _ _ _ ⟨_, hS, rfl⟩ (ba_args_init _) ?_))
    refine cMono (cInitBA (Q := fun v s' => v = .none ∧ s' = _) hS ⟨rfl, rfl⟩) ?_ (fun _ _ x => x)
    rintro fin s' ⟨v, rfl, rfl, rfl⟩
    refine cIfFalse (by decide) ?_
    refine cPure (h _ ?_ (fun b o e => ?_) rfl rfl rfl)
    · exact Heap.get?_update_self _ hS rfl
    · exact (Heap.get?_update_ne _ _ _ _ (Nat.ne_of_lt (Heap.lt_size e))).trans (Heap.get?_push_of_some _ e)
  | _ => exact hr.elim
end
end Mine

end
section -- NbBA3
open PySem PySem.W PySem.Calls PyProof.Rows
open PySem.Sem (wp)
set_option Elab.async false
set_option maxRecDepth 100000
set_option linter.unusedVariables false
namespace Mine
section
variable {prog : Program} {w : World} {A : Around} {E : Value → Shared → Prop} {s : Shared}
theorem bytesNewBA {a : Addr} {b : Array UInt8} {Q : Value → Shared → Prop} (ha : s.heap.get? a = some (baObj b)) (hz : b.size ≤ sizeLine)
    (hQ : ∀ t k, Q (.bytes b t) { s with toks := k }) :
    codeAny (model prog w) A (.call (.builtin "bytes.__new__") ⟨[.type "bytes", .ref a], []⟩) (wants Q E) s := by
  refine codeAny_call_builtin F.bm_plain F.bm_entry ?_
  refine wpAny_of_eq (F.bm_newCall _) ?_
  have hT : s.TypeIs (.ref a) "bytearray" := ⟨_, ha, rfl⟩
  unfold Builtin.«bytes.__new__»
  refine wpAny_bind (wpAny_of_eq (a := true) rfl ?_)
  refine bm_if_false rfl ?_
  refine wpAny_bind (wpAny_of_eq F.bm_sub ?_)
  refine bm_if_false rfl ?_
  refine wpAny_bind (wpAny_of_eq (F.bm_bind _) ?_)
  refine wpAny_bind (wpAny_of_eq (a := ()) rfl ?_)
  refine wpAny_bind (wpAny_of_eq (a := ()) rfl ?_)
  refine bm_if_false rfl ?_
  refine wpAny_bind (wpAny_specialOf hT ba_no_bytes ?_)
  refine wpAny_bind (wpAny_bind ?_)
  show wpAny _ _ (load a >>= _) _ _ _
  refine wpAny_bind (wpAny_load ha ?_)
  refine wpAny_pure (wpAny_pure ?_)
  refine bm_if_false rfl ?_
  refine wpAny_bind (wpAny_specialOf hT ba_no_index ?_)
  refine bm_if_true rfl ?_
  first
    | show wpAny _ _ (Builtin.Bytes.buffer? "bytes.__new__" (.ref a) true >>= _) _ _ _
    | (refine wpAny_bind ?_; show wpAny _ _ (Builtin.Bytes.buffer? "bytes.__new__" (.ref a) true >>= _) _ _ _)
  refine wpAny_bind ?_
  unfold Builtin.Bytes.buffer?
  refine wpAny_bind (wpAny_specialOf hT ba_buffer ?_)
  refine wpAny_bind ?_
  unfold Builtin.Bytes.slotIsOwn
  refine wpAny_bind (wpAny_specialOf hT ba_buffer ?_)
  refine bm_if_false (by decide +kernel) ?_
  refine wpAny_isInstance (T := "bytearray") (b := true) hT (by rw [isSubtype_type]; kernel_rfl) ?_
  refine bm_if_false rfl ?_
  refine wpAny_bind (wpAny_specialOf hT ba_buffer ?_)
  refine wpAny_bind ?_
  unfold Builtin.Bytes.ownRelease Builtin.Bytes.slotIsOwn
  refine wpAny_bind (wpAny_bind (wpAny_specialOf hT ba_release ?_))
  refine bm_if_false (by decide +kernel) ?_
  refine wpAny_isInstance (T := "bytearray") (b := true) hT (by rw [isSubtype_type]; kernel_rfl) ?_
  refine wpAny_pure ?_
  refine bm_if_false rfl ?_
  refine wpAny_bind ?_
  unfold Builtin.Bytes.payload Builtin.Bytes.payload?
  refine wpAny_bind (wpAny_bind (wpAny_load ha ?_))
  refine wpAny_pure (wpAny_pure (wpAny_pure ?_))
  refine wpAny_bind (wpAny_rule ?_)
  refine wpAny_bind (wpAny_mkBytes ?_ hz)
  show wpAny _ _ (if (Value.type "bytes" == Value.type "bytes") = true then _ else _) _ _ _
  refine bm_if_true (by decide) ?_
  first
    | exact wpAny_pure (hQ _ _)
    | exact wpAny_bind (wpAny_pure (wpAny_pure (hQ _ _)))
/-- bytes(result) -/
theorem callBytesBA {a : Addr} {b : Array UInt8} {Q : Value → Shared → Prop} (ha : s.heap.get? a = some (baObj b)) (hz : b.size ≤ sizeLine)
    (hQ : ∀ t k, Q (.bytes b t) { s with toks := k }) : wpAny (model prog w) A (call (.type "bytes") [.ref a]) Q E s := by
  refine callType_codes (Q₁ := fun obj s₁ => s₁.TypeIs obj "bytes" ∧ Q obj s₁) F.bm_called (F.bm_typeCall _) F.entry_object_init
    (bytesNewBA ha hz fun t k => ⟨PySem.W.typeIs_bytes _ _ _, hQ t k⟩) fun obj s₁ h₁ => ?_
  exact ⟨h₁.1, F.args_object_init_2 obj _, object_init_meets F.bm_called.init.lookup F.bm_called.made (by decide) prog w A.in1 _ s₁ ⟨h₁.1, rfl, h₁.2⟩⟩
end

section
variable {M : Model} {A : Around} {E : Value → Shared → Prop} {s : Shared} {env : Env}
theorem cCallName {x : Str} {p pos : Pos} {args : List Expr} {Q : Value → Shared → Prop}
    (h : wpAny M A (eval (.Name x p) env) (fun f s₁ => wpC M A (callWith pos f [] (backTo pos (starEach args env)) []) Q E s₁) E s) :
    wpC M A (eval (.Call (.Name x p) args [] pos) env) Q E s := cBind (cAny h)
theorem cSplCons {x : Sem Value} {rest : List (Bool × Sem Value)} {Q : List Value → Shared → Prop}
    (h : wpC M A x (fun v s₁ => wpC M A (spliced rest) (fun vs s₂ => Q (v :: vs) s₂) E s₁) E s) : wpC M A (spliced ((false, x) :: rest)) Q E s := by
  rw [spliced]
  refine cBind (cMono h (fun v s₁ h₁ => ?_) fun _ _ x => x)
  simp only [Bool.false_eq_true, if_false]
  exact cBind (cPure (cBind (cHolding (cMono h₁ (fun vs s₂ h₂ => cPure h₂) fun _ _ x => x))))
theorem cArgsCons {e : Expr} {rest : List Expr} {pos : Pos} {Q : List Value → Shared → Prop}
    (h : wpC M A (eval e env) (fun v s₁ => wpC M A (spliced (backTo pos (starEach rest env))) (fun vs s₂ => Q (v :: vs) s₂) E s₁) E s)
    (he : starEach (e :: rest) env = (false, eval e env) :: starEach rest env := by rfl) : wpC M A (spliced (backTo pos (starEach (e :: rest) env))) Q E s := by
  rw [he]; exact cSplCons h
theorem cEvalArgs {f : Value} {x : Sem Value} {rest : List (Bool × Sem Value)} {Q : Args → Shared → Prop}
    (h : wpC M A (spliced ((false, x) :: rest)) (fun vs s' => Q ⟨vs, []⟩ s') E s) : wpC M A (evalArgs f true ((false, x) :: rest) []) Q E s := by
  unfold evalArgs
  show wpC M A (spliced ((false, x) :: rest) >>= _) Q E s
  refine cBind (cMono h (fun vs s' h' => ?_) fun _ _ x => x)
  refine cHolding ?_
  exact cBind (cPure (cBind (cPure (cPure h'))))
theorem cPoint {Q : Unit → Shared → Prop} (h : Q () s) : wpC M A point Q E s := cAny (wpAny_point h)
theorem cCallWithFn {pos : Pos} {a : Addr} {o : Obj} {fd : FuncData} {first : List Value} {args : List (Bool × Sem Value)} {Q : Value → Shared → Prop}
    (h : wpC M A (evalArgs (.ref a) true args []) (fun x s₁ => (s₁.heap.get? a = some o ∧ o.data = .func fd) ∧ wpC M A (call (.ref a) (first ++ x.pos) x.kw) Q E s₁) E s) :
    wpC M A (callWith pos (.ref a) first args []) Q E s := by
  unfold callWith
  refine cBind (cHolding (cMono h (fun x s₁ h₁ => cBind (cStand ?_)) fun _ _ x => x))
  have tail : ∀ {t : Sem Value}, wpC M A t Q E s₁ → wpC M A (t >>= fun r => holding [r] point >>= fun _ => pure r) Q E s₁ :=
    fun ht => cBind (cMono ht (fun r s₂ hr => cBind (cHolding (cPoint (cPure hr)))) fun _ _ x => x)
  cases hs : args.any (·.1) <;> simp only [List.any_nil, Bool.or_false] <;>
    refine cBind (m := keeperOf (.ref a)) (cAny ?_) <;> unfold keeperOf <;>
    refine wpAny_bind (wpAny_load h₁.1.1 ?_) <;> rw [h₁.1.2] <;> refine wpAny_pure ?_
  · dsimp only
    split
    · exact tail h₁.2
    · exact tail (cKeep h₁.2)
  · exact tail (cKeep h₁.2)
theorem cCallWithDef {pos : Pos} {f : Addr} {o : Obj} {fd : FuncData} {e : Expr} {rest : List Expr} {Q : Value → Shared → Prop} (hdat : o.data = .func fd)
    (h : wpC M A (spliced (backTo pos (starEach (e :: rest) env))) (fun vs s₁ => s₁.heap.get? f = some o ∧ wpC M A (call (.ref f) vs) Q E s₁) E s)
    (he : starEach (e :: rest) env = (false, eval e env) :: starEach rest env := by rfl) :
    wpC M A (callWith pos (.ref f) [] (backTo pos (starEach (e :: rest) env)) []) Q E s := by
  rw [he] at h ⊢
  exact cCallWithFn (o := o) (fd := fd) (cEvalArgs (cMono h (fun vs s₁ h₁ => ⟨⟨h₁.1, hdat⟩, h₁.2⟩) fun _ _ x => x))
theorem cCallWithBlt {pos : Pos} {id : String} {first : List Value} {args : List (Bool × Sem Value)} {Q : Value → Shared → Prop} (hplain : args.any (·.1) = false)
    (h : wpC M A (evalArgs (.builtin id) true args []) (fun a s₁ => wpC M A (call (.builtin id) (first ++ a.pos) a.kw) Q E s₁) E s) :
    wpC M A (callWith pos (.builtin id) first args []) Q E s := by
  unfold callWith
  refine cBind (cHolding (cMono h (fun a s₁ h₁ => cBind (cStand ?_)) fun _ _ x => x))
  simp only [hplain, List.any_nil, Bool.or_false]
  refine cBind (cPure ?_)
  exact cBind (cMono h₁ (fun r s₂ hr => cBind (cHolding (cPoint (cPure hr)))) fun _ _ x => x)
theorem cMethod {o : Expr} {name : Str} {apos pos : Pos} {args : List Expr} {pl : Sem Bool} {Q : Value → Shared → Prop}
    (h : wpAny M A (eval o env) (fun ov s₁ => wpAny M A (getMethod ov name pl) (fun fx s₂ => wpC M A (callWith pos fx.1 fx.2 (backTo pos (starEach args env)) []) Q E s₂) E s₁) E s)
    (he : eval (.Call (.Attribute o name apos) args [] pos) env = (do
      let ov ← eval o env
      standAt apos.atName
      let (f, first) ← holding [ov] (getMethod ov name pl)
      callWith pos f first (backTo pos (starEach args env)) []) := by rfl) :
    wpC M A (eval (.Call (.Attribute o name apos) args [] pos) env) Q E s := by
  rw [he]
  refine cBind (cAny (wpAny_mono h (fun ov s₁ h₁ => cBind (cStand (cBind (cHolding (cAny (wpAny_mono h₁ (fun fx s₂ h₂ => ?_) fun _ _ x => x)))))) fun _ _ x => x))
  exact h₂
theorem cMethod1 {pos : Pos} {id : String} {first : List Value} {e : Expr} {rest : List Expr} {Q : Value → Shared → Prop}
    (h : wpAny M A (spliced (backTo pos (starEach (e :: rest) env))) (fun vs s₁ => wpC M A (call (.builtin id) (first ++ vs)) Q E s₁) E s)
    (he : starEach (e :: rest) env = (false, eval e env) :: starEach rest env := by rfl)
    (hplain : (backTo pos (starEach rest env)).any (·.1) = false := by rfl) :
    wpC M A (callWith pos (.builtin id) first (backTo pos (starEach (e :: rest) env)) []) Q E s := by
  rw [he] at h ⊢
  exact cCallWithBlt (by show (false || (backTo pos (starEach rest env)).any (·.1)) = false; rw [hplain]; rfl) (cEvalArgs (cAny h))
theorem cCallWithType0 {pos : Pos} {T : String} {Q : Value → Shared → Prop} (h : wpC M A (call (.type T) []) Q E s) :
    wpC M A (callWith pos (.type T) [] (backTo pos (starEach [] env)) []) Q E s := by
  show wpC M A (callWith pos (.type T) [] [] []) Q E s
  unfold callWith
  refine cBind (cHolding (cMono (Q := fun a s₁ => a = ⟨[], []⟩ ∧ s₁ = s) (E := E) (cAny ?_) (fun a s₁ h₁ => cBind (cStand ?_)) fun _ _ x => x))
  · exact evalArgs_nil3 (Q := fun a s₁ => a = ⟨[], []⟩ ∧ s₁ = s) ⟨rfl, rfl⟩
  · obtain ⟨rfl, rfl⟩ := h₁
    simp only [List.any_nil, Bool.or_false]
    refine cBind (cPure ?_)
    exact cBind (cMono h (fun r s₂ hr => cBind (cHolding (cPoint (cPure hr)))) fun _ _ x => x)
end
end Mine

end
section -- NbBr
open PySem PySem.W PySem.Calls PyProof.Rows
open PySem.Sem (wp)
set_option Elab.async false
set_option maxRecDepth 100000
set_option linter.unusedVariables false
namespace Mine

abbrev WalkC (q : Program) (loose : List Str) (XP : (Str → Option Value) → Heap → Prop) (YP : World → Heap → Prop) (r : RowW) (d : DefRec) (kwd : List (Str × PySem.Expr)) : Prop :=
  ∀ (w : World) (s₀ s₁ : Shared) (mg mb : Str → Option Value), Ground q loose r.records XP w s₀ mg mb s₁.heap → YP w s₁.heap → ∀ (a : Addr) (o : Obj) (pm cd doc dV kV : Value), s₁.heap.get? a = some o →
    o.data = .func { docDef d.name d.params d.body d.scope pm cd doc with defaults := dV, kwdefaults := kV } → s₁.heap.CodeRec cd d.name → Dflts mg s₁.heap d.params kwd dV kV → mg d.name = some (.ref a) → s₁.gens = #[] →
    ∀ (args : List WData) (vals : List Value) (as : List Addr), r.claim.pre args = true → WData.layableAll args = true → ReadsAllW r.records (classAt s₀.heap) s₁.heap vals args as → WellAll w.params s₁.heap vals args → (∀ a ∈ as, (a == sysModules) = false) →
      wpC (model r.prog w) callerA (PySem.call (.ref a) vals) (fun v s' => GoodWG r.claim (classAt s₀.heap) (ExcName.means s₀.heap) args s₁ (.ok (.ret v)) s')
        (fun e s' => GoodWG r.claim (classAt s₀.heap) (ExcName.means s₀.heap) args s₁ (.error e) s') s₁

/-- the caller's own place on the stack is clean -/
theorem caller_clean : Clean (⟨.builtin "claim.caller" {}, none, none, [], none⟩ : Ctx) :=
  ⟨by show heldIds.contains "claim.caller" = false; decide +kernel, fun x hx => nomatch hx⟩

theorem endsC {prog : Program} {w : World} {t : Sem PySem.Fin} {s : Shared} {R : Result → Shared → Prop} (hreg : s.asleep)
    (h : wpC (model prog w) callerA t (fun fin s' => ∃ f, fin = .done f ∧ (R (.ok f) s' ∧ leftWithCleanup s'.gens = false)) (fun e s' => R (.error e) s' ∧ leftWithCleanup s'.gens = false) s) :
    ∃ n r s' s'', runN (denote table) prog w n s ⟨t, .builtin "claim.caller" {}, default, []⟩ = .halted (outcomeOf r) s' ∧
      schedN (denote table) prog w n (.single s ⟨t, .builtin "claim.caller" {}, default, []⟩) = .halted (outcomeOf r) s' ∧ s'.forget = s''.forget ∧ R r s'' := by
  have hw : wp (model prog w) ⟨.builtin "claim.caller" {}, none, none, [], none⟩ t (Sem.finPost (model prog w) ⟨.builtin "claim.caller" {}, none, none, [], none⟩ fun r s' => R r s' ∧ leftWithCleanup s'.gens = false)
      (fun e _ s' => R (.error e) s' ∧ leftWithCleanup s'.gens = false) default s := by
    refine Sem.wp_mono _ _ t (fun fin p' s' h' => ?_) (fun _ _ _ h' => h') default s (h _ default caller_in caller_clean)
    obtain ⟨f, rfl, hf⟩ := h'
    exact hf
  obtain ⟨n, r, s₁, s₂, hs, hn, hfo, hR⟩ := wp_halts_full (M := model prog w) (R := R) hreg hw
  exact ⟨n, r, s₂, s₁, hn, hs, hfo, hR⟩

theorem callFromC {c : ClaimW} {tree : List Value → Sem PySem.Fin} {w : World} {s : Shared} {free : Addr → Prop} {gens : Prop} {kept : Heap → Prop} (hz : s.asleep) (hgens : s.gens = #[])
    (hspec : ∀ args, c.pre args = true → WData.layableAll args = true →
      ∀ ord : List DictEntry → List DictEntry, (∀ l, (ord l).Perm l) →
      ∃ vs s₁, layAllW c.records (classAt s.heap) w.params ord args s = some (vs, s₁) ∧
        wpC (model c.prog w) callerA (tree vs) (fun fin s' => ∃ f, fin = .done f ∧ (c.Ends s args vs s₁ (.ok f) s' ∧ s'.os = s.os ∧ AllBare s'.gens ∧ kept s'.heap))
          (fun e s' => c.Ends s args vs s₁ (.error e) s' ∧ s'.os = s.os ∧ AllBare s'.gens ∧ kept s'.heap) s₁) :
    c.CallFrom (fun vs => ⟨tree vs, .builtin "claim.caller" {}, default, []⟩) w free gens kept s := by
  intro args hpre hlay ord hord
  refine hideG ?_
  intro zg
  obtain ⟨vs, s₁, hlaid, hcode⟩ := hspec args hpre hlay ord hord
  have hal := layAllW_rest _ _ _ hlaid
  obtain ⟨k, r, s', s'', hrun, hsched, hfo, hcase, hos, hkp⟩ := endsC (prog := c.prog) (w := w) (t := tree vs) (s := s₁)
    (R := fun r s' => c.Ends s args vs s₁ r s' ∧ s'.os = s.os ∧ kept s'.heap)
    (Shared.asleep_of_life hal.2.2.2 hz)
    (cMono hcode (by
      rintro fin s' ⟨f, e, h1, h2, h3, h4⟩
      exact ⟨f, e, ⟨h1, h2, h4⟩, leftWithCleanup_false_of_bare h3⟩) (by
      rintro e s' ⟨h1, h2, h3, h4⟩
      exact ⟨⟨h1, h2, h4⟩, leftWithCleanup_false_of_bare h3⟩))
  obtain ⟨eh, _, _, eo, _⟩ := Shared.forget_eq hfo
  have hcase := hcase.congr eh
  have hkp : kept s'.heap := by rw [eh]; exact hkp
  rw [← eo] at hos
  have hlife : s'.heap.life = s.heap.life := (runN_life _ _ _ hrun).trans hal.2.2.2
  refine ⟨vs, s₁, hlaid, k, _, s', hsched, ?_, (fun _ i x hx => by rw [hgens] at hx; simp at hx), hkp, by rw [hlife], Shared.rest_eq hos⟩
  rcases hcase with ⟨v, rfl, d1, d2, d3, d4, d5⟩ | ⟨e, ob, cls, rfl, d1, d2, d3, d4, d5⟩
  · exact .inl ⟨v, rfl, d1, d2, d3, fun b o y _ => d4 b o y, d5⟩
  · exact .inr ⟨e, ob, cls, rfl, d1, d2, d3, d4, fun b o y _ => d5 b o y⟩

/-- the head, for a walk that knows the caller's stack to be clean -/
theorem PySem.W.holds_open {r : OpenRow} {q : Program} {loose : List Str} {Xt : Shared → Bool} {XP : (Str → Option Value) → Heap → Prop} {α : Type} {Yf : Shared → α} {Ya : World → α} {YP : World → Heap → Prop} {d : DefRec} {kwd : List (Str × PySem.Expr)} {N : Nat}
    (left : LeftO r.prog q loose Xt Yf Ya N) (hY : ∀ w s, Yf s = Ya w → YP w s.heap) (hYk : ∀ w h h', YP w h → (∀ b o, h.get? b = some o → h'.get? b = some o) → YP w h')
    (hX : ∀ s, Xt s = true → XP (s.heap.nsMap mainGlobals) s.heap) (hXk : ∀ mg h h', XP mg h → (∀ b o, h.get? b = some o → h'.get? b = some o) → XP mg h')
    (hdef : defOf q r.name = some (d, kwd)) (hp : r.prog.theDef r.name = some (d.params, d.body, d.scope)) (hk : kwWritten? d.params.kwonlyargs d.params.kw_defaults = some kwd) (hRf : ∀ s, Xt s = true → RecFacts r.records s.heap) (hwr : (!r.writes || r.records.isEmpty) = true)
    (k1 : r.wellSaid = true) (ok : (chainsOk q && opensWell r.prog && (frees r.toRowW && r.within.isEmpty)) = true) (hb : r.prog.bare) (hw : r.toRowW.promised)
    (call : WalkC q loose XP YP r.toRowW d kwd) : r.Holds := by
  refine ⟨k1, hw, ?_⟩
  refine hideG ?_
  intro zg
  obtain ⟨ok, k5⟩ := Bool.and_eq_true_iff.mp ok
  obtain ⟨hch, o1⟩ := Bool.and_eq_true_iff.mp ok
  obtain ⟨k5, k6⟩ := Bool.and_eq_true_iff.mp k5
  obtain ⟨hsame, hu, ha, hap, hm⟩ := frees_parts k5
  refine ⟨⟨hb, o1, by show r.makers.map _ = []; rw [hm]; rfl⟩, hw.witness, fun w => ⟨(left.behind hX hch w).1, fun s' hs' => ?_⟩⟩
  refine hideG ?_
  intro zg'
  obtain ⟨s₀, hf, hg0, s, hT, hz, hgens, hg, G00, y⟩ := (left.behind (XP := fun mg h => XP mg h ∧ RecFacts r.records h) (fun s hs => ⟨hX s hs, hRf s hs⟩) hch w).2 s' hs'
  have G0 : Ground q loose [] XP w s (s.heap.nsMap mainGlobals) (s.heap.nsMap builtinsNs) s.heap := ⟨G00.T, G00.B, G00.D, G00.TE, G00.TD, G00.W, G00.X.1, G00.cls, G00.has, G00.apart, G00.once, G00.K⟩
  have RF := G00.X.2
  have hT' := hT
  refine ⟨s₀, hf, hg0, s, hT, (fun n hn => ?_), RF.1, RF.2.1, ?_⟩
  · obtain rfl : n = r.name := by split at hn <;> simp_all
    exact pinned_of_view hg G0 hdef hp hk
  have hgens : s.gens = #[] := Array.eq_empty_of_size_eq_zero (beq_iff_eq.mp hgens)
  have G : Ground q loose r.records XP w s _ _ s.heap := RF.ground G0
  refine callFromC (c := r.toRowW.claim) (tree := fun vs => do match ← nsGet mainNs r.name with
      | some f => do ret (← PySem.call f vs)
      | none => unsupported "claim.caller:no-such-global") hz hgens fun args hpre hlay ord hord => ?_
  obtain ⟨⟨vs, s₁⟩, hlaid⟩ := Option.isSome_iff_exists.mp (layAllW_isSome (P := w.params) (ord := ord) G.has args r.args s (pre_splitW hpre).1)
  have keeps := layAllW_keeps _ _ _ hlaid
  have hal := layAllW_rest _ _ _ hlaid
  obtain ⟨as, hrd, hin, hold⟩ := reads_layAllW hord _ _ _ hlaid hlay s₁.heap (fun _ _ e => e)
  have L : Laid r.records w s s₁ args vs as := ⟨⟨ord, hord, hlaid⟩, hrd, hin, hold, keeps, hal.1.trans hgens, hal.2.2.1⟩
  have G₁ := G.keeps hXk keeps
  obtain ⟨a, o, pm, cd, doc, dV, kV, h1, h2, h3, h4, h5⟩ := G₁.fn hdef
  have h := call w s s₁ _ _ G₁ (hYk _ _ _ (hY w s y) keeps) a o pm cd doc dV kV h2 h3 h4 h5 (defOf_name hdef ▸ h1) L.gens args vs as hpre hlay L.reads L.well (L.low G.low)
  have hi := ident_freeW hu ha hap
  have hwi : r.toRowW.claim.within = [] := List.isEmpty_iff.mp k6
  refine ⟨vs, s₁, hlaid, ?_⟩
  refine cBind (cAny (wpAny_nsGet G₁.T.g ?_))
  rw [h1]
  refine cBind (cMono h (fun v s' g => cPure ⟨_, rfl, ?_⟩) fun e s' g => ?_)
  · have z := g.laid (c := r.toRowW.claim) hsame hwi hi L
    exact ⟨z.1, z.2.1, z.2.2, fun q => ⟨namesKept_of hT' hg _ keeps g.2.1.old, noTable hwr q⟩⟩
  · have z := g.laid (c := r.toRowW.claim) hsame hwi hi L
    exact ⟨z.1, z.2.1, z.2.2, fun q => ⟨namesKept_of hT' hg _ keeps g.2.1.old, noTable hwr q⟩⟩
end Mine

end
section -- NbHead
open PySem PySem.W PySem.Calls PyProof.Rows
set_option Elab.async false
set_option maxRecDepth 100000
set_option maxHeartbeats 8000000
namespace Mine
open_top hd for PySem.Challenge.rw_nb0203_01
end Mine

end
section -- NbBase
open PySem PySem.W PySem.Calls PyProof.Rows
set_option Elab.async false
set_option maxRecDepth 100000
set_option linter.unusedVariables false
namespace Mine

abbrev PG : Program := PySem.Challenge.rw_nb0203_01.row.prog
noncomputable abbrev KK (w : World) : Frag := hd.heap_39 w.params
abbrev MM (w : World) : Model := model PG w

/-- what the top has made, at a heap -/
structure Gd (w : World) (h : Heap) : Prop where
  X : (KK w).In h
  T : ∃ loose mg mb, TopRead hd.view_39 loose mg mb h

theorem Gd.keeps {w : World} {h h' : Heap} (G : Gd w h) (k : ∀ b o, h.get? b = some o → h'.get? b = some o) : Gd w h' :=
  ⟨G.X.keeps k, let ⟨lo, mg, mb, T⟩ := G.T; ⟨lo, mg, mb, T.keeps k⟩⟩
theorem Gd.nolimit {w : World} {h : Heap} (G : Gd w h) : h.NoLimit := let ⟨_, _, _, T⟩ := G.T; T.nolimit

def Rest (s s' : Shared) : Prop := s'.gens = s.gens ∧ s'.drawn = s.drawn ∧ s'.os = s.os
theorem Rest.refl (s : Shared) : Rest s s := ⟨rfl, rfl, rfl⟩
theorem Rest.trans {a b c : Shared} (x : Rest a b) (y : Rest b c) : Rest a c := ⟨y.1.trans x.1, y.2.1.trans x.2.1, y.2.2.trans x.2.2⟩

structure At (o : Shared) (h₀ : Heap) (L : Addr) (l : List (Str × Value)) (news : List (Addr × Obj)) (s : Shared) : Prop where
  fr : ∃ m, Fr h₀ L s.heap m ∧ ∀ x v, l.lookup x = some v → m x = some v
  N : News h₀ L s.heap news
  R : Rest o s

section
variable {M : Model} {A : Around} {E : Value → Shared → Prop} {s o : Shared} {name : Str} {scope : Scope} {L a : Addr} {cd : Value} {h₀ : Heap} {l : List (Str × Value)} {news : List (Addr × Obj)} {w : World}

theorem At.keep (S : At o h₀ L l news s) : ∀ b x, h₀.get? b = some x → s.heap.get? b = some x := let ⟨_, F, _⟩ := S.fr; F.keep
theorem At.ofHeap {s' : Shared} (S : At o h₀ L l news s) (h : s'.heap = s.heap) (r : Rest s s') : At o h₀ L l news s' := by
  obtain ⟨⟨m, F, hm⟩, N, R⟩ := S
  exact ⟨⟨m, h ▸ F, hm⟩, h ▸ N, R.trans r⟩
theorem At.toks (S : At o h₀ L l news s) (t : Nat) : At o h₀ L l news { s with toks := t } := S.ofHeap rfl ⟨rfl, rfl, rfl⟩
theorem At.kept {s' : Shared} (S : At o h₀ L l news s) (k : Keeps s s') : At o h₀ L l news s' := by
  obtain ⟨⟨m, F, hm⟩, N, R⟩ := S
  obtain ⟨h', tk, rfl, kk⟩ := k
  refine ⟨⟨m, ⟨F.ns.keeps kk, fun b x e => kk b x (F.keep b x e), F.above⟩, hm⟩, fun p hp => ⟨kk _ _ (N p hp).1, (N p hp).2⟩, R.trans ⟨rfl, rfl, rfl⟩⟩
theorem At.drop {l' : List (Str × Value)} (S : At o h₀ L l news s) (h : ∀ p ∈ l', l.lookup p.1 = some p.2) : At o h₀ L l' news s := by
  obtain ⟨⟨m, F, hm⟩, N, R⟩ := S
  refine ⟨⟨m, F, fun x v e => hm x v ?_⟩, N, R⟩
  exact h (x, v) (by
    clear h hm F
    induction l' with
    | nil => cases e
    | cons q r ih =>
      obtain ⟨y, u⟩ := q
      rw [List.lookup_cons] at e
      split at e
      · rename_i hb; cases e; rw [eq_of_beq hb]; exact .head _
      · exact .tail _ (ih e))
theorem At.less {news' : List (Addr × Obj)} (S : At o h₀ L l news s) (h : ∀ p ∈ news', p ∈ news) : At o h₀ L l news' s := ⟨S.fr, fun p hp => S.N p (h p hp), S.R⟩

theorem At.ld (S : At o h₀ L l news s) {x : Str} {pos : Pos} {v : Value} {Q : Value → Shared → Prop} (hv : l.lookup x = some v) (h : Q v s)
    (hk : scope.kind = .function := by rfl) (hl : (envOf name scope L a cd).kindOf x = some .local := by rfl)
    (hd : (x == ("__debug__" : Str)) = false := by decide) :
    wpAny M A (eval (.Name x pos) (envOf name scope L a cd)) Q E s :=
  let ⟨_, F, hm⟩ := S.fr; PyProof.Rows.ld F (hm _ _ hv) h hk hl hd
theorem At.ldn (S : At o h₀ L l news s) {x : Str} {v : Value} {Q : Value → Shared → Prop} (hv : l.lookup x = some v) (h : Q v s)
    (hk : scope.kind = .function := by rfl) (hl : (envOf name scope L a cd).kindOf x = some .local := by rfl) :
    wpAny M A (loadName (envOf name scope L a cd) x) Q E s :=
  let ⟨_, F, hm⟩ := S.fr; PyProof.Rows.ldn F (hm _ _ hv) h hk hl
theorem At.st (S : At o h₀ L l news s) {x : Str} {v : Value} {Q : Unit → Shared → Prop}
    (h : ∀ s', At o h₀ L ((x, v) :: l) news s' → Q () s')
    (hk : scope.kind = .function := by rfl) (hl : (envOf name scope L a cd).kindOf x = some .local := by rfl) :
    wpAny M A (storeName (envOf name scope L a cd) x v) Q E s := by
  obtain ⟨⟨m, F, hm⟩, N, R⟩ := S
  refine PyProof.Rows.stN F N (fun h' F' N' => h _ ⟨⟨_, F', fun y u e => ?_⟩, N', R.trans ⟨rfl, rfl, rfl⟩⟩) hk hl
  rw [List.lookup_cons] at e
  by_cases hy : y = x
  · rw [if_pos hy]; rw [hy, beq_self_eq_true] at e; exact e
  · rw [if_neg hy]; rw [show (y == x) = false from beq_eq_false_iff_ne.mpr hy] at e; exact hm y u e
theorem At.glob (S : At o h₀ L l news s) (G : Gd w h₀) {x : Str} {pos : Pos} {v : Value} {Q : Value → Shared → Prop} (e : nsIn (KK w) mainGlobals x = some (some v)) (h : Q v s)
    (hk : scope.kind = .function := by rfl) (hx : (envOf name scope L a cd).kindOf x = some .globalImplicit := by rfl) (hd : (x == ("__debug__" : Str)) = false := by decide) :
    wpAny M A (eval (.Name x pos) (envOf name scope L a cd)) Q E s :=
  let ⟨_, F, _⟩ := S.fr; let ⟨_, _, _, T⟩ := G.T; name_K F G.X T e h hk hx hd
theorem At.blt (S : At o h₀ L l news s) (G : Gd w h₀) {x : Str} {pos : Pos} {v : Value} {Q : Value → Shared → Prop} (e : nsIn (KK w) mainGlobals x = some none) (hv : bootBuiltins x = some v) (hn : x ≠ "__name__") (h : Q v s)
    (hk : scope.kind = .function := by rfl) (hx : (envOf name scope L a cd).kindOf x = some .globalImplicit := by rfl) (hd : (x == ("__debug__" : Str)) = false := by decide) :
    wpAny M A (eval (.Name x pos) (envOf name scope L a cd)) Q E s :=
  let ⟨_, F, _⟩ := S.fr; let ⟨_, _, _, T⟩ := G.T; name_B F G.X T e hv hn h hk hx hd

theorem At.int (S : At o h₀ L l news s) {env : Env} {i : Int} {k pos} {Q : Value → Shared → Prop} (h : ∀ t s', At o h₀ L l news s' → Q (.int i t) s') :
    wpAny M A (eval (.Constant (.int i) k pos) env) Q E s := wpAny_Constant_int (h _ _ (S.toks _))
end

section
variable {prog : Program} {A : Around} {E : Value → Shared → Prop} {s o : Shared} {name : Str} {scope : Scope} {L a : Addr} {cd : Value} {h₀ : Heap} {l : List (Str × Value)} {news : List (Addr × Obj)} {w : World} {i j : Int} {t u : Tok} {Q : Value → Shared → Prop}
theorem At.add (S : At o h₀ L l news s) (h : ∀ t s', At o h₀ L l news s' → Q (.int (i + j) t) s') : wpAny (model prog w) A (binaryOp .Add (.int i t) (.int j u)) Q E s := add_int (h _ _ (S.toks _))
theorem At.mul (S : At o h₀ L l news s) (hm : IntMulOk i j) (h : ∀ t s', At o h₀ L l news s' → Q (.int (i * j) t) s') : wpAny (model prog w) A (binaryOp .Mult (.int i t) (.int j u)) Q E s := mul_int (h _ _ (S.toks _)) hm
theorem At.sub (S : At o h₀ L l news s) (h : ∀ t s', At o h₀ L l news s' → Q (.int (i - j) t) s') : wpAny (model prog w) A (binaryOp .Sub (.int i t) (.int j u)) Q E s := sub_int (h _ _ (S.toks _))
end

abbrev retOf : Flow → Value
  | .ret v => v
  | _ => .none

theorem call_pure {w : World} {A : Around} {E : Value → Shared → Prop} {s : Shared} {Post : Value → Shared → Prop} {name qual : Str} {params : Arguments} {body : List Stmt} {scope : Scope} {dV kV doc pm cdv ct oc : Value} {an od : Option Addr} {osl : Array (Option Value)} {f : Addr} {args : List Value}
    (binds : List (Str × Value)) (G : Gd w s.heap) (hroom : A.depth < recursionLimit)
    (ho : (KK w).lookup f = some ⟨oc, od, .func (fnOf name qual params body scope dV kV doc pm an cdv ct), osl⟩) (hcd : codeIn (KK w) cdv qual = true)
    (hbind : BindsTo s (fnOf name qual params body scope dV kV doc pm an cdv ct) ⟨args, []⟩ binds) (hloc : ∀ y ∈ binds, scope.names.lookup y.1 = some .local)
    (h : ∀ L s₁, At s s.heap L binds.reverse [] s₁ → wpAny (MM w) (A.deeper (envOf qual scope L f cdv)) (execs body (envOf qual scope L f cdv))
        (fun fl s' => (∃ l news, At s s.heap L l news s') ∧ Post (retOf fl) s') (fun _ _ => False) s₁)
    (hco : scope.isCoroutine = false := by rfl) (hgen : scope.isGenerator = false := by rfl) (hk : scope.kind = .function := by rfl)
    (hcell : ∀ x ∈ scope.names, x.2 ≠ .cell := by decide) :
    wpAny (MM w) A (call (.ref f) args) (fun v s' => Keeps s s' ∧ Post v s') E s := by
  refine wpAny_call (codeAny_call_def (fd := fnOf name qual params body scope dV kV doc pm an cdv ct) (body := body) (binds := binds) hroom (G.X _ _ ho) rfl G.nolimit (codeRec_of G.X hcd) rfl hbind hcell hloc (fun h₁ hns hk₁ => ?_) hco hgen hk)
  have S : At s s.heap s.heap.objs.size binds.reverse [] { s with heap := h₁, toks := s.toks + binds.length } :=
    ⟨⟨_, ⟨hns, hk₁, Nat.le_refl _⟩, fun _ _ e => e⟩, News.nil, ⟨rfl, rfl, rfl⟩⟩
  refine wpAny_mono (h _ _ S) (fun fl s' hf => ?_) fun _ _ x => x.elim
  obtain ⟨⟨l, news, S'⟩, hp⟩ := hf
  have hr := S'.R
  refine ⟨⟨s'.heap, s'.toks, ?_, S'.keep⟩, ?_⟩
  · obtain ⟨r1, r2, r3⟩ := hr
    cases s'; cases s; simp only at r1 r2 r3 ⊢; subst r1 r2 r3; rfl
  · cases fl <;> exact hp
end Mine

end
section -- NbBase2
open PySem PySem.W PySem.Calls PyProof.Rows
set_option Elab.async false
set_option maxRecDepth 100000
set_option linter.unusedVariables false
namespace Mine

theorem call_mut {w : World} {A : Around} {E : Value → Shared → Prop} {s o : Shared} {Q : Value → Shared → Prop} {h₀ : Heap} {L : Addr} {l : List (Str × Value)} {news : List (Addr × Obj)}
    {name qual : Str} {params : Arguments} {body : List Stmt} {scope : Scope} {dV kV doc pm cdv ct oc : Value} {an od : Option Addr} {osl : Array (Option Value)} {f : Addr} {args : List Value}
    (binds : List (Str × Value)) (G : Gd w h₀) (S : At o h₀ L l news s) (hroom : A.depth < recursionLimit)
    (ho : (KK w).lookup f = some ⟨oc, od, .func (fnOf name qual params body scope dV kV doc pm an cdv ct), osl⟩) (hcd : codeIn (KK w) cdv qual = true)
    (hbind : BindsTo s (fnOf name qual params body scope dV kV doc pm an cdv ct) ⟨args, []⟩ binds) (hloc : ∀ y ∈ binds, scope.names.lookup y.1 = some .local)
    (h : ∀ g L' s₁, Gd w g → At o g L' binds.reverse news s₁ → wpAny (MM w) (A.deeper (envOf qual scope L' f cdv)) (execs body (envOf qual scope L' f cdv))
        (fun fl s' => ∃ l' news', At o g L' l' news' s' ∧ (At o h₀ L l news' s' → Q (retOf fl) s')) (fun _ _ => False) s₁)
    (hco : scope.isCoroutine = false := by rfl) (hgen : scope.isGenerator = false := by rfl) (hk : scope.kind = .function := by rfl)
    (hcell : ∀ x ∈ scope.names, x.2 ≠ .cell := by decide) :
    wpAny (MM w) A (call (.ref f) args) Q E s := by
  obtain ⟨⟨m, F, hm⟩, N, R⟩ := S
  have X := G.X.keeps F.keep
  refine wpAny_call (codeAny_call_def (fd := fnOf name qual params body scope dV kV doc pm an cdv ct) (body := body) (binds := binds) hroom (X _ _ ho) rfl (G.nolimit.keeps F.keep) (codeRec_of X hcd) rfl hbind hcell hloc (fun h₁ hns hk₁ => ?_) hco hgen hk)
  have nm : ∀ b o, h₀.get? b = some o → b ∉ news.map (·.1) := fun b o e q => by
    obtain ⟨p, hp, rfl⟩ := List.mem_map.mp q
    rw [(N p hp).2.2] at e; cases e
  have st : ∀ b o, h₀.get? b = some o → (hideAll s.heap (news.map (·.1))).get? b = some o := fun b o e => hideAll_get _ (F.keep b o e) (nm b o e)
  obtain ⟨oL, es, ep, hL, hLd, hLk, hLf⟩ := F.ns
  have nL : L ∉ news.map (·.1) := fun q => by
    obtain ⟨p, hp, e⟩ := List.mem_map.mp q
    exact (N p hp).2.1 e
  have hLg := hideAll_get (news.map (·.1)) hL nL
  have S₁ : At o (hideAll s.heap (news.map (·.1))) s.heap.objs.size binds.reverse news { s with heap := h₁, toks := s.toks + binds.length } :=
    ⟨⟨_, ⟨hns, fun b o e => hk₁ b o (of_hideAll _ e), Nat.le_of_eq (hideAll_size _ _)⟩, fun _ _ e => e⟩,
      fun p hp => ⟨hk₁ _ _ (N p hp).1, Nat.ne_of_lt (Heap.lt_size (N p hp).1), hideAll_none _ (List.mem_map_of_mem hp)⟩, R.trans ⟨rfl, rfl, rfl⟩⟩
  refine wpAny_mono (h _ _ _ (G.keeps st) S₁) (fun fl s' hl => ?_) fun _ _ x => x.elim
  obtain ⟨l', news', ⟨⟨m', F', hm'⟩, N', R'⟩, k⟩ := hl
  suffices hq : Q (retOf fl) s' by cases fl <;> exact hq
  refine k ⟨⟨m, ⟨⟨oL, es, ep, F'.keep L oL hLg, hLd, hLk, hLf⟩, fun b o e => F'.keep b o (st b o e), F.above⟩, hm⟩, fun p hp => ⟨(N' p hp).1, fun q => ?_, ?_⟩, R'⟩
  · have := (N' p hp).2.2; rw [q, hLg] at this; cases this
  · cases q : h₀.get? p.1 with
    | none => rfl
    | some o => have := (N' p hp).2.2; rw [st _ _ q] at this; cases this

section
variable {M : Model} {A : Around} {E : Value → Shared → Prop} {s o : Shared} {env : Env} {L : Addr} {h₀ : Heap} {l : List (Str × Value)} {news : List (Addr × Obj)} {w : World}

/-- a call of a def of the text, by its name -/
theorem At.callf {f a : Addr} {name : Str} {scope : Scope} {cd : Value} (S : At o h₀ L l news s) (G : Gd w h₀) {x : Str} {p pos : Pos} {e : PySem.Expr} {rest : List PySem.Expr} {Q : Value → Shared → Prop}
    (eg : nsIn (KK w) mainGlobals x = some (some (.ref f))) (hf : fnIn (KK w) f = true)
    (h : wpAny M A (spliced (backTo pos (starEach (e :: rest) (envOf name scope L a cd)))) (fun vs s₁ => (∃ l' news', At o h₀ L l' news' s₁) ∧ wpAny M A (call (.ref f) vs) Q E s₁) E s)
    (hk : scope.kind = .function := by rfl) (hx : (envOf name scope L a cd).kindOf x = some .globalImplicit := by rfl) (hd : (x == ("__debug__" : Str)) = false := by decide)
    (he : starEach (e :: rest) (envOf name scope L a cd) = (false, eval e (envOf name scope L a cd)) :: starEach rest (envOf name scope L a cd) := by rfl) :
    wpAny M A (eval (.Call (.Name x p) (e :: rest) [] pos) (envOf name scope L a cd)) Q E s := by
  refine Call_ (At.glob S G eg ?_ hk hx hd)
  unfold fnIn at hf
  split at hf
  · rename_i oc od fd osl q
    refine callWith_def (o := ⟨oc, od, .func fd, osl⟩) rfl (wpAny_mono h (fun vs s₁ h₁ => ⟨?_, h₁.2⟩) fun _ _ x => x) he
    obtain ⟨⟨l', news', S'⟩, _⟩ := h₁
    exact S'.keep _ _ (G.X _ _ q)
  · cases hf
theorem At.callb {a : Addr} {id : String} {name : Str} {scope : Scope} {cd : Value} (S : At o h₀ L l news s) (G : Gd w h₀) {x : Str} {p pos : Pos} {e : PySem.Expr} {rest : List PySem.Expr} {Q : Value → Shared → Prop}
    (eg : nsIn (KK w) mainGlobals x = some none) (hv : bootBuiltins x = some (.builtin id)) (hn : x ≠ "__name__")
    (h : wpAny M A (spliced (backTo pos (starEach (e :: rest) (envOf name scope L a cd)))) (fun vs s₁ => wpAny M A (call (.builtin id) vs) Q E s₁) E s)
    (hk : scope.kind = .function := by rfl) (hx : (envOf name scope L a cd).kindOf x = some .globalImplicit := by rfl) (hd : (x == ("__debug__" : Str)) = false := by decide)
    (he : starEach (e :: rest) (envOf name scope L a cd) = (false, eval e (envOf name scope L a cd)) :: starEach rest (envOf name scope L a cd) := by rfl)
    (hplain : (backTo pos (starEach rest (envOf name scope L a cd))).any (·.1) = false := by rfl) :
    wpAny M A (eval (.Call (.Name x p) (e :: rest) [] pos) (envOf name scope L a cd)) Q E s :=
  Call_ (At.blt S G eg hv hn (callWith_builtin1 h he hplain) hk hx hd)
theorem At.callt {a : Addr} {T : String} {name : Str} {scope : Scope} {cd : Value} (S : At o h₀ L l news s) (G : Gd w h₀) {x : Str} {p pos : Pos} {e : PySem.Expr} {rest : List PySem.Expr} {Q : Value → Shared → Prop}
    (eg : nsIn (KK w) mainGlobals x = some none) (hv : bootBuiltins x = some (.type T)) (hn : x ≠ "__name__")
    (h : wpAny M A (spliced (backTo pos (starEach (e :: rest) (envOf name scope L a cd)))) (fun vs s₁ => wpAny M A (call (.type T) vs) Q E s₁) E s)
    (hk : scope.kind = .function := by rfl) (hx : (envOf name scope L a cd).kindOf x = some .globalImplicit := by rfl) (hd : (x == ("__debug__" : Str)) = false := by decide)
    (he : starEach (e :: rest) (envOf name scope L a cd) = (false, eval e (envOf name scope L a cd)) :: starEach rest (envOf name scope L a cd) := by rfl)
    (hplain : (backTo pos (starEach rest (envOf name scope L a cd))).any (·.1) = false := by rfl) :
    wpAny M A (eval (.Call (.Name x p) (e :: rest) [] pos) (envOf name scope L a cd)) Q E s :=
  Call_ (At.blt S G eg hv hn (callWith_type1 h he hplain) hk hx hd)
end

section
variable {prog : Program} {A : Around} {E : Value → Shared → Prop} {s o : Shared} {L a : Addr} {h₀ : Heap} {l : List (Str × Value)} {news : List (Addr × Obj)} {w : World} {i j : Int} {t u : Tok} {vs : List Value} {n : Nat} {v : Value}

abbrev lo (vs : List Value) (n : Nat) : Obj := listOf vs.toArray n
theorem At.get (S : At o h₀ L l news s) {ob : Obj} (hm : (a, ob) ∈ news) : s.heap.get? a = some ob := (S.N _ hm).1
theorem isListOf {h : Heap} (x : h.get? a = some (lo vs n)) : h.IsList a vs.toArray := PySem.IsL.isList (n := n) x
theorem At.upd {o₁ o₂ : Obj} {h' : Heap} {tk : Nat} (S : At o h₀ L l ((a, o₁) :: news) s) (ha : ∀ p ∈ news, p.1 ≠ a) (hs : Heap.SameBut a s.heap h') (ho : h'.get? a = some o₂) : At o h₀ L l ((a, o₂) :: news) { s with heap := h', toks := tk } := by
  obtain ⟨⟨m, F, hm⟩, N, R⟩ := S
  have z := N (a, o₁) (.head _)
  exact ⟨⟨m, F.change hs z.2.1 z.2.2, hm⟩, news_set (pre := []) N (fun _ h => nomatch h) ha hs ho, R.trans ⟨rfl, rfl, rfl⟩⟩

theorem At.item {value slice : PySem.Expr} {Q : Value → Shared → Prop} (ha : s.heap.get? a = some (lo vs n)) (h0 : 0 ≤ i) (hlt : i.toNat < vs.length) (hz : vs.length < 1000) (hx : vs[i.toNat]? = some v) (h : Q v s)
    (hs : subscripted slice false (.ref a) (.int i u) = operate [.ref a, .int i u] (getItem (.ref a) (.int i u)) := by with_unfolding_all rfl) (hg : ∀ r, letTemporaryGo value (.ref a) r = pure () := by intro _; with_unfolding_all rfl) :
    wpAny (model prog w) A (subscriptTail value slice (.ref a) (.int i u)) Q E s :=
  item_list (isListOf ha) h0 (by omega) (by simpa using hx) h hs hg
theorem At.setAt {Q : Unit → Shared → Prop} (S : At o h₀ L l ((a, lo vs n) :: news) s) (ha : ∀ p ∈ news, p.1 ≠ a) (h0 : 0 ≤ i) (hlt : i.toNat < vs.length) (hz : vs.length < 1000)
    (h : ∀ s', At o h₀ L l ((a, lo (vs.set i.toNat v) n) :: news) s' → Q () s') : wpAny (model prog w) A (setItem (.ref a) (.int i u) v) Q E s := by
  refine ki_setAt (S.get (.head _)) h0 (by omega) (by rw [List.size_toArray]; omega) (h _ ?_)
  refine S.upd ha (Heap.SameBut.update ..) ?_
  have q := PySem.IsL.update (S.get (.head _)) (·.setIfInBounds i.toNat v)
  have e : vs.toArray.setIfInBounds i.toNat v = (vs.set i.toNat v).toArray := by apply Array.toList_inj.mp; simp
  rw [e] at q
  simpa using q
theorem At.itemN {value slice : PySem.Expr} {k : Nat} {Q : Value → Shared → Prop} (ha : s.heap.get? a = some (lo vs n)) (hz : vs.length < 1000) (hx : vs[k]? = some v) (h : Q v s)
    (hs : subscripted slice false (.ref a) (.int k u) = operate [.ref a, .int k u] (getItem (.ref a) (.int k u)) := by with_unfolding_all rfl) (hg : ∀ r, letTemporaryGo value (.ref a) r = pure () := by intro _; with_unfolding_all rfl) :
    wpAny (model prog w) A (subscriptTail value slice (.ref a) (.int k u)) Q E s := by
  have hlt : k < vs.length := (List.getElem?_eq_some_iff.mp hx).1
  exact item_list (isListOf ha) (by omega) (by omega) (by simpa using hx) h hs hg
theorem At.setN {k : Nat} {Q : Unit → Shared → Prop} (S : At o h₀ L l ((a, lo vs n) :: news) s) (ha : ∀ p ∈ news, p.1 ≠ a) (hlt : k < vs.length) (hz : vs.length < 1000)
    (h : ∀ s', At o h₀ L l ((a, lo (vs.set k v) n) :: news) s' → Q () s') : wpAny (model prog w) A (setItem (.ref a) (.int k u) v) Q E s :=
  S.setAt ha (by omega) (by simpa using hlt) hz (by simpa using h)
theorem At.itemI {value slice : PySem.Expr} (k : Nat) {Q : Value → Shared → Prop} (e : i = (k : Int)) (ha : s.heap.get? a = some (lo vs n)) (hz : vs.length < 1000) (hx : vs[k]? = some v) (h : Q v s)
    (hs : subscripted slice false (.ref a) (.int i u) = operate [.ref a, .int i u] (getItem (.ref a) (.int i u)) := by with_unfolding_all rfl) (hg : ∀ r, letTemporaryGo value (.ref a) r = pure () := by intro _; with_unfolding_all rfl) :
    wpAny (model prog w) A (subscriptTail value slice (.ref a) (.int i u)) Q E s := by
  subst e
  exact At.itemN ha hz hx h hs hg
theorem At.setI (k : Nat) {Q : Unit → Shared → Prop} (e : i = (k : Int)) (S : At o h₀ L l ((a, lo vs n) :: news) s) (ha : ∀ p ∈ news, p.1 ≠ a) (hlt : k < vs.length) (hz : vs.length < 1000)
    (h : ∀ s', At o h₀ L l ((a, lo (vs.set k v) n) :: news) s' → Q () s') : wpAny (model prog w) A (setItem (.ref a) (.int i u) v) Q E s := by
  subst e
  exact S.setN ha hlt hz h
theorem At.append {Q : Value → Shared → Prop} (S : At o h₀ L l ((a, lo vs n) :: news) s) (ha : ∀ p ∈ news, p.1 ≠ a) (hz : vs.length < 1000)
    (h : ∀ s', At o h₀ L l ((a, lo (vs ++ [v]) (n + 1)) :: news) s' → Q .none s') : wpAny (model prog w) A (call (.builtin "list.append") [.ref a, v]) Q E s := by
  obtain ⟨⟨m, F, hm⟩, N, R⟩ := S
  refine append_K F N (.head ha) (fun h' F' N' => h _ ⟨⟨m, F', hm⟩, ?_, R.trans ⟨rfl, rfl, rfl⟩⟩) (by rw [List.size_toArray]; show _ ≤ 2 ^ 24; omega)
  simpa using N'
theorem At.pop {Q : Value → Shared → Prop} (S : At o h₀ L l ((a, lo (vs ++ [v]) n) :: news) s) (ha : ∀ p ∈ news, p.1 ≠ a) (hz : vs.length < 1000)
    (h : ∀ s', At o h₀ L l ((a, lo vs (n + 1)) :: news) s' → Q v s') : wpAny (model prog w) A (call (.builtin "list.pop") [.ref a]) Q E s := by
  obtain ⟨⟨m, F, hm⟩, N, R⟩ := S
  exact kl_pop F N (kpa_last v vs) (.head ha) (by simp only [List.length_append, List.length_singleton]; show _ ≤ 2 ^ 24; omega) (fun h' F' N' => h _ ⟨⟨m, F', hm⟩, N', R.trans ⟨rfl, rfl, rfl⟩⟩)
theorem At.reverse {Q : Value → Shared → Prop} (S : At o h₀ L l ((a, lo vs n) :: news) s) (ha : ∀ p ∈ news, p.1 ≠ a) (hz : vs.length < 1000)
    (h : ∀ s', At o h₀ L l ((a, lo vs.reverse n) :: news) s' → Q .none s') : wpAny (model prog w) A (call (.builtin "list.reverse") [.ref a]) Q E s := by
  obtain ⟨⟨m, F, hm⟩, N, R⟩ := S
  exact kl_reverse F N rfl (.head ha) (by show _ ≤ 2 ^ 24; simp; omega) (fun h' F' N' => h _ ⟨⟨m, F', hm⟩, N', R.trans ⟨rfl, rfl, rfl⟩⟩)
theorem At.len {Q : Value → Shared → Prop} (S : At o h₀ L l news s) (ha : s.heap.get? a = some (lo vs n)) (hz : vs.length < 1000)
    (h : ∀ t s', At o h₀ L l news s' → Q (.int vs.length t) s') : wpAny (model prog w) A (call (.builtin "len") [.ref a]) Q E s := by
  refine len_list (isListOf ha) (by rw [List.size_toArray]; omega) ?_
  rw [List.size_toArray]
  exact h _ _ (S.toks _)
theorem At.truthyList {Q : Bool → Shared → Prop} (S : At o h₀ L l news s) (ha : s.heap.get? a = some (lo vs n)) (hz : vs.length < 1000)
    (h : ∀ s', At o h₀ L l news s' → Q (!vs.isEmpty) s') : wpAny (model prog w) A (truthy (.ref a)) Q E s := by
  refine wpAny_truthy_list (isListOf ha) (by rw [List.size_toArray]; omega) ?_
  have := h _ (S.toks (s.toks + 1 + 1))
  simpa using this
theorem At.newList {M : Model} {Q : Value → Shared → Prop} (S : At o h₀ L l news s) (hz : vs.length < 1000)
    (h : ∀ a s', At o h₀ L l ((a, lo vs 0) :: news) s' → (∀ p ∈ news, p.1 ≠ a) → Q (.ref a) s') : wpAny M A (newList vs) Q E s := by
  obtain ⟨⟨m, F, hm⟩, N, R⟩ := S
  exact newList_K F N (fun a h' F' N' hlt => h a _ ⟨⟨m, F', hm⟩, N', R.trans ⟨rfl, rfl, rfl⟩⟩ fun p hp => Nat.ne_of_lt (hlt p hp)) (by show _ ≤ 2 ^ 24; omega)
abbrev tup (vs : List Value) : Obj := { cls := .type "tuple", data := .seq vs.toArray }
theorem At.newTuple {M : Model} {Q : Value → Shared → Prop} (S : At o h₀ L l news s) (hz : vs.length < 1000)
    (h : ∀ a s', At o h₀ L l ((a, tup vs) :: news) s' → (∀ p ∈ news, p.1 ≠ a) → Q (.ref a) s') : wpAny M A (newTuple vs) Q E s := by
  obtain ⟨⟨m, F, hm⟩, N, R⟩ := S
  exact newTuple_N F N (fun h' F' N' => h _ _ ⟨⟨m, F', hm⟩, N', R.trans ⟨rfl, rfl, rfl⟩⟩ fun p hp => Nat.ne_of_lt (Heap.lt_size (N p hp).1)) (by show _ ≤ 2 ^ 24; omega)
theorem At.unpack {env : Env} {elts : List PySem.Expr} {k} {pos : Pos} {Q : Unit → Shared → Prop} (S : At o h₀ L l news s) (ht : s.heap.get? a = some (tup vs)) (hh : A.handled = none)
    (hn : (assignEach elts env).length = vs.length) (hstar : (assignEach elts env).findIdx? (·.1) = none)
    (h : ∀ s', At o h₀ L l news s' → wpAny (model prog w) A (assignInOrder ((assignEach elts env).map (·.2)) vs) Q E s') :
    wpAny (model prog w) A (assign (.Tuple elts k pos) env (.ref a)) Q E s := by
  obtain ⟨⟨m, F, hm⟩, N, R⟩ := S
  exact unpackN_ F N ⟨_, ht, rfl, _, rfl⟩ hh (by simpa using hn) hstar fun h' F' N' => by
    have := h { s with heap := h' } ⟨⟨m, F', hm⟩, N', R.trans ⟨rfl, rfl, rfl⟩⟩
    simpa using this
theorem At.rshiftE {k : Int} {Q : Value → Shared → Prop} (S : At o h₀ L l news s) (he : i.fdiv 2 = k) (h : ∀ t s', At o h₀ L l news s' → Q (.int k t) s') : wpAny (model prog w) A (binaryOp .RShift (.int i t) (.int 1 u)) Q E s :=
  rshift_int (by decide) (he ▸ h _ _ (S.toks _))
theorem At.rshift1 {Q : Value → Shared → Prop} (S : At o h₀ L l news s) (h : ∀ t s', At o h₀ L l news s' → Q (.int (i.fdiv 2) t) s') : wpAny (model prog w) A (binaryOp .RShift (.int i t) (.int 1 u)) Q E s :=
  rshift_int (by decide) (h _ _ (S.toks _))
theorem At.method {name : Str} {id : String} {pl : Sem Bool} {Q : Value × List Value → Shared → Prop} (ha : s.heap.get? a = some (lo vs n)) (slot : Slot "list" name id) (hty : typeOf (.builtin id) = pure (.type "method_descriptor"))
    (h : Q (.builtin id, [.ref a]) s) : wpAny (model prog w) A (getMethod (.ref a) name pl) Q E s :=
  getMethod_builtin ⟨_, ha, rfl⟩ PySem.F.plainAttrs_list slot hty (fun b e => by cases e; exact ⟨_, ha, rfl⟩) h
end
end Mine

end
section -- NbBase3
open PySem PySem.W PySem.Calls PyProof.Rows
set_option Elab.async false
set_option maxRecDepth 100000
set_option linter.unusedVariables false
namespace Mine
section
variable {prog : Program} {w : World} {A : Around} {E : Value → Shared → Prop} {s : Shared} {env : Env}
theorem noneNoted {Q : Value → Shared → Prop} {e : Value} {s : Shared} {M : Model} (h : False) : notedBy M A env Q e s := h.elim
theorem aWhile {test body pos} {Q : Flow → Shared → Prop} (I : Nat → Shared → Prop)
    (turn : ∀ n s, I n s → wpAny (model prog w) A (isTrue test env (eval test env)) (fun b s₂ =>
        if b then wpAny (model prog w) A (execs body env) (fun f s₃ => match f with
            | .next | .cont => ∃ m, m < n ∧ I m s₃
            | .brk => Q .next s₃
            | .ret v => Q (.ret v) s₃) (fun _ _ => False) s₂
        else Q .next s₂) (fun _ _ => False) s)
    (n : Nat) (h : I n s) : wpAny (model prog w) A (exec (.While test body [] pos) env) Q E s := by
  refine wpAny_While (codeAny_whileLoop I (fun n s hI => ?_) n h)
  refine wpAny_mono (turn n s hI) (fun b s₂ h₂ => ?_) fun _ _ x => x.elim
  cases b with
  | false => exact wpAny_execs_nil h₂
  | true =>
    simp only [if_true] at h₂ ⊢
    refine wpAny_mono h₂ (fun f s₃ h₃ => ?_) fun _ _ x => x.elim
    cases f <;> exact h₃
theorem execsCut {M : Model} {st : Stmt} {rest : List Stmt} {Q : Flow → Shared → Prop} (P : Shared → Prop) (h1 : wpAny M A (exec st env) (fun f s' => f = .next ∧ P s') E s) (h2 : ∀ s', P s' → wpAny M A (execs rest env) Q E s') :
    wpAny M A (execs (st :: rest) env) Q E s :=
  wpAny_execs_cons (wpAny_mono h1 (fun f s' h => by obtain ⟨rfl, hp⟩ := h; exact h2 s' hp) fun _ _ x => x)
theorem cutNext {M : Model} {t : Sem Flow} {Q : Flow → Shared → Prop} (P : Shared → Prop) (h1 : wpAny M A t (fun f s' => f = .next ∧ P s') E s) (h2 : ∀ s', P s' → Q .next s') : wpAny M A t Q E s :=
  wpAny_mono h1 (fun f s' h => by obtain ⟨rfl, hp⟩ := h; exact h2 s' hp) fun _ _ x => x
theorem aFor {target iter body pos} {Q : Flow → Shared → Prop}
    (h : wpAny (model prog w) A (eval iter env) (fun x s₁ => wpAny (model prog w) A (pyIter x) (fun it s₂ =>
      ∃ (I : Nat → Shared → Prop) (n : Nat), I n s₂ ∧ ∀ n s, I n s → wpAny (model prog w) A (pyNext it) (fun r s₁ => match r with
      | none => Q .next s₁
      | some v => wpAny (model prog w) A (assign target env v) (fun _ s₂ => wpAny (model prog w) A (execs body env) (fun f s₃ => match f with
          | .next | .cont => ∃ m, m < n ∧ I m s₃
          | .brk => Q .next s₃
          | .ret v => Q (.ret v) s₃) (fun _ _ => False) s₂) (fun _ _ => False) s₁) (fun _ _ => False) s) E s₁) E s)
    (hs : ∀ x, foldedSetIterable iter env x = pure x := by intro _; rfl) (ht : ∀ it v, letOwnedTupleGo target it v = pure () := by intro _ _; rfl) :
    wpAny (model prog w) A (exec (.For target iter body [] pos) env) Q E s := by
  refine wpAny_For (wpAny_mono h (fun x s₁ h₁ => wpAny_mono h₁ (fun it s₂ h₂ => ?_) fun _ _ x => x) fun _ _ x => x) hs
  obtain ⟨I, n, hI, turn⟩ := h₂
  refine codeAny_forLoop I (fun n s hI => ?_) n hI (ht it)
  refine wpAny_mono (turn n s hI) (fun r s₁ h₁ => ?_) fun _ _ x => x.elim
  cases r with
  | none => exact wpAny_execs_nil h₁
  | some v =>
    refine wpAny_mono h₁ (fun _ s₂ h₂ => wpAny_mono h₂ (fun f s₃ h₃ => ?_) fun _ _ x => x.elim) fun _ _ x => x.elim
    cases f <;> exact h₃
end

/-- comparison of ranked items -/
def LtOk (news : List (Addr × Obj)) (It : Value → Int → Prop) : Prop :=
  ∀ (w : World) (A : Around) (E : Value → Shared → Prop) (s : Shared) (v v' : Value) (n n' : Int) (Q : Value → Shared → Prop), (∀ p ∈ news, s.heap.get? p.1 = some p.2) → A.units < 9000 → It v n → It v' n' →
    (∀ s', s'.heap = s.heap → Rest s s' → Q (.bool (decide (n < n'))) s') → wpAny (MM w) A (compareOp .Lt v v') Q E s

inductive Its (It : Value → Int → Prop) : List Value → List Int → Prop where
  | nil : Its It [] []
  | cons {v : Value} {n : Int} {vs : List Value} {ns : List Int} : It v n → Its It vs ns → Its It (v :: vs) (n :: ns)
theorem Its.length {It : Value → Int → Prop} {vs : List Value} {ns : List Int} (h : Its It vs ns) : vs.length = ns.length := by
  induction h with
  | nil => rfl
  | cons _ _ ih => rw [List.length_cons, List.length_cons, ih]
theorem Its.get {It : Value → Int → Prop} {vs : List Value} {ns : List Int} (h : Its It vs ns) {k : Nat} (hk : k < ns.length) : ∃ v, vs[k]? = some v ∧ It v (ns.getD k 0) := by
  induction h generalizing k with
  | nil => cases hk
  | cons hv _ ih =>
    cases k with
    | zero => exact ⟨_, rfl, hv⟩
    | succ k => exact ih (Nat.lt_of_succ_lt_succ hk)
theorem Its.set {It : Value → Int → Prop} {vs : List Value} {ns : List Int} (h : Its It vs ns) {k : Nat} {v : Value} {x : Int} (hv : It v x) : Its It (vs.set k v) (ns.set k x) := by
  induction h generalizing k with
  | nil => exact .nil
  | cons hv' ht ih =>
    cases k with
    | zero => exact .cons hv ht
    | succ k => exact .cons hv' ih
theorem Its.append {It : Value → Int → Prop} {vs vs' : List Value} {ns ns' : List Int} (h : Its It vs ns) (h' : Its It vs' ns') : Its It (vs ++ vs') (ns ++ ns') := by
  induction h with
  | nil => exact h'
  | cons hv _ ih => exact .cons hv ih
theorem Its.reverse {It : Value → Int → Prop} {vs : List Value} {ns : List Int} (h : Its It vs ns) : Its It vs.reverse ns.reverse := by
  induction h with
  | nil => exact .nil
  | cons hv _ ih => rw [List.reverse_cons, List.reverse_cons]; exact ih.append (.cons hv .nil)

theorem half_int {p : Nat} (h : 1 ≤ p) : ((p : Int) - 1).fdiv 2 = (((p - 1) / 2 : Nat) : Int) := by
  rw [Int.fdiv_eq_ediv_of_nonneg _ (by decide)]; omega
section
variable {M : Model} {A : Around} {E : Value → Shared → Prop} {s o : Shared} {env : Env}
/-- the next statement, with what is asked behind it under names (the proof's text stays small) -/
theorem exL {st : Stmt} {rest : List Stmt} {Q : Flow → Shared → Prop}
    (h : let q := Q; let k : Flow → Shared → Prop := fun f s' => match f with | .next => wpAny M A (execs rest env) q E s' | f => q f s'; wpAny M A (exec st env) k E s) :
    wpAny M A (execs (st :: rest) env) Q E s := wpAny_execs_cons h
theorem cExecsL {st : Stmt} {rest : List Stmt} {Q : Flow → Shared → Prop}
    (h : let q := Q; let k : Flow → Shared → Prop := fun f s' => match f with | .next => wpC M A (execs rest env) q E s' | f => q f s'; wpC M A (exec st env) k E s) :
    wpC M A (execs (st :: rest) env) Q E s := cExecsCons h
theorem At.dropR {h₀ : Heap} {L : Addr} {l l' : List (Str × Value)} {news : List (Addr × Obj)} (S : At o h₀ L l news s) (e : l'.map (fun p => l.lookup p.1) = l'.map (fun p => some p.2)) : At o h₀ L l' news s :=
  S.drop (List.map_inj_left.mp e)
theorem At.lessR {h₀ : Heap} {L : Addr} {l : List (Str × Value)} {news news' : List (Addr × Obj)} (S : At o h₀ L l news s) (is : List Nat) (e : is.map (fun i => news[i]?) = news'.map some) : At o h₀ L l news' s :=
  S.less fun p hp => by
    have : some p ∈ is.map (fun i => news[i]?) := e ▸ List.mem_map_of_mem hp
    obtain ⟨i, _, hi⟩ := List.mem_map.mp this
    exact List.mem_of_getElem? hi
end
theorem o_lt {q i n : Nat} (h : q + i = n) (hq : ¬ q = 0) : i < n := by omega
theorem o_pos {q : Nat} (hq : ¬ q = 0) : (0 : Int) < q := by omega
theorem o_pred {q : Nat} (hq : ¬ q = 0) : q - 1 < q := Nat.sub_one_lt hq
theorem o_next {q i n : Nat} (h : q + i = n) (hq : ¬ q = 0) : q - 1 + (i + 1) = n := by omega
theorem o_cast {q : Nat} (hq : ¬ q = 0) : (q : Int) - 1 = ((q - 1 : Nat) : Int) := (Int.ofNat_sub (Nat.one_le_iff_ne_zero.mpr hq)).symm
theorem o_succ (i : Nat) : (i : Int) + 1 = ((i + 1 : Nat) : Int) := rfl
theorem o_backS {i n : Nat} (h : i < n) : n - 1 - i + 1 = n - i := by rw [Nat.sub_right_comm, Nat.sub_add_cancel (Nat.sub_pos_of_lt h)]
theorem o_back {q i n : Nat} (h : q + i = n) (hq : ¬ q = 0) : n - 1 - i + 1 = n - i := o_backS (o_lt h hq)
theorem o_backI {q i n : Nat} (h : q + i = n) (hq : ¬ q = 0) : (n : Int) - 1 - i = ((n - 1 - i : Nat) : Int) := by omega
theorem o_backL {q i n : Nat} (h : q + i = n) (hq : ¬ q = 0) : n - 1 - i < n := by omega
theorem o_iff {q i n : Nat} (h : q + i = n) (hq : ¬ q = 0) : n - i = n ↔ (i : Int) = 0 := by omega
theorem o_sub (n i : Nat) : n - 1 - i = n - (i + 1) := (Nat.sub_sub n 1 i).trans (congrArg (n - ·) (Nat.add_comm 1 i))
theorem o_half {i n : Nat} (h : i < n) : (i - 1) / 2 < n := Nat.lt_of_le_of_lt (Nat.le_trans (Nat.div_le_self _ _) (Nat.sub_le _ _)) h
theorem o_max (i : Nat) : (if ((i : Int) - 1) / 2 > 0 then ((i : Int) - 1) / 2 else 0) = (((i - 1) / 2 : Nat) : Int) := by split <;> omega
theorem o_kind {k : Int} (h0 : 0 ≤ k) (h8 : k < 8) : k = 0 ∨ k = 1 ∨ k = 2 ∨ k = 3 ∨ k = 4 ∨ k = 5 ∨ k = 6 ∨ k = 7 := by
  obtain ⟨n, rfl⟩ := Int.eq_ofNat_of_zero_le h0
  match n, h8 with
  | 0, _ => exact .inl rfl
  | 1, _ => exact .inr (.inl rfl)
  | 2, _ => exact .inr (.inr (.inl rfl))
  | 3, _ => exact .inr (.inr (.inr (.inl rfl)))
  | 4, _ => exact .inr (.inr (.inr (.inr (.inl rfl))))
  | 5, _ => exact .inr (.inr (.inr (.inr (.inr (.inl rfl)))))
  | 6, _ => exact .inr (.inr (.inr (.inr (.inr (.inr (.inl rfl))))))
  | 7, _ => exact .inr (.inr (.inr (.inr (.inr (.inr (.inr rfl))))))
  | n + 8, h => exact absurd h (by omega)
theorem o_swap (a b c : Int) : a + (b + c) = a + c + b := by omega
theorem o_in {a j n : Nat} (c : Nat) (h : j < n) : (a : Int) + j < ((a + n + c : Nat) : Int) := by omega
theorem o_more {q j n : Nat} (h : q + j = n) (h0 : 0 < q) (h1 : j + 1 ≠ n) : 0 < q - 1 := by omega
theorem o_halfK {k : Nat} (h : 0 < k) : (k - 1) / 2 < k := Nat.lt_of_le_of_lt (Nat.div_le_self _ _) (Nat.sub_one_lt (Nat.ne_of_gt h))
theorem o_hne {k : Nat} (h : 0 < k) : ¬ (k - 1) / 2 = k := Nat.ne_of_lt (o_halfK h)
theorem o_hle {a k : Nat} (h : a ≤ (k - 1) / 2) : a ≤ k := Nat.le_trans h (Nat.le_trans (Nat.div_le_self _ _) (Nat.sub_le _ _))
theorem o_dsub {a p c k : Nat} (h : a - p = k) (h1 : p < c) (h2 : c < a) : a - c < k := h ▸ Nat.sub_lt_sub_left (Nat.lt_trans h1 h2) h1
theorem o_child {c p : Nat} (h0 : 0 < c) (h : (c - 1) / 2 = p) : c = 2 * p + 1 + 1 ∨ c = 2 * p + 1 := by omega
end Mine

end
section
open PySem PySem.W PySem.Calls PyProof.Rows
set_option Elab.async false
set_option maxRecDepth 100000
set_option linter.unusedVariables false
namespace Mine
set_option hygiene false in
local macro_rules | `(tactic| walk_at "mb") => `(tactic| first
  | ((with_reducible show wpAny _ _ (execs (_ :: _) _) _ _ _); refine exL ?_; intro zq zk)
  | ((with_reducible show wpAny _ _ (execs [] _) _ _ _); refine wpAny_execs_nil ?_)
  | ((with_reducible show wpAny _ _ (eval (Expr.Name _ _) _) _ _ _); refine At.ld (by assumption) (by rfl) ?_)
  | ((with_reducible show wpAny _ _ (eval (Expr.Constant (Const.int _) _ _) _) _ _ _); refine At.int (by assumption) ?_; intro _ _ _)
  | ((with_reducible show wpAny _ _ (eval (Expr.Constant (Const.bool _) _ _) _) _ _ _); refine Constant_bool ?_)
  | ((with_reducible show wpAny _ _ (eval (Expr.Constant Const.none _ _) _) _ _ _); refine Constant_none ?_)
  | ((with_reducible show wpAny _ _ (eval (Expr.BinOp _ _ _ _) _) _ _ _); refine wpAny_BinOp ?_)
  | ((with_reducible show wpAny _ _ (eval (Expr.Subscript _ _ _) _) _ _ _); refine Subscript_ ?_)
  | ((with_reducible show wpAny _ _ (binaryOp Operator.Add (Value.int _ _) (Value.int _ _)) _ _ _); refine At.add (by assumption) ?_; intro _ _ _)
  | ((with_reducible show wpAny _ _ (binaryOp Operator.Sub (Value.int _ _) (Value.int _ _)) _ _ _); refine At.sub (by assumption) ?_; intro _ _ _)
  | ((with_reducible show wpAny _ _ (binaryOp Operator.Mult (Value.int _ _) (Value.int _ _)) _ _ _); refine At.mul (by assumption) (by mul_fits) ?_; intro _ _ _)
  | ((with_reducible show wpAny _ _ (compareOp CmpOp.Lt (Value.int _ _) (Value.int _ _)) _ _ _); refine lt_int ?_)
  | ((with_reducible show wpAny _ _ (compareOp CmpOp.Gt (Value.int _ _) (Value.int _ _)) _ _ _); refine gt_int ?_)
  | ((with_reducible show wpAny _ _ (compareOp CmpOp.Eq (Value.int _ _) (Value.int _ _)) _ _ _); refine eq_int ?_)
  | ((with_reducible show wpAny _ _ (truthy (Value.bool _)) _ _ _); refine wpAny_truthy_bool ?_)
  | ((with_reducible show wpAny _ _ (storeName _ _ _) _ _ _); refine At.st (by assumption) ?_; intro _ _)
  | ((with_reducible show wpAny _ _ (exec (Stmt.Assign [Expr.Name _ _] _ _) _) _ _ _); refine wpAny_Assign_Name ?_)
  | ((with_reducible show wpAny _ _ (exec (Stmt.Assign [Expr.Subscript _ _ _] _ _) _) _ _ _); refine wpAny_Assign_Subscript ?_)
  | ((with_reducible show wpAny _ _ (exec (Stmt.Expr _ _) _) _ _ _); refine wpAny_Expr ?_)
  | ((with_reducible show wpAny _ _ (exec (Stmt.Continue _) _) _ _ _); refine wpAny_Continue ?_)
  | ((with_reducible show wpAny _ _ (exec (Stmt.Break _) _) _ _ _); refine wpAny_Break ?_)
  | ((with_reducible show wpAny _ _ (isTrue (Expr.Compare _ [_] [_] _) _ _) _ _ _); refine wpAny_isTrue_Compare1 ?_)
  | ((with_reducible show wpAny _ _ (isTrue (Expr.UnaryOp UnaryOp.Not _ _) _ _) _ _ _); refine isTrue_not ?_)
  | ((with_reducible show wpAny _ _ (isTrue (Expr.BoolOp BoolOp.And (_ :: _) _) _ _) _ _ _); refine isTrue_and ?_)
  | ((with_reducible show wpAny _ _ (isTrue (Expr.BoolOp BoolOp.And [] _) _ _) _ _ _); refine isTrue_and_nil ?_)
  | ((with_reducible show wpAny _ _ (isTrue (Expr.BoolOp BoolOp.Or (_ :: _) _) _ _) _ _ _); refine isTrue_or ?_)
  | ((with_reducible show wpAny _ _ (isTrue (Expr.BoolOp BoolOp.Or [] _) _ _) _ _ _); refine isTrue_or_nil ?_)
  | ((with_reducible show wpAny _ _ (isTrue (Expr.Name _ _) _ _) _ _ _); refine isTrue_plain ?_)
  | ((with_reducible show wpAny _ _ (spliced (backTo _ (starEach (_ :: _) _))) _ _ _); refine args_cons ?_)
  | ((with_reducible show wpAny _ _ (spliced (backTo _ (starEach [] _))) _ _ _); refine args_nil ?_)
  | ((with_reducible show wpAny _ _ (exec (Stmt.Return (some _) _) _) _ _ _); refine wpAny_Return_some ?_))
local macro_rules | `(tactic| walk_at "m") => `(tactic| walk_at "mb")
set_option hygiene false in
local macro_rules | `(tactic| walk_at "n") => `(tactic| first
  | walk_at "m"
  | ((with_reducible show wpAny _ _ (exec (Stmt.If _ _ _ _) _) _ _ _); refine wpAny_If ?_))
section -- NbSd
def sdGo (lt : Int → Int → Bool) (x : Int) (start : Nat) (pos : Nat) (l : List Int) : List Int :=
  if h : start < pos then
    if lt x (l.getD ((pos - 1) / 2) 0) then sdGo lt x start ((pos - 1) / 2) (l.set pos (l.getD ((pos - 1) / 2) 0)) else l.set pos x
  else l.set pos x
termination_by pos
decreasing_by omega

def mn (a b : Int) : Bool := decide (a < b)
def mx (a b : Int) : Bool := decide (b < a)

theorem siftdown_spec {w : World} {A : Around} {E : Value → Shared → Prop} {s o : Shared} {Q : Value → Shared → Prop} {h₀ : Heap} {L a : Addr} {l : List (Str × Value)} {news : List (Addr × Obj)} {It : Value → Int → Prop}
    {vs : List Value} {ns : List Int} {n start p : Nat} {t u : Tok}
    (G : Gd w h₀) (S : At o h₀ L l ((a, lo vs n) :: news) s) (hd : A.depth + 1 < 900) (hu : A.units + 10 < 9000) (ha : ∀ q ∈ news, q.1 ≠ a) (LT : LtOk news It) (hi : Its It vs ns) (hp : p < ns.length) (hz : ns.length < 100)
    (h : ∀ vs' n' s', Its It vs' (sdGo mn (ns.getD p 0) start p ns) → At o h₀ L l ((a, lo vs' n') :: news) s' → Q .none s') :
    wpAny (MM w) A (call (.ref 98) [.ref a, .int start t, .int p u]) Q E s := by
  refine call_mut [(Str.ofString "heap", .ref a), (Str.ofString "startpos", .int start t), (Str.ofString "pos", .int p u)] G S (by show A.depth < 1000; omega) (by rfl) (by rfl) (BindsTo.of_eq rfl) (locs rfl) ?_
  intro g L' s₁ G' S₁
  obtain ⟨v, hv, hiv⟩ := hi.get hp
  have hlen := hi.length
  repeat walk_at "n"
  refine At.itemN (S₁.get (.head _)) (by omega) hv ?_
  refine S₁.st fun s₂ S₂ => ?_
  refine wpAny_execs_cons (aWhile (Q := _) (fun k s' => ∃ (vs' : List Value) (ns' : List Int) (n' : Nat) (t' : Tok), Its It vs' ns' ∧ k < ns'.length ∧ ns'.length < 100 ∧ sdGo mn (ns.getD p 0) start k ns' = sdGo mn (ns.getD p 0) start p ns ∧
      At o g L' [(Str.ofString "heap", .ref a), (Str.ofString "startpos", .int start t), (Str.ofString "pos", .int k t'), (Str.ofString "newitem", v)] ((a, lo vs' n') :: news) s') ?_ p
    ⟨vs, ns, n, u, hi, hp, hz, rfl, S₂.dropR rfl⟩)
  intro k s₃ zh
  refine hideG ?_
  intro zg
  obtain ⟨vs', ns', n', t', hi', hk, hz', hr, S₃⟩ := zh
  have hlen' := hi'.length
  repeat walk_at "n"
  refine split_dec (fun hlt => ?_) (fun hge => ?_)
  · have hlt : start < k := by omega
    repeat walk_at "n"
    rename_i S₄
    refine S₄.rshiftE (half_int (Nat.zero_lt_of_lt hlt)) fun _ _ S₄ => ?_
    refine S₄.st fun s₅ S₅ => ?_
    obtain ⟨v', hv', hiv'⟩ := hi'.get (k := (k - 1) / 2) (o_half hk)
    repeat walk_at "n"
    refine At.itemN (S₅.get (.head _)) (by omega) hv' ?_
    refine S₅.st fun s₆ S₆ => ?_
    repeat walk_at "n"
    refine LT _ _ _ _ _ _ _ _ _ (fun p hp => S₆.get (.tail _ hp)) (by show A.units + 3 < 9000; omega) hiv hiv' fun s₇ e₇ r₇ => ?_
    have S₇ := S₆.ofHeap e₇ r₇
    repeat walk_at "n"
    refine split_dec (fun hc => ?_) (fun hc => ?_)
    · repeat walk_at "n"
      refine S₇.setN ha (by omega) (by omega) fun s₈ S₈ => ?_
      repeat walk_at "n"
      rename_i S₉
      refine ⟨(k - 1) / 2, o_halfK (Nat.zero_lt_of_lt hlt), vs'.set k v', ns'.set k (ns'.getD ((k - 1) / 2) 0), n', _, hi'.set hiv', by rw [List.length_set]; exact o_half hk, by rw [List.length_set]; exact hz', ?_,
        S₉.dropR rfl⟩
      rw [← hr]
      conv => rhs; rw [sdGo, dif_pos hlt, if_pos (show mn _ _ = true from decide_eq_true hc)]
    · repeat walk_at "n"
      refine S₇.setN ha (by omega) (by omega) fun s₈ S₈ => ?_
      repeat walk_at "n"
      refine ⟨_, _, S₈, fun S' => h _ _ _ ?_ S'⟩
      rw [← hr, sdGo, dif_pos hlt, if_neg (show ¬ mn _ _ = true by simpa [mn] using hc)]
      exact hi'.set hiv
  · have hge : ¬ start < k := by omega
    repeat walk_at "n"
    refine S₃.setN ha (by omega) (by omega) fun s₈ S₈ => ?_
    repeat walk_at "n"
    refine ⟨_, _, S₈, fun S' => h _ _ _ ?_ S'⟩
    rw [← hr, sdGo, dif_neg hge]
    exact hi'.set hiv

end
section -- NbSd2
theorem siftdown_max_spec {w : World} {A : Around} {E : Value → Shared → Prop} {s o : Shared} {Q : Value → Shared → Prop} {h₀ : Heap} {L a : Addr} {l : List (Str × Value)} {news : List (Addr × Obj)} {It : Value → Int → Prop}
    {vs : List Value} {ns : List Int} {n start p : Nat} {t u : Tok}
    (G : Gd w h₀) (S : At o h₀ L l ((a, lo vs n) :: news) s) (hd : A.depth + 1 < 900) (hu : A.units + 10 < 9000) (ha : ∀ q ∈ news, q.1 ≠ a) (LT : LtOk news It) (hi : Its It vs ns) (hp : p < ns.length) (hz : ns.length < 100)
    (h : ∀ vs' n' s', Its It vs' (sdGo mx (ns.getD p 0) start p ns) → At o h₀ L l ((a, lo vs' n') :: news) s' → Q .none s') :
    wpAny (MM w) A (call (.ref 112) [.ref a, .int start t, .int p u]) Q E s := by
  refine call_mut [(Str.ofString "heap", .ref a), (Str.ofString "startpos", .int start t), (Str.ofString "pos", .int p u)] G S (by show A.depth < 1000; omega) (by rfl) (by rfl) (BindsTo.of_eq rfl) (locs rfl) ?_
  intro g L' s₁ G' S₁
  obtain ⟨v, hv, hiv⟩ := hi.get hp
  have hlen := hi.length
  repeat walk_at "n"
  refine At.itemN (S₁.get (.head _)) (by omega) hv ?_
  refine S₁.st fun s₂ S₂ => ?_
  refine wpAny_execs_cons (aWhile (Q := _) (fun k s' => ∃ (vs' : List Value) (ns' : List Int) (n' : Nat) (t' : Tok), Its It vs' ns' ∧ k < ns'.length ∧ ns'.length < 100 ∧ sdGo mx (ns.getD p 0) start k ns' = sdGo mx (ns.getD p 0) start p ns ∧
      At o g L' [(Str.ofString "heap", .ref a), (Str.ofString "startpos", .int start t), (Str.ofString "pos", .int k t'), (Str.ofString "newitem", v)] ((a, lo vs' n') :: news) s') ?_ p
    ⟨vs, ns, n, u, hi, hp, hz, rfl, S₂.dropR rfl⟩)
  intro k s₃ zh
  refine hideG ?_
  intro zg
  obtain ⟨vs', ns', n', t', hi', hk, hz', hr, S₃⟩ := zh
  have hlen' := hi'.length
  repeat walk_at "n"
  refine split_dec (fun hlt => ?_) (fun hge => ?_)
  · have hlt : start < k := by omega
    repeat walk_at "n"
    rename_i S₄
    refine S₄.rshiftE (half_int (Nat.zero_lt_of_lt hlt)) fun _ _ S₄ => ?_
    refine S₄.st fun s₅ S₅ => ?_
    obtain ⟨v', hv', hiv'⟩ := hi'.get (k := (k - 1) / 2) (o_half hk)
    repeat walk_at "n"
    refine At.itemN (S₅.get (.head _)) (by omega) hv' ?_
    refine S₅.st fun s₆ S₆ => ?_
    repeat walk_at "n"
    refine LT _ _ _ _ _ _ _ _ _ (fun p hp => S₆.get (.tail _ hp)) (by show A.units + 3 < 9000; omega) hiv' hiv fun s₇ e₇ r₇ => ?_
    have S₇ := S₆.ofHeap e₇ r₇
    repeat walk_at "n"
    refine split_dec (fun hc => ?_) (fun hc => ?_)
    · repeat walk_at "n"
      refine S₇.setN ha (by omega) (by omega) fun s₈ S₈ => ?_
      repeat walk_at "n"
      rename_i S₉
      refine ⟨(k - 1) / 2, o_halfK (Nat.zero_lt_of_lt hlt), vs'.set k v', ns'.set k (ns'.getD ((k - 1) / 2) 0), n', _, hi'.set hiv', by rw [List.length_set]; exact o_half hk, by rw [List.length_set]; exact hz', ?_,
        S₉.dropR rfl⟩
      rw [← hr]
      conv => rhs; rw [sdGo, dif_pos hlt, if_pos (show mx _ _ = true from decide_eq_true hc)]
    · repeat walk_at "n"
      refine S₇.setN ha (by omega) (by omega) fun s₈ S₈ => ?_
      repeat walk_at "n"
      refine ⟨_, _, S₈, fun S' => h _ _ _ ?_ S'⟩
      rw [← hr, sdGo, dif_pos hlt, if_neg (show ¬ mx _ _ = true by simpa [mx] using hc)]
      exact hi'.set hiv
  · have hge : ¬ start < k := by omega
    repeat walk_at "n"
    refine S₃.setN ha (by omega) (by omega) fun s₈ S₈ => ?_
    repeat walk_at "n"
    refine ⟨_, _, S₈, fun S' => h _ _ _ ?_ S'⟩
    rw [← hr, sdGo, dif_neg hge]
    exact hi'.set hiv

end
set_option hygiene false in
local macro_rules | `(tactic| walk_at "m") => `(tactic| first
  | walk_at "mb"
  | with_reducible refine ite_tt ?_
  | with_reducible refine ite_ff ?_)
section -- NbSu

def child (lt : Int → Int → Bool) (l : List Int) (p : Nat) : Nat := if 2 * p + 1 + 1 < l.length ∧ lt (l.getD (2 * p + 1) 0) (l.getD (2 * p + 1 + 1) 0) = false then 2 * p + 1 + 1 else 2 * p + 1
theorem child_gt (lt : Int → Int → Bool) (l : List Int) (p : Nat) : p < child lt l p := by unfold child; split <;> omega
theorem child_lt (lt : Int → Int → Bool) (l : List Int) (p : Nat) (h : 2 * p + 1 < l.length) : child lt l p < l.length := by unfold child; split <;> omega
def suGo (lt : Int → Int → Bool) (pos : Nat) (l : List Int) : List Int × Nat :=
  if h : 2 * pos + 1 < l.length then suGo lt (child lt l pos) (l.set pos (l.getD (child lt l pos) 0)) else (l, pos)
termination_by l.length - pos
decreasing_by
  have := child_gt lt l pos
  rw [List.length_set]
  omega
def su (lt : Int → Int → Bool) (pos : Nat) (l : List Int) : List Int :=
  let r := suGo lt pos l
  sdGo lt (l.getD pos 0) pos r.2 (r.1.set r.2 (l.getD pos 0))

theorem siftup_spec {w : World} {A : Around} {E : Value → Shared → Prop} {s o : Shared} {Q : Value → Shared → Prop} {h₀ : Heap} {L a : Addr} {l : List (Str × Value)} {news : List (Addr × Obj)} {It : Value → Int → Prop}
    {vs : List Value} {ns : List Int} {n p : Nat} {u : Tok}
    (G : Gd w h₀) (S : At o h₀ L l ((a, lo vs n) :: news) s) (hd : A.depth + 2 < 900) (hu : A.units + 20 < 9000) (ha : ∀ q ∈ news, q.1 ≠ a) (LT : LtOk news It) (hi : Its It vs ns) (hp : p < ns.length) (hz : ns.length < 100)
    (h : ∀ vs' n' s', Its It vs' (su mn p ns) → At o h₀ L l ((a, lo vs' n') :: news) s' → Q .none s') :
    wpAny (MM w) A (call (.ref 105) [.ref a, .int p u]) Q E s := by
  refine call_mut [(Str.ofString "heap", .ref a), (Str.ofString "pos", .int p u)] G S (by show A.depth < 1000; omega) (by rfl) (by rfl) (BindsTo.of_eq rfl) (locs rfl) ?_
  intro g L' s₁ G' S₁
  obtain ⟨v, hv, hiv⟩ := hi.get hp
  have hlen := hi.length
  repeat walk_at "n"
  refine S₁.callb G' (by rfl) (by rfl) (by decide) ?_
  repeat walk_at "n"
  refine S₁.len (S₁.get (.head _)) (by omega) fun t₂ s₂ S₂ => ?_
  repeat walk_at "n"
  rename_i S₃
  refine At.itemN (S₃.get (.head _)) (by omega) hv ?_
  repeat walk_at "n"
  rename_i S₄
  refine cutNext (fun s' => ∃ (vs' : List Value) (n' : Nat) (t' : Tok), Its It vs' (suGo mn p ns).1 ∧ (suGo mn p ns).2 < (suGo mn p ns).1.length ∧ (suGo mn p ns).1.length < 100 ∧
      At o g L' [(Str.ofString "heap", .ref a), (Str.ofString "startpos", .int p u), (Str.ofString "pos", .int (suGo mn p ns).2 t'), (Str.ofString "newitem", v)] ((a, lo vs' n') :: news) s')
    (aWhile (Q := _) (fun k s' => ∃ (vs' : List Value) (ns' : List Int) (n' q : Nat) (t' t'' t₃ : Tok), Its It vs' ns' ∧ k + q = ns'.length ∧ q < ns'.length ∧ ns'.length < 100 ∧ ns'.length = vs.length ∧ suGo mn q ns' = suGo mn p ns ∧
      At o g L' [(Str.ofString "heap", .ref a), (Str.ofString "startpos", .int p u), (Str.ofString "pos", .int q t'), (Str.ofString "newitem", v), (Str.ofString "childpos", .int (2 * q + 1) t''), (Str.ofString "endpos", .int vs.length t₃)] ((a, lo vs' n') :: news) s') ?_ (ns.length - p)
    ⟨vs, ns, n, p, _, _, _, hi, by omega, hp, hz, hlen.symm, rfl, S₄.dropR rfl⟩) ?_
  · intro k s₅ zh
    refine hideG ?_
    intro zg
    obtain ⟨vs', ns', n', q, t', t'', t₃, hi', hk, hq, hz', hl', hr, S₅⟩ := zh
    have hlen' := hi'.length
    repeat walk_at "n"
    refine split_dec (fun hlt => ?_) (fun hge => ?_)
    · have hlt : 2 * q + 1 < ns'.length := by omega
      obtain ⟨vc, hvc, hivc⟩ := hi'.get hlt
      repeat walk_at "m"
      rename_i S₆
      refine cutNext (fun s' => ∃ t₄, At o g L' [(Str.ofString "childpos", .int (child mn ns' q) t₄), (Str.ofString "heap", .ref a), (Str.ofString "startpos", .int p u), (Str.ofString "pos", .int q t'), (Str.ofString "newitem", v), (Str.ofString "endpos", .int vs.length t₃)] ((a, lo vs' n') :: news) s') ?_ ?_
      · repeat walk_at "n"
        refine split_dec (fun hr1 => ?_) (fun hr1 => ?_)
        · have hr1 : 2 * q + 1 + 1 < ns'.length := by omega
          obtain ⟨vr, hvr, hivr⟩ := hi'.get hr1
          repeat walk_at "n"
          refine At.itemI (2 * q + 1) (by omega) (S₆.get (.head _)) (by omega) hvc ?_
          repeat walk_at "n"
          refine At.itemI (2 * q + 1 + 1) (by omega) (S₆.get (.head _)) (by omega) hvr ?_
          repeat walk_at "n"
          refine LT _ _ _ _ _ _ _ _ _ (fun p hp => S₆.get (.tail _ hp)) (by show A.units + 3 < 9000; omega) hivc hivr fun s₇ e₇ r₇ => ?_
          have S₇ := S₆.ofHeap e₇ r₇
          repeat walk_at "n"
          refine split_bool (fun hc => ?_) (fun hc => ?_)
          · repeat walk_at "n"
            rename_i S₈
            have e : child mn ns' q = 2 * q + 1 + 1 := by unfold child; rw [if_pos ⟨hr1, by simpa [mn] using hc⟩]
            show _ ∧ _
            rw [e]
            exact ⟨rfl, _, S₈.dropR rfl⟩
          · repeat walk_at "n"
            have e : child mn ns' q = 2 * q + 1 := by unfold child; rw [if_neg]; rintro ⟨_, h2⟩; simp [mn] at h2 hc; omega
            show _ ∧ _
            rw [e]
            exact ⟨rfl, _, S₇.dropR rfl⟩
        · repeat walk_at "n"
          have e : child mn ns' q = 2 * q + 1 := by unfold child; rw [if_neg]; rintro ⟨h1, _⟩; omega
          show _ ∧ _
          rw [e]
          exact ⟨rfl, _, S₆.dropR rfl⟩
      · rintro s₇ ⟨t₄, S₇⟩
        have hc1 := child_lt mn ns' q hlt
        have hc2 := child_gt mn ns' q
        obtain ⟨vd, hvd, hivd⟩ := hi'.get hc1
        repeat walk_at "n"
        refine At.itemN (S₇.get (.head _)) (by omega) hvd ?_
        repeat walk_at "n"
        refine S₇.setN ha (by omega) (by omega) fun s₈ S₈ => ?_
        repeat walk_at "n"
        rename_i S₉
        refine ⟨ns'.length - child mn ns' q, by omega, vs'.set q vd, ns'.set q (ns'.getD (child mn ns' q) 0), n', child mn ns' q, _, _, t₃, hi'.set hivd, by rw [List.length_set]; omega, by rw [List.length_set]; omega, by rw [List.length_set]; omega, by rw [List.length_set]; omega, ?_,
          S₉.dropR rfl⟩
        rw [← hr]
        conv => rhs; rw [suGo, dif_pos hlt]
    · have hge : ¬ 2 * q + 1 < ns'.length := by omega
      have e : suGo mn p ns = (ns', q) := by rw [← hr, suGo, dif_neg hge]
      refine ⟨rfl, vs', n', t', ?_⟩
      rw [e]
      exact ⟨hi', hq, hz', S₅.dropR rfl⟩
  · intro s₅ zh
    refine hideG ?_
    intro zg
    obtain ⟨vs', n', t', hi', hq, hz', S₅⟩ := zh
    have hlen' := hi'.length
    repeat walk_at "n"
    refine S₅.setN ha (by omega) (by omega) fun s₆ S₆ => ?_
    repeat walk_at "n"
    refine S₆.callf G' (by rfl) (by rfl) ?_
    repeat walk_at "n"
    refine ⟨⟨_, _, S₆⟩, ?_⟩
    refine siftdown_spec G' S₆ (by show A.depth + 1 + 1 < 900; omega) (by show A.units + 3 + 10 < 9000; omega) ha LT (hi'.set hiv) (by rw [List.length_set]; exact hq) (by rw [List.length_set]; exact hz') ?_
    intro vs₇ n₇ s₇ hi₇ S₇
    repeat walk_at "n"
    refine ⟨_, _, S₇, fun S' => h _ _ _ ?_ S'⟩
    have e : ((suGo mn p ns).1.set (suGo mn p ns).2 (ns.getD p 0)).getD (suGo mn p ns).2 0 = ns.getD p 0 := by
      rw [List.getD_eq_getElem?_getD, List.getElem?_set_self hq]; rfl
    rw [e] at hi₇
    exact hi₇

end
section -- NbSu2
theorem siftup_max_spec {w : World} {A : Around} {E : Value → Shared → Prop} {s o : Shared} {Q : Value → Shared → Prop} {h₀ : Heap} {L a : Addr} {l : List (Str × Value)} {news : List (Addr × Obj)} {It : Value → Int → Prop}
    {vs : List Value} {ns : List Int} {n p : Nat} {u : Tok}
    (G : Gd w h₀) (S : At o h₀ L l ((a, lo vs n) :: news) s) (hd : A.depth + 2 < 900) (hu : A.units + 20 < 9000) (ha : ∀ q ∈ news, q.1 ≠ a) (LT : LtOk news It) (hi : Its It vs ns) (hp : p < ns.length) (hz : ns.length < 100)
    (h : ∀ vs' n' s', Its It vs' (su mx p ns) → At o h₀ L l ((a, lo vs' n') :: news) s' → Q .none s') :
    wpAny (MM w) A (call (.ref 119) [.ref a, .int p u]) Q E s := by
  refine call_mut [(Str.ofString "heap", .ref a), (Str.ofString "pos", .int p u)] G S (by show A.depth < 1000; omega) (by rfl) (by rfl) (BindsTo.of_eq rfl) (locs rfl) ?_
  intro g L' s₁ G' S₁
  obtain ⟨v, hv, hiv⟩ := hi.get hp
  have hlen := hi.length
  repeat walk_at "n"
  refine S₁.callb G' (by rfl) (by rfl) (by decide) ?_
  repeat walk_at "n"
  refine S₁.len (S₁.get (.head _)) (by omega) fun t₂ s₂ S₂ => ?_
  repeat walk_at "n"
  rename_i S₃
  refine At.itemN (S₃.get (.head _)) (by omega) hv ?_
  repeat walk_at "n"
  rename_i S₄
  refine cutNext (fun s' => ∃ (vs' : List Value) (n' : Nat) (t' : Tok), Its It vs' (suGo mx p ns).1 ∧ (suGo mx p ns).2 < (suGo mx p ns).1.length ∧ (suGo mx p ns).1.length < 100 ∧
      At o g L' [(Str.ofString "heap", .ref a), (Str.ofString "startpos", .int p u), (Str.ofString "pos", .int (suGo mx p ns).2 t'), (Str.ofString "newitem", v)] ((a, lo vs' n') :: news) s')
    (aWhile (Q := _) (fun k s' => ∃ (vs' : List Value) (ns' : List Int) (n' q : Nat) (t' t'' t₃ : Tok), Its It vs' ns' ∧ k + q = ns'.length ∧ q < ns'.length ∧ ns'.length < 100 ∧ ns'.length = vs.length ∧ suGo mx q ns' = suGo mx p ns ∧
      At o g L' [(Str.ofString "heap", .ref a), (Str.ofString "startpos", .int p u), (Str.ofString "pos", .int q t'), (Str.ofString "newitem", v), (Str.ofString "childpos", .int (2 * q + 1) t''), (Str.ofString "endpos", .int vs.length t₃)] ((a, lo vs' n') :: news) s') ?_ (ns.length - p)
    ⟨vs, ns, n, p, _, _, _, hi, by omega, hp, hz, hlen.symm, rfl, S₄.dropR rfl⟩) ?_
  · intro k s₅ zh
    refine hideG ?_
    intro zg
    obtain ⟨vs', ns', n', q, t', t'', t₃, hi', hk, hq, hz', hl', hr, S₅⟩ := zh
    have hlen' := hi'.length
    repeat walk_at "n"
    refine split_dec (fun hlt => ?_) (fun hge => ?_)
    · have hlt : 2 * q + 1 < ns'.length := by omega
      obtain ⟨vc, hvc, hivc⟩ := hi'.get hlt
      repeat walk_at "m"
      rename_i S₆
      refine cutNext (fun s' => ∃ t₄, At o g L' [(Str.ofString "childpos", .int (child mx ns' q) t₄), (Str.ofString "heap", .ref a), (Str.ofString "startpos", .int p u), (Str.ofString "pos", .int q t'), (Str.ofString "newitem", v), (Str.ofString "endpos", .int vs.length t₃)] ((a, lo vs' n') :: news) s') ?_ ?_
      · repeat walk_at "n"
        refine split_dec (fun hr1 => ?_) (fun hr1 => ?_)
        · have hr1 : 2 * q + 1 + 1 < ns'.length := by omega
          obtain ⟨vr, hvr, hivr⟩ := hi'.get hr1
          repeat walk_at "n"
          refine At.itemI (2 * q + 1 + 1) (by omega) (S₆.get (.head _)) (by omega) hvr ?_
          repeat walk_at "n"
          refine At.itemI (2 * q + 1) (by omega) (S₆.get (.head _)) (by omega) hvc ?_
          repeat walk_at "n"
          refine LT _ _ _ _ _ _ _ _ _ (fun p hp => S₆.get (.tail _ hp)) (by show A.units + 3 < 9000; omega) hivr hivc fun s₇ e₇ r₇ => ?_
          have S₇ := S₆.ofHeap e₇ r₇
          repeat walk_at "n"
          refine split_bool (fun hc => ?_) (fun hc => ?_)
          · repeat walk_at "n"
            rename_i S₈
            have e : child mx ns' q = 2 * q + 1 + 1 := by unfold child; rw [if_pos ⟨hr1, by simpa [mx] using hc⟩]
            show _ ∧ _
            rw [e]
            exact ⟨rfl, _, S₈.dropR rfl⟩
          · repeat walk_at "n"
            have e : child mx ns' q = 2 * q + 1 := by unfold child; rw [if_neg]; rintro ⟨_, h2⟩; simp [mx] at h2 hc; omega
            show _ ∧ _
            rw [e]
            exact ⟨rfl, _, S₇.dropR rfl⟩
        · repeat walk_at "n"
          have e : child mx ns' q = 2 * q + 1 := by unfold child; rw [if_neg]; rintro ⟨h1, _⟩; omega
          show _ ∧ _
          rw [e]
          exact ⟨rfl, _, S₆.dropR rfl⟩
      · rintro s₇ ⟨t₄, S₇⟩
        have hc1 := child_lt mx ns' q hlt
        have hc2 := child_gt mx ns' q
        obtain ⟨vd, hvd, hivd⟩ := hi'.get hc1
        repeat walk_at "n"
        refine At.itemN (S₇.get (.head _)) (by omega) hvd ?_
        repeat walk_at "n"
        refine S₇.setN ha (by omega) (by omega) fun s₈ S₈ => ?_
        repeat walk_at "n"
        rename_i S₉
        refine ⟨ns'.length - child mx ns' q, by omega, vs'.set q vd, ns'.set q (ns'.getD (child mx ns' q) 0), n', child mx ns' q, _, _, t₃, hi'.set hivd, by rw [List.length_set]; omega, by rw [List.length_set]; omega, by rw [List.length_set]; omega, by rw [List.length_set]; omega, ?_,
          S₉.dropR rfl⟩
        rw [← hr]
        conv => rhs; rw [suGo, dif_pos hlt]
    · have hge : ¬ 2 * q + 1 < ns'.length := by omega
      have e : suGo mx p ns = (ns', q) := by rw [← hr, suGo, dif_neg hge]
      refine ⟨rfl, vs', n', t', ?_⟩
      rw [e]
      exact ⟨hi', hq, hz', S₅.dropR rfl⟩
  · intro s₅ zh
    refine hideG ?_
    intro zg
    obtain ⟨vs', n', t', hi', hq, hz', S₅⟩ := zh
    have hlen' := hi'.length
    repeat walk_at "n"
    refine S₅.setN ha (by omega) (by omega) fun s₆ S₆ => ?_
    repeat walk_at "n"
    refine S₆.callf G' (by rfl) (by rfl) ?_
    repeat walk_at "n"
    refine ⟨⟨_, _, S₆⟩, ?_⟩
    refine siftdown_max_spec G' S₆ (by show A.depth + 1 + 1 < 900; omega) (by show A.units + 3 + 10 < 9000; omega) ha LT (hi'.set hiv) (by rw [List.length_set]; exact hq) (by rw [List.length_set]; exact hz') ?_
    intro vs₇ n₇ s₇ hi₇ S₇
    repeat walk_at "n"
    refine ⟨_, _, S₇, fun S' => h _ _ _ ?_ S'⟩
    have e : ((suGo mx p ns).1.set (suGo mx p ns).2 (ns.getD p 0)).getD (suGo mx p ns).2 0 = ns.getD p 0 := by
      rw [List.getD_eq_getElem?_getD, List.getElem?_set_self hq]; rfl
    rw [e] at hi₇
    exact hi₇

end
section -- NbHp
def hpush (ns : List Int) (x : Int) : List Int := sdGo mn x 0 ns.length (ns ++ [x])
def hrep (lt : Int → Int → Bool) (ns : List Int) (x : Int) : List Int := su lt 0 (ns.set 0 x)
def hpop (lt : Int → Int → Bool) (ms : List Int) (x : Int) : Int × List Int := if ms = [] then (x, []) else (ms.getD 0 0, su lt 0 (ms.set 0 x))

theorem heappush_spec {w : World} {A : Around} {E : Value → Shared → Prop} {s o : Shared} {Q : Value → Shared → Prop} {h₀ : Heap} {L a : Addr} {l : List (Str × Value)} {news : List (Addr × Obj)} {It : Value → Int → Prop}
    {vs : List Value} {ns : List Int} {n : Nat} {v : Value} {x : Int}
    (G : Gd w h₀) (S : At o h₀ L l ((a, lo vs n) :: news) s) (hd : A.depth + 3 < 900) (hu : A.units + 30 < 9000) (ha : ∀ q ∈ news, q.1 ≠ a) (LT : LtOk news It) (hi : Its It vs ns) (hz : ns.length < 50) (hv : It v x)
    (h : ∀ vs' n' s', Its It vs' (hpush ns x) → At o h₀ L l ((a, lo vs' n') :: news) s' → Q .none s') :
    wpAny (MM w) A (call (.ref 42) [.ref a, v]) Q E s := by
  refine call_mut [(Str.ofString "heap", .ref a), (Str.ofString "item", v)] G S (by show A.depth < 1000; omega) (by rfl) (by rfl) (BindsTo.of_eq rfl) (locs rfl) ?_
  intro g L' s₁ G' S₁
  have hlen := hi.length
  repeat walk_at "n"
  refine MethodCall_ ?_
  repeat walk_at "n"
  refine At.method (S₁.get (.head _)) PySem.F.slot_list_append PySem.F.type_list_append ?_
  refine callWith_method1 ?_
  repeat walk_at "n"
  refine S₁.append ha (by omega) fun s₂ S₂ => ?_
  repeat walk_at "n"
  refine S₂.callf G' (by rfl) (by rfl) ?_
  repeat walk_at "n"
  rename_i S₃
  refine S₃.callb G' (by rfl) (by rfl) (by decide) ?_
  repeat walk_at "n"
  refine S₃.len (S₃.get (.head _)) (by rw [List.length_append]; simp; omega) fun t₄ s₄ S₄ => ?_
  repeat walk_at "n"
  rename_i S₅
  refine ⟨⟨_, _, S₅⟩, ?_⟩
  have e : (((vs ++ [v]).length : Nat) : Int) - 1 = (ns.length : Nat) := by rw [List.length_append]; simp; omega
  rw [e]
  refine siftdown_spec (start := 0) G' S₅ (by show A.depth + 1 + 1 < 900; omega) (by show A.units + 3 + 10 < 9000; omega) ha LT (hi.append (.cons hv .nil)) (by rw [List.length_append]; simp) (by rw [List.length_append]; simp; omega) ?_
  intro vs₇ n₇ s₇ hi₇ S₇
  repeat walk_at "n"
  refine ⟨_, _, S₇, fun S' => h _ _ _ ?_ S'⟩
  have e : (ns ++ [x]).getD ns.length 0 = x := by simp
  rw [e] at hi₇
  exact hi₇

theorem heapreplace_spec {w : World} {A : Around} {E : Value → Shared → Prop} {s o : Shared} {Q : Value → Shared → Prop} {h₀ : Heap} {L a : Addr} {l : List (Str × Value)} {news : List (Addr × Obj)} {It : Value → Int → Prop}
    {vs : List Value} {ns : List Int} {n : Nat} {v : Value} {x : Int}
    (G : Gd w h₀) (S : At o h₀ L l ((a, lo vs n) :: news) s) (hd : A.depth + 3 < 900) (hu : A.units + 30 < 9000) (ha : ∀ q ∈ news, q.1 ≠ a) (LT : LtOk news It) (hi : Its It vs ns) (hz : ns.length < 50) (hv : It v x) (hne : 0 < ns.length)
    (h : ∀ v' vs' n' s', It v' (ns.getD 0 0) → Its It vs' (hrep mn ns x) → At o h₀ L l ((a, lo vs' n') :: news) s' → Q v' s') :
    wpAny (MM w) A (call (.ref 56) [.ref a, v]) Q E s := by
  refine call_mut [(Str.ofString "heap", .ref a), (Str.ofString "item", v)] G S (by show A.depth < 1000; omega) (by rfl) (by rfl) (BindsTo.of_eq rfl) (locs rfl) ?_
  intro g L' s₁ G' S₁
  have hlen := hi.length
  obtain ⟨v', hv', hiv'⟩ := hi.get hne
  repeat walk_at "n"
  rename_i S₂
  refine At.itemI 0 (by rfl) (S₂.get (.head _)) (by omega) hv' ?_
  repeat walk_at "n"
  rename_i S₃
  refine At.setI 0 (by rfl) S₃ ha (by omega) (by omega) fun s₄ S₄ => ?_
  repeat walk_at "n"
  refine S₄.callf G' (by rfl) (by rfl) ?_
  repeat walk_at "n"
  rename_i S₅
  refine ⟨⟨_, _, S₅⟩, ?_⟩
  refine siftup_spec (p := 0) G' S₅ (by show A.depth + 1 + 2 < 900; omega) (by show A.units + 3 + 20 < 9000; omega) ha LT (hi.set hv) (by rw [List.length_set]; exact hne) (by rw [List.length_set]; omega) ?_
  intro vs₇ n₇ s₇ hi₇ S₇
  repeat walk_at "n"
  exact ⟨_, _, S₇, fun S' => h _ _ _ _ hiv' hi₇ S'⟩

theorem heappop_spec {w : World} {A : Around} {E : Value → Shared → Prop} {s o : Shared} {Q : Value → Shared → Prop} {h₀ : Heap} {L a : Addr} {l : List (Str × Value)} {news : List (Addr × Obj)} {It : Value → Int → Prop}
    {vs : List Value} {ms : List Int} {n : Nat} {v : Value} {x : Int}
    (G : Gd w h₀) (S : At o h₀ L l ((a, lo (vs ++ [v]) n) :: news) s) (hd : A.depth + 3 < 900) (hu : A.units + 30 < 9000) (ha : ∀ q ∈ news, q.1 ≠ a) (LT : LtOk news It) (hi : Its It vs ms) (hz : ms.length < 50) (hv : It v x)
    (h : ∀ v' vs' n' s', It v' (hpop mn ms x).1 → Its It vs' (hpop mn ms x).2 → At o h₀ L l ((a, lo vs' n') :: news) s' → Q v' s') :
    wpAny (MM w) A (call (.ref 49) [.ref a]) Q E s := by
  refine call_mut [(Str.ofString "heap", .ref a)] G S (by show A.depth < 1000; omega) (by rfl) (by rfl) (BindsTo.of_eq rfl) (locs rfl) ?_
  intro g L' s₁ G' S₁
  have hlen := hi.length
  repeat walk_at "n"
  refine MethodCall_ ?_
  repeat walk_at "n"
  refine At.method (S₁.get (.head _)) PySem.F.slot_list_pop PySem.F.type_list_pop ?_
  refine callWith_method0 ?_
  refine S₁.pop ha (by omega) fun s₂ S₂ => ?_
  repeat walk_at "n"
  rename_i S₃
  refine S₃.truthyList (S₃.get (.head _)) (by omega) fun s₄ S₄ => ?_
  cases hi with
  | nil =>
    refine ite_ff ?_
    repeat walk_at "n"
    exact ⟨_, _, S₄, fun S' => h _ _ _ _ (by rw [hpop, if_pos rfl]; exact hv) (by rw [hpop, if_pos rfl]; exact .nil) S'⟩
  | cons hv0 hi0 =>
    rename_i v0 x0 vs0 ms0
    refine ite_tt ?_
    repeat walk_at "n"
    rename_i S₅
    refine At.itemI 0 (by rfl) (S₅.get (.head _)) (by omega) rfl ?_
    repeat walk_at "n"
    rename_i S₆
    refine At.setI 0 (by rfl) S₆ ha (by simp) (by omega) fun s₇ S₇ => ?_
    repeat walk_at "n"
    refine S₇.callf G' (by rfl) (by rfl) ?_
    repeat walk_at "n"
    rename_i S₈
    refine ⟨⟨_, _, S₈⟩, ?_⟩
    refine siftup_spec (p := 0) G' S₈ (by show A.depth + 1 + 2 < 900; omega) (by show A.units + 3 + 20 < 9000; omega) ha LT ((Its.cons hv0 hi0).set hv) (by simp) (by rw [List.length_set]; omega) ?_
    intro vs₇ n₇ s₇ hi₇ S₇
    repeat walk_at "n"
    exact ⟨_, _, S₇, fun S' => h _ _ _ _ (by rw [hpop, if_neg (by simp)]; exact hv0) (by rw [hpop, if_neg (by simp)]; exact hi₇) S'⟩

end
section -- NbHp2
theorem heapreplace_max_spec {w : World} {A : Around} {E : Value → Shared → Prop} {s o : Shared} {Q : Value → Shared → Prop} {h₀ : Heap} {L a : Addr} {l : List (Str × Value)} {news : List (Addr × Obj)} {It : Value → Int → Prop}
    {vs : List Value} {ns : List Int} {n : Nat} {v : Value} {x : Int}
    (G : Gd w h₀) (S : At o h₀ L l ((a, lo vs n) :: news) s) (hd : A.depth + 3 < 900) (hu : A.units + 30 < 9000) (ha : ∀ q ∈ news, q.1 ≠ a) (LT : LtOk news It) (hi : Its It vs ns) (hz : ns.length < 50) (hv : It v x) (hne : 0 < ns.length)
    (h : ∀ v' vs' n' s', It v' (ns.getD 0 0) → Its It vs' (hrep mx ns x) → At o h₀ L l ((a, lo vs' n') :: news) s' → Q v' s') :
    wpAny (MM w) A (call (.ref 84) [.ref a, v]) Q E s := by
  refine call_mut [(Str.ofString "heap", .ref a), (Str.ofString "item", v)] G S (by show A.depth < 1000; omega) (by rfl) (by rfl) (BindsTo.of_eq rfl) (locs rfl) ?_
  intro g L' s₁ G' S₁
  have hlen := hi.length
  obtain ⟨v', hv', hiv'⟩ := hi.get hne
  repeat walk_at "n"
  rename_i S₂
  refine At.itemI 0 (by rfl) (S₂.get (.head _)) (by omega) hv' ?_
  repeat walk_at "n"
  rename_i S₃
  refine At.setI 0 (by rfl) S₃ ha (by omega) (by omega) fun s₄ S₄ => ?_
  repeat walk_at "n"
  refine S₄.callf G' (by rfl) (by rfl) ?_
  repeat walk_at "n"
  rename_i S₅
  refine ⟨⟨_, _, S₅⟩, ?_⟩
  refine siftup_max_spec (p := 0) G' S₅ (by show A.depth + 1 + 2 < 900; omega) (by show A.units + 3 + 20 < 9000; omega) ha LT (hi.set hv) (by rw [List.length_set]; exact hne) (by rw [List.length_set]; omega) ?_
  intro vs₇ n₇ s₇ hi₇ S₇
  repeat walk_at "n"
  exact ⟨_, _, S₇, fun S' => h _ _ _ _ hiv' hi₇ S'⟩

theorem heappop_max_spec {w : World} {A : Around} {E : Value → Shared → Prop} {s o : Shared} {Q : Value → Shared → Prop} {h₀ : Heap} {L a : Addr} {l : List (Str × Value)} {news : List (Addr × Obj)} {It : Value → Int → Prop}
    {vs : List Value} {ms : List Int} {n : Nat} {v : Value} {x : Int}
    (G : Gd w h₀) (S : At o h₀ L l ((a, lo (vs ++ [v]) n) :: news) s) (hd : A.depth + 3 < 900) (hu : A.units + 30 < 9000) (ha : ∀ q ∈ news, q.1 ≠ a) (LT : LtOk news It) (hi : Its It vs ms) (hz : ms.length < 50) (hv : It v x)
    (h : ∀ v' vs' n' s', It v' (hpop mx ms x).1 → Its It vs' (hpop mx ms x).2 → At o h₀ L l ((a, lo vs' n') :: news) s' → Q v' s') :
    wpAny (MM w) A (call (.ref 77) [.ref a]) Q E s := by
  refine call_mut [(Str.ofString "heap", .ref a)] G S (by show A.depth < 1000; omega) (by rfl) (by rfl) (BindsTo.of_eq rfl) (locs rfl) ?_
  intro g L' s₁ G' S₁
  have hlen := hi.length
  repeat walk_at "n"
  refine MethodCall_ ?_
  repeat walk_at "n"
  refine At.method (S₁.get (.head _)) PySem.F.slot_list_pop PySem.F.type_list_pop ?_
  refine callWith_method0 ?_
  refine S₁.pop ha (by omega) fun s₂ S₂ => ?_
  repeat walk_at "n"
  rename_i S₃
  refine S₃.truthyList (S₃.get (.head _)) (by omega) fun s₄ S₄ => ?_
  cases hi with
  | nil =>
    refine ite_ff ?_
    repeat walk_at "n"
    exact ⟨_, _, S₄, fun S' => h _ _ _ _ (by rw [hpop, if_pos rfl]; exact hv) (by rw [hpop, if_pos rfl]; exact .nil) S'⟩
  | cons hv0 hi0 =>
    rename_i v0 x0 vs0 ms0
    refine ite_tt ?_
    repeat walk_at "n"
    rename_i S₅
    refine At.itemI 0 (by rfl) (S₅.get (.head _)) (by omega) rfl ?_
    repeat walk_at "n"
    rename_i S₆
    refine At.setI 0 (by rfl) S₆ ha (by simp) (by omega) fun s₇ S₇ => ?_
    repeat walk_at "n"
    refine S₇.callf G' (by rfl) (by rfl) ?_
    repeat walk_at "n"
    rename_i S₈
    refine ⟨⟨_, _, S₈⟩, ?_⟩
    refine siftup_max_spec (p := 0) G' S₈ (by show A.depth + 1 + 2 < 900; omega) (by show A.units + 3 + 20 < 9000; omega) ha LT ((Its.cons hv0 hi0).set hv) (by simp) (by rw [List.length_set]; omega) ?_
    intro vs₇ n₇ s₇ hi₇ S₇
    repeat walk_at "n"
    exact ⟨_, _, S₇, fun S' => h _ _ _ _ (by rw [hpop, if_neg (by simp)]; exact hv0) (by rw [hpop, if_neg (by simp)]; exact hi₇) S'⟩

end
set_option hygiene false in
local macro_rules | `(tactic| walk_at "m") => `(tactic| first
  | ((with_reducible show wpAny _ _ (exec (Stmt.Assign [Expr.Tuple _ _ _] _ _) _) _ _ _); refine Assign_Tuple ?_)
  | ((with_reducible show wpAny _ _ (eval (Expr.Tuple _ _ _) _) _ _ _); refine Tuple_ ?_)
  | ((with_reducible show wpAny _ _ (eval (Expr.List _ _) _) _ _ _); refine List_ ?_))
section -- NbPP

def hpp (ns : List Int) (x : Int) : Int × List Int := if 0 < ns.length ∧ ns.getD 0 0 < x then (ns.getD 0 0, su mn 0 (ns.set 0 x)) else (x, ns)

theorem heappushpop_spec {w : World} {A : Around} {E : Value → Shared → Prop} {s o : Shared} {Q : Value → Shared → Prop} {h₀ : Heap} {L a : Addr} {l : List (Str × Value)} {news : List (Addr × Obj)} {It : Value → Int → Prop}
    {vs : List Value} {ns : List Int} {n : Nat} {v : Value} {x : Int}
    (G : Gd w h₀) (S : At o h₀ L l ((a, lo vs n) :: news) s) (hh : A.handled = none) (hd : A.depth + 3 < 900) (hu : A.units + 30 < 9000) (ha : ∀ q ∈ news, q.1 ≠ a) (LT : LtOk news It) (hi : Its It vs ns) (hz : ns.length < 50) (hv : It v x)
    (h : ∀ v' vs' n' s', It v' (hpp ns x).1 → Its It vs' (hpp ns x).2 → At o h₀ L l ((a, lo vs' n') :: news) s' → Q v' s') :
    wpAny (MM w) A (call (.ref 63) [.ref a, v]) Q E s := by
  refine call_mut [(Str.ofString "heap", .ref a), (Str.ofString "item", v)] G S (by show A.depth < 1000; omega) (by rfl) (by rfl) (BindsTo.of_eq rfl) (locs rfl) ?_
  intro g L' s₁ G' S₁
  have hlen := hi.length
  repeat walk_at "n"
  refine S₁.truthyList (S₁.get (.head _)) (by omega) fun s₂ S₂ => ?_
  cases hi with
  | nil =>
    refine ite_ff ?_
    repeat walk_at "n"
    exact ⟨_, _, S₂, fun S' => h _ _ _ _ (by rw [hpp, if_neg (by simp)]; exact hv) (by rw [hpp, if_neg (by simp)]; exact .nil) S'⟩
  | cons hv0 hi0 =>
    rename_i v0 x0 vs0 ms0
    refine ite_tt ?_
    repeat walk_at "n"
    rename_i S₃
    refine At.itemI 0 (by rfl) (S₃.get (.head _)) (by omega) rfl ?_
    repeat walk_at "n"
    refine LT _ _ _ _ _ _ _ _ _ (fun p hp => S₃.get (.tail _ hp)) (by show A.units + 3 < 9000; omega) hv0 hv fun s₄ e₄ r₄ => ?_
    have S₄ := S₃.ofHeap e₄ r₄
    repeat walk_at "n"
    refine split_dec (fun hc => ?_) (fun hc => ?_)
    · repeat walk_at "n"
      rename_i S₅
      refine At.itemI 0 (by rfl) (S₅.get (.head _)) (by omega) rfl ?_
      repeat walk_at "n"
      refine S₅.newTuple (by simp) fun T s₆ S₆ hT => ?_
      refine S₆.unpack (S₆.get (.head _)) hh (by rfl) (by rfl) fun s₇ S₇ => ?_
      refine assignInOrder_cons (assign_Name ?_)
      repeat walk_at "n"
      rename_i S₈
      refine assignInOrder_cons (kas_sub ?_)
      repeat walk_at "n"
      rename_i S₉
      have S₉ := S₉.less (news' := (a, lo (v0 :: vs0) n) :: news) (fun p hp => .tail _ hp)
      refine At.setI 0 (by rfl) S₉ ha (by simp) (by omega) fun s₁₀ S₁₀ => ?_
      refine assignInOrder_nil ?_
      repeat walk_at "n"
      refine S₁₀.callf G' (by rfl) (by rfl) ?_
      repeat walk_at "n"
      rename_i S₁₁
      refine ⟨⟨_, _, S₁₁⟩, ?_⟩
      refine siftup_spec (p := 0) G' S₁₁ (by show A.depth + 1 + 2 < 900; omega) (by show A.units + 3 + 20 < 9000; omega) ha LT ((Its.cons hv0 hi0).set hv) (by simp) (by rw [List.length_set]; omega) ?_
      intro vs₇ n₇ s₇ hi₇ S₇
      repeat walk_at "n"
      have e : hpp (x0 :: ms0) x = (x0, su mn 0 ((x0 :: ms0).set 0 x)) := by rw [hpp, if_pos ⟨by simp, hc⟩]; rfl
      exact ⟨_, _, S₇, fun S' => h _ _ _ _ (by rw [e]; exact hv0) (by rw [e]; exact hi₇) S'⟩
    · repeat walk_at "n"
      have e : hpp (x0 :: ms0) x = (x, x0 :: ms0) := by rw [hpp, if_neg]; rintro ⟨_, h2⟩; exact hc h2
      exact ⟨_, _, S₄, fun S' => h _ _ _ _ (by rw [e]; exact hv) (by rw [e]; exact .cons hv0 hi0) S'⟩

end
section -- NbRng
abbrev rngObj (n : Int) (t u v : Tok) : Obj := { cls := .type "range", data := .fields #[.int 0 t, .int n u, .int 1 v] }
abbrev rit (x left step : Int) : Obj := { cls := .type "range_iterator", dict := none, data := .fields #[rawInt x, rawInt left, rawInt step], slots := #[] }
theorem sub_rit_reversed : isSubtype (.type "range_iterator") (.type "reversed") = pure false := by rw [isSubtype_type]; kernel_rfl
theorem ai (i : Int) (t : Tok) : asInt? (.int i t) = pure (some i) := rfl
theorem rsize (n : Nat) : Builtin.Range.rangeSize 0 n 1 = n := by rw [rangeSize_one]; split <;> omega

section
variable {prog : Program} {w : World} {A : Around} {E : Value → Shared → Prop} {s o : Shared} {L a : Addr} {h₀ : Heap} {l : List (Str × Value)} {news : List (Addr × Obj)} {t u v : Tok}
def revSmall (a b c : Int) : Bool := Builtin.Range.rangeFitsLong a && Builtin.Range.rangeFitsLong b && Builtin.Range.rangeFitsLong c && Builtin.Range.rangeFitsLong (-c) && Builtin.Range.rangeFitsLong (a - c) && Builtin.Range.rangeFitsLong (Builtin.Range.rangeSize a b c)
theorem call_range_reversed_any {r : Addr} {a b c : Int} {Q : Value → Shared → Prop} (hr : s.heap.get? r = some { cls := .type "range", dict := none, data := .fields #[.int a t, .int b u, .int c v], slots := #[] }) (hsm : revSmall a b c = true)
    (h : Q (.ref s.heap.objs.size) { s with heap := s.heap.push (rit (a + (Builtin.Range.rangeSize a b c - 1) * c) (Builtin.Range.rangeSize a b c) (-c)) }) : wpAny (model prog w) A (call (.builtin "range.__reversed__") [.ref r]) Q E s := by
  have hT : s.TypeIs (.ref r) "range" := ⟨_, hr, rfl⟩
  refine wpAny_call_entry F.slot_range_reversed hT F.entry_range_reversed ?_ (F.args_range_reversed_1 _)
  unfold Builtin.«range.__reversed__»
  refine wpAny_bind (wpAny_of_eq (a := .ref r) (by rfl) ?_)
  unfold Builtin.Range.rangeFields
  refine wpAny_bind ?_
  refine wpAny_bind (wpAny_field hr rfl (x := .int a t) rfl (wpAny_bind (wpAny_of_eq (ai a t) ?_)))
  refine wpAny_bind (wpAny_field hr rfl (x := .int b u) rfl (wpAny_bind (wpAny_of_eq (ai b u) ?_)))
  refine wpAny_bind (wpAny_field hr rfl (x := .int c v) rfl (wpAny_bind (wpAny_of_eq (ai c v) ?_)))
  refine wpAny_pure ?_
  dsimp only
  unfold revSmall at hsm
  rw [hsm]
  refine bm_if_false rfl ?_
  rw [if_pos rfl]
  exact wpAny_bind (wpAny_newObj_type (wpAny_pure ⟨_, rfl, h⟩) (by size_fits))
theorem revSmall_ok (n : Nat) (hn : n < 1000) : revSmall 0 n 1 = true := by
  unfold revSmall
  rw [rsize]
  simp only [Builtin.Range.rangeFitsLong, Bool.and_eq_true, decide_eq_true_eq]
  omega
theorem call_range_reversed {r : Addr} {n : Nat} {Q : Value → Shared → Prop} (hr : s.heap.get? r = some (rngObj n t u v)) (hn : n < 1000)
    (h : Q (.ref s.heap.objs.size) { s with heap := s.heap.push (rit (n - 1) n (-1)) }) : wpAny (model prog w) A (call (.builtin "range.__reversed__") [.ref r]) Q E s := by
  refine call_range_reversed_any hr (revSmall_ok n hn) ?_
  rw [rsize]
  have e : (0 : Int) + ((n : Int) - 1) * 1 = n - 1 := by omega
  rw [e]
  exact h

theorem code_reversed_range {r : Addr} {n : Nat} {Q₁ : Value → Shared → Prop} (hr : s.heap.get? r = some (rngObj n t u v)) (hn : n < 1000)
    (h : Q₁ (.ref s.heap.objs.size) { s with heap := s.heap.push (rit (n - 1) n (-1)) }) :
    codeAny (model prog w) A (.call (.builtin "reversed.__new__") ⟨[.type "reversed", .ref r], []⟩) (wants Q₁ E) s := by
  have hT : s.TypeIs (.ref r) "range" := ⟨_, hr, rfl⟩
  refine codeAny_call_builtin F.plain_reversed_new F.entry_reversed_new (wpAny_of_eq (F.newCall_reversed_1 _) ?_)
  unfold Builtin.«reversed.__new__»
  refine wpAny_bind (wpAny_of_eq (newClass_reversed _) ?_)
  try dsimp only
  refine wpAny_bind (wpAny_of_eq (a := ()) (by first | rfl | kernel_rfl) ?_)
  refine wpAny_bind (wpAny_of_eq (a := ()) (by first | rfl | kernel_rfl) ?_)
  try dsimp only
  refine wpAny_bind (wpAny_specialOf hT F.slot_range_reversed.lookup ?_)
  try dsimp only
  refine wpAny_bind (wpAny_of_eq (F.slot_range_reversed.bind _) ?_)
  try dsimp only
  refine bm_if_false (by decide) ?_
  refine wpAny_bind (wpAny_rule ?_)
  refine wpAny_bind (m := runValue (.call (.builtin "range.__reversed__") ⟨[.ref r], []⟩)) (show wpAny _ _ (call (.builtin "range.__reversed__") [.ref r]) _ _ _ from call_range_reversed hr hn ?_)
  first
  | exact wpAny_pure h
  | exact wpAny_bind (wpAny_pure (wpAny_pure h))

theorem At.push (S : At o h₀ L l news s) (ob : Obj) (tk : Nat) (hf : ob.isFreed = false := by rfl) : At o h₀ L l ((s.heap.objs.size, ob) :: news) { s with heap := s.heap.push ob, toks := tk } := by
  obtain ⟨⟨m, F, hm⟩, N, R⟩ := S
  exact ⟨⟨m, F.push ob, hm⟩, N.push F ob hf, R.trans ⟨rfl, rfl, rfl⟩⟩
theorem At.newAddr (S : At o h₀ L l news s) : ∀ p ∈ news, p.1 ≠ s.heap.objs.size := fun p hp => Nat.ne_of_lt (Heap.lt_size (S.N p hp).1)

theorem At.reversedRange {r : Addr} {n : Nat} {Q : Value → Shared → Prop} (S : At o h₀ L l news s) (hr : s.heap.get? r = some (rngObj n t u v)) (hn : n < 1000)
    (h : ∀ it s', At o h₀ L l ((it, rit (n - 1) n (-1)) :: news) s' → (∀ p ∈ news, p.1 ≠ it) → Q (.ref it) s') : wpAny (model prog w) A (call (.type "reversed") [.ref r]) Q E s := by
  refine callType_other (U := "range_iterator") (Q₁ := fun obj s₁ => obj = .ref s.heap.objs.size ∧ s₁ = { s with heap := s.heap.push (rit (n - 1) n (-1)) }) (by decide +kernel) F.create_reversed ⟨_, _, F.mro_reversed⟩ F.made_reversed sub_rit_reversed (F.typeCall_reversed_1 _) (code_reversed_range hr hn ⟨rfl, rfl⟩) ?_
  rintro obj s₁ ⟨rfl, rfl⟩
  exact ⟨⟨_, Heap.get?_push_size _ rfl, rfl⟩, h _ _ (S.push _ s.toks) S.newAddr⟩
theorem At.range {n : Int} {Q : Value → Shared → Prop} (S : At o h₀ L l news s)
    (h : ∀ r t v s', At o h₀ L l ((r, rngObj n t u v) :: news) s' → (∀ p ∈ news, p.1 ≠ r) → Q (.ref r) s') : wpAny (model prog w) A (call (.type "range") [.int n u]) Q E s :=
  call_range_1 (h _ _ _ _ (S.push _ _) S.newAddr)
theorem At.iterRange {r : Addr} {n : Nat} {Q : Value → Shared → Prop} (S : At o h₀ L l news s) (hr : s.heap.get? r = some (rngObj n t u v)) (hn : n < 1000)
    (h : ∀ it s', At o h₀ L l ((it, rit 0 n 1) :: news) s' → (∀ p ∈ news, p.1 ≠ it) → Q (.ref it) s') : wpAny (model prog w) A (pyIter (.ref r)) Q E s := by
  refine wpAny_pyIter_range hr (small_one (by decide) (by decide) (by omega) (by omega)) ?_
  rw [rsize]
  exact h _ _ (S.push _ s.toks) S.newAddr
theorem At.iterSelf {it : Addr} {x left step : Int} {Q : Value → Shared → Prop} (hit : s.heap.get? it = some (rit x left step)) (h : Q (.ref it) s) : wpAny (model prog w) A (pyIter (.ref it)) Q E s :=
  wpAny_pyIter_rangeiter hit h
theorem At.nextRange {it : Addr} {x left step : Int} {Q : Option Value → Shared → Prop} (S : At o h₀ L l ((it, rit x left step) :: news) s) (ha : ∀ p ∈ news, p.1 ≠ it) (hl : 0 < left)
    (h : ∀ t s', At o h₀ L l ((it, rit (x + step) (left - 1) step) :: news) s' → Q (some (.int x t)) s') : wpAny (model prog w) A (pyNext (.ref it)) Q E s :=
  wpAny_pyNext_range_item (S.get (.head _)) hl fun h' hit hs => h _ _ (S.upd ha hs hit)
theorem At.doneRange {it : Addr} {x left step : Int} {Q : Option Value → Shared → Prop} (S : At o h₀ L l ((it, rit x left step) :: news) s) (ha : ∀ p ∈ news, p.1 ≠ it) (hh : A.handled = none) (hl : left ≤ 0)
    (h : ∀ s', At o h₀ L l news s' → Q none s') : wpAny (model prog w) A (pyNext (.ref it)) Q E s := by
  refine wpAny_pyNext_range_end hh (S.get (.head _)) hl fun h' he => h _ ?_
  obtain ⟨⟨m, F, hm⟩, N, R⟩ := S
  have z := N _ (.head _)
  refine ⟨⟨m, ⟨F.ns.extBut he (Ne.symm z.2.1), fun b x e => he b x (fun q => ?_) (F.keep b x e), F.above⟩, hm⟩, fun p hp => ⟨he _ _ (ha p hp) (N p (.tail _ hp)).1, (N p (.tail _ hp)).2⟩, R.trans ⟨rfl, rfl, rfl⟩⟩
  have := z.2.2
  rw [← q] at this
  rw [this] at e; cases e
theorem At.floordiv {i j : Int} {k : Int} {Q : Value → Shared → Prop} (S : At o h₀ L l news s) (hj : 0 < j) (hb : j < 1000000000) (he : i.fdiv j = k) (h : ∀ t s', At o h₀ L l news s' → Q (.int k t) s') :
    wpAny (model prog w) A (binaryOp .FloorDiv (.int i t) (.int j u)) Q E s :=
  floordiv_int (by omega) (he ▸ h _ _ (S.toks _)) (Or.inl (PyProof.noPylong_small (by omega)))
theorem At.mod {i j : Int} {k : Int} {Q : Value → Shared → Prop} (S : At o h₀ L l news s) (hj : 0 < j) (he : i.fmod j = k) (h : ∀ t s', At o h₀ L l news s' → Q (.int k t) s') :
    wpAny (model prog w) A (binaryOp .Mod (.int i t) (.int j u)) Q E s :=
  mod_int' (by omega) (he ▸ h _ _ (S.toks _))
end

end
section -- NbFy
def hifyGo (lt : Int → Int → Bool) : Nat → List Int → List Int
  | 0, l => l
  | k + 1, l => hifyGo lt k (su lt k l)
def hify (lt : Int → Int → Bool) (ns : List Int) : List Int := hifyGo lt (ns.length / 2) ns
theorem sdGo_length (lt : Int → Int → Bool) (x : Int) (start pos : Nat) (l : List Int) : (sdGo lt x start pos l).length = l.length := by
  induction pos using Nat.strongRecOn generalizing l with
  | ind pos ih =>
    rw [sdGo]
    split
    · split
      · rw [ih _ (by omega), List.length_set]
      · rw [List.length_set]
    · rw [List.length_set]
theorem suGo_length (lt : Int → Int → Bool) (pos : Nat) (l : List Int) : (suGo lt pos l).1.length = l.length := by
  suffices h : ∀ k pos (l : List Int), l.length - pos = k → (suGo lt pos l).1.length = l.length from h _ pos l rfl
  intro k
  induction k using Nat.strongRecOn with
  | ind k ih =>
    intro pos l hk
    rw [suGo]
    split
    · rename_i h
      have := child_gt lt l pos
      rw [ih (l.length - child lt l pos) (by omega) (child lt l pos) _ (by rw [List.length_set]), List.length_set]
    · rfl
theorem su_length (lt : Int → Int → Bool) (pos : Nat) (l : List Int) : (su lt pos l).length = l.length := by
  rw [su, sdGo_length, List.length_set, suGo_length]

theorem heapify_spec {w : World} {A : Around} {E : Value → Shared → Prop} {s o : Shared} {Q : Value → Shared → Prop} {h₀ : Heap} {L a : Addr} {l : List (Str × Value)} {news : List (Addr × Obj)} {It : Value → Int → Prop}
    {vs : List Value} {ns : List Int} {n : Nat}
    (G : Gd w h₀) (S : At o h₀ L l ((a, lo vs n) :: news) s) (hh : A.handled = none) (hd : A.depth + 3 < 900) (hu : A.units + 30 < 9000) (ha : ∀ q ∈ news, q.1 ≠ a) (LT : LtOk news It) (hi : Its It vs ns) (hz : ns.length < 50)
    (h : ∀ vs' n' s', Its It vs' (hify mn ns) → At o h₀ L l ((a, lo vs' n') :: news) s' → Q .none s') :
    wpAny (MM w) A (call (.ref 70) [.ref a]) Q E s := by
  refine call_mut [(Str.ofString "x", .ref a)] G S (by show A.depth < 1000; omega) (by rfl) (by rfl) (BindsTo.of_eq rfl) (locs rfl) ?_
  intro g L' s₁ G' S₁
  have hlen := hi.length
  repeat walk_at "n"
  refine S₁.callb G' (by rfl) (by rfl) (by decide) ?_
  repeat walk_at "n"
  refine S₁.len (S₁.get (.head _)) (by omega) fun t₂ s₂ S₂ => ?_
  repeat walk_at "n"
  rename_i S₃
  refine cutNext (fun s' => ∃ (vs' : List Value) (n' : Nat), Its It vs' (hify mn ns) ∧ At o g L' [] ((a, lo vs' n') :: news) s') (aFor ?_) ?_
  · refine S₃.callt G' (by rfl) (by rfl) (by decide) ?_
    repeat walk_at "n"
    refine S₃.callt G' (by rfl) (by rfl) (by decide) ?_
    repeat walk_at "n"
    rename_i S₄
    have e : ((vs.length : Nat) : Int).fdiv 2 = ((ns.length / 2 : Nat) : Int) := by rw [Int.fdiv_eq_ediv_of_nonneg _ (by decide)]; omega
    refine S₄.floordiv (by decide) (by decide) e fun t₅ s₅ S₅ => ?_
    repeat walk_at "n"
    refine S₅.range fun r t₆ v₆ s₆ S₆ hr => ?_
    repeat walk_at "n"
    refine S₆.reversedRange (S₆.get (.head _)) (by omega) fun it s₇ S₇ hit => ?_
    refine At.iterSelf (S₇.get (.head _)) ?_
    refine ⟨fun k s' => k ≤ ns.length / 2 + 1 ∧ ∃ (vs' : List Value) (ns' : List Int) (n' : Nat), Its It vs' ns' ∧ ns'.length = ns.length ∧ 1 ≤ k ∧ hifyGo mn (k - 1) ns' = hify mn ns ∧
      At o g L' [(Str.ofString "x", .ref a)] ((it, rit (((k - 1 : Nat) : Int) - 1) ((k - 1 : Nat) : Int) (-1)) :: (a, lo vs' n') :: news) s', ns.length / 2 + 1, ⟨Nat.le_refl _, vs, ns, n, hi, rfl, by omega, rfl, ?_⟩, ?_⟩
    · refine (S₇.dropR rfl).less ?_
      intro p hp
      rcases List.mem_cons.mp hp with rfl | hp
      · exact .head _
      · exact .tail _ (.tail _ hp)
    · intro k s₈ zh
      refine hideG ?_
      intro zg
      obtain ⟨hk, vs', ns', n', hi', hl', hk1, hr', S₈⟩ := zh
      have hlen' := hi'.length
      have hit' : ∀ p ∈ (a, lo vs' n') :: news, p.1 ≠ it := by
        intro p hp
        rcases List.mem_cons.mp hp with rfl | hp
        · exact hit (a, lo vs n) (.tail _ (.head _))
        · exact hit p (.tail _ (.tail _ hp))
      by_cases hk2 : k = 1
      · subst hk2
        refine S₈.doneRange hit' hh (by simp) fun s₉ S₉ => ?_
        exact ⟨rfl, vs', n', by rw [← hr']; exact hi', S₉.drop (List.forall_mem_nil _)⟩
      · obtain ⟨j, rfl⟩ : ∃ j, k = j + 2 := ⟨k - 2, by omega⟩
        refine S₈.nextRange hit' (by omega) fun t₉ s₉ S₉ => ?_
        have e1 : (((j + 2 - 1 : Nat) : Int) - 1) = (j : Nat) := by omega
        rw [e1] at S₉ ⊢
        refine assign_Name ?_
        repeat walk_at "n"
        rename_i S₁₀
        refine S₁₀.callf G' (by rfl) (by rfl) ?_
        repeat walk_at "n"
        refine ⟨⟨_, _, S₁₀⟩, ?_⟩
        have S₁₁ := S₁₀.less (news' := (a, lo vs' n') :: (it, rit ((j : Int) + -1) (j : Int) (-1)) :: news) (fun p hp => by
          rcases List.mem_cons.mp hp with rfl | hp
          · exact .tail _ (.head _)
          · rcases List.mem_cons.mp hp with rfl | hp
            · exact .head _
            · exact .tail _ (.tail _ hp))
        refine siftup_spec (p := j) G' S₁₁ (by show A.depth + 1 + 2 < 900; omega) (by show A.units + 3 + 20 < 9000; omega) (fun q hq => ?_) (fun w A E s v v' n n' Q hn hA => LT w A E s v v' n n' Q (fun p hp => hn p (.tail _ hp)) hA) hi' (by omega) (by omega) ?_
        · rcases List.mem_cons.mp hq with rfl | hq
          · exact Ne.symm (hit' _ (.head _))
          · exact ha q hq
        · intro vs₇ n₇ s₇ hi₇ S₇
          repeat walk_at "n"
          refine ⟨j + 1, by omega, by omega, vs₇, _, n₇, hi₇, by rw [su_length]; exact hl', by omega, hr', ?_⟩
          refine (S₇.dropR rfl).less (fun p hp => ?_)
          rcases List.mem_cons.mp hp with rfl | hp
          · exact .tail _ (.head _)
          · rcases List.mem_cons.mp hp with rfl | hp
            · exact .head _
            · exact .tail _ (.tail _ hp)
  · intro s₈ zh
    refine hideG ?_
    intro zg
    obtain ⟨vs', n', hi', S₈⟩ := zh
    repeat walk_at "n"
    exact ⟨_, _, S₈, fun S' => h _ _ _ hi' S'⟩

end
section -- NbFy2
theorem heapify_max_spec {w : World} {A : Around} {E : Value → Shared → Prop} {s o : Shared} {Q : Value → Shared → Prop} {h₀ : Heap} {L a : Addr} {l : List (Str × Value)} {news : List (Addr × Obj)} {It : Value → Int → Prop}
    {vs : List Value} {ns : List Int} {n : Nat}
    (G : Gd w h₀) (S : At o h₀ L l ((a, lo vs n) :: news) s) (hh : A.handled = none) (hd : A.depth + 3 < 900) (hu : A.units + 30 < 9000) (ha : ∀ q ∈ news, q.1 ≠ a) (LT : LtOk news It) (hi : Its It vs ns) (hz : ns.length < 50)
    (h : ∀ vs' n' s', Its It vs' (hify mx ns) → At o h₀ L l ((a, lo vs' n') :: news) s' → Q .none s') :
    wpAny (MM w) A (call (.ref 91) [.ref a]) Q E s := by
  refine call_mut [(Str.ofString "x", .ref a)] G S (by show A.depth < 1000; omega) (by rfl) (by rfl) (BindsTo.of_eq rfl) (locs rfl) ?_
  intro g L' s₁ G' S₁
  have hlen := hi.length
  repeat walk_at "n"
  refine S₁.callb G' (by rfl) (by rfl) (by decide) ?_
  repeat walk_at "n"
  refine S₁.len (S₁.get (.head _)) (by omega) fun t₂ s₂ S₂ => ?_
  repeat walk_at "n"
  rename_i S₃
  refine cutNext (fun s' => ∃ (vs' : List Value) (n' : Nat), Its It vs' (hify mx ns) ∧ At o g L' [] ((a, lo vs' n') :: news) s') (aFor ?_) ?_
  · refine S₃.callt G' (by rfl) (by rfl) (by decide) ?_
    repeat walk_at "n"
    refine S₃.callt G' (by rfl) (by rfl) (by decide) ?_
    repeat walk_at "n"
    rename_i S₄
    have e : ((vs.length : Nat) : Int).fdiv 2 = ((ns.length / 2 : Nat) : Int) := by rw [Int.fdiv_eq_ediv_of_nonneg _ (by decide)]; omega
    refine S₄.floordiv (by decide) (by decide) e fun t₅ s₅ S₅ => ?_
    repeat walk_at "n"
    refine S₅.range fun r t₆ v₆ s₆ S₆ hr => ?_
    repeat walk_at "n"
    refine S₆.reversedRange (S₆.get (.head _)) (by omega) fun it s₇ S₇ hit => ?_
    refine At.iterSelf (S₇.get (.head _)) ?_
    refine ⟨fun k s' => k ≤ ns.length / 2 + 1 ∧ ∃ (vs' : List Value) (ns' : List Int) (n' : Nat), Its It vs' ns' ∧ ns'.length = ns.length ∧ 1 ≤ k ∧ hifyGo mx (k - 1) ns' = hify mx ns ∧
      At o g L' [(Str.ofString "x", .ref a)] ((it, rit (((k - 1 : Nat) : Int) - 1) ((k - 1 : Nat) : Int) (-1)) :: (a, lo vs' n') :: news) s', ns.length / 2 + 1, ⟨Nat.le_refl _, vs, ns, n, hi, rfl, by omega, rfl, ?_⟩, ?_⟩
    · refine (S₇.dropR rfl).less ?_
      intro p hp
      rcases List.mem_cons.mp hp with rfl | hp
      · exact .head _
      · exact .tail _ (.tail _ hp)
    · intro k s₈ zh
      refine hideG ?_
      intro zg
      obtain ⟨hk, vs', ns', n', hi', hl', hk1, hr', S₈⟩ := zh
      have hlen' := hi'.length
      have hit' : ∀ p ∈ (a, lo vs' n') :: news, p.1 ≠ it := by
        intro p hp
        rcases List.mem_cons.mp hp with rfl | hp
        · exact hit (a, lo vs n) (.tail _ (.head _))
        · exact hit p (.tail _ (.tail _ hp))
      by_cases hk2 : k = 1
      · subst hk2
        refine S₈.doneRange hit' hh (by simp) fun s₉ S₉ => ?_
        exact ⟨rfl, vs', n', by rw [← hr']; exact hi', S₉.drop (List.forall_mem_nil _)⟩
      · obtain ⟨j, rfl⟩ : ∃ j, k = j + 2 := ⟨k - 2, by omega⟩
        refine S₈.nextRange hit' (by omega) fun t₉ s₉ S₉ => ?_
        have e1 : (((j + 2 - 1 : Nat) : Int) - 1) = (j : Nat) := by omega
        rw [e1] at S₉ ⊢
        refine assign_Name ?_
        repeat walk_at "n"
        rename_i S₁₀
        refine S₁₀.callf G' (by rfl) (by rfl) ?_
        repeat walk_at "n"
        refine ⟨⟨_, _, S₁₀⟩, ?_⟩
        have S₁₁ := S₁₀.less (news' := (a, lo vs' n') :: (it, rit ((j : Int) + -1) (j : Int) (-1)) :: news) (fun p hp => by
          rcases List.mem_cons.mp hp with rfl | hp
          · exact .tail _ (.head _)
          · rcases List.mem_cons.mp hp with rfl | hp
            · exact .head _
            · exact .tail _ (.tail _ hp))
        refine siftup_max_spec (p := j) G' S₁₁ (by show A.depth + 1 + 2 < 900; omega) (by show A.units + 3 + 20 < 9000; omega) (fun q hq => ?_) (fun w A E s v v' n n' Q hn hA => LT w A E s v v' n n' Q (fun p hp => hn p (.tail _ hp)) hA) hi' (by omega) (by omega) ?_
        · rcases List.mem_cons.mp hq with rfl | hq
          · exact Ne.symm (hit' _ (.head _))
          · exact ha q hq
        · intro vs₇ n₇ s₇ hi₇ S₇
          repeat walk_at "n"
          refine ⟨j + 1, by omega, by omega, vs₇, _, n₇, hi₇, by rw [su_length]; exact hl', by omega, hr', ?_⟩
          refine (S₇.dropR rfl).less (fun p hp => ?_)
          rcases List.mem_cons.mp hp with rfl | hp
          · exact .tail _ (.head _)
          · rcases List.mem_cons.mp hp with rfl | hp
            · exact .head _
            · exact .tail _ (.tail _ hp)
  · intro s₈ zh
    refine hideG ?_
    intro zg
    obtain ⟨vs', n', hi', S₈⟩ := zh
    repeat walk_at "n"
    exact ⟨_, _, S₈, fun S' => h _ _ _ hi' S'⟩

end
section -- NbDd
section
variable {prog : Program} {w : World} {A : Around} {E : Value → Shared → Prop} {s o : Shared} {L a b : Addr} {h₀ : Heap} {l : List (Str × Value)} {news : List (Addr × Obj)} {t u v : Tok} {vs us : List Value} {n k : Nat}
theorem At.inTup {T : Addr} {ns : List Int} {x : Int} {Q : Value → Shared → Prop} (ht : s.heap.get? T = some (tup vs)) (hi : IntsAre vs ns) (h : Q (.bool (ns.any (· == x))) s) :
    wpAny (model prog w) A (compareOp .In (.int x u) (.ref T)) Q E s :=
  in_tuple_ints (items := vs.toArray) ⟨_, ht, rfl, _, rfl⟩ (by simpa using hi) h
theorem At.copyList {Q : Value → Shared → Prop} (S : At o h₀ L l news s) (ha : s.heap.get? a = some (lo vs n)) (hz : vs.length < 1000)
    (h : ∀ b c s', At o h₀ L l ((b, lo vs c) :: news) s' → (∀ p ∈ news, p.1 ≠ b) → Q (.ref b) s') : wpAny (model prog w) A (call (.type "list") [.ref a]) Q E s := by
  obtain ⟨⟨m, F, hm⟩, N, R⟩ := S
  exact list_copyK F N (isListOf ha) (fun D c h' F' N' hlt => h D c _ ⟨⟨m, F', hm⟩, N', R.trans ⟨rfl, rfl, rfl⟩⟩ fun p hp => Nat.ne_of_lt (hlt p hp)) (by rw [List.size_toArray]; show _ ≤ 2 ^ 24; omega)
theorem At.addList {Q : Value → Shared → Prop} (S : At o h₀ L l news s) (ha : s.heap.get? a = some (lo vs n)) (hb : s.heap.get? b = some (lo us k)) (hz : vs.length < 1000) (hz' : us.length < 1000)
    (h : ∀ c s', At o h₀ L l ((c, lo (vs ++ us) 0) :: news) s' → (∀ p ∈ news, p.1 ≠ c) → Q (.ref c) s') : wpAny (model prog w) A (binaryOp .Add (.ref a) (.ref b)) Q E s := by
  have hn := S.newAddr
  obtain ⟨⟨m, F, hm⟩, N, R⟩ := S
  refine add_arrays F N (isListOf ha) (isListOf hb) (fun h' F' N' => h _ _ ⟨⟨m, F', hm⟩, ?_, R.trans ⟨rfl, rfl, rfl⟩⟩ hn) (by rw [List.size_toArray, List.size_toArray]; show _ ≤ 2 ^ 24; omega)
  simpa using N'
end

theorem deed_push {w : World} {A : Around} {E : Value → Shared → Prop} {s o : Shared} {Q : Value → Shared → Prop} {h₀ : Heap} {L a : Addr} {l : List (Str × Value)} {news : List (Addr × Obj)} {It : Value → Int → Prop}
    {vs : List Value} {ns : List Int} {n : Nat} {v : Value} {x kd : Int} {t : Tok}
    (G : Gd w h₀) (S : At o h₀ L l ((a, lo vs n) :: news) s) (hh : A.handled = none) (hd : A.depth + 5 < 900) (hu : A.units + 50 < 9000) (ha : ∀ q ∈ news, q.1 ≠ a) (LT : LtOk news It) (hi : Its It vs ns) (hz : ns.length < 50) (hv : It v x)
    (hk : kd = 0 ∨ kd = 2 ∨ kd = 4)
    (h : ∀ b vs' n' s', Its It vs' (hpush ns x) → At o h₀ L l ((b, lo [] 0) :: (a, lo vs' n') :: news) s' → (∀ p ∈ (a, lo vs' n') :: news, p.1 ≠ b) → Q (.ref b) s') :
    wpAny (MM w) A (call (.ref 138) [.int kd t, .ref a, v]) Q E s := by
  refine call_mut [(Str.ofString "kind", .int kd t), (Str.ofString "heap", .ref a), (Str.ofString "item", v)] G S (by show A.depth < 1000; omega) (by rfl) (by rfl) (BindsTo.of_eq rfl) (locs rfl) ?_
  intro g L' s₁ G' S₁
  have hlen := hi.length
  repeat walk_at "n"
  rename_i S₂
  refine S₂.newTuple (by simp) fun T s₃ S₃ hT => ?_
  refine At.inTup (S₃.get (.head _)) (.cons _ _ (.cons _ _ (.cons _ _ .nil))) ?_
  have e : ([0, 2, 4] : List Int).any (· == kd) = true := by rcases hk with rfl | rfl | rfl <;> rfl
  rw [e]
  have S₃ := S₃.less (news' := (a, lo vs n) :: news) (fun p hp => .tail _ hp)
  repeat walk_at "n"
  refine S₃.callf G' (by rfl) (by rfl) ?_
  repeat walk_at "n"
  refine ⟨⟨_, _, S₃⟩, ?_⟩
  refine heappush_spec G' S₃ (by show A.depth + 1 + 3 < 900; omega) (by show A.units + 3 + 30 < 9000; omega) ha LT hi hz hv ?_
  intro vs₇ n₇ s₇ hi₇ S₇
  repeat walk_at "n"
  refine S₇.newList (by simp) fun b s₈ S₈ hb => ?_
  repeat walk_at "n"
  exact ⟨_, _, S₈, fun S' => h _ _ _ _ hi₇ S' hb⟩

theorem deed_6 {w : World} {A : Around} {E : Value → Shared → Prop} {s o : Shared} {Q : Value → Shared → Prop} {h₀ : Heap} {L a : Addr} {l : List (Str × Value)} {news : List (Addr × Obj)} {It : Value → Int → Prop}
    {vs : List Value} {ns : List Int} {n : Nat} {v : Value} {t : Tok}
    (G : Gd w h₀) (S : At o h₀ L l ((a, lo vs n) :: news) s) (hh : A.handled = none) (hd : A.depth + 5 < 900) (hu : A.units + 50 < 9000) (ha : ∀ q ∈ news, q.1 ≠ a) (LT : LtOk news It) (hi : Its It vs ns) (hz : ns.length < 50)
    (h : ∀ b vs' n' s', Its It vs' (hify mn ns.reverse) → At o h₀ L l ((b, lo [] 0) :: (a, lo vs' n') :: news) s' → (∀ p ∈ (a, lo vs' n') :: news, p.1 ≠ b) → Q (.ref b) s') :
    wpAny (MM w) A (call (.ref 138) [.int 6 t, .ref a, v]) Q E s := by
  refine call_mut [(Str.ofString "kind", .int 6 t), (Str.ofString "heap", .ref a), (Str.ofString "item", v)] G S (by show A.depth < 1000; omega) (by rfl) (by rfl) (BindsTo.of_eq rfl) (locs rfl) ?_
  intro g L' s₁ G' S₁
  have hlen := hi.length
  repeat walk_at "n"
  rename_i S₂
  refine S₂.newTuple (by simp) fun T s₃ S₃ hT => ?_
  refine At.inTup (S₃.get (.head _)) (.cons _ _ (.cons _ _ (.cons _ _ .nil))) ?_
  have e : ([0, 2, 4] : List Int).any (· == 6) = false := rfl
  rw [e]
  have S₃ := S₃.less (news' := (a, lo vs n) :: news) (fun p hp => .tail _ hp)
  repeat walk_at "n"
  refine ite_tt ?_
  rename_i S₄
  repeat walk_at "n"
  refine MethodCall_ ?_
  repeat walk_at "n"
  refine At.method (S₄.get (.head _)) PySem.F.slot_list_reverse PySem.F.type_list_reverse ?_
  refine callWith_method0 ?_
  refine S₄.reverse ha (by omega) fun s₅ S₅ => ?_
  repeat walk_at "n"
  refine S₅.callf G' (by rfl) (by rfl) ?_
  repeat walk_at "n"
  refine ⟨⟨_, _, S₅⟩, ?_⟩
  refine heapify_spec G' S₅ hh (by show A.depth + 1 + 3 < 900; omega) (by show A.units + 3 + 30 < 9000; omega) ha LT hi.reverse (by rw [List.length_reverse]; exact hz) ?_
  intro vs₇ n₇ s₇ hi₇ S₇
  repeat walk_at "n"
  refine S₇.newList (by simp) fun b s₈ S₈ hb => ?_
  repeat walk_at "n"
  exact ⟨_, _, S₈, fun S' => h _ _ _ _ hi₇ S' hb⟩

theorem deed_5 {w : World} {A : Around} {E : Value → Shared → Prop} {s o : Shared} {Q : Value → Shared → Prop} {h₀ : Heap} {L a : Addr} {l : List (Str × Value)} {news : List (Addr × Obj)} {It : Value → Int → Prop}
    {vs : List Value} {ns : List Int} {n : Nat} {v : Value} {x : Int} {t : Tok}
    (G : Gd w h₀) (S : At o h₀ L l ((a, lo vs n) :: news) s) (hh : A.handled = none) (hd : A.depth + 5 < 900) (hu : A.units + 50 < 9000) (ha : ∀ q ∈ news, q.1 ≠ a) (LT : LtOk news It) (hi : Its It vs ns) (hz : ns.length < 50) (hv : It v x)
    (h : ∀ b v' vs' n' s', It v' (hpp ns x).1 → Its It vs' (hpp ns x).2 → At o h₀ L l ((b, lo [v'] 0) :: (a, lo vs' n') :: news) s' → (∀ p ∈ (a, lo vs' n') :: news, p.1 ≠ b) → Q (.ref b) s') :
    wpAny (MM w) A (call (.ref 138) [.int 5 t, .ref a, v]) Q E s := by
  refine call_mut [(Str.ofString "kind", .int 5 t), (Str.ofString "heap", .ref a), (Str.ofString "item", v)] G S (by show A.depth < 1000; omega) (by rfl) (by rfl) (BindsTo.of_eq rfl) (locs rfl) ?_
  intro g L' s₁ G' S₁
  have hlen := hi.length
  repeat walk_at "n"
  rename_i S₂
  refine S₂.newTuple (by simp) fun T s₃ S₃ hT => ?_
  refine At.inTup (S₃.get (.head _)) (.cons _ _ (.cons _ _ (.cons _ _ .nil))) ?_
  have e : ([0, 2, 4] : List Int).any (· == 5) = false := rfl
  rw [e]
  have S₃ := S₃.less (news' := (a, lo vs n) :: news) (fun p hp => .tail _ hp)
  repeat walk_at "n"
  refine ite_ff ?_
  repeat walk_at "n"
  refine ite_tt ?_
  repeat walk_at "n"
  rename_i S₄
  refine S₄.callf G' (by rfl) (by rfl) ?_
  repeat walk_at "n"
  refine ⟨⟨_, _, S₄⟩, ?_⟩
  refine heappushpop_spec G' S₄ hh (by show A.depth + 1 + 3 < 900; omega) (by show A.units + 3 + 30 < 9000; omega) ha LT hi hz hv ?_
  intro v' vs₇ n₇ s₇ hv₇ hi₇ S₇
  repeat walk_at "n"
  refine S₇.newList (by simp) fun b s₈ S₈ hb => ?_
  repeat walk_at "n"
  exact ⟨_, _, S₈, fun S' => h _ _ _ _ _ hv₇ hi₇ S' hb⟩

end
section -- NbDe
theorem Its.last {It : Value → Int → Prop} {vs : List Value} {ns : List Int} (h : Its It vs ns) (hne : 0 < ns.length) : ∃ vs0 v0, vs = vs0 ++ [v0] ∧ Its It vs0 ns.dropLast ∧ It v0 (ns.getLastD 0) := by
  induction h with
  | nil => cases hne
  | cons hv ht ih =>
    rename_i v n vs ns
    cases ht with
    | nil => exact ⟨[], v, rfl, .nil, hv⟩
    | cons hv' ht' =>
      obtain ⟨vs0, v0, e, h1, h2⟩ := ih (by simp)
      exact ⟨v :: vs0, v0, by rw [e]; rfl, .cons hv h1, h2⟩

theorem deed_1 {w : World} {A : Around} {E : Value → Shared → Prop} {s o : Shared} {Q : Value → Shared → Prop} {h₀ : Heap} {L a : Addr} {l : List (Str × Value)} {news : List (Addr × Obj)} {It : Value → Int → Prop}
    {vs : List Value} {ns : List Int} {n : Nat} {v : Value} {x : Int} {t : Tok}
    (G : Gd w h₀) (S : At o h₀ L l ((a, lo vs n) :: news) s) (hh : A.handled = none) (hd : A.depth + 5 < 900) (hu : A.units + 50 < 9000) (ha : ∀ q ∈ news, q.1 ≠ a) (LT : LtOk news It) (hi : Its It vs ns) (hz : ns.length < 50) (hv : It v x) (hne : 0 < ns.length)
    (h : ∀ b v' vs' n' s', It v' (hpop mn ns.dropLast (ns.getLastD 0)).1 → Its It vs' (hpop mn ns.dropLast (ns.getLastD 0)).2 → At o h₀ L l ((b, lo [v'] 0) :: (a, lo vs' n') :: news) s' → (∀ p ∈ (a, lo vs' n') :: news, p.1 ≠ b) → Q (.ref b) s') :
    wpAny (MM w) A (call (.ref 138) [.int 1 t, .ref a, v]) Q E s := by
  refine call_mut [(Str.ofString "kind", .int 1 t), (Str.ofString "heap", .ref a), (Str.ofString "item", v)] G S (by show A.depth < 1000; omega) (by rfl) (by rfl) (BindsTo.of_eq rfl) (locs rfl) ?_
  intro g L' s₁ G' S₁
  have hlen := hi.length
  repeat walk_at "n"
  rename_i S₂
  refine S₂.newTuple (by simp) fun T s₃ S₃ hT => ?_
  refine At.inTup (S₃.get (.head _)) (.cons _ _ (.cons _ _ (.cons _ _ .nil))) ?_
  have e : ([0, 2, 4] : List Int).any (· == 1) = false := rfl
  rw [e]
  have S₃ := S₃.less (news' := (a, lo vs n) :: news) (fun p hp => .tail _ hp)
  repeat walk_at "n"
  refine ite_ff ?_
  repeat walk_at "n"
  refine ite_ff ?_
  repeat walk_at "n"
  refine wpAny_Try_except ?_
  repeat walk_at "n"
  refine ite_tt ?_
  repeat walk_at "n"
  rename_i S₄
  refine S₄.callf G' (by rfl) (by rfl) ?_
  repeat walk_at "n"
  refine ⟨⟨_, _, S₄⟩, ?_⟩
  obtain ⟨vs0, v0, rfl, hi0, hv0⟩ := hi.last hne
  refine heappop_spec G' S₄ (by show A.depth + 1 + 3 < 900; omega) (by show A.units + 3 + 30 < 9000; omega) ha LT hi0 (by rw [List.length_dropLast]; omega) hv0 ?_
  intro v' vs₇ n₇ s₇ hv₇ hi₇ S₇
  repeat walk_at "n"
  refine S₇.newList (by simp) fun b s₈ S₈ hb => ?_
  repeat walk_at "n"
  exact ⟨_, _, S₈, fun S' => h _ _ _ _ _ hv₇ hi₇ S' hb⟩

theorem deed_3 {w : World} {A : Around} {E : Value → Shared → Prop} {s o : Shared} {Q : Value → Shared → Prop} {h₀ : Heap} {L a : Addr} {l : List (Str × Value)} {news : List (Addr × Obj)} {It : Value → Int → Prop}
    {vs : List Value} {ns : List Int} {n : Nat} {v : Value} {x : Int} {t : Tok}
    (G : Gd w h₀) (S : At o h₀ L l ((a, lo vs n) :: news) s) (hh : A.handled = none) (hd : A.depth + 5 < 900) (hu : A.units + 50 < 9000) (ha : ∀ q ∈ news, q.1 ≠ a) (LT : LtOk news It) (hi : Its It vs ns) (hz : ns.length < 50) (hv : It v x) (hne : 0 < ns.length)
    (h : ∀ b v' vs' n' s', It v' (ns.getD 0 0) → Its It vs' (hrep mn ns x) → At o h₀ L l ((b, lo [v'] 0) :: (a, lo vs' n') :: news) s' → (∀ p ∈ (a, lo vs' n') :: news, p.1 ≠ b) → Q (.ref b) s') :
    wpAny (MM w) A (call (.ref 138) [.int 3 t, .ref a, v]) Q E s := by
  refine call_mut [(Str.ofString "kind", .int 3 t), (Str.ofString "heap", .ref a), (Str.ofString "item", v)] G S (by show A.depth < 1000; omega) (by rfl) (by rfl) (BindsTo.of_eq rfl) (locs rfl) ?_
  intro g L' s₁ G' S₁
  have hlen := hi.length
  repeat walk_at "n"
  rename_i S₂
  refine S₂.newTuple (by simp) fun T s₃ S₃ hT => ?_
  refine At.inTup (S₃.get (.head _)) (.cons _ _ (.cons _ _ (.cons _ _ .nil))) ?_
  have e : ([0, 2, 4] : List Int).any (· == 3) = false := rfl
  rw [e]
  have S₃ := S₃.less (news' := (a, lo vs n) :: news) (fun p hp => .tail _ hp)
  repeat walk_at "n"
  refine ite_ff ?_
  repeat walk_at "n"
  refine ite_ff ?_
  repeat walk_at "n"
  refine wpAny_Try_except ?_
  repeat walk_at "n"
  refine ite_ff ?_
  repeat walk_at "n"
  refine ite_tt ?_
  repeat walk_at "n"
  rename_i S₄
  refine S₄.callf G' (by rfl) (by rfl) ?_
  repeat walk_at "n"
  refine ⟨⟨_, _, S₄⟩, ?_⟩
  refine heapreplace_spec G' S₄ (by show A.depth + 1 + 3 < 900; omega) (by show A.units + 3 + 30 < 9000; omega) ha LT hi hz hv hne ?_
  intro v' vs₇ n₇ s₇ hv₇ hi₇ S₇
  repeat walk_at "n"
  refine S₇.newList (by simp) fun b s₈ S₈ hb => ?_
  repeat walk_at "n"
  exact ⟨_, _, S₈, fun S' => h _ _ _ _ _ hv₇ hi₇ S' hb⟩

def deed7 (ns : List Int) (x : Int) : List Int :=
  let m := hify mx ns
  let m2 := hrep mx m x
  let p := hpop mx m2.dropLast (m2.getLastD 0)
  m.getD 0 0 :: p.1 :: p.2
theorem hifyGo_length (lt : Int → Int → Bool) (k : Nat) (l : List Int) : (hifyGo lt k l).length = l.length := by
  induction k generalizing l with
  | zero => rfl
  | succ k ih => rw [hifyGo, ih, su_length]
theorem hify_length (lt : Int → Int → Bool) (l : List Int) : (hify lt l).length = l.length := hifyGo_length ..
theorem hrep_length (lt : Int → Int → Bool) (l : List Int) (x : Int) : (hrep lt l x).length = l.length := by rw [hrep, su_length, List.length_set]
theorem LtOk.more {news : List (Addr × Obj)} {It : Value → Int → Prop} (LT : LtOk news It) (p : Addr × Obj) : LtOk (p :: news) It :=
  fun w A E s v v' n n' Q hn hA => LT w A E s v v' n n' Q (fun p hp => hn p (.tail _ hp)) hA

theorem deed_7 {w : World} {A : Around} {E : Value → Shared → Prop} {s o : Shared} {Q : Value → Shared → Prop} {h₀ : Heap} {L a : Addr} {l : List (Str × Value)} {news : List (Addr × Obj)} {It : Value → Int → Prop}
    {vs : List Value} {ns : List Int} {n : Nat} {v : Value} {x : Int} {t : Tok}
    (G : Gd w h₀) (S : At o h₀ L l ((a, lo vs n) :: news) s) (hh : A.handled = none) (hd : A.depth + 5 < 900) (hu : A.units + 50 < 9000) (ha : ∀ q ∈ news, q.1 ≠ a) (LT : LtOk news It) (hi : Its It vs ns) (hz : ns.length < 50) (hv : It v x) (hne : 0 < ns.length)
    (h : ∀ b us s', Its It us (deed7 ns x) → At o h₀ L l ((b, lo us 0) :: (a, lo vs n) :: news) s' → (∀ p ∈ (a, lo vs n) :: news, p.1 ≠ b) → Q (.ref b) s') :
    wpAny (MM w) A (call (.ref 138) [.int 7 t, .ref a, v]) Q E s := by
  refine call_mut [(Str.ofString "kind", .int 7 t), (Str.ofString "heap", .ref a), (Str.ofString "item", v)] G S (by show A.depth < 1000; omega) (by rfl) (by rfl) (BindsTo.of_eq rfl) (locs rfl) ?_
  intro g L' s₁ G' S₁
  have hlen := hi.length
  repeat walk_at "n"
  rename_i S₂
  refine S₂.newTuple (by simp) fun T s₃ S₃ hT => ?_
  refine At.inTup (S₃.get (.head _)) (.cons _ _ (.cons _ _ (.cons _ _ .nil))) ?_
  have e : ([0, 2, 4] : List Int).any (· == 7) = false := rfl
  rw [e]
  have S₃ := S₃.less (news' := (a, lo vs n) :: news) (fun p hp => .tail _ hp)
  repeat walk_at "n"
  refine ite_ff ?_
  repeat walk_at "n"
  refine ite_ff ?_
  repeat walk_at "n"
  refine wpAny_Try_except ?_
  repeat walk_at "n"
  refine ite_ff ?_
  repeat walk_at "n"
  refine ite_ff ?_
  repeat walk_at "n"
  rename_i S₄
  refine S₄.callt G' (by rfl) (by rfl) (by decide) ?_
  repeat walk_at "n"
  refine S₄.copyList (S₄.get (.head _)) (by omega) fun b₅ c₅ s₅ S₅ hb₅ => ?_
  repeat walk_at "n"
  rename_i S₆
  refine S₆.callf G' (by rfl) (by rfl) ?_
  repeat walk_at "n"
  refine ⟨⟨_, _, S₆⟩, ?_⟩
  refine heapify_max_spec G' S₆ hh (by show A.depth + 1 + 3 < 900; omega) (by show A.units + 3 + 30 < 9000; omega) hb₅ (LT.more _) hi hz ?_
  intro vs₇ n₇ s₇ hi₇ S₇
  repeat walk_at "n"
  refine S₇.callf G' (by rfl) (by rfl) ?_
  repeat walk_at "n"
  refine ⟨⟨_, _, S₇⟩, ?_⟩
  refine heapreplace_max_spec G' S₇ (by show A.depth + 1 + 3 < 900; omega) (by show A.units + 3 + 30 < 9000; omega) hb₅ (LT.more _) hi₇ (by rw [hify_length]; exact hz) hv (by rw [hify_length]; exact hne) ?_
  intro v₈ vs₈ n₈ s₈ hv₈ hi₈ S₈
  repeat walk_at "n"
  refine S₈.callf G' (by rfl) (by rfl) ?_
  repeat walk_at "n"
  refine ⟨⟨_, _, S₈⟩, ?_⟩
  obtain ⟨vs0, v0, rfl, hi0, hv0⟩ := hi₈.last (by rw [hrep_length, hify_length]; exact hne)
  refine heappop_max_spec G' S₈ (by show A.depth + 1 + 3 < 900; omega) (by show A.units + 3 + 30 < 9000; omega) hb₅ (LT.more _) hi0 (by rw [List.length_dropLast, hrep_length, hify_length]; omega) hv0 ?_
  intro v₉ vs₉ n₉ s₉ hv₉ hi₉ S₉
  repeat walk_at "n"
  refine S₉.newList (by simp) fun c s₁₀ S₁₀ hc => ?_
  repeat walk_at "n"
  have hl9 : vs₉.length < 1000 := by
    have h1 := hi₉.length
    have h2 : (hpop mx (hrep mx (hify mx ns) x).dropLast ((hrep mx (hify mx ns) x).getLastD 0)).2.length ≤ ns.length := by
      unfold hpop
      split
      · simp
      · rw [su_length, List.length_set, List.length_dropLast, hrep_length, hify_length]; omega
    omega
  refine S₁₀.addList (S₁₀.get (.head _)) (S₁₀.get (.tail _ (.head _))) (by simp) hl9 fun d s₁₁ S₁₁ hd => ?_
  repeat walk_at "n"
  have S₁₁ := S₁₁.less (news' := (d, lo ([v₈, v₉] ++ vs₉) 0) :: (a, lo vs n) :: news) (fun p hp => by
    rcases List.mem_cons.mp hp with rfl | hp
    · exact .head _
    · exact .tail _ (.tail _ (.tail _ hp)))
  exact ⟨_, _, S₁₁, fun S' => h _ _ _ (.cons hv₈ (.cons hv₉ hi₉)) S' (fun p hp => hd p (.tail _ (.tail _ hp)))⟩

end
section -- NbRs
section
variable {prog : Program} {w : World} {A : Around} {E : Value → Shared → Prop} {s o : Shared} {L a b : Addr} {h₀ : Heap} {l : List (Str × Value)} {news : List (Addr × Obj)} {t u v : Tok} {vs us : List Value} {n k : Nat}
theorem At.popEmpty {Q : Value → Shared → Prop} (ha : s.heap.get? a = some (lo [] n)) (hh : A.handled = none) (hE : ∀ h' tk e, Heap.NewExc s.heap h' e "IndexError" → E (.ref e) { s with heap := h', toks := tk }) :
    wpAny (model prog w) A (call (.builtin "list.pop") [.ref a]) Q E s := by
  have hT : s.TypeIs (.ref a) "list" := ⟨_, ha, rfl⟩
  refine wpAny_call_entry PySem.F.slot_list_pop hT PySem.F.entry_list_pop ?_ (PySem.F.args_list_pop_1 _)
  unfold Builtin.«list.pop»
  refine wpAny_bind (wpAny_of_eq (a := (.ref a, [])) (by rfl) ?_)
  dsimp only
  refine wpAny_bind (wpAny_pure ?_)
  refine bm_if_false (by decide +kernel) ?_
  refine wpAny_bind ?_
  show wpAny _ _ (seqItems? (.ref a) >>= _) _ _ s
  refine wpAny_bind (wpAny_seqItems ha rfl (wpAny_pure ?_))
  refine bm_if_true (by rfl) ?_
  refine wpAny_bind (wpAny_rule (wpAny_bind ?_))
  exact_raiseError plainExc_IndexError hh hE
end

/-- a call that ends with an IndexError of the interpreter's, the callee's frame left -/
theorem call_raises {w : World} {A₁ : Around} {E : Value → Shared → Prop} {s o : Shared} {Q : Value → Shared → Prop} {base g : Heap} {L fa : Addr} {l : List (Str × Value)} {news : List (Addr × Obj)} {cn : Str} {cs : Scope} {ccd : Value} {outer : List Env}
    {name qual : Str} {params : Arguments} {body : List Stmt} {scope : Scope} {dV kV doc pm cdv ct oc : Value} {an od : Option Addr} {osl : Array (Option Value)} {f : Addr} {args : List Value}
    (binds : List (Str × Value)) (B : Below A₁ base outer g) (G : Gd w g) (S : At o g L l news s) (hroom : A₁.depth + 1 < recursionLimit)
    (ho : (KK w).lookup f = some ⟨oc, od, .func (fnOf name qual params body scope dV kV doc pm an cdv ct), osl⟩) (hcd : codeIn (KK w) cdv qual = true)
    (hbind : BindsTo s (fnOf name qual params body scope dV kV doc pm an cdv ct) ⟨args, []⟩ binds) (hloc : ∀ y ∈ binds, scope.names.lookup y.1 = some .local)
    (h : ∀ g₂ L₂ s₁ E₂, Gd w g₂ → At o g₂ L₂ binds.reverse news s₁ →
        (∀ s₂ l₂ h' tk e, At o g₂ L₂ l₂ news s₂ → Heap.NewExc s₂.heap h' e "IndexError" → E₂ (.ref e) { s₂ with heap := h', toks := tk }) →
        wpAny (MM w) ((A₁.deeper (envOf cn cs L fa ccd)).deeper (envOf qual scope L₂ f cdv)) (execs body (envOf qual scope L₂ f cdv)) (fun _ _ => False) E₂ s₁)
    (hE : ∀ e s' G' m, Fr g L G' m → (∀ x v, l.lookup x = some v → m x = some v) → RaisedSN base G' (envOf cn cs L fa ccd :: outer) e (.type "IndexError") news s'.heap → G'.UpToSlots s'.heap → Rest o s' → E (.ref e) s')
    (hck : cs.kind = .function) (hco : scope.isCoroutine = false := by rfl) (hgen : scope.isGenerator = false := by rfl) (hk : scope.kind = .function := by rfl)
    (hcell : ∀ x ∈ scope.names, x.2 ≠ .cell := by decide) :
    wpAny (MM w) (A₁.deeper (envOf cn cs L fa ccd)) (call (.ref f) args) Q E s := by
  obtain ⟨⟨m, F, hm⟩, N, R⟩ := S
  refine wpAny_call (call_K (base := base) (outer := outer) B F N (G.X.keeps F.keep) G.nolimit (Around.frames_deeper B.stack) ho hcd hroom hbind hloc (fun g₂ L₂ h₁ FG F₂ N₂ B₂ st => ?_) hck hco hgen hk hcell)
  refine wpAny_mono (h g₂ L₂ _ _ (G.keeps st) ⟨⟨_, F₂, fun _ _ e => e⟩, N₂, R.trans ⟨rfl, rfl, rfl⟩⟩ ?_) (fun _ _ x => x.elim) fun _ _ x => x
  intro s₂ l₂ h' tk e S₂ hx
  obtain ⟨⟨m₂, F₃, _⟩, N₃, R₃⟩ := S₂
  exact leave_newS B₂ hx F₃ N₃ (fun h₄ RS _ up => hE e _ g₂ m FG hm RS up (R₃.trans ⟨rfl, rfl, rfl⟩)) hk

theorem heappop_raises {w : World} {A₁ : Around} {E : Value → Shared → Prop} {s o : Shared} {Q : Value → Shared → Prop} {base g : Heap} {L fa a : Addr} {l : List (Str × Value)} {news : List (Addr × Obj)} {cn : Str} {cs : Scope} {ccd : Value} {outer : List Env} {n : Nat}
    (B : Below A₁ base outer g) (G : Gd w g) (S : At o g L l ((a, lo [] n) :: news) s) (hh : A₁.handled = none) (hd : A₁.depth + 1 < 900) (hck : cs.kind = .function)
    (hE : ∀ e s' G' m, Fr g L G' m → (∀ x v, l.lookup x = some v → m x = some v) → RaisedSN base G' (envOf cn cs L fa ccd :: outer) e (.type "IndexError") ((a, lo [] n) :: news) s'.heap → G'.UpToSlots s'.heap → Rest o s' → E (.ref e) s') :
    wpAny (MM w) (A₁.deeper (envOf cn cs L fa ccd)) (call (.ref 49) [.ref a]) Q E s := by
  refine call_raises [(Str.ofString "heap", .ref a)] B G S (by show _ < 1000; omega) (by rfl) (by rfl) (BindsTo.of_eq rfl) (locs rfl) ?_ hE hck
  intro g₂ L₂ s₁ E₂ G₂ S₁ hE₂
  repeat walk_at "n"
  refine MethodCall_ ?_
  repeat walk_at "n"
  refine At.method (S₁.get (.head _)) PySem.F.slot_list_pop PySem.F.type_list_pop ?_
  refine callWith_method0 ?_
  exact At.popEmpty (S₁.get (.head _)) hh (fun h' tk e hx => hE₂ _ _ h' tk e S₁ hx)

theorem heapreplace_raises {w : World} {A₁ : Around} {E : Value → Shared → Prop} {s o : Shared} {Q : Value → Shared → Prop} {base g : Heap} {L fa a : Addr} {l : List (Str × Value)} {news : List (Addr × Obj)} {cn : Str} {cs : Scope} {ccd v : Value} {outer : List Env} {n : Nat}
    (B : Below A₁ base outer g) (G : Gd w g) (S : At o g L l ((a, lo [] n) :: news) s) (hh : A₁.handled = none) (hd : A₁.depth + 1 < 900) (hck : cs.kind = .function)
    (hE : ∀ e s' G' m, Fr g L G' m → (∀ x v, l.lookup x = some v → m x = some v) → RaisedSN base G' (envOf cn cs L fa ccd :: outer) e (.type "IndexError") ((a, lo [] n) :: news) s'.heap → G'.UpToSlots s'.heap → Rest o s' → E (.ref e) s') :
    wpAny (MM w) (A₁.deeper (envOf cn cs L fa ccd)) (call (.ref 56) [.ref a, v]) Q E s := by
  refine call_raises [(Str.ofString "heap", .ref a), (Str.ofString "item", v)] B G S (by show _ < 1000; omega) (by rfl) (by rfl) (BindsTo.of_eq rfl) (locs rfl) ?_ hE hck
  intro g₂ L₂ s₁ E₂ G₂ S₁ hE₂
  repeat walk_at "n"
  rename_i S₂
  exact item_outK hh (isListOf (S₂.get (.head _))) (.inr (by decide)) (by decide) (by decide) (fun h' tk e hx => hE₂ _ _ h' tk e S₂ hx)

theorem heapreplace_max_raises {w : World} {A₁ : Around} {E : Value → Shared → Prop} {s o : Shared} {Q : Value → Shared → Prop} {base g : Heap} {L fa a : Addr} {l : List (Str × Value)} {news : List (Addr × Obj)} {cn : Str} {cs : Scope} {ccd v : Value} {outer : List Env} {n : Nat}
    (B : Below A₁ base outer g) (G : Gd w g) (S : At o g L l ((a, lo [] n) :: news) s) (hh : A₁.handled = none) (hd : A₁.depth + 1 < 900) (hck : cs.kind = .function)
    (hE : ∀ e s' G' m, Fr g L G' m → (∀ x v, l.lookup x = some v → m x = some v) → RaisedSN base G' (envOf cn cs L fa ccd :: outer) e (.type "IndexError") ((a, lo [] n) :: news) s'.heap → G'.UpToSlots s'.heap → Rest o s' → E (.ref e) s') :
    wpAny (MM w) (A₁.deeper (envOf cn cs L fa ccd)) (call (.ref 84) [.ref a, v]) Q E s := by
  refine call_raises [(Str.ofString "heap", .ref a), (Str.ofString "item", v)] B G S (by show _ < 1000; omega) (by rfl) (by rfl) (BindsTo.of_eq rfl) (locs rfl) ?_ hE hck
  intro g₂ L₂ s₁ E₂ G₂ S₁ hE₂
  repeat walk_at "n"
  rename_i S₂
  exact item_outK hh (isListOf (S₂.get (.head _))) (.inr (by decide)) (by decide) (by decide) (fun h' tk e hx => hE₂ _ _ h' tk e S₂ hx)

end
section -- NbDn
theorem deed_none {w : World} {A₀ : Around} {E : Value → Shared → Prop} {s o : Shared} {Q : Value → Shared → Prop} {h₀ : Heap} {L a fa : Addr} {l : List (Str × Value)} {news : List (Addr × Obj)} {cn : Str} {cs : Scope} {ccd v : Value} {n : Nat} {kd : Int} {t : Tok}
    {loose : List Str} {mean : ExcName → Option Value} {mg mb : Str → Option Value}
    (B : Below A₀ h₀ [] h₀) (X : (KK w).In h₀) (T : Top hd.view_39 loose mean mg mb h₀) (S : At o h₀ L l ((a, lo [] n) :: news) s) (hh : A₀.handled = none) (hd : A₀.depth + 9 < 900) (hu : A₀.units + 60 < 9000) (ha : ∀ q ∈ news, q.1 ≠ a) (hcs : cs.kind = .function)
    (hk : kd = 1 ∨ kd = 3 ∨ kd = 7) (h : ∀ s', At o h₀ L l ((a, lo [] n) :: news) s' → Q .none s') :
    wpAny (MM w) (A₀.deeper (envOf cn cs L fa ccd)) (call (.ref 138) [.int kd t, .ref a, v]) Q E s := by
  obtain ⟨⟨m, F, hm⟩, N, R⟩ := S
  refine wpAny_call (code_defS0 (binds := [(Str.ofString "kind", .int kd t), (Str.ofString "heap", .ref a), (Str.ofString "item", v)]) B F X N T (Around.frames_deeper B.stack) (by rfl) (by rfl) (by show A₀.depth + 1 < 1000; omega) (BindsTo.of_eq rfl) (locs rfl) ?_ hcs rfl rfl rfl (by decide))
  intro g L' h₁ FG F' N' B' X' T' D'
  have S₁ : At o g L' [(Str.ofString "item", v), (Str.ofString "heap", .ref a), (Str.ofString "kind", .int kd t)] ((a, lo [] n) :: news) { s with heap := h₁, toks := s.toks + 3 } := ⟨⟨_, F', fun _ _ e => e⟩, N', R.trans ⟨rfl, rfl, rfl⟩⟩
  have G' : Gd w g := ⟨X', _, _, _, topRead_of T'⟩
  clear F' N'
  generalize ({ s with heap := h₁, toks := s.toks + [(Str.ofString "kind", Value.int kd t), (Str.ofString "heap", .ref a), (Str.ofString "item", v)].length } : Shared) = s₁ at S₁ ⊢
  repeat walk_at "n"
  rename_i S₂
  refine S₂.newTuple (by simp) fun T₃ s₃ S₃ hT => ?_
  refine At.inTup (S₃.get (.head _)) (.cons _ _ (.cons _ _ (.cons _ _ .nil))) ?_
  have e : ([0, 2, 4] : List Int).any (· == kd) = false := by rcases hk with rfl | rfl | rfl <;> rfl
  rw [e]
  have S₃ := S₃.less (news' := (a, lo [] n) :: news) (fun p hp => .tail _ hp)
  repeat walk_at "n"
  have e : (kd == 6) = false := by rcases hk with rfl | rfl | rfl <;> rfl
  rw [e]
  repeat walk_at "n"
  have e : (kd == 5) = false := by rcases hk with rfl | rfl | rfl <;> rfl
  rw [e]
  repeat walk_at "n"
  refine wpAny_Try_except ?_
  rcases hk with rfl | rfl | rfl
  · repeat walk_at "n"
    refine ite_tt ?_
    repeat walk_at "n"
    rename_i S₄
    refine S₄.callf G' (by rfl) (by rfl) ?_
    repeat walk_at "n"
    refine ⟨⟨_, _, S₄⟩, ?_⟩
    refine heappop_raises B' G' S₄ hh (by show A₀.depth + 1 + 1 < 900; omega) rfl ?_
    intro e s' G₂ m₂ F₂ hm₂ RS up R₂
    refine caught_SN0 (g₀ := g) RS F₂ B' up X T D' KtsTurn.refl (by rfl) PyProof.Rows.Boot.«IndexError» (by decide) PySem.F.isExc_IndexError PySem.F.notTuple_IndexError (by rw [isSubtype_type]; kernel_rfl) ?_
    intro h' g' Tn F₃ N₃ B₃ X₃ T₃ D₃
    repeat walk_at "n"
    exact leaveS0_ F₃ N₃ Tn (fun F₄ N₄ => h _ ⟨⟨m, F₄, hm⟩, N₄, R₂.trans ⟨rfl, rfl, rfl⟩⟩)
  · repeat walk_at "n"
    refine ite_ff ?_
    repeat walk_at "n"
    refine ite_tt ?_
    repeat walk_at "n"
    rename_i S₄
    refine S₄.callf G' (by rfl) (by rfl) ?_
    repeat walk_at "n"
    refine ⟨⟨_, _, S₄⟩, ?_⟩
    refine heapreplace_raises B' G' S₄ hh (by show A₀.depth + 1 + 1 < 900; omega) rfl ?_
    intro e s' G₂ m₂ F₂ hm₂ RS up R₂
    refine caught_SN0 (g₀ := g) RS F₂ B' up X T D' KtsTurn.refl (by rfl) PyProof.Rows.Boot.«IndexError» (by decide) PySem.F.isExc_IndexError PySem.F.notTuple_IndexError (by rw [isSubtype_type]; kernel_rfl) ?_
    intro h' g' Tn F₃ N₃ B₃ X₃ T₃ D₃
    repeat walk_at "n"
    exact leaveS0_ F₃ N₃ Tn (fun F₄ N₄ => h _ ⟨⟨m, F₄, hm⟩, N₄, R₂.trans ⟨rfl, rfl, rfl⟩⟩)
  · repeat walk_at "n"
    refine ite_ff ?_
    repeat walk_at "n"
    refine ite_ff ?_
    repeat walk_at "n"
    rename_i S₄
    refine S₄.callt G' (by rfl) (by rfl) (by decide) ?_
    repeat walk_at "n"
    refine S₄.copyList (S₄.get (.head _)) (by simp) fun b₅ c₅ s₅ S₅ hb₅ => ?_
    repeat walk_at "n"
    rename_i S₆
    refine S₆.callf G' (by rfl) (by rfl) ?_
    repeat walk_at "n"
    refine ⟨⟨_, _, S₆⟩, ?_⟩
    refine heapify_max_spec (It := fun _ _ => False) (ns := []) G' S₆ hh (by show A₀.depth + 1 + 1 + 3 < 900; omega) (by show A₀.units + 3 + 3 + 30 < 9000; omega) hb₅ (fun _ _ _ _ _ _ _ _ _ _ _ hv => hv.elim) .nil (by simp) ?_
    intro vs₇ n₇ s₇ hi₇ S₇
    have e7 : vs₇ = [] := by
      have := hi₇.length
      rw [hify_length] at this
      exact List.eq_nil_of_length_eq_zero this
    subst e7
    repeat walk_at "n"
    refine S₇.callf G' (by rfl) (by rfl) ?_
    repeat walk_at "n"
    refine ⟨⟨_, _, S₇⟩, ?_⟩
    refine heapreplace_max_raises B' G' S₇ hh (by show A₀.depth + 1 + 1 < 900; omega) rfl ?_
    intro e s' G₂ m₂ F₂ hm₂ RS up R₂
    refine caught_SN0 (g₀ := g) RS F₂ B' up X T D' KtsTurn.refl (by rfl) PyProof.Rows.Boot.«IndexError» (by decide) PySem.F.isExc_IndexError PySem.F.notTuple_IndexError (by rw [isSubtype_type]; kernel_rfl) ?_
    intro h' g' Tn F₃ N₃ B₃ X₃ T₃ D₃
    repeat walk_at "n"
    refine leaveS0_ (news' := (a, lo [] n) :: news) F₃ (fun p hp => N₃ p (.tail _ hp)) Tn (fun F₄ N₄ => h _ ⟨⟨m, F₄, hm⟩, N₄, R₂.trans ⟨rfl, rfl, rfl⟩⟩)

end
set_option hygiene false in
local macro_rules | `(tactic| walk_at "m") => `(tactic| first
  | ((with_reducible show wpAny _ _ (exec (Stmt.AugAssign (Expr.Name _ _) _ _ _) _) _ _ _); refine wpAny_AugAssign_Name ?_)
  | ((with_reducible show wpAny _ _ (loadName _ _) _ _ _); refine At.ldn (by assumption) (by rfl) ?_))
section -- NbTT
def thr (j b : Int) : Int := if 36 * (j + 1) - b < 1 then 1 else if 26 < 36 * (j + 1) - b then 26 else 36 * (j + 1) - b

theorem T_spec {w : World} {A : Around} {E : Value → Shared → Prop} {s : Shared} {j b : Int} {t u : Tok} (G : Gd w s.heap) (hA : A.depth < recursionLimit) :
    wpAny (MM w) A (call (.ref 21) [.int j t, .int b u]) (fun v s' => Keeps s s' ∧ ∃ t', v = .int (thr j b) t') E s := by
  refine call_pure [(Str.ofString "j", .int j t), (Str.ofString "bias", .int b u)] G hA (by rfl) (by rfl) (BindsTo.of_eq rfl) (locs rfl) ?_ 
  intro L s₁ S
  repeat' walk_at "n"
  refine split_dec (fun h1 => ?_) (fun h1 => ?_)
  · repeat' walk_at "n"
    exact ⟨⟨_, _, by assumption⟩, _, by rw [thr, if_pos h1]⟩
  · repeat' walk_at "n"
    refine split_dec (fun h2 => ?_) (fun h2 => ?_)
    · repeat' walk_at "n"
      exact ⟨⟨_, _, by assumption⟩, _, by rw [thr, if_neg h1, if_pos h2]⟩
    · repeat' walk_at "n"
      exact ⟨⟨_, _, by assumption⟩, _, by rw [thr, if_neg h1, if_neg h2]⟩

end
section -- NbGn
section
variable {prog : Program} {A : Around} {E : Value → Shared → Prop} {s o : Shared} {L a : Addr} {h₀ : Heap} {l : List (Str × Value)} {news : List (Addr × Obj)} {w : World} {i j : Int} {t u : Tok}
theorem At.iadd {Q : Value → Shared → Prop} (S : At o h₀ L l news s) (h : ∀ t s', At o h₀ L l news s' → Q (.int (i + j) t) s') : wpAny (model prog w) A (inplaceOp .Add (.int i t) (.int j u)) Q E s := iadd_int (h _ _ (S.toks _))
theorem At.grown {s' : Shared} {ob : Obj} (S : At o h₀ L l news s) (hD : s'.heap.get? s.heap.objs.size = some ob) (hk : ∀ b x, s.heap.get? b = some x → s'.heap.get? b = some x) (r : Rest s s') : At o h₀ L l ((s.heap.objs.size, ob) :: news) s' := by
  obtain ⟨⟨m, F, hm⟩, N, R⟩ := S
  exact ⟨⟨m, F.keeps hk, hm⟩, news_pushed F N hk hD rfl, R.trans r⟩
theorem At.cAppend {arr : Array UInt8} {k : Int} {Q : Value → Shared → Prop} (S : At o h₀ L l ((a, baObj arr) :: news) s) (ha : ∀ p ∈ news, p.1 ≠ a) (h0 : 0 ≤ k) (h1 : k < 256) (hz : arr.size < 1000)
    (h : ∀ s', At o h₀ L l ((a, baObj (arr.push k.toNat.toUInt8)) :: news) s' → Q .none s') : wpC (model prog w) A (call (.builtin "bytearray.append") [.ref a, .int k t]) Q E s := by
  refine Mine.cAppend (S.get (.head _)) h0 h1 hz (h _ ?_)
  exact S.upd (tk := s.toks) ha (Heap.SameBut.update ..) (Heap.get?_update_self _ (S.get (.head _)) rfl)
end

theorem call_pureC {w : World} {A : Around} {E : Value → Shared → Prop} {s : Shared} {Post : Value → Shared → Prop} {name qual : Str} {params : Arguments} {body : List Stmt} {scope : Scope} {dV kV doc pm cdv ct oc : Value} {an od : Option Addr} {osl : Array (Option Value)} {f : Addr} {args : List Value}
    (binds : List (Str × Value)) (G : Gd w s.heap) (hroom : A.depth < recursionLimit)
    (ho : (KK w).lookup f = some ⟨oc, od, .func (fnOf name qual params body scope dV kV doc pm an cdv ct), osl⟩) (hcd : codeIn (KK w) cdv qual = true)
    (hbind : BindsTo s (fnOf name qual params body scope dV kV doc pm an cdv ct) ⟨args, []⟩ binds) (hloc : ∀ y ∈ binds, scope.names.lookup y.1 = some .local)
    (h : ∀ L s₁, At s s.heap L binds.reverse [] s₁ → wpC (MM w) (A.deeper (envOf qual scope L f cdv)) (execs body (envOf qual scope L f cdv))
        (fun fl s' => (∃ l news, At s s.heap L l news s') ∧ Post (retOf fl) s') (fun _ _ => False) s₁)
    (hco : scope.isCoroutine = false := by rfl) (hgen : scope.isGenerator = false := by rfl) (hk : scope.kind = .function := by rfl)
    (hcell : ∀ x ∈ scope.names, x.2 ≠ .cell := by decide) :
    wpC (MM w) A (call (.ref f) args) (fun v s' => Keeps s s' ∧ Post v s') E s := by
  refine cCall (codeCCallDef (fd := fnOf name qual params body scope dV kV doc pm an cdv ct) (body := body) (binds := binds) hroom (G.X _ _ ho) rfl G.nolimit (codeRec_of G.X hcd) rfl hbind hcell hloc (fun h₁ hns hk₁ => ?_) hco hgen hk)
  have S : At s s.heap s.heap.objs.size binds.reverse [] { s with heap := h₁, toks := s.toks + binds.length } :=
    ⟨⟨_, ⟨hns, hk₁, Nat.le_refl _⟩, fun _ _ e => e⟩, News.nil, ⟨rfl, rfl, rfl⟩⟩
  refine cMono (h _ _ S) (fun fl s' hf => ?_) fun _ _ x => x.elim
  obtain ⟨⟨l, news, S'⟩, hp⟩ := hf
  have hr := S'.R
  refine ⟨⟨s'.heap, s'.toks, ?_, S'.keep⟩, ?_⟩
  · obtain ⟨r1, r2, r3⟩ := hr
    cases s'; cases s; simp only at r1 r2 r3 ⊢; subst r1 r2 r3; rfl
  · cases fl <;> exact hp

theorem thr_pos (j b : Int) : 1 ≤ thr j b ∧ thr j b ≤ 26 := by unfold thr; split <;> (try split) <;> omega
/-- the figures of a number, the last one first -/
def gg (b : Int) (N : Int) (j : Nat) : List Int :=
  if h : thr j b ≤ N then (thr j b + (N - thr j b) % (36 - thr j b)) :: gg b ((N - thr j b) / (36 - thr j b)) (j + 1) else [N]
termination_by N.toNat
decreasing_by
  have ht := thr_pos j b
  have h1 : (N - thr j b) / (36 - thr j b) ≤ N - thr j b := Int.ediv_le_self _ (by omega)
  omega
def dig (f : Int) : Int := if f < 26 then 97 + f else 22 + f
theorem dig_table : ∀ k : Nat, k < 36 → ([97, 98, 99, 100, 101, 102, 103, 104, 105, 106, 107, 108, 109, 110, 111, 112, 113, 114, 115, 116, 117, 118, 119, 120, 121, 122, 48, 49, 50, 51, 52, 53, 54, 55, 56, 57] : List Int).getD k 0 = dig k := by decide
theorem dig_rng {f : Int} (h0 : 0 ≤ f) (h1 : f < 36) : 0 ≤ dig f ∧ dig f < 256 := by unfold dig; split <;> omega

theorem digits_item {w : World} {A : Around} {E : Value → Shared → Prop} {s : Shared} {value slice : PySem.Expr} {f : Int} {u t₀ : Tok} {Q : Value → Shared → Prop} (h0 : 0 ≤ f) (h1 : f < 36) (h : ∀ t' k, Q (.int (dig f) t') { s with toks := k })
    (hs : subscripted slice false (.bytes #[97, 98, 99, 100, 101, 102, 103, 104, 105, 106, 107, 108, 109, 110, 111, 112, 113, 114, 115, 116, 117, 118, 119, 120, 121, 122, 48, 49, 50, 51, 52, 53, 54, 55, 56, 57] t₀) (.int f u) = operate [.bytes #[97, 98, 99, 100, 101, 102, 103, 104, 105, 106, 107, 108, 109, 110, 111, 112, 113, 114, 115, 116, 117, 118, 119, 120, 121, 122, 48, 49, 50, 51, 52, 53, 54, 55, 56, 57] t₀, .int f u] (getItem (.bytes #[97, 98, 99, 100, 101, 102, 103, 104, 105, 106, 107, 108, 109, 110, 111, 112, 113, 114, 115, 116, 117, 118, 119, 120, 121, 122, 48, 49, 50, 51, 52, 53, 54, 55, 56, 57] t₀) (.int f u)) := by with_unfolding_all rfl)
    (ht : ∀ r, letTemporaryGo value (.bytes #[97, 98, 99, 100, 101, 102, 103, 104, 105, 106, 107, 108, 109, 110, 111, 112, 113, 114, 115, 116, 117, 118, 119, 120, 121, 122, 48, 49, 50, 51, 52, 53, 54, 55, 56, 57] t₀) r = pure () := by intro _; with_unfolding_all rfl) :
    wpAny (MM w) A (subscriptTail value slice (.bytes #[97, 98, 99, 100, 101, 102, 103, 104, 105, 106, 107, 108, 109, 110, 111, 112, 113, 114, 115, 116, 117, 118, 119, 120, 121, 122, 48, 49, 50, 51, 52, 53, 54, 55, 56, 57] t₀) (.int f u)) Q E s := by
  refine KBw.item_K (ks := [97, 98, 99, 100, 101, 102, 103, 104, 105, 106, 107, 108, 109, 110, 111, 112, 113, 114, 115, 116, 117, 118, 119, 120, 121, 122, 48, 49, 50, 51, 52, 53, 54, 55, 56, 57]) (by decide) (by decide) h0 (by simpa using h1) (fun t' k _ _ => ?_) hs ht
  rw [dig_table _ (by omega)]
  have e : ((f.toNat : Nat) : Int) = f := Int.toNat_of_nonneg h0
  rw [e]
  exact h t' k

end
set_option hygiene false in
local macro_rules | `(tactic| walk_at "m") => `(tactic| first
  | ((with_reducible show wpAny _ _ (inplaceOp Operator.Add (Value.int _ _) (Value.int _ _)) _ _ _); refine At.iadd (by assumption) ?_; intro _ _ _))
section -- NbGe
theorem push_bInts (arr : Array UInt8) {k : Int} (h0 : 0 ≤ k) (h1 : k < 256) : KBw.bInts (arr.push k.toNat.toUInt8) = KBw.bInts arr ++ [k] := by
  simp only [KBw.bInts, Array.toList_push, List.map_append, List.map_cons, List.map_nil]
  congr 2
  exact PySem.W.byte_back h0 h1
theorem size_bInts {arr : Array UInt8} {ks : List Int} (h : KBw.bInts arr = ks) : arr.size = ks.length := by rw [← h, KBw.ints_length]

theorem generate_spec {w : World} {A : Around} {E : Value → Shared → Prop} {s : Shared} {N b : Int} {t u : Tok} (G : Gd w s.heap) (hd : A.depth + 3 < 900) (h0 : 0 ≤ N) (h1 : N < 1000000000) :
    wpC (MM w) A (call (.ref 28) [.int N t, .int b u]) (fun v s' => Keeps s s' ∧ ∃ arr t', v = .bytes arr t' ∧ KBw.bInts arr = (gg b N 0).map dig) E s := by
  refine call_pureC [(Str.ofString "N", .int N t), (Str.ofString "bias", .int b u)] G (by show _ < 1000; omega) (by rfl) (by rfl) (BindsTo.of_eq rfl) (locs rfl) ?_
  intro L s₁ S₁
  refine cExecsL ?_; intro zq zk; refine (cAssignName (cCallName (At.blt S₁ G (v := .type "bytearray") (by rfl) (by rfl) (by decide) (cCallWithType0 (cCallBA fun s₂ b1 b2 b3 b4 b5 => ?_)))))
  have S₂ := S₁.grown b1 b2 ⟨b3, b4, b5⟩
  generalize s₁.heap.objs.size = ra at S₂ ⊢
  refine S₂.st fun s₃ S₃ => ?_
  refine cExecsL ?_; intro zq zk; refine cAny ?_
  repeat walk_at "n"
  rename_i S₄
  refine cExecsL ?_; intro zq zk; refine (cWhile (codeCWhile (fun k s' => ∃ (N' : Int) (j e : Nat) (arr : Array UInt8) (done : List Int) (t₁ t₂ : Tok), k = N'.toNat ∧ 0 ≤ N' ∧ j + e = 9 ∧ N' < 10 ^ e ∧ done ++ gg b N' j = gg b N 0 ∧ done.length = j ∧ KBw.bInts arr = done.map dig ∧
      At s s.heap L [(Str.ofString "N", .int N' t₁), (Str.ofString "bias", .int b u), (Str.ofString "result", .ref ra), (Str.ofString "j", .int j t₂)] [(ra, baObj arr)] s') ?_ N.toNat
    ⟨N, 0, 9, #[], [], t, _, rfl, h0, rfl, h1, rfl, rfl, rfl, S₄.dropR rfl⟩))
  intro k s₅ zh
  refine hideG ?_
  intro zg
  obtain ⟨N', j, e, arr, done, t₁, t₂, hk, hN0, hje, hN1, hg, hdl, harr, S₅⟩ := zh
  have hsz := size_bInts harr
  rw [List.length_map, hdl] at hsz
  have ht := thr_pos j b
  refine isTrue_plain ?_
  refine S₅.int fun _ _ S₆ => ?_
  refine PyProof.Rows.truthy_int ?_
  refine ite_tt ?_
  refine cExecsL ?_; intro zq zk; refine cAny ?_
  repeat walk_at "n"
  refine S₆.callf G (by rfl) (by rfl) ?_
  repeat walk_at "n"
  refine ⟨⟨_, _, S₆⟩, ?_⟩
  refine wpAny_mono (T_spec (G.keeps S₆.keep) (by show A.depth + 1 < 1000; omega)) ?_ (fun _ _ x => x)
  rintro _ s₇ ⟨hk7, t₇, rfl⟩
  have S₇ := S₆.kept hk7
  refine S₇.st fun s₈ S₈ => ?_
  refine cExecsL ?_; intro zq zk; refine cIf ?_
  repeat walk_at "n"
  refine split_dec (fun hc => ?_) (fun hc => ?_)
  · refine cExecsL ?_; intro zq zk; refine (cExpr (cMethod ?_))
    repeat walk_at "n"
    refine getMethod_builtin (T := "bytearray") ⟨_, S₈.get (.head _), rfl⟩ ba_plainAttrs ba_slot_append ba_type_append (fun x e => by cases e; exact ⟨_, S₈.get (.head _), rfl⟩) ?_
    refine cMethod1 ?_
    refine args_cons (Subscript_ (S₈.glob G (by rfl) ?_))
    repeat walk_at "n"
    refine digits_item hN0 (by omega) fun t₉ k₉ => ?_
    have S₉ := S₈.toks k₉
    repeat walk_at "n"
    have hr := dig_rng hN0 (show N' < 36 by omega)
    refine S₉.cAppend (fun p hp => nomatch hp) hr.1 hr.2 (by omega) fun s₁₀ S₁₀ => ?_
    refine cExecsL ?_; intro zq zk; refine cAny ?_
    repeat walk_at "n"
    refine S₁₀.callt G (by rfl) (by rfl) (by decide) ?_
    repeat walk_at "n"
    refine callBytesBA (S₁₀.get (.head _)) (by rw [Array.size_push]; show _ ≤ 2 ^ 24; omega) fun t₁₁ k₁₁ => ?_
    have S₁₁ := S₁₀.toks k₁₁
    refine ⟨⟨_, _, S₁₁⟩, _, _, rfl, ?_⟩
    rw [push_bInts _ hr.1 hr.2, harr, ← hg]
    have e : gg b N' j = [N'] := by rw [gg, dif_neg (by omega)]
    rw [e, List.map_append]; rfl
  · have hc : thr j b ≤ N' := by omega
    have hm0 : 0 ≤ (N' - thr j b) % (36 - thr j b) := Int.emod_nonneg _ (by omega)
    have hm1 : (N' - thr j b) % (36 - thr j b) < 36 - thr j b := Int.emod_lt_of_pos _ (by omega)
    have hg' : gg b N' j = (thr j b + (N' - thr j b) % (36 - thr j b)) :: gg b ((N' - thr j b) / (36 - thr j b)) (j + 1) := by
      conv => lhs; rw [gg, dif_pos hc]
    refine cAny ?_
    refine wpAny_execs_nil ?_
    refine cExecsL ?_; intro zq zk; refine (cExpr (cMethod ?_))
    repeat walk_at "n"
    refine getMethod_builtin (T := "bytearray") ⟨_, S₈.get (.head _), rfl⟩ ba_plainAttrs ba_slot_append ba_type_append (fun x e => by cases e; exact ⟨_, S₈.get (.head _), rfl⟩) ?_
    refine cMethod1 ?_
    refine args_cons (Subscript_ (S₈.glob G (by rfl) ?_))
    repeat walk_at "n"
    rename_i S₉
    refine S₉.mod (by omega) (Int.fmod_eq_emod_of_nonneg _ (by omega)) fun t₁₀ s₁₀ S₁₀ => ?_
    repeat walk_at "n"
    rename_i S₁₁
    refine digits_item (by omega) (by omega) fun t₁₂ k₁₂ => ?_
    have S₁₂ := S₁₁.toks k₁₂
    repeat walk_at "n"
    have hr := dig_rng (f := thr j b + (N' - thr j b) % (36 - thr j b)) (by omega) (by omega)
    refine S₁₂.cAppend (fun p hp => nomatch hp) hr.1 hr.2 (by omega) fun s₁₃ S₁₃ => ?_
    refine cAny ?_
    repeat walk_at "n"
    rename_i S₁₄
    refine S₁₄.floordiv (by omega) (by omega) (Int.fdiv_eq_ediv_of_nonneg _ (by omega)) fun t₁₅ s₁₅ S₁₅ => ?_
    repeat walk_at "n"
    rename_i S₁₆
    have hq0 : 0 ≤ (N' - thr j b) / (36 - thr j b) := Int.ediv_nonneg (by omega) (by omega)
    have hq1 : (N' - thr j b) / (36 - thr j b) ≤ N' - thr j b := Int.ediv_le_self _ (by omega)
    have he : 1 ≤ e := by
      rcases Nat.eq_zero_or_pos e with rfl | h
      · simp at hN1; omega
      · exact h
    have hq2 : (N' - thr j b) / (36 - thr j b) < 10 ^ (e - 1) := by
      rw [Int.ediv_lt_iff_lt_mul (by omega)]
      have e1 : (10 : Int) ^ e = 10 ^ (e - 1) * 10 := by rw [← Int.pow_succ]; congr 1; omega
      have e2 : (10 : Int) ^ (e - 1) * 10 ≤ 10 ^ (e - 1) * (36 - thr j b) := Int.mul_le_mul_of_nonneg_left (by omega) (Int.pow_nonneg (by decide))
      omega
    refine ⟨((N' - thr j b) / (36 - thr j b)).toNat, by omega, _, j + 1, e - 1, _, done ++ [thr j b + (N' - thr j b) % (36 - thr j b)], _, _, rfl, hq0, by omega, hq2, ?_, by simp [hdl], ?_,
      S₁₆.dropR rfl⟩
    · rw [← hg, hg', List.append_assoc]; rfl
    · rw [push_bInts _ hr.1 hr.2, harr, List.map_append]; rfl

end
set_option hygiene false in
local macro_rules | `(tactic| walk_at "m") => `(tactic| first
  | ((with_reducible show wpAny _ _ (eval (Expr.Slice _ _ _ _) _) _ _ _); refine wpAny_Slice ?_)
  | ((with_reducible show wpAny _ _ (evalPart none _) _ _ _); refine evalPart_none_step ?_)
  | ((with_reducible show wpAny _ _ (evalPart (some _) _) _ _ _); refine evalPart_some_step ?_)
  | ((with_reducible show wpAny _ _ (eval (Expr.UnaryOp UnaryOp.USub _ _) _) _ _ _); refine UnaryOp_ ?_))
section -- NbSl
section
variable {prog : Program} {A : Around} {E : Value → Shared → Prop} {s o : Shared} {L a : Addr} {h₀ : Heap} {l : List (Str × Value)} {news : List (Addr × Obj)} {w : World} {i j : Int} {t u : Tok} {vs zs : List Value} {n : Nat}
theorem At.neg {Q : Value → Shared → Prop} (S : At o h₀ L l news s) (h : ∀ t s', At o h₀ L l news s' → Q (.int (-i) t) s') : wpAny (model prog w) A (unaryOp .USub (.int i t)) Q E s := neg_int (h _ _ (S.toks _))
theorem At.slice {value slice : PySem.Expr} {vl vu vk : Value} {lo' hi st : Option Int} {ops : List Value} {Q : Value → Shared → Prop} (S : At o h₀ L l news s) (ha : s.heap.get? a = some (lo vs n)) (hz : vs.length < 1000)
    (pl : IsPart vl lo') (pu : IsPart vu hi) (pk : IsPart vk st) (h0 : st ≠ some 0) (e : (slicePick vs.toArray lo' hi st).toList = zs)
    (h : ∀ b s', At o h₀ L l ((b, lo zs 0) :: news) s' → (∀ p ∈ news, p.1 ≠ b) → Q (.ref b) s')
    (hs : subscripted slice false (.ref a) (.ref s.heap.objs.size) = operate ops (getItem (.ref a) (.ref s.heap.objs.size)) := by with_unfolding_all rfl) (ht : ∀ r, letTemporaryGo value (.ref a) r = pure () := by intro _; with_unfolding_all rfl) :
    wpAny (model prog w) A (subscriptTail value slice (.ref a) (.ref s.heap.objs.size)) Q E { s with heap := s.heap.push { cls := .type "slice", data := .fields #[vl, vu, vk] } } := by
  obtain ⟨⟨m, F, hm⟩, N, R⟩ := S
  refine slice_list3 F N (isListOf ha) pl pu pk h0 (fun h' F' N' => h _ _ ⟨⟨m, F', hm⟩, ?_, R.trans ⟨rfl, rfl, rfl⟩⟩ (fun p hp => Nat.ne_of_lt (Nat.lt_succ_of_lt (Heap.lt_size (N p hp).1)))) hs ht (by rw [List.size_toArray]; show _ ≤ 2 ^ 24; omega)
  rw [← e, Array.toArray_toList]
  exact N'
theorem pick_rev (vs : List Value) : (slicePick vs.toArray none none (some (-1))).toList = vs.reverse := by rw [krv_pick]
theorem pick_upto (vs : List Value) (k : Nat) : (slicePick vs.toArray none (some (k : Int)) none).toList = vs.take k := by
  rw [kms_pick_eq]
  have h0 : ¬ ((k : Int) < 0) := by omega
  simp only [kms_pick, kms_lo, kms_hi, if_neg h0]
  simp
theorem pick_from (vs : List Value) (k : Nat) : (slicePick vs.toArray (some (k : Int)) none none).toList = vs.drop k := by
  rw [kms_pick_eq]
  have h0 : ¬ ((k : Int) < 0) := by omega
  simp only [kms_pick, kms_lo, kms_hi, if_neg h0]
  simp only [Int.toNat_natCast, List.toArray]
  rcases Nat.lt_or_ge k vs.length with h | h
  · rw [Nat.min_eq_left (Nat.le_of_lt h), List.take_of_length_le (by simp)]
  · rw [Nat.min_eq_right h, List.drop_of_length_le h, List.drop_of_length_le (Nat.le_refl _), List.take_nil]
theorem pick_init (vs : List Value) : (slicePick vs.toArray none (some (-1)) none).toList = vs.dropLast := by
  rw [kms_pick_eq]
  simp only [kms_pick, kms_lo, kms_hi]
  simp [List.dropLast_eq_take]
end

end
set_option hygiene false in
local macro_rules | `(tactic| walk_at "m") => `(tactic| first
  | ((with_reducible show wpAny _ _ (unaryOp UnaryOp.USub (Value.int _ _)) _ _ _); refine At.neg (by assumption) ?_; intro _ _ _))
section -- NbLc
theorem iv_of {arr : Array UInt8} {vs : List Value} (hlen : vs.length = arr.size) (hP : ∀ (j : Nat) (v : Value), vs[j]? = some v → ∃ c u, arr[j]? = some c ∧ v = .int ((c : UInt8).toNat : Int) u) : IntsAre vs (KBw.bInts arr) := by
  obtain ⟨xs⟩ := arr
  show IntsAre vs (xs.map fun c => (c.toNat : Int))
  simp only [List.size_toArray, List.getElem?_toArray] at hlen hP
  induction vs generalizing xs with
  | nil =>
    cases xs with
    | nil => exact .nil
    | cons _ _ => cases hlen
  | cons v vs ih =>
    cases xs with
    | nil => cases hlen
    | cons c xs =>
      obtain ⟨c', u, e, rfl⟩ := hP 0 v rfl
      cases e
      exact .cons _ _ (ih xs (Nat.succ.inj hlen) fun j v e => hP (j + 1) v e)
theorem keepsRefl (s : Shared) : Keeps s s := ⟨s.heap, s.toks, rfl, fun _ _ e => e⟩
theorem ftrue {α : Type} (l : List α) : l.filter (fun _ => true) = l := List.filter_eq_self.mpr fun _ _ => rfl
section
variable {prog : Program} {A : Around} {E : Value → Shared → Prop} {s o : Shared} {L a : Addr} {h₀ : Heap} {l : List (Str × Value)} {news : List (Addr × Obj)} {w : World} {env : Env} {scope : Scope} {cl : List (Str × Addr)}
theorem At.made {s' : Shared} {D : Addr} {ys : Array Value} (S : At o h₀ L l news s) (hD : s.heap.get? D = none) (hp : s'.heap.PlainList D ys) (hk : ∀ b x, s.heap.get? b = some x → s'.heap.get? b = some x) (r : Rest s s') :
    ∃ k, At o h₀ L l ((D, lo ys.toList k) :: news) s' ∧ ∀ p ∈ news, p.1 ≠ D := by
  obtain ⟨⟨m, F, hm⟩, N, R⟩ := S
  obtain ⟨k, e⟩ := hp
  refine ⟨k, ⟨⟨m, F.keeps hk, hm⟩, List.forall_mem_cons.mpr ⟨⟨?_, ?_, ?_⟩, fun p hp => ⟨hk _ _ (N p hp).1, (N p hp).2⟩⟩, R.trans r⟩, fun p hp q => ?_⟩
  · rw [e]
  · rintro rfl
    obtain ⟨o', _, _, ho, _⟩ := F.ns
    rw [hD] at ho; cases ho
  · cases q : h₀.get? D with
    | none => rfl
    | some o' => have := F.keep _ _ q; rw [hD] at this; cases this
  · have := (N p hp).1; rw [q, hD] at this; cases this

theorem At.compL {elt iter : PySem.Expr} {x : Str} {px : Pos} {pos : Pos} {Q : Value → Shared → Prop} (F : Value → Value → Prop) (hh : A.handled = none)
    (hclos : closureFor scope env = pure cl) (hcell : ∀ y ∈ scope.names, y.2 ≠ .cell) (hkind : scope.kind = .function)
    (hnames : ∀ y ∈ scope.names, y.2 = .local → scope.names.lookup y.1 = some .local) (hx : scope.names.lookup x = some .local)
    (h : wpAny (model prog w) A (eval iter env) (fun xv s₁ => ∃ ax vs n l news, xv = .ref ax ∧ At o h₀ L l news s₁ ∧ s₁.heap.get? ax = some (lo vs n) ∧ vs.length < 1000 ∧
      (∀ C v s₃ m₃ E', v ∈ vs → s₃.heap.Ns C m₃ → m₃ x = some v → (∀ b ob, s₁.heap.get? b = some ob → s₃.heap.get? b = some ob) →
        wpAny (model prog w) A (eval elt (compEnvC scope cl C env)) (fun y s₄ => F v y ∧ Keeps s₃ s₄) E' s₃) ∧
      (∀ D ys k s', Paired F vs ys → At o h₀ L l ((D, lo ys k) :: news) s' → (∀ p ∈ news, p.1 ≠ D) → Q (.ref D) s')) E s)
    (hs : ∀ x, foldedSetIterable iter env x = pure x := by intro _; rfl) :
    wpAny (model prog w) A (eval (.ListComp elt [⟨.Name x px, iter, [], 0⟩] scope pos) env) Q E s := by
  refine wpAny_ListComp_free (fun _ => true) F hclos hcell hkind hnames hx (wpAny_mono h (fun xv s₁ h₁ => ?_) fun _ _ e => e) hs
  obtain ⟨ax, vs, n, l, news, rfl, S, hget, hz, helt, hQ⟩ := h₁
  have hl := isListOf hget
  have hlt : ax < s₁.heap.objs.size := Heap.lt_size hget
  have up : ∀ (s₃ : Shared), (∀ b o, b ∉ [s₁.heap.objs.size] → (s₁.heap.push { cls := .type "list_iterator", data := .fields #[.ref ax, .int 0 0] }).get? b = some o → s₃.heap.get? b = some o) → ∀ b o, s₁.heap.get? b = some o → s₃.heap.get? b = some o :=
    fun s₃ hk b o e => hk b o (fun hm => by rcases List.mem_cons.mp hm with rfl | hm; exact Nat.lt_irrefl _ (Heap.lt_size e); cases hm) (Heap.get?_push_of_some _ e)
  refine wpAny_pyIter_list hl ⟨s₁.heap.objs.size, [s₁.heap.objs.size, ax], [s₁.heap.objs.size], vs.toArray.size, _, _, rfl, Walks.list hh _ _ (Nat.ne_of_lt hlt) vs.toArray, (by rw [List.size_toArray]; show _ ≤ 2 ^ 24; omega), ⟨⟨_, Heap.get?_push_size _ rfl, rfl, rfl⟩, hl.push _⟩, ?_, ⟨?_, ?_⟩, ?_⟩
  · intro b hb
    show b < (s₁.heap.push _).objs.size
    rw [Heap.size_push]
    rcases List.mem_cons.mp hb with rfl | hb
    · exact Nat.lt_succ_self _
    · rcases List.mem_cons.mp hb with rfl | hb
      · exact Nat.lt_succ_of_lt hlt
      · cases hb
  · intro C i v s₃ m₃ E' _ hP hn hm hk _
    exact wpAny_pure ⟨rfl, keepsRefl _⟩
  · intro C i v s₃ m₃ E' _ hP hp hn hm hk _
    exact helt C v s₃ m₃ E' (by simpa using Array.mem_of_getElem? hP) hn hm (up s₃ hk)
  · intro D h' tk ys vs' hnew hlD hpD hlen hP hF hk
    have e : vs' = vs := by simpa using list_of_places hlen hP
    subst e
    have keep : ∀ b o, s₁.heap.get? b = some o → h'.get? b = some o := up { s₁ with heap := h' } hk
    have hD0 : s₁.heap.get? D = none := by
      cases e : s₁.heap.get? D with
      | none => rfl
      | some o' => rw [Heap.get?_push_of_some _ e] at hnew; cases hnew
    obtain ⟨k, S', hne⟩ := S.made (s' := { s₁ with heap := h', toks := tk }) hD0 hpD keep ⟨rfl, rfl, rfl⟩
    exact hQ D ys.toList k _ (by rw [ftrue] at hF; exact hF) S' hne

theorem At.compBA {name : Str} {fscope : Scope} {cd : Value} {elt iter : PySem.Expr} {x y : Str} {px py : Pos} {pos spos : Pos} {Q : Flow → Shared → Prop} (F : Value → Value → Prop) (hh : A.handled = none)
    (hsw : swapsWith (.ListComp elt [⟨.Name x px, iter, [], 0⟩] scope pos) (some (.Name y py)) spos.line (envOf name fscope L a cd) = pure true)
    (hclos : closureFor scope (envOf name fscope L a cd) = pure cl) (hcell : ∀ y ∈ scope.names, y.2 ≠ .cell) (hkind : scope.kind = .function)
    (hnames : ∀ y ∈ scope.names, y.2 = .local → scope.names.lookup y.1 = some .local) (hx : scope.names.lookup x = some .local)
    (hy : (envOf name fscope L a cd).kindOf y = some .local) (hfk : fscope.kind = .function)
    (h : wpAny (model prog w) A (eval iter (envOf name fscope L a cd)) (fun xv s₁ => ∃ arr t, xv = .bytes arr t ∧ At o h₀ L l news s₁ ∧ arr.size < 1000 ∧
      (∀ C (i : Nat) (c : UInt8) u s₃ m₃ E', arr[i]? = some c → s₃.heap.Ns C m₃ → m₃ x = some (.int (c.toNat : Int) u) → (∀ b ob, s₁.heap.get? b = some ob → s₃.heap.get? b = some ob) →
        wpAny (model prog w) A (eval elt (compEnvC scope cl C (envOf name fscope L a cd))) (fun y s₄ => F (.int (c.toNat : Int) u) y ∧ Keeps s₃ s₄) E' s₃) ∧
      (∀ D vs ys k s', IntsAre vs (KBw.bInts arr) → Paired F vs ys → At o h₀ L ((y, .ref D) :: l) ((D, lo ys k) :: news) s' → (∀ p ∈ news, p.1 ≠ D) → Q .next s')) E s)
    (hs : ∀ x, foldedSetIterable iter (envOf name fscope L a cd) x = pure x := by intro _; rfl) :
    wpAny (model prog w) A (exec (.Assign [.Name y py] (.ListComp elt [⟨.Name x px, iter, [], 0⟩] scope pos) spos) (envOf name fscope L a cd)) Q E s := by
  refine wpAny_Assign_ListComp_free (fun _ => true) F hsw hclos hcell hkind hnames hx hy (by show (fscope.kind == _ || (fscope.kind == _ && _)) = false; rw [hfk]; rfl) (wpAny_mono h (fun xv s₁ h₁ => ?_) fun _ _ e => e) hs
  obtain ⟨arr, t, rfl, ⟨⟨m, Fr, hm⟩, N, R⟩, hz, helt, hQ⟩ := h₁
  have up : ∀ (s₃ : Shared), (∀ b o, b ∉ [s₁.heap.objs.size] → (s₁.heap.push { cls := .type "bytes_iterator", data := .fields #[.bytes arr t, .int 0 0] }).get? b = some o → s₃.heap.get? b = some o) → ∀ b o, s₁.heap.get? b = some o → s₃.heap.get? b = some o :=
    fun s₃ hk b o e => hk b o (fun hm => by rcases List.mem_cons.mp hm with rfl | hm; exact Nat.lt_irrefl _ (Heap.lt_size e); cases hm) (Heap.get?_push_of_some _ e)
  refine KBw.pyIter_bytes ⟨s₁.heap.objs.size, [s₁.heap.objs.size], [s₁.heap.objs.size], arr.size, _, _, m, rfl, KBw.walks hh _ arr t, (by show _ ≤ 2 ^ 24; omega), ⟨_, Heap.get?_push_size _ rfl, rfl, rfl⟩, ?_, ?_, ?_, ⟨?_, ?_⟩, ?_⟩
  · intro b hb
    show b < (s₁.heap.push _).objs.size
    rw [Heap.size_push]
    rcases List.mem_cons.mp hb with rfl | hb
    · exact Nat.lt_succ_self _
    · cases hb
  · intro hb
    exact absurd Fr.ns.lt ((List.mem_singleton.mp hb) ▸ Nat.lt_irrefl _)
  · exact Fr.ns.push _
  · intro C i v s₃ m₃ E' _ hP hn hm hk _
    exact wpAny_pure ⟨rfl, keepsRefl _⟩
  · rintro C i v s₃ m₃ E' _ ⟨c, u, hc, rfl⟩ hp hn hm hk _
    exact helt C i c u s₃ m₃ E' hc hn hm (up s₃ hk)
  · intro D h' tk ys vs' hnew hlD hpD hlen hP hF hns hk
    have hD0 : s₁.heap.get? D = none := by
      cases e : s₁.heap.get? D with
      | none => rfl
      | some o' => rw [Heap.get?_push_of_some _ e] at hnew; cases hnew
    have keep : ∀ b o, b ≠ L → s₁.heap.get? b = some o → h'.get? b = some o := fun b o hb e => hk b o hb (fun hm => by rcases List.mem_cons.mp hm with rfl | hm; exact Nat.lt_irrefl _ (Heap.lt_size e); cases hm) (Heap.get?_push_of_some _ e)
    have hL0 : h₀.get? L = none := by
      cases e : h₀.get? L with
      | none => rfl
      | some o' => exact absurd (Heap.lt_size e) (Nat.not_lt.mpr Fr.above)
    obtain ⟨k, e⟩ := hpD
    have hLD : D ≠ L := by
      rintro rfl
      obtain ⟨o', _, _, ho, _⟩ := Fr.ns
      have := hD0 ▸ ho; cases this
    refine hQ D vs' ys.toList k _ (iv_of hlen hP) (by rw [ftrue] at hF; exact hF) ⟨⟨_, ⟨hns, fun b x e => keep b x (fun q => by rw [q, hL0] at e; cases e) (Fr.keep b x e), Fr.above⟩, fun z u e => ?_⟩, List.forall_mem_cons.mpr ⟨⟨?_, hLD, ?_⟩, fun p hp => ⟨keep _ _ (N p hp).2.1 (N p hp).1, (N p hp).2⟩⟩, R.trans ⟨rfl, rfl, rfl⟩⟩ (fun p hp q => ?_)
    · rw [List.lookup_cons] at e
      by_cases hy : z = y
      · rw [if_pos hy]; rw [hy, beq_self_eq_true] at e; exact e
      · rw [if_neg hy]; rw [show (z == y) = false from beq_eq_false_iff_ne.mpr hy] at e; exact hm z u e
    · show h'.get? D = _; rw [e]
    · cases q : h₀.get? D with
      | none => rfl
      | some o' => have := Fr.keep _ _ q; rw [hD0] at this; cases this
    · have := (N p hp).1; rw [q, hD0] at this; cases this
end

end
section -- NbKy
theorem At.kept1 {s s' o : Shared} {L c : Addr} {h₀ : Heap} {l : List (Str × Value)} {news : List (Addr × Obj)} {ob : Obj} (S : At o h₀ L l news s) (k : Keeps s s') (hn : s.heap.get? c = none) (hc : s'.heap.get? c = some ob) :
    At o h₀ L l ((c, ob) :: news) s' ∧ ∀ p ∈ news, p.1 ≠ c := by
  have S' := S.kept k
  refine ⟨⟨S'.fr, List.forall_mem_cons.mpr ⟨⟨hc, ?_, ?_⟩, S'.N⟩, S'.R⟩, fun p hp q => ?_⟩
  · rintro rfl
    obtain ⟨m, F, _⟩ := S.fr
    obtain ⟨o', _, _, ho, _⟩ := F.ns
    rw [hn] at ho; cases ho
  · cases q : h₀.get? c with
    | none => rfl
    | some o' => have := S.keep _ _ q; rw [hn] at this; cases this
  · have := (S.N p hp).1; rw [q, hn] at this; cases this
theorem undig {f : Int} (h0 : 0 ≤ f) (h1 : f < 36) : (if 96 < dig f then dig f - 97 else dig f - 22) = f := by unfold dig; split <;> (split <;> omega)
def ElI (fs : List Int) (v y : Value) : Prop := ∃ k t u, v = .int k t ∧ y = .int (if 96 < k then k - 97 else k - 22) u
theorem paired_ints {vs ys : List Value} {ks : List Int} {g : Int → Int} (h : Paired (fun v y => ∃ k t u, v = .int k t ∧ y = .int (g k) u) vs ys) (hi : IntsAre vs ks) : IntsAre ys (ks.map g) := by
  induction h generalizing ks with
  | nil => cases hi; exact .nil
  | cons hf _ ih =>
    cases hi with
    | cons n t hr =>
      obtain ⟨k, t, u, e, rfl⟩ := hf
      cases e
      exact .cons _ _ (ih hr)
theorem rev_ints {vs : List Value} {ks : List Int} (h : IntsAre vs ks) : IntsAre vs.reverse ks.reverse := by
  have app : ∀ {a : List Value} {x : List Int} {b : List Value} {y : List Int}, IntsAre a x → IntsAre b y → IntsAre (a ++ b) (x ++ y) := by
    intro a x b y ha hb
    induction ha with
    | nil => exact hb
    | cons n t _ ih => exact .cons _ _ ih
  induction h with
  | nil => exact .nil
  | cons n t _ ih => rw [List.reverse_cons, List.reverse_cons]; exact app ih (.cons _ _ .nil)
def keyOf (fs : List Int) : List Int := (fs.length : Int) :: fs.reverse
theorem key_spec {w : World} {A : Around} {E : Value → Shared → Prop} {s : Shared} {arr : Array UInt8} {fs : List Int} {t : Tok} (G : Gd w s.heap) (hh : A.handled = none) (hd : A.depth < 900) (ha : KBw.bInts arr = fs.map dig) (hf : ∀ f ∈ fs, 0 ≤ f ∧ f < 36) (hz : fs.length < 100) :
    wpAny (MM w) A (call (.ref 124) [.bytes arr t]) (fun v s' => Keeps s s' ∧ ∃ c vs k, v = .ref c ∧ s.heap.get? c = none ∧ s'.heap.get? c = some (lo vs k) ∧ IntsAre vs (keyOf fs)) E s := by
  refine call_pure [(Str.ofString "octets", .bytes arr t)] G (by show _ < 1000; omega) (by rfl) (by rfl) (BindsTo.of_eq rfl) (locs rfl) ?_
  intro L s₁ S₁
  have hsz := size_bInts ha
  rw [List.length_map] at hsz
  refine wpAny_execs_cons ?_
  refine At.compBA (o := s) (h₀ := s.heap) (l := [(Str.ofString "octets", .bytes arr t)]) (news := []) (cl := []) (fun v y => ∃ k t u, v = .int k t ∧ y = .int (if 96 < k then k - 97 else k - 22) u) hh (by with_unfolding_all rfl) (by rfl) (by decide) rfl (by decide) (by rfl) (by rfl) (by rfl) ?_
  refine S₁.ld (by rfl) ?_
  refine ⟨arr, t, rfl, S₁, by omega, ?_, ?_⟩
  · intro C i c u s₃ m₃ E' hc hn hm hk
    refine wpAny_IfExp (wpAny_isTrue_Compare1 (ldVarK hn hm (wpAny_Constant_int (gt_int (wpAny_truthy_bool ?_)))))
    refine split_dec (fun h => ?_) (fun h => ?_)
    · refine wpAny_BinOp (wpAny_Name (wpAny_loadName_local rfl rfl hn hm (wpAny_Constant_int (sub_int ⟨⟨_, _, _, rfl, by rw [if_pos h]⟩, _, _, rfl, fun _ _ e => e⟩))) (by decide))
    · refine wpAny_BinOp (wpAny_Name (wpAny_loadName_local rfl rfl hn hm (wpAny_Constant_int (sub_int ⟨⟨_, _, _, rfl, by rw [if_neg h]⟩, _, _, rfl, fun _ _ e => e⟩))) (by decide))
  · intro D vs ys k s₄ hi hp S₄ _
    have hy := paired_ints hp hi
    rw [ha, List.map_map, show List.map ((fun k => if 96 < k then k - 97 else k - 22) ∘ dig) fs = fs from ?_] at hy
    · have hyl := hy.length
      repeat walk_at "n"
      refine S₄.callb G (by rfl) (by rfl) (by decide) ?_
      repeat walk_at "n"
      refine S₄.len (S₄.get (.head _)) (by omega) fun t₅ s₅ S₅ => ?_
      repeat walk_at "n"
      refine S₅.newList (by simp) fun b s₆ S₆ hb => ?_
      repeat walk_at "n"
      rename_i S₇
      refine S₇.slice (S₇.get (.tail _ (.head _))) (by omega) .none .none (.int _ _) (by decide) (pick_rev ys) fun c s₈ S₈ hc => ?_
      refine S₈.addList (S₈.get (.tail _ (.head _))) (S₈.get (.head _)) (by simp) (by rw [List.length_reverse]; omega) fun d s₉ S₉ hd => ?_
      refine ⟨⟨_, _, S₉⟩, d, _, _, rfl, (S₉.N _ (.head _)).2.2, S₉.get (.head _), ?_⟩
      rw [hyl]
      exact .cons _ _ (rev_ints hy)
    · conv => rhs; rw [← List.map_id fs]
      exact List.map_congr_left fun f hm => undig (hf f hm).1 (hf f hm).2

end
section -- NbNu
section
variable {prog : Program} {A : Around} {E : Value → Shared → Prop} {s o : Shared} {L a : Addr} {h₀ : Heap} {l : List (Str × Value)} {news : List (Addr × Obj)} {w : World} {i j k : Int} {t u : Tok}
theorem At.keptH {h' : Heap} {tk : Nat} (S : At o h₀ L l news s) (hk : ∀ b x, s.heap.get? b = some x → h'.get? b = some x) : At o h₀ L l news { s with heap := h', toks := tk } := S.kept ⟨_, _, rfl, hk⟩
theorem At.max2 {Q : Value → Shared → Prop} (S : At o h₀ L l news s) (hh : A.handled = none) (e : (if j > i then j else i) = k) (h : ∀ t s', At o h₀ L l news s' → Q (.int k t) s') : wpAny (model prog w) A (call (.builtin "max") [.int i t, .int j u]) Q E s := by
  refine max_two_ints hh fun h' tk hk => ?_
  by_cases hc : j > i
  · rw [if_pos hc] at e ⊢; rw [e]; exact h _ _ (S.keptH hk)
  · rw [if_neg hc] at e ⊢; rw [e]; exact h _ _ (S.keptH hk)
theorem At.min2 {Q : Value → Shared → Prop} (S : At o h₀ L l news s) (hh : A.handled = none) (e : (if j < i then j else i) = k) (h : ∀ t s', At o h₀ L l news s' → Q (.int k t) s') : wpAny (model prog w) A (call (.builtin "min") [.int i t, .int j u]) Q E s := by
  refine min_two_ints hh fun h' tk hk => ?_
  by_cases hc : j < i
  · rw [if_pos hc] at e ⊢; rw [e]; exact h _ _ (S.keptH hk)
  · rw [if_neg hc] at e ⊢; rw [e]; exact h _ _ (S.keptH hk)
end
/-- what figures from place j on mean -/
def rd (b : Int) : List Int → Nat → Int
  | [], _ => 0
  | f :: fs, j => f + (36 - thr j b) * rd b fs (j + 1)
theorem gg_next {b N : Int} {j : Nat} (h : thr j b ≤ N) : gg b N j = (thr j b + (N - thr j b) % (36 - thr j b)) :: gg b ((N - thr j b) / (36 - thr j b)) (j + 1) := by
  conv => lhs; rw [gg, dif_pos h]
theorem gg_last {b N : Int} {j : Nat} (h : N < thr j b) : gg b N j = [N] := by
  conv => lhs; rw [gg, dif_neg (by omega)]
theorem quo_rng {b N : Int} {j : Nat} (h : thr j b ≤ N) : 0 ≤ (N - thr j b) / (36 - thr j b) ∧ (N - thr j b) / (36 - thr j b) < N := by
  have ht := thr_pos j b
  have h1 : (N - thr j b) / (36 - thr j b) ≤ N - thr j b := Int.ediv_le_self _ (by omega)
  exact ⟨Int.ediv_nonneg (by omega) (by omega), by omega⟩
theorem rd_gg (b : Int) : ∀ (k : Nat) (N : Int) (j : Nat), N.toNat = k → 0 ≤ N → rd b (gg b N j) j = N := by
  intro k
  induction k using Nat.strongRecOn with
  | ind k ih =>
    intro N j hk h0
    have ht := thr_pos j b
    by_cases h : thr j b ≤ N
    · have hq := quo_rng h
      rw [gg_next h, rd, ih _ (by omega) _ (j + 1) rfl hq.1]
      have := Int.emod_add_mul_ediv (N - thr j b) (36 - thr j b)
      omega
    · rw [gg_last (by omega), rd, rd]; omega
theorem gg_ne (b N : Int) (j : Nat) : (gg b N j).length ≠ 0 := by
  by_cases h : thr j b ≤ N
  · rw [gg_next h]; simp
  · rw [gg_last (by omega)]; simp
theorem gg_drop (b : Int) : ∀ (j : Nat) (N : Int) (i : Nat), 0 ≤ N → j < (gg b N i).length → ∃ N', (gg b N i).drop j = gg b N' (i + j) ∧ 0 ≤ N' ∧ N' ≤ N := by
  intro j
  induction j with
  | zero => intro N i h0 _; exact ⟨N, rfl, h0, Int.le_refl _⟩
  | succ j ih =>
    intro N i h0 hj
    by_cases h : thr i b ≤ N
    · have hq := quo_rng h
      rw [gg_next h] at hj ⊢
      obtain ⟨N', e, h1, h2⟩ := ih _ (i + 1) hq.1 (Nat.lt_of_succ_lt_succ hj)
      exact ⟨N', by rw [List.drop_succ_cons, e]; congr 1; omega, h1, by omega⟩
    · rw [gg_last (by omega)] at hj
      simp at hj
theorem gg_rng (b : Int) : ∀ (k : Nat) (N : Int) (j : Nat), N.toNat = k → 0 ≤ N → ∀ f ∈ gg b N j, 0 ≤ f ∧ f < 36 := by
  intro k
  induction k using Nat.strongRecOn with
  | ind k ih =>
    intro N j hk h0 f hf
    have ht := thr_pos j b
    by_cases h : thr j b ≤ N
    · have hq := quo_rng h
      rw [gg_next h] at hf
      rcases List.mem_cons.mp hf with rfl | hf
      · have h1 := Int.emod_nonneg (N - thr j b) (show 36 - thr j b ≠ 0 by omega)
        have h2 := Int.emod_lt_of_pos (N - thr j b) (show 0 < 36 - thr j b by omega)
        omega
      · exact ih _ (by omega) _ _ rfl hq.1 f hf
    · rw [gg_last (by omega)] at hf
      rcases List.mem_cons.mp hf with rfl | hf
      · omega
      · cases hf
theorem gg_len (b : Int) : ∀ (e : Nat) (N : Int) (j : Nat), 0 ≤ N → N < 10 ^ e → (gg b N j).length ≤ e + 1 := by
  intro e
  induction e with
  | zero =>
    intro N j h0 h1
    have ht := thr_pos j b
    rw [gg_last (by simp at h1; omega)]; simp
  | succ e ih =>
    intro N j h0 h1
    have ht := thr_pos j b
    by_cases h : thr j b ≤ N
    · have hq := quo_rng h
      rw [gg_next h, List.length_cons]
      refine Nat.succ_le_succ (ih _ _ hq.1 ?_)
      rw [Int.ediv_lt_iff_lt_mul (by omega)]
      have e1 : (10 : Int) ^ (e + 1) = 10 ^ e * 10 := Int.pow_succ ..
      have e2 : (10 : Int) ^ e * 10 ≤ 10 ^ e * (36 - thr j b) := Int.mul_le_mul_of_nonneg_left (by omega) (Int.pow_nonneg (by decide))
      omega
    · rw [gg_last (by omega)]; simp
theorem num_turn {b N : Int} (h0 : 0 ≤ N) {j : Nat} (hj : j < (gg b N 0).length) :
    ∃ f, (gg b N 0)[j]? = some f ∧ (f < thr j b ↔ j + 1 = (gg b N 0).length) ∧ rd b ((gg b N 0).drop j) j = rd b ((gg b N 0).drop (j + 1)) (j + 1) * (36 - thr j b) + f ∧ 0 ≤ rd b ((gg b N 0).drop j) j ∧ rd b ((gg b N 0).drop j) j ≤ N := by
  obtain ⟨N', e, h1, h2⟩ := gg_drop b j N 0 h0 hj
  rw [Nat.zero_add] at e
  have hd1 : (gg b N 0).drop (j + 1) = ((gg b N 0).drop j).drop 1 := by rw [List.drop_drop]
  have hg : (gg b N 0)[j]? = ((gg b N 0).drop j)[0]? := by rw [List.getElem?_drop]; rfl
  have hl : (gg b N 0).length = j + ((gg b N 0).drop j).length := by rw [List.length_drop]; omega
  rw [hd1, hg, e, rd_gg b _ N' j rfl h1]
  rw [hl, e]
  have ht := thr_pos j b
  by_cases h : thr j b ≤ N'
  · have hq := quo_rng h
    have h3 := Int.emod_nonneg (N' - thr j b) (show 36 - thr j b ≠ 0 by omega)
    have h4 := Int.emod_add_mul_ediv (N' - thr j b) (36 - thr j b)
    have h5 := gg_ne b ((N' - thr j b) / (36 - thr j b)) (j + 1)
    rw [gg_next h]
    refine ⟨_, rfl, ?_, ?_, h1, h2⟩
    · rw [List.length_cons]; constructor <;> intro <;> omega
    · show N' = rd b (gg b _ (j + 1)) (j + 1) * _ + _
      rw [rd_gg b _ _ _ rfl hq.1, Int.mul_comm]; omega
  · rw [gg_last (by omega)]
    refine ⟨_, rfl, ?_, ?_, h1, h2⟩
    · simp; omega
    · show N' = 0 * _ + _
      omega
theorem ints_get {vs : List Value} {ks : List Int} (h : IntsAre vs ks) {i : Nat} {x : Int} (hx : ks[i]? = some x) : ∃ t, vs[i]? = some (.int x t) := by
  induction h generalizing i with
  | nil => cases hx
  | cons n t _ ih =>
    cases i with
    | zero => cases hx; exact ⟨t, rfl⟩
    | succ i => exact ih hx
theorem edge_eq (n i b : Int) : (if (if 36 * (n - i) - b > 1 then 36 * (n - i) - b else 1) < 26 then (if 36 * (n - i) - b > 1 then 36 * (n - i) - b else 1) else 26) = thr (n - 1 - i) b := by
  unfold thr
  have e : 36 * (n - 1 - i + 1) - b = 36 * (n - i) - b := by omega
  rw [e]
  repeat' split
  all_goals omega
theorem number_spec {w : World} {A : Around} {E : Value → Shared → Prop} {s : Shared} {c : Addr} {vs : List Value} {k : Nat} {N b : Int} {t : Tok} (G : Gd w s.heap) (hh : A.handled = none) (hd : A.depth < 900) (h0 : 0 ≤ N) (h1 : N < 10 ^ 9)
    (hc : s.heap.get? c = some (lo vs k)) (hi : IntsAre vs (keyOf (gg b N 0))) :
    wpAny (MM w) A (call (.ref 131) [.ref c, .int b t]) (fun v s' => Keeps s s' ∧ ∃ t', v = .int N t') E s := by
  refine call_pure [(Str.ofString "key", .ref c), (Str.ofString "bias", .int b t)] G (by show _ < 1000; omega) (by rfl) (by rfl) (BindsTo.of_eq rfl) (locs rfl) ?_
  intro L s₁ S₁
  have hlen := gg_len b 9 N 0 h0 h1
  have hvl := hi.length
  rw [keyOf, List.length_cons, List.length_reverse] at hvl
  obtain ⟨t₀, hv0⟩ := ints_get hi (i := 0) rfl
  generalize hn : (gg b N 0).length = n at *
  repeat walk_at "n"
  rename_i S₂
  refine cutNext (fun s' => ∃ (l : List (Str × Value)) (news : List (Addr × Obj)) (t' : Tok), At s s.heap L ((Str.ofString "number", .int N t') :: l) news s') (aFor ?_) ?_
  · refine S₂.callt G (by rfl) (by rfl) (by decide) ?_
    repeat walk_at "n"
    rename_i S₃
    refine At.itemI 0 rfl (S₃.keep _ _ hc) (by omega) hv0 ?_
    repeat walk_at "n"
    refine S₃.range fun r t₆ v₆ s₆ S₆ hr => ?_
    refine S₆.iterRange (S₆.get (.head _)) (by omega) fun it s₇ S₇ hit => ?_
    have e0 : rd b ((gg b N 0).drop (n - 0)) (n - 0) = 0 := by rw [Nat.sub_zero, List.drop_of_length_le (by omega)]; rfl
    refine ⟨fun q s' => ∃ (i : Nat) (t₁ : Tok), q + i = n ∧ At s s.heap L [(Str.ofString "key", .ref c), (Str.ofString "bias", .int b t), (Str.ofString "number", .int (rd b ((gg b N 0).drop (n - i)) (n - i)) t₁)] [(it, rit i q 1)] s', n,
      ⟨0, _, rfl, by rw [e0]; exact (S₇.dropR rfl).less (fun p hp => by cases hp with | head => exact .head _ | tail _ h => cases h)⟩, ?_⟩
    · intro q s₈ zh
      refine hideG ?_
      intro zg
      obtain ⟨i, t₁, hqi, S₈⟩ := zh
      by_cases hq : q = 0
      · subst hq
        refine S₈.doneRange (fun _ hp => nomatch hp) hh (by simp) fun s₉ S₉ => ?_
        have e : rd b ((gg b N 0).drop (n - i)) (n - i) = N := by rw [show n - i = 0 by omega]; exact rd_gg b _ N 0 rfl h0
        rw [e] at S₉
        exact ⟨rfl, [], [], t₁, S₉.dropR rfl⟩
      · obtain ⟨f, hf, hfl, hrd, hr0, hr1⟩ := num_turn (b := b) h0 (j := n - 1 - i) (by rw [hn]; exact o_backL hqi hq)
        have ht := thr_pos ((n - 1 - i : Nat) : Int) b
        rw [o_back hqi hq] at hfl hrd
        have hfi : (keyOf (gg b N 0))[i + 1]? = some f := by
          show (gg b N 0).reverse[i]? = some f
          rw [List.getElem?_reverse (by rw [hn]; exact o_lt hqi hq), hn, hf]
        obtain ⟨t₂, hv⟩ := ints_get hi hfi
        refine S₈.nextRange (fun _ hp => nomatch hp) (o_pos hq) fun t₉ s₉ S₉ => ?_
        refine assign_Name ?_
        repeat walk_at "n"
        rename_i S₁₀
        refine S₁₀.callb G (by rfl) (by rfl) (by decide) ?_
        repeat walk_at "n"
        rename_i S₁₁
        refine S₁₁.callb G (by rfl) (by rfl) (by decide) ?_
        repeat walk_at "n"
        rename_i S₁₂
        refine At.itemI 0 rfl (S₁₂.keep _ _ hc) (by omega) hv0 ?_
        repeat walk_at "n"
        rename_i S₁₅
        refine S₁₅.max2 hh rfl fun t₁₆ s₁₆ S₁₆ => ?_
        repeat walk_at "n"
        refine S₁₆.min2 hh (edge_eq n i b) fun t₁₇ s₁₇ S₁₇ => ?_
        rw [o_backI hqi hq]
        repeat walk_at "n"
        rename_i S₁₈
        refine At.itemI (i + 1) (by omega) (S₁₈.keep _ _ hc) (by omega) hv ?_
        repeat walk_at "n"
        refine wpAny_Compare1 ?_
        repeat walk_at "n"
        refine wpAny_Compare1 ?_
        repeat walk_at "n"
        refine ne_bool ?_
        repeat walk_at "n"
        rename_i S₁₉ 
        have e : (decide (f < thr ((n - 1 - i : Nat) : Int) b) != ((i : Int) == 0)) = false := by
          have e1 : decide (f < thr ((n - 1 - i : Nat) : Int) b) = ((i : Int) == 0) := by
            rw [Bool.eq_iff_iff, decide_eq_true_iff, hfl, beq_iff_eq, hn]; exact o_iff hqi hq
          rw [e1]; simp
        rw [e]
        repeat walk_at "n"
        rename_i S₂₂
        rw [← hrd] at S₂₂
        rw [o_succ i, o_cast hq, o_sub n i] at S₂₂
        refine ⟨q - 1, o_pred hq, i + 1, _, o_next hqi hq, S₂₂.dropR rfl⟩
  · rintro s₈ ⟨l, news, t', S₈⟩
    repeat walk_at "n"
    exact ⟨⟨_, _, S₈⟩, t', rfl⟩

end
section -- NbDc
def enc (f : Int) : Int := if f < 26 then 65 + f else 22 + f
theorem getD_mid {pre fs post : List Int} {j : Nat} {f : Int} (hf : fs[j]? = some f) : (pre ++ fs.map enc ++ post).getD (pre.length + j) 0 = enc f := by
  have h : j < fs.length := (List.getElem?_eq_some_iff.mp hf).1
  rw [List.getD_eq_getElem?_getD, List.append_assoc, List.getElem?_append_right (by omega), Nat.add_sub_cancel_left, List.getElem?_append_left (by simpa using h), List.getElem?_map, hf]
  rfl
set_option maxHeartbeats 1000000 in
theorem decode_spec {w : World} {A : Around} {E : Value → Shared → Prop} {s : Shared} {arr : Array UInt8} {pre post : List Int} {N b pos : Int} {t₀ t₁ t₂ t₃ : Tok} {er : Str} (G : Gd w s.heap) (hh : A.handled = none) (hd : A.depth + 1 < 900) (h0 : 0 ≤ N) (h1 : N < 10 ^ 9)
    (harr : KBw.bInts arr = pre ++ (gg b N 0).map enc ++ post) (hz : (KBw.bInts arr).length < 1000) (hp : pos = pre.length) :
    wpAny (MM w) A (call (.ref 35) [.bytes arr t₀, .int pos t₁, .int b t₂, .str er t₃])
      (fun v s' => Keeps s s' ∧ ∃ c t t', v = .ref c ∧ s.heap.get? c = none ∧ s'.heap.get? c = some (tup [.int (pos + (gg b N 0).length) t, .int N t'])) E s := by
  refine call_pure [(Str.ofString "extended", .bytes arr t₀), (Str.ofString "extpos", .int pos t₁), (Str.ofString "bias", .int b t₂), (Str.ofString "errors", .str er t₃)] G (by show _ < 1000; omega) (by rfl) (by rfl) (BindsTo.of_eq rfl) (locs rfl) ?_
  intro L s₁ S₁
  have hlen := gg_len b 9 N 0 h0 h1
  have hrg := gg_rng b _ N 0 rfl h0
  have hn0 := gg_ne b N 0
  have hn : ∃ n, (gg b N 0).length = n := ⟨_, rfl⟩
  obtain ⟨n, hn⟩ := hn
  rw [hn] at hlen hn0 ⊢
  rw [harr] at hz
  repeat walk_at "n"
  rename_i S₂
  refine aWhile (fun q s' => ∃ (j : Nat) (res wt : Int) (u₁ u₂ u₃ u₄ : Tok), q + j = n ∧ 0 < q ∧ N = res + wt * rd b ((gg b N 0).drop j) j ∧
      At s s.heap L [(Str.ofString "extended", .bytes arr t₀), (Str.ofString "extpos", .int (pos + j) u₁), (Str.ofString "bias", .int b t₂), (Str.ofString "errors", .str er t₃), (Str.ofString "result", .int res u₂), (Str.ofString "w", .int wt u₃), (Str.ofString "j", .int j u₄)] [] s') ?_ n ?_
  · intro q s₃ zh
    refine hideG ?_
    intro zg
    obtain ⟨j, res, wt, u₁, u₂, u₃, u₄, hq, hq0, hN, S₃⟩ := zh
    have hqn := Nat.ne_of_gt hq0
    have hjn := o_lt hq hqn
    obtain ⟨f, hf, hfl, hrd, hr0, hr1⟩ := num_turn (b := b) h0 (j := j) (by rw [hn]; exact hjn)
    have hff := hrg f (List.mem_of_getElem? hf)
    have ht := thr_pos j b
    refine isTrue_plain ?_
    refine S₃.int fun _ _ S₄ => ?_
    refine PyProof.Rows.truthy_int ?_
    refine ite_tt ?_
    refine wpAny_execs_cons (wpAny_Try_except ?_)
    repeat walk_at "n"
    have hjl : (gg b N 0).length = n := hn
    have e1 : (pos + j).toNat = pre.length + j := by rw [hp]; exact Int.toNat_natCast (pre.length + j)
    have e2 : (pre ++ (gg b N 0).map enc ++ post).length = pre.length + n + post.length := by rw [List.length_append, List.length_append, List.length_map, hn]
    refine KBw.item_K harr (by omega) (by rw [hp]; exact Int.natCast_nonneg (pre.length + j)) (by rw [e2, hp]; exact o_in _ hjn) (fun t' k _ _ => ?_)
    rw [e1, getD_mid hf]
    have S₅ := S₄.toks k
    repeat walk_at "m"
    rename_i S₆
    refine cutNext (fun s' => ∃ (ud ux : Tok) (l' : List (Str × Value)), l' = [(Str.ofString "digit", .int f ud), (Str.ofString "extended", .bytes arr t₀), (Str.ofString "extpos", .int (pos + j + 1) ux), (Str.ofString "bias", .int b t₂), (Str.ofString "errors", .str er t₃), (Str.ofString "result", .int res u₂), (Str.ofString "w", .int wt u₃), (Str.ofString "j", .int j u₄)] ∧ At s s.heap L l' [] s') ?_ ?_
    · refine wpAny_If (isTrue_chain ?_)
      repeat walk_at "n"
      rename_i S₇
      refine test_link ?_
      repeat walk_at "n"
      refine le_int ?_
      repeat walk_at "n"
      by_cases hc : f < 26
      · have e : enc f = 65 + f := if_pos hc
        rw [e, show decide ((65 : Int) ≤ 65 + f) = true from decide_eq_true (by omega)]
        repeat walk_at "n"
        refine test_last ?_
        repeat walk_at "n"
        refine le_int ?_
        repeat walk_at "n"
        rw [show decide (65 + f ≤ (90 : Int)) = true from decide_eq_true (by omega)]
        repeat walk_at "n"
        rename_i S₈
        rw [e, show 65 + f - 65 = f by omega] at S₈
        exact ⟨rfl, _, _, _, rfl, S₈.dropR rfl⟩
      · have e : enc f = 22 + f := if_neg hc
        rw [e, show decide ((65 : Int) ≤ 22 + f) = false from decide_eq_false (by omega)]
        refine ite_ff ?_
        refine ite_ff ?_
        refine wpAny_execs_cons (wpAny_If (isTrue_chain ?_))
        repeat walk_at "n"
        refine test_link ?_
        repeat walk_at "n"
        refine le_int ?_
        repeat walk_at "n"
        rw [e, show decide ((48 : Int) ≤ 22 + f) = true from decide_eq_true (by omega)]
        repeat walk_at "n"
        refine test_last ?_
        repeat walk_at "n"
        refine le_int ?_
        repeat walk_at "n"
        rw [show decide (22 + f ≤ (57 : Int)) = true from decide_eq_true (by omega)]
        repeat walk_at "n"
        rename_i S₈
        rw [e, show 22 + f - 22 = f by omega] at S₈
        exact ⟨rfl, _, _, _, rfl, S₈.dropR rfl⟩
    · rintro s₉ ⟨ud, ux, l', rfl, S₉⟩
      repeat walk_at "n"
      refine S₉.callf G (by rfl) (by rfl) ?_
      repeat walk_at "n"
      refine ⟨⟨_, _, S₉⟩, ?_⟩
      refine wpAny_mono (T_spec (G.keeps S₉.keep) (by show A.depth + 1 < 1000; omega)) ?_ (fun _ _ x => x)
      rintro _ s₁₀ ⟨hk10, t₁₀, rfl⟩
      have S₁₀ := S₉.kept hk10
      repeat walk_at "n"
      rename_i S₁₁
      refine split_dec (fun hc => ?_) (fun hc => ?_)
      · repeat walk_at "n"
        refine S₁₁.newTuple (by simp) fun c s₁₂ S₁₂ hcc => ?_
        have hj1 : j + 1 = n := by rw [← hn]; exact hfl.mp hc
        have eN : res + f * wt = N := by
          rw [hN, hrd, List.drop_of_length_le (by omega)]
          show res + f * wt = res + wt * (0 * _ + f)
          rw [Int.zero_mul, Int.zero_add, Int.mul_comm]
        have e3 : pos + (j : Int) + 1 = pos + (n : Int) := by rw [← hj1, Int.add_assoc]; rfl
        rw [eN, e3] at S₁₂
        repeat walk_at "n"
        exact ⟨⟨_, _, S₁₂⟩, c, _, _, rfl, (S₁₂.N _ (.head _)).2.2, S₁₂.get (.head _)⟩
      · repeat walk_at "n"
        rename_i S₁₂
        have hj1 : j + 1 ≠ n := fun h => hc (hfl.mpr (by rw [h, hn]))
        rw [Int.add_assoc, o_succ j] at S₁₂
        refine ⟨q - 1, o_pred hqn, j + 1, _, _, _, _, _, _, o_next hq hqn, o_more hq hq0 hj1, ?_, S₁₂.dropR rfl⟩
        rw [hrd] at hN
        generalize rd b ((gg b N 0).drop (j + 1)) (j + 1) = R at hN ⊢
        refine hN.trans ?_
        rw [Int.mul_add, Int.mul_comm f wt, Int.mul_assoc, Int.mul_comm (36 - thr j b)]
        exact o_swap _ _ _
  · refine ⟨0, 0, 1, _, _, _, _, rfl, Nat.pos_of_ne_zero hn0, by rw [List.drop_zero, rd_gg b _ N 0 rfl h0, Int.one_mul, Int.zero_add], by
      rw [show pos + ((0 : Nat) : Int) = pos from Int.add_zero _]
      exact S₂.dropR rfl⟩

end
section -- NbDu
def ins (x : Int) : List Int → List Int
  | [] => [x]
  | y :: r => if y < x then y :: ins x r else x :: y :: r
def srt (ns : List Int) : List Int := ns.foldr ins []
theorem ins_perm (x : Int) (l : List Int) : (ins x l).Perm (x :: l) := by
  induction l with
  | nil => exact .refl _
  | cons y r ih =>
    unfold ins
    split
    · exact (List.Perm.cons y ih).trans (List.Perm.swap ..)
    · exact .refl _
theorem ins_sorted (x : Int) {l : List Int} (h : l.Pairwise (· ≤ ·)) : (ins x l).Pairwise (· ≤ ·) := by
  induction l with
  | nil => exact List.pairwise_singleton ..
  | cons y r ih =>
    obtain ⟨h1, h2⟩ := List.pairwise_cons.mp h
    unfold ins
    split
    · refine List.pairwise_cons.mpr ⟨fun z hz => ?_, ih h2⟩
      rcases List.mem_cons.mp ((ins_perm x r).mem_iff.mp hz) with rfl | hz
      · omega
      · exact h1 z hz
    · refine List.pairwise_cons.mpr ⟨fun z hz => ?_, h⟩
      rcases List.mem_cons.mp hz with rfl | hz
      · omega
      · have := h1 z hz; omega
theorem srt_perm (l : List Int) : (srt l).Perm l := by
  induction l with
  | nil => exact .refl _
  | cons x r ih => exact (ins_perm x _).trans (.cons x ih)
theorem srt_sorted (l : List Int) : (srt l).Pairwise (· ≤ ·) := by
  induction l with
  | nil => exact .nil
  | cons x r ih => exact ins_sorted x ih
theorem sorted_unique : ∀ {a b : List Int}, a.Perm b → a.Pairwise (· ≤ ·) → b.Pairwise (· ≤ ·) → a = b
  | [], b, p, _, _ => (List.Perm.nil_eq p)
  | x :: a, [], p, _, _ => by have := p.length_eq; cases this
  | x :: a, y :: b, p, ha, hb => by
    obtain ⟨a1, a2⟩ := List.pairwise_cons.mp ha
    obtain ⟨b1, b2⟩ := List.pairwise_cons.mp hb
    have e : x = y := by
      have h1 : x ∈ y :: b := p.mem_iff.mp (.head _)
      have h2 : y ∈ x :: a := p.mem_iff.mpr (.head _)
      rcases List.mem_cons.mp h1 with h1 | h1
      · exact h1
      · rcases List.mem_cons.mp h2 with h2 | h2
        · exact h2.symm
        · have := a1 y h2; have := b1 x h1; omega
    subst e
    rw [sorted_unique (List.Perm.cons_inv p) a2 b2]
theorem srt_eq {a b : List Int} (p : a.Perm b) (h : a.Pairwise (· ≤ ·)) : a = srt b := sorted_unique (p.trans (srt_perm b).symm) h (srt_sorted b)
theorem srt_length (l : List Int) : (srt l).length = l.length := (srt_perm l).length_eq

section
variable {prog : Program} {A : Around} {E : Value → Shared → Prop} {s o : Shared} {L a b : Addr} {h₀ : Heap} {l : List (Str × Value)} {news : List (Addr × Obj)} {w : World} {vs us : List Value} {ns ms : List Int} {n k : Nat}
theorem At.sorted {Q : Value → Shared → Prop} (S : At o h₀ L l news s) (ha : s.heap.get? a = some (lo vs n)) (hi : IntsAre vs ns) (hz : ns.length < 60)
    (h : ∀ b c vs' s', IntsAre vs' (srt ns) → At o h₀ L l ((b, lo vs' c) :: news) s' → (∀ p ∈ news, p.1 ≠ b) → Q (.ref b) s') : wpAny (model prog w) A (call (.builtin "sorted") [.ref a]) Q E s := by
  obtain ⟨⟨m, F, hm⟩, N, R⟩ := S
  refine kso_sorted F N (isListOf ha) hi (by omega) fun D vs' ns' c h' F' N' hlt hi' _ hp hs _ => h D c vs' _ ?_ ⟨⟨m, F', hm⟩, N', R.trans ⟨rfl, rfl, rfl⟩⟩ fun p hp => Nat.ne_of_lt (hlt p hp)
  rw [← srt_eq hp hs]; exact hi'
theorem At.eqL {Q : Value → Shared → Prop} (ha : s.heap.get? a = some (lo vs n)) (hi : IntsAre vs ns) (hb : s.heap.get? b = some (lo us k)) (hj : IntsAre us ms) (hu : A.units < 9000) (h : Q (.bool (decide (ns = ms))) s) :
    wpAny (model prog w) A (compareOp .Eq (.ref a) (.ref b)) Q E s := eq_intsK (isListOf ha) hi (isListOf hb) hj (by show _ < 9900; omega) h
theorem At.neL {Q : Value → Shared → Prop} (ha : s.heap.get? a = some (lo vs n)) (hi : IntsAre vs ns) (hb : s.heap.get? b = some (lo us k)) (hj : IntsAre us ms) (hu : A.units < 9000) (h : Q (.bool (!decide (ns = ms))) s) :
    wpAny (model prog w) A (compareOp .NotEq (.ref a) (.ref b)) Q E s := ne_intsK (isListOf ha) hi (isListOf hb) hj (by show _ < 9900; omega) h
end
theorem app_ints {a : List Value} {x : List Int} {b : List Value} {y : List Int} (ha : IntsAre a x) (hb : IntsAre b y) : IntsAre (a ++ b) (x ++ y) := by
  induction ha with
  | nil => exact hb
  | cons n t _ ih => exact .cons _ _ ih
theorem take_ints {a : List Value} {x : List Int} (h : IntsAre a x) (k : Nat) : IntsAre (a.take k) (x.take k) := by
  induction h generalizing k with
  | nil => cases k <;> exact .nil
  | cons n t _ ih => cases k with
    | zero => exact .nil
    | succ k => exact .cons _ _ (ih k)
theorem drop_ints {a : List Value} {x : List Int} (h : IntsAre a x) (k : Nat) : IntsAre (a.drop k) (x.drop k) := by
  induction h generalizing k with
  | nil => cases k <;> exact .nil
  | cons n t h ih => cases k with
    | zero => exact .cons _ _ h
    | succ k => exact ih k
theorem init_ints {a : List Value} {x : List Int} (h : IntsAre a x) : IntsAre a.dropLast x.dropLast := by
  have := take_ints h (x.length - 1)
  rw [List.dropLast_eq_take, List.dropLast_eq_take, h.length]; exact this
theorem last_ints {a : List Value} {x : List Int} (h : IntsAre a x) (hne : x ≠ []) : ∃ t, a[a.length - 1]? = some (.int (x.getLast hne) t) := by
  rw [h.length]
  exact ints_get h (by rw [← List.getLast?_eq_getElem?, List.getLast?_eq_some_getLast hne])
def dueL (kd : Int) (row : List Int) (x : Int) : Option (List Int) :=
  if kd = 6 then some [] else
  if (kd = 1 ∨ kd = 3 ∨ kd = 7) ∧ row = [] then none else
  if kd = 1 then some (row.take 1) else
  if kd = 3 then some (row.take 1) else
  if kd = 7 then some ([row.getLastD 0, (srt (row.dropLast ++ [x])).getLastD 0] ++ (srt (row.dropLast ++ [x])).dropLast) else
  if kd = 5 then some ((srt (row ++ [x])).take 1) else some []
def dueR (kd : Int) (row : List Int) (x : Int) : List Int :=
  if kd = 6 then row else
  if (kd = 1 ∨ kd = 3 ∨ kd = 7) ∧ row = [] then row else
  if kd = 1 then row.drop 1 else
  if kd = 3 then srt (row.drop 1 ++ [x]) else
  if kd = 7 then row else
  if kd = 5 then (srt (row ++ [x])).drop 1 else srt (row ++ [x])
def DueV (v : Value) (ex : List (Addr × Obj)) : Option (List Int) → Prop
  | none => v = .none
  | some ds => ∃ d dv k, v = .ref d ∧ (d, lo dv k) ∈ ex ∧ IntsAre dv ds

end
section -- NbDv
theorem lastD {l : List Int} (h : l ≠ []) : l.getLastD 0 = l.getLast h := by
  cases l with
  | nil => exact absurd rfl h
  | cons a r => rw [List.getLastD_eq_getLast?, List.getLast?_eq_some_getLast h]; rfl
theorem At.itemNeg {prog : Program} {A : Around} {E : Value → Shared → Prop} {s : Shared} {a : Addr} {w : World} {u : Tok} {vs : List Value} {n : Nat} {v : Value} {value slice : PySem.Expr} {Q : Value → Shared → Prop} (ha : s.heap.get? a = some (lo vs n)) (hz : vs.length < 1000) (hx : vs[vs.length - 1]? = some v) (h : Q v s)
    (hs : subscripted slice false (.ref a) (.int (-1) u) = operate [.ref a, .int (-1) u] (getItem (.ref a) (.int (-1) u)) := by with_unfolding_all rfl) (hg : ∀ r, letTemporaryGo value (.ref a) r = pure () := by intro _; with_unfolding_all rfl) :
    wpAny (model prog w) A (subscriptTail value slice (.ref a) (.int (-1) u)) Q E s := by
  have hlt : vs.length - 1 < vs.length := (List.getElem?_eq_some_iff.mp hx).1
  have hv : v = vs[vs.length - 1] := (Option.some.inj ((List.getElem?_eq_getElem hlt).symm.trans hx)).symm
  have hne : vs ≠ [] := fun e => by rw [e] at hlt; cases hlt
  have e : vs = vs.dropLast ++ [v] := by
    rw [hv, ← List.getLast_eq_getElem hne]; exact (List.dropLast_concat_getLast hne).symm
  have hl := isListOf ha
  rw [e] at hl
  exact item_last hl h hs hg
theorem due_6 {w : World} {A : Around} {E : Value → Shared → Prop} {s o : Shared} {Q : Value → Shared → Prop} {h₀ : Heap} {L r : Addr} {l : List (Str × Value)} {news : List (Addr × Obj)} {rv : List Value} {n : Nat} {row : List Int} {x kd : Int} {t u : Tok}
    (G : Gd w h₀) (S : At o h₀ L l news s) (hd : A.depth + 5 < 900) (hu : A.units + 50 < 9000) (hr : (r, lo rv n) ∈ news) (hi : IntsAre rv row) (hz : row.length < 50) 
    (h : ∀ T v₁ r' rv' n' ex s', At o h₀ L l ((T, tup [v₁, .ref r']) :: (r', lo rv' n') :: (ex ++ news)) s' → IntsAre rv' (row) → DueV v₁ ex (some []) → (r' = r ∨ ∀ p ∈ news, p.1 ≠ r') → (∀ p ∈ ex, ∀ q ∈ news, q.1 ≠ p.1) → Q (.ref T) s') :
    wpAny (MM w) A (call (.ref 145) [.int 6 t, .ref r, .int x u]) Q E s := by
  refine call_mut [(Str.ofString "kind", .int 6 t), (Str.ofString "row", .ref r), (Str.ofString "number", .int x u)] G S (by show A.depth < 1000; omega) (by rfl) (by rfl) (BindsTo.of_eq rfl) (locs rfl) ?_
  intro g L' s₁ G' S₁
  have hlen := hi.length
  repeat walk_at "n"
  refine ite_tt ?_
  repeat walk_at "n"
  rename_i S₂
  refine S₂.newList (vs := []) (by simp) fun d s₃ S₃ hd => ?_
  repeat walk_at "n"
  refine S₃.newTuple (by simp) fun T s₄ S₄ hT => ?_
  repeat walk_at "n"
  have S₅ := S₄.less (news' := (T, tup [.ref d, .ref r]) :: (r, lo rv n) :: ([(d, lo [] 0)] ++ news)) (fun p hp => by
    rcases List.mem_cons.mp hp with rfl | hp
    · exact .head _
    · rcases List.mem_cons.mp hp with rfl | hp
      · exact .tail _ (.tail _ hr)
      · exact .tail _ hp)
  exact ⟨_, _, S₅, fun S' => h _ _ _ _ _ _ _ S' hi ⟨d, [], 0, rfl, .head _, .nil⟩ (.inl rfl) (fun p hp q hq => by rw [List.mem_singleton.mp hp]; exact hd q hq)⟩
theorem due_none1 {w : World} {A : Around} {E : Value → Shared → Prop} {s o : Shared} {Q : Value → Shared → Prop} {h₀ : Heap} {L r : Addr} {l : List (Str × Value)} {news : List (Addr × Obj)} {rv : List Value} {n : Nat} {row : List Int} {x kd : Int} {t u : Tok}
    (G : Gd w h₀) (S : At o h₀ L l news s) (hd : A.depth + 5 < 900) (hu : A.units + 50 < 9000) (hr : (r, lo rv n) ∈ news) (hi : IntsAre rv row) (hz : row.length < 50) (hne : row = [])
    (h : ∀ T v₁ r' rv' n' ex s', At o h₀ L l ((T, tup [v₁, .ref r']) :: (r', lo rv' n') :: (ex ++ news)) s' → IntsAre rv' (row) → DueV v₁ ex (none) → (r' = r ∨ ∀ p ∈ news, p.1 ≠ r') → (∀ p ∈ ex, ∀ q ∈ news, q.1 ≠ p.1) → Q (.ref T) s') :
    wpAny (MM w) A (call (.ref 145) [.int 1 t, .ref r, .int x u]) Q E s := by
  refine call_mut [(Str.ofString "kind", .int 1 t), (Str.ofString "row", .ref r), (Str.ofString "number", .int x u)] G S (by show A.depth < 1000; omega) (by rfl) (by rfl) (BindsTo.of_eq rfl) (locs rfl) ?_
  intro g L' s₁ G' S₁
  have hlen := hi.length
  repeat walk_at "n"
  refine ite_ff ?_
  repeat walk_at "n"
  rename_i S₂
  refine S₂.newTuple (by simp) fun T s₃ S₃ hT => ?_
  refine At.inTup (S₃.get (.head _)) (.cons _ _ (.cons _ _ (.cons _ _ .nil))) ?_
  repeat walk_at "n"
  refine ite_tt ?_
  repeat walk_at "n"
  refine S₃.newList (vs := []) (by simp) fun T₄ s₄ S₄ hT₄ => ?_
  repeat walk_at "n"
  refine At.eqL (S₄.get (.tail _ (.tail _ hr))) hi (S₄.get (.head _)) .nil (by show A.units + 3 < 9000; omega) ?_
  rw [decide_eq_true hne]
  repeat walk_at "n"
  refine S₄.newTuple (by simp) fun T s₄ S₄ hT => ?_
  repeat walk_at "n"
  have S₅ := S₄.less (news' := (T, tup [.none, .ref r]) :: (r, lo rv n) :: ([] ++ news)) (fun p hp => by
    rcases List.mem_cons.mp hp with rfl | hp
    · exact .head _
    · rcases List.mem_cons.mp hp with rfl | hp
      · exact .tail _ (.tail _ (.tail _ hr))
      · exact .tail _ (.tail _ (.tail _ hp)))
  exact ⟨_, _, S₅, fun S' => h _ _ _ _ _ [] _ S' hi rfl (.inl rfl) (fun p hp => nomatch hp)⟩
theorem due_none3 {w : World} {A : Around} {E : Value → Shared → Prop} {s o : Shared} {Q : Value → Shared → Prop} {h₀ : Heap} {L r : Addr} {l : List (Str × Value)} {news : List (Addr × Obj)} {rv : List Value} {n : Nat} {row : List Int} {x kd : Int} {t u : Tok}
    (G : Gd w h₀) (S : At o h₀ L l news s) (hd : A.depth + 5 < 900) (hu : A.units + 50 < 9000) (hr : (r, lo rv n) ∈ news) (hi : IntsAre rv row) (hz : row.length < 50) (hne : row = [])
    (h : ∀ T v₁ r' rv' n' ex s', At o h₀ L l ((T, tup [v₁, .ref r']) :: (r', lo rv' n') :: (ex ++ news)) s' → IntsAre rv' (row) → DueV v₁ ex (none) → (r' = r ∨ ∀ p ∈ news, p.1 ≠ r') → (∀ p ∈ ex, ∀ q ∈ news, q.1 ≠ p.1) → Q (.ref T) s') :
    wpAny (MM w) A (call (.ref 145) [.int 3 t, .ref r, .int x u]) Q E s := by
  refine call_mut [(Str.ofString "kind", .int 3 t), (Str.ofString "row", .ref r), (Str.ofString "number", .int x u)] G S (by show A.depth < 1000; omega) (by rfl) (by rfl) (BindsTo.of_eq rfl) (locs rfl) ?_
  intro g L' s₁ G' S₁
  have hlen := hi.length
  repeat walk_at "n"
  refine ite_ff ?_
  repeat walk_at "n"
  rename_i S₂
  refine S₂.newTuple (by simp) fun T s₃ S₃ hT => ?_
  refine At.inTup (S₃.get (.head _)) (.cons _ _ (.cons _ _ (.cons _ _ .nil))) ?_
  repeat walk_at "n"
  refine ite_tt ?_
  repeat walk_at "n"
  refine S₃.newList (vs := []) (by simp) fun T₄ s₄ S₄ hT₄ => ?_
  repeat walk_at "n"
  refine At.eqL (S₄.get (.tail _ (.tail _ hr))) hi (S₄.get (.head _)) .nil (by show A.units + 3 < 9000; omega) ?_
  rw [decide_eq_true hne]
  repeat walk_at "n"
  refine S₄.newTuple (by simp) fun T s₄ S₄ hT => ?_
  repeat walk_at "n"
  have S₅ := S₄.less (news' := (T, tup [.none, .ref r]) :: (r, lo rv n) :: ([] ++ news)) (fun p hp => by
    rcases List.mem_cons.mp hp with rfl | hp
    · exact .head _
    · rcases List.mem_cons.mp hp with rfl | hp
      · exact .tail _ (.tail _ (.tail _ hr))
      · exact .tail _ (.tail _ (.tail _ hp)))
  exact ⟨_, _, S₅, fun S' => h _ _ _ _ _ [] _ S' hi rfl (.inl rfl) (fun p hp => nomatch hp)⟩
theorem due_none7 {w : World} {A : Around} {E : Value → Shared → Prop} {s o : Shared} {Q : Value → Shared → Prop} {h₀ : Heap} {L r : Addr} {l : List (Str × Value)} {news : List (Addr × Obj)} {rv : List Value} {n : Nat} {row : List Int} {x kd : Int} {t u : Tok}
    (G : Gd w h₀) (S : At o h₀ L l news s) (hd : A.depth + 5 < 900) (hu : A.units + 50 < 9000) (hr : (r, lo rv n) ∈ news) (hi : IntsAre rv row) (hz : row.length < 50) (hne : row = [])
    (h : ∀ T v₁ r' rv' n' ex s', At o h₀ L l ((T, tup [v₁, .ref r']) :: (r', lo rv' n') :: (ex ++ news)) s' → IntsAre rv' (row) → DueV v₁ ex (none) → (r' = r ∨ ∀ p ∈ news, p.1 ≠ r') → (∀ p ∈ ex, ∀ q ∈ news, q.1 ≠ p.1) → Q (.ref T) s') :
    wpAny (MM w) A (call (.ref 145) [.int 7 t, .ref r, .int x u]) Q E s := by
  refine call_mut [(Str.ofString "kind", .int 7 t), (Str.ofString "row", .ref r), (Str.ofString "number", .int x u)] G S (by show A.depth < 1000; omega) (by rfl) (by rfl) (BindsTo.of_eq rfl) (locs rfl) ?_
  intro g L' s₁ G' S₁
  have hlen := hi.length
  repeat walk_at "n"
  refine ite_ff ?_
  repeat walk_at "n"
  rename_i S₂
  refine S₂.newTuple (by simp) fun T s₃ S₃ hT => ?_
  refine At.inTup (S₃.get (.head _)) (.cons _ _ (.cons _ _ (.cons _ _ .nil))) ?_
  repeat walk_at "n"
  refine ite_tt ?_
  repeat walk_at "n"
  refine S₃.newList (vs := []) (by simp) fun T₄ s₄ S₄ hT₄ => ?_
  repeat walk_at "n"
  refine At.eqL (S₄.get (.tail _ (.tail _ hr))) hi (S₄.get (.head _)) .nil (by show A.units + 3 < 9000; omega) ?_
  rw [decide_eq_true hne]
  repeat walk_at "n"
  refine S₄.newTuple (by simp) fun T s₄ S₄ hT => ?_
  repeat walk_at "n"
  have S₅ := S₄.less (news' := (T, tup [.none, .ref r]) :: (r, lo rv n) :: ([] ++ news)) (fun p hp => by
    rcases List.mem_cons.mp hp with rfl | hp
    · exact .head _
    · rcases List.mem_cons.mp hp with rfl | hp
      · exact .tail _ (.tail _ (.tail _ hr))
      · exact .tail _ (.tail _ (.tail _ hp)))
  exact ⟨_, _, S₅, fun S' => h _ _ _ _ _ [] _ S' hi rfl (.inl rfl) (fun p hp => nomatch hp)⟩
theorem due_1 {w : World} {A : Around} {E : Value → Shared → Prop} {s o : Shared} {Q : Value → Shared → Prop} {h₀ : Heap} {L r : Addr} {l : List (Str × Value)} {news : List (Addr × Obj)} {rv : List Value} {n : Nat} {row : List Int} {x kd : Int} {t u : Tok}
    (G : Gd w h₀) (S : At o h₀ L l news s) (hd : A.depth + 5 < 900) (hu : A.units + 50 < 9000) (hr : (r, lo rv n) ∈ news) (hi : IntsAre rv row) (hz : row.length < 50) (hne : row ≠ [])
    (h : ∀ T v₁ r' rv' n' ex s', At o h₀ L l ((T, tup [v₁, .ref r']) :: (r', lo rv' n') :: (ex ++ news)) s' → IntsAre rv' (row.drop 1) → DueV v₁ ex (some (row.take 1)) → (r' = r ∨ ∀ p ∈ news, p.1 ≠ r') → (∀ p ∈ ex, ∀ q ∈ news, q.1 ≠ p.1) → Q (.ref T) s') :
    wpAny (MM w) A (call (.ref 145) [.int 1 t, .ref r, .int x u]) Q E s := by
  refine call_mut [(Str.ofString "kind", .int 1 t), (Str.ofString "row", .ref r), (Str.ofString "number", .int x u)] G S (by show A.depth < 1000; omega) (by rfl) (by rfl) (BindsTo.of_eq rfl) (locs rfl) ?_
  intro g L' s₁ G' S₁
  have hlen := hi.length
  repeat walk_at "n"
  refine ite_ff ?_
  repeat walk_at "n"
  rename_i S₂
  refine S₂.newTuple (by simp) fun T s₃ S₃ hT => ?_
  refine At.inTup (S₃.get (.head _)) (.cons _ _ (.cons _ _ (.cons _ _ .nil))) ?_
  repeat walk_at "n"
  refine ite_tt ?_
  repeat walk_at "n"
  refine S₃.newList (vs := []) (by simp) fun T₄ s₄ S₄ hT₄ => ?_
  repeat walk_at "n"
  refine At.eqL (S₄.get (.tail _ (.tail _ hr))) hi (S₄.get (.head _)) .nil (by show A.units + 3 < 9000; omega) ?_
  rw [decide_eq_false hne]
  have S₄ := S₄.less (news' := news) (fun p hp => .tail _ (.tail _ hp))
  repeat walk_at "n"
  refine ite_tt ?_
  repeat walk_at "n"
  rename_i S₅
  refine S₅.slice (S₅.get hr) (by omega) .none (.int _ _) .none (by decide) (pick_upto rv 1) fun d s₆ S₆ hd => ?_
  repeat walk_at "n"
  rename_i S₇
  refine S₇.slice (S₇.get (.tail _ hr)) (by omega) (.int _ _) .none .none (by decide) (pick_from rv 1) fun r' s₈ S₈ hr' => ?_
  repeat walk_at "n"
  refine S₈.newTuple (by simp) fun T s₉ S₉ hT => ?_
  repeat walk_at "n"
  exact ⟨_, _, S₉, fun S' => h _ _ _ _ _ [(d, lo (rv.take 1) 0)] _ S' (drop_ints hi 1) ⟨d, _, _, rfl, .head _, take_ints hi 1⟩ (.inr fun p hp => hr' p (.tail _ hp)) (fun p hp q hq => by rw [List.mem_singleton.mp hp]; exact hd q hq)⟩
theorem due_3 {w : World} {A : Around} {E : Value → Shared → Prop} {s o : Shared} {Q : Value → Shared → Prop} {h₀ : Heap} {L r : Addr} {l : List (Str × Value)} {news : List (Addr × Obj)} {rv : List Value} {n : Nat} {row : List Int} {x kd : Int} {t u : Tok}
    (G : Gd w h₀) (S : At o h₀ L l news s) (hd : A.depth + 5 < 900) (hu : A.units + 50 < 9000) (hr : (r, lo rv n) ∈ news) (hi : IntsAre rv row) (hz : row.length < 50) (hne : row ≠ [])
    (h : ∀ T v₁ r' rv' n' ex s', At o h₀ L l ((T, tup [v₁, .ref r']) :: (r', lo rv' n') :: (ex ++ news)) s' → IntsAre rv' (srt (row.drop 1 ++ [x])) → DueV v₁ ex (some (row.take 1)) → (r' = r ∨ ∀ p ∈ news, p.1 ≠ r') → (∀ p ∈ ex, ∀ q ∈ news, q.1 ≠ p.1) → Q (.ref T) s') :
    wpAny (MM w) A (call (.ref 145) [.int 3 t, .ref r, .int x u]) Q E s := by
  refine call_mut [(Str.ofString "kind", .int 3 t), (Str.ofString "row", .ref r), (Str.ofString "number", .int x u)] G S (by show A.depth < 1000; omega) (by rfl) (by rfl) (BindsTo.of_eq rfl) (locs rfl) ?_
  intro g L' s₁ G' S₁
  have hlen := hi.length
  repeat walk_at "n"
  refine ite_ff ?_
  repeat walk_at "n"
  rename_i S₂
  refine S₂.newTuple (by simp) fun T s₃ S₃ hT => ?_
  refine At.inTup (S₃.get (.head _)) (.cons _ _ (.cons _ _ (.cons _ _ .nil))) ?_
  repeat walk_at "n"
  refine ite_tt ?_
  repeat walk_at "n"
  refine S₃.newList (vs := []) (by simp) fun T₄ s₄ S₄ hT₄ => ?_
  repeat walk_at "n"
  refine At.eqL (S₄.get (.tail _ (.tail _ hr))) hi (S₄.get (.head _)) .nil (by show A.units + 3 < 9000; omega) ?_
  rw [decide_eq_false hne]
  have S₄ := S₄.less (news' := news) (fun p hp => .tail _ (.tail _ hp))
  repeat walk_at "n"
  refine ite_ff ?_
  repeat walk_at "n"
  refine ite_tt ?_
  repeat walk_at "n"
  rename_i S₅
  refine S₅.slice (S₅.get hr) (by omega) .none (.int _ _) .none (by decide) (pick_upto rv 1) fun d s₆ S₆ hd => ?_
  repeat walk_at "n"
  refine S₆.callb G' (by rfl) (by rfl) (by decide) ?_
  repeat walk_at "n"
  rename_i S₇
  refine S₇.slice (S₇.get (.tail _ hr)) (by omega) (.int _ _) .none .none (by decide) (pick_from rv 1) fun r1 s₈ S₈ hr1 => ?_
  repeat walk_at "n"
  refine S₈.newList (by simp) fun r2 s₉ S₉ hr2 => ?_
  refine S₉.addList (S₉.get (.tail _ (.head _))) (S₉.get (.head _)) (by rw [List.length_drop]; omega) (by simp) fun r3 s₁₀ S₁₀ hr3 => ?_
  repeat walk_at "n"
  refine S₁₀.sorted (S₁₀.get (.head _)) (app_ints (drop_ints hi 1) (.cons _ _ .nil)) (by simp; omega) fun r' c vs' s₁₁ hi' S₁₁ hr' => ?_
  repeat walk_at "n"
  refine S₁₁.newTuple (by simp) fun T s₁₂ S₁₂ hT => ?_
  repeat walk_at "n"
  have S₁₃ := S₁₂.less (news' := (T, tup [.ref d, .ref r']) :: (r', lo vs' c) :: ([(d, lo (rv.take 1) 0)] ++ news)) (fun p hp => by
    rcases List.mem_cons.mp hp with rfl | hp
    · exact .head _
    · rcases List.mem_cons.mp hp with rfl | hp
      · exact .tail _ (.head _)
      · exact .tail _ (.tail _ (.tail _ (.tail _ (.tail _ hp)))))
  exact ⟨_, _, S₁₃, fun S' => h _ _ _ _ _ [(d, lo (rv.take 1) 0)] _ S' hi' ⟨d, _, _, rfl, .head _, take_ints hi 1⟩ (.inr fun p hp => hr' p (.tail _ (.tail _ (.tail _ (.tail _ hp))))) (fun p hp q hq => by rw [List.mem_singleton.mp hp]; exact hd q hq)⟩
theorem due_7 {w : World} {A : Around} {E : Value → Shared → Prop} {s o : Shared} {Q : Value → Shared → Prop} {h₀ : Heap} {L r : Addr} {l : List (Str × Value)} {news : List (Addr × Obj)} {rv : List Value} {n : Nat} {row : List Int} {x kd : Int} {t u : Tok}
    (G : Gd w h₀) (S : At o h₀ L l news s) (hd : A.depth + 5 < 900) (hu : A.units + 50 < 9000) (hr : (r, lo rv n) ∈ news) (hi : IntsAre rv row) (hz : row.length < 50) (hne : row ≠ [])
    (h : ∀ T v₁ r' rv' n' ex s', At o h₀ L l ((T, tup [v₁, .ref r']) :: (r', lo rv' n') :: (ex ++ news)) s' → IntsAre rv' (row) → DueV v₁ ex (some ([row.getLastD 0, (srt (row.dropLast ++ [x])).getLastD 0] ++ (srt (row.dropLast ++ [x])).dropLast)) → (r' = r ∨ ∀ p ∈ news, p.1 ≠ r') → (∀ p ∈ ex, ∀ q ∈ news, q.1 ≠ p.1) → Q (.ref T) s') :
    wpAny (MM w) A (call (.ref 145) [.int 7 t, .ref r, .int x u]) Q E s := by
  refine call_mut [(Str.ofString "kind", .int 7 t), (Str.ofString "row", .ref r), (Str.ofString "number", .int x u)] G S (by show A.depth < 1000; omega) (by rfl) (by rfl) (BindsTo.of_eq rfl) (locs rfl) ?_
  intro g L' s₁ G' S₁
  have hlen := hi.length
  repeat walk_at "n"
  refine ite_ff ?_
  repeat walk_at "n"
  rename_i S₂
  refine S₂.newTuple (by simp) fun T s₃ S₃ hT => ?_
  refine At.inTup (S₃.get (.head _)) (.cons _ _ (.cons _ _ (.cons _ _ .nil))) ?_
  repeat walk_at "n"
  refine ite_tt ?_
  repeat walk_at "n"
  refine S₃.newList (vs := []) (by simp) fun T₄ s₄ S₄ hT₄ => ?_
  repeat walk_at "n"
  refine At.eqL (S₄.get (.tail _ (.tail _ hr))) hi (S₄.get (.head _)) .nil (by show A.units + 3 < 9000; omega) ?_
  rw [decide_eq_false hne]
  have S₄ := S₄.less (news' := news) (fun p hp => .tail _ (.tail _ hp))
  repeat walk_at "n"
  refine ite_ff ?_
  repeat walk_at "n"
  refine ite_ff ?_
  repeat walk_at "n"
  refine ite_tt ?_
  repeat walk_at "n"
  rename_i S₅
  refine S₅.callb G' (by rfl) (by rfl) (by decide) ?_
  repeat walk_at "n"
  rename_i S₆
  refine S₆.slice (S₆.get hr) (by omega) .none (.int _ _) .none (by decide) (pick_init rv) fun r1 s₈ S₈ hr1 => ?_
  repeat walk_at "n"
  refine S₈.newList (by simp) fun r2 s₉ S₉ hr2 => ?_
  refine S₉.addList (S₉.get (.tail _ (.head _))) (S₉.get (.head _)) (by rw [List.length_dropLast]; omega) (by simp) fun r3 s₁₀ S₁₀ hr3 => ?_
  repeat walk_at "n"
  refine S₁₀.sorted (S₁₀.get (.head _)) (app_ints (init_ints hi) (.cons _ _ .nil)) (by simp; omega) fun lf c vs' s₁₁ hi' S₁₁ hlf => ?_
  have S₁₁ := S₁₁.less (news' := (lf, lo vs' c) :: news) (fun p hp => by
    rcases List.mem_cons.mp hp with rfl | hp
    · exact .head _
    · exact .tail _ (.tail _ (.tail _ (.tail _ hp))))
  have hlf' : ∀ p ∈ news, p.1 ≠ lf := fun p hp => hlf p (.tail _ (.tail _ (.tail _ hp)))
  have hvl := hi'.length
  rw [srt_length, List.length_append, List.length_dropLast] at hvl
  have hlne : srt (row.dropLast ++ [x]) ≠ [] := fun e => by have := congrArg List.length e; rw [srt_length] at this; simp at this
  have hlast := last_ints hi hne
  have hlast' := last_ints hi' hlne
  obtain ⟨t₁, hl1⟩ := hlast
  obtain ⟨t₂, hl2⟩ := hlast'
  repeat walk_at "n"
  rename_i S₁₂
  refine At.itemNeg (S₁₂.get (.tail _ hr)) (by omega) hl1 ?_
  repeat walk_at "n"
  rename_i S₁₃
  refine At.itemNeg (S₁₃.get (.head _)) (by simp at hvl; omega) hl2 ?_
  repeat walk_at "n"
  refine S₁₃.newList (by simp) fun d0 s₁₄ S₁₄ hd0 => ?_
  repeat walk_at "n"
  rename_i S₁₅
  refine S₁₅.slice (S₁₅.get (.tail _ (.head _))) (by simp at hvl; omega) .none (.int _ _) .none (by decide) (pick_init vs') fun d1 s₁₆ S₁₆ hd1 => ?_
  refine S₁₆.addList (S₁₆.get (.tail _ (.head _))) (S₁₆.get (.head _)) (by simp) (by rw [List.length_dropLast]; simp at hvl; omega) fun d s₁₇ S₁₇ hd => ?_
  repeat walk_at "n"
  refine S₁₇.newTuple (by simp) fun T s₁₈ S₁₈ hT => ?_
  repeat walk_at "n"
  have S₁₉ := S₁₈.less (news' := (T, tup [.ref d, .ref r]) :: (r, lo rv n) :: ([(d, lo ([.int (row.getLast hne) t₁, .int ((srt (row.dropLast ++ [x])).getLast hlne) t₂] ++ vs'.dropLast) 0)] ++ news)) (fun p hp => by
    rcases List.mem_cons.mp hp with rfl | hp
    · exact .head _
    · rcases List.mem_cons.mp hp with rfl | hp
      · exact .tail _ (.tail _ (.tail _ (.tail _ (.tail _ hr))))
      · rcases List.mem_cons.mp hp with rfl | hp
        · exact .tail _ (.head _)
        · exact .tail _ (.tail _ (.tail _ (.tail _ (.tail _ hp)))))
  refine ⟨_, _, S₁₉, fun S' => h _ _ _ _ _ [(d, lo ([.int (row.getLast hne) t₁, .int ((srt (row.dropLast ++ [x])).getLast hlne) t₂] ++ vs'.dropLast) 0)] _ S' hi ⟨d, _, _, rfl, .head _, ?_⟩ (.inl rfl) (fun p hp q hq => by rw [List.mem_singleton.mp hp]; exact hd q (.tail _ (.tail _ (.tail _ hq))))⟩
  rw [lastD hne, lastD hlne]
  exact .cons _ _ (.cons _ _ (init_ints hi'))
theorem due_5 {w : World} {A : Around} {E : Value → Shared → Prop} {s o : Shared} {Q : Value → Shared → Prop} {h₀ : Heap} {L r : Addr} {l : List (Str × Value)} {news : List (Addr × Obj)} {rv : List Value} {n : Nat} {row : List Int} {x kd : Int} {t u : Tok}
    (G : Gd w h₀) (S : At o h₀ L l news s) (hd : A.depth + 5 < 900) (hu : A.units + 50 < 9000) (hr : (r, lo rv n) ∈ news) (hi : IntsAre rv row) (hz : row.length < 50) 
    (h : ∀ T v₁ r' rv' n' ex s', At o h₀ L l ((T, tup [v₁, .ref r']) :: (r', lo rv' n') :: (ex ++ news)) s' → IntsAre rv' ((srt (row ++ [x])).drop 1) → DueV v₁ ex (some ((srt (row ++ [x])).take 1)) → (r' = r ∨ ∀ p ∈ news, p.1 ≠ r') → (∀ p ∈ ex, ∀ q ∈ news, q.1 ≠ p.1) → Q (.ref T) s') :
    wpAny (MM w) A (call (.ref 145) [.int 5 t, .ref r, .int x u]) Q E s := by
  refine call_mut [(Str.ofString "kind", .int 5 t), (Str.ofString "row", .ref r), (Str.ofString "number", .int x u)] G S (by show A.depth < 1000; omega) (by rfl) (by rfl) (BindsTo.of_eq rfl) (locs rfl) ?_
  intro g L' s₁ G' S₁
  have hlen := hi.length
  repeat walk_at "n"
  refine ite_ff ?_
  repeat walk_at "n"
  rename_i S₂
  refine S₂.newTuple (by simp) fun T s₃ S₃ hT => ?_
  refine At.inTup (S₃.get (.head _)) (.cons _ _ (.cons _ _ (.cons _ _ .nil))) ?_
  repeat walk_at "n"
  refine ite_ff ?_
  have S₄ := S₃.less (news' := news) (fun p hp => .tail _ hp)
  repeat walk_at "n"
  refine ite_ff ?_
  repeat walk_at "n"
  refine ite_ff ?_
  repeat walk_at "n"
  refine ite_ff ?_
  repeat walk_at "n"
  rename_i S₄
  refine S₄.callb G' (by rfl) (by rfl) (by decide) ?_
  repeat walk_at "n"
  refine S₄.newList (by simp) fun r2 s₉ S₉ hr2 => ?_
  refine S₉.addList (S₉.get (.tail _ hr)) (S₉.get (.head _)) (by omega) (by simp) fun r3 s₁₀ S₁₀ hr3 => ?_
  repeat walk_at "n"
  refine S₁₀.sorted (S₁₀.get (.head _)) (app_ints hi (.cons _ _ .nil)) (by simp; omega) fun mo c vs' s₁₁ hi' S₁₁ hmo => ?_
  have S₁₁ := S₁₁.less (news' := (mo, lo vs' c) :: news) (fun p hp => by
    rcases List.mem_cons.mp hp with rfl | hp
    · exact .head _
    · exact .tail _ (.tail _ (.tail _ hp)))
  have hmo' : ∀ p ∈ news, p.1 ≠ mo := fun p hp => hmo p (.tail _ (.tail _ hp))
  have hvl := hi'.length
  rw [srt_length, List.length_append, List.length_singleton] at hvl
  repeat walk_at "n"
  refine ite_tt ?_
  repeat walk_at "n"
  rename_i S₅
  refine S₅.slice (S₅.get (.head _)) (by omega) .none (.int _ _) .none (by decide) (pick_upto vs' 1) fun d s₆ S₆ hd => ?_
  repeat walk_at "n"
  rename_i S₇
  refine S₇.slice (S₇.get (.tail _ (.head _))) (by omega) (.int _ _) .none .none (by decide) (pick_from vs' 1) fun r' s₈ S₈ hr' => ?_
  repeat walk_at "n"
  refine S₈.newTuple (by simp) fun T s₉ S₉ hT => ?_
  repeat walk_at "n"
  have S₁₃ := S₉.less (news' := (T, tup [.ref d, .ref r']) :: (r', lo (vs'.drop 1) 0) :: ([(d, lo (vs'.take 1) 0)] ++ news)) (fun p hp => by
    rcases List.mem_cons.mp hp with rfl | hp
    · exact .head _
    · rcases List.mem_cons.mp hp with rfl | hp
      · exact .tail _ (.head _)
      · rcases List.mem_cons.mp hp with rfl | hp
        · exact .tail _ (.tail _ (.head _))
        · exact .tail _ (.tail _ (.tail _ (.tail _ hp))))
  exact ⟨_, _, S₁₃, fun S' => h _ _ _ _ _ [(d, lo (vs'.take 1) 0)] _ S' (drop_ints hi' 1) ⟨d, _, _, rfl, .head _, take_ints hi' 1⟩ (.inr fun p hp => hr' p (.tail _ (.tail _ hp))) (fun p hp q hq => by rw [List.mem_singleton.mp hp]; exact hd q (.tail _ hq))⟩
theorem due_0 {w : World} {A : Around} {E : Value → Shared → Prop} {s o : Shared} {Q : Value → Shared → Prop} {h₀ : Heap} {L r : Addr} {l : List (Str × Value)} {news : List (Addr × Obj)} {rv : List Value} {n : Nat} {row : List Int} {x kd : Int} {t u : Tok}
    (G : Gd w h₀) (S : At o h₀ L l news s) (hd : A.depth + 5 < 900) (hu : A.units + 50 < 9000) (hr : (r, lo rv n) ∈ news) (hi : IntsAre rv row) (hz : row.length < 50) 
    (h : ∀ T v₁ r' rv' n' ex s', At o h₀ L l ((T, tup [v₁, .ref r']) :: (r', lo rv' n') :: (ex ++ news)) s' → IntsAre rv' (srt (row ++ [x])) → DueV v₁ ex (some []) → (r' = r ∨ ∀ p ∈ news, p.1 ≠ r') → (∀ p ∈ ex, ∀ q ∈ news, q.1 ≠ p.1) → Q (.ref T) s') :
    wpAny (MM w) A (call (.ref 145) [.int 0 t, .ref r, .int x u]) Q E s := by
  refine call_mut [(Str.ofString "kind", .int 0 t), (Str.ofString "row", .ref r), (Str.ofString "number", .int x u)] G S (by show A.depth < 1000; omega) (by rfl) (by rfl) (BindsTo.of_eq rfl) (locs rfl) ?_
  intro g L' s₁ G' S₁
  have hlen := hi.length
  repeat walk_at "n"
  refine ite_ff ?_
  repeat walk_at "n"
  rename_i S₂
  refine S₂.newTuple (by simp) fun T s₃ S₃ hT => ?_
  refine At.inTup (S₃.get (.head _)) (.cons _ _ (.cons _ _ (.cons _ _ .nil))) ?_
  repeat walk_at "n"
  refine ite_ff ?_
  have S₄ := S₃.less (news' := news) (fun p hp => .tail _ hp)
  repeat walk_at "n"
  refine ite_ff ?_
  repeat walk_at "n"
  refine ite_ff ?_
  repeat walk_at "n"
  refine ite_ff ?_
  repeat walk_at "n"
  rename_i S₄
  refine S₄.callb G' (by rfl) (by rfl) (by decide) ?_
  repeat walk_at "n"
  refine S₄.newList (by simp) fun r2 s₉ S₉ hr2 => ?_
  refine S₉.addList (S₉.get (.tail _ hr)) (S₉.get (.head _)) (by omega) (by simp) fun r3 s₁₀ S₁₀ hr3 => ?_
  repeat walk_at "n"
  refine S₁₀.sorted (S₁₀.get (.head _)) (app_ints hi (.cons _ _ .nil)) (by simp; omega) fun mo c vs' s₁₁ hi' S₁₁ hmo => ?_
  have S₁₁ := S₁₁.less (news' := (mo, lo vs' c) :: news) (fun p hp => by
    rcases List.mem_cons.mp hp with rfl | hp
    · exact .head _
    · exact .tail _ (.tail _ (.tail _ hp)))
  have hmo' : ∀ p ∈ news, p.1 ≠ mo := fun p hp => hmo p (.tail _ (.tail _ hp))
  have hvl := hi'.length
  rw [srt_length, List.length_append, List.length_singleton] at hvl
  repeat walk_at "n"
  refine ite_ff ?_
  repeat walk_at "n"
  rename_i S₁₂
  refine S₁₂.newList (vs := []) (by simp) fun d s₃ S₃ hd => ?_
  repeat walk_at "n"
  refine S₃.newTuple (by simp) fun T s₄ S₄ hT => ?_
  repeat walk_at "n"
  have S₁₃ := S₄.less (news' := (T, tup [.ref d, .ref mo]) :: (mo, lo vs' c) :: ([(d, lo [] 0)] ++ news)) (fun p hp => by
    rcases List.mem_cons.mp hp with rfl | hp
    · exact .head _
    · rcases List.mem_cons.mp hp with rfl | hp
      · exact .tail _ (.tail _ (.head _))
      · rcases List.mem_cons.mp hp with rfl | hp
        · exact .tail _ (.head _)
        · exact .tail _ (.tail _ (.tail _ hp)))
  exact ⟨_, _, S₁₃, fun S' => h _ _ _ _ _ [(d, lo [] 0)] _ S' hi' ⟨d, _, _, rfl, .head _, .nil⟩ (.inr hmo') (fun p hp q hq => by rw [List.mem_singleton.mp hp]; exact hd q (.tail _ hq))⟩
theorem due_2 {w : World} {A : Around} {E : Value → Shared → Prop} {s o : Shared} {Q : Value → Shared → Prop} {h₀ : Heap} {L r : Addr} {l : List (Str × Value)} {news : List (Addr × Obj)} {rv : List Value} {n : Nat} {row : List Int} {x kd : Int} {t u : Tok}
    (G : Gd w h₀) (S : At o h₀ L l news s) (hd : A.depth + 5 < 900) (hu : A.units + 50 < 9000) (hr : (r, lo rv n) ∈ news) (hi : IntsAre rv row) (hz : row.length < 50) 
    (h : ∀ T v₁ r' rv' n' ex s', At o h₀ L l ((T, tup [v₁, .ref r']) :: (r', lo rv' n') :: (ex ++ news)) s' → IntsAre rv' (srt (row ++ [x])) → DueV v₁ ex (some []) → (r' = r ∨ ∀ p ∈ news, p.1 ≠ r') → (∀ p ∈ ex, ∀ q ∈ news, q.1 ≠ p.1) → Q (.ref T) s') :
    wpAny (MM w) A (call (.ref 145) [.int 2 t, .ref r, .int x u]) Q E s := by
  refine call_mut [(Str.ofString "kind", .int 2 t), (Str.ofString "row", .ref r), (Str.ofString "number", .int x u)] G S (by show A.depth < 1000; omega) (by rfl) (by rfl) (BindsTo.of_eq rfl) (locs rfl) ?_
  intro g L' s₁ G' S₁
  have hlen := hi.length
  repeat walk_at "n"
  refine ite_ff ?_
  repeat walk_at "n"
  rename_i S₂
  refine S₂.newTuple (by simp) fun T s₃ S₃ hT => ?_
  refine At.inTup (S₃.get (.head _)) (.cons _ _ (.cons _ _ (.cons _ _ .nil))) ?_
  repeat walk_at "n"
  refine ite_ff ?_
  have S₄ := S₃.less (news' := news) (fun p hp => .tail _ hp)
  repeat walk_at "n"
  refine ite_ff ?_
  repeat walk_at "n"
  refine ite_ff ?_
  repeat walk_at "n"
  refine ite_ff ?_
  repeat walk_at "n"
  rename_i S₄
  refine S₄.callb G' (by rfl) (by rfl) (by decide) ?_
  repeat walk_at "n"
  refine S₄.newList (by simp) fun r2 s₉ S₉ hr2 => ?_
  refine S₉.addList (S₉.get (.tail _ hr)) (S₉.get (.head _)) (by omega) (by simp) fun r3 s₁₀ S₁₀ hr3 => ?_
  repeat walk_at "n"
  refine S₁₀.sorted (S₁₀.get (.head _)) (app_ints hi (.cons _ _ .nil)) (by simp; omega) fun mo c vs' s₁₁ hi' S₁₁ hmo => ?_
  have S₁₁ := S₁₁.less (news' := (mo, lo vs' c) :: news) (fun p hp => by
    rcases List.mem_cons.mp hp with rfl | hp
    · exact .head _
    · exact .tail _ (.tail _ (.tail _ hp)))
  have hmo' : ∀ p ∈ news, p.1 ≠ mo := fun p hp => hmo p (.tail _ (.tail _ hp))
  have hvl := hi'.length
  rw [srt_length, List.length_append, List.length_singleton] at hvl
  repeat walk_at "n"
  refine ite_ff ?_
  repeat walk_at "n"
  rename_i S₁₂
  refine S₁₂.newList (vs := []) (by simp) fun d s₃ S₃ hd => ?_
  repeat walk_at "n"
  refine S₃.newTuple (by simp) fun T s₄ S₄ hT => ?_
  repeat walk_at "n"
  have S₁₃ := S₄.less (news' := (T, tup [.ref d, .ref mo]) :: (mo, lo vs' c) :: ([(d, lo [] 0)] ++ news)) (fun p hp => by
    rcases List.mem_cons.mp hp with rfl | hp
    · exact .head _
    · rcases List.mem_cons.mp hp with rfl | hp
      · exact .tail _ (.tail _ (.head _))
      · rcases List.mem_cons.mp hp with rfl | hp
        · exact .tail _ (.head _)
        · exact .tail _ (.tail _ (.tail _ hp)))
  exact ⟨_, _, S₁₃, fun S' => h _ _ _ _ _ [(d, lo [] 0)] _ S' hi' ⟨d, _, _, rfl, .head _, .nil⟩ (.inr hmo') (fun p hp q hq => by rw [List.mem_singleton.mp hp]; exact hd q (.tail _ hq))⟩
theorem due_4 {w : World} {A : Around} {E : Value → Shared → Prop} {s o : Shared} {Q : Value → Shared → Prop} {h₀ : Heap} {L r : Addr} {l : List (Str × Value)} {news : List (Addr × Obj)} {rv : List Value} {n : Nat} {row : List Int} {x kd : Int} {t u : Tok}
    (G : Gd w h₀) (S : At o h₀ L l news s) (hd : A.depth + 5 < 900) (hu : A.units + 50 < 9000) (hr : (r, lo rv n) ∈ news) (hi : IntsAre rv row) (hz : row.length < 50) 
    (h : ∀ T v₁ r' rv' n' ex s', At o h₀ L l ((T, tup [v₁, .ref r']) :: (r', lo rv' n') :: (ex ++ news)) s' → IntsAre rv' (srt (row ++ [x])) → DueV v₁ ex (some []) → (r' = r ∨ ∀ p ∈ news, p.1 ≠ r') → (∀ p ∈ ex, ∀ q ∈ news, q.1 ≠ p.1) → Q (.ref T) s') :
    wpAny (MM w) A (call (.ref 145) [.int 4 t, .ref r, .int x u]) Q E s := by
  refine call_mut [(Str.ofString "kind", .int 4 t), (Str.ofString "row", .ref r), (Str.ofString "number", .int x u)] G S (by show A.depth < 1000; omega) (by rfl) (by rfl) (BindsTo.of_eq rfl) (locs rfl) ?_
  intro g L' s₁ G' S₁
  have hlen := hi.length
  repeat walk_at "n"
  refine ite_ff ?_
  repeat walk_at "n"
  rename_i S₂
  refine S₂.newTuple (by simp) fun T s₃ S₃ hT => ?_
  refine At.inTup (S₃.get (.head _)) (.cons _ _ (.cons _ _ (.cons _ _ .nil))) ?_
  repeat walk_at "n"
  refine ite_ff ?_
  have S₄ := S₃.less (news' := news) (fun p hp => .tail _ hp)
  repeat walk_at "n"
  refine ite_ff ?_
  repeat walk_at "n"
  refine ite_ff ?_
  repeat walk_at "n"
  refine ite_ff ?_
  repeat walk_at "n"
  rename_i S₄
  refine S₄.callb G' (by rfl) (by rfl) (by decide) ?_
  repeat walk_at "n"
  refine S₄.newList (by simp) fun r2 s₉ S₉ hr2 => ?_
  refine S₉.addList (S₉.get (.tail _ hr)) (S₉.get (.head _)) (by omega) (by simp) fun r3 s₁₀ S₁₀ hr3 => ?_
  repeat walk_at "n"
  refine S₁₀.sorted (S₁₀.get (.head _)) (app_ints hi (.cons _ _ .nil)) (by simp; omega) fun mo c vs' s₁₁ hi' S₁₁ hmo => ?_
  have S₁₁ := S₁₁.less (news' := (mo, lo vs' c) :: news) (fun p hp => by
    rcases List.mem_cons.mp hp with rfl | hp
    · exact .head _
    · exact .tail _ (.tail _ (.tail _ hp)))
  have hmo' : ∀ p ∈ news, p.1 ≠ mo := fun p hp => hmo p (.tail _ (.tail _ hp))
  have hvl := hi'.length
  rw [srt_length, List.length_append, List.length_singleton] at hvl
  repeat walk_at "n"
  refine ite_ff ?_
  repeat walk_at "n"
  rename_i S₁₂
  refine S₁₂.newList (vs := []) (by simp) fun d s₃ S₃ hd => ?_
  repeat walk_at "n"
  refine S₃.newTuple (by simp) fun T s₄ S₄ hT => ?_
  repeat walk_at "n"
  have S₁₃ := S₄.less (news' := (T, tup [.ref d, .ref mo]) :: (mo, lo vs' c) :: ([(d, lo [] 0)] ++ news)) (fun p hp => by
    rcases List.mem_cons.mp hp with rfl | hp
    · exact .head _
    · rcases List.mem_cons.mp hp with rfl | hp
      · exact .tail _ (.tail _ (.head _))
      · rcases List.mem_cons.mp hp with rfl | hp
        · exact .tail _ (.head _)
        · exact .tail _ (.tail _ (.tail _ hp)))
  exact ⟨_, _, S₁₃, fun S' => h _ _ _ _ _ [(d, lo [] 0)] _ S' hi' ⟨d, _, _, rfl, .head _, .nil⟩ (.inr hmo') (fun p hp q hq => by rw [List.mem_singleton.mp hp]; exact hd q (.tail _ hq))⟩

end
set_option hygiene false in
local macro_rules | `(tactic| walk_at "m") => `(tactic| first
  | ((with_reducible show wpAny _ _ (eval (Expr.Compare _ [_] [_] _) _) _ _ _); refine wpAny_Compare1 ?_)
  | ((with_reducible show wpAny _ _ (eval (Expr.BoolOp BoolOp.And [_] _) _) _ _ _); refine BoolOp_one ?_)
  | ((with_reducible show wpAny _ _ (eval (Expr.BoolOp BoolOp.And (_ :: _ :: _) _) _) _ _ _); refine BoolOp_and ?_)
  | ((with_reducible show wpAny _ _ (compareOp CmpOp.Is (Value.ref _) Value.none) _ _ _); refine is_ref_none ?_)
  | ((with_reducible show wpAny _ _ (compareOp CmpOp.Is Value.none Value.none) _ _ _); refine is_none_none ?_)
  | ((with_reducible show wpAny _ _ (isTrue (Expr.Call _ _ _ _) _ _) _ _ _); refine isTrue_plain ?_))
section -- NbCl
section
variable {M : Model} {A : Around} {E : Value → Shared → Prop} {s o : Shared} {env : Env} {L : Addr} {h₀ : Heap} {l : List (Str × Value)} {news : List (Addr × Obj)} {w : World}
theorem Gd.globE (G : Gd w s.heap) {x : Str} {pos : Pos} {v : Value} {Q : Value → Shared → Prop} (e : nsIn (KK w) mainGlobals x = some (some v)) (h : Q v s)
    (hg : env.globals = mainGlobals := by rfl) (hk : env.scope.kind = .function := by rfl) (hx : env.kindOf x = some .globalImplicit := by rfl) (hd : (x == ("__debug__" : Str)) = false := by decide) :
    wpAny M A (eval (.Name x pos) env) Q E s :=
  let ⟨_, _, _, T⟩ := G.T; Name_function_global hk hx (loadGlobal_global (hg ▸ T.g) (mg_of G.X T.g e) h) hd
theorem Gd.bltE (G : Gd w s.heap) {x : Str} {pos : Pos} {v : Value} {Q : Value → Shared → Prop} (e : nsIn (KK w) mainGlobals x = some none) (hv : bootBuiltins x = some v) (hn : x ≠ "__name__") (h : Q v s)
    (hg : env.globals = mainGlobals := by rfl) (hb : env.builtins = builtinsNs := by rfl) (hk : env.scope.kind = .function := by rfl) (hx : env.kindOf x = some .globalImplicit := by rfl) (hd : (x == ("__debug__" : Str)) = false := by decide) :
    wpAny M A (eval (.Name x pos) env) Q E s :=
  let ⟨_, _, _, T⟩ := G.T; Name_function_global hk hx (loadGlobal_builtin (hg ▸ T.g) (mg_none_of G.X T.g e) (hb ▸ T.b) ((T.builtins x hn).trans hv) h) hd
theorem Gd.callfE {f : Addr} (G : Gd w s.heap) {x : Str} {p pos : Pos} {e : PySem.Expr} {rest : List PySem.Expr} {Q : Value → Shared → Prop}
    (eg : nsIn (KK w) mainGlobals x = some (some (.ref f))) (hf : fnIn (KK w) f = true)
    (h : wpAny M A (spliced (backTo pos (starEach (e :: rest) env))) (fun vs s₁ => Gd w s₁.heap ∧ wpAny M A (call (.ref f) vs) Q E s₁) E s)
    (hg : env.globals = mainGlobals := by rfl) (hk : env.scope.kind = .function := by rfl) (hx : env.kindOf x = some .globalImplicit := by rfl) (hd : (x == ("__debug__" : Str)) = false := by decide)
    (hc : eval (.Call (.Name x p) (e :: rest) [] pos) env = (do callWith pos (← eval (.Name x p) env) [] (backTo pos (starEach (e :: rest) env)) (backToKw pos (keywordEach [] env))) := by rfl)
    (he : starEach (e :: rest) env = (false, eval e env) :: starEach rest env := by rfl) :
    wpAny M A (eval (.Call (.Name x p) (e :: rest) [] pos) env) Q E s := by
  refine Call_ (G.globE eg ?_ hg hk hx hd) hc
  unfold fnIn at hf
  split at hf
  · rename_i oc od fd osl q
    refine callWith_def (o := ⟨oc, od, .func fd, osl⟩) rfl (wpAny_mono h (fun vs s₁ h₁ => ⟨h₁.1.X _ _ q, h₁.2⟩) fun _ _ x => x) he
  · cases hf
theorem Gd.callbE {id : String} (G : Gd w s.heap) {x : Str} {p pos : Pos} {e : PySem.Expr} {rest : List PySem.Expr} {Q : Value → Shared → Prop}
    (eg : nsIn (KK w) mainGlobals x = some none) (hv : bootBuiltins x = some (.builtin id)) (hn : x ≠ "__name__")
    (h : wpAny M A (spliced (backTo pos (starEach (e :: rest) env))) (fun vs s₁ => wpAny M A (call (.builtin id) vs) Q E s₁) E s)
    (hg : env.globals = mainGlobals := by rfl) (hb : env.builtins = builtinsNs := by rfl) (hk : env.scope.kind = .function := by rfl) (hx : env.kindOf x = some .globalImplicit := by rfl) (hd : (x == ("__debug__" : Str)) = false := by decide)
    (hc : eval (.Call (.Name x p) (e :: rest) [] pos) env = (do callWith pos (← eval (.Name x p) env) [] (backTo pos (starEach (e :: rest) env)) (backToKw pos (keywordEach [] env))) := by rfl)
    (he : starEach (e :: rest) env = (false, eval e env) :: starEach rest env := by rfl) (hplain : (backTo pos (starEach rest env)).any (·.1) = false := by rfl) :
    wpAny M A (eval (.Call (.Name x p) (e :: rest) [] pos) env) Q E s :=
  Call_ (G.bltE eg hv hn (callWith_builtin1 h he hplain) hg hb hk hx hd) hc
theorem Gd.calltE {T : String} (G : Gd w s.heap) {x : Str} {p pos : Pos} {e : PySem.Expr} {rest : List PySem.Expr} {Q : Value → Shared → Prop}
    (eg : nsIn (KK w) mainGlobals x = some none) (hv : bootBuiltins x = some (.type T)) (hn : x ≠ "__name__")
    (h : wpAny M A (spliced (backTo pos (starEach (e :: rest) env))) (fun vs s₁ => wpAny M A (call (.type T) vs) Q E s₁) E s)
    (hg : env.globals = mainGlobals := by rfl) (hb : env.builtins = builtinsNs := by rfl) (hk : env.scope.kind = .function := by rfl) (hx : env.kindOf x = some .globalImplicit := by rfl) (hd : (x == ("__debug__" : Str)) = false := by decide)
    (hc : eval (.Call (.Name x p) (e :: rest) [] pos) env = (do callWith pos (← eval (.Name x p) env) [] (backTo pos (starEach (e :: rest) env)) (backToKw pos (keywordEach [] env))) := by rfl)
    (he : starEach (e :: rest) env = (false, eval e env) :: starEach rest env := by rfl) (hplain : (backTo pos (starEach rest env)).any (·.1) = false := by rfl) :
    wpAny M A (eval (.Call (.Name x p) (e :: rest) [] pos) env) Q E s :=
  Call_ (G.bltE eg hv hn (callWith_type1 h he hplain) hg hb hk hx hd) hc
theorem At.gd (S : At o h₀ L l news s) (G : Gd w h₀) : Gd w s.heap := G.keeps S.keep
theorem At.ldE (S : At o h₀ L l news s) {x : Str} {pos : Pos} {v : Value} {Q : Value → Shared → Prop} (hv : l.lookup x = some v) (h : Q v s)
    (hL : env.locals = L := by rfl) (hk : env.scope.kind = .function := by rfl) (hl : env.kindOf x = some .local := by rfl) (hd : (x == ("__debug__" : Str)) = false := by decide) :
    wpAny M A (eval (.Name x pos) env) Q E s :=
  let ⟨_, F, hm⟩ := S.fr; wpAny_Name (wpAny_loadName_local hk hl (hL ▸ F.ns) (hm _ _ hv) h) hd
theorem At.ldnE (S : At o h₀ L l news s) {x : Str} {v : Value} {Q : Value → Shared → Prop} (hv : l.lookup x = some v) (h : Q v s)
    (hL : env.locals = L := by rfl) (hk : env.scope.kind = .function := by rfl) (hl : env.kindOf x = some .local := by rfl) :
    wpAny M A (loadName env x) Q E s :=
  let ⟨_, F, hm⟩ := S.fr; wpAny_loadName_local hk hl (hL ▸ F.ns) (hm _ _ hv) h
theorem At.stE (S : At o h₀ L l news s) {x : Str} {v : Value} {Q : Unit → Shared → Prop} (h : ∀ s', At o h₀ L ((x, v) :: l) news s' → Q () s')
    (hL : env.locals = L := by rfl) (hk : env.scope.kind = .function := by rfl) (hl : env.kindOf x = some .local := by rfl) :
    wpAny M A (storeName env x v) Q E s := by
  obtain ⟨⟨m, F, hm⟩, N, R⟩ := S
  refine wpAny_storeName_local hl (hL ▸ F.ns) (fun h' hn hs => h _ ⟨⟨_, F.set (hL ▸ hn) (hL ▸ hs), fun y u e => ?_⟩, fun p hp => ⟨?_, (N p hp).2⟩, R.trans ⟨rfl, rfl, rfl⟩⟩) (by rw [hk]; rfl)
  · rw [List.lookup_cons] at e
    by_cases hy : y = x
    · rw [if_pos hy]; rw [hy, beq_self_eq_true] at e; exact e
    · rw [if_neg hy]; rw [show (y == x) = false from beq_eq_false_iff_ne.mpr hy] at e; exact hm y u e
  · exact hs.extBut _ _ (hL ▸ (N p hp).2.1) (N p hp).1
end
theorem lookup_of {l : List (Str × Value)} {m : Str → Option Value} (h : ∀ p ∈ l, m p.1 = some p.2) : ∀ x v, l.lookup x = some v → m x = some v := by
  intro x v e
  induction l with
  | nil => cases e
  | cons q r ih =>
    obtain ⟨y, u⟩ := q
    rw [List.lookup_cons] at e
    split at e
    · rename_i hb; cases e; rw [eq_of_beq hb]; exact h _ (.head _)
    · exact ih (fun p hp => h p (.tail _ hp)) e

theorem call_pureK {w : World} {A : Around} {E : Value → Shared → Prop} {s : Shared} {Post : Value → Shared → Prop} {name qual : Str} {params : Arguments} {body : List Stmt} {scope : Scope} {dV kV doc pm cdv ct oc : Value} {an od : Option Addr} {osl : Array (Option Value)} {f : Addr} {args : List Value}
    (binds l : List (Str × Value)) (bx : Str) (bv : Value) (G : Gd w s.heap) (hroom : A.depth < recursionLimit)
    (ho : (KK w).lookup f = some ⟨oc, od, .func (fnOf name qual params body scope dV kV doc pm an cdv ct), osl⟩) (hcd : codeIn (KK w) cdv qual = true)
    (hbind : bindArgs (fnOf name qual params body scope dV kV doc pm an cdv ct) ⟨args, []⟩ = pure binds) (hkind : (binds.all fun y => scope.names.lookup y.1 == some .local || scope.names.lookup y.1 == some .cell) = true)
    (hcl : ∀ n, (cellsFrom n scope.names []).lookup bx = some n)
    (hbv : ∀ L, bindC (envOfC qual scope L f cdv).kindOf binds (fun _ => none) bx = some bv)
    (hl : ∀ L, ∀ p ∈ l, bindL (envOfC qual scope L f cdv).kindOf binds (fun _ => none) p.1 = some p.2)
    (h : ∀ L co s₁, co.data = .cell (some bv) → At s s.heap L l [(L + 1, co)] s₁ → wpAny (MM w) (A.deeper (envOfC qual scope L f cdv)) (execs body (envOfC qual scope L f cdv))
        (fun fl s' => (∃ l news, At s s.heap L l news s') ∧ Post (retOf fl) s') (fun _ _ => False) s₁)
    (hco : scope.isCoroutine = false := by rfl) (hgen : scope.isGenerator = false := by rfl) (hk : scope.kind = .function := by rfl) :
    wpAny (MM w) A (call (.ref f) args) (fun v s' => Keeps s s' ∧ Post v s') E s := by
  refine wpAny_call (codeAny_call_cells (fd := fnOf name qual params body scope dV kV doc pm an cdv ct) (body := body) (binds := binds) hroom (G.X _ _ ho) rfl G.nolimit (codeRec_of G.X hcd) rfl hbind rfl (kindsX hkind _) (fun s₁ X => ?_) hco hgen hk)
  obtain ⟨co, hco', hcd'⟩ := X.cell bx _ (hcl _)
  have hcv : co.data = .cell (some bv) := by rw [hcd']; exact congrArg _ (hbv s.heap.objs.size)
  have S : At s s.heap s.heap.objs.size l [(s.heap.objs.size + 1, co)] s₁ := by
    refine ⟨⟨_, ⟨X.toInCall.ns, X.toInCall.keep, Nat.le_refl _⟩, lookup_of (hl s.heap.objs.size)⟩, List.forall_mem_cons.mpr ⟨⟨hco', Nat.succ_ne_self _, ?_⟩, fun _ h => nomatch h⟩, ?_⟩
    · cases q : s.heap.get? (s.heap.objs.size + 1) with
      | none => rfl
      | some o' => exact absurd (Heap.lt_size q) (Nat.not_lt.mpr (Nat.le_succ _))
    · obtain ⟨h₁, tk, rfl⟩ := X.toInCall.same
      exact ⟨rfl, rfl, rfl⟩
  refine wpAny_mono (h _ co s₁ hcv S) (fun fl s' hf => ?_) fun _ _ x => x.elim
  obtain ⟨⟨l, news, S'⟩, hp⟩ := hf
  have hr := S'.R
  refine ⟨⟨s'.heap, s'.toks, ?_, S'.keep⟩, ?_⟩
  · obtain ⟨r1, r2, r3⟩ := hr
    cases s'; cases s; simp only at r1 r2 r3 ⊢; subst r1 r2 r3; rfl
  · cases fl <;> exact hp

end
set_option hygiene false in
local macro_rules | `(tactic| walk_at "m") => `(tactic| first
  | walk_at "mb"
  | ((with_reducible show wpAny _ _ (eval (Expr.Name _ _) _) _ _ _); refine At.ldE (by assumption) (by rfl) ?_)
  | ((with_reducible show wpAny _ _ (storeName _ _ _) _ _ _); refine At.stE (by assumption) ?_; intro _ _)
  | ((with_reducible show wpAny _ _ (loadName _ _) _ _ _); refine At.ldnE (by assumption) (by rfl) ?_))
section -- NbAg
theorem ints_uniq {vs : List Value} {a b : List Int} (h : IntsAre vs a) (h' : IntsAre vs b) : a = b := by
  induction h generalizing b with
  | nil => cases h'; rfl
  | cons n t _ ih => cases h' with | cons _ _ h'' => rw [ih h'']
/-- v is a list that holds the key of N -/
def KeyAt (b : Int) (h : Heap) (v : Value) (N : Int) : Prop := 0 ≤ N ∧ N < 10 ^ 9 ∧ ∃ c vs k, v = .ref c ∧ h.get? c = some (lo vs k) ∧ IntsAre vs (keyOf (gg b N 0))
theorem gg_inj {b N N' : Int} (h0 : 0 ≤ N) (h0' : 0 ≤ N') (e : gg b N 0 = gg b N' 0) : N = N' := by
  rw [← rd_gg b _ N 0 rfl h0, ← rd_gg b _ N' 0 rfl h0', e]
theorem lo_inj {vs vs' : List Value} {k k' : Nat} (e : some (lo vs k) = some (lo vs' k')) : vs = vs' := by
  injection e with e
  injection e with _ _ e _
  injection e with e _
  exact List.toArray_inj e
theorem KeyAt.uniq {b : Int} {h : Heap} {v : Value} {N N' : Int} (x : KeyAt b h v N) (y : KeyAt b h v N') : N = N' := by
  obtain ⟨h0, _, c, vs, k, rfl, hc, hi⟩ := x
  obtain ⟨h0', _, c', vs', k', e, hc', hi'⟩ := y
  cases e
  rw [hc] at hc'
  rw [lo_inj hc'] at hi
  have e := ints_uniq hi hi'
  unfold keyOf at e
  injection e with _ e
  exact gg_inj h0 h0' (List.reverse_inj.mp e)
theorem KeyAt.keeps {b : Int} {h h' : Heap} {v : Value} {N : Int} (x : KeyAt b h v N) (hk : ∀ a o, h.get? a = some o → h'.get? a = some o) : KeyAt b h' v N := by
  obtain ⟨h0, h1, c, vs, k, e, hc, hi⟩ := x
  exact ⟨h0, h1, c, vs, k, e, hk _ _ hc, hi⟩
theorem Its.mono {I J : Value → Int → Prop} {vs : List Value} {ns : List Int} (h : Its I vs ns) (f : ∀ v n, I v n → J v n) : Its J vs ns := by
  induction h with
  | nil => exact .nil
  | cons hv _ ih => exact .cons (f _ _ hv) ih
theorem Its.mem {I : Value → Int → Prop} {vs : List Value} {ns : List Int} (h : Its I vs ns) {v : Value} (hv : v ∈ vs) : ∃ n, n ∈ ns ∧ I v n := by
  induction h with
  | nil => cases hv
  | cons hv' _ ih =>
    rcases List.mem_cons.mp hv with rfl | hv
    · exact ⟨_, .head _, hv'⟩
    · obtain ⟨n, h1, h2⟩ := ih hv; exact ⟨n, .tail _ h1, h2⟩
def NumOf (b : Int) (h : Heap) (v y : Value) : Prop := ∃ N t, KeyAt b h v N ∧ y = .int N t
theorem nums_of {b : Int} {h : Heap} {vs ys : List Value} {ns : List Int} (p : Paired (NumOf b h) vs ys) (hi : Its (KeyAt b h) vs ns) : IntsAre ys ns := by
  induction p generalizing ns with
  | nil => cases hi; exact .nil
  | cons hf _ ih =>
    cases hi with
    | cons hv ht =>
      obtain ⟨N, t, hN, rfl⟩ := hf
      rw [hv.uniq hN]
      exact .cons _ _ (ih ht)

theorem numElt {w : World} {A : Around} {E' : Value → Shared → Prop} {s₁ s₃ : Shared} {C cc : Addr} {scope : Scope} {env : Env} {cl : List (Str × Addr)} {m₃ : Str → Option Value} {v : Value} {b N : Int} {t : Tok} {p₀ p₁ p₂ p₃ : Pos}
    (G : Gd w s₁.heap) (hh : A.handled = none) (hd : A.depth < 900) (hk : ∀ b ob, s₁.heap.get? b = some ob → s₃.heap.get? b = some ob) (hn : s₃.heap.Ns C m₃) (hm : m₃ (Str.ofString "key") = some v)
    (K : KeyAt b s₁.heap v N) (hcc : s₁.heap.IsCell cc (some (.int b t))) (hcl : cl.lookup (Str.ofString "bias") = some cc)
    (e1 : (compEnvC scope cl C env).globals = mainGlobals) (e2 : (compEnvC scope cl C env).scope.kind = .function) (e3 : (compEnvC scope cl C env).kindOf (Str.ofString "_law_number") = some .globalImplicit)
    (e4 : (compEnvC scope cl C env).kindOf (Str.ofString "key") = some .local) (e5 : (compEnvC scope cl C env).kindOf (Str.ofString "bias") = some .cell) :
    wpAny (MM w) A (eval (.Call (.Name (Str.ofString "_law_number") p₀) [.Name (Str.ofString "key") p₁, .Name (Str.ofString "bias") p₂] [] p₃) (compEnvC scope cl C env)) (fun y s₄ => NumOf b s₁.heap v y ∧ Keeps s₃ s₄) E' s₃ := by
  have G₃ := G.keeps hk
  refine G₃.callfE (f := 131) (by rfl) (by rfl) ?_ e1 e2 e3
  refine args_cons (ldVarK hn hm ?_ e2 e4)
  refine args_cons (ldCellK hcl (hcc.keeps hk) ?_ e2 e5)
  refine args_nil ?_
  refine ⟨G₃, ?_⟩
  obtain ⟨h0, h1, c, vs, k, rfl, hc, hi⟩ := K
  refine wpAny_mono (number_spec G₃ hh hd h0 h1 (hk _ _ hc) hi) ?_ (fun _ _ x => x)
  rintro y s₄ ⟨hk4, t', rfl⟩
  exact ⟨⟨N, t', ⟨h0, h1, c, vs, k, rfl, hc, hi⟩, rfl⟩, hk4⟩

theorem agree_none {w : World} {A : Around} {E : Value → Shared → Prop} {s : Shared} {b : Value} (G : Gd w s.heap) (hh : A.handled = none) (hd : A.depth < 900) :
    wpAny (MM w) A (call (.ref 150) [.none, .none, .none, b]) (fun v s' => Keeps s s' ∧ v = .bool true) E s := by
  refine call_pureK [(Str.ofString "due", .none), (Str.ofString "told", .none), (Str.ofString "laid", .none), (Str.ofString "bias", b)] [(Str.ofString "due", .none), (Str.ofString "told", .none), (Str.ofString "laid", .none)] (Str.ofString "bias") b
    G (by show _ < 1000; omega) (by rfl) (by rfl) (by rfl) (by rfl) (fun _ => rfl) (fun _ => rfl) (fun _ => List.forall_mem_cons.mpr ⟨rfl, List.forall_mem_cons.mpr ⟨rfl, List.forall_mem_cons.mpr ⟨rfl, List.forall_mem_nil _⟩⟩⟩) ?_
  intro L co s₁ hco S₁
  repeat walk_at "n"
  exact ⟨⟨_, _, S₁⟩, rfl⟩
theorem agree_some {w : World} {A : Around} {E : Value → Shared → Prop} {s : Shared} {b : Int} {t : Tok} {d a c : Addr} {dl tl kl : List Value} {n₁ n₂ n₃ : Nat} {ds ts : List Int} (G : Gd w s.heap) (hh : A.handled = none) (hd : A.depth + 2 < 900) (hu : A.units + 50 < 9000)
    (h1 : s.heap.get? d = some (lo dl n₁)) (i1 : IntsAre dl ds) (h2 : s.heap.get? a = some (lo tl n₂)) (i2 : IntsAre tl ts) (h3 : s.heap.get? c = some (lo kl n₃)) (i3 : Its (KeyAt b s.heap) kl ts)
    (hz : ts.length < 50) (hzd : ds.length < 50) (e1 : ts.take 2 = ds.take 2) (e2 : srt (ts.drop 2) = ds.drop 2) :
    wpAny (MM w) A (call (.ref 150) [.ref d, .ref a, .ref c, .int b t]) (fun v s' => Keeps s s' ∧ v = .bool true) E s := by
  refine call_pureK [(Str.ofString "due", .ref d), (Str.ofString "told", .ref a), (Str.ofString "laid", .ref c), (Str.ofString "bias", .int b t)] [(Str.ofString "due", .ref d), (Str.ofString "told", .ref a), (Str.ofString "laid", .ref c)] (Str.ofString "bias") (.int b t)
    G (by show _ < 1000; omega) (by rfl) (by rfl) (by rfl) (by rfl) (fun _ => rfl) (fun _ => rfl) (fun _ => List.forall_mem_cons.mpr ⟨rfl, List.forall_mem_cons.mpr ⟨rfl, List.forall_mem_cons.mpr ⟨rfl, List.forall_mem_nil _⟩⟩⟩) ?_
  intro L co s₁ hco S₁
  have l1 := i1.length
  have l2 := i2.length
  have l3 := i3.length
  have hu' : (A.deeper (envOfC (Str.ofString "_law_agree") default L 150 (.ref 149))).units < 9000 := by show A.units + 3 < 9000; omega
  repeat walk_at "n"
  refine At.compL (o := s) (h₀ := s.heap) (L := L) (cl := [(Str.ofString "bias", L + 1)]) (NumOf b s₁.heap) hh (by rfl) (by decide) rfl (by decide) (by rfl) ?_
  refine S₁.ldE (by rfl) ?_
  refine ⟨c, kl, n₃, _, _, rfl, S₁, S₁.keep _ _ h3, by omega, ?_, ?_⟩
  · intro C v s₃ m₃ E' hv hn hm hk
    obtain ⟨N, _, K⟩ := i3.mem hv
    exact numElt (S₁.gd G) hh (by show A.depth + 1 < 900; omega) hk hn hm (K.keeps S₁.keep) ⟨co, S₁.get (.head _), hco⟩ (by rfl) rfl rfl rfl rfl rfl
  · intro D ys k s₂ hp S₂ hD
    have iy := nums_of hp (i3.mono fun _ _ x => x.keeps S₁.keep)
    repeat walk_at "n"
    refine At.neL (S₂.get (.head _)) iy (S₂.keep _ _ h2) i2 hu' ?_
    rw [decide_eq_true rfl]
    repeat walk_at "n"
    refine ite_ff ?_
    repeat walk_at "n"
    rename_i S₃
    refine S₃.slice (S₃.keep _ _ h2) (by omega) .none (.int _ _) .none (by decide) (pick_upto tl 2) fun a₁ s₄ S₄ _ => ?_
    repeat walk_at "n"
    rename_i S₅
    refine S₅.slice (S₅.keep _ _ h1) (by omega) .none (.int _ _) .none (by decide) (pick_upto dl 2) fun a₂ s₆ S₆ _ => ?_
    refine At.eqL (S₆.get (.tail _ (.head _))) (take_ints i2 2) (S₆.get (.head _)) (take_ints i1 2) hu' ?_
    rw [decide_eq_true e1]
    repeat walk_at "n"
    refine (S₆.gd G).callbE (by rfl) (by rfl) (by decide) ?_
    repeat walk_at "n"
    rename_i S₇
    refine S₇.slice (S₇.keep _ _ h2) (by omega) (.int _ _) .none .none (by decide) (pick_from tl 2) fun a₃ s₈ S₈ _ => ?_
    repeat walk_at "n"
    refine S₈.sorted (S₈.get (.head _)) (drop_ints i2 2) (by rw [List.length_drop]; omega) fun a₄ c₄ vs₄ s₉ hi₉ S₉ _ => ?_
    repeat walk_at "n"
    rename_i S₁₀
    refine S₁₀.slice (S₁₀.keep _ _ h1) (by omega) (.int _ _) .none .none (by decide) (pick_from dl 2) fun a₅ s₁₁ S₁₁ _ => ?_
    refine At.eqL (S₁₁.get (.tail _ (.head _))) hi₉ (S₁₁.get (.head _)) (drop_ints i1 2) hu' ?_
    rw [decide_eq_true e2]
    repeat walk_at "n"
    exact ⟨⟨_, _, S₁₁⟩, rfl⟩

end
section -- NbLi
theorem tr_sliceRange (m : Nat) : sliceRange (m : Int) 0 (-1) = (List.range m).map fun k => m - k := by
  unfold sliceRange
  have h1 : ¬ ((-1 : Int) > 0) := by decide
  by_cases h : (m : Int) > 0
  · have e : ((m : Int) - 0 - -1 - 1) / (- -1) = (m : Int) := by
      rw [show (- -1 : Int) = 1 by decide, Int.ediv_one]
      omega
    simp only [h1, if_false, h, if_true, e, Int.toNat_natCast]
    apply List.map_congr_left
    intro k hk
    have := List.mem_range.mp hk
    omega
  · have e : m = 0 := by omega
    subst e
    simp
theorem tr_range (m : Nat) : (List.range m).map (fun k => m - k) = ((List.range m).map (· + 1)).reverse := by
  apply List.ext_getElem
  · simp
  · intro i h1 h2
    simp at h1
    rw [List.getElem_map, List.getElem_reverse]
    simp
    exact (o_backS h1).symm
theorem pick_tailrev (x : Value) (r : List Value) : (slicePick (x :: r).toArray none (some 0) (some (-1))).toList = r.reverse := by
  unfold slicePick
  have e : sliceBounds none (some 0) (some (-1)) (x :: r).toArray.size = ((r.length : Int), 0, -1) := by
    simp [sliceBounds]
    omega
  rw [e]
  show ((sliceRange (r.length : Int) 0 (-1)).filterMap ((x :: r).toArray[·]?)) = _
  rw [tr_sliceRange, tr_range, List.filterMap_reverse, List.filterMap_map]
  have h := krv_all r.toArray
  simp only [List.size_toArray] at h
  rw [show List.filterMap ((fun i => (x :: r).toArray[i]?) ∘ (· + 1)) (List.range r.length) = List.filterMap (fun i => r.toArray[i]?) (List.range r.length) from by
    congr 1; funext i; simp]
  rw [h]
section
variable {prog : Program} {w : World} {A : Around} {E : Value → Shared → Prop} {s o : Shared} {L a : Addr} {h₀ : Heap} {l : List (Str × Value)} {news : List (Addr × Obj)} {vs : List Value} {n i : Nat} {v : Value}
def LIt (ax : Addr) (i : Nat) (ob : Obj) : Prop := ob.cls = .type "list_iterator" ∧ ob.data = .fields #[.ref ax, .int i 0]
theorem At.iterList {Q : Value → Shared → Prop} (S : At o h₀ L l news s) (ha : s.heap.get? a = some (lo vs n))
    (h : ∀ it ob s', LIt a 0 ob → At o h₀ L l ((it, ob) :: news) s' → (∀ p ∈ news, p.1 ≠ it) → Q (.ref it) s') : wpAny (model prog w) A (pyIter (.ref a)) Q E s :=
  wpAny_pyIter_list (isListOf ha) (h _ _ _ ⟨rfl, rfl⟩ (S.push _ s.toks) S.newAddr)
theorem At.nextList {it : Addr} {ob : Obj} {Q : Option Value → Shared → Prop} (S : At o h₀ L l ((it, ob) :: news) s) (hob : LIt a i ob) (hne : ∀ p ∈ news, p.1 ≠ it) (ha : s.heap.get? a = some (lo vs n)) (hx : vs[i]? = some v)
    (h : ∀ ob' s', LIt a (i + 1) ob' → At o h₀ L l ((it, ob') :: news) s' → Q (some v) s') : wpAny (model prog w) A (pyNext (.ref it)) Q E s := by
  refine wpAny_pyNext_list_item ⟨ob, S.get (.head _), hob.1, hob.2⟩ (isListOf ha) (by simpa using hx) fun h' hit hs => ?_
  obtain ⟨ob', e, h1, h2⟩ := hit
  exact h ob' _ ⟨h1, h2⟩ (S.upd (tk := s.toks) hne hs e)
theorem At.doneList {it : Addr} {ob : Obj} {Q : Option Value → Shared → Prop} (S : At o h₀ L l ((it, ob) :: news) s) (hob : LIt a i ob) (hne : ∀ p ∈ news, p.1 ≠ it) (ha : s.heap.get? a = some (lo vs n)) (hx : vs.length ≤ i) (hh : A.handled = none)
    (h : ∀ s', At o h₀ L l news s' → Q none s') : wpAny (model prog w) A (pyNext (.ref it)) Q E s := by
  refine wpAny_pyNext_list_end hh ⟨ob, S.get (.head _), hob.1, hob.2⟩ (isListOf ha) (by simpa using hx) fun h' he => h _ ?_
  obtain ⟨⟨m, F, hm⟩, N, R⟩ := S
  have z := N _ (.head _)
  refine ⟨⟨m, ⟨F.ns.extBut he (Ne.symm z.2.1), fun b x e => he b x (fun q => ?_) (F.keep b x e), F.above⟩, hm⟩, fun p hp => ⟨he _ _ (hne p hp) (N p (.tail _ hp)).1, (N p (.tail _ hp)).2⟩, R.trans ⟨rfl, rfl, rfl⟩⟩
  have := z.2.2
  rw [← q] at this
  rw [this] at e; cases e
theorem At.extend {b : Addr} {us : List Value} {k : Nat} {Q : Value → Shared → Prop} (S : At o h₀ L l ((a, lo vs n) :: news) s) (ha : ∀ p ∈ news, p.1 ≠ a) (hb : (b, lo us k) ∈ news) (hz : vs.length < 1000) (hz' : us.length < 1000) (hne : us.length ≠ 0)
    (h : ∀ n' s', At o h₀ L l ((a, lo (vs ++ us) n') :: news) s' → Q .none s') : wpAny (model prog w) A (call (.builtin "list.extend") [.ref a, .ref b]) Q E s := by
  obtain ⟨⟨m, F, hm⟩, N, R⟩ := S
  exact kl_extend F N (.tail _ hb) rfl (by simpa using hne) (.head ha) (fun q => by
    simp only [Builtin.List.listTooLong, List.size_toArray, Bool.and_eq_true, decide_eq_true_eq, PySem.sizeLine_eq] at q
    omega) (by show _ ≤ 2 ^ 24; simp; omega) (by show _ ≤ 2 ^ 24 + 1; simp; omega) (fun h' F' N' => h _ _ ⟨⟨m, F', hm⟩, N', R.trans ⟨rfl, rfl, rfl⟩⟩)
end

end
section -- NbAl
def ef (b N : Int) : List Int := (gg b N 0).map enc
theorem ef_rng {b N : Int} (h0 : 0 ≤ N) : ∀ k ∈ ef b N, 0 ≤ k ∧ k < 256 := by
  intro k hk
  obtain ⟨f, hf, rfl⟩ := List.mem_map.mp hk
  have := gg_rng b _ N 0 rfl h0 f hf
  unfold enc; split <;> omega
theorem fm_len {b : Int} {ns : List Int} (h : ∀ N ∈ ns, 0 ≤ N ∧ N < 10 ^ 9) : (ns.flatMap (ef b)).length ≤ 10 * ns.length := by
  induction ns with
  | nil => simp
  | cons N r ih =>
    have h1 := ih fun N hN => h N (.tail _ hN)
    have h2 := gg_len b 9 N 0 (h N (.head _)).1 (h N (.head _)).2
    have h3 : (ef b N).length = (gg b N 0).length := List.length_map ..
    rw [List.flatMap_cons, List.length_append, List.length_cons]
    omega
theorem fm_take {b : Int} {ns : List Int} {i : Nat} {N : Int} (h : ns[i]? = some N) : (ns.take (i + 1)).flatMap (ef b) = (ns.take i).flatMap (ef b) ++ ef b N := by
  rw [List.take_add_one, h, List.flatMap_append]; simp
theorem fm_split {b : Int} {ns : List Int} {i : Nat} {N : Int} (h : ns[i]? = some N) : ns.flatMap (ef b) = (ns.take i).flatMap (ef b) ++ (gg b N 0).map enc ++ (ns.drop (i + 1)).flatMap (ef b) := by
  conv => lhs; rw [← List.take_append_drop (i + 1) ns, List.flatMap_append, fm_take h]
  rfl
theorem neT {prog : Program} {w : World} {A : Around} {E : Value → Shared → Prop} {s : Shared} {a b : Addr} {i j k m : Int} {t₁ t₂ t₃ t₄ : Tok} {Q : Value → Shared → Prop} (ha : s.heap.get? a = some (tup [.int i t₁, .int j t₂])) (hb : s.heap.get? b = some (tup [.int k t₃, .int m t₄])) (hu : A.units < 9000)
    (e1 : i = k) (e2 : j = m) (h : Q (.bool false) s) : wpAny (model prog w) A (compareOp .NotEq (.ref a) (.ref b)) Q E s := by
  have ra : Reads s.heap (.ref a) (.tuple [.int i, .int j]) ([] ++ ([] ++ [])) := Reads.tuple ha rfl rfl (.cons (.int i t₁) (.cons (.int j t₂) .nil))
  have rb : Reads s.heap (.ref b) (.tuple [.int k, .int m]) ([] ++ ([] ++ [])) := Reads.tuple hb rfl rfl (.cons (.int k t₃) (.cons (.int m t₄) .nil))
  subst e1 e2
  refine ne_dataH_same ra rb rfl rfl (by show _ < 9900; omega) ?_ ?_
  · simp [PySem.SeqAt.noMix, PySem.SeqAt.noMixAll]
  · simpa [PySem.Spec.same, PySem.Spec.sameAll] using h
def EncOf (v y : Value) : Prop := ∃ k t u, v = .int k t ∧ y = .int (enc k) u
theorem Its.getN {I : Value → Int → Prop} {vs : List Value} {ns : List Int} (h : Its I vs ns) {i : Nat} {N : Int} (e : ns[i]? = some N) : ∃ v, vs[i]? = some v ∧ I v N := by
  induction h generalizing i with
  | nil => cases e
  | cons hv _ ih =>
    cases i with
    | zero => cases e; exact ⟨_, rfl, hv⟩
    | succ i => exact ih e

end
section -- NbAm
theorem ldCellE {M : Model} {A : Around} {E : Value → Shared → Prop} {s : Shared} {env : Env} {x : Str} {pos : Pos} {c : Addr} {co : Obj} {v : Value} {Q : Value → Shared → Prop} (h1 : s.heap.get? c = some co) (h2 : co.data = .cell (some v)) (h : Q v s)
    (hc : env.cells.lookup x = some c := by rfl) (hk : env.scope.kind = .function := by rfl) (hl : env.kindOf x = some .cell := by rfl) (hd : (x == ("__debug__" : Str)) = false := by decide) : wpAny M A (eval (.Name x pos) env) Q E s :=
  wpAny_Name (wpAny_loadName_cell hk hl hc ⟨co, h1, h2⟩ h) hd
set_option maxHeartbeats 2000000 in
theorem alike_spec {w : World} {A : Around} {E : Value → Shared → Prop} {s : Shared} {b : Int} {t : Tok} {a c : Addr} {hl kl : List Value} {n₁ n₂ : Nat} {ns : List Int} (G : Gd w s.heap) (hh : A.handled = none) (hd : A.depth + 3 < 900) (hu : A.units + 50 < 9000)
    (h1 : s.heap.get? a = some (lo hl n₁)) (i1 : IntsAre hl ns) (h2 : s.heap.get? c = some (lo kl n₂)) (i2 : Its (KeyAt b s.heap) kl ns) (hz : ns.length < 50) (ho : ∀ p, p < ns.length → ns.getD ((p - 1) / 2) 0 ≤ ns.getD p 0) :
    wpAny (MM w) A (call (.ref 155) [.ref a, .ref c, .int b t]) (fun v s' => Keeps s s' ∧ v = .bool true) E s := by
  refine call_pureK [(Str.ofString "heap", .ref a), (Str.ofString "keys", .ref c), (Str.ofString "bias", .int b t)] [(Str.ofString "heap", .ref a), (Str.ofString "keys", .ref c)] (Str.ofString "bias") (.int b t)
    G (by show _ < 1000; omega) (by rfl) (by rfl) (by rfl) (by rfl) (fun _ => rfl) (fun _ => rfl) (fun _ => List.forall_mem_cons.mpr ⟨rfl, List.forall_mem_cons.mpr ⟨rfl, List.forall_mem_nil _⟩⟩) ?_
  intro L co s₁ hco S₁
  have l1 := i1.length
  have l2 := i2.length
  have hu' : (A.deeper (envOfC (Str.ofString "_law_alike") default L 155 (.ref 154))).units < 9000 := by show A.units + 3 < 9000; omega
  have hrg : ∀ N ∈ ns, 0 ≤ N ∧ N < 10 ^ 9 := fun N hN => by
    clear hz ho l1 l2 h1 h2 i1 S₁
    induction i2 with
    | nil => cases hN
    | cons hv _ ih =>
      rcases List.mem_cons.mp hN with rfl | hN
      · exact ⟨hv.1, hv.2.1⟩
      · exact ih hN
  have hfl := fm_len (b := b) hrg
  repeat walk_at "n"
  refine At.compL (o := s) (h₀ := s.heap) (L := L) (cl := [(Str.ofString "bias", L + 1)]) (NumOf b s₁.heap) hh (by rfl) (by decide) rfl (by decide) (by rfl) ?_
  refine S₁.ldE (by rfl) ?_
  refine ⟨c, kl, n₂, _, _, rfl, S₁, S₁.keep _ _ h2, by omega, ?_, ?_⟩
  · intro C v s₃ m₃ E' hv hn hm hk
    obtain ⟨N, _, K⟩ := i2.mem hv
    exact numElt (S₁.gd G) hh (by show A.depth + 1 < 900; omega) hk hn hm (K.keeps S₁.keep) ⟨co, S₁.get (.head _), hco⟩ (by rfl) rfl rfl rfl rfl rfl
  intro D ys k s₂ hp S₂ hD
  have iy := nums_of hp (i2.mono fun _ _ x => x.keeps S₁.keep)
  repeat walk_at "n"
  refine At.neL (S₂.get (.head _)) iy (S₂.keep _ _ h1) i1 hu' ?_
  rw [decide_eq_true rfl]
  repeat walk_at "n"
  refine ite_ff ?_
  have S₂ := S₂.less (news' := [(L + 1, co)]) (fun p hp => .tail _ hp)
  repeat walk_at "n"
  refine S₂.newList (vs := []) (by simp) fun oc s₃ S₃ hoc => ?_
  repeat walk_at "m"
  rename_i S₄
  refine cutNext (fun s' => ∃ (ov : List Value) (k : Nat), IntsAre ov (ns.flatMap (ef b)) ∧ At s s.heap L [(Str.ofString "heap", .ref a), (Str.ofString "keys", .ref c), (Str.ofString "octets", .ref oc)] [(oc, lo ov k), (L + 1, co)] s') (aFor ?_) ?_
  · refine S₄.ldE (by rfl) ?_
    refine S₄.iterList (S₄.keep _ _ h2) fun it ob s₅ hob S₅ hit => ?_
    refine ⟨fun q s' => ∃ (i : Nat) (ob : Obj) (ov : List Value) (k : Nat), q + i = ns.length ∧ LIt c i ob ∧ IntsAre ov ((ns.take i).flatMap (ef b)) ∧
      At s s.heap L [(Str.ofString "heap", .ref a), (Str.ofString "keys", .ref c), (Str.ofString "octets", .ref oc)] [(it, ob), (oc, lo ov k), (L + 1, co)] s', ns.length, ⟨0, ob, [], 0, rfl, hob, .nil, S₅.dropR rfl⟩, ?_⟩
    intro q s₆ zh
    refine hideG ?_
    intro zg
    obtain ⟨i, ob, ov, k, hqi, hob, hov, S₆⟩ := zh
    have hit' : ∀ p ∈ [(oc, lo ov k), (L + 1, co)], p.1 ≠ it := by
      intro p hp
      rcases List.mem_cons.mp hp with rfl | hp
      · exact hit (oc, lo [] 0) (.head _)
      · exact hit p (.tail _ hp)
    have hovl := hov.length
    have htl := fm_len (b := b) (ns := ns.take i) (fun N hN => hrg N (List.mem_of_mem_take hN))
    have htl' := List.length_take_le i ns
    by_cases hq : q = 0
    · refine S₆.doneList hob hit' (S₆.keep _ _ h2) (by omega) hh fun s₇ S₇ => ?_
      rw [List.take_of_length_le (by omega)] at hov
      exact ⟨rfl, ov, k, hov, S₇⟩
    · have hN : ns[i]? = some (ns[i]'(o_lt hqi hq)) := List.getElem?_eq_getElem _
      generalize ns[i]'(o_lt hqi hq) = N at hN
      obtain ⟨v, hv, K⟩ := i2.getN hN
      obtain ⟨hN0, hN1, kc, kvs, kk, rfl, hkc, hki⟩ := K
      refine S₆.nextList hob hit' (S₆.keep _ _ h2) hv fun ob' s₇ hob' S₇ => ?_
      refine assign_Name ?_
      repeat walk_at "n"
      rename_i S₈
      refine MethodCall_ ?_
      repeat walk_at "n"
      refine At.method (S₈.get (.tail _ (.head _))) PySem.F.slot_list_extend PySem.F.type_list_extend ?_
      refine callWith_method1 ?_
      refine args_cons ?_
      refine At.compL (o := s) (h₀ := s.heap) (L := L) (cl := []) EncOf hh (by rfl) (by decide) rfl (by decide) (by rfl) ?_
      repeat walk_at "n"
      rename_i S₉
      have hkl := hki.length
      rw [keyOf, List.length_cons, List.length_reverse] at hkl
      have hgl := gg_len b 9 N 0 hN0 hN1
      have hgn := gg_ne b N 0
      obtain ⟨kx, kr, rfl⟩ : ∃ kx kr, kvs = kx :: kr := by
        cases kvs with
        | nil => cases hkl
        | cons x r => exact ⟨x, r, rfl⟩
      have hkr : IntsAre kr.reverse (gg b N 0) := by
        cases hki with
        | cons _ _ h => have := rev_ints h; rwa [List.reverse_reverse] at this
      have hkrl := hkr.length
      refine S₉.slice (S₉.keep _ _ hkc) (by omega) .none (.int _ _) (.int _ _) (by decide) (pick_tailrev kx kr) fun sl s₁₀ S₁₀ hsl => ?_
      refine ⟨sl, kr.reverse, 0, _, _, rfl, S₁₀, S₁₀.get (.head _), by omega, ?_, ?_⟩
      · intro C v s₃ m₃ E' hv hn hm hk
        obtain ⟨f, t, rfl⟩ : ∃ f t, v = .int f t := by
          clear hkrl
          have : ∀ {vs : List Value} {ks : List Int}, IntsAre vs ks → v ∈ vs → ∃ f t, v = .int f t := by
            intro vs ks h hv
            induction h with
            | nil => cases hv
            | cons n t _ ih =>
              rcases List.mem_cons.mp hv with rfl | hv
              · exact ⟨_, _, rfl⟩
              · exact ih hv
          exact this hkr hv
        refine wpAny_IfExp (wpAny_isTrue_Compare1 (ldVarK hn hm (wpAny_Constant_int (lt_int (wpAny_truthy_bool ?_)))))
        refine split_dec (fun h => ?_) (fun h => ?_)
        · refine wpAny_BinOp (wpAny_Constant_int (wpAny_Name (wpAny_loadName_local rfl rfl hn hm (add_int ⟨⟨_, _, _, rfl, by rw [enc, if_pos h]⟩, _, _, rfl, fun _ _ e => e⟩)) (by decide)))
        · refine wpAny_BinOp (wpAny_Constant_int (wpAny_Name (wpAny_loadName_local rfl rfl hn hm (add_int ⟨⟨_, _, _, rfl, by rw [enc, if_neg h]⟩, _, _, rfl, fun _ _ e => e⟩)) (by decide)))
      · intro D₂ ys₂ k₂ s₁₁ hp₂ S₁₁ hD₂
        have iy₂ : IntsAre ys₂ (ef b N) := paired_ints (g := enc) hp₂ hkr
        have iyl := iy₂.length
        have efl : (ef b N).length = (gg b N 0).length := List.length_map ..
        repeat walk_at "n"
        have S₁₂ := S₁₁.lessR (news' := [(oc, lo ov k), (D₂, lo ys₂ k₂), (it, ob'), (L + 1, co)]) [3, 0, 2, 4] rfl
        refine S₁₂.extend (List.forall_mem_cons.mpr ⟨Ne.symm (hD₂ _ (.tail _ (.tail _ (.head _)))), List.forall_mem_cons.mpr ⟨Ne.symm (hit' _ (.head _)), List.forall_mem_cons.mpr ⟨hoc _ (.head _), List.forall_mem_nil _⟩⟩⟩) (.head _) (by omega) (by omega) (by omega) fun n' s₁₃ S₁₃ => ?_
        repeat walk_at "n"
        refine ⟨q - 1, o_pred hq, i + 1, ob', ov ++ ys₂, n', o_next hqi hq, hob', ?_, (S₁₃.dropR rfl).lessR [2, 0, 3] rfl⟩
        rw [fm_take hN]
        exact app_ints hov iy₂
  · intro s₅ zh
    refine hideG ?_
    intro zg
    obtain ⟨ov, k, hov, S₅⟩ := zh
    have hovl := hov.length
    have hin : KBa.In (ns.flatMap (ef b)) := fun x hx => by
      obtain ⟨N, hN, hx⟩ := List.mem_flatMap.mp hx
      exact ef_rng (hrg N hN).1 x hx
    repeat walk_at "m"
    rename_i S₆
    refine cutNext (fun s' => ∃ l news, At s s.heap L l news s') (aFor ?_) ?_
    · refine (S₆.gd G).calltE (by rfl) (by rfl) (by decide) ?_
      repeat walk_at "n"
      refine (S₆.gd G).callbE (by rfl) (by rfl) (by decide) ?_
      repeat walk_at "n"
      refine S₆.len (S₆.keep _ _ h1) (by omega) fun t₇ s₇ S₇ => ?_
      rw [l1]
      repeat walk_at "n"
      refine S₇.range fun r t₈ v₈ s₈ S₈ hr => ?_
      refine S₈.iterRange (S₈.get (.head _)) (by omega) fun it s₉ S₉ hit => ?_
      have hit' : ∀ p ∈ [(oc, lo ov k), (L + 1, co)], p.1 ≠ it := fun p hp => hit p (.tail _ hp)
      refine ⟨fun q s' => ∃ (i : Nat) (t₁ : Tok), q + i = ns.length ∧ At s s.heap L [(Str.ofString "heap", .ref a), (Str.ofString "keys", .ref c), (Str.ofString "octets", .ref oc), (Str.ofString "at", .int ((ns.take i).flatMap (ef b)).length t₁)] [(it, rit i q 1), (oc, lo ov k), (L + 1, co)] s', ns.length,
        ⟨0, _, rfl, (S₉.dropR rfl).lessR [0, 2, 3] rfl⟩, ?_⟩
      intro q s₁₀ zh
      refine hideG ?_
      intro zg
      obtain ⟨i, t₁, hqi, S₁₀⟩ := zh
      by_cases hq : q = 0
      · subst hq
        refine S₁₀.doneRange hit' hh (by simp) fun s₁₁ S₁₁ => ?_
        exact ⟨rfl, _, _, S₁₁⟩
      · have hN : ns[i]? = some (ns[i]'(o_lt hqi hq)) := List.getElem?_eq_getElem _
        have hNd : ns.getD i 0 = ns[i]'(o_lt hqi hq) := by rw [List.getD_eq_getElem?_getD, hN]; rfl
        have hpl : (i - 1) / 2 < ns.length := o_half (o_lt hqi hq)
        have hP : ns[(i - 1) / 2]? = some (ns[(i - 1) / 2]'hpl) := List.getElem?_eq_getElem _
        have hPd : ns.getD ((i - 1) / 2) 0 = ns[(i - 1) / 2]'hpl := by rw [List.getD_eq_getElem?_getD, hP]; rfl
        have hle := ho i (o_lt hqi hq)
        rw [hNd, hPd] at hle
        generalize ns[i]'(o_lt hqi hq) = N at hN hle
        generalize ns[(i - 1) / 2]'hpl = P at hP hle
        clear hNd hPd
        obtain ⟨v, hv, K⟩ := i2.getN hN
        obtain ⟨hN0, hN1, kc, kvs, kk, rfl, hkc, hki⟩ := K
        obtain ⟨tN, hvN⟩ := ints_get i1 hN
        obtain ⟨tP, hvP⟩ := ints_get i1 hP
        obtain ⟨tk, hvk⟩ := ints_get hki (i := 0) rfl
        have hkl := hki.length
        rw [keyOf, List.length_cons, List.length_reverse] at hkl
        have hgl := gg_len b 9 N 0 hN0 hN1
        refine S₁₀.nextRange hit' (o_pos hq) fun t₁₁ s₁₁ S₁₁ => ?_
        refine assign_Name ?_
        repeat walk_at "n"
        rename_i S₁₂
        refine At.itemN (S₁₂.keep _ _ h1) (by omega) hvN ?_
        repeat walk_at "n"
        refine (S₁₂.gd G).callbE (by rfl) (by rfl) (by decide) ?_
        repeat walk_at "n"
        rename_i S₁₃
        refine S₁₃.floordiv (k := ((i : Int) - 1) / 2) (by decide) (by decide) (Int.fdiv_eq_ediv_of_nonneg _ (by decide)) fun t₁₄ s₁₄ S₁₄ => ?_
        repeat walk_at "n"
        refine S₁₄.max2 (k := (((i - 1) / 2 : Nat) : Int)) hh (o_max i) fun t₁₅ s₁₅ S₁₅ => ?_
        refine At.itemN (S₁₅.keep _ _ h1) (by omega) hvP ?_
        repeat walk_at "n"
        rw [decide_eq_false (Int.not_lt.mpr hle)]
        refine ite_ff ?_
        repeat walk_at "n"
        refine At.itemN (S₁₅.keep _ _ h2) (by omega) hv ?_
        repeat walk_at "n"
        rename_i S₁₆
        refine kba_turn (value' := PySem.Expr.Name (PySem.Str.ofString "_") ⟨0, 0, 0, 0⟩) (fun _ => rfl) ?_
        refine At.itemI 0 rfl (S₁₆.keep _ _ hkc) (by omega) hvk ?_
        repeat walk_at "n"
        rename_i S₁₇
        refine (S₁₇.gd G).callfE (f := 35) (by rfl) (by rfl) ?_
        repeat walk_at "n"
        refine (S₁₇.gd G).calltE (by rfl) (by rfl) (by decide) ?_
        repeat walk_at "n"
        refine call_bytes_ints (isListOf (S₁₇.get (.tail _ (.head _)))) hov hin (by show _ ≤ 2 ^ 24; omega) hh fun h' t₁₈ k₁₈ hk₁₈ => ?_
        have S₁₈ := S₁₇.keptH (tk := k₁₈) hk₁₈
        repeat walk_at "n"
        refine ldCellE (S₁₈.get (.tail _ (.tail _ (.head _)))) hco ?_
        repeat walk_at "n"
        refine Constant_str ?_
        have S₁₉ := S₁₈.toks (k₁₈ + 1)
        repeat walk_at "n"
        refine ⟨S₁₉.gd G, ?_⟩
        have hb : KBw.bInts (byteArr (ns.flatMap (ef b))) = ns.flatMap (ef b) := KBa.ints_make hin
        refine wpAny_mono (decode_spec (N := N) (pre := (ns.take i).flatMap (ef b)) (post := (ns.drop (i + 1)).flatMap (ef b)) (S₁₉.gd G) hh (by show A.depth + 1 + 1 < 900; omega) hN0 hN1 (by rw [hb]; exact fm_split hN) (by rw [hb]; omega) rfl) ?_ (fun _ _ x => x)
        rintro _ s₂₀ ⟨hk20, T₁, u₁, u₂, rfl, hT0, hT1⟩
        obtain ⟨S₂₀, hT₁⟩ := S₁₉.kept1 hk20 hT0 hT1
        repeat walk_at "n"
        refine At.itemN (S₂₀.keep _ _ h1) (by omega) hvN ?_
        repeat walk_at "n"
        refine S₂₀.newTuple (by simp) fun T₂ s₂₁ S₂₁ hT₂ => ?_
        refine neT (S₂₁.get (.tail _ (.head _))) (S₂₁.get (.head _)) hu' rfl rfl ?_
        repeat walk_at "n"
        rename_i S₂₂
        have e1 : ((((ns.take i).flatMap (ef b)).length : Nat) : Int) + ((gg b N 0).length : Nat) = (((ns.take (i + 1)).flatMap (ef b)).length : Nat) := by
          rw [fm_take hN, List.length_append, ef, List.length_map]; omega
        rw [e1, o_succ i, o_cast hq] at S₂₂
        exact ⟨q - 1, o_pred hq, i + 1, _, o_next hqi hq, (S₂₂.dropR rfl).less (fun p hp => .tail _ (.tail _ hp))⟩
    · rintro s₇ ⟨l, news, S₇⟩
      repeat walk_at "n"
      exact ⟨⟨_, _, S₇⟩, rfl⟩

end
section -- NbLt
theorem cmp_ofLt' {M : Model} {A : Around} {E : Value → Shared → Prop} {s : Shared} {a b : Value} {Q : Value → Shared → Prop} (h : wpAny M A (compareOp .Lt a b) Q E s) : wpAny M A (richCompare .Lt a b) Q E s := h
def lexl : List Int → List Int → Bool
  | [], [] => false
  | [], _ :: _ => true
  | _ :: _, [] => false
  | x :: xs, y :: ys => if x = y then lexl xs ys else decide (x < y)
theorem lexl_nil (ms : List Int) : lexl [] ms = decide (0 < ms.length) := by cases ms <;> rfl
theorem lexl_nil' (ns : List Int) : lexl ns [] = false := by cases ns <;> rfl
open AutoSeq1 (wpAny_loadPart') in
open MeetsSeq MeetsSeq2 MeetsSeq3 PySem.SeqAt in
theorem lt_loopAt (l b : Addr) (vs us : List Value) (n n2 : Nat) (ns ms : List Int) (hi : IntsAre vs ns) (hj : IntsAre us ms) (k : Nat) :
    ∀ i : Nat, ns.length - i = k → i ≤ ns.length → i ≤ ms.length → Meets (Builtin.«list.__eq__.loop» ⟨[.ref l, .ref b, rawInt i, rawInt 0], []⟩)
      (fun A R s => s.heap.get? l = some (lo vs n) ∧ s.heap.get? b = some (lo us n2) ∧ R (.ok (.ret (.bool (lexl (ns.drop i) (ms.drop i))))) s) := by
  have l1 := hi.length
  have l2 := hj.length
  induction k with
  | zero =>
    intro i hk h1 h2 prog w A R s h
    obtain ⟨hp, g, d, tk, os⟩ := s; obtain ⟨hl, hb, h⟩ := h
    wp_walk using wpAny_loadPart' hl, wpAny_loadPart' hb
    have hi1 : vs.toArray[((i : Nat) : Int).toNat]? = none := by simp; omega
    rw [hi1]
    wp_walk using wpAny_loadPart' hl, wpAny_loadPart' hb
    show R (.ok (.ret (.bool (decide (vs.toArray.size < us.toArray.size))))) _
    rw [List.drop_of_length_le (by omega), lexl_nil, List.length_drop] at h
    rw [List.size_toArray, List.size_toArray, show decide (vs.length < us.length) = decide (0 < ms.length - i) from decide_eq_decide.mpr (by omega)]
    exact h
  | succ k ih =>
    intro i hk h1 h2 prog w A R s h
    obtain ⟨hp, g, d, tk, os⟩ := s; obtain ⟨hl, hb, h⟩ := h
    wp_walk using wpAny_loadPart' hl, wpAny_loadPart' hb
    have hlt : i < ns.length := by omega
    obtain ⟨t₁, hx⟩ := ints_get hi (List.getElem?_eq_getElem hlt)
    have hi1 : vs.toArray[((i : Nat) : Int).toNat]? = some (.int ns[i] t₁) := by simpa using hx
    rw [hi1]
    by_cases hlt2 : i < ms.length
    · obtain ⟨t₂, hy⟩ := ints_get hj (List.getElem?_eq_getElem hlt2)
      have hi2 : us.toArray[((i : Nat) : Int).toNat]? = some (.int ms[i] t₂) := by simpa using hy
      rw [hi2]
      rw [List.drop_eq_getElem_cons hlt, List.drop_eq_getElem_cons hlt2, lexl] at h
      have hc : ((i : Int) + 1) = ((i + 1 : Nat) : Int) := by push_cast; rfl
      refine wpAny_bind (EqAt.int_int ns[i] t₁ ms[i] t₂ prog w _ _ ?_)
      by_cases he : ns[i] = ms[i]
      · rw [if_pos he] at h
        rw [show (ns[i] == ms[i]) = true from beq_iff_eq.mpr he]
        wp_walk
        rw [hc]
        exact ⟨plainId_quiet plain_eq_loop _, codeAny_builtin entry_eq_loop (by
          rw [Around.under_plainId plain_eq_loop _]
          exact ih (i + 1) (by omega) (by omega) (by omega) prog w A R _ ⟨hl, hb, h⟩)⟩
      · rw [if_neg he] at h
        rw [show (ns[i] == ms[i]) = false from beq_eq_false_iff_ne.mpr he]
        wp_walk using wpAny_loadPart' hl, wpAny_loadPart' hb
        rw [hi1, hi2]
        refine wpAny_bind (cmp_ofLt' (PyProof.Rows.lt_int ?_))
        wp_walk
        exact h
    · have hi2 : us.toArray[((i : Nat) : Int).toNat]? = none := by simp; omega
      rw [hi2]
      wp_walk using wpAny_loadPart' hl, wpAny_loadPart' hb
      show R (.ok (.ret (.bool (decide (vs.toArray.size < us.toArray.size))))) _
      rw [List.drop_of_length_le (l := ms) (by omega), lexl_nil'] at h
      rw [List.size_toArray, List.size_toArray, show decide (vs.length < us.length) = false from decide_eq_false (by omega)]
      exact h
open AutoSeq1 (wpAny_loadPart') in
open MeetsSeq MeetsSeq2 MeetsSeq3 PySem.SeqAt in
theorem list_ltAt (l b : Addr) (vs us : List Value) (n n2 : Nat) (ns ms : List Int) (hi : IntsAre vs ns) (hj : IntsAre us ms) :
    Meets (Builtin.«list.__lt__» ⟨[.ref l, .ref b], []⟩)
      (fun A R s => s.heap.get? l = some (lo vs n) ∧ s.heap.get? b = some (lo us n2) ∧ R (.ok (.ret (.bool (lexl ns ms)))) s) := by
  intro prog w A R s h
  obtain ⟨hp, g, d, tk, os⟩ := s; obtain ⟨hl, hb, h⟩ := h
  have f3 := AutoSeq1.sub_list_list
  wp_walk using wpAny_loadPart' hl, wpAny_loadPart' hb
  exact ⟨plainId_quiet plain_eq_loop _, codeAny_builtin entry_eq_loop (by
    rw [Around.under_plainId plain_eq_loop _]
    exact lt_loopAt l b vs us n n2 ns ms hi hj _ 0 rfl (Nat.zero_le _) (Nat.zero_le _) prog w A R _ ⟨hl, hb, h⟩)⟩
theorem ltLists {prog : Program} {w : World} {A : Around} {E : Value → Shared → Prop} {s : Shared} {l b : Addr} {vs us : List Value} {n n2 : Nat} {ns ms : List Int} {Q : Value → Shared → Prop} (hl : s.heap.get? l = some (lo vs n)) (hb : s.heap.get? b = some (lo us n2)) (hi : IntsAre vs ns) (hj : IntsAre us ms)
    (hu : A.units < 9000) (h : Q (.bool (lexl ns ms)) s) : wpAny (model prog w) A (compareOp .Lt (.ref l) (.ref b)) Q E s := by
  refine cmp_ofLt ?_
  exact richCompare_meets_room (op := .Lt) ⟨_, hl, rfl⟩ ⟨_, hb, rfl⟩ F.slot_list_lt F.entry_list_lt (F.args_list_lt_2 _ _) (list_ltAt l b vs us n n2 ns ms hi hj)
    ⟨hl, hb, show Value.bool (lexl ns ms) ≠ Value.notImplemented ∧ Q (.bool (lexl ns ms)) s from ⟨(fun x => nomatch x), h⟩⟩ (by show _ < 9900; omega)

end
section -- NbLx
theorem lexl_snoc : ∀ {xs ys : List Int} {a c : Int}, xs.length = ys.length → lexl (xs ++ [a]) (ys ++ [c]) = if xs = ys then decide (a < c) else lexl xs ys
  | [], [], a, c, _ => by
    show (if a = c then false else decide (a < c)) = _
    rw [if_pos rfl]
    split
    · exact (decide_eq_false (by omega)).symm
    · rfl
  | [], _ :: _, _, _, h => by cases h
  | _ :: _, [], _, _, h => by cases h
  | x :: xs, y :: ys, a, c, h => by
    show (if x = y then lexl (xs ++ [a]) (ys ++ [c]) else decide (x < y)) = _
    rw [lexl_snoc (xs := xs) (ys := ys) (Nat.succ.inj h)]
    by_cases e : x = y
    · subst e
      rw [if_pos rfl]
      by_cases e' : xs = ys
      · subst e'; rw [if_pos rfl, if_pos rfl]
      · rw [if_neg e', if_neg (fun q => e' (List.cons.inj q).2)]
        show _ = (if x = x then lexl xs ys else _)
        rw [if_pos rfl]
    · rw [if_neg e, if_neg (fun q => e (List.cons.inj q).1)]
      show _ = (if x = y then lexl xs ys else _)
      rw [if_neg e]
def klt (x y : List Int) : Bool := if x.length = y.length then lexl x.reverse y.reverse else decide (x.length < y.length)
theorem klt_key (x y : List Int) : lexl (keyOf x) (keyOf y) = klt x y := by
  show (if (x.length : Int) = y.length then lexl x.reverse y.reverse else decide ((x.length : Int) < y.length)) = _
  unfold klt
  by_cases h : x.length = y.length
  · rw [if_pos h, if_pos (by omega)]
  · rw [if_neg h, if_neg (by omega)]; exact decide_eq_decide.mpr (by omega)
theorem klt_cons {f g : Int} {x y : List Int} (h : x ≠ y) : klt (f :: x) (g :: y) = klt x y := by
  unfold klt
  rw [List.length_cons, List.length_cons]
  by_cases e : x.length = y.length
  · rw [if_pos e, if_pos (by omega), List.reverse_cons, List.reverse_cons, lexl_snoc (by simpa using e), if_neg (fun q => h (List.reverse_inj.mp q))]
  · rw [if_neg e, if_neg (by omega)]; exact decide_eq_decide.mpr (by omega)
theorem klt_same {f g : Int} {x : List Int} : klt (f :: x) (g :: x) = decide (f < g) := by
  unfold klt
  rw [if_pos (by simp), List.reverse_cons, List.reverse_cons, lexl_snoc rfl, if_pos rfl]
theorem klt_gg (b : Int) : ∀ (k : Nat) (N M : Int) (j : Nat), N.toNat = k → 0 ≤ N → 0 ≤ M → klt (gg b N j) (gg b M j) = decide (N < M) := by
  intro k
  induction k using Nat.strongRecOn with
  | ind k ih =>
    intro N M j hk h0 h1
    have ht := thr_pos j b
    by_cases hN : thr j b ≤ N
    · have hq := quo_rng hN
      by_cases hM : thr j b ≤ M
      · have hq' := quo_rng hM
        have e1 := Int.emod_add_mul_ediv (N - thr j b) (36 - thr j b)
        have e2 := Int.emod_add_mul_ediv (M - thr j b) (36 - thr j b)
        have n1 := Int.emod_nonneg (N - thr j b) (show 36 - thr j b ≠ 0 by omega)
        have n2 := Int.emod_lt_of_pos (N - thr j b) (show 0 < 36 - thr j b by omega)
        have m1 := Int.emod_nonneg (M - thr j b) (show 36 - thr j b ≠ 0 by omega)
        have m2 := Int.emod_lt_of_pos (M - thr j b) (show 0 < 36 - thr j b by omega)
        rw [gg_next hN, gg_next hM]
        by_cases e : (N - thr j b) / (36 - thr j b) = (M - thr j b) / (36 - thr j b)
        · rw [e, klt_same]
          rw [e] at e1
          exact decide_eq_decide.mpr (by omega)
        · have hne : gg b ((N - thr j b) / (36 - thr j b)) (j + 1) ≠ gg b ((M - thr j b) / (36 - thr j b)) (j + 1) := fun q => e (by
            rw [← rd_gg b _ ((N - thr j b) / (36 - thr j b)) (j + 1) rfl hq.1, ← rd_gg b _ ((M - thr j b) / (36 - thr j b)) (j + 1) rfl hq'.1, q])
          rw [klt_cons hne, ih _ (by omega) _ _ _ rfl hq.1 hq'.1]
          apply decide_eq_decide.mpr
          constructor
          · intro h
            have h2 : (36 - thr j b) * ((N - thr j b) / (36 - thr j b) + 1) ≤ (36 - thr j b) * ((M - thr j b) / (36 - thr j b)) := Int.mul_le_mul_of_nonneg_left (by omega) (by omega)
            rw [Int.mul_add, Int.mul_one] at h2
            omega
          · intro h
            rcases Int.lt_or_le ((N - thr j b) / (36 - thr j b)) ((M - thr j b) / (36 - thr j b)) with q | q
            · exact q
            · exfalso
              have h2 : (36 - thr j b) * ((M - thr j b) / (36 - thr j b) + 1) ≤ (36 - thr j b) * ((N - thr j b) / (36 - thr j b)) := Int.mul_le_mul_of_nonneg_left (by omega) (by omega)
              rw [Int.mul_add, Int.mul_one] at h2
              omega
      · have hn := gg_ne b ((N - thr j b) / (36 - thr j b)) (j + 1)
        rw [gg_next hN, gg_last (N := M) (by omega)]
        unfold klt
        rw [List.length_cons, List.length_singleton, if_neg (by omega)]
        exact decide_eq_decide.mpr (by omega)
    · by_cases hM : thr j b ≤ M
      · have hn := gg_ne b ((M - thr j b) / (36 - thr j b)) (j + 1)
        rw [gg_next hM, gg_last (N := N) (by omega)]
        unfold klt
        rw [List.length_singleton, List.length_cons, if_neg (by omega)]
        exact decide_eq_decide.mpr (by omega)
      · rw [gg_last (N := N) (by omega), gg_last (N := M) (by omega), klt_same]
theorem lex_keys {b N M : Int} (h0 : 0 ≤ N) (h1 : 0 ≤ M) : lexl (keyOf (gg b N 0)) (keyOf (gg b M 0)) = decide (N < M) := by rw [klt_key, klt_gg b _ N M 0 rfl h0 h1]
/-- ranks: a number ranks as itself, a key as its number -/
def IntIt (v : Value) (n : Int) : Prop := 0 ≤ n ∧ n < 10 ^ 9 ∧ ∃ t, v = .int n t
def KeyIt (b : Int) (news : List (Addr × Obj)) (v : Value) (N : Int) : Prop := 0 ≤ N ∧ N < 10 ^ 9 ∧ ∃ c vs k, v = .ref c ∧ (c, lo vs k) ∈ news ∧ IntsAre vs (keyOf (gg b N 0))
theorem ltok_int (news : List (Addr × Obj)) : LtOk news IntIt := by
  rintro w A E s _ _ n n' Q _ _ ⟨_, _, t, rfl⟩ ⟨_, _, t', rfl⟩ h
  exact PyProof.Rows.lt_int (h s rfl (Rest.refl s))
theorem ltok_key (b : Int) (news : List (Addr × Obj)) : LtOk news (KeyIt b news) := by
  rintro w A E s _ _ n n' Q hn hA ⟨h0, _, c, vs, k, rfl, hc, hi⟩ ⟨h0', _, c', vs', k', rfl, hc', hi'⟩ h
  refine ltLists (hn _ hc) (hn _ hc') hi hi' hA ?_
  rw [lex_keys h0 h0']
  exact h s rfl (Rest.refl s)
theorem KeyIt.at {b : Int} {news : List (Addr × Obj)} {v : Value} {N : Int} {h : Heap} (x : KeyIt b news v N) (hn : ∀ p ∈ news, h.get? p.1 = some p.2) : KeyAt b h v N := by
  obtain ⟨h0, h1, c, vs, k, e, hc, hi⟩ := x
  exact ⟨h0, h1, c, vs, k, e, hn _ hc, hi⟩
theorem ints_its {vs : List Value} {ns : List Int} (h : Its IntIt vs ns) : IntsAre vs ns := by
  induction h with
  | nil => exact .nil
  | cons hv _ ih => obtain ⟨_, _, t, rfl⟩ := hv; exact .cons _ _ ih

end
section -- NbHe
structure Or (lt : Int → Int → Bool) : Prop where
  asym : ∀ {a b}, lt a b = true → lt b a = false
  trans : ∀ {a b c}, lt b a = false → lt c b = false → lt c a = false
theorem or_mn : Or mn := ⟨fun h => by simp only [mn, decide_eq_true_eq, decide_eq_false_iff_not] at *; omega, fun h h' => by simp only [mn, decide_eq_false_iff_not] at *; omega⟩
theorem or_mx : Or mx := ⟨fun h => by simp only [mx, decide_eq_true_eq, decide_eq_false_iff_not] at *; omega, fun h h' => by simp only [mx, decide_eq_false_iff_not] at *; omega⟩
theorem Or.refl {lt : Int → Int → Bool} (o : Or lt) (a : Int) : lt a a = false := by
  cases h : lt a a with
  | false => rfl
  | true => have := o.asym h; rw [h] at this; cases this
/-- parents not below `s` stand rightly over their children -/
def HP (lt : Int → Int → Bool) (l : List Int) (s : Nat) : Prop := ∀ p, 0 < p → p < l.length → s ≤ (p - 1) / 2 → lt (l.getD p 0) (l.getD ((p - 1) / 2) 0) = false
inductive Dsc (s : Nat) : Nat → Prop
  | refl : Dsc s s
  | step {c : Nat} : Dsc s ((c - 1) / 2) → 0 < c → Dsc s c
theorem Dsc.le {s p : Nat} (h : Dsc s p) : s ≤ p := by
  induction h with
  | refl => exact Nat.le_refl _
  | step _ h ih => omega
theorem Dsc.up {s p : Nat} (h : Dsc s p) (hs : s < p) : Dsc s ((p - 1) / 2) := by
  cases h with
  | refl => omega
  | step h _ => exact h
theorem zero_dsc (p : Nat) : Dsc 0 p := by
  induction p using Nat.strongRecOn with
  | ind p ih =>
    rcases Nat.eq_zero_or_pos p with rfl | h
    · exact .refl
    · exact .step (ih _ (by omega)) h
theorem getD_set (l : List Int) (i j : Nat) (x : Int) (hi : i < l.length) : (l.set i x).getD j 0 = if j = i then x else l.getD j 0 := by
  rw [List.getD_eq_getElem?_getD, List.getElem?_set, List.getD_eq_getElem?_getD]
  by_cases h : j = i
  · subst h; rw [if_pos rfl, if_pos hi, if_pos rfl]; rfl
  · rw [if_neg (Ne.symm h), if_neg h]
theorem getD_set_ne (l : List Int) (i j : Nat) (x : Int) (h : j ≠ i) : (l.set i x).getD j 0 = l.getD j 0 := by
  rw [List.getD_eq_getElem?_getD, List.getElem?_set, List.getD_eq_getElem?_getD, if_neg (Ne.symm h)]
theorem sdGo_heap {lt : Int → Int → Bool} (o : Or lt) (x : Int) (start : Nat) : ∀ (pos : Nat) (l : List Int), Dsc start pos → pos < l.length →
    (∀ p, 0 < p → p < l.length → start ≤ (p - 1) / 2 → p ≠ pos → (p - 1) / 2 ≠ pos → lt (l.getD p 0) (l.getD ((p - 1) / 2) 0) = false) →
    (∀ c, 0 < c → c < l.length → (c - 1) / 2 = pos → lt (l.getD c 0) x = false ∧ (start < pos → lt (l.getD c 0) (l.getD ((pos - 1) / 2) 0) = false)) → HP lt (sdGo lt x start pos l) start := by
  intro pos
  induction pos using Nat.strongRecOn with
  | ind pos ih =>
    intro l hD hpos h1 h2
    rw [sdGo]
    have hend : (start < pos → lt x (l.getD ((pos - 1) / 2) 0) = false) → HP lt (l.set pos x) start := by
      intro hx p hp0 hp hs
      rw [List.length_set] at hp
      rw [getD_set _ _ _ _ hpos, getD_set _ _ _ _ hpos]
      by_cases e1 : p = pos
      · subst e1
        rw [if_pos rfl, if_neg (by omega)]
        exact hx (by have := hD.le; omega)
      · rw [if_neg e1]
        by_cases e2 : (p - 1) / 2 = pos
        · rw [if_pos e2]; exact (h2 p hp0 hp e2).1
        · rw [if_neg e2]; exact h1 p hp0 hp hs e1 e2
    split
    · rename_i hs
      have hup := hD.up hs
      have hle := hup.le
      split
      · rename_i hlt
        have hpl : (pos - 1) / 2 < pos := by omega
        refine ih _ hpl _ hup (by rw [List.length_set]; omega) ?_ ?_
        · intro p hp0 hp hsp e1 e2
          rw [List.length_set] at hp
          rw [getD_set _ _ _ _ hpos, getD_set _ _ _ _ hpos]
          by_cases e3 : p = pos
          · subst e3; exact absurd rfl e2
          · rw [if_neg e3]
            by_cases e4 : (p - 1) / 2 = pos
            · rw [if_pos e4]; exact (h2 p hp0 hp e4).2 hs
            · rw [if_neg e4]; exact h1 p hp0 hp hsp e3 e4
        · intro c hc0 hc hcp
          rw [List.length_set] at hc
          have hpar : (start < (pos - 1) / 2) → lt (l.getD ((pos - 1) / 2) 0) (l.getD (((pos - 1) / 2 - 1) / 2) 0) = false := fun h =>
            h1 _ (by omega) (by omega) ((hup.up h).le) (by omega) (by omega)
          have hxp := o.asym hlt
          rw [getD_set _ _ _ _ hpos, getD_set _ _ _ _ hpos]
          by_cases e3 : c = pos
          · subst e3
            rw [if_pos rfl]
            refine ⟨hxp, fun h => ?_⟩
            rw [if_neg (by omega)]
            exact hpar h
          · rw [if_neg e3]
            have hcc : lt (l.getD c 0) (l.getD ((pos - 1) / 2) 0) = false := by
              have := h1 c hc0 hc (by omega) e3 (by omega)
              rw [hcp] at this; exact this
            refine ⟨o.trans hxp hcc, fun h => ?_⟩
            rw [if_neg (by omega)]
            exact o.trans (hpar h) hcc
      · rename_i hlt
        exact hend fun _ => by simpa using hlt
    · rename_i hs
      exact hend fun h => absurd h hs
theorem sdGo_set (lt : Int → Int → Bool) (x y : Int) (start pos : Nat) (l : List Int) (hpos : pos < l.length) : sdGo lt x start pos (l.set pos y) = sdGo lt x start pos l := by
  conv => lhs; rw [sdGo]
  conv => rhs; rw [sdGo]
  by_cases hs : start < pos
  · rw [dif_pos hs, dif_pos hs, getD_set_ne _ _ _ _ (by omega), List.set_set, List.set_set]
  · rw [dif_neg hs, dif_neg hs, List.set_set]
theorem child_par (lt : Int → Int → Bool) (l : List Int) (p : Nat) : (child lt l p - 1) / 2 = p := by unfold child; split <;> omega
theorem child_best {lt : Int → Int → Bool} (o : Or lt) (l : List Int) (p c : Nat) (hc0 : 0 < c) (hc : c < l.length) (hcp : (c - 1) / 2 = p) : lt (l.getD c 0) (l.getD (child lt l p) 0) = false := by
  unfold child
  split
  · rename_i h
    rcases o_child hc0 hcp with rfl | rfl
    · exact o.refl _
    · exact h.2
  · rename_i h
    rcases o_child hc0 hcp with rfl | rfl
    · cases q : lt (l.getD (2 * p + 1) 0) (l.getD (2 * p + 1 + 1) 0) with
      | true => exact o.asym q
      | false => exact absurd ⟨hc, q⟩ h
    · exact o.refl _
theorem suGo_heap {lt : Int → Int → Bool} (o : Or lt) (start : Nat) : ∀ (k pos : Nat) (l : List Int), l.length - pos = k → Dsc start pos → pos < l.length →
    (pos = start ∧ HP lt l (start + 1) ∨ HP lt l start) → HP lt (suGo lt pos l).1 start ∧ Dsc start (suGo lt pos l).2 ∧ (suGo lt pos l).2 < (suGo lt pos l).1.length ∧ (suGo lt pos l).1.length ≤ 2 * (suGo lt pos l).2 + 1 := by
  intro k
  induction k using Nat.strongRecOn with
  | ind k ih =>
    intro pos l hk hD hpos hH
    rw [suGo]
    split
    · rename_i hch
      have hcg := child_gt lt l pos
      have hcl := child_lt lt l pos hch
      have hcp := child_par lt l pos
      refine ih (l.length - child lt l pos) (o_dsub hk hcg hcl) _ _ (by rw [List.length_set]) (.step (by rw [hcp]; exact hD) (by omega)) (by rw [List.length_set]; exact hcl) (.inr ?_)
      intro p hp0 hp hs
      rw [List.length_set] at hp
      rw [getD_set _ _ _ _ hpos, getD_set _ _ _ _ hpos]
      by_cases e1 : p = pos
      · subst e1
        rw [if_pos rfl, if_neg (o_hne hp0)]
        rcases hH with ⟨rfl, _⟩ | hH
        · omega
        · have a1 := hH p hp0 hp hs
          have a2 := hH (child lt l p) (Nat.zero_lt_of_lt hcg) hcl (by rw [hcp]; exact o_hle hs)
          rw [hcp] at a2
          exact o.trans a1 a2
      · rw [if_neg e1]
        by_cases e2 : (p - 1) / 2 = pos
        · rw [if_pos e2]
          exact child_best o l pos p hp0 hp e2
        · rw [if_neg e2]
          rcases hH with ⟨rfl, hH⟩ | hH
          · exact hH p hp0 hp (by omega)
          · exact hH p hp0 hp hs
    · rename_i hch
      refine ⟨?_, hD, hpos, by show l.length ≤ 2 * pos + 1; omega⟩
      rcases hH with ⟨rfl, hH⟩ | hH
      · intro p hp0 hp hs
        have hp : p < l.length := hp
        exact hH p hp0 hp (by omega)
      · exact hH
theorem su_heap {lt : Int → Int → Bool} (o : Or lt) {k : Nat} {l : List Int} (hk : k < l.length) (h : HP lt l (k + 1)) : HP lt (su lt k l) k := by
  obtain ⟨h1, h2, h3, h4⟩ := suGo_heap o k _ k l rfl .refl hk (.inl ⟨rfl, h⟩)
  show HP lt (sdGo lt (l.getD k 0) k (suGo lt k l).2 ((suGo lt k l).1.set (suGo lt k l).2 (l.getD k 0))) k
  rw [sdGo_set _ _ _ _ _ _ h3]
  exact sdGo_heap o _ _ _ _ h2 h3 (fun p hp0 hp hs _ _ => h1 p hp0 hp hs) (fun c hc0 hc hcp => by omega)
theorem cnt_set (l : List Int) (i : Nat) (x b : Int) (hi : i < l.length) : (l.set i x).count b + (if l.getD i 0 = b then 1 else 0) = l.count b + (if x = b then 1 else 0) := by
  induction l generalizing i with
  | nil => cases hi
  | cons a r ih =>
    cases i with
    | zero =>
      show (x :: r).count b + (if a = b then 1 else 0) = (a :: r).count b + _
      rw [List.count_cons, List.count_cons]
      simp only [beq_iff_eq]
      omega
    | succ i =>
      have := ih i (Nat.lt_of_succ_lt_succ hi)
      show (a :: r.set i x).count b + (if r.getD i 0 = b then 1 else 0) = (a :: r).count b + _
      rw [List.count_cons, List.count_cons]
      omega
theorem sdGo_cnt (lt : Int → Int → Bool) (x b : Int) (start : Nat) : ∀ (pos : Nat) (l : List Int), pos < l.length → (sdGo lt x start pos l).count b + (if l.getD pos 0 = b then 1 else 0) = l.count b + (if x = b then 1 else 0) := by
  intro pos
  induction pos using Nat.strongRecOn with
  | ind pos ih =>
    intro l hpos
    rw [sdGo]
    split
    · split
      · have h1 := ih ((pos - 1) / 2) (by omega) (l.set pos (l.getD ((pos - 1) / 2) 0)) (by rw [List.length_set]; omega)
        have h2 := cnt_set l pos (l.getD ((pos - 1) / 2) 0) b hpos
        rw [getD_set_ne _ _ _ _ (by omega)] at h1
        omega
      · exact cnt_set l pos x b hpos
    · exact cnt_set l pos x b hpos
theorem suGo_cnt (lt : Int → Int → Bool) (b : Int) : ∀ (k pos : Nat) (l : List Int), l.length - pos = k → pos < l.length →
    (suGo lt pos l).2 < (suGo lt pos l).1.length ∧ (suGo lt pos l).1.count b + (if l.getD pos 0 = b then 1 else 0) = l.count b + (if (suGo lt pos l).1.getD (suGo lt pos l).2 0 = b then 1 else 0) := by
  intro k
  induction k using Nat.strongRecOn with
  | ind k ih =>
    intro pos l hk hpos
    rw [suGo]
    split
    · rename_i hch
      have hcg := child_gt lt l pos
      have hcl := child_lt lt l pos hch
      obtain ⟨h0, h1⟩ := ih (l.length - child lt l pos) (o_dsub hk hcg hcl) (child lt l pos) (l.set pos (l.getD (child lt l pos) 0)) (by rw [List.length_set]) (by rw [List.length_set]; exact hcl)
      have h2 := cnt_set l pos (l.getD (child lt l pos) 0) b hpos
      rw [getD_set_ne _ _ _ _ (by omega)] at h1
      exact ⟨h0, by omega⟩
    · exact ⟨hpos, rfl⟩
theorem su_perm (lt : Int → Int → Bool) {k : Nat} {l : List Int} (hk : k < l.length) : (su lt k l).Perm l := by
  rw [List.perm_iff_count]
  intro b
  obtain ⟨h0, h1⟩ := suGo_cnt lt b _ k l rfl hk
  show (sdGo lt (l.getD k 0) k (suGo lt k l).2 ((suGo lt k l).1.set (suGo lt k l).2 (l.getD k 0))).count b = _
  rw [sdGo_set _ _ _ _ _ _ h0]
  have h2 := sdGo_cnt lt (l.getD k 0) b k _ _ h0
  omega
theorem hify_heap {lt : Int → Int → Bool} (o : Or lt) (l : List Int) : HP lt (hify lt l) 0 ∧ (hify lt l).Perm l := by
  have go : ∀ k (l : List Int), k ≤ l.length → HP lt l k → HP lt (hifyGo lt k l) 0 ∧ (hifyGo lt k l).Perm l := by
    intro k
    induction k with
    | zero => intro l _ h; exact ⟨h, .refl _⟩
    | succ k ih =>
      intro l hk h
      have hp := su_perm lt (k := k) (l := l) (by omega)
      obtain ⟨a, c⟩ := ih (su lt k l) (by rw [su_length]; omega) (su_heap o (by omega) h)
      exact ⟨a, c.trans hp⟩
  exact go _ l (by omega) (fun p hp0 hp hs => by omega)
theorem push_heap {ns : List Int} (x : Int) (h : HP mn ns 0) : HP mn (hpush ns x) 0 ∧ (hpush ns x).Perm (x :: ns) := by
  have hl : ns.length < (ns ++ [x]).length := by simp
  have hg : ∀ i, i < ns.length → (ns ++ [x]).getD i 0 = ns.getD i 0 := fun i hi => by
    rw [List.getD_eq_getElem?_getD, List.getElem?_append_left hi, List.getD_eq_getElem?_getD]
  constructor
  · refine sdGo_heap or_mn x 0 ns.length _ (zero_dsc _) hl ?_ ?_
    · intro p hp0 hp _ e1 _
      have hp' : p < ns.length := by simp at hp; omega
      rw [hg _ hp', hg _ (by omega)]
      exact h p hp0 hp' (Nat.zero_le _)
    · intro c hc0 hc hcp
      simp at hc; omega
  · rw [List.perm_iff_count]
    intro b
    have h1 := sdGo_cnt mn x b 0 ns.length (ns ++ [x]) hl
    have h2 : (ns ++ [x]).getD ns.length 0 = x := by simp
    rw [h2] at h1
    have h3 : (ns ++ [x]).count b = (x :: ns).count b := by rw [List.count_append, List.count_cons, List.count_cons]; simp
    show (sdGo mn x 0 ns.length (ns ++ [x])).count b = _
    omega
theorem root_best {lt : Int → Int → Bool} (o : Or lt) {l : List Int} (h : HP lt l 0) : ∀ p, p < l.length → lt (l.getD p 0) (l.getD 0 0) = false := by
  intro p
  induction p using Nat.strongRecOn with
  | ind p ih =>
    intro hp
    rcases Nat.eq_zero_or_pos p with rfl | h0
    · exact o.refl _
    · exact o.trans (ih ((p - 1) / 2) (by omega) (by omega)) (h p h0 hp (Nat.zero_le _))
theorem root_all {lt : Int → Int → Bool} (o : Or lt) {l : List Int} (h : HP lt l 0) : ∀ y ∈ l, lt y (l.getD 0 0) = false := by
  intro y hy
  obtain ⟨i, hi, rfl⟩ := List.getElem_of_mem hy
  have := root_best o h i hi
  rwa [List.getD_eq_getElem?_getD, List.getElem?_eq_getElem hi] at this
theorem set0_heap {lt : Int → Int → Bool} {l : List Int} (x : Int) (h : HP lt l 0) : HP lt (l.set 0 x) 1 := by
  intro p hp0 hp hs
  rw [List.length_set] at hp
  rw [getD_set _ _ _ _ (by omega), getD_set _ _ _ _ (by omega), if_neg (by omega), if_neg (by omega)]
  exact h p hp0 hp (Nat.zero_le _)
/-- the root changed for x -/
theorem rep_heap {lt : Int → Int → Bool} (o : Or lt) {v : Int} {m : List Int} (x : Int) (h : HP lt (v :: m) 0) : HP lt (hrep lt (v :: m) x) 0 ∧ (hrep lt (v :: m) x).Perm (x :: m) := by
  have h1 := set0_heap x h
  exact ⟨su_heap o (by simp) h1, su_perm lt (by simp)⟩
theorem drop_heap {lt : Int → Int → Bool} {l : List Int} (x : Int) (h : HP lt (l ++ [x]) 0) : HP lt l 0 := by
  have hg : ∀ i, i < l.length → (l ++ [x]).getD i 0 = l.getD i 0 := fun i hi => by
    rw [List.getD_eq_getElem?_getD, List.getElem?_append_left hi, List.getD_eq_getElem?_getD]
  intro p hp0 hp hs
  have := h p hp0 (by simp; omega) hs
  rwa [hg _ hp, hg _ (by omega)] at this
theorem pop_heap {lt : Int → Int → Bool} (o : Or lt) {ms : List Int} {x : Int} (h : HP lt (ms ++ [x]) 0) : HP lt (hpop lt ms x).2 0 ∧ ((hpop lt ms x).1 :: (hpop lt ms x).2).Perm (ms ++ [x]) ∧ ∀ y ∈ (hpop lt ms x).2, lt y (hpop lt ms x).1 = false := by
  unfold hpop
  cases ms with
  | nil => rw [if_pos rfl]; exact ⟨(fun p _ hp _ => absurd hp (Nat.not_lt_zero _)), List.Perm.refl _, (fun y hy => nomatch hy)⟩
  | cons v m =>
    rw [if_neg (by simp)]
    obtain ⟨h1, h2⟩ := rep_heap o x (drop_heap x h)
    refine ⟨h1, ?_, fun y hy => ?_⟩
    · show (v :: hrep lt (v :: m) x).Perm _
      refine (List.Perm.cons v h2).trans (List.Perm.cons v ?_)
      exact (List.perm_append_singleton x m).symm
    · have hy' := h2.mem_iff.mp hy
      refine root_all o h y ?_
      rcases List.mem_cons.mp hy' with rfl | hy'
      · simp
      · simp [hy']

end
section -- NbRw
theorem srt_congr {a b : List Int} (p : a.Perm b) : srt a = srt b := sorted_unique ((srt_perm a).trans (p.trans (srt_perm b).symm)) (srt_sorted a) (srt_sorted b)
theorem srt_least {v : Int} {m : List Int} (h : ∀ y ∈ m, v ≤ y) : srt (v :: m) = v :: srt m := by
  refine (srt_eq (List.Perm.cons v (srt_perm m)) (List.pairwise_cons.mpr ⟨fun y hy => h y ((srt_perm m).mem_iff.mp hy), srt_sorted m⟩)).symm
theorem srt_most {v : Int} {m : List Int} (h : ∀ y ∈ m, y ≤ v) : srt (v :: m) = srt m ++ [v] := by
  refine (srt_eq ((List.perm_append_singleton v (srt m)).trans (List.Perm.cons v (srt_perm m))) (List.pairwise_append.mpr ⟨srt_sorted m, List.pairwise_singleton .., fun y hy z hz => ?_⟩)).symm
  rw [List.mem_singleton.mp hz]
  exact h y ((srt_perm m).mem_iff.mp hy)
theorem srt_ne {l : List Int} (h : l ≠ []) : srt l ≠ [] := fun e => h (List.eq_nil_of_length_eq_zero (by rw [← srt_length l, e]; rfl))
theorem srt_nil_iff {l : List Int} : srt l = [] ↔ l = [] := ⟨fun e => Classical.byContradiction fun h => srt_ne h e, fun e => by rw [e]; rfl⟩
theorem mn_le {a b : Int} (h : mn a b = false) : b ≤ a := by simp only [mn, decide_eq_false_iff_not] at h; omega
theorem mx_le {a b : Int} (h : mx a b = false) : a ≤ b := by simp only [mx, decide_eq_false_iff_not] at h; omega
/-- the answer that is told agrees with the one that is due -/
def Agr : Option (List Int) → Option (List Int) → Prop
  | none, none => True
  | some ts, some ds => ts.take 2 = ds.take 2 ∧ srt (ts.drop 2) = ds.drop 2
  | _, _ => False
/-- the heap and the answer after a deed -/
def stp (kd : Int) (ns : List Int) (x : Int) : Option (List Int) × List Int :=
  if kd = 6 then (some [], hify mn ns.reverse) else
  if (kd = 1 ∨ kd = 3 ∨ kd = 7) ∧ ns = [] then (none, ns) else
  if kd = 1 then (some [(hpop mn ns.dropLast (ns.getLastD 0)).1], (hpop mn ns.dropLast (ns.getLastD 0)).2) else
  if kd = 3 then (some [ns.getD 0 0], hrep mn ns x) else
  if kd = 7 then (some (deed7 ns x), ns) else
  if kd = 5 then (some [(hpp ns x).1], (hpp ns x).2) else (some [], hpush ns x)
theorem last_app {ns : List Int} (h : ns ≠ []) : ns.dropLast ++ [ns.getLastD 0] = ns := by rw [lastD h]; exact List.dropLast_concat_getLast h
theorem perm_last {x : Int} {m : List Int} : (m ++ [x]).Perm (x :: m) := List.perm_append_singleton x m
theorem step_ok {ns : List Int} {x : Int} (kd : Int) (h : HP mn ns 0) : HP mn (stp kd ns x).2 0 ∧ dueR kd (srt ns) x = srt (stp kd ns x).2 ∧ Agr (stp kd ns x).1 (dueL kd (srt ns) x) ∧ (stp kd ns x).2.length ≤ ns.length + 1 ∧
    (∀ y ∈ (stp kd ns x).2, y = x ∨ y ∈ ns) ∧ ∀ ts, (stp kd ns x).1 = some ts → ts.length ≤ ns.length + 2 := by
  unfold stp dueR dueL
  by_cases h6 : kd = 6
  · rw [if_pos h6, if_pos h6, if_pos h6]
    obtain ⟨a, p⟩ := hify_heap or_mn ns.reverse
    have p := p.trans (List.reverse_perm ns)
    exact ⟨a, srt_congr p.symm, ⟨rfl, rfl⟩, by rw [p.length_eq]; exact Nat.le_succ _, fun y hy => .inr (p.mem_iff.mp hy), fun ts e => by cases e; exact Nat.zero_le _⟩
  rw [if_neg h6, if_neg h6, if_neg h6]
  by_cases hn : (kd = 1 ∨ kd = 3 ∨ kd = 7) ∧ ns = []
  · have hn' : (kd = 1 ∨ kd = 3 ∨ kd = 7) ∧ srt ns = [] := ⟨hn.1, srt_nil_iff.mpr hn.2⟩
    rw [if_pos hn, if_pos hn', if_pos hn']
    exact ⟨h, rfl, trivial, Nat.le_succ _, fun y hy => .inr hy, fun ts e => by cases e⟩
  have hn' : ¬((kd = 1 ∨ kd = 3 ∨ kd = 7) ∧ srt ns = []) := fun q => hn ⟨q.1, srt_nil_iff.mp q.2⟩
  rw [if_neg hn, if_neg hn', if_neg hn']
  by_cases h1 : kd = 1
  · rw [if_pos h1, if_pos h1, if_pos h1]
    have hne : ns ≠ [] := fun e => hn ⟨.inl h1, e⟩
    have h' := h
    rw [← last_app hne] at h'
    obtain ⟨a, p, c⟩ := pop_heap or_mn h'
    rw [last_app hne] at p
    generalize hpop mn ns.dropLast (ns.getLastD 0) = r at a p c ⊢
    have e : srt ns = r.1 :: srt r.2 := (srt_congr p.symm).trans (srt_least fun y hy => mn_le (c y hy))
    have hl := p.length_eq
    rw [e]
    refine ⟨a, rfl, ⟨rfl, rfl⟩, ?_, fun y hy => .inr (p.mem_iff.mp (.tail _ hy)), fun ts e => by cases e; simp⟩
    rw [List.length_cons] at hl
    show r.2.length ≤ _
    omega
  rw [if_neg h1, if_neg h1, if_neg h1]
  by_cases h3 : kd = 3
  · rw [if_pos h3, if_pos h3, if_pos h3]
    cases ns with
    | nil => exact absurd ⟨.inr (.inl h3), rfl⟩ hn
    | cons v m =>
      obtain ⟨a, p⟩ := rep_heap or_mn x h
      have hb := root_all or_mn h
      have e : srt (v :: m) = v :: srt m := srt_least fun y hy => mn_le (hb y (.tail _ hy))
      rw [e]
      refine ⟨a, srt_congr ?_, ⟨rfl, rfl⟩, ?_, fun y hy => ?_, fun ts e => by cases e; simp⟩
      · exact ((srt_perm m).append_right [x]).trans (perm_last.trans p.symm)
      · show (hrep mn (v :: m) x).length ≤ _
        rw [p.length_eq]; simp
      · rcases List.mem_cons.mp (p.mem_iff.mp hy) with rfl | hy
        · exact .inl rfl
        · exact .inr (.tail _ hy)
  rw [if_neg h3, if_neg h3, if_neg h3]
  by_cases h7 : kd = 7
  · rw [if_pos h7, if_pos h7, if_pos h7]
    have hne : ns ≠ [] := fun e => hn ⟨.inr (.inr h7), e⟩
    refine ⟨h, rfl, ?_, Nat.le_succ _, fun y hy => .inr hy, ?_⟩
    · show Agr (some (deed7 ns x)) _
      unfold deed7
      obtain ⟨a, p⟩ := hify_heap or_mx ns
      generalize hify mx ns = m at a p ⊢
      show Agr (some ((m.getD 0 0) :: (hpop mx (hrep mx m x).dropLast ((hrep mx m x).getLastD 0)).1 :: (hpop mx (hrep mx m x).dropLast ((hrep mx m x).getLastD 0)).2)) _
      cases m with
      | nil => exact absurd p.symm.eq_nil hne
      | cons M m =>
        have hb := root_all or_mx a
        have e1 : srt ns = srt m ++ [M] := (srt_congr p.symm).trans (srt_most fun y hy => mx_le (hb y (.tail _ hy)))
        obtain ⟨a2, p2⟩ := rep_heap or_mx x a
        have hne2 : hrep mx (M :: m) x ≠ [] := fun e => by rw [e] at p2; cases p2.symm.eq_nil
        generalize hrep mx (M :: m) x = m2 at a2 p2 hne2 ⊢
        have a2' := a2
        rw [← last_app hne2] at a2'
        obtain ⟨a3, p3, c3⟩ := pop_heap or_mx a2'
        rw [last_app hne2] at p3
        generalize hpop mx m2.dropLast (m2.getLastD 0) = r at a3 p3 c3 ⊢
        have e2 : srt ((srt ns).dropLast ++ [x]) = srt r.2 ++ [r.1] := by
          rw [e1, List.dropLast_concat]
          refine (srt_congr ?_).trans (srt_most fun y hy => mx_le (c3 y hy))
          exact ((srt_perm m).append_right [x]).trans (perm_last.trans (p2.symm.trans p3.symm))
        show Agr (some (M :: r.1 :: r.2)) _
        rw [e2, e1]
        simp [Agr]
    · intro ts e
      cases e
      unfold deed7
      have l1 := (hify_heap or_mx ns).2.length_eq
      show (hpop mx (hrep mx (hify mx ns) x).dropLast ((hrep mx (hify mx ns) x).getLastD 0)).2.length + 1 + 1 ≤ _
      unfold hpop
      split
      · show 0 + 1 + 1 ≤ _; omega
      · show (su mx 0 _).length + 1 + 1 ≤ _
        rw [su_length, List.length_set, List.length_dropLast, hrep, su_length, List.length_set]; omega
  rw [if_neg h7, if_neg h7, if_neg h7]
  by_cases h5 : kd = 5
  · rw [if_pos h5, if_pos h5, if_pos h5]
    unfold hpp
    by_cases hc : 0 < ns.length ∧ ns.getD 0 0 < x
    · rw [if_pos hc]
      cases ns with
      | nil => exact absurd hc.1 (Nat.not_lt_zero _)
      | cons v m =>
        obtain ⟨a, p⟩ := rep_heap or_mn x h
        have hb := root_all or_mn h
        have hvx : v < x := hc.2
        have e : srt (srt (v :: m) ++ [x]) = v :: srt (su mn 0 ((v :: m).set 0 x)) := by
          refine (srt_congr ?_).trans (srt_least (m := su mn 0 ((v :: m).set 0 x)) fun y hy => ?_)
          · exact ((srt_perm (v :: m)).append_right [x]).trans (List.Perm.cons v (perm_last.trans p.symm))
          · rcases List.mem_cons.mp (p.mem_iff.mp hy) with rfl | hy
            · omega
            · exact mn_le (hb y (.tail _ hy))
        rw [e]
        refine ⟨a, rfl, ⟨rfl, rfl⟩, ?_, fun y hy => ?_, fun ts e => by cases e; simp⟩
        · show (hrep mn (v :: m) x).length ≤ _
          rw [p.length_eq]; simp
        · rcases List.mem_cons.mp (p.mem_iff.mp hy) with rfl | hy
          · exact .inl rfl
          · exact .inr (.tail _ hy)
    · rw [if_neg hc]
      have hall : ∀ y ∈ ns, x ≤ y := fun y hy => by
        have h1 := mn_le (root_all or_mn h y hy)
        have h2 : 0 < ns.length := List.length_pos_of_mem hy
        omega
      have e : srt (srt ns ++ [x]) = x :: srt ns := by
        refine (srt_congr ?_).trans (srt_least hall)
        exact ((srt_perm ns).append_right [x]).trans perm_last
      rw [e]
      exact ⟨h, rfl, ⟨rfl, rfl⟩, Nat.le_succ _, fun y hy => .inr hy, fun ts e => by cases e; simp⟩
  rw [if_neg h5, if_neg h5, if_neg h5]
  obtain ⟨a, p⟩ := push_heap x h
  refine ⟨a, srt_congr (((srt_perm ns).append_right [x]).trans (perm_last.trans p.symm)), ⟨rfl, rfl⟩, ?_, fun y hy => ?_, fun ts e => by cases e; simp⟩
  · show (hpush ns x).length ≤ _
    rw [p.length_eq]; simp
  · exact List.mem_cons.mp (p.mem_iff.mp hy)
theorem heap_order {ns : List Int} (h : HP mn ns 0) : ∀ p, p < ns.length → ns.getD ((p - 1) / 2) 0 ≤ ns.getD p 0 := by
  intro p hp
  rcases Nat.eq_zero_or_pos p with rfl | h0
  · exact Int.le_refl _
  · exact mn_le (h p h0 hp (Nat.zero_le _))

end
section -- NbDa
theorem due_all {w : World} {A : Around} {E : Value → Shared → Prop} {s o : Shared} {Q : Value → Shared → Prop} {h₀ : Heap} {L r : Addr} {l : List (Str × Value)} {news : List (Addr × Obj)} {rv : List Value} {n : Nat} {row : List Int} {x kd : Int} {t u : Tok}
    (G : Gd w h₀) (S : At o h₀ L l news s) (hd : A.depth + 5 < 900) (hu : A.units + 50 < 9000) (hr : (r, lo rv n) ∈ news) (hi : IntsAre rv row) (hz : row.length < 50) (hk0 : 0 ≤ kd) (hk8 : kd < 8)
    (h : ∀ T v₁ r' rv' n' ex s', At o h₀ L l ((T, tup [v₁, .ref r']) :: (r', lo rv' n') :: (ex ++ news)) s' → IntsAre rv' (dueR kd row x) → DueV v₁ ex (dueL kd row x) → (r' = r ∨ ∀ p ∈ news, p.1 ≠ r') → (∀ p ∈ ex, ∀ q ∈ news, q.1 ≠ p.1) → Q (.ref T) s') :
    wpAny (MM w) A (call (.ref 145) [.int kd t, .ref r, .int x u]) Q E s := by
  have hk := o_kind hk0 hk8
  rcases hk with rfl | rfl | rfl | rfl | rfl | rfl | rfl | rfl
  · exact due_0 (kd := 0) G S hd hu hr hi hz (fun T v₁ r' rv' n' ex s' a b c d e => h T v₁ r' rv' n' ex s' a (by simpa [dueR] using b) (by simpa [dueL] using c) d e)
  · by_cases hne : row = []
    · exact due_none1 (kd := 1) G S hd hu hr hi hz hne (fun T v₁ r' rv' n' ex s' a b c d e => h T v₁ r' rv' n' ex s' a (by simpa [dueR, hne] using b) (by simpa [dueL, hne] using c) d e)
    · exact due_1 (kd := 1) G S hd hu hr hi hz hne (fun T v₁ r' rv' n' ex s' a b c d e => h T v₁ r' rv' n' ex s' a (by simpa [dueR, hne] using b) (by simpa [dueL, hne] using c) d e)
  · exact due_2 (kd := 2) G S hd hu hr hi hz (fun T v₁ r' rv' n' ex s' a b c d e => h T v₁ r' rv' n' ex s' a (by simpa [dueR] using b) (by simpa [dueL] using c) d e)
  · by_cases hne : row = []
    · exact due_none3 (kd := 3) G S hd hu hr hi hz hne (fun T v₁ r' rv' n' ex s' a b c d e => h T v₁ r' rv' n' ex s' a (by simpa [dueR, hne] using b) (by simpa [dueL, hne] using c) d e)
    · exact due_3 (kd := 3) G S hd hu hr hi hz hne (fun T v₁ r' rv' n' ex s' a b c d e => h T v₁ r' rv' n' ex s' a (by simpa [dueR, hne] using b) (by simpa [dueL, hne] using c) d e)
  · exact due_4 (kd := 4) G S hd hu hr hi hz (fun T v₁ r' rv' n' ex s' a b c d e => h T v₁ r' rv' n' ex s' a (by simpa [dueR] using b) (by simpa [dueL] using c) d e)
  · exact due_5 (kd := 5) G S hd hu hr hi hz (fun T v₁ r' rv' n' ex s' a b c d e => h T v₁ r' rv' n' ex s' a (by simpa [dueR] using b) (by simpa [dueL] using c) d e)
  · exact due_6 (kd := 6) G S hd hu hr hi hz (fun T v₁ r' rv' n' ex s' a b c d e => h T v₁ r' rv' n' ex s' a (by simpa [dueR] using b) (by simpa [dueL] using c) d e)
  · by_cases hne : row = []
    · exact due_none7 (kd := 7) G S hd hu hr hi hz hne (fun T v₁ r' rv' n' ex s' a b c d e => h T v₁ r' rv' n' ex s' a (by simpa [dueR, hne] using b) (by simpa [dueL, hne] using c) d e)
    · exact due_7 (kd := 7) G S hd hu hr hi hz hne (fun T v₁ r' rv' n' ex s' a b c d e => h T v₁ r' rv' n' ex s' a (by simpa [dueR, hne] using b) (by simpa [dueL, hne] using c) d e)
def TellV (It : Value → Int → Prop) (v : Value) (ex : List (Addr × Obj)) : Option (List Int) → Prop
  | none => v = .none
  | some ts => ∃ b us k, v = .ref b ∧ (b, lo us k) ∈ ex ∧ Its It us ts
theorem deed_all {w : World} {A₀ : Around} {E : Value → Shared → Prop} {s o : Shared} {Q : Value → Shared → Prop} {h₀ : Heap} {L a fa : Addr} {l : List (Str × Value)} {news : List (Addr × Obj)} {cn : Str} {cs : Scope} {ccd v : Value} {n : Nat} {kd x : Int} {t : Tok} {vs : List Value} {ns : List Int}
    {loose : List Str} {mean : ExcName → Option Value} {mg mb : Str → Option Value} {It : Value → Int → Prop}
    (B : Below A₀ h₀ [] h₀) (X : (KK w).In h₀) (T : Top hd.view_39 loose mean mg mb h₀) (G : Gd w h₀) (S : At o h₀ L l ((a, lo vs n) :: news) s) (hh : A₀.handled = none) (hd : A₀.depth + 9 < 900) (hu : A₀.units + 60 < 9000) (ha : ∀ q ∈ news, q.1 ≠ a) (hcs : cs.kind = .function)
    (LT : LtOk news It) (hi : Its It vs ns) (hz : ns.length < 50) (hv : It v x) (hk0 : 0 ≤ kd) (hk8 : kd < 8)
    (h : ∀ v' ex vs' n' s', Its It vs' (stp kd ns x).2 → TellV It v' ex (stp kd ns x).1 → At o h₀ L l (ex ++ (a, lo vs' n') :: news) s' → (∀ p ∈ ex, ∀ q ∈ news, q.1 ≠ p.1) → Q v' s') :
    wpAny (MM w) (A₀.deeper (envOf cn cs L fa ccd)) (call (.ref 138) [.int kd t, .ref a, v]) Q E s := by
  have hd' : (A₀.deeper (envOf cn cs L fa ccd)).depth + 5 < 900 := by show A₀.depth + 1 + 5 < 900; omega
  have hu' : (A₀.deeper (envOf cn cs L fa ccd)).units + 50 < 9000 := by show A₀.units + 3 + 50 < 9000; omega
  have hk := o_kind hk0 hk8
  have one : ∀ {b : Addr} {ob : Obj} {a' : Addr} {o' : Obj}, (∀ p ∈ (a', o') :: news, p.1 ≠ b) → ∀ p ∈ [(b, ob)], ∀ q ∈ news, q.1 ≠ p.1 := fun hb p hp q hq => by rw [List.mem_singleton.mp hp]; exact hb q (.tail _ hq)
  have none_case : kd = 1 ∨ kd = 3 ∨ kd = 7 → ns = [] → wpAny (MM w) (A₀.deeper (envOf cn cs L fa ccd)) (call (.ref 138) [.int kd t, .ref a, v]) Q E s := fun hk3 e => by
    have hkn : (kd = 1 ∨ kd = 3 ∨ kd = 7) ∧ ns = [] := ⟨hk3, e⟩
    have hs : stp kd ns x = (none, ns) := by unfold stp; rw [if_neg (by omega), if_pos hkn]
    subst e
    cases hi
    refine deed_none B X T S hh hd hu ha hcs hk3 (fun s' S' => h .none [] [] n s' ?_ ?_ S' (fun p hp => nomatch hp))
    · rw [hs]; exact .nil
    · rw [hs]; rfl
  rcases hk with rfl | rfl | rfl | rfl | rfl | rfl | rfl | rfl
  · exact deed_push G S hh hd' hu' ha LT hi hz hv (.inl rfl) (fun b vs' n' s' a1 a2 a3 => h _ [(b, lo [] 0)] vs' n' s' (by simpa [stp] using a1) (by simp only [stp]; exact ⟨b, [], 0, rfl, .head _, .nil⟩) a2 (one a3))
  · by_cases hne : ns = []
    · exact none_case (.inl rfl) hne
    · exact deed_1 G S hh hd' hu' ha LT hi hz hv (List.length_pos_iff.mpr hne) (fun b v' vs' n' s' a0 a1 a2 a3 => h _ [(b, lo [v'] 0)] vs' n' s' (by simpa [stp, hne] using a1) (by simp only [stp, hne]; exact ⟨b, _, 0, rfl, .head _, .cons a0 .nil⟩) a2 (one a3))
  · exact deed_push G S hh hd' hu' ha LT hi hz hv (.inr (.inl rfl)) (fun b vs' n' s' a1 a2 a3 => h _ [(b, lo [] 0)] vs' n' s' (by simpa [stp] using a1) (by simp only [stp]; exact ⟨b, [], 0, rfl, .head _, .nil⟩) a2 (one a3))
  · by_cases hne : ns = []
    · exact none_case (.inr (.inl rfl)) hne
    · exact deed_3 G S hh hd' hu' ha LT hi hz hv (List.length_pos_iff.mpr hne) (fun b v' vs' n' s' a0 a1 a2 a3 => h _ [(b, lo [v'] 0)] vs' n' s' (by simpa [stp, hne] using a1) (by simp only [stp, hne]; exact ⟨b, _, 0, rfl, .head _, .cons a0 .nil⟩) a2 (one a3))
  · exact deed_push G S hh hd' hu' ha LT hi hz hv (.inr (.inr rfl)) (fun b vs' n' s' a1 a2 a3 => h _ [(b, lo [] 0)] vs' n' s' (by simpa [stp] using a1) (by simp only [stp]; exact ⟨b, [], 0, rfl, .head _, .nil⟩) a2 (one a3))
  · exact deed_5 G S hh hd' hu' ha LT hi hz hv (fun b v' vs' n' s' a0 a1 a2 a3 => h _ [(b, lo [v'] 0)] vs' n' s' (by simpa [stp] using a1) (by simp only [stp]; exact ⟨b, _, 0, rfl, .head _, .cons a0 .nil⟩) a2 (one a3))
  · exact deed_6 G S hh hd' hu' ha LT hi hz (fun b vs' n' s' a1 a2 a3 => h _ [(b, lo [] 0)] vs' n' s' (by simpa [stp] using a1) (by simp only [stp]; exact ⟨b, [], 0, rfl, .head _, .nil⟩) a2 (one a3))
  · by_cases hne : ns = []
    · exact none_case (.inr (.inr rfl)) hne
    · exact deed_7 G S hh hd' hu' ha LT hi hz hv (List.length_pos_iff.mpr hne) (fun b us s' a1 a2 a3 => h _ [(b, lo us 0)] vs n s' (by simpa [stp, hne] using hi) (by simp only [stp, hne]; exact ⟨b, us, 0, rfl, .head _, a1⟩) a2 (one a3))

end
section -- NbLw
section
variable {M : Model} {A : Around} {E : Value → Shared → Prop} {s o : Shared} {L a : Addr} {h₀ : Heap} {l : List (Str × Value)} {news : List (Addr × Obj)} {w : World} {name : Str} {scope : Scope} {cd : Value}
theorem At.ccallf {f : Addr} (S : At o h₀ L l news s) (G : Gd w h₀) {x : Str} {p pos : Pos} {e : PySem.Expr} {rest : List PySem.Expr} {Q : Value → Shared → Prop}
    (eg : nsIn (KK w) mainGlobals x = some (some (.ref f))) (hf : fnIn (KK w) f = true)
    (h : wpC M A (spliced (backTo pos (starEach (e :: rest) (envOf name scope L a cd)))) (fun vs s₁ => (∃ l' news', At o h₀ L l' news' s₁) ∧ wpC M A (call (.ref f) vs) Q E s₁) E s)
    (hk : scope.kind = .function := by rfl) (hx : (envOf name scope L a cd).kindOf x = some .globalImplicit := by rfl) (hd : (x == ("__debug__" : Str)) = false := by decide)
    (he : starEach (e :: rest) (envOf name scope L a cd) = (false, eval e (envOf name scope L a cd)) :: starEach rest (envOf name scope L a cd) := by rfl) :
    wpC M A (eval (.Call (.Name x p) (e :: rest) [] pos) (envOf name scope L a cd)) Q E s := by
  refine cCallName (At.glob S G eg ?_ hk hx hd)
  unfold fnIn at hf
  split at hf
  · rename_i oc od fd osl q
    refine cCallWithDef (o := ⟨oc, od, .func fd, osl⟩) rfl (cMono h (fun vs s₁ h₁ => ⟨?_, h₁.2⟩) fun _ _ x => x) he
    obtain ⟨⟨l', news', S'⟩, _⟩ := h₁
    exact S'.keep _ _ (G.X _ _ q)
  · cases hf
end
theorem At.sliceI {prog : Program} {A : Around} {E : Value → Shared → Prop} {s o : Shared} {L a : Addr} {h₀ : Heap} {l : List (Str × Value)} {news : List (Addr × Obj)} {w : World} {vs zs : List Value} {value slice : PySem.Expr} {vl vu vk : Value} {lo' hi st : Option Int} {ops : List Value} {Q : Value → Shared → Prop} (S : At o h₀ L l news s) (ha : s.heap.IsList a vs.toArray) (hz : vs.length < 1000)
    (pl : IsPart vl lo') (pu : IsPart vu hi) (pk : IsPart vk st) (h0 : st ≠ some 0) (e : (slicePick vs.toArray lo' hi st).toList = zs)
    (h : ∀ b s', At o h₀ L l ((b, lo zs 0) :: news) s' → (∀ p ∈ news, p.1 ≠ b) → Q (.ref b) s')
    (hs : subscripted slice false (.ref a) (.ref s.heap.objs.size) = operate ops (getItem (.ref a) (.ref s.heap.objs.size)) := by with_unfolding_all rfl) (ht : ∀ r, letTemporaryGo value (.ref a) r = pure () := by intro _; with_unfolding_all rfl) :
    wpAny (model prog w) A (subscriptTail value slice (.ref a) (.ref s.heap.objs.size)) Q E { s with heap := s.heap.push { cls := .type "slice", data := .fields #[vl, vu, vk] } } := by
  obtain ⟨⟨m, F, hm⟩, N, R⟩ := S
  refine slice_list3 F N ha pl pu pk h0 (fun h' F' N' => h _ _ ⟨⟨m, F', hm⟩, ?_, R.trans ⟨rfl, rfl, rfl⟩⟩ (fun p hp => Nat.ne_of_lt (Nat.lt_succ_of_lt (Heap.lt_size (N p hp).1)))) hs ht (by rw [List.size_toArray]; show _ ≤ 2 ^ 24; omega)
  rw [← e, Array.toArray_toList]
  exact N'
theorem pick_span (vs : List Value) (i j : Nat) (h : i ≤ j) : (slicePick vs.toArray (some (i : Int)) (some (j : Int)) none).toList = (vs.take j).drop i := by
  rw [kms_pick_eq]
  have h0 : ¬ ((i : Int) < 0) := by omega
  have h1 : ¬ ((j : Int) < 0) := by omega
  simp only [kms_pick, kms_lo, kms_hi, if_neg h0, if_neg h1]
  simp only [Int.toNat_natCast]
  rw [List.drop_take]
  rcases Nat.lt_or_ge i vs.length with h2 | h2
  · rw [Nat.min_eq_left (Nat.le_of_lt h2)]
    rcases Nat.lt_or_ge j vs.length with h3 | h3
    · rw [Nat.min_eq_left (Nat.le_of_lt h3)]
    · rw [Nat.min_eq_right h3, List.take_of_length_le (by simp), List.take_of_length_le (by simp; omega)]
  · rw [Nat.min_eq_right h2, List.drop_of_length_le h2, List.drop_of_length_le (Nat.le_refl _), List.take_nil, List.take_nil]
theorem LtOk.wide {news news' : List (Addr × Obj)} {It : Value → Int → Prop} (h : LtOk news It) (hs : ∀ p ∈ news, p ∈ news') : LtOk news' It :=
  fun w A E s v v' n n' Q hn hA => h w A E s v v' n n' Q (fun p hp => hn p (hs p hp)) hA
theorem KeyIt.more {b : Int} {news news' : List (Addr × Obj)} {v : Value} {N : Int} (h : KeyIt b news v N) (hs : ∀ p ∈ news, p ∈ news') : KeyIt b news' v N := by
  obtain ⟨h0, h1, c, vs, k, e, hc, hi⟩ := h
  exact ⟨h0, h1, c, vs, k, e, hs _ hc, hi⟩
theorem agr_len {ts ds : List Int} (h : Agr (some ts) (some ds)) : ds.length = ts.length := by
  have h1 := congrArg List.length h.1
  have h2 := congrArg List.length h.2
  rw [srt_length] at h2
  rw [← List.take_append_drop 2 ds, ← List.take_append_drop 2 ts, List.length_append, List.length_append, h1, h2]

end
section -- NbLz
theorem of_map {P : Addr → Prop} {l : List (Addr × Obj)} (h : ∀ a ∈ l.map (·.1), P a) : ∀ p ∈ l, P p.1 := fun p hp => h _ (List.mem_map_of_mem hp)
theorem lessA {α : Type} {T r i x h k g : α} {ex ks : List α} : ∀ p ∈ h :: r :: (ex ++ i :: x :: k :: ks), p ∈ T :: r :: (ex ++ i :: x :: h :: k :: g :: ks) := by
  intro p hp
  simp only [List.mem_cons, List.mem_append] at hp ⊢
  rcases hp with h | h | h | h | h | h | h <;> simp [h]
theorem lessB {α : Type} {c h r i x k : α} {ex ex₂ ks : List α} : ∀ p ∈ k :: (c :: ks ++ (ex₂ ++ h :: r :: (ex ++ [i, x]))), p ∈ c :: (ex₂ ++ h :: r :: (ex ++ i :: x :: k :: ks)) := by
  intro p hp
  simp only [List.mem_cons, List.mem_append, List.not_mem_nil, or_false] at hp ⊢
  rcases hp with h | (h | h) | h | h | h | h | h | h <;> simp [h]
theorem lessC {α : Type} {c h r i x k : α} {ex ex₂ ex₃ ks : List α} : ∀ p ∈ i :: x :: h :: k :: r :: c :: ks, p ∈ ex₃ ++ k :: (c :: ks ++ (ex₂ ++ h :: r :: (ex ++ [i, x]))) := by
  intro p hp
  simp only [List.mem_cons, List.mem_append, List.not_mem_nil, or_false] at hp ⊢
  rcases hp with h | h | h | h | h | h | h <;> simp [h]
theorem allA {α : Type} {P : α → Prop} {r i x k : α} {ex ks : List α} (h1 : P r) (h2 : ∀ p ∈ ex, P p) (h3 : P i) (h4 : P x) (h5 : P k) (h6 : ∀ p ∈ ks, P p) : ∀ p ∈ r :: (ex ++ i :: x :: k :: ks), P p := by
  intro p hp
  simp only [List.mem_cons, List.mem_append] at hp
  rcases hp with rfl | h | rfl | rfl | rfl | h
  · exact h1
  · exact h2 _ h
  · exact h3
  · exact h4
  · exact h5
  · exact h6 _ h
theorem allB {α : Type} {P : α → Prop} {c h r i x : α} {ex ex₂ ks : List α} (h1 : P c) (h2 : ∀ p ∈ ks, P p) (h3 : ∀ p ∈ ex₂, P p) (h4 : P h) (h5 : P r) (h6 : ∀ p ∈ ex, P p) (h7 : P i) (h8 : P x) : ∀ p ∈ c :: ks ++ (ex₂ ++ h :: r :: (ex ++ [i, x])), P p := by
  intro p hp
  simp only [List.mem_cons, List.mem_append, List.not_mem_nil, or_false] at hp
  rcases hp with (rfl | h) | h | rfl | rfl | h | rfl | rfl
  · exact h1
  · exact h2 _ h
  · exact h3 _ h
  · exact h4
  · exact h5
  · exact h6 _ h
  · exact h7
  · exact h8
theorem all3 {α : Type} {P : α → Prop} {a b c : α} {ks : List α} (h1 : P a) (h2 : P b) (h3 : P c) (h4 : ∀ p ∈ ks, P p) : ∀ p ∈ a :: b :: c :: ks, P p :=
  List.forall_mem_cons.mpr ⟨h1, List.forall_mem_cons.mpr ⟨h2, List.forall_mem_cons.mpr ⟨h3, h4⟩⟩⟩
theorem all4 {α : Type} {P : α → Prop} {a b c d : α} {ks : List α} (h1 : P a) (h2 : P b) (h3 : P c) (h4 : P d) (h5 : ∀ p ∈ ks, P p) : ∀ p ∈ a :: b :: c :: d :: ks, P p :=
  List.forall_mem_cons.mpr ⟨h1, all3 h2 h3 h4 h5⟩
theorem all5 {α : Type} {P : α → Prop} {a b c d e : α} {ks : List α} (h1 : P a) (h2 : P b) (h3 : P c) (h4 : P d) (h5 : P e) (h6 : ∀ p ∈ ks, P p) : ∀ p ∈ a :: b :: c :: d :: e :: ks, P p :=
  List.forall_mem_cons.mpr ⟨h1, all4 h2 h3 h4 h5 h6⟩
/-- _law_agree on the answers of the two heaps and what is due -/
theorem agr_call {w : World} {A : Around} {E : Value → Shared → Prop} {s : Shared} {b : Int} {tb : Tok} {v₁ v₂ v₃ : Value} {x₁ x₂ x₃ ks : List (Addr × Obj)} {T D : Option (List Int)}
    (G : Gd w s.heap) (hh : A.handled = none) (hd : A.depth + 2 < 900) (hu : A.units + 50 < 9000) (hA : Agr T D) (hts : ∀ ts, T = some ts → ts.length < 50)
    (hdv : DueV v₁ x₁ D) (ht : TellV IntIt v₂ x₂ T) (ht₃ : TellV (KeyIt b ks) v₃ x₃ T)
    (g₁ : ∀ p ∈ x₁, s.heap.get? p.1 = some p.2) (g₂ : ∀ p ∈ x₂, s.heap.get? p.1 = some p.2) (g₃ : ∀ p ∈ x₃, s.heap.get? p.1 = some p.2) (gk : ∀ p ∈ ks, s.heap.get? p.1 = some p.2) :
    wpAny (MM w) A (call (.ref 150) [v₁, v₂, v₃, .int b tb]) (fun v s' => Keeps s s' ∧ v = .bool true) E s := by
  cases T with
  | none =>
    cases D with
    | none =>
      obtain rfl : v₁ = .none := hdv
      obtain rfl : v₂ = .none := ht
      obtain rfl : v₃ = .none := ht₃
      exact agree_none G hh (by omega)
    | some ds => exact hA.elim
  | some ts =>
    cases D with
    | none => exact hA.elim
    | some ds =>
      obtain ⟨d, dv, k₁, rfl, hd₁, hdi⟩ := hdv
      obtain ⟨ta, us, k₂, rfl, hd₂, hti⟩ := ht
      obtain ⟨la, ws, k₃, rfl, hd₃, hli⟩ := ht₃
      have hlen1 := hts ts rfl
      have hlen2 := agr_len hA
      exact agree_some G hh hd hu (g₁ _ hd₁) hdi (g₂ _ hd₂) (ints_its hti) (g₃ _ hd₃) (hli.mono fun _ _ z => z.at gk) hlen1 (by omega) hA.1 hA.2
inductive LI (b : Int) (tb : Tok) (xv : List Value) (s : Shared) (L it xa ha ka : Addr) (i : Nat) (s' : Shared) : Prop
  | mk (ob : Obj) (ns : List Int) (hv kv rv : List Value) (hn kn rn : Nat) (ra : Addr) (ks : List (Addr × Obj))
    (_ : LIt xa i ob) (_ : HP mn ns 0) (_ : ns.length ≤ i) (_ : Its IntIt hv ns) (_ : Its (KeyIt b ks) kv ns) (_ : IntsAre rv (srt ns))
    (_ : ha ≠ ka) (_ : ∀ a ∈ it :: xa :: ra :: ks.map (·.1), a ≠ ha ∧ a ≠ ka) (_ : ∀ a ∈ xa :: ha :: ka :: ra :: ks.map (·.1), a ≠ it)
    (_ : At s s.heap L [(Str.ofString "bias", .int b tb), (Str.ofString "heap", .ref ha), (Str.ofString "keys", .ref ka), (Str.ofString "row", .ref ra)]
      ((it, ob) :: (xa, lo xv 0) :: (ha, lo hv hn) :: (ka, lo kv kn) :: (ra, lo rv rn) :: ks) s')
inductive LE (b : Int) (tb : Tok) (s : Shared) (L ha ka : Addr) (s' : Shared) : Prop
  | mk (ns : List Int) (hv kv rv : List Value) (hn kn rn : Nat) (ra : Addr) (ks : List (Addr × Obj))
    (_ : HP mn ns 0) (_ : ns.length ≤ 12) (_ : Its IntIt hv ns) (_ : Its (KeyIt b ks) kv ns) (_ : IntsAre rv (srt ns))
    (_ : At s s.heap L [(Str.ofString "bias", .int b tb), (Str.ofString "heap", .ref ha), (Str.ofString "keys", .ref ka), (Str.ofString "row", .ref ra)]
      ((ha, lo hv hn) :: (ka, lo kv kn) :: (ra, lo rv rn) :: ks) s')
set_option maxHeartbeats 4000000 in
theorem law_spec {w : World} {E : Value → Shared → Prop} {s : Shared} {a : Addr} {vs : List Value} {xs : List Int} {loose : List Str} {mean : ExcName → Option Value} {mg mb : Str → Option Value}
    (G : Gd w s.heap) (T : Top hd.view_39 loose mean mg mb s.heap) (ha0 : s.heap.IsList a vs.toArray) (hi : IntsAre vs xs) (hz : xs.length ≤ 63) :
    wpC (MM w) callerA (call (.ref 162) [.ref a]) (fun v s' => Keeps s s' ∧ v = .bool true ∧ ∃ L m, Fr s.heap L s'.heap m) E s := by
  refine call_pureC (Post := fun v s' => v = .bool true ∧ ∃ L m, Fr s.heap L s'.heap m) [(Str.ofString "script", .ref a)] G (by decide) (by rfl) (by rfl) (BindsTo.of_eq rfl) (locs rfl) ?_
  intro L s₁ S₁
  have hlen := hi.length
  have isl : ∀ {s' : Shared} {l : List (Str × Value)} {news : List (Addr × Obj)}, At s s.heap L l news s' → s'.heap.IsList a vs.toArray := fun S => ha0.at fun o e => S.keep _ _ e
  refine cExecsL ?_; intro zq zk; refine cAny ?_
  repeat walk_at "n"
  rename_i S₂
  refine S₂.sliceI (isl S₂) (by omega) .none (.int _ _) .none (by decide) (pick_upto vs 1) fun a₃ s₃ S₃ _ => ?_
  repeat walk_at "n"
  rename_i t₄ _ S₄
  refine S₄.newList (by simp) fun a₅ s₅ S₅ _ => ?_
  refine S₅.addList (S₅.get (.tail _ (.head _))) (S₅.get (.head _)) (by simp; omega) (by simp) fun a₆ s₆ S₆ _ => ?_
  repeat walk_at "n"
  rename_i S₇
  have i6 := app_ints (take_ints hi 1) (.cons 122 t₄ .nil)
  obtain ⟨b₀, hb₀⟩ : ∃ b₀, (xs.take 1 ++ [122])[0]? = some b₀ := ⟨_, List.getElem?_eq_getElem (by simp)⟩
  obtain ⟨t₈, h8⟩ := ints_get i6 hb₀
  refine kba_turn (value' := PySem.Expr.Name (PySem.Str.ofString "_") ⟨0, 0, 0, 0⟩) (fun _ => rfl) ?_
  refine At.itemI 0 rfl (S₇.get (.head _)) (by simp; omega) h8 ?_
  repeat walk_at "n"
  rename_i S₉
  refine S₉.mod (by decide) rfl fun t₁₀ s₁₀ S₁₀ => ?_
  repeat walk_at "n"
  rename_i t₁₁ _ _ s₁₁ S₁₁
  generalize b₀.fmod 300 - 50 = b at S₁₁ ⊢
  refine cExecsL ?_; intro zq zk; refine cAny ?_
  repeat walk_at "n"
  refine S₁₁.newList (vs := []) (by simp) fun ha s₁₂ S₁₂ hha => ?_
  repeat walk_at "n"
  rename_i S₁₃
  refine cExecsL ?_; intro zq zk; refine cAny ?_
  repeat walk_at "n"
  refine S₁₃.newList (vs := []) (by simp) fun ka s₁₄ S₁₄ hka => ?_
  repeat walk_at "n"
  rename_i S₁₅
  refine cExecsL ?_; intro zq zk; refine cAny ?_
  repeat walk_at "n"
  refine S₁₅.newList (vs := []) (by simp) fun ra s₁₆ S₁₆ hra => ?_
  repeat walk_at "n"
  rename_i S₁₇
  refine cExecsL ?_; intro zq zk; refine cFor ?_
  repeat walk_at "n"
  rename_i S₁₈
  refine S₁₈.sliceI (isl S₁₈) (by omega) (.int _ _) (.int _ _) .none (by decide) (pick_span vs 1 13 (by decide)) fun a₁₉ s₁₉ S₁₉ h₁₉ => ?_
  repeat walk_at "n"
  rename_i S₂₀
  refine S₂₀.newList (by simp) fun a₂₁ s₂₁ S₂₁ h₂₁ => ?_
  refine S₂₁.addList (S₂₁.get (.tail _ (.head _))) (S₂₁.get (.head _)) (by rw [List.length_drop, List.length_take]; omega) (by simp) fun a₂₂ s₂₂ S₂₂ h₂₂ => ?_
  repeat walk_at "n"
  rename_i S₂₃
  refine kba_turn (value' := PySem.Expr.Name (PySem.Str.ofString "_") ⟨0, 0, 0, 0⟩) (fun _ => rfl) ?_
  refine S₂₃.slice (S₂₃.get (.head _)) (by rw [List.length_append, List.length_drop, List.length_take]; simp; omega) .none (.int _ _) .none (by decide) (pick_upto _ 12) fun xa s₂₄ S₂₄ hxa => ?_
  obtain ⟨xv, xs', hxi, hxl, S₂₅⟩ : ∃ (xv : List Value) (xs' : List Int), IntsAre xv xs' ∧ xs'.length ≤ 12 ∧ At s s.heap L [(Str.ofString "bias", .int b t₁₁), (Str.ofString "heap", .ref ha), (Str.ofString "keys", .ref ka), (Str.ofString "row", .ref ra)]
      ((xa, lo xv 0) :: (ha, lo [] 0) :: (ka, lo [] 0) :: (ra, lo [] 0) :: []) s₂₄ := by
    refine ⟨_, ((xs.take 13).drop 1 ++ [40000, 26, 84, 807, 13, 99, 6, 1]).take 12, ?_, ?_, (S₂₄.dropR rfl).lessR [0, 6, 5, 4] rfl⟩
    · exact take_ints (app_ints (drop_ints (take_ints hi 13) 1) (.cons _ _ (.cons _ _ (.cons _ _ (.cons _ _ (.cons _ _ (.cons _ _ (.cons _ _ (.cons _ _ .nil))))))))) 12
    · exact List.length_take_le ..
  have hxl' := hxi.length
  have n1 : ha ≠ xa := hxa _ (.tail _ (.tail _ (.tail _ (.tail _ (.tail _ (.head _))))))
  have n2 : ka ≠ xa := hxa _ (.tail _ (.tail _ (.tail _ (.tail _ (.head _)))))
  have n3 : ra ≠ xa := hxa _ (.tail _ (.tail _ (.tail _ (.head _))))
  have n4 : ha ≠ ka := hka _ (.head _)
  have n5 : ha ≠ ra := hra _ (.tail _ (.head _))
  have n6 : ka ≠ ra := hra _ (.head _)
  refine S₂₅.iterList (S₂₅.get (.head _)) fun it ob s₂₆ hob S₂₆ hit => ?_
  have m1 : xa ≠ it := hit _ (.head _)
  have m2 : ha ≠ it := hit _ (.tail _ (.head _))
  have m3 : ka ≠ it := hit _ (.tail _ (.tail _ (.head _)))
  have m4 : ra ≠ it := hit _ (.tail _ (.tail _ (.tail _ (.head _))))
  refine codeCMono (R := fun r s' => r = .ok .next ∧ LE b t₁₁ s L ha ka s') (codeCFor (fun q s' => ∃ i, q + i = xs'.length ∧ LI b t₁₁ xv s L it xa ha ka i s') ?_ xs'.length
    ⟨0, rfl, ob, [], [], [], [], 0, 0, 0, ra, [], hob, (fun p _ hp _ => absurd hp (Nat.not_lt_zero _)), Nat.le_refl _, .nil, .nil, .nil, n4, ?_, ?_, S₂₆⟩) ?_
  · intro q s₃₁ zh
    refine hideG ?_
    intro zg
    obtain ⟨i, hqi, ob', ns, hv, kv, rv, hn, kn, rn, ra', ks, hob', hHP, hnl, hhv, hkv, hrv, d1, d2, d3, S₃₁⟩ := zh
    have aw : ∀ p ∈ (xa, lo xv 0) :: (ha, lo hv hn) :: (ka, lo kv kn) :: (ra', lo rv rn) :: ks, p.1 ≠ it := of_map (P := (· ≠ it)) d3
    by_cases hq : q = 0
    · refine S₃₁.doneList hob' aw (S₃₁.get (.tail _ (.head _))) (by omega) rfl fun s₃₂ S₃₂ => ?_
      exact ⟨rfl, ns, hv, kv, rv, hn, kn, rn, ra', ks, hHP, by omega, hhv, hkv, hrv, S₃₂.less (fun p hp => .tail _ hp)⟩
    · have hxi' : xs'[i]? = some (xs'[i]'(o_lt hqi hq)) := List.getElem?_eq_getElem _
      generalize xs'[i]'(o_lt hqi hq) = x at hxi'
      obtain ⟨tx, hxv⟩ := ints_get hxi hxi'
      refine S₃₁.nextList hob' aw (S₃₁.get (.tail _ (.head _))) hxv fun ob₂ s₃₂ hob₂ S₃₂ => ?_
      refine assign_Name ?_
      repeat walk_at "n"
      rename_i S₃₃
      refine cExecsL ?_; intro zq zk; refine cAny ?_
      repeat walk_at "n"
      rename_i S₃₄
      refine S₃₄.floordiv (k := x / 8) (by decide) (by decide) (Int.fdiv_eq_ediv_of_nonneg _ (by decide)) fun t₃₅ s₃₅ S₃₅ => ?_
      repeat walk_at "n"
      rename_i S₃₆
      refine S₃₆.mod (k := x / 8 % 100000000) (by decide) (Int.fmod_eq_emod_of_nonneg _ (by decide)) fun t₃₇ s₃₇ S₃₇ => ?_
      have hy0 : 0 ≤ x / 8 % 100000000 := Int.emod_nonneg _ (by decide)
      have hy1 : x / 8 % 100000000 < 10 ^ 9 := Int.lt_trans (Int.emod_lt_of_pos _ (by decide)) (by decide)
      have hk0 : 0 ≤ x % 8 := Int.emod_nonneg _ (by decide)
      have hk8 : x % 8 < 8 := Int.emod_lt_of_pos _ (by decide)
      generalize x / 8 % 100000000 = y at hy0 hy1 S₃₇ ⊢
      repeat walk_at "n"
      rename_i S₃₈
      refine cExecsL ?_; intro zq zk; refine cAny ?_
      repeat walk_at "n"
      refine S₃₈.callf G (by rfl) (by rfl) ?_
      repeat walk_at "n"
      rename_i S₃₉
      refine S₃₉.mod (k := x % 8) (by decide) (Int.fmod_eq_emod_of_nonneg _ (by decide)) fun t₄₀ s₄₀ S₄₀ => ?_
      repeat walk_at "n"
      refine ⟨⟨_, _, S₄₀⟩, ?_⟩
      refine due_all (r := ra') G S₄₀ (by show callerA.depth + 1 + 5 < 900; decide) (by show callerA.units + 3 + 50 < 9000; decide) (.tail _ (.tail _ (.tail _ (.tail _ (.head _))))) hrv (by rw [srt_length]; omega) hk0 hk8 ?_
      intro T₁ v₁ r' rv' n' ex s₄₁ S₄₁ hrv' hdv hr' hex
      repeat walk_at "n"
      refine S₄₁.unpack (S₄₁.get (.head _)) rfl (by rfl) (by rfl) fun s₄₂ S₄₂ => ?_
      refine assignInOrder_cons (assign_Name ?_)
      repeat walk_at "n"
      refine assignInOrder_cons (assign_Name ?_)
      repeat walk_at "n"
      rename_i S₄₃
      refine assignInOrder_nil ?_
      repeat walk_at "n"
      refine cExecsL ?_; intro zq zk; refine cAny ?_
      repeat walk_at "n"
      refine S₄₃.callf G (by rfl) (by rfl) ?_
      repeat walk_at "n"
      rename_i S₄₄
      refine S₄₄.mod (k := x % 8) (by decide) (Int.fmod_eq_emod_of_nonneg _ (by decide)) fun t₄₅ s₄₅ S₄₅ => ?_
      repeat walk_at "n"
      refine ⟨⟨_, _, S₄₅⟩, ?_⟩
      have d2' : ∀ p ∈ (it, ob₂) :: (xa, lo xv 0) :: (ra', lo rv rn) :: ks, p.1 ≠ ha ∧ p.1 ≠ ka := of_map (P := fun a => a ≠ ha ∧ a ≠ ka) d2
      have ka_in : (ka, lo kv kn) ∈ (it, ob₂) :: (xa, lo xv 0) :: (ha, lo hv hn) :: (ka, lo kv kn) :: (ra', lo rv rn) :: ks := .tail _ (.tail _ (.tail _ (.head _)))
      have ha_in : (ha, lo hv hn) ∈ (it, ob₂) :: (xa, lo xv 0) :: (ha, lo hv hn) :: (ka, lo kv kn) :: (ra', lo rv rn) :: ks := .tail _ (.tail _ (.head _))
      have it_in : (it, ob₂) ∈ (it, ob₂) :: (xa, lo xv 0) :: (ha, lo hv hn) :: (ka, lo kv kn) :: (ra', lo rv rn) :: ks := .head _
      have ks_in : ∀ p ∈ ks, p ∈ (it, ob₂) :: (xa, lo xv 0) :: (ha, lo hv hn) :: (ka, lo kv kn) :: (ra', lo rv rn) :: ks := fun p hp => .tail _ (.tail _ (.tail _ (.tail _ (.tail _ hp))))
      have r_ha : r' ≠ ha := by
        rcases hr' with e | h
        · rw [e]; exact (d2' (ra', lo rv rn) (.tail _ (.tail _ (.head _)))).1
        · exact Ne.symm (h _ ha_in)
      have r_ka : r' ≠ ka := by
        rcases hr' with e | h
        · rw [e]; exact (d2' (ra', lo rv rn) (.tail _ (.tail _ (.head _)))).2
        · exact Ne.symm (h _ ka_in)
      have r_it : r' ≠ it := by
        rcases hr' with e | h
        · rw [e]; exact aw (ra', lo rv rn) (.tail _ (.tail _ (.tail _ (.head _))))
        · exact Ne.symm (h _ it_in)
      have S₄₆ := S₄₅.less (news' := (ha, lo hv hn) :: (r', lo rv' n') :: (ex ++ (it, ob₂) :: (xa, lo xv 0) :: (ka, lo kv kn) :: ks)) lessA
      refine deed_all (It := IntIt) (below_caller _) G.X T G S₄₆ rfl (by decide) (by decide) (allA (P := fun p => p.1 ≠ ha) r_ha (fun p h => Ne.symm (hex p h _ ha_in)) (d2' _ (.head _)).1 (d2' _ (.tail _ (.head _))).1 (Ne.symm d1) (fun p h => (d2' p (.tail _ (.tail _ (.tail _ h)))).1)) rfl (ltok_int _) hhv (by omega) ⟨hy0, hy1, _, rfl⟩ hk0 hk8 ?_
      intro v₂ ex₂ hv' hn' s₄₇ hhv' htell S₄₇ hex₂
      repeat walk_at "n"
      rename_i S₄₈
      refine cExecsL ?_; intro zq zk; refine (cAssignName (S₄₈.ccallf G (by rfl) (by rfl) (cArgsCons (cAny ?_))))
      repeat walk_at "n"
      rename_i S₄₉
      refine S₄₉.mod (k := x % 8) (by decide) (Int.fmod_eq_emod_of_nonneg _ (by decide)) fun t₅₀ s₅₀ S₅₀ => ?_
      refine cArgsCons (cAny ?_)
      repeat walk_at "n"
      refine cArgsCons (S₅₀.ccallf G (by rfl) (by rfl) (cArgsCons (S₅₀.ccallf G (by rfl) (by rfl) (cAny ?_))))
      repeat walk_at "n"
      refine ⟨⟨_, _, S₅₀⟩, ?_⟩
      refine cMono (generate_spec (S₅₀.gd G) (by show callerA.depth + 1 + 3 < 900; decide) hy0 hy1) ?_ (fun _ _ x => x)
      rintro _ s₅₁ ⟨hk51, arr, t₅₁, rfl, harr⟩
      have S₅₁ := S₅₀.kept hk51
      refine cAny ?_
      repeat walk_at "n"
      refine ⟨⟨_, _, S₅₁⟩, ?_⟩
      have hgl := gg_len b 9 y 0 hy0 hy1
      refine cAny (wpAny_mono (key_spec (S₅₁.gd G) rfl (by show callerA.depth + 1 < 900; decide) harr (gg_rng b _ y 0 rfl hy0) (by omega)) ?_ (fun _ _ x => x))
      rintro _ s₅₂ ⟨hk52, kc, kvs, kk, rfl, hkc0, hkc1, hki⟩
      obtain ⟨S₅₂, hkc⟩ := S₅₁.kept1 hk52 hkc0 hkc1
      refine cAny ?_
      repeat walk_at "n"
      refine ⟨⟨_, _, S₅₂⟩, ?_⟩
      have kc_ne : ∀ p ∈ ex₂ ++ (ha, lo hv' hn') :: (r', lo rv' n') :: (ex ++ (it, ob₂) :: (xa, lo xv 0) :: (ka, lo kv kn) :: ks), p.1 ≠ kc := hkc
      have kin : ∀ p ∈ (r', lo rv' n') :: (ex ++ (it, ob₂) :: (xa, lo xv 0) :: (ka, lo kv kn) :: ks), p ∈ ex₂ ++ (ha, lo hv' hn') :: (r', lo rv' n') :: (ex ++ (it, ob₂) :: (xa, lo xv 0) :: (ka, lo kv kn) :: ks) := fun p hp => List.mem_append.mpr (.inr (.tail _ hp))
      have ka2 : (ka, lo kv kn) ∈ (r', lo rv' n') :: (ex ++ (it, ob₂) :: (xa, lo xv 0) :: (ka, lo kv kn) :: ks) := .tail _ (List.mem_append.mpr (.inr (.tail _ (.tail _ (.head _)))))
      have S₅₃ := S₅₂.less (news' := (ka, lo kv kn) :: ((kc, lo kvs kk) :: ks ++ (ex₂ ++ (ha, lo hv' hn') :: (r', lo rv' n') :: (ex ++ [(it, ob₂), (xa, lo xv 0)])))) lessB
      refine cAny (deed_all (It := KeyIt b ((kc, lo kvs kk) :: ks)) (below_caller _) G.X T G S₅₃ rfl (by decide) (by decide) (allB (P := fun p => p.1 ≠ ka) (Ne.symm (kc_ne _ (kin _ ka2))) (fun p h => (d2' p (.tail _ (.tail _ (.tail _ h)))).2) (fun p h => Ne.symm (hex₂ p h _ ka2)) d1 r_ka (fun p h => Ne.symm (hex p h _ ka_in)) (d2' _ (.head _)).2 (d2' _ (.tail _ (.head _))).2) rfl ((ltok_key b _).wide (fun p hp => List.mem_append.mpr (.inl hp))) (hkv.mono fun _ _ z => z.more fun p hp => .tail _ hp) (by omega)
        ⟨hy0, hy1, kc, kvs, kk, rfl, .head _, hki⟩ hk0 hk8 ?_)
      intro v₃ ex₃ kv' kn' s₅₄ hkv' htell₃ S₅₄ hex₃
      repeat walk_at "n"
      rename_i s₅₅ S₅₅
      obtain ⟨hHP', hR', hAgr, hl', hm', hts⟩ := step_ok (x := y) (x % 8) hHP
      have S₅₆ := S₅₅.less (news' := (kc, lo kvs kk) :: ks) (fun p hp => List.mem_append.mpr (.inr (.tail _ (List.mem_append.mpr (.inl hp)))))
      refine cExecsL ?_; intro zq zk; refine cIf ?_
      repeat walk_at "n"
      refine S₅₅.callf G (by rfl) (by rfl) ?_
      repeat walk_at "n"
      refine ⟨⟨_, _, S₅₅⟩, ?_⟩
      refine wpAny_mono (agr_call (S₅₅.gd G) rfl (by show callerA.depth + 1 + 2 < 900; decide) (by show callerA.units + 3 + 50 < 9000; decide) hAgr (fun ts e => by have := hts ts e; omega) hdv htell htell₃
        (fun p hp => S₅₅.get (List.mem_append.mpr (.inr (.tail _ (List.mem_append.mpr (.inr (List.mem_append.mpr (.inr (.tail _ (.tail _ (List.mem_append.mpr (.inl hp))))))))))))
        (fun p hp => S₅₅.get (List.mem_append.mpr (.inr (.tail _ (List.mem_append.mpr (.inr (List.mem_append.mpr (.inl hp)))))))) (fun p hp => S₅₅.get (List.mem_append.mpr (.inl hp))) (fun p hp => S₅₆.get hp)) ?_ (fun _ _ x => x)
      rintro _ s₅₇ ⟨hk57, rfl⟩
      have S₅₇ := S₅₅.kept hk57
      repeat walk_at "n"
      refine cAny ?_
      repeat walk_at "n"
      refine cAny ?_
      repeat walk_at "n"
      rw [hR'] at hrv'
      have kc_ha : kc ≠ ha := Ne.symm (kc_ne (ha, lo hv' hn') (List.mem_append.mpr (.inr (.head _))))
      have kc_ka : kc ≠ ka := Ne.symm (kc_ne _ (kin _ ka2))
      have kc_it : kc ≠ it := Ne.symm (kc_ne _ (kin (it, ob₂) (.tail _ (List.mem_append.mpr (.inr (.head _))))))
      have S₅₈ := (S₅₇.dropR (l' := [(Str.ofString "bias", .int b t₁₁), (Str.ofString "heap", .ref ha), (Str.ofString "keys", .ref ka), (Str.ofString "row", .ref r')]) rfl).less
        (news' := (it, ob₂) :: (xa, lo xv 0) :: (ha, lo hv' hn') :: (ka, lo kv' kn') :: (r', lo rv' n') :: (kc, lo kvs kk) :: ks) lessC
      refine ⟨q - 1, o_pred hq, i + 1, o_next hqi hq, ob₂, (stp (x % 8) ns y).2, hv', kv', rv', hn', kn', n', r', (kc, lo kvs kk) :: ks, hob₂, hHP', by omega, hhv', hkv', hrv', d1,
        all4 (d2' _ (.head _)) (d2' _ (.tail _ (.head _))) ⟨r_ha, r_ka⟩ ⟨kc_ha, kc_ka⟩ (fun a' h => d2 a' (.tail _ (.tail _ (.tail _ h)))), all5 m1 m2 m3 r_it kc_it (fun a' h => d3 a' (.tail _ (.tail _ (.tail _ (.tail _ h))))), S₅₈⟩
  · exact all3 ⟨Ne.symm m2, Ne.symm m3⟩ ⟨Ne.symm n1, Ne.symm n2⟩ ⟨Ne.symm n5, Ne.symm n6⟩ (List.forall_mem_nil _)
  · exact all4 m1 m2 m3 m4 (List.forall_mem_nil _)
  · rintro r s₃₀ ⟨rfl, zh⟩
    refine hideG ?_
    intro zg
    obtain ⟨ns, hv, kv, rv, hn, kn, rn, ra', ks, hHP, hzn, hhv, hkv, hrv, S₃₀⟩ := zh
    refine cExecsL ?_; intro zq zk; refine cAny ?_
    repeat walk_at "n"
    refine S₃₀.callb G (by rfl) (by rfl) (by decide) ?_
    repeat walk_at "n"
    refine S₃₀.sorted (S₃₀.get (.head _)) (ints_its hhv) (by omega) fun so c vs' s₃₁ hso S₃₁ _ => ?_
    repeat walk_at "n"
    refine At.eqL (S₃₁.get (.head _)) hso (S₃₁.get (.tail _ (.tail _ (.tail _ (.head _))))) hrv (by show callerA.units + 3 < 9000; decide) ?_
    rw [decide_eq_true rfl]
    repeat walk_at "n"
    refine S₃₁.callf G (by rfl) (by rfl) ?_
    repeat walk_at "n"
    refine ⟨⟨_, _, S₃₁⟩, ?_⟩
    have S₃₂ := S₃₁.less (news' := ks) (fun p hp => .tail _ (.tail _ (.tail _ (.tail _ hp))))
    refine wpAny_mono (alike_spec (S₃₁.gd G) rfl (by show callerA.depth + 1 + 3 < 900; decide) (by show callerA.units + 3 + 50 < 9000; decide) (S₃₁.get (.tail _ (.head _))) (ints_its hhv) (S₃₁.get (.tail _ (.tail _ (.head _)))) (hkv.mono fun _ _ x => x.at fun p hp => S₃₂.get hp) (by omega) (heap_order hHP)) ?_ (fun _ _ x => x)
    rintro _ s₃₃ ⟨hk33, rfl⟩
    have S₃₃ := S₃₁.kept hk33
    obtain ⟨m, F, _⟩ := S₃₃.fr
    repeat walk_at "n"
    exact ⟨⟨_, _, S₃₃⟩, rfl, _, _, F⟩

end
section -- NbTp
theorem law_holds : PySem.Challenge.rw_nb0203_01.Holds := by
  refine hd ?_
  intro w s₀ s₁ mg mb G Y fa o pm cd doc dV kV ho hd' hcd hD hmg hg args vals as hpre hlay hrd hwl hlo
  have KX := kIn_of Y
  refine Ground.open G ?_
  intro T B D TE TW
  have e : mg (Str.ofString "law") = some (.ref 162) := mg_of KX T.g (by rfl)
  have hmg' : mg (Str.ofString "law") = some (.ref fa) := hmg
  rw [e] at hmg'
  obtain rfl : (162 : Addr) = fa := by injection hmg' with h; injection h
  clear ho hd' hcd hD hmg hmg'
  wrow_args hpre hlay hrd hwl hlo
  rename_i xs _ _ _ _ _ _ _ a vs _ hL _ _ _ hI _ hc _
  have GG : Gd w s₁.heap := ⟨KX, _, _, _, topRead_of T⟩
  refine cMono (law_spec (E := fun _ _ => False) GG T hL hI (by omega)) ?_ (fun _ _ x => x.elim)
  rintro _ s₂ ⟨hk, rfl, L, m, F⟩
  obtain ⟨h', tk, rfl, _⟩ := hk
  refine GoodW.toG (goodW_bool F hg (raisesW_false ?_) ?_)
  · wrow_none_raised
  · wrow_post


end
end Mine
end
theorem PySem.Challenge.cw_nb0203_01_holds : PySem.Challenge.rw_nb0203_01.Holds :=
  Mine.law_holds
