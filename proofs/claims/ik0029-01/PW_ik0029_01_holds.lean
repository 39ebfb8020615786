import PyProof.Rows.All
import Wide.All
import OpenK.AllK
import Wide.FinOn
import PySem.Challenge.RW_ik0029_01
set_option Elab.async false
set_option maxRecDepth 100000
set_option maxHeartbeats 8000000
section C1
open PySem PySem.W PyProof.Rows PySem.Calls
namespace Mine
/-- the claim's caller lies below this context -/
def Has (Γ : Ctx) : Prop := (Γ.below.map (·.1)).any Code.isCaller = true

/-- wpAny over the contexts that have the claim's caller below them -/
def wpC {α : Type} (M : Model) (A : Around) (t : Sem α) (Q : α → Shared → Prop) (E : Value → Shared → Prop) (s : Shared) : Prop :=
  ∀ Γ p, Γ.In A → Has Γ → Sem.wp M Γ t (fun a _ s' => Q a s') (fun e _ s' => E e s') p s
def codeC (M : Model) (A : Around) (c : Code) (R : Result → Shared → Prop) (s : Shared) : Prop :=
  ∀ Γ p, Γ.code = c → Γ.Below A → Has Γ → wpCode M Γ R p s

theorem Has.enter {Γ : Ctx} (h : Has Γ) (c : Code) (hd : Option Value) (p : Pos) : Has (Γ.enter c hd p) := by
  unfold Has at h ⊢
  show (((Γ.code, p) :: Γ.below).map (·.1)).any Code.isCaller = true
  rw [List.map_cons, List.any_cons, h, Bool.or_true]

section
variable {α β : Type} {M : Model} {A : Around} {E : Value → Shared → Prop} {s : Shared} {env : Env}
theorem wpC_of {t : Sem α} {Q : α → Shared → Prop} (h : wpAny M A t Q E s) : wpC M A t Q E s := fun Γ p hΓ _ => h Γ p hΓ
theorem codeC_of {c : Code} {R : Result → Shared → Prop} (h : codeAny M A c R s) : codeC M A c R s := fun Γ p hc hΓ _ => h Γ p hc hΓ
theorem wpC_mono {t : Sem α} {Q Q' : α → Shared → Prop} {E' : Value → Shared → Prop} (h : wpC M A t Q E s)
    (hQ : ∀ a s, Q a s → Q' a s) (hE : ∀ e s, E e s → E' e s) : wpC M A t Q' E' s :=
  fun Γ p hΓ hc => Sem.wp_mono M Γ t (fun a _ s => hQ a s) (fun e _ s => hE e s) p s (h Γ p hΓ hc)
theorem codeC_mono {c : Code} {R R' : Result → Shared → Prop} (h : codeC M A c R s) (hR : ∀ r s, R r s → R' r s) : codeC M A c R' s :=
  fun Γ p hc hΓ hh => wpCode_mono hR (h Γ p hc hΓ hh)
theorem wpC_bind {m : Sem α} {f : α → Sem β} {Q : β → Shared → Prop} (h : wpC M A m (fun a s' => wpC M A (f a) Q E s') E s) :
    wpC M A (m >>= f) Q E s := fun Γ p hΓ hc => by
  rw [Sem.wp_bind']
  exact Sem.wp_mono M Γ m (fun a p' s' h' => h' Γ p' hΓ hc) (fun _ _ _ h' => h') p s (h Γ p hΓ hc)
/-- a first part by the library, the rest in this judgement -/
theorem wpC_then {m : Sem α} {f : α → Sem β} {Q : β → Shared → Prop} (h : wpAny M A m (fun a s' => wpC M A (f a) Q E s') E s) :
    wpC M A (m >>= f) Q E s := wpC_bind (wpC_of h)
theorem wpC_onRaise {m : Sem α} {k : Value → Sem Unit} {Q : α → Shared → Prop}
    (h : wpC M A m Q (fun e s' => wpC M A (k e) (fun _ s'' => E e s'') E s') s) : wpC M A (m.onRaise k) Q E s := fun Γ p hΓ hc => by
  rw [Sem.wp_onRaise]
  exact Sem.wp_mono M Γ m (fun _ _ _ h' => h') (fun e p' s' h' => h' Γ p' hΓ hc) p s (h Γ p hΓ hc)
theorem wpC_attempt {m : Sem α} {Q : Except Value α → Shared → Prop} (h : wpC M A m (fun a => Q (.ok a)) (fun e => Q (.error e)) s) :
    wpC M A m.attempt Q E s := fun Γ p hΓ hc => by rw [Sem.wp_attempt]; exact h Γ p hΓ hc
theorem wpC_holding {vs : List Value} {m : Sem α} {Q : α → Shared → Prop} (h : wpC M A m Q E s) : wpC M A (holding vs m) Q E s :=
  fun Γ p hΓ hc => by rw [Sem.wp_holding]; exact h Γ p hΓ hc
theorem wpC_stand {pos : Pos} {f : Unit → Sem β} {Q : β → Shared → Prop} (h : wpC M A (f ()) Q E s) : wpC M A (standAt pos >>= f) Q E s :=
  wpC_then (wpAny_standAt h)

theorem wpC_run {c : Code} {h : Option Value} {Q : Flow → Shared → Prop}
    (hc : codeC M (A.mark h) c (fun r s' => match r with | .ok f => Q f s' | .error e => E e s') s) (hnb : h ≠ some byPass := by intro x; cases x) :
    wpC M A (run c h) Q E s :=
  fun Γ p hΓ hh => by rw [Sem.wp_run]; exact hc _ p rfl (hΓ.enter c h p hnb) (hh.enter c h p)
theorem wpC_call {f : Value} {pos : List Value} {kw : List (Str × Value)} {Q : Value → Shared → Prop}
    (hc : codeC M A (.call f ⟨pos, kw⟩) (fun r s' => match r with | .ok (.ret v) => Q v s' | .ok _ => False | .error e => E e s') s) :
    wpC M A (call f pos kw) Q E s := fun Γ p hΓ hh => by
  show Sem.wp M Γ (runValue _) _ _ p s
  rw [Sem.wp_runValue]; exact hc _ p rfl (hΓ.enter _ none p (by intro x; cases x)) (hh.enter _ none p)
theorem codeC_of_tree {c : Code} {R : Result → Shared → Prop}
    (h : wpC M (A.under c) (M.den c) (fun fin s' => match fin with | .done f => R (.ok f) s' | .again c' => c'.quiet = true ∧ codeC M A c' R s')
      (fun e s' => R (.error e) s') s) : codeC M A c R s := fun Γ p hc hΓ hh => by
  rw [wpCode_iff_wp, hc]
  refine Sem.wp_mono M Γ _ (fun fin p' s' h' => ?_) (fun _ _ _ h' => h') p s (h Γ p (hc ▸ hΓ.in) hh)
  cases fin with
  | done f => exact h'
  | again c' => exact ⟨h'.1, h'.2 (Γ.goto c') p' rfl (hΓ.goto c') hh⟩
theorem wpC_runOwn {c : Code} {h : Option Value} {Q : Flow → Shared → Prop}
    (hc : codeC M (A.mark h) c (fun r s' => match r with | .ok f => Q f s' | .error e => cameBackBy M A env E e s') s) (hnb : h ≠ some byPass := by intro x; cases x) :
    wpC M A (runOwn c env h) Q E s := by
  unfold runOwn
  exact wpC_onRaise (wpC_mono (wpC_run hc hnb) (fun _ _ x => x) fun _ _ x => wpC_of x)

theorem wpC_execs_cons {st : Stmt} {rest : List Stmt} {Q : Flow → Shared → Prop}
    (h : wpC M A (exec st env) (fun f s' => match f with | .next => wpC M A (execs rest env) Q E s' | f => Q f s') E s) :
    wpC M A (execs (st :: rest) env) Q E s := by
  rw [execs_cons]
  refine wpC_bind (wpC_mono h (fun f s' h' => ?_) fun _ _ x => x)
  cases f <;> first | exact h' | exact wpC_of (wpAny_pure h')
theorem wpC_If {test : Expr} {body orelse : List Stmt} {pos : Pos} {Q : Flow → Shared → Prop}
    (h : wpC M A (isTrue test env (eval test env)) (fun b s₂ => if b then wpC M A (execs body env) Q E s₂ else wpC M A (execs orelse env) Q E s₂) E s) :
    wpC M A (exec (.If test body orelse pos) env) Q E s := by
  rw [exec_If]
  refine wpC_stand (wpC_bind (wpC_mono h (fun b s₂ h₂ => ?_) fun _ _ x => x))
  cases b <;> exact h₂
theorem wpC_isTrue_or {x : Expr} {rest : List Expr} {pos : Pos} {whole : Sem Value} {Q : Bool → Shared → Prop}
    (h : wpC M A (isTrue x env (eval x env)) (fun c s' => if c then Q true s' else wpC M A (isTrue (.BoolOp .Or rest pos) env whole) Q E s') E s) :
    wpC M A (isTrue (.BoolOp .Or (x :: rest) pos) env whole) Q E s := by
  show wpC M A (do
    match BoolOp.Or, ← isTrue x env (eval x env) with
    | .And, false => pure false
    | .Or, true => pure true
    | _, _ => allTrue .Or rest env) Q E s
  refine wpC_bind (wpC_mono h (fun c s' h' => ?_) fun _ _ x => x)
  cases c with
  | false => exact h'
  | true => exact wpC_of (wpAny_pure h')
theorem wpC_isTrue_Compare1 {l r : Expr} {op : CmpOp} {pos : Pos} {whole : Sem Value} {Q : Bool → Shared → Prop}
    (h : wpC M A (eval l env) (fun a s₁ => wpC M A (eval r env) (fun b s₂ => wpC M A (compareOp op a b) (fun c s₃ => wpC M A (truthy c) Q E s₃) E s₂) E s₁) E s)
    (hm : behindInMarks op r = false := by with_unfolding_all rfl) : wpC M A (isTrue (.Compare l [op] [r] pos) env whole) Q E s := by
  rw [isTrue_Compare1, markedBehindIn_of_false hm]
  refine wpC_bind (wpC_mono h (fun a s₁ h₁ => wpC_bind (wpC_holding (wpC_mono h₁ (fun b s₂ h₂ => wpC_stand (wpC_bind ?_)) fun _ _ x => x))) fun _ _ x => x)
  refine wpC_mono (t := operate [a, b] (compareOp op a b)) (Q := fun c s₃ => wpC M A (truthy c) Q E s₃) ?_ (fun c s₃ h₃ => wpC_holding h₃) fun _ _ x => x
  intro Γ p hΓ hc
  rw [Sem.wp_operate]
  exact h₂ Γ p hΓ hc
end
end Mine
end C1
section L1
open PySem PySem.W PyProof.Rows PySem.Calls PySem.NumText
namespace Mine
section
variable {α β : Type} {M : Model} {A : Around} {E : Value → Shared → Prop} {s : Shared} {env : Env}
theorem wpC_mark {own : List String} {e : Value} {Q : Unit → Shared → Prop} (h : Q () s) : wpC M A (markTheRefusal own e) Q E s := by
  unfold markTheRefusal
  intro Γ p hΓ hc
  rw [Sem.wp_bind']
  show Sem.wp M Γ (.stack .pure) _ _ p s
  rw [Sem.wp_stack, Sem.wp_pure]
  have e1 : pythonCodeMadeTheCall own (((Γ.code, p) :: Γ.below).map (·.1)) = false := by
    unfold pythonCodeMadeTheCall
    have e2 : (((Γ.code, p) :: Γ.below).map (·.1)).any Code.isCaller = true := by
      rw [List.map_cons, List.any_cons, show (Γ.below.map (·.1)).any Code.isCaller = true from hc, Bool.or_true]
    show (((!((((Γ.code, p) :: Γ.below).map (·.1)).any Code.isCaller)) && _) && _) = false
    rw [e2]
    rfl
  rw [e1]
  exact h
end
section
variable {prog : Program} {w : World} {A : Around} {E : Value → Shared → Prop} {s : Shared} {y : Str} {u : Tok}
theorem wpC_ite_true {α : Type} {M : Model} {c : Prop} [Decidable c] {a b : Sem α} {Q : α → Shared → Prop} (hc : c) (h : wpC M A a Q E s) : wpC M A (if c then a else b) Q E s := by
  rw [if_pos hc]; exact h
theorem wpC_ite_false {α : Type} {M : Model} {c : Prop} [Decidable c] {a b : Sem α} {Q : α → Shared → Prop} (hc : ¬ c) (h : wpC M A b Q E s) : wpC M A (if c then a else b) Q E s := by
  rw [if_neg hc]; exact h
/-- the refusal itself: the exception made, the mark passed by, the raise -/
theorem refusal_goes {α : Type} {own : List String} {msg : Str} {Q : α → Shared → Prop} (hh : A.handled = none) (hm : msg.length ≤ 640)
    (h : ∀ h' e tk, Heap.NewExc s.heap h' e "ValueError" → E (.ref e) { s with heap := h', toks := tk }) :
    wpC (model prog w) A (do
      let t ← mkStr msg
      let refusal ← newExc (.type "ValueError") [t]
      markTheRefusal own refusal
      raiseNew refusal) Q E s := by
  refine wpC_then (wpAny_mkStr ?_ (by rw [sizeLine_eq]; omega))
  refine wpC_then (wpAny_newExc_plain plainExc_ValueError ?_)
  intro h' e hm
  refine wpC_bind (wpC_mark ?_)
  exact wpC_of (wpAny_raiseNew_none hh (h _ _ _ hm.newExc))
theorem fromText_refuses {Q : Value → Shared → Prop} (hl : y.length ≤ 640) (hc : ∀ c ∈ y.cps.toList, c < 16 ^ 8) (hn : PySem.intText? y = none) (hh : A.handled = none)
    (h : ∀ h' e tk, Heap.NewExc s.heap h' e "ValueError" → E (.ref e) { s with heap := h', toks := tk }) :
    wpC (model prog w) A ((int_private% "intFromText") (.str y u) (numTextOf y) 10) Q E s := by
  have hs : (numSeenOf y).length ≤ 640 := Nat.le_trans (seen_length y) hl
  show wpC _ _ (ite _ _ _) _ _ _
  refine wpC_ite_true hs ?_
  refine wpC_then (wpAny_pure ?_)
  dsimp only
  have tail : ∀ s₁ : Shared, s₁ = s → wpC (model prog w) A (do
      rule "int.__new__.invalid-literal"
      let b ← (int_private% "bytesOf?") (.str y u)
      match b with
      | some b => do
        let v ← mkBytes (b.extract 0 200)
        let shown ← pyRepr v
        let t ← mkStr (((s!"invalid literal for int() with base {10}: " : String) ++ ⟨shown.cps.extract 0 200⟩ : Str))
        let refusal ← newExc (.type "ValueError") [t]
        markTheRefusal ["int.__new__"] refusal
        raiseNew refusal
      | none => do
        let shown ← pyRepr (.str y u)
        let t ← mkStr (((s!"invalid literal for int() with base {10}: " : String) ++ ⟨shown.cps.extract 0 200⟩ : Str))
        let refusal ← newExc (.type "ValueError") [t]
        markTheRefusal ["int.__new__"] refusal
        raiseNew refusal) Q E s₁ := by
    rintro s₁ rfl
    refine wpC_then (wpAny_rule ?_)
    refine wpC_then (wpAny_of_eq (a := none) rfl ?_)
    dsimp only
    refine wpC_then (wpAny_pyRepr_str ?_ ?hz)
    case hz =>
      have := StrLaws.reprText_len y hc
      rw [sizeLine_eq]; omega
    refine refusal_goes hh ?_ h
    rw [Str.length_append]
    have e1 : (Str.ofString (s!"invalid literal for int() with base {10}: ")).length = 40 := by decide +kernel
    have e2 : (Str.mk ((reprText y).cps.extract 0 200)).length ≤ 200 := by
      show ((reprText y).cps.extract 0 200).size ≤ 200
      rw [Array.size_extract]; omega
    omega
  rcases read0 y hs with ⟨n, h1, _, _⟩ | ⟨_, h2 | ⟨i, h2, h3⟩⟩
  · rw [hn] at h1; cases h1
  · have h2' : (int_private% "readNumeral") 0 10 (List.takeWhile (fun x => x != 0) (numTextOf y)) = int_private% "Numeral.invalid" := h2
    rw [h2']
    dsimp only
    refine wpC_then (wpAny_of_eq (a := none) rfl ?_)
    refine wpC_ite_false (by intro e; cases e) ?_
    exact tail s rfl
  · have h2' : (int_private% "readNumeral") 0 10 (List.takeWhile (fun x => x != 0) (numTextOf y)) = (int_private% "Numeral.value") i := h2
    rw [h2']
    dsimp only
    refine wpC_ite_false h3 ?_
    exact tail s rfl
end
end Mine
end L1
section L2
open PySem PySem.W PyProof.Rows PySem.Calls PySem.NumText
namespace Mine
section
variable {prog : Program} {w : World} {A : Around} {E : Value → Shared → Prop} {s : Shared} {y : Str} {u : Tok}
theorem intNew_refuses {Q : Fin → Shared → Prop} (hl : y.length ≤ 640) (hc : ∀ c ∈ y.cps.toList, c < 16 ^ 8) (hn : PySem.intText? y = none) (hh : A.handled = none)
    (h : ∀ h' e tk, Heap.NewExc s.heap h' e "ValueError" → E (.ref e) { s with heap := h', toks := tk }) :
    wpC (model prog w) A (Builtin.«int.__new__» ⟨[.type "int", .str y u], []⟩) Q E s := by
  have hgo := fun Q => fromText_refuses (prog := prog) (w := w) (u := u) (Q := Q) hl hc hn hh h
  clear h hn hc hl
  obtain ⟨hp, g, d, tk, os⟩ := s
  have f1 := F.conv_sub_int
  have f2 := F.madeHere_int
  have f3 := KIN.str_int
  have f4 := KIN.str_idx
  have f5 := KIN.str_trunc
  have f6 : typeOf (.str y u) = pure (.type "str") := rfl
  unfold Builtin.«int.__new__»
  dsimp only
  refine wpC_then ?_
  repeat wp_step
  refine wpC_ite_false (by simp) ?_
  refine wpC_then ?_
  repeat wp_step
  refine wpC_ite_false (by simp) ?_
  refine wpC_then ?_
  repeat wp_step
  refine wpC_ite_false (by simp) ?_
  refine wpC_ite_false (by simp) ?_
  refine wpC_then (wpAny_of_eq (a := PUnit.unit) rfl ?_)
  dsimp only [List.head?, List.length]
  refine wpC_bind (wpC_mono (Q := fun _ _ => False) (E := E) ?_ (fun _ _ x => x.elim) fun _ _ x => x)
  show wpC _ _ (_ >>= _) _ _ _
  refine wpC_then ?_
  repeat wp_step
  dsimp only
  refine wpC_then ?_
  repeat wp_step
  refine wpC_ite_false (by simp) ?_
  refine wpC_then ?_
  repeat wp_step
  dsimp only
  refine wpC_then (wpAny_of_eq (a := some (numTextOf y)) rfl ?_)
  exact hgo _
end
end Mine
end L2
section L3
open PySem PySem.W PyProof.Rows PySem.Calls PySem.NumText
namespace Mine
section
variable {prog : Program} {w : World} {A : Around} {E : Value → Shared → Prop} {s : Shared} {y : Str} {u : Tok}
theorem codeC_builtin {id : String} {args : Args} {b : Builtin} {R : Result → Shared → Prop} (hb : entryFor table id = some b)
    (h : wpC (model prog w) (A.under (.builtin id args)) (b args)
      (fun fin s' => match fin with | .done f => R (.ok f) s' | .again c' => c'.quiet = true ∧ codeC (model prog w) A c' R s') (fun e s' => R (.error e) s') s) :
    codeC (model prog w) A (.builtin id args) R s := by
  refine codeC_of_tree ?_
  have e : (model prog w).den (.builtin id args) = b args := by
    show (match entryFor table id with | some b => b args | none => unsupported ((withoutEnding? id "#data").getD id)) = _
    rw [hb]
  rw [e]
  exact h
/-- int(text) of a text that is no number, the claim's caller below: a ValueError, the heap kept -/
theorem callInt_refuses {Q : Value → Shared → Prop} (hl : y.length ≤ 640) (hc : ∀ c ∈ y.cps.toList, c < 16 ^ 8) (hn : PySem.intText? y = none) (hh : A.handled = none)
    (h : ∀ h' e tk, Heap.NewExc s.heap h' e "ValueError" → E (.ref e) { s with heap := h', toks := tk }) :
    wpC (model prog w) A (call (.type "int") [.str y u]) Q E s := by
  refine wpC_call (codeC_of_tree ?_)
  show wpC _ _ (callAny (.type "int") _) _ _ _
  refine wpC_of (wpAny_pure ⟨Code.quiet_builtin _ (by decide +kernel), codeC_builtin F.entry_type_call ?_⟩)
  rw [Around.under_plain (weight_type_call_type "int" [.str y u] []) (units_type_call_type "int" [.str y u] [])]
  have h1 := F.called_int.notType
  have h2 := F.called_int.canCreate
  have hct := F.typeCall_int_1 (.str y u)
  obtain ⟨c, tl, hmro⟩ := F.called_int.mro
  have hmade := F.called_int.made
  unfold Builtin.«type.__call__»
  dsimp only
  refine wpC_ite_false (by rw [h1]; exact Bool.false_ne_true) ?_
  refine wpC_ite_false (by rw [h2]; exact Bool.false_ne_true) ?_
  refine wpC_then (wpAny_of_eq hct ?_)
  refine wpC_then (wpAny_of_eq hmro ?_)
  refine wpC_ite_false (by simp) ?_
  refine wpC_then (wpAny_of_eq hmade ?_)
  dsimp only
  refine wpC_then (wpAny_pure ?_)
  refine wpC_bind (wpC_mono (Q := fun _ _ => False) (E := E) (wpC_holding (wpC_call ?_)) (fun _ _ x => x.elim) fun _ _ x => x)
  refine codeC_of_tree ?_
  show wpC _ A.in1.in1 (do checkBuiltinCall "int.__new__" ⟨[.type "int", .str y u], []⟩; again (.builtin "int.__new__" ⟨[.type "int", .str y u], []⟩)) _ _ s
  refine wpC_then (wpAny_of_eq (F.newCall_int_1 (.str y u)) ?_)
  refine wpC_of (wpAny_pure ⟨plainId_quiet F.called_int.plain _, codeC_builtin F.entry_int_new ?_⟩)
  rw [Around.under_plainId F.called_int.plain]
  exact intNew_refuses hl hc hn hh h
end
end Mine
end L3
section C2
open PySem PySem.W PyProof.Rows PySem.Calls
namespace Mine
section
variable {α β : Type} {M : Model} {A : Around} {E : Value → Shared → Prop} {s : Shared} {env : Env}
/-- a statement by the library, the rest in this judgement -/
theorem wpC_execs_any {st : Stmt} {rest : List Stmt} {Q : Flow → Shared → Prop}
    (h : wpAny M A (exec st env) (fun f s' => match f with | .next => wpC M A (execs rest env) Q E s' | f => Q f s') E s) :
    wpC M A (execs (st :: rest) env) Q E s := wpC_execs_cons (wpC_of h)
theorem wpC_Assign_Name {x : Str} {pos' pos : Pos} {value : Expr} {Q : Flow → Shared → Prop}
    (h : wpC M A (eval value env) (fun v s₁ => wpAny M A (storeName env x v) (fun _ => Q .next) E s₁) E s)
    (hs : swapsWith value (some (.Name x pos')) pos.line env = pure false := by rfl) :
    wpC M A (exec (.Assign [.Name x pos'] value pos) env) Q E s := by
  rw [exec_Assign_Name env x pos' value pos hs]
  exact wpC_stand (wpC_bind (wpC_mono h (fun v s₁ h₁ => wpC_of (wpAny_bind (wpAny_standAt (wpAny_bind (wpAny_mono (wpAny_bindName h₁) (fun _ _ x => wpAny_pure x) fun _ _ x => x))))) fun _ _ x => x))
theorem wpC_Assign_Tuple {elts : List Expr} {k : Nat} {tpos pos : Pos} {value : Expr} {Q : Flow → Shared → Prop}
    (h : wpC M A (eval value env) (fun v s₁ => wpAny M A (assign (.Tuple elts k tpos) env v) (fun _ => Q .next) E s₁) E s)
    (hs : swapsWithSole [.Tuple elts k tpos] value pos.line env = pure false := by rfl)
    (hw : swappedStores [.Tuple elts k tpos] value env = pure none := by rfl) :
    wpC M A (exec (.Assign [.Tuple elts k tpos] value pos) env) Q E s := by
  rw [exec_Assign]
  refine wpC_stand (wpC_then (wpAny_of_eq hs ?_))
  refine wpC_ite_false Bool.false_ne_true (wpC_bind (wpC_mono h (fun v s₁ h₁ => wpC_of (wpAny_bind (wpAny_of_eq hw ?_))) fun _ _ x => x))
  show wpAny M A (do assignAll v [assign (.Tuple elts k tpos) env]; pure .next) Q E s₁
  exact wpAny_bind (wpAny_mono h₁ (fun _ _ x => wpAny_pure x) fun _ _ x => x)
theorem wpC_keep {vs : List Value} {m : Sem α} {Q : α → Shared → Prop} (h : wpC M A m Q E s) : wpC M A (m.keep vs) Q E s :=
  fun Γ p hΓ hc => by rw [Sem.wp_keep]; exact h Γ p hΓ hc
theorem wpC_callWith {P : Heap → Prop} {f : Value} {first : List Value} {pos : Pos} {args : List (Bool × Sem Value)} {Q : Value → Shared → Prop} (hplain : args.any (·.1) = false)
    (hk : ∀ h, P h → ∃ k, (k = Keeper.frame ∨ k = Keeper.machine ∨ k = Keeper.boundFrame) ∧ Looks M h (keeperOf f) k)
    (h : wpAny M A (evalArgs f true args []) (fun a s₁ => P s₁.heap ∧ wpC M A (call f (first ++ a.pos) a.kw) Q E s₁) E s) : wpC M A (callWith pos f first args []) Q E s := by
  unfold callWith
  refine wpC_bind (wpC_holding (wpC_mono (wpC_of h) (fun a s₁ h₁ => wpC_stand ?_) fun _ _ x => x))
  obtain ⟨k, hk', L⟩ := hk _ h₁.1
  simp only [hplain, List.any_nil, Bool.or_false]
  refine wpC_then (L.here ?_)
  have tail : ∀ {t : Sem Value}, wpC M A t Q E s₁ → wpC M A (t >>= fun r => holding [r] point >>= fun _ => pure r) Q E s₁ :=
    fun ht => wpC_bind (wpC_mono ht (fun r s₂ hr => wpC_of (wpAny_bind (wpAny_holding (wpAny_point (wpAny_pure hr))))) fun _ _ x => x)
  have marked (mk : Value) : wpC M A (callMarked mk f (first ++ a.pos) a.kw) Q E s₁ := by unfold callMarked; exact wpC_keep h₁.2
  rcases hk' with rfl | rfl | rfl <;> dsimp only <;> first | exact tail h₁.2 | (split <;> first | exact tail h₁.2 | exact tail (marked _))
/-- f(e, ..) of a def of the top -/
theorem wpC_callK {K : Frag} {f : Value} {pos : Pos} {e : Expr} {rest : List Expr} {Q : Value → Shared → Prop} (hk : keepIn K f = true)
    (h : wpAny M A (spliced (backTo pos (starEach (e :: rest) env))) (fun vs s₁ => K.In s₁.heap ∧ wpC M A (call f vs) Q E s₁) E s)
    (he : starEach (e :: rest) env = (false, eval e env) :: starEach rest env := by rfl) (hplain : (backTo pos (starEach rest env)).any (·.1) = false := by rfl) :
    wpC M A (callWith pos f [] (backTo pos (starEach (e :: rest) env)) []) Q E s := by
  rw [he] at h ⊢
  exact wpC_callWith (P := K.In) (by show (false || (backTo pos (starEach rest env)).any (·.1)) = false; rw [hplain]; rfl) (keeps_K hk) (evalArgs_plain h)
/-- T(e, ..) of a built-in class -/
theorem wpC_callT {T : String} {pos : Pos} {e : Expr} {rest : List Expr} {Q : Value → Shared → Prop}
    (h : wpAny M A (spliced (backTo pos (starEach (e :: rest) env))) (fun vs s₁ => wpC M A (call (.type T) vs) Q E s₁) E s)
    (he : starEach (e :: rest) env = (false, eval e env) :: starEach rest env := by rfl) (hplain : (backTo pos (starEach rest env)).any (·.1) = false := by rfl) :
    wpC M A (callWith pos (.type T) [] (backTo pos (starEach (e :: rest) env)) []) Q E s := by
  rw [he] at h ⊢
  exact wpC_callWith (P := fun _ => True) (by show (false || (backTo pos (starEach rest env)).any (·.1)) = false; rw [hplain]; rfl)
    (fun _ _ => ⟨.machine, .inr (.inl rfl), Looks.of_pure rfl⟩) (evalArgs_plain (wpAny_mono h (fun _ _ x => ⟨trivial, x⟩) fun _ _ x => x))
theorem wpC_Call_Name {id : Str} {p pos : Pos} {args : List Expr} {Q : Value → Shared → Prop}
    (h : wpAny M A (eval (.Name id p) env) (fun f s₁ => wpC M A (callWith pos f [] (backTo pos (starEach args env)) []) Q E s₁) E s) :
    wpC M A (eval (.Call (.Name id p) args [] pos) env) Q E s := by
  rw [arm_eval_Call_Name']
  exact wpC_then h
theorem wpC_tryStmt {body orelse : Sem Flow} {h₀ : ExceptHandler} {hs : List ExceptHandler} {Q : Flow → Shared → Prop}
    (h : wpC M A body (fun f s₁ => match f with | .next => wpC M A orelse Q E s₁ | f => Q f s₁)
      (fun e s₁ => wpAny M A (noteFrame e env) (fun _ s₂ => wpAny M A (setFlight e none) (fun _ s₃ => wpAny M A (handleBy e env (h₀ :: hs)) Q E s₃) E s₂) E s₁) s) :
    wpC M A (tryStmt false body (h₀ :: hs) orelse [] env) Q E s := by
  unfold tryStmt
  simp only [List.isEmpty_nil, if_true, List.isEmpty_cons, Bool.false_and, Bool.false_eq_true, if_false]
  refine wpC_bind (wpC_attempt (wpC_mono h (fun f s₁ h₁ => ?_) fun e s₁ h₁ => ?_))
  · cases f <;> first | exact h₁ | exact wpC_of (wpAny_pure h₁)
  · exact wpC_of (wpAny_bind (wpAny_mono h₁ (fun _ _ h₂ => wpAny_bind h₂) fun _ _ x => x))
theorem wpC_Try {body orelse : List Stmt} {h₀ : ExceptHandler} {hs : List ExceptHandler} {pos : Pos} {Q : Flow → Shared → Prop}
    (h : wpC M A (execs body env) (fun f s₁ => match f with | .next => wpC M A (execs orelse env) Q E s₁ | f => Q f s₁)
      (fun e s₁ => wpAny M A (noteFrame e env) (fun _ s₂ => wpAny M A (setFlight e none) (fun _ s₃ => wpAny M A (handleBy e env (h₀ :: hs)) Q E s₃) E s₂) E s₁) s) :
    wpC M A (exec (.Try body (h₀ :: hs) orelse [] pos) env) Q E s := by
  rw [arm_exec_Try]
  exact wpC_stand (wpC_tryStmt h)
end

section
variable {prog : Program} {w : World} {A A₀ : Around} {s : Shared} {R : Result → Shared → Prop}
theorem codeC_func {body : List Stmt} {env : Env}
    (h : wpC (model prog w) (A.deeper env) (execs body env) (fun f s' => R (.ok (.ret (match f with | .ret v => v | _ => .none))) s')
      (fun e s' => wpAny (model prog w) (A.deeper env) (leaving env e) (fun _ s'' => R (.error e) s'') (fun e' s'' => R (.error e') s'') s') s) :
    codeC (model prog w) A (.func body env) R s := by
  refine codeC_of_tree ?_
  show wpC _ (A.deeper env) (do point; match ← (execs body env).onRaise (leaving env) with | .ret v => ret v | _ => ret .none) _ _ s
  refine wpC_then (wpAny_point (wpC_bind (wpC_onRaise (wpC_mono h (fun f s' h' => ?_) fun _ _ h' => wpC_of h'))))
  cases f <;> exact wpC_of (wpAny_pure h')
theorem codeC_call_def {a : Addr} {o : Obj} {fd : FuncData} {body : List Stmt} {args : Args} {binds : List (Str × Value)}
    (hroom : A.depth < recursionLimit) (ho : s.heap.get? a = some o) (hdata : o.data = .func fd) (hlim : s.heap.NoLimit) (hcd : s.heap.CodeRec fd.code fd.qualname)
    (hbody : fd.body = .stmts body) (hbind : BindsTo s fd args binds)
    (hcell : ∀ x ∈ fd.scope.names, x.2 ≠ .cell) (hloc : ∀ x ∈ binds, fd.scope.names.lookup x.1 = some .local)
    (h : ∀ h₀, h₀.Ns s.heap.objs.size (fun x => binds.reverse.lookup x) → (∀ b o, s.heap.get? b = some o → h₀.get? b = some o) →
      wpC (model prog w) (A.deeper (callEnv fd s.heap.objs.size a)) (execs body (callEnv fd s.heap.objs.size a)) (fun f s' => R (.ok (.ret (match f with | .ret v => v | _ => .none))) s')
        (fun e s' => wpAny (model prog w) (A.deeper (callEnv fd s.heap.objs.size a)) (leaving (callEnv fd s.heap.objs.size a) e) (fun _ s'' => R (.error e) s'') (fun e' s'' => R (.error e') s'') s')
        { s with heap := h₀, toks := s.toks + binds.length })
    (hco : fd.scope.isCoroutine = false) (hgen : fd.scope.isGenerator = false) (hk : fd.scope.kind = .function) :
    codeC (model prog w) A (.call (.ref a) args) R s := by
  refine codeC_of_tree ?_
  show wpC _ A.in1 (callAny (.ref a) args) _ _ s
  simp only [callAny]
  refine wpC_then (wpAny_load ho ?_)
  obtain ⟨c, oc, vs, tq, hc, hoc, hdc, hq⟩ := hcd
  simp only [hdata, callFunction, hco, hgen, hbody, hc]
  refine wpC_then (m := field (.ref c) 1) (wpAny_field hoc hdc hq ?_)
  refine wpC_then (wpAny_pure ?_)
  refine wpC_then (hbind _ _ _ _ ?_)
  refine wpC_then (wpAny_newFunctionEnv hcell hloc (fun h₀ hns₀ hsb₀ => ?_) hk)
  refine wpC_then (wpAny_enterFrame (hlim.fresh _ hsb₀) hroom ?_)
  refine wpC_of (wpAny_pure (And.intro rfl (codeC_func ?_)))
  have hh := h h₀ hns₀ fun b o e => hsb₀.extBut b o (Nat.ne_of_lt (Heap.lt_size e)) (Heap.get?_push_of_some _ e)
  simp only [callEnv, hc] at hh
  exact hh
end
end Mine
end C2
section C3
open PySem PySem.W PyProof.Rows PySem.Calls
namespace Mine
section
variable {prog : Program} {w : World} {A A₀ : Around} {s : Shared} {R : Result → Shared → Prop} {K : Frag} {base h₀ : Heap} {L f : Addr} {m mg mb : Str → Option Value} {news : List (Addr × Obj)}
  {p : Program} {loose : List Str} {mean : ExcName → Option Value} {env : Env} {outer : List Env}
  {name qual : Str} {params : Arguments} {body : List Stmt} {scope : Scope} {dV kV doc pm cdv ct oc : Value} {an od : Option Addr} {osl : Array (Option Value)} {args : Args} {binds : List (Str × Value)}
/-- a def called within a def, its try not its own -/
theorem codeC_defK (B : Below A₀ base outer h₀) (F : Fr h₀ L s.heap m) (X₀ : K.In h₀) (N : News h₀ L s.heap news) (T : Top p loose mean mg mb h₀) (hA : A.frames = some (env :: outer)) (hf : env.frame = some L) (hke : env.scope.kind = .function)
    (ho : K.lookup f = some ⟨oc, od, .func (fnOf name qual params body scope dV kV doc pm an cdv ct), osl⟩) (hcd : codeIn K cdv qual = true) (hroom : A.depth < recursionLimit)
    (hbind : BindsTo s (fnOf name qual params body scope dV kV doc pm an cdv ct) args binds) (hloc : ∀ y ∈ binds, scope.names.lookup y.1 = some .local)
    (h : ∀ g L' h₁, Fr h₀ L g m → Fr g L' h₁ (fun y => binds.reverse.lookup y) → News g L' h₁ news → Below A base (env :: outer) g → K.In g → Top p loose mean mg mb g →
      wpC (model prog w) (A.deeper (envOf qual scope L' f cdv)) (execs body (envOf qual scope L' f cdv))
        (fun fl s' => LeaveK h₀ L m g R (match fl with | .ret v => v | _ => .none) s')
        (fun e s' => wpAny (model prog w) (A.deeper (envOf qual scope L' f cdv)) (leaving (envOf qual scope L' f cdv) e) (fun _ s'' => R (.error e) s'') (fun e' s'' => R (.error e') s'') s')
        { s with heap := h₁, toks := s.toks + binds.length })
    (hco : scope.isCoroutine = false) (hgen : scope.isGenerator = false) (hk : scope.kind = .function)
    (hcell : ∀ x ∈ scope.names, x.2 ≠ .cell) : codeC (model prog w) A (.call (.ref f) args) R s := by
  have X := X₀.keeps F.keep
  obtain ⟨FG, BG, st, lv⟩ := groundX (R := R) B F N hA hf hke
  refine codeC_call_def (fd := fnOf name qual params body scope dV kV doc pm an cdv ct) (body := body) (binds := binds) hroom (X _ _ ho) rfl (T.nolimit.keeps F.keep) (codeRec_of X hcd) rfl hbind hcell hloc (fun h₁ hns hk₁ => ?_) hco hgen hk
  refine wpC_mono (h _ s.heap.objs.size h₁ FG ⟨hns, fun b o e => hk₁ b o (of_hideAll _ e), Nat.le_of_eq (hideAll_size _ _)⟩
    (fun p hp => ⟨hk₁ _ _ (N p hp).1, Nat.ne_of_lt (Heap.lt_size (N p hp).1), hideAll_none _ (List.mem_map_of_mem hp)⟩) BG (X₀.keeps st) (T.keeps st)) (fun fl s' hl => lv _ _ hl) fun _ _ y => y
/-- a def called from the law's own frame that catches -/
theorem codeC_defS0 {cn : Str} {cs : Scope} {a : Addr} {ccd : Value} (B : Below A₀ base [] h₀) (F : Fr h₀ L s.heap m) (X₀ : K.In h₀) (N : News h₀ L s.heap news) (T : Top p loose mean mg mb h₀) (hA : A.frames = some [envOf cn cs L a ccd])
    (ho : K.lookup f = some ⟨oc, od, .func (fnOf name qual params body scope dV kV doc pm an cdv ct), osl⟩) (hcd : codeIn K cdv qual = true) (hroom : A.depth < recursionLimit)
    (hbind : BindsTo s (fnOf name qual params body scope dV kV doc pm an cdv ct) args binds) (hloc : ∀ y ∈ binds, scope.names.lookup y.1 = some .local)
    (h : ∀ g L' h₁, Fr h₀ L g m → Fr g L' h₁ (fun y => binds.reverse.lookup y) → News g L' h₁ news → Below A base [envOf cn cs L a ccd] g → K.In g → Top p loose mean mg mb g → KtsDicts ([envOf cn cs L a ccd].filterMap (·.frame)) g →
      wpC (model prog w) (A.deeper (envOf qual scope L' f cdv)) (execs body (envOf qual scope L' f cdv))
        (fun fl s' => LeaveS0 ([envOf cn cs L a ccd].filterMap (·.frame)) h₀ L m g R (match fl with | .ret v => v | _ => .none) s')
        (fun e s' => wpAny (model prog w) (A.deeper (envOf qual scope L' f cdv)) (leaving (envOf qual scope L' f cdv) e) (fun _ s'' => R (.error e) s'') (fun e' s'' => R (.error e') s'') s')
        { s with heap := h₁, toks := s.toks + binds.length })
    (hck : cs.kind = .function) (hco : scope.isCoroutine = false) (hgen : scope.isGenerator = false) (hk : scope.kind = .function)
    (hcell : ∀ x ∈ scope.names, x.2 ≠ .cell) : codeC (model prog w) A (.call (.ref f) args) R s := by
  have X := X₀.keeps F.keep
  have nL₀ : h₀.get? L = none := kts_self F
  have low : ∀ b, b ∈ [envOf cn cs L a ccd].filterMap (·.frame) → b = L := fun b hb => by
    rcases kts_mem hb with z | z
    · exact z
    · cases z
  obtain ⟨oL, es, ep, hLg, hLd, hN, hNs, st, B₂⟩ := kts_enter B F N hA hck
  refine codeC_call_def (fd := fnOf name qual params body scope dV kV doc pm an cdv ct) (body := body) (binds := binds) hroom (X _ _ ho) rfl (T.nolimit.keeps F.keep) (codeRec_of X hcd) rfl hbind hcell hloc (fun h₁ hns hk₁ => ?_) hco hgen hk
  have inner := h _ s.heap.objs.size h₁ ⟨hN _ hLg, st, F.above⟩ ⟨hns, fun b o e => hk₁ b o (of_hideAll _ e), Nat.le_of_eq (hideAll_size _ _)⟩
    (fun q hq => ⟨hk₁ _ _ (N q hq).1, Nat.ne_of_lt (Heap.lt_size (N q hq).1), hideAll_none _ (List.mem_map_of_mem hq)⟩) B₂ (X₀.keeps st) (T.keeps st)
    (fun b hb => by rw [low b hb]; exact ⟨oL, es, ep, hLg, hLd⟩)
  refine wpC_mono inner (fun fl s' hl => ?_) fun _ _ y => y
  obtain ⟨g', L', m', news', T', F', N', k⟩ := hl
  obtain ⟨sl, hs⟩ := T'.up hLg
  refine k ⟨hNs sl _ (F'.keep _ _ hs), fun b o e => F'.keep b o (T'.other b o (st b o e) fun q => ?_), F.above⟩ fun q hq => ⟨(N' q hq).1, fun z => ?_, ?_⟩
  · rw [low b q, nL₀] at e
    cases e
  · have hn := (N' q hq).2.2
    rw [z, hs] at hn
    cases hn
  · cases z : h₀.get? q.1 with
    | none => rfl
    | some o =>
      obtain ⟨sl', hs'⟩ := T'.up (st _ _ z)
      have hn := (N' q hq).2.2
      rw [hs'] at hn
      cases hn
end
end Mine
end C3
section C4
open PySem PySem.W PyProof.Rows PySem.Calls
namespace Mine
/-- the context of the claim's caller itself -/
abbrev atCaller : Ctx := ⟨.builtin "claim.caller" {}, none, none, [], none⟩
def wpK {α : Type} (M : Model) (t : Sem α) (Q : α → Shared → Prop) (E : Value → Shared → Prop) (s : Shared) : Prop :=
  ∀ p, Sem.wp M atCaller t (fun a _ s' => Q a s') (fun e _ s' => E e s') p s
section
variable {α β : Type} {M : Model} {E : Value → Shared → Prop} {s : Shared}
theorem wpK_of {t : Sem α} {Q : α → Shared → Prop} (h : wpAny M callerA t Q E s) : wpK M t Q E s := fun p => h _ p caller_in
theorem wpK_mono {t : Sem α} {Q Q' : α → Shared → Prop} {E' : Value → Shared → Prop} (h : wpK M t Q E s)
    (hQ : ∀ a s, Q a s → Q' a s) (hE : ∀ e s, E e s → E' e s) : wpK M t Q' E' s :=
  fun p => Sem.wp_mono M atCaller t (fun a _ s => hQ a s) (fun e _ s => hE e s) p s (h p)
theorem wpK_bind {m : Sem α} {f : α → Sem β} {Q : β → Shared → Prop} (h : wpK M m (fun a s' => wpK M (f a) Q E s') E s) : wpK M (m >>= f) Q E s := fun p => by
  rw [Sem.wp_bind']
  exact Sem.wp_mono M atCaller m (fun a p' s' h' => h' p') (fun _ _ _ h' => h') p s (h p)
theorem wpK_call {f : Value} {pos : List Value} {kw : List (Str × Value)} {Q : Value → Shared → Prop}
    (hc : codeC M callerA (.call f ⟨pos, kw⟩) (fun r s' => match r with | .ok (.ret v) => Q v s' | .ok _ => False | .error e => E e s') s) :
    wpK M (call f pos kw) Q E s := fun p => by
  show Sem.wp M atCaller (runValue _) _ _ p s
  rw [Sem.wp_runValue]
  exact hc _ p rfl (caller_in.enter _ none p (by intro x; cases x)) (by unfold Has; rfl)
end
theorem thread_fromK {prog : Program} {w : World} {t : Sem Fin} {s : Shared} {R : Result → Shared → Prop} (hreg : s.asleep)
    (h : wpK (model prog w) t (fun fin s' => ∃ f, fin = .done f ∧ (R (.ok f) s' ∧ leftWithCleanup s'.gens = false)) (fun e s' => R (.error e) s' ∧ leftWithCleanup s'.gens = false) s) :
    ∃ n r s' s'', runN (denote table) prog w n s ⟨t, .builtin "claim.caller" {}, default, []⟩ = .halted (outcomeOf r) s' ∧
      schedN (denote table) prog w n (.single s ⟨t, .builtin "claim.caller" {}, default, []⟩) = .halted (outcomeOf r) s' ∧ s'.forget = s''.forget ∧ R r s'' := by
  have h' : Sem.wp (model prog w) atCaller t (Sem.finPost (model prog w) atCaller fun r s' => R r s' ∧ leftWithCleanup s'.gens = false)
      (fun e _ s' => R (.error e) s' ∧ leftWithCleanup s'.gens = false) default s := by
    refine Sem.wp_mono _ atCaller t (fun fin p' s' h' => ?_) (fun _ _ _ h' => h') default s (h default)
    obtain ⟨f, rfl, hf⟩ := h'
    exact hf
  obtain ⟨n, r, s₁, s₂, hs, hn, hfo, hR⟩ := wp_halts_full (M := model prog w) (R := R) hreg h'
  exact ⟨n, r, s₂, s₁, hn, hs, hfo, hR⟩

/-- WalkO, asked at the caller's own context alone -/
abbrev WalkC (q : Program) (loose : List Str) (XP : (Str → Option Value) → Heap → Prop) (YP : World → Heap → Prop) (r : RowW) (d : DefRec) (kwd : List (Str × Expr)) : Prop :=
  ∀ (w : World) (s₀ s₁ : Shared) (mg mb : Str → Option Value), Ground q loose r.records XP w s₀ mg mb s₁.heap → YP w s₁.heap → ∀ (a : Addr) (o : Obj) (pm cd doc dV kV : Value), s₁.heap.get? a = some o →
    o.data = .func { docDef d.name d.params d.body d.scope pm cd doc with defaults := dV, kwdefaults := kV } → s₁.heap.CodeRec cd d.name → Dflts mg s₁.heap d.params kwd dV kV → mg d.name = some (.ref a) → s₁.gens = #[] →
    ∀ (args : List WData) (vals : List Value) (as : List Addr), r.claim.pre args = true → WData.layableAll args = true → ReadsAllW r.records (classAt s₀.heap) s₁.heap vals args as → WellAll w.params s₁.heap vals args → (∀ a ∈ as, (a == sysModules) = false) →
      wpK (model r.prog w) (PySem.call (.ref a) vals) (fun v s' => GoodWG r.claim (classAt s₀.heap) (ExcName.means s₀.heap) args s₁ (.ok (.ret v)) s')
        (fun e s' => GoodWG r.claim (classAt s₀.heap) (ExcName.means s₀.heap) args s₁ (.error e) s') s₁
end Mine
namespace Mine.PySem.W
open _root_.PySem _root_.PySem.W
/-- the library's head, its call asked at the caller's own context alone -/
theorem holds_open {r : OpenRow} {q : Program} {loose : List Str} {Xt : Shared → Bool} {XP : (Str → Option Value) → Heap → Prop} {α : Type} {Yf : Shared → α} {Ya : World → α} {YP : World → Heap → Prop} {d : DefRec} {kwd : List (Str × Expr)} {N : Nat}
    (left : LeftO r.prog q loose Xt Yf Ya N) (hY : ∀ w s, Yf s = Ya w → YP w s.heap) (hYk : ∀ w h h', YP w h → (∀ b o, h.get? b = some o → h'.get? b = some o) → YP w h')
    (hX : ∀ s, Xt s = true → XP (s.heap.nsMap mainGlobals) s.heap) (hXk : ∀ mg h h', XP mg h → (∀ b o, h.get? b = some o → h'.get? b = some o) → XP mg h')
    (hdef : defOf q r.name = some (d, kwd)) (hp : r.prog.theDef r.name = some (d.params, d.body, d.scope)) (hk : kwWritten? d.params.kwonlyargs d.params.kw_defaults = some kwd) (hRf : ∀ s, Xt s = true → RecFacts r.records s.heap) (hwr : (!r.writes || r.records.isEmpty) = true)
    (k1 : r.wellSaid = true) (ok : (chainsOk q && opensWell r.prog && (frees r.toRowW && r.within.isEmpty)) = true) (hb : r.prog.bare) (hw : r.toRowW.promised)
    (call : WalkC q loose XP YP r.toRowW d kwd) : r.Holds := by
  obtain ⟨ok, k5⟩ := Bool.and_eq_true_iff.mp ok
  obtain ⟨hch, o1⟩ := Bool.and_eq_true_iff.mp ok
  obtain ⟨k5, k6⟩ := Bool.and_eq_true_iff.mp k5
  obtain ⟨hsame, hu, ha, hap, hm⟩ := frees_parts k5
  have both := fun w => left.behind (XP := fun mg h => XP mg h ∧ RecFacts r.records h) (fun s hs => ⟨hX s hs, hRf s hs⟩) hch w
  refine ⟨k1, hw, ⟨hb, o1, by show r.makers.map _ = []; rw [hm]; rfl⟩, hw.witness, fun w => ⟨(both w).1, fun s' hs' => ?_⟩⟩
  obtain ⟨s₀, hf, hg0, s, hT, hz, hgens, hg, G00, y⟩ := (both w).2 s' hs'
  have G0 : Ground q loose [] XP w s (s.heap.nsMap mainGlobals) (s.heap.nsMap builtinsNs) s.heap := ⟨G00.T, G00.B, G00.D, G00.TE, G00.TD, G00.W, G00.X.1, G00.cls, G00.has, G00.apart, G00.once, G00.K⟩
  have RF := G00.X.2
  have hgens : s.gens = #[] := Array.eq_empty_of_size_eq_zero (beq_iff_eq.mp hgens)
  have G : Ground q loose r.records XP w s _ _ s.heap := RF.ground G0
  refine ⟨s₀, hf, hg0, s, hT, fun n hn => ?_, RF.1, RF.2.1, fun args hpre hlay ord hord => ?_⟩
  · obtain rfl : n = r.name := by split at hn <;> simp_all
    exact pinned_of_view hg G0 hdef hp hk
  obtain ⟨⟨vs, s₁⟩, hlaid⟩ := Option.isSome_iff_exists.mp (layAllW_isSome (P := w.params) (ord := ord) G.has args r.args s (pre_splitW hpre).1)
  have keeps := layAllW_keeps _ _ _ hlaid
  have hal := layAllW_rest _ _ _ hlaid
  obtain ⟨as, hrd, hin, hold⟩ := reads_layAllW hord _ _ _ hlaid hlay s₁.heap (fun _ _ e => e)
  have L : Laid r.records w s s₁ args vs as := ⟨⟨ord, hord, hlaid⟩, hrd, hin, hold, keeps, hal.1.trans hgens, hal.2.2.1⟩
  have G₁ := G.keeps hXk keeps
  have hwi : r.toRowW.claim.within = [] := List.isEmpty_iff.mp k6
  obtain ⟨a, o, pm, cd, doc, dV, kV, h1, h2, h3, h4, h5⟩ := G₁.fn hdef
  have told := call w s s₁ _ _ G₁ (hYk _ _ _ (hY w s y) keeps) a o pm cd doc dV kV h2 h3 h4 h5 (defOf_name hdef ▸ h1) L.gens args vs as hpre hlay L.reads L.well (L.low G.low)
  have ends : ∀ rr s'', GoodWG r.toRowW.claim (classAt s.heap) (ExcName.means s.heap) args s₁ rr s'' →
      (r.toRowW.claim.Ends s args vs s₁ rr s'' ∧ s''.os = s.os ∧ (r.writes = true → namesKept r.prog r.keeps s.heap s''.heap ∧ ∀ x ∈ r.records, ∀ a, classAt s.heap x.1 = some a → recordClass s''.heap a x.1 (x.2.map (·.1)) = true)) ∧ leftWithCleanup s''.gens = false := fun rr s'' g => by
    have z := g.laid (c := r.toRowW.claim) hsame hwi (ident_freeW hu ha hap) L
    exact ⟨⟨z.1, z.2.1, fun q => ⟨namesKept_of hT hg r.keeps keeps g.2.1.old, noTable hwr q⟩⟩, leftWithCleanup_false_of_bare z.2.2⟩
  obtain ⟨k, rr, s', s'', hrun, hsched, hfo, ⟨hcase, hos, hkp⟩⟩ := thread_fromK (prog := r.prog) (w := w) (s := s₁)
    (t := do match ← nsGet mainNs r.name with
      | some f => do ret (← _root_.PySem.call f vs)
      | none => unsupported "claim.caller:no-such-global")
    (R := fun rr s'' => r.toRowW.claim.Ends s args vs s₁ rr s'' ∧ s''.os = s.os ∧ (r.writes = true → namesKept r.prog r.keeps s.heap s''.heap ∧ ∀ x ∈ r.records, ∀ a, classAt s.heap x.1 = some a → recordClass s''.heap a x.1 (x.2.map (·.1)) = true))
    (Shared.asleep_of_life hal.2.2.2 hz)
    (wpK_bind (wpK_of (wpAny_nsGet G₁.T.g (by
      rw [h1]
      exact wpK_bind (wpK_mono told (fun v s'' g => wpK_of (wpAny_pure ⟨_, rfl, ends _ _ g⟩)) fun e s'' g => ends _ _ g)))))
  obtain ⟨eh, _, _, eo, _⟩ := Shared.forget_eq hfo
  have hcase := hcase.congr eh
  have hkp : r.writes = true → namesKept r.prog r.keeps s.heap s'.heap ∧ ∀ x ∈ r.records, ∀ a, classAt s.heap x.1 = some a → recordClass s'.heap a x.1 (x.2.map (·.1)) = true := by rw [eh]; exact hkp
  rw [← eo] at hos
  have hlife : s'.heap.life = s.heap.life := (runN_life _ _ _ hrun).trans hal.2.2.2
  refine ⟨vs, s₁, hlaid, k, _, s', hsched, ?_, (fun _ i x hx => by rw [hgens] at hx; simp at hx), hkp, by rw [hlife], Shared.rest_eq hos⟩
  rcases hcase with ⟨v, rfl, d1, d2, d3, d4, d5⟩ | ⟨e, ob, cls, rfl, d1, d2, d3, d4, d5⟩
  · exact .inl ⟨v, rfl, d1, d2, d3, fun b o y _ => d4 b o y, d5⟩
  · exact .inr ⟨e, ob, cls, rfl, d1, d2, d3, d4, fun b o y _ => d5 b o y⟩
end Mine.PySem.W
end C4
section HdC
open PySem PySem.W PyProof.Rows
namespace Mine
open_top hdC for PySem.Challenge.rw_ik0029_01
end Mine
end HdC
section M1
open PySem PySem.W PyProof.Rows PySem.Calls
namespace Mine
/-- what a call of a def of the top hands back, asked from the law's own frame -/
abbrev LawClaim (w : World) (mean : ExcName → Option Value) (mg mb : Str → Option Value) (f : Addr) (vs : List Value) (R : Tok → Value) : Prop :=
  ∀ (cn : Str) (cs : Scope) (a : Addr) (ccd : Value) (h₀ : Heap) (L : Addr) (m : Str → Option Value) (news : List (Addr × Obj)) (s : Shared) (Q E : Value → Shared → Prop),
    Below callerA h₀ [] h₀ → Fr h₀ L s.heap m → (hdC.heap_39 w.params).In h₀ → News h₀ L s.heap news → Top hdC.view_39 (looseW hdC.view_39 []) mean mg mb h₀ → cs.kind = .function →
    (∀ (t : Tok) (h' : Heap) (tk' : Nat), Fr h₀ L h' m → News h₀ L h' news → Q (R t) { s with heap := h', toks := tk' }) →
    wpAny (model PySem.Challenge.rw_ik0029_01.row.prog w) (callerA.deeper (envOf cn cs L a ccd)) (call (.ref f) vs) Q E s
/-- the same, in the restricted judgement -/
abbrev LawClaimC (w : World) (mean : ExcName → Option Value) (mg mb : Str → Option Value) (f : Addr) (vs : List Value) (R : Tok → Value) : Prop :=
  ∀ (cn : Str) (cs : Scope) (a : Addr) (ccd : Value) (h₀ : Heap) (L : Addr) (m : Str → Option Value) (news : List (Addr × Obj)) (s : Shared) (Q E : Value → Shared → Prop),
    Below callerA h₀ [] h₀ → Fr h₀ L s.heap m → (hdC.heap_39 w.params).In h₀ → News h₀ L s.heap news → Top hdC.view_39 (looseW hdC.view_39 []) mean mg mb h₀ → cs.kind = .function →
    (∀ (t : Tok) (h' : Heap) (tk' : Nat), Fr h₀ L h' m → News h₀ L h' news → Q (R t) { s with heap := h', toks := tk' }) →
    wpC (model PySem.Challenge.rw_ik0029_01.row.prog w) (callerA.deeper (envOf cn cs L a ccd)) (call (.ref f) vs) Q E s

inductive Told where
  | reply | proto | value
  | port (n : Int)

def Told.val : Told → Tok → Value
  | .reply, t => .str (Str.ofString "reply") t
  | .proto, t => .str (Str.ofString "proto") t
  | .value, t => .str (Str.ofString "value") t
  | .port n, t => .int n t

theorem find_bnd {x : Str} (h : ¬ Txt.find x (Str.ofString "(") < 0) : 0 ≤ Txt.find x (Str.ofString "(") ∧ Txt.find x (Str.ofString "(") < x.length := by
  rcases fact_find x (Str.ofString "(") with e | ⟨a, b⟩
  · omega
  · have : (Str.ofString "(").length = 1 := by decide
    omega
theorem find3_bnd {x : Str} {i : Int} (h : ¬ Txt.find3 x (Str.ofString ")") i < 0) (h0 : 0 ≤ i) : i ≤ Txt.find3 x (Str.ofString ")") i ∧ Txt.find3 x (Str.ofString ")") i < x.length := by
  have e0 : Str.ofString ")" = ⟨#[41]⟩ := by decide
  rw [e0] at h ⊢
  rcases StrLaws.find3_spec x 41 i with ⟨e, _⟩ | ⟨k, e, h1, h2, _⟩
  · omega
  · rw [e]
    unfold PySem.fromIndex at h1
    omega
end Mine
end M1
section M2
open PySem PySem.W PyProof.Rows PySem.Calls
namespace Mine
abbrev lf (x : Str) : Int := Txt.find x (Str.ofString "(")
abbrev rt (x : Str) : Int := Txt.find3 x (Str.ofString ")") (lf x + 1)
abbrev pieces (x : Str) : List Str := Txt.split (Txt.slice x (some (lf x + 1)) (some (rt x))) (Txt.item x (lf x + 1))
/-- what `_law_told` hands back of a reply -/
def toldF (x : Str) : Told :=
  if (Txt.slice x none (some 3) != Str.ofString "229") = true then .reply
  else if lf x < 0 then .proto
  else if rt x < 0 then .proto
  else if (Txt.item x (lf x + 1) != Txt.item x (rt x - 1)) = true then .proto
  else if (pieces x).length = 5 then (match (pieces x)[3]? with
    | some y => (match PySem.intText? y with | some n => .port n | none => .value)
    | none => .value)
  else .proto
section
variable {x y : Str} {n : Int}
theorem told_reply (h : (Txt.slice x none (some 3) != Str.ofString "229") = true) : toldF x = .reply := if_pos h
theorem told_p1 (h : (Txt.slice x none (some 3) != Str.ofString "229") = false) (h1 : lf x < 0) : toldF x = .proto := by
  unfold toldF; rw [if_neg (by rw [h]; exact Bool.false_ne_true), if_pos h1]
theorem told_p2 (h : (Txt.slice x none (some 3) != Str.ofString "229") = false) (h1 : ¬ lf x < 0) (h2 : rt x < 0) : toldF x = .proto := by
  unfold toldF; rw [if_neg (by rw [h]; exact Bool.false_ne_true), if_neg h1, if_pos h2]
theorem told_p3 (h : (Txt.slice x none (some 3) != Str.ofString "229") = false) (h1 : ¬ lf x < 0) (h2 : ¬ rt x < 0) (h3 : (Txt.item x (lf x + 1) != Txt.item x (rt x - 1)) = true) : toldF x = .proto := by
  unfold toldF; rw [if_neg (by rw [h]; exact Bool.false_ne_true), if_neg h1, if_neg h2, if_pos h3]
theorem told_p4 (h : (Txt.slice x none (some 3) != Str.ofString "229") = false) (h1 : ¬ lf x < 0) (h2 : ¬ rt x < 0) (h3 : (Txt.item x (lf x + 1) != Txt.item x (rt x - 1)) = false)
    (h4 : (pieces x).length ≠ 5) : toldF x = .proto := by
  unfold toldF; rw [if_neg (by rw [h]; exact Bool.false_ne_true), if_neg h1, if_neg h2, if_neg (by rw [h3]; exact Bool.false_ne_true), if_neg h4]
theorem told_value (h : (Txt.slice x none (some 3) != Str.ofString "229") = false) (h1 : ¬ lf x < 0) (h2 : ¬ rt x < 0) (h3 : (Txt.item x (lf x + 1) != Txt.item x (rt x - 1)) = false)
    (h4 : (pieces x).length = 5) (h5 : (pieces x)[3]? = some y) (h6 : PySem.intText? y = none) : toldF x = .value := by
  unfold toldF; rw [if_neg (by rw [h]; exact Bool.false_ne_true), if_neg h1, if_neg h2, if_neg (by rw [h3]; exact Bool.false_ne_true), if_pos h4, h5]; dsimp only; rw [h6]
theorem told_port (h : (Txt.slice x none (some 3) != Str.ofString "229") = false) (h1 : ¬ lf x < 0) (h2 : ¬ rt x < 0) (h3 : (Txt.item x (lf x + 1) != Txt.item x (rt x - 1)) = false)
    (h4 : (pieces x).length = 5) (h5 : (pieces x)[3]? = some y) (h6 : PySem.intText? y = some n) : toldF x = .port n := by
  unfold toldF; rw [if_neg (by rw [h]; exact Bool.false_ne_true), if_neg h1, if_neg h2, if_neg (by rw [h3]; exact Bool.false_ne_true), if_pos h4, h5]; dsimp only; rw [h6]
end
/-- the signs of a part are signs of the text -/
theorem extract_mem {a : Array Nat} {i j c : Nat} (h : c ∈ (a.extract i j).toList) : c ∈ a.toList := by
  rw [Array.toList_extract] at h
  exact List.mem_of_mem_drop (List.mem_of_mem_take (by simpa [List.extract] using h))
theorem split_mem {s z a : Str} {c : Nat} (ha : a ∈ Txt.split s z) (hc : c ∈ a.cps.toList) : c ∈ s.cps.toList := by
  unfold Txt.split at ha
  split at ha
  · rw [List.mem_singleton.mp ha] at hc; exact hc
  · split at ha
    · rw [List.mem_singleton.mp ha] at hc; exact hc
    · unfold Builtin.Str.partsBetween at ha
      obtain ⟨q, _, rfl⟩ := List.mem_map.mp ha
      exact extract_mem hc
theorem slice_mem {x : Str} {i j : Int} {c : Nat} (h0 : 0 ≤ i) (h1 : i ≤ j) (h2 : j ≤ x.length) (hc : c ∈ (Txt.slice x (some i) (some j)).cps.toList) : c ∈ x.cps.toList := by
  have e : Txt.slice x (some i) (some j) = ⟨((x.cps.toList.drop i.toNat).take (j - i).toNat).toArray⟩ := eq_of_beq (slice_closesL h0 h1 h2)
  rw [e] at hc
  exact List.mem_of_mem_drop (List.mem_of_mem_take (by simpa using hc))
theorem piece_small {x y : Str} (hx : ∀ c ∈ x.cps.toList, c < 128) (h1 : ¬ lf x < 0) (h2 : ¬ rt x < 0) (h : y ∈ pieces x) : ∀ c ∈ y.cps.toList, c < 16 ^ 8 := fun c hc => by
  have b1 := find_bnd h1
  have b2 := find3_bnd h2 (by omega)
  exact Nat.lt_trans (hx c (slice_mem (by omega) b2.1 (by omega) (split_mem h hc))) (by decide)
theorem split_len {s z a : Str} (ha : a ∈ Txt.split s z) : a.length ≤ s.length := by
  unfold Txt.split at ha
  split at ha
  · rw [List.mem_singleton.mp ha]; exact Nat.le_refl _
  · split at ha
    · rw [List.mem_singleton.mp ha]; exact Nat.le_refl _
    · unfold Builtin.Str.partsBetween at ha
      obtain ⟨q, _, rfl⟩ := List.mem_map.mp ha
      show (s.cps.extract q.1 q.2).size ≤ s.cps.size
      rw [Array.size_extract]; omega
theorem piece_len {x y : Str} (h : y ∈ pieces x) : y.length ≤ x.length := Nat.le_trans (split_len h) (PyProof.Txt.length_slice_le x _ _)
theorem pieces_five {x : Str} {l : List (Str × Tok)} (h : l.map (fun x => x.1) = pieces x) (h5 : ((l.length : Nat) : Int) = 5) : (pieces x).length = 5 := by
  rw [← h, List.length_map]; omega
theorem pieces_not {x : Str} {l : List (Str × Tok)} (h : l.map (fun x => x.1) = pieces x) (h5 : ¬ ((l.length : Nat) : Int) = 5) : (pieces x).length ≠ 5 := by
  rw [← h, List.length_map]; omega
theorem int_two {prog : Program} {w : World} {A : Around} {E : Value → Shared → Prop} {s : Shared} {y : Str} {u : Tok} {Q : Value → Shared → Prop} (hl : y.length ≤ 640) (hc : ∀ c ∈ y.cps.toList, c < 16 ^ 8) (hh : A.handled = none)
    (h1 : ∀ n, PySem.intText? y = some n → Q (.int n s.toks) { s with toks := s.toks + 1 })
    (h0 : PySem.intText? y = none → ∀ h' e tk, Heap.NewExc s.heap h' e "ValueError" → E (.ref e) { s with heap := h', toks := tk }) :
    wpC (model prog w) A (call (.type "int") [.str y u]) Q E s := by
  cases hn : PySem.intText? y with
  | none => exact callInt_refuses hl hc hn hh (h0 hn)
  | some n => exact wpC_of (KIN.call_text hn hl (h1 n hn))
end Mine
end M2
section M3
open PySem PySem.W PyProof.Rows PySem.Calls
namespace Mine
def padF (width : Int) (n : Nat) : Int := if width - (n : Int) > 0 then width - (n : Int) else 0
def befF (P way : Int) : Int := [0, P, P.fdiv 2].getD way.toNat 0
theorem pad_gen {C : Int → Prop} {width : Int} {n : Nat} (hw : width ≤ 9) (hn : 1 ≤ n) (h : ∀ P, P = padF width n → 0 ≤ P → P ≤ 8 → C P) : C (if width - (n : Int) > 0 then width - (n : Int) else 0) := by
  refine h _ rfl ?_ ?_ <;> split <;> omega
theorem bef_cases (P way : Int) (h0 : 0 ≤ way) (h1 : way < 3) : (way = 0 ∧ befF P way = 0) ∨ (way = 1 ∧ befF P way = P) ∨ (way = 2 ∧ befF P way = P / 2) := by
  have e : way = 0 ∨ way = 1 ∨ way = 2 := by omega
  rcases e with rfl | rfl | rfl
  · exact .inl ⟨rfl, rfl⟩
  · exact .inr (.inl ⟨rfl, rfl⟩)
  · exact .inr (.inr ⟨rfl, Int.fdiv_eq_ediv_of_nonneg P (by decide)⟩)
theorem bef_gen {C : Int → Prop} {P way : Int} (hP : 0 ≤ P) (h0 : 0 ≤ way) (h1 : way < 3) (h : ∀ B, B = befF P way → 0 ≤ B → B ≤ P → C B) : C ([0, P, P.fdiv 2].getD way.toNat 0) := by
  refine h _ rfl ?_ ?_ <;> (show _ ≤ _; rcases bef_cases P way h0 h1 with ⟨_, e⟩ | ⟨_, e⟩ | ⟨_, e⟩ <;> (unfold befF at e; rw [e]; omega))
section
variable {prog : Program} {w : World} {A : Around} {E : Value → Shared → Prop} {s : Shared} {Q : Value → Shared → Prop}
theorem pow_line {n : Int} {t u : Tok} (h0 : 0 ≤ n) (h1 : n ≤ 10) (h : ∀ p : Int, p = 10 ^ n.toNat → 1 ≤ p → p ≤ 10000000000 → Q (.int p s.toks) { s with toks := s.toks + 1 }) :
    wpAny (model prog w) A (binaryOp .Pow (.int 10 t) (.int n u)) Q E s := by
  refine pow_int_small h0 (by omega) (by decide) (h _ rfl ?_ ?_)
  · have : 0 < (10 : Int) ^ n.toNat := Int.pow_pos (by decide)
    omega
  · have e : n.toNat ≤ 10 := by omega
    exact (by decide : ∀ k : Fin 11, (10 : Int) ^ k.val ≤ 10000000000) ⟨n.toNat, by omega⟩
theorem mul_left {a b : Int} {t u : Tok} (h0 : -(2 ^ 64) < a) (h1 : a < 2 ^ 64) (h : Q (.int (a * b) s.toks) { s with toks := s.toks + 1 }) :
    wpAny (model prog w) A (binaryOp .Mult (.int a t) (.int b u)) Q E s := mul_int h (IntMulOk.of_left (intBits_le_64 h0 h1))
theorem mul_right {a b : Int} {t u : Tok} (h0 : -(2 ^ 64) < b) (h1 : b < 2 ^ 64) (h : Q (.int (a * b) s.toks) { s with toks := s.toks + 1 }) :
    wpAny (model prog w) A (binaryOp .Mult (.int a t) (.int b u)) Q E s := mul_int h (IntMulOk.of_right (intBits_le_64 h0 h1))
end
theorem fig_bnd (fill : Str) : -1 ≤ Txt.find (Str.ofString "0123456789") fill ∧ Txt.find (Str.ofString "0123456789") fill ≤ 10 := by
  rcases fact_find (Str.ofString "0123456789") fill with e | ⟨a, b⟩
  · omega
  · have : (Str.ofString "0123456789").length = 10 := by decide
    omega
abbrev bodyS (port : Int) : Str := Str.ofString (toString port)
abbrev absI (port : Int) : Int := if port < 0 then -port else port
abbrev hasNo (x y : Str) : Bool := (Builtin.Str.occurrences x y 0 x.length 1).isEmpty
abbrev figNum (port : Int) (fill : Str) (P B : Int) : Int :=
  (Txt.find (Str.ofString "0123456789") fill * (10 ^ B.toNat : Int).fdiv 9 * 10 ^ (((Str.ofString (toString (absI port))).length : Nat) : Int).toNat + absI port) * 10 ^ (P - B).toNat +
    Txt.find (Str.ofString "0123456789") fill * (10 ^ (P - B).toNat : Int).fdiv 9
/-- the ways through `_law_due`: P the padding, B what stands ahead -/
inductive DueIs (port : Int) (fill mark : Str) (P B : Int) : Told → Prop
  | brBefore : 0 < P → (fill == Str.ofString ")") = true → 0 < B → DueIs port fill mark P B .proto
  | brLast : 0 < P → (fill == Str.ofString ")") = true → ¬ 0 < B → (Txt.item (bodyS port) (-1) != mark) = true → DueIs port fill mark P B .proto
  | brMany : 0 < P → (fill == Str.ofString ")") = true → ¬ 0 < B → (Txt.item (bodyS port) (-1) != mark) = false → 1 < Txt.count (bodyS port) mark → DueIs port fill mark P B .proto
  | brOne : 0 < P → (fill == Str.ofString ")") = true → ¬ 0 < B → (Txt.item (bodyS port) (-1) != mark) = false → ¬ 1 < Txt.count (bodyS port) mark → absI port < 10 → DueIs port fill mark P B .value
  | brPos : 0 < P → (fill == Str.ofString ")") = true → ¬ 0 < B → (Txt.item (bodyS port) (-1) != mark) = false → ¬ 1 < Txt.count (bodyS port) mark → ¬ absI port < 10 → 0 < port → DueIs port fill mark P B (.port (port.fdiv 10))
  | brNeg : 0 < P → (fill == Str.ofString ")") = true → ¬ 0 < B → (Txt.item (bodyS port) (-1) != mark) = false → ¬ 1 < Txt.count (bodyS port) mark → ¬ absI port < 10 → ¬ 0 < port → DueIs port fill mark P B (.port (-((-port).fdiv 10)))
  | mkBr : (0 < P → (fill == Str.ofString ")") = false) → (mark == Str.ofString ")") = true → DueIs port fill mark P B .proto
  | mkIn : (0 < P → (fill == Str.ofString ")") = false) → (mark == Str.ofString ")") = false → hasNo (bodyS port) mark = false → DueIs port fill mark P B .proto
  | mkFill : (fill == Str.ofString ")") = false → (mark == Str.ofString ")") = false → hasNo (bodyS port) mark = true → 0 < P → (fill == mark) = true → DueIs port fill mark P B .proto
  | bare : (mark == Str.ofString ")") = false → hasNo (bodyS port) mark = true → P = 0 → DueIs port fill mark P B (.port port)
  | blank : 0 < P → (mark == Str.ofString ")") = false → hasNo (bodyS port) mark = true → (fill == mark) = false → (fill == Str.ofString " ") = true → DueIs port fill mark P B (.port port)
  | sg1 : 0 < P → (mark == Str.ofString ")") = false → hasNo (bodyS port) mark = true → (fill == mark) = false → hasNo (Str.ofString "+-") fill = false → 1 < B → DueIs port fill mark P B .value
  | sg2 : 0 < P → (mark == Str.ofString ")") = false → hasNo (bodyS port) mark = true → (fill == mark) = false → hasNo (Str.ofString "+-") fill = false → 0 < P - B → DueIs port fill mark P B .value
  | sg3 : 0 < P → (mark == Str.ofString ")") = false → hasNo (bodyS port) mark = true → (fill == mark) = false → hasNo (Str.ofString "+-") fill = false → port < 0 → DueIs port fill mark P B .value
  | plus : 0 < P → (mark == Str.ofString ")") = false → hasNo (bodyS port) mark = true → (fill == mark) = false → ¬ 1 < B → ¬ 0 < P - B → ¬ port < 0 → (fill == Str.ofString "+") = true → DueIs port fill mark P B (.port port)
  | minus : 0 < P → (mark == Str.ofString ")") = false → hasNo (bodyS port) mark = true → (fill == mark) = false → hasNo (Str.ofString "+-") fill = false → ¬ 1 < B → ¬ 0 < P - B → ¬ port < 0 → (fill == Str.ofString "+") = false → DueIs port fill mark P B (.port (-port))
  | ux : 0 < P → (mark == Str.ofString ")") = false → hasNo (bodyS port) mark = true → (fill == mark) = false → hasNo (Str.ofString "_x") fill = false → DueIs port fill mark P B .value
  | negB : 0 < P → (fill == Str.ofString ")") = false → (mark == Str.ofString ")") = false → hasNo (bodyS port) mark = true → (fill == mark) = false → (fill == Str.ofString " ") = false → hasNo (Str.ofString "+-") fill = true → hasNo (Str.ofString "_x") fill = true → port < 0 → 0 < B → DueIs port fill mark P B .value
  | figNeg : 0 < P → (fill == Str.ofString ")") = false → (mark == Str.ofString ")") = false → hasNo (bodyS port) mark = true → (fill == mark) = false → (fill == Str.ofString " ") = false → hasNo (Str.ofString "+-") fill = true → hasNo (Str.ofString "_x") fill = true → port < 0 → ¬ 0 < B → DueIs port fill mark P B (.port (-(figNum port fill P B)))
  | figPos : 0 < P → (fill == Str.ofString ")") = false → (mark == Str.ofString ")") = false → hasNo (bodyS port) mark = true → (fill == mark) = false → (fill == Str.ofString " ") = false → hasNo (Str.ofString "+-") fill = true → hasNo (Str.ofString "_x") fill = true → ¬ port < 0 → DueIs port fill mark P B (.port (figNum port fill P B))
def DueAt (port : Int) (fill : Str) (way : Int) (mark : Str) (width : Int) (r : Told) : Prop :=
  DueIs port fill mark (padF width (bodyS port).length) (befF (padF width (bodyS port).length) way) r
def fills : List Str := [Str.ofString "0", Str.ofString "3", Str.ofString "7", Str.ofString " ", Str.ofString "+", Str.ofString "-", Str.ofString "_", Str.ofString ")", Str.ofString "x", Str.ofString "9"]
theorem no_fig {fill : Str} (hf : fill ∈ fills) (h1 : (fill == Str.ofString ")") = false) (h2 : (fill == Str.ofString " ") = false) (h3 : hasNo (Str.ofString "+-") fill = true)
    (h4 : hasNo (Str.ofString "_x") fill = true) (h5 : hasNo (Str.ofString "0123456789") fill = true) : False := by
  have key : ∀ f ∈ fills, (f == Str.ofString ")") = false → (f == Str.ofString " ") = false → hasNo (Str.ofString "+-") f = true → hasNo (Str.ofString "_x") f = true → hasNo (Str.ofString "0123456789") f = false := by decide +kernel
  rw [key fill hf h1 h2 h3 h4] at h5
  cases h5
/-- a contract by a relation: what comes back is one of the answers that it allows -/
abbrev LawClaimR (w : World) (mean : ExcName → Option Value) (mg mb : Str → Option Value) (f : Addr) (vs : List Value) (S : Told → Prop) : Prop :=
  ∀ (cn : Str) (cs : Scope) (a : Addr) (ccd : Value) (h₀ : Heap) (L : Addr) (m : Str → Option Value) (news : List (Addr × Obj)) (s : Shared) (Q E : Value → Shared → Prop),
    Below callerA h₀ [] h₀ → Fr h₀ L s.heap m → (hdC.heap_39 w.params).In h₀ → News h₀ L s.heap news → Top hdC.view_39 (looseW hdC.view_39 []) mean mg mb h₀ → cs.kind = .function →
    (∀ r, S r → ∀ (t : Tok) (h' : Heap) (tk' : Nat), Fr h₀ L h' m → News h₀ L h' news → Q (r.val t) { s with heap := h', toks := tk' }) →
    wpAny (model PySem.Challenge.rw_ik0029_01.row.prog w) (callerA.deeper (envOf cn cs L a ccd)) (call (.ref f) vs) Q E s
theorem due_end {h₀ h' : Heap} {L : Addr} {m : Str → Option Value} {news : List (Addr × Obj)} {s : Shared} {Q : Value → Shared → Prop} {port : Int} {fill : Str} {way : Int} {mark : Str} {width P B : Int} {t : Tok} {tk' : Nat} (r : Told)
    (hret : ∀ r, DueAt port fill way mark width r → ∀ (t : Tok) (h' : Heap) (tk' : Nat), Fr h₀ L h' m → News h₀ L h' news → Q (r.val t) { s with heap := h', toks := tk' })
    (hP : P = padF width (bodyS port).length) (hB : B = befF P way) (F : Fr h₀ L h' m) (N : News h₀ L h' news) (e : DueIs port fill mark P B r) : Q (r.val t) { s with heap := h', toks := tk' } := by
  subst hP; subst hB
  exact hret r e t h' tk' F N
end Mine
end M3
section F1
open PySem PySem.W PyProof.Rows PySem.Calls PySem.Builtin.Float
namespace Mine
/-- format(x, fill + align + width) -/
def padText (x : Str) (c a W : Nat) : Str :=
  if W ≤ x.length then x else
    Builtin.Str.padded x (if a == 62 then W - x.length else if a == 94 then (W - x.length) / 2 else 0) ((W - x.length) - (if a == 62 then W - x.length else if a == 94 then (W - x.length) / 2 else 0)) c
theorem spec_read {c a d : Nat} (ha : a = 60 ∨ a = 62 ∨ a = 94) (hd : 49 ≤ d ∧ d ≤ 57) (nm : String) :
    parseFormatSpec [c, a, d] nm 60 = .ok { fill := c, align := a, width := some (d - 48) } := by
  have hd' : d = 49 ∨ d = 50 ∨ d = 51 ∨ d = 52 ∨ d = 53 ∨ d = 54 ∨ d = 55 ∨ d = 56 ∨ d = 57 := by omega
  rcases ha with rfl | rfl | rfl <;> rcases hd' with rfl | rfl | rfl | rfl | rfl | rfl | rfl | rfl | rfl <;> rfl
theorem strSub_whole (x : Str) : Builtin.Str.strSub x 0 x.length = x := by
  unfold Builtin.Str.strSub Str.length
  rw [Array.extract_size]
theorem field_is {c a W : Nat} (ha : a = 60 ∨ a = 62 ∨ a = 94) (x : Str) (nm : String) :
    Builtin.Str.strField x { fill := c, align := a, width := some W } nm = .ok (if W ≤ x.length then none else some (padText x c a W)) := by
  unfold padText
  by_cases h : W ≤ x.length
  · rw [if_pos h]
    rcases ha with rfl | rfl | rfl <;> (unfold Builtin.Str.strField; simp [h]; try rfl)
  · rw [if_neg h, if_neg h]
    have e := strSub_whole x
    rcases ha with rfl | rfl | rfl <;> (unfold Builtin.Str.strField; simp [h, e]; try rfl)
theorem padText_len (x : Str) (c a W : Nat) : (padText x c a W).length = max W x.length := by
  unfold padText
  split
  · omega
  · unfold Builtin.Str.padded Str.length
    simp only [Array.size_append, Array.size_replicate]
    have h : ¬ W ≤ x.cps.size := by assumption
    have e1 : ((W - x.cps.size) / 2) ≤ W - x.cps.size := Nat.div_le_self _ _
    split
    · omega
    · split <;> omega
open Builtin Builtin.Str in
theorem fmt_meets {x spec : Str} {t u : Tok} {c a d : Nat} (hs : spec = ⟨#[c, a, d]⟩) (hc : c < 128) (ha : a = 60 ∨ a = 62 ∨ a = 94) (hd : 49 ≤ d ∧ d ≤ 57) (hx : x.length ≤ 640) :
    Meets («str.__format__» ⟨[.str x t, .str spec u], []⟩) (fun _ R s => ∀ t' k, R (.ok (.ret (.str (padText x c a (d - 48)) t'))) { s with toks := k }) := by
  subst hs
  apply KPc.meets_of
  intro prog w A s Q E h
  unfold Builtin.«str.__format__»
  refine wpAny_bind (wpAny_of_eq (a := (_, _, _)) rfl ?_)
  refine wpAny_bind (wpAny_of_eq (a := some _) rfl ?_)
  refine wpAny_ite ?_
  rw [if_neg (by simp [Str.length])]
  refine wpAny_ite ?_
  rw [if_neg (by simp; omega)]
  refine wpAny_bind (KXf.cut_str ?_)
  have e1 : parseFormatSpec (Str.mk #[c, a, d]).cps.toList "str" 60 = .ok { fill := c, align := a, width := some (d - 48) } := spec_read ha hd "str"
  have e3 : tooLong (d - 48) = false := by unfold tooLong; rw [sizeLine_eq]; exact decide_eq_false (by omega)
  have e4 : ((Str.mk #[c, a, d]).cps.back? == some 0) = false := by
    show ((some d : Option Nat) == some 0) = false
    simp; omega
  have e2 : (do
      let f ← parseFormatSpec (Str.mk #[c, a, d]).cps.toList "str" 60
      let f := if (f.type.isNone && (Str.mk #[c, a, d]).cps.back? == some 0) = true then { f with type := some 0 } else f
      if tooLong (f.width.getD 0) = true then pure none
      else do
        let r ← strField x f "str"
        pure (some r) : Except String (Option (Option Str))) = .ok (some (if d - 48 ≤ x.length then none else some (padText x c a (d - 48)))) := by
    rw [e1]
    show (if tooLong ((if (_ && (Str.mk #[c, a, d]).cps.back? == some 0) = true then _ else _ : FormatSpec).width.getD 0) = true then _ else _) = _
    rw [e4, Bool.and_false, if_neg Bool.false_ne_true]
    show (if tooLong (d - 48) = true then _ else _) = _
    rw [e3, if_neg Bool.false_ne_true, field_is ha]
    rfl
  dsimp only at e2 ⊢
  rw [e2]
  by_cases hw : d - 48 ≤ x.length
  · rw [if_pos hw]
    dsimp only
    refine wpAny_bind (wpAny_rule (KXf.ret_same ?_ h))
    unfold padText; rw [if_pos hw]
  · rw [if_neg hw]
    dsimp only
    exact KXf.ret_text rfl (by rw [padText_len, sizeLine_eq]; omega) h
section
variable {prog : Program} {w : World} {A : Around} {E : Value → Shared → Prop} {s : Shared} {Q : Value → Shared → Prop}
open Builtin Builtin.Str in
theorem format_str {x spec : Str} {t u : Tok} {c a d : Nat} (hs : spec = ⟨#[c, a, d]⟩) (hc : c < 128) (ha : a = 60 ∨ a = 62 ∨ a = 94) (hd : 49 ≤ d ∧ d ≤ 57) (hx : x.length ≤ 640)
    (h : ∀ t' k, Q (.str (padText x c a (d - 48)) t') { s with toks := k }) : wpAny (model prog w) A (call (.builtin "format") [.str x t, .str spec u]) Q E s := by
  have hne : (spec.length == 0) = false := by subst hs; rfl
  refine Calls.call_function_entry PySem.Flt.kind_format PySem.Flt.plain_format PySem.Flt.entry_format (PySem.Flt.args_format _ _) ?_
  unfold Builtin.«format»
  refine wpAny_bind (m := someArgs "format" 1 2 _) (wpAny_pure ?_)
  show wpAny _ _ (typeNameOf (.str spec u) >>= fun specType => (if (spec.length == 0) = true then _ else _)) _ _ s
  rw [hne]
  refine wpAny_bind (wpAny_of_eq (a := "str") rfl ?_)
  show wpAny _ _ (callSpecial? (.str x t) (Str.ofString "__format__") [.str spec u] >>= _) _ _ s
  refine wpAny_bind (wpAny_callSpecial?_slot (name := Str.ofString "__format__") (T := "str") rfl PySem.F.slot_str_format
    (call_meets PySem.F.slot_str_format rfl PySem.F.entry_str_format (PySem.F.args_str_format_2 _ _) (fmt_meets hs hc ha hd hx) fun t' k => ?_))
  exact wpAny_bind (wpAny_isInstance (T := "str") (b := true) rfl isSubtype_str_str (wpAny_pure ⟨_, rfl, h t' k⟩))
end
end Mine
end F1
section F2
open PySem PySem.W PyProof.Rows PySem.Calls PySem.Builtin.Float
namespace Mine
abbrev sFill : Str := Str.ofString "037 +-_)x9"
abbrev sWay : Str := Str.ofString "<>^"
abbrev sMark : Str := Str.ofString "|7- x()"
theorem ten {C : Int → Prop} {i : Int} (h0 : 0 ≤ i) (h1 : i < 10) (h : ∀ k : Fin 10, C k.val) : C i := by
  have := h ⟨i.toNat, by omega⟩
  rwa [show ((⟨i.toNat, by omega⟩ : Fin 10).val : Int) = i from Int.toNat_of_nonneg h0] at this
theorem three {C : Int → Prop} {i : Int} (h0 : 0 ≤ i) (h1 : i < 3) (h : ∀ k : Fin 3, C k.val) : C i := by
  have := h ⟨i.toNat, by omega⟩
  rwa [show ((⟨i.toNat, by omega⟩ : Fin 3).val : Int) = i from Int.toNat_of_nonneg h0] at this
theorem seven {C : Int → Prop} {i : Int} (h0 : 0 ≤ i) (h1 : i < 7) (h : ∀ k : Fin 7, C k.val) : C i := by
  have := h ⟨i.toNat, by omega⟩
  rwa [show ((⟨i.toNat, by omega⟩ : Fin 7).val : Int) = i from Int.toNat_of_nonneg h0] at this
theorem nine {C : Int → Prop} {i : Int} (h0 : 0 ≤ i) (h1 : i < 9) (h : ∀ k : Fin 9, C k.val) : C i := by
  have := h ⟨i.toNat, by omega⟩
  rwa [show ((⟨i.toNat, by omega⟩ : Fin 9).val : Int) = i from Int.toNat_of_nonneg h0] at this
theorem fill_in {i : Int} (h0 : 0 ≤ i) (h1 : i < 10) : Txt.item sFill i ∈ fills := ten (C := fun i => Txt.item sFill i ∈ fills) h0 h1 (by decide +kernel)
theorem fill_c {i : Int} (h0 : 0 ≤ i) (h1 : i < 10) : (Txt.charAt sFill i).getD 0 < 128 := ten (C := fun i => (Txt.charAt sFill i).getD 0 < 128) h0 h1 (by decide +kernel)
theorem way_a {j : Int} (h0 : 0 ≤ j) (h1 : j < 3) : (Txt.charAt sWay j).getD 0 = 60 ∨ (Txt.charAt sWay j).getD 0 = 62 ∨ (Txt.charAt sWay j).getD 0 = 94 :=
  three (C := fun j => (Txt.charAt sWay j).getD 0 = 60 ∨ (Txt.charAt sWay j).getD 0 = 62 ∨ (Txt.charAt sWay j).getD 0 = 94) h0 h1 (by decide +kernel)
theorem width_d {k : Int} (h0 : 0 ≤ k) (h1 : k < 9) : Str.ofString (toString (k + 1)) = ⟨#[49 + k.toNat]⟩ := nine (C := fun k => Str.ofString (toString (k + 1)) = ⟨#[49 + k.toNat]⟩) h0 h1 (by decide +kernel)
/-- the text laid out by the law's format -/
def padL (x : Str) (c : Nat) (way width : Int) : Str :=
  ⟨(List.replicate (befF (padF width x.length) way).toNat c ++ x.cps.toList ++ List.replicate ((padF width x.length).toNat - (befF (padF width x.length) way).toNat) c).toArray⟩
theorem padText_eq {x : Str} {c : Nat} {j k : Int} (h0 : 0 ≤ j) (h1 : j < 3) (k0 : 0 ≤ k) : padText x c ((Txt.charAt sWay j).getD 0) (49 + k.toNat - 48) = padL x c j (k + 1) := by
  have e : (49 + k.toNat - 48 : Nat) = (k + 1).toNat := by omega
  rw [e]
  have hP : (padF (k + 1) x.length).toNat = (k + 1).toNat - x.length := by unfold padF; split <;> omega
  have hP0 : 0 ≤ padF (k + 1) x.length := by unfold padF; split <;> omega
  have hj : j = 0 ∨ j = 1 ∨ j = 2 := by omega
  unfold padText padL
  have hB : (befF (padF (k + 1) x.length) j).toNat = (if (Txt.charAt sWay j).getD 0 == 62 then (k + 1).toNat - x.length else if (Txt.charAt sWay j).getD 0 == 94 then ((k + 1).toNat - x.length) / 2 else 0) := by
    rcases hj with rfl | rfl | rfl
    · rfl
    · show (padF (k + 1) x.length).toNat = _
      rw [hP, if_pos (by decide)]
    · show (Int.fdiv (padF (k + 1) x.length) 2).toNat = _
      rw [if_neg (by decide), if_pos (by decide), Int.fdiv_eq_ediv_of_nonneg _ (by decide)]
      omega
  rw [hB, hP]
  by_cases hw : (k + 1).toNat ≤ x.length
  · rw [if_pos hw]
    have z : (k + 1).toNat - x.length = 0 := by omega
    rw [z]
    simp
  · rw [if_neg hw]
    unfold Builtin.Str.padded
    congr 1
    apply Array.toList_inj.mp
    simp
theorem padL_len {x : Str} {c : Nat} {way width : Int} (h0 : 0 ≤ way) (h1 : way < 3) (hw : width ≤ 9) (hx : x.length ≤ 11) : (padL x c way width).length ≤ 11 := by
  have b := befF
  have hP0 : 0 ≤ padF width x.length := by unfold padF; split <;> omega
  have hP9 : padF width x.length ≤ 9 - (x.length : Int) ∨ padF width x.length = 0 := by unfold padF; split <;> omega
  have hx' : x.cps.toList.length = x.length := by rw [Array.length_toList]; rfl
  have hB : 0 ≤ befF (padF width x.length) way ∧ befF (padF width x.length) way ≤ padF width x.length := by
    rcases bef_cases (padF width x.length) way h0 h1 with ⟨_, e⟩ | ⟨_, e⟩ | ⟨_, e⟩ <;> (rw [e]; omega)
  unfold padL
  show (List.toArray _).size ≤ 11
  rw [List.size_toArray, List.length_append, List.length_append, List.length_replicate, List.length_replicate, hx']
  omega
section
variable {prog : Program} {w : World} {A : Around} {E : Value → Shared → Prop} {s : Shared} {Q : Value → Shared → Prop}
theorem fmt_law {x : Str} {i j k : Int} {t u : Tok} (i0 : 0 ≤ i) (i1 : i < 10) (j0 : 0 ≤ j) (j1 : j < 3) (k0 : 0 ≤ k) (k1 : k < 9) (hx : x.length ≤ 640)
    (h : ∀ t' tk, Q (.str (padL x ((Txt.charAt sFill i).getD 0) j (k + 1)) t') { s with toks := tk }) :
    wpAny (model prog w) A (call (.builtin "format") [.str x t, .str (Txt.item sFill i ++ Txt.item sWay j ++ Str.ofString (toString (k + 1))) u]) Q E s := by
  refine format_str (c := (Txt.charAt sFill i).getD 0) (a := (Txt.charAt sWay j).getD 0) (d := 49 + k.toNat) ?_ (fill_c i0 i1) (way_a j0 j1) (by omega) hx fun t' tk => ?_
  · rw [width_d k0 k1]; rfl
  · rw [padText_eq j0 j1 k0]; exact h t' tk
end
theorem text_nat (m : Nat) : (Str.ofString (toString (m : Int))).cps.toList = (Nat.toDigits 10 m).map Char.toNat := KIN.signs_num m
theorem text_neg (m : Nat) : (Str.ofString (toString (Int.negSucc m))).cps.toList = 45 :: (Nat.toDigits 10 (m + 1)).map Char.toNat := by
  show (Str.ofString ("-" ++ Nat.repr (m + 1))).cps.toList = _
  rw [Str.ofString_eq_toList]
  simp [Nat.repr]
theorem text_len {p : Int} (h0 : -1000000000 ≤ p) (h1 : p < 1000000000) : 1 ≤ (Str.ofString (toString p)).length ∧ (Str.ofString (toString p)).length ≤ 11 ∧
    (Str.ofString (toString (p.natAbs : Int))).length ≤ 10 ∧ 1 ≤ (Str.ofString (toString (p.natAbs : Int))).length := by
  have key : ∀ m : Nat, m ≤ 1000000000 → 1 ≤ (Nat.toDigits 10 m).length ∧ (Nat.toDigits 10 m).length ≤ 10 := fun m hm =>
    ⟨Nat.length_toDigits_pos, (Nat.length_toDigits_le_iff (by decide) (by decide)).mpr (by omega)⟩
  have len : ∀ (x : Str), x.length = x.cps.toList.length := fun x => by rw [Array.length_toList]; rfl
  have nat : ∀ m : Nat, (Str.ofString (toString (m : Int))).length = (Nat.toDigits 10 m).length := fun m => by
    rw [len, text_nat, List.length_map]
  have hk := key p.natAbs (by omega)
  rw [nat]
  have hl : (Str.ofString (toString p)).length = (Nat.toDigits 10 p.natAbs).length + (if p < 0 then 1 else 0) := by
    cases p with
    | ofNat m => rw [if_neg (by simp)]; exact nat m
    | negSucc m => rw [if_pos (Int.negSucc_lt_zero m), len, text_neg, List.length_cons, List.length_map]; rfl
  rw [hl]
  refine ⟨by omega, ?_, hk.2, hk.1⟩
  split <;> omega
end Mine
end F2
section P2
open PySem PySem.W PyProof.Rows PySem.Calls
namespace Mine
abbrev replyF (mark text : Str) : Str := Str.ofString "229 ok) (" ++ Txt.mul mark 3 ++ text ++ mark ++ Str.ofString ")"
abbrev reply2 (x : Str) : Str := Str.ofString "227" ++ Txt.slice x (some 3) none
abbrev textF (n p : Int) : Str := padL (bodyS p) ((Txt.charAt sFill (n.fmod 10)).getD 0) ((n.fdiv 10).fmod 3) ((n.fdiv 210).fmod 9 + 1)
abbrev markF (n : Int) : Str := Txt.item sMark ((n.fdiv 30).fmod 7)
abbrev xF (n p : Int) : Str := replyF (markF n) (textF n p)
theorem app_list (a b : Str) : (a ++ b).cps.toList = a.cps.toList ++ b.cps.toList := by
  show (a.cps ++ b.cps).toList = _
  simp
theorem len_list (x : Str) : x.length = x.cps.toList.length := by rw [Array.length_toList]; rfl
theorem mul3 (c : Nat) : (Txt.mul ⟨#[c]⟩ 3).cps.toList = [c, c, c] := rfl
/-- the signs of a written number -/
theorem digs (m : Nat) : ∀ c ∈ (Nat.toDigits 10 m).map Char.toNat, 48 ≤ c ∧ c ≤ 57 := by
  intro c hc
  obtain ⟨d, hd, rfl⟩ := List.mem_map.mp hc
  have hdg := Nat.isDigit_of_mem_toDigits (by decide) (by decide) hd
  unfold Char.isDigit at hdg
  have h2 := Bool.and_eq_true_iff.mp hdg
  exact ⟨UInt32.le_iff_toNat_le.mp (of_decide_eq_true h2.1), UInt32.le_iff_toNat_le.mp (of_decide_eq_true h2.2)⟩
theorem body_small (p : Int) : ∀ c ∈ (bodyS p).cps.toList, c = 45 ∨ 48 ≤ c ∧ c ≤ 57 := by
  cases p with
  | ofNat m => intro c hc; exact .inr (digs m c (by rw [← text_nat]; exact hc))
  | negSucc m =>
    intro c hc
    rw [text_neg] at hc
    rcases List.mem_cons.mp hc with rfl | hc
    · exact .inl rfl
    · exact .inr (digs _ c hc)
theorem mark_c {i : Int} (h0 : 0 ≤ i) (h1 : i < 7) : (Txt.charAt sMark i).getD 0 < 128 := seven (C := fun i => (Txt.charAt sMark i).getD 0 < 128) h0 h1 (by decide +kernel)
theorem xF_list (n p : Int) : (xF n p).cps.toList = [50, 50, 57, 32, 111, 107, 41, 32, 40] ++ List.replicate 3 ((Txt.charAt sMark ((n.fdiv 30).fmod 7)).getD 0) ++ (textF n p).cps.toList ++ [(Txt.charAt sMark ((n.fdiv 30).fmod 7)).getD 0] ++ [41] := by
  unfold xF replyF
  rw [app_list, app_list, app_list, app_list]
  rfl
theorem xF_small {n p : Int} (p0 : -1000000000 ≤ p) (p1 : p < 1000000000) : (xF n p).length ≤ 50 ∧ ∀ c ∈ (xF n p).cps.toList, c < 128 := by
  have b9 := Int.fmod_lt_of_pos (n.fdiv 210) (show (0:Int) < 9 by decide)
  have hl : (textF n p).length ≤ 11 := padL_len (x := bodyS p) (c := (Txt.charAt sFill (n.fmod 10)).getD 0) (way := (n.fdiv 10).fmod 3) (width := (n.fdiv 210).fmod 9 + 1) (Int.fmod_nonneg_of_pos _ (by decide)) (Int.fmod_lt_of_pos _ (by decide)) (by omega) (text_len p0 p1).2.1
  have hm := mark_c (i := (n.fdiv 30).fmod 7) (Int.fmod_nonneg_of_pos _ (by decide)) (Int.fmod_lt_of_pos _ (by decide))
  have hf := fill_c (i := n.fmod 10) (Int.fmod_nonneg_of_pos _ (by decide)) (Int.fmod_lt_of_pos _ (by decide))
  constructor
  · rw [len_list] at hl ⊢
    rw [xF_list]
    simp only [List.length_append, List.length_replicate, List.length_cons, List.length_nil]
    omega
  · intro c hc
    rw [xF_list] at hc
    simp only [List.mem_append, List.mem_replicate, List.mem_cons, List.not_mem_nil, or_false] at hc
    rcases hc with (((hc | hc) | hc) | hc) | hc
    · rcases hc with rfl | rfl | rfl | rfl | rfl | rfl | rfl | rfl | rfl <;> decide
    · omega
    · unfold textF padL at hc
      simp only [List.mem_append, List.mem_replicate] at hc
      rcases hc with (hc | hc) | hc
      · omega
      · have := body_small p c hc; omega
      · omega
    · omega
    · omega
theorem x2_small {x : Str} (h : x.length ≤ 50 ∧ ∀ c ∈ x.cps.toList, c < 128) : (reply2 x).length ≤ 60 ∧ ∀ c ∈ (reply2 x).cps.toList, c < 128 := by
  have hl := PyProof.Txt.length_slice_le x (some 3) none
  constructor
  · rw [len_list] at hl ⊢
    rw [app_list, List.length_append]
    have := h.1
    have e : (Str.ofString "227").cps.toList.length = 3 := by decide
    omega
  · intro c hc
    rw [app_list] at hc
    rcases List.mem_append.mp hc with hc | hc
    · exact (by decide : ∀ c ∈ (Str.ofString "227").cps.toList, c < 128) c hc
    · refine h.2 c ?_
      unfold Txt.slice at hc
      split at hc
      · exact hc
      · obtain ⟨i, _, hi⟩ := List.mem_filterMap.mp hc
        exact Array.mem_toList_iff.mpr (Array.mem_of_getElem? hi)
theorem head3 {x : Str} {a b c : Nat} {l : List Nat} (h : x.cps.toList = a :: b :: c :: l) : Txt.slice x none (some 3) = ⟨#[a, b, c]⟩ := by
  have hl : x.length = l.length + 3 := by rw [len_list, h]; rfl
  rw [eq_of_beq (slice_closes_toL (x := x) (j := 3) (by decide) (by omega)), h]
  rfl
theorem x2_told {x : Str} : toldF (reply2 x) = .reply := by
  refine told_reply ?_
  rw [head3 (x := reply2 x) (by rw [app_list]; rfl)]
  decide
end Mine
end P2
section P3
open PySem PySem.W PyProof.Rows PySem.Calls
namespace Mine
theorem str_ext {a b : Str} (h : a.cps.toList = b.cps.toList) : a = b := by
  cases a; cases b; congr 1; exact Array.toList_inj.mp h
theorem cut_inj {c : Nat} : ∀ {x y A B : List Nat}, c ∉ x → c ∉ y → x ++ c :: A = y ++ c :: B → x = y ∧ A = B
  | [], [], _, _, _, _, h => ⟨rfl, (List.cons.inj h).2⟩
  | [], b :: y, _, _, _, h2, h => absurd (List.mem_cons.mpr (.inl (List.cons.inj h).1)) h2
  | a :: x, [], _, _, h1, _, h => absurd (List.mem_cons.mpr (.inl (List.cons.inj h).1.symm)) h1
  | a :: x, b :: y, _, _, h1, h2, h => by
    obtain ⟨e, h'⟩ := List.cons.inj h
    obtain ⟨e1, e2⟩ := cut_inj (fun z => h1 (.tail _ z)) (fun z => h2 (.tail _ z)) h'
    exact ⟨by rw [e, e1], e2⟩
theorem join_cons2 (c : Nat) (x z : Str) (r : List Str) : (Str.join ⟨#[c]⟩ (x :: z :: r)).cps.toList = x.cps.toList ++ c :: (Str.join ⟨#[c]⟩ (z :: r)).cps.toList := by
  show (x ++ (⟨#[c]⟩ : Str) ++ Str.join ⟨#[c]⟩ (z :: r)).cps.toList = _
  rw [app_list, app_list]
  simp
theorem join_uniq {c : Nat} : ∀ {P P' : List Str}, P ≠ [] → P' ≠ [] → (∀ p ∈ P, c ∉ p.cps.toList) → (∀ p ∈ P', c ∉ p.cps.toList) →
    (Str.join ⟨#[c]⟩ P).cps.toList = (Str.join ⟨#[c]⟩ P').cps.toList → P = P'
  | [], _, h, _, _, _, _ => absurd rfl h
  | _, [], _, h, _, _, _ => absurd rfl h
  | [x], [y], _, _, _, _, h => by rw [str_ext (show x.cps.toList = y.cps.toList from h)]
  | [x], y :: z :: r, _, _, h1, _, h => by
    rw [join_cons2] at h
    have h' : x.cps.toList = y.cps.toList ++ c :: (Str.join ⟨#[c]⟩ (z :: r)).cps.toList := h
    exact absurd (by rw [h']; simp) (h1 x (.head _))
  | y :: z :: r, [x], _, _, _, h1, h => by
    rw [join_cons2] at h
    have h' : x.cps.toList = y.cps.toList ++ c :: (Str.join ⟨#[c]⟩ (z :: r)).cps.toList := h.symm
    exact absurd (by rw [h']; simp) (h1 x (.head _))
  | x :: z :: r, y :: z' :: r', _, _, h1, h2, h => by
    rw [join_cons2, join_cons2] at h
    obtain ⟨e1, e2⟩ := cut_inj (h1 x (.head _)) (h2 y (.head _)) h
    rw [str_ext e1, join_uniq (P := z :: r) (P' := z' :: r') (List.cons_ne_nil _ _) (List.cons_ne_nil _ _) (fun p hp => h1 p (.tail _ hp)) (fun p hp => h2 p (.tail _ hp)) e2]
theorem split_is {x : Str} {c : Nat} {P : List Str} (hne : P ≠ []) (hf : ∀ p ∈ P, c ∉ p.cps.toList) (h : (Str.join ⟨#[c]⟩ P).cps.toList = x.cps.toList) : Txt.split x ⟨#[c]⟩ = P := by
  refine join_uniq ?_ hne (StrLaws.split_free x c) hf ?_
  · intro e
    have := split_pos x ⟨#[c]⟩
    rw [e] at this
    exact absurd this (by decide)
  · rw [StrLaws.join_split]; exact h.symm
theorem find3_at {x : Str} {c k : Nat} {i : Int} (h1 : fromIndex x.length i ≤ k) (h2 : k < x.length) (h3 : x.cps.getD k 0 = c) (h4 : ∀ v, fromIndex x.length i ≤ v → v < k → x.cps.getD v 0 ≠ c) :
    Txt.find3 x ⟨#[c]⟩ i = k := by
  rcases StrLaws.find3_spec x c i with ⟨_, h⟩ | ⟨k', e, a1, a2, a3, a4⟩
  · exact absurd h3 (h k h1 h2)
  · rw [e]
    have : k' = k := by
      rcases Nat.lt_trichotomy k' k with q | q | q
      · exact absurd a3 (h4 k' a1 q)
      · exact q
      · exact absurd h3 (a4 k h1 q)
    rw [this]
end Mine
end P3
section P4
open PySem PySem.W PyProof.Rows PySem.Calls
namespace Mine
theorem getD_list (x : Str) (v : Nat) : x.cps.getD v 0 = (x.cps.toList[v]?).getD 0 := by
  rw [Array.getD_eq_getD_getElem?, Array.getElem?_toList]
abbrev pre9 (l : List Nat) : List Nat := 50 :: 50 :: 57 :: 32 :: 111 :: 107 :: 41 :: 32 :: 40 :: l
section
variable {x : Str} {m : Nat}
theorem lf_is {l : List Nat} (hx : x.cps.toList = pre9 l) : lf x = 8 := by
  have hl : x.length = l.length + 9 := by rw [len_list, hx]; rfl
  show Txt.find x ⟨#[40]⟩ = 8
  rw [find_is_find3]
  refine find3_at (k := 8) (Nat.zero_le _) (by omega) (by rw [getD_list, hx]; rfl) fun v _ hv => ?_
  rw [getD_list, hx]
  have : v = 0 ∨ v = 1 ∨ v = 2 ∨ v = 3 ∨ v = 4 ∨ v = 5 ∨ v = 6 ∨ v = 7 := by omega
  rcases this with rfl | rfl | rfl | rfl | rfl | rfl | rfl | rfl <;> simp
theorem head_is {l : List Nat} (hx : x.cps.toList = pre9 l) : (Txt.slice x none (some 3) != Str.ofString "229") = false := by
  rw [head3 hx]; rfl
theorem from9 {l : List Nat} (hx : x.cps.toList = pre9 l) : fromIndex x.length (lf x + 1) = 9 := by
  rw [lf_is hx]; rfl
theorem rt_mark {l : List Nat} (hx : x.cps.toList = pre9 (41 :: l)) : rt x = 9 := by
  have hl : x.length = l.length + 10 := by rw [len_list, hx]; rfl
  show Txt.find3 x ⟨#[41]⟩ (lf x + 1) = 9
  exact find3_at (k := 9) (by rw [from9 hx]; exact Nat.le_refl _) (by omega) (by rw [getD_list, hx]; rfl) fun v h1 h2 => by rw [from9 hx] at h1; omega
theorem rt_is {R S : List Nat} (hx : x.cps.toList = pre9 (m :: m :: m :: (R ++ 41 :: S))) (hm : m ≠ 41) (hR : 41 ∉ R) : rt x = ((12 + R.length : Nat) : Int) := by
  have hl : x.length = R.length + S.length + 13 := by rw [len_list, hx]; simp; omega
  have get : ∀ j, (x.cps.toList[j + 12]?).getD 0 = ((R ++ 41 :: S)[j]?).getD 0 := fun j => by rw [hx]; rfl
  show Txt.find3 x ⟨#[41]⟩ (lf x + 1) = _
  refine find3_at (by rw [from9 hx]; omega) (by omega) ?_ fun v h1 h2 => ?_
  · rw [getD_list, Nat.add_comm, get]; simp
  · rw [from9 hx] at h1
    rw [getD_list]
    by_cases hv : v < 12
    · have : v = 9 ∨ v = 10 ∨ v = 11 := by omega
      rcases this with rfl | rfl | rfl <;> (rw [hx]; exact hm)
    · obtain ⟨j, rfl⟩ : ∃ j, v = j + 12 := ⟨v - 12, by omega⟩
      have hj : j < R.length := by omega
      rw [get, List.getElem?_append_left hj, List.getElem?_eq_getElem hj]
      exact fun e => hR (e ▸ List.getElem_mem hj)
theorem item9 {l : List Nat} (hx : x.cps.toList = pre9 (m :: l)) : Txt.item x (lf x + 1) = ⟨#[m]⟩ := by
  have hl : x.length = l.length + 10 := by rw [len_list, hx]; rfl
  rw [lf_is hx, item_at (n := 9) (by decide) (by omega) rfl, getD_list, hx]; rfl
/-- the mark is the bracket -/
theorem told_bracket {l : List Nat} (hx : x.cps.toList = pre9 (41 :: l)) : toldF x = .proto := by
  have hl : x.length = l.length + 10 := by rw [len_list, hx]; rfl
  refine told_p3 (head_is hx) (by rw [lf_is hx]; decide) (by rw [rt_mark hx]; decide) ?_
  rw [item9 hx, rt_mark hx, item_at (n := 8) (by decide) (by omega) rfl, getD_list, hx]
  rfl
theorem last_is {W S : List Nat} {a : Nat} (hx : x.cps.toList = pre9 (m :: m :: m :: ((W ++ [a]) ++ 41 :: S))) (hm : m ≠ 41) (hR : 41 ∉ W ++ [a]) : Txt.item x (rt x - 1) = ⟨#[a]⟩ := by
  have hl : x.length = W.length + S.length + 14 := by rw [len_list, hx]; simp; omega
  rw [rt_is hx hm hR, item_at (n := 12 + W.length) (by simp; omega) (by simp; omega) (by simp; omega), getD_list, hx]
  have : ∀ j, ((pre9 (m :: m :: m :: ((W ++ [a]) ++ 41 :: S)))[j + 12]?).getD 0 = (((W ++ [a]) ++ 41 :: S)[j]?).getD 0 := fun j => rfl
  rw [Nat.add_comm, this]
  simp
theorem last_nil {S : List Nat} (hx : x.cps.toList = pre9 (m :: m :: m :: ([] ++ 41 :: S))) (hm : m ≠ 41) : Txt.item x (rt x - 1) = ⟨#[m]⟩ := by
  have hl : x.length = S.length + 13 := by rw [len_list, hx]; simp
  rw [rt_is hx hm (by simp), item_at (n := 11) (by decide) (by simp; omega) rfl, getD_list, hx]
  rfl
theorem pieces_is {R S : List Nat} (hx : x.cps.toList = pre9 (m :: m :: m :: (R ++ 41 :: S))) (hm : m ≠ 41) (hR : 41 ∉ R) : pieces x = Txt.split ⟨(m :: m :: m :: R).toArray⟩ ⟨#[m]⟩ := by
  have hl : x.length = R.length + S.length + 13 := by rw [len_list, hx]; simp; omega
  unfold pieces
  rw [item9 hx]
  congr 1
  have := rt_is hx hm hR
  rw [eq_of_beq (slice_closesL (x := x) (i := lf x + 1) (j := rt x) (by rw [lf_is hx]; decide) (by rw [lf_is hx, this]; simp; omega) (by rw [this]; simp; omega)), lf_is hx, this]
  congr 2
  have e : (((12 + R.length : Nat) : Int) - (8 + 1)).toNat = R.length + 3 := by omega
  rw [e, hx]
  show List.take (R.length + 3) (m :: m :: m :: (R ++ 41 :: S)) = m :: m :: m :: R
  simp
theorem told_none {S : List Nat} (hx : x.cps.toList = pre9 (m :: m :: m :: ([] ++ 41 :: S))) (hm : m ≠ 41) : toldF x = .proto := by
  refine told_p4 (head_is hx) (by rw [lf_is hx]; decide) (by rw [rt_is hx hm (by simp)]; omega) (by rw [item9 hx, last_nil hx hm]; simp) ?_
  rw [pieces_is hx hm (by simp)]
  have := PyProof.Rows.split_len ⟨[m, m, m].toArray⟩ m
  intro e
  rw [e] at this
  simp [cnt_cons] at this
  rw [cnt_none m [] (by simp)] at this
  omega
theorem told_last {W S : List Nat} {a : Nat} (hx : x.cps.toList = pre9 (m :: m :: m :: ((W ++ [a]) ++ 41 :: S))) (hm : m ≠ 41) (hR : 41 ∉ W ++ [a]) (ha : a ≠ m) : toldF x = .proto := by
  refine told_p3 (head_is hx) (by rw [lf_is hx]; decide) (by rw [rt_is hx hm hR]; omega) ?_
  rw [item9 hx, last_is hx hm hR]
  simp
  exact fun e => ha e.symm
theorem told_many {W S : List Nat} (hx : x.cps.toList = pre9 (m :: m :: m :: ((W ++ [m]) ++ 41 :: S))) (hm : m ≠ 41) (hR : 41 ∉ W ++ [m]) (hW : m ∈ W) : toldF x = .proto := by
  refine told_p4 (head_is hx) (by rw [lf_is hx]; decide) (by rw [rt_is hx hm hR]; omega) (by rw [item9 hx, last_is hx hm hR]; simp) ?_
  rw [pieces_is hx hm hR]
  have h := PyProof.Rows.split_len ⟨(m :: m :: m :: (W ++ [m])).toArray⟩ m
  intro e
  rw [e] at h
  obtain ⟨A, B, rfl⟩ := List.append_of_mem hW
  have pos : ∀ l : List Nat, 0 ≤ cnt m l := fun l => by
    induction l with
    | nil => rw [cnt_none m [] (by simp)]; exact Int.le_refl _
    | cons a r ih => rw [cnt_cons]; split <;> omega
  have e0 : cnt m [] = 0 := cnt_none m [] (by simp)
  simp only [cnt_cons, cnt_append, if_true, e0] at h
  have := pos A
  have := pos B
  omega
theorem told_read {W S : List Nat} (hx : x.cps.toList = pre9 (m :: m :: m :: ((W ++ [m]) ++ 41 :: S))) (hm : m ≠ 41) (hR : 41 ∉ W ++ [m]) (hW : m ∉ W) :
    toldF x = (match PySem.intText? ⟨W.toArray⟩ with | some n => .port n | none => .value) := by
  have hp : pieces x = [⟨#[]⟩, ⟨#[]⟩, ⟨#[]⟩, ⟨W.toArray⟩, ⟨#[]⟩] := by
    rw [pieces_is hx hm hR]
    refine split_is (by simp) (fun p hp => ?_) ?_
    · simp only [List.mem_cons, List.not_mem_nil, or_false] at hp
      rcases hp with rfl | rfl | rfl | rfl | rfl <;> first | exact hW | simp
    · rw [join_cons2, join_cons2, join_cons2, join_cons2]
      simp [Str.join]
  have h5 : (pieces x).length = 5 := by rw [hp]; rfl
  have h3 : (pieces x)[3]? = some ⟨W.toArray⟩ := by rw [hp]; rfl
  have a1 := head_is hx
  have a2 : ¬ lf x < 0 := by rw [lf_is hx]; decide
  have a3 : ¬ rt x < 0 := by rw [rt_is hx hm hR]; omega
  have a4 : (Txt.item x (lf x + 1) != Txt.item x (rt x - 1)) = false := by rw [item9 hx, last_is hx hm hR]; simp
  cases e : PySem.intText? ⟨W.toArray⟩ with
  | none => exact told_value a1 a2 a3 a4 h5 h3 e
  | some n => exact told_port a1 a2 a3 a4 h5 h3 e
end
end Mine
end P4
section P5
open PySem PySem.W PyProof.Rows PySem.Calls
namespace Mine
open NumText
/-- the reading of a text of plain signs -/
theorem intT_of {T : List Nat} (h : ∀ c ∈ T, 1 ≤ c ∧ c < 128) : PySem.intText? ⟨T.toArray⟩ = (match digits? 10 (core T) with
    | some ds => if ds.size ≤ 4300 then some (worth (sign (T.dropWhile blank)).1 ds) else none
    | none => none) := by
  have e1 : numTextOf ⟨T.toArray⟩ = T := by
    unfold numTextOf
    rw [if_pos]
    rw [Array.all_eq_true_iff_forall_mem]
    intro c hc
    exact decide_eq_true (h c (by simpa using hc)).2
  have e2 : numSeenOf ⟨T.toArray⟩ = T := by
    unfold numSeenOf
    rw [e1]
    exact takeWhile_all fun c hc => by have := (h c hc).1; simp; omega
  unfold PySem.intText?
  rw [if_pos (by rw [e1, e2]; simp), e2]
  rfl
theorem dig_none {cs : List Nat} {c : Nat} (hc : c ∈ cs) (h : ∀ p, step 10 p c = none) : digits? 10 cs = none := by
  have key : ∀ (l : List Nat) p, c ∈ l → l.foldlM (step 10) p = none := by
    intro l
    induction l with
    | nil => intro p hc; cases hc
    | cons a r ih =>
      intro p hc
      rw [List.foldlM_cons]
      rcases List.mem_cons.mp hc with rfl | hc
      · rw [h p]; rfl
      · cases step 10 p a with
        | none => rfl
        | some q => exact ih q hc
  unfold digits?
  rw [key cs _ hc]; rfl
theorem keep_all : ∀ {l : List Nat}, (∀ c ∈ l, 33 ≤ c) → l.dropWhile blank = l
  | [], _ => rfl
  | a :: r, h => dropWhile_of (h a (.head _))
theorem core_all {T : List Nat} (h : ∀ c ∈ T, 33 ≤ c) : core T = (sign T).2 := by
  have hs : ∀ c ∈ (sign T).2, 33 ≤ c := by
    intro c hc
    apply h
    unfold sign at hc
    split at hc
    · exact .tail _ hc
    · exact .tail _ hc
    · exact hc
  unfold core
  rw [keep_all h, keep_all (fun c hc => hs c (List.mem_reverse.mp hc)), List.reverse_reverse]
theorem none_of {T : List Nat} {c : Nat} (h : ∀ c ∈ T, 33 ≤ c ∧ c < 128) (hc : c ∈ (sign T).2) (hb : ∀ p, step 10 p c = none) : PySem.intText? ⟨T.toArray⟩ = none := by
  rw [intT_of fun c hc => ⟨by have := (h c hc).1; omega, (h c hc).2⟩, core_all fun c hc => (h c hc).1, dig_none hc hb]
theorem sign_tail {a : Nat} {r : List Nat} {c : Nat} (hc : c ∈ r) : c ∈ (sign (a :: r)).2 := by
  unfold sign
  split
  · rename_i e; cases e; exact hc
  · rename_i e; cases e; exact hc
  · exact .tail _ hc
theorem step_43 (p : Array Nat × Bool) : step 10 p 43 = none := rfl
theorem step_45 (p : Array Nat × Bool) : step 10 p 45 = none := rfl
theorem step_120 (p : Array Nat × Bool) : step 10 p 120 = none := rfl
/-- a sign that stands elsewhere than ahead -/
theorem none_sign {a c : Nat} {r : List Nat} (h : ∀ c ∈ a :: r, 33 ≤ c ∧ c < 128) (hc : c ∈ r) (h2 : c = 43 ∨ c = 45) : PySem.intText? ⟨(a :: r).toArray⟩ = none :=
  none_of h (sign_tail hc) (by rcases h2 with rfl | rfl; exact step_43; exact step_45)
theorem none_x {T : List Nat} (h : ∀ c ∈ T, 33 ≤ c ∧ c < 128) (hc : 120 ∈ T) : PySem.intText? ⟨T.toArray⟩ = none := by
  refine none_of h ?_ step_120
  cases T with
  | nil => cases hc
  | cons a r =>
    rcases List.mem_cons.mp hc with rfl | hc
    · exact .head _
    · exact sign_tail hc
theorem none_under1 {r : List Nat} (h : ∀ c ∈ 95 :: r, 33 ≤ c ∧ c < 128) : PySem.intText? ⟨(95 :: r).toArray⟩ = none := by
  rw [intT_of fun c hc => ⟨by have := (h c hc).1; omega, (h c hc).2⟩, core_all fun c hc => (h c hc).1]
  rfl
theorem dig_under {r : List Nat} : digits? 10 (r ++ [95]) = none := by
  unfold digits?
  rw [List.foldlM_append]
  cases h : List.foldlM (step 10) (#[], false) r with
  | none => rfl
  | some q =>
    obtain ⟨ds, b⟩ := q
    cases b <;> rfl
theorem none_under2 {r : List Nat} (h : ∀ c ∈ r ++ [95], 33 ≤ c ∧ c < 128) (hr : r ≠ []) : PySem.intText? ⟨(r ++ [95]).toArray⟩ = none := by
  rw [intT_of fun c hc => ⟨by have := (h c hc).1; omega, (h c hc).2⟩, core_all fun c hc => (h c hc).1]
  cases r with
  | nil => exact absurd rfl hr
  | cons a r =>
    have : ∃ q, (sign (a :: r ++ [95])).2 = q ++ [95] := by
      show ∃ q, (sign (a :: (r ++ [95]))).2 = q ++ [95]
      unfold sign
      split
      · rename_i e; cases e; exact ⟨_, rfl⟩
      · rename_i e; cases e; exact ⟨_, rfl⟩
      · exact ⟨a :: r, rfl⟩
    obtain ⟨q, e⟩ := this
    rw [e, dig_under]
end Mine
end P5
section P6
open PySem PySem.W PyProof.Rows PySem.Calls
namespace Mine
open NumText
theorem drop_rep {k : Nat} {l : List Nat} : (List.replicate k 32 ++ l).dropWhile blank = l.dropWhile blank := by
  induction k with
  | zero => rfl
  | succ n ih =>
    rw [List.replicate_succ, List.cons_append, List.dropWhile_cons, if_pos (by rfl)]
    exact ih
theorem read_gen {T D : List Nat} {K : Nat} {neg : Bool} (hT : ∀ c ∈ T, 1 ≤ c ∧ c < 128) (hs : sign (T.dropWhile blank) = (neg, D ++ List.replicate K 32)) (hD : AllDigits D) (hne : D ≠ []) (hl : D.length ≤ 4300) :
    PySem.intText? ⟨T.toArray⟩ = some (if neg then -(digitsVal D : Int) else (digitsVal D : Int)) := by
  have hc : core T = D := by
    unfold core
    rw [hs]
    show (List.dropWhile blank (D ++ List.replicate K 32).reverse).reverse = D
    rw [List.reverse_append, List.reverse_replicate, drop_rep, dropWhile_digits hD.reverse, List.reverse_reverse]
  rw [intT_of hT, hc, digits_of hD hne, hs]
  dsimp only
  rw [if_pos (by rw [push_size]; simpa using hl)]
  unfold worth
  have e : Array.foldl (fun acc d => acc * 10 + d) 0 (List.foldl (fun acc c => acc.push (c - 48)) #[] D) = digitsVal D := push_foldl D #[]
  rw [e]
theorem val_app : ∀ (Y X : List Nat), digitsVal (X ++ Y) = digitsVal X * 10 ^ Y.length + digitsVal Y
  | [], X => by simp [digitsVal]
  | c :: r, X => by
    have e1 : X ++ c :: r = (X ++ [c]) ++ r := by simp
    have e2 : digitsVal (c :: r) = digitsVal [c] * 10 ^ r.length + digitsVal r := val_app r [c]
    have e3 : digitsVal [c] = c - 48 := by simp [digitsVal]
    rw [e1, val_app r (X ++ [c]), digitsVal_snoc, e2, e3, List.length_cons, Nat.pow_succ, Nat.add_mul]
    rw [Nat.mul_assoc, Nat.mul_comm 10 (10 ^ r.length)]
    omega
/-- 1, 11, 111, .. -/
def ones : Nat → Nat
  | 0 => 0
  | n + 1 => 10 * ones n + 1
theorem ones_pow (n : Nat) : 10 ^ n = 9 * ones n + 1 := by
  induction n with
  | zero => rfl
  | succ n ih => rw [Nat.pow_succ, ih, show ones (n + 1) = 10 * ones n + 1 from rfl]; omega
theorem ones_div (n : Nat) : (10 ^ n : Int).fdiv 9 = (ones n : Int) := by
  have h := ones_pow n
  have e : (10 ^ n : Int) = ((10 ^ n : Nat) : Int) := by simp
  rw [e, Int.fdiv_eq_ediv_of_nonneg _ (by decide)]
  omega
theorem val_rep (n c : Nat) : digitsVal (List.replicate n c) = (c - 48) * ones n := by
  induction n with
  | zero => simp [digitsVal, ones]
  | succ n ih =>
    rw [List.replicate_succ', digitsVal_snoc, ih, show ones (n + 1) = 10 * ones n + 1 from rfl, Nat.mul_add, Nat.mul_one, Nat.mul_comm 10, Nat.mul_assoc]
theorem ones_lt (n f : Nat) (h : f ≤ 9) : f * ones n < 10 ^ n := by
  have := ones_pow n
  have h2 : f * ones n ≤ 9 * ones n := Nat.mul_le_mul_right _ h
  omega
theorem val_lt {l : List Nat} (h : AllDigits l) : digitsVal l < 10 ^ l.length := by
  induction l with
  | nil => simp [digitsVal]
  | cons c r ih =>
    have e : digitsVal (c :: r) = digitsVal [c] * 10 ^ r.length + digitsVal r := val_app r [c]
    have e3 : digitsVal [c] = c - 48 := by simp [digitsVal]
    have hc := h.head
    have hr := ih h.tail
    rw [e, e3, List.length_cons, Nat.pow_succ]
    have : (c - 48) * 10 ^ r.length ≤ 9 * 10 ^ r.length := Nat.mul_le_mul_right _ (by omega)
    omega
end Mine
end P6
section P7
open PySem PySem.W PyProof.Rows PySem.Calls
namespace Mine
open NumText
abbrev digsOf (a : Nat) : List Nat := (Nat.toDigits 10 a).map Char.toNat
theorem digs_all (a : Nat) : AllDigits (digsOf a) := digs a
theorem digs_ne (a : Nat) : digsOf a ≠ [] := by
  intro e
  have := congrArg List.length e
  rw [List.length_map] at this
  have h : 0 < (Nat.toDigits 10 a).length := Nat.length_toDigits_pos
  simp at this
theorem digs_val (a : Nat) : digitsVal (digsOf a) = a := KIN.val_back a
theorem digs_len {a : Nat} (h : a ≤ 1000000000) : (digsOf a).length ≤ 10 := by
  rw [List.length_map]
  exact (Nat.length_toDigits_le_iff (by decide) (by decide)).mpr (by omega)
theorem body_pos {p : Int} (h : ¬ p < 0) : (bodyS p).cps.toList = digsOf p.natAbs := by
  cases p with
  | ofNat m => exact text_nat m
  | negSucc m => exact absurd (Int.negSucc_lt_zero m) h
theorem body_neg {p : Int} (h : p < 0) : (bodyS p).cps.toList = 45 :: digsOf p.natAbs := by
  cases p with
  | ofNat m => simp at h; omega
  | negSucc m => exact text_neg m
theorem one_eq {c d : Nat} : ((⟨#[c]⟩ : Str) == ⟨#[d]⟩) = true ↔ c = d := by
  rw [beq_iff_eq]
  simp
theorem one_ne {c d : Nat} : ((⟨#[c]⟩ : Str) == ⟨#[d]⟩) = false ↔ c ≠ d := by
  rw [← Bool.not_eq_true, one_eq]
theorem hasNo_true {x : Str} {c : Nat} : hasNo x ⟨#[c]⟩ = true ↔ c ∉ x.cps.toList := by
  have e : hasNo x ⟨#[c]⟩ = true ↔ Txt.find x ⟨#[c]⟩ = -1 := by
    unfold hasNo Txt.find
    cases h : Builtin.Str.occurrences x ⟨#[c]⟩ 0 x.length 1 with
    | nil => simp
    | cons k r => simp
  rw [e, find_is_find3]
  rcases StrLaws.find3_spec x c 0 with ⟨e1, h⟩ | ⟨k, e1, a1, a2, a3, a4⟩
  · rw [e1]
    refine ⟨fun _ hc => ?_, fun _ => rfl⟩
    obtain ⟨v, hv, hv2⟩ := List.getElem_of_mem hc
    refine h v (Nat.zero_le _) (by rw [len_list]; exact hv) ?_
    rw [getD_list, List.getElem?_eq_getElem hv, hv2]; rfl
  · rw [e1]
    refine ⟨fun q => by omega, fun q => absurd ?_ q⟩
    rw [getD_list] at a3
    have hv : k < x.cps.toList.length := by rw [← len_list]; exact a2
    rw [List.getElem?_eq_getElem hv] at a3
    exact a3 ▸ List.getElem_mem hv
theorem hasNo_false {x : Str} {c : Nat} : hasNo x ⟨#[c]⟩ = false ↔ c ∈ x.cps.toList := by
  rw [← Bool.not_eq_true, hasNo_true, Classical.not_not]
end Mine
end P7
section P8
open PySem PySem.W PyProof.Rows PySem.Calls
namespace Mine
open NumText
/-- the body's signs -/
theorem body_sign {p : Int} {c : Nat} (h : c ∈ (bodyS p).cps.toList) : c = 45 ∨ 48 ≤ c ∧ c ≤ 57 := body_small p c h
abbrev laid (p : Int) (c b k : Nat) : List Nat := List.replicate b c ++ (bodyS p).cps.toList ++ List.replicate k c
section
variable {x : Str} {p : Int} {c m b k : Nat} {P B : Int} {r : Told}
theorem laid_range (hc : 32 ≤ c ∧ c < 128) : ∀ d ∈ laid p c b k, 32 ≤ d ∧ d < 128 := fun d hd => by
  simp only [List.mem_append, List.mem_replicate] at hd
  rcases hd with (hd | hd) | hd
  · omega
  · have := body_sign hd; omega
  · omega
theorem laid_33 (hc : 33 ≤ c ∧ c < 128) : ∀ d ∈ laid p c b k, 33 ≤ d ∧ d < 128 := fun d hd => by
  simp only [List.mem_append, List.mem_replicate] at hd
  rcases hd with (hd | hd) | hd
  · omega
  · have := body_sign hd; omega
  · omega
theorem laid_not {d : Nat} (h1 : d ∉ (bodyS p).cps.toList) (h2 : 0 < b + k → c ≠ d) : d ∉ laid p c b k := fun hd => by
  simp only [List.mem_append, List.mem_replicate] at hd
  rcases hd with (hd | hd) | hd
  · exact h2 (by omega) hd.2.symm
  · exact h1 hd
  · exact h2 (by omega) hd.2.symm
theorem no41 : 41 ∉ (bodyS p).cps.toList := fun h => by have := body_sign h; omega
theorem laid_fill (h : 0 < b + k) : c ∈ laid p c b k := by
  simp only [List.mem_append, List.mem_replicate]
  by_cases hb : b = 0
  · exact .inr ⟨by omega, trivial⟩
  · exact .inl (.inl ⟨hb, trivial⟩)
theorem laid_body {d : Nat} (h : d ∈ (bodyS p).cps.toList) : d ∈ laid p c b k := by
  simp only [List.mem_append]
  exact .inl (.inr h)
/-- the reply is split by its marks: the text lies whole in the fourth part -/
theorem read_laid (hx : x.cps.toList = pre9 (m :: m :: m :: (laid p c b k ++ [m, 41]))) (hm : m ≠ 41) (h1 : m ∉ (bodyS p).cps.toList) (h2 : 0 < b + k → c ≠ m) (h3 : 0 < b + k → c ≠ 41) :
    toldF x = (match PySem.intText? ⟨(laid p c b k).toArray⟩ with | some n => .port n | none => .value) := by
  refine told_read (m := m) (S := []) (by rw [hx]; simp) hm ?_ (laid_not h1 h2)
  rw [List.mem_append, List.mem_singleton]
  rintro (h | h)
  · exact laid_not no41 h3 h
  · exact hm h.symm
theorem many_laid (hx : x.cps.toList = pre9 (m :: m :: m :: (laid p c b k ++ [m, 41]))) (hm : m ≠ 41) (h1 : m ∈ laid p c b k) (h3 : 0 < b + k → c ≠ 41) : toldF x = .proto := by
  refine told_many (m := m) (S := []) (by rw [hx]; simp) hm ?_ h1
  rw [List.mem_append, List.mem_singleton]
  rintro (h | h)
  · exact laid_not no41 h3 h
  · exact hm h.symm
end
end Mine
end P8
section P9
open PySem PySem.W PyProof.Rows PySem.Calls
namespace Mine
open NumText
theorem last_item {x : Str} {W : List Nat} {a : Nat} (h : x.cps.toList = W ++ [a]) : Txt.item x (-1) = ⟨#[a]⟩ := by
  have hl : x.length = W.length + 1 := by rw [len_list, h]; simp
  have hs : seqIndex? (-1) x.length = some W.length := by
    unfold seqIndex?
    rw [hl]
    simp
    omega
  have hg : x.cps[W.length]? = some a := by rw [← Array.getElem?_toList, h]; simp
  unfold Txt.item Txt.charAt
  rw [hs, Option.bind_some, hg]
  rfl
theorem body_last (p : Int) : ∃ W a, (bodyS p).cps.toList = W ++ [a] := by
  have hne : (bodyS p).cps.toList ≠ [] := by
    by_cases h : p < 0
    · rw [body_neg h]; simp
    · rw [body_pos h]; exact digs_ne _
  exact ⟨_, _, (List.dropLast_concat_getLast hne).symm⟩
section
variable {x : Str} {p : Int} {c m b k : Nat} {P B : Int} {r : Told}
theorem way_before (hx : x.cps.toList = pre9 (m :: m :: m :: (laid p 41 (b + 1) k ++ [m, 41]))) : toldF x = .proto := by
  by_cases hm : m = 41
  · subst hm; exact told_bracket hx
  · exact told_none (m := m) (S := List.replicate b 41 ++ (bodyS p).cps.toList ++ List.replicate k 41 ++ [m, 41]) (by rw [hx]; simp [List.replicate_succ]) hm
theorem way_last {W : List Nat} {a : Nat} (hx : x.cps.toList = pre9 (m :: m :: m :: (laid p 41 0 (k + 1) ++ [m, 41]))) (hW : (bodyS p).cps.toList = W ++ [a]) (ha : a ≠ m) : toldF x = .proto := by
  by_cases hm : m = 41
  · subst hm; exact told_bracket hx
  · exact told_last (m := m) (W := W) (a := a) (S := List.replicate k 41 ++ [m, 41]) (by rw [hx]; simp [List.replicate_succ, hW]) hm (hW ▸ no41) ha
theorem way_many {W : List Nat} (hx : x.cps.toList = pre9 (m :: m :: m :: (laid p 41 0 (k + 1) ++ [m, 41]))) (hW : (bodyS p).cps.toList = W ++ [m]) (hm : m ∈ W) : toldF x = .proto := by
  have h41 : m ≠ 41 := fun e => no41 (p := p) (by rw [hW, e]; simp)
  exact told_many (m := m) (W := W) (S := List.replicate k 41 ++ [m, 41]) (by rw [hx]; simp [List.replicate_succ, hW]) h41 (hW ▸ no41) hm
theorem way_read {W : List Nat} (hx : x.cps.toList = pre9 (m :: m :: m :: (laid p 41 0 (k + 1) ++ [m, 41]))) (hW : (bodyS p).cps.toList = W ++ [m]) (hm : m ∉ W) :
    toldF x = (match PySem.intText? ⟨W.toArray⟩ with | some n => .port n | none => .value) := by
  have h41 : m ≠ 41 := fun e => no41 (p := p) (by rw [hW, e]; simp)
  exact told_read (m := m) (W := W) (S := List.replicate k 41 ++ [m, 41]) (by rw [hx]; simp [List.replicate_succ, hW]) h41 (hW ▸ no41) hm
end
/-- what stands ahead of the last figure -/
theorem digs_cut (a : Nat) : (a < 10 ∧ digsOf a = [48 + a]) ∨ (10 ≤ a ∧ digsOf a = digsOf (a / 10) ++ [48 + a % 10]) := by
  by_cases h : a < 10
  · refine .inl ⟨h, ?_⟩
    have : ∀ k : Fin 10, digsOf k.val = [48 + k.val] := by decide
    exact this ⟨a, h⟩
  · refine .inr ⟨by omega, ?_⟩
    have e : Nat.toDigits 10 a = Nat.toDigits 10 (a / 10) ++ [Nat.digitChar (a % 10)] := Nat.toDigits_of_base_le (by decide) (by omega)
    show (Nat.toDigits 10 a).map Char.toNat = _
    rw [e, List.map_append]
    have : ∀ k : Fin 10, (Nat.digitChar k.val).toNat = 48 + k.val := by decide
    have h2 := this ⟨a % 10, Nat.mod_lt _ (by decide)⟩
    simp only [List.map_cons, List.map_nil]
    rw [h2]
end Mine
end P9
section P10
open PySem PySem.W PyProof.Rows PySem.Calls
namespace Mine
open NumText
theorem is41 {c : Nat} : ((⟨#[c]⟩ : Str) == Str.ofString ")") = true ↔ c = 41 := one_eq (d := 41)
theorem is32 {c : Nat} : ((⟨#[c]⟩ : Str) == Str.ofString " ") = true ↔ c = 32 := one_eq (d := 32)
theorem is43 {c : Nat} : ((⟨#[c]⟩ : Str) == Str.ofString "+") = true ↔ c = 43 := one_eq (d := 43)
theorem no41' {c : Nat} : ((⟨#[c]⟩ : Str) == Str.ofString ")") = false ↔ c ≠ 41 := one_ne (d := 41)
theorem no32' {c : Nat} : ((⟨#[c]⟩ : Str) == Str.ofString " ") = false ↔ c ≠ 32 := one_ne (d := 32)
theorem no43' {c : Nat} : ((⟨#[c]⟩ : Str) == Str.ofString "+") = false ↔ c ≠ 43 := one_ne (d := 43)
theorem in_pm {c : Nat} : hasNo (Str.ofString "+-") ⟨#[c]⟩ = false ↔ c = 43 ∨ c = 45 := by
  rw [hasNo_false, show (Str.ofString "+-").cps.toList = [43, 45] from rfl]; simp
theorem in_ux {c : Nat} : hasNo (Str.ofString "_x") ⟨#[c]⟩ = false ↔ c = 95 ∨ c = 120 := by
  rw [hasNo_false, show (Str.ofString "_x").cps.toList = [95, 120] from rfl]; simp
theorem out_pm {c : Nat} : hasNo (Str.ofString "+-") ⟨#[c]⟩ = true ↔ c ≠ 43 ∧ c ≠ 45 := by
  rw [hasNo_true, show (Str.ofString "+-").cps.toList = [43, 45] from rfl]; simp
theorem out_ux {c : Nat} : hasNo (Str.ofString "_x") ⟨#[c]⟩ = true ↔ c ≠ 95 ∧ c ≠ 120 := by
  rw [hasNo_true, show (Str.ofString "_x").cps.toList = [95, 120] from rfl]; simp
theorem bne_one {a m : Nat} : ((⟨#[a]⟩ : Str) != ⟨#[m]⟩) = true ↔ a ≠ m := by
  unfold bne; rw [Bool.not_eq_true', one_ne]
theorem bne_one' {a m : Nat} : ((⟨#[a]⟩ : Str) != ⟨#[m]⟩) = false ↔ a = m := by
  unfold bne; rw [Bool.not_eq_false', one_eq]
theorem cnt_nn (m : Nat) (l : List Nat) : 0 ≤ cnt m l := by
  induction l with
  | nil => rw [cnt_none m [] (by simp)]; exact Int.le_refl _
  | cons a r ih => rw [cnt_cons]; split <;> omega
theorem cnt_in {m : Nat} {l : List Nat} (h : m ∈ l) : 1 ≤ cnt m l := by
  obtain ⟨A, B, rfl⟩ := List.append_of_mem h
  rw [cnt_append, cnt_cons, if_pos rfl]
  have := cnt_nn m A
  have := cnt_nn m B
  omega
theorem sign_digs {D l : List Nat} (h : AllDigits D) (hne : D ≠ []) : (D ++ l).dropWhile blank = D ++ l ∧ sign (D ++ l) = (false, D ++ l) := by
  cases D with
  | nil => exact absurd rfl hne
  | cons d r =>
    have := h.head
    exact ⟨dropWhile_of (by omega), sign_of (by omega) (by omega)⟩
/-- figures, blanks about them -/
theorem read_pos {D : List Nat} {b k : Nat} (h : AllDigits D) (hne : D ≠ []) (hl : D.length ≤ 4300) : PySem.intText? ⟨(List.replicate b 32 ++ D ++ List.replicate k 32).toArray⟩ = some (digitsVal D : Int) := by
  refine read_gen (neg := false) (D := D) (K := k) (fun c hc => ?_) ?_ h hne hl
  · simp only [List.mem_append, List.mem_replicate] at hc
    rcases hc with (hc | hc) | hc
    · omega
    · have := h c hc; omega
    · omega
  · rw [List.append_assoc, drop_rep, (sign_digs h hne).1, (sign_digs h hne).2]
theorem read_neg {D : List Nat} {b k : Nat} (h : AllDigits D) (hne : D ≠ []) (hl : D.length ≤ 4300) : PySem.intText? ⟨(List.replicate b 32 ++ 45 :: D ++ List.replicate k 32).toArray⟩ = some (-(digitsVal D : Int)) := by
  refine read_gen (neg := true) (D := D) (K := k) (fun c hc => ?_) ?_ h hne hl
  · simp only [List.mem_append, List.mem_replicate, List.mem_cons] at hc
    rcases hc with (hc | hc | hc) | hc
    · omega
    · omega
    · have := h c hc; omega
    · omega
  · rw [List.append_assoc, drop_rep, List.cons_append, dropWhile_of (by omega)]
    rfl
theorem read_plus {D : List Nat} (h : AllDigits D) (hne : D ≠ []) (hl : D.length ≤ 4300) : PySem.intText? ⟨(43 :: D).toArray⟩ = some (digitsVal D : Int) := by
  refine read_gen (neg := false) (D := D) (K := 0) (fun c hc => ?_) ?_ h hne hl
  · rcases List.mem_cons.mp hc with rfl | hc
    · decide
    · have := h c hc; omega
  · rw [dropWhile_of (by omega)]
    simp [sign]
/-- the body read, blanks about it -/
theorem read_body {p : Int} {b k : Nat} (p0 : -1000000000 ≤ p) (p1 : p < 1000000000) : PySem.intText? ⟨(laid p 32 b k).toArray⟩ = some p := by
  have hl := digs_len (a := p.natAbs) (by omega)
  unfold laid
  by_cases h : p < 0
  · rw [body_neg h, read_neg (digs_all _) (digs_ne _) (by omega), digs_val]
    congr 1; omega
  · rw [body_pos h, read_pos (digs_all _) (digs_ne _) (by omega), digs_val]
    congr 1; omega
theorem laid_zero (p : Int) (c d : Nat) : laid p c 0 0 = laid p d 0 0 := rfl
end Mine
end P10
section P11
open PySem PySem.W PyProof.Rows PySem.Calls
namespace Mine
open NumText
section
variable {x : Str} {p : Int} {c m b k : Nat} {r : Told}
theorem snoc_inj {A B : List Nat} {a d : Nat} (h : A ++ [a] = B ++ [d]) : A = B ∧ a = d := by
  have := List.append_inj' h rfl
  exact ⟨this.1, by simpa using this.2⟩
/-- the body without its last figure -/
theorem cut_body {W : List Nat} {a : Nat} (p0 : -1000000000 ≤ p) (p1 : p < 1000000000) (hW : (bodyS p).cps.toList = W ++ [a]) :
    (match PySem.intText? ⟨W.toArray⟩ with | some n => Told.port n | none => Told.value) =
      if absI p < 10 then .value else if 0 < p then .port (p.fdiv 10) else .port (-((-p).fdiv 10)) := by
  have ha : absI p = (p.natAbs : Int) := by unfold absI; split <;> omega
  rw [Int.fdiv_eq_ediv_of_nonneg _ (by decide), Int.fdiv_eq_ediv_of_nonneg _ (by decide)]
  by_cases hn : p < 0
  · rw [body_neg hn] at hW
    rcases digs_cut p.natAbs with ⟨h, e⟩ | ⟨h, e⟩
    · rw [e] at hW
      have := (snoc_inj (A := [45]) hW).1
      subst this
      rw [if_pos (by omega), show PySem.intText? ⟨[45].toArray⟩ = none from by decide +kernel]
    · rw [e] at hW
      have := (snoc_inj (A := 45 :: digsOf (p.natAbs / 10)) hW).1
      subst this
      have hr := read_neg (b := 0) (k := 0) (digs_all (p.natAbs / 10)) (digs_ne _) (by have := digs_len (a := p.natAbs / 10) (by omega); omega)
      simp only [List.replicate_zero, List.nil_append, List.append_nil] at hr
      rw [hr, digs_val, if_neg (by omega), if_neg (by omega)]
      dsimp only
      congr 1; omega
  · rw [body_pos hn] at hW
    rcases digs_cut p.natAbs with ⟨h, e⟩ | ⟨h, e⟩
    · rw [e] at hW
      have := (snoc_inj (A := []) hW).1
      subst this
      rw [if_pos (by omega), show PySem.intText? ⟨([] : List Nat).toArray⟩ = none from by decide +kernel]
    · rw [e] at hW
      have := (snoc_inj (A := digsOf (p.natAbs / 10)) hW).1
      subst this
      have hr := read_pos (b := 0) (k := 0) (digs_all (p.natAbs / 10)) (digs_ne _) (by have := digs_len (a := p.natAbs / 10) (by omega); omega)
      simp only [List.replicate_zero, List.nil_append, List.append_nil] at hr
      rw [hr, digs_val, if_neg (by omega), if_pos (by omega)]
      dsimp only
      congr 1; omega
theorem count_last {W : List Nat} (hW : (bodyS p).cps.toList = W ++ [m]) : Txt.count (bodyS p) ⟨#[m]⟩ = cnt m W + 1 := by
  rw [count_cnt, hW, cnt_append, cnt_cons, if_pos rfl, cnt_none m [] (by simp)]; omega
end
end Mine
end P11
section P12
open PySem PySem.W PyProof.Rows PySem.Calls
namespace Mine
open NumText
section
variable {x : Str} {p : Int} {c m b k : Nat} {P B : Int} {r : Told}
/-- the ways in which the filler is the bracket -/
theorem gen_br (p0 : -1000000000 ≤ p) (p1 : p < 1000000000) (hx : x.cps.toList = pre9 (m :: m :: m :: (laid p 41 0 (k + 1) ++ [m, 41])))
    (h1 : (Txt.item (bodyS p) (-1) != ⟨#[m]⟩) = false) (h2 : ¬ 1 < Txt.count (bodyS p) ⟨#[m]⟩) :
    toldF x = if absI p < 10 then .value else if 0 < p then .port (p.fdiv 10) else .port (-((-p).fdiv 10)) := by
  obtain ⟨W, a, hW⟩ := body_last p
  rw [last_item hW] at h1
  obtain rfl := bne_one'.mp h1
  rw [count_last hW] at h2
  exact (way_read hx hW (fun h => by have := cnt_in h; omega)).trans (cut_body p0 p1 hW)
theorem gen_many (hx : x.cps.toList = pre9 (m :: m :: m :: (laid p 41 0 (k + 1) ++ [m, 41])))
    (h1 : (Txt.item (bodyS p) (-1) != ⟨#[m]⟩) = false) (h2 : 1 < Txt.count (bodyS p) ⟨#[m]⟩) : toldF x = .proto := by
  obtain ⟨W, a, hW⟩ := body_last p
  rw [last_item hW] at h1
  obtain rfl := bne_one'.mp h1
  rw [count_last hW] at h2
  refine way_many hx hW (Classical.byContradiction fun h => ?_)
  rw [cnt_none _ _ h] at h2
  omega
theorem gen_last (hx : x.cps.toList = pre9 (m :: m :: m :: (laid p 41 0 (k + 1) ++ [m, 41])))
    (h1 : (Txt.item (bodyS p) (-1) != ⟨#[m]⟩) = true) : toldF x = .proto := by
  obtain ⟨W, a, hW⟩ := body_last p
  rw [last_item hW] at h1
  exact way_last hx hW (bne_one.mp h1)
theorem not_in {y : List Nat} (h : PySem.intText? ⟨y.toArray⟩ = none) : (match PySem.intText? ⟨y.toArray⟩ with | some n => Told.port n | none => Told.value) = .value := by rw [h]
theorem is_in {y : List Nat} {n : Int} (h : PySem.intText? ⟨y.toArray⟩ = some n) : (match PySem.intText? ⟨y.toArray⟩ with | some n => Told.port n | none => Told.value) = .port n := by rw [h]
theorem body_ne : (bodyS p).cps.toList ≠ [] := by
  obtain ⟨W, a, e⟩ := body_last p
  rw [e]; simp
/-- a sign as the filler that stands where int() refuses it -/
theorem sign_bad (hc : c = 43 ∨ c = 45) (h : 1 < b ∨ 0 < k ∨ (p < 0 ∧ 0 < b)) : PySem.intText? ⟨(laid p c b k).toArray⟩ = none := by
  have hr : ∀ d ∈ laid p c b k, 33 ≤ d ∧ d < 128 := laid_33 (by omega)
  have key : ∃ a l d, laid p c b k = a :: l ∧ d ∈ l ∧ (d = 43 ∨ d = 45) := by
    rcases h with h | h | ⟨h, hb⟩
    · obtain ⟨b', rfl⟩ : ∃ b', b = b' + 2 := ⟨b - 2, by omega⟩
      exact ⟨c, _, c, rfl, by simp [List.replicate_succ], hc⟩
    · obtain ⟨k', rfl⟩ : ∃ k', k = k' + 1 := ⟨k - 1, by omega⟩
      cases b with
      | succ b' => exact ⟨c, _, c, rfl, by simp [List.replicate_succ], hc⟩
      | zero =>
        cases hb : (bodyS p).cps.toList with
        | nil => exact absurd hb body_ne
        | cons d l => exact ⟨d, l ++ List.replicate (k' + 1) c, c, by unfold laid; rw [hb]; rfl, by simp [List.replicate_succ], hc⟩
    · obtain ⟨b', rfl⟩ : ∃ b', b = b' + 1 := ⟨b - 1, by omega⟩
      exact ⟨c, _, 45, rfl, by rw [body_neg h]; simp, .inr rfl⟩
  obtain ⟨a, l, d, e, hd, h2⟩ := key
  rw [e] at hr ⊢
  exact none_sign hr hd h2
theorem under_bad (h : 0 < b + k) : PySem.intText? ⟨(laid p 95 b k).toArray⟩ = none := by
  have hr : ∀ d ∈ laid p 95 b k, 33 ≤ d ∧ d < 128 := laid_33 (by omega)
  cases b with
  | succ b' =>
    have e : laid p 95 (b' + 1) k = 95 :: (List.replicate b' 95 ++ (bodyS p).cps.toList ++ List.replicate k 95) := by simp [laid, List.replicate_succ]
    rw [e] at hr ⊢
    exact none_under1 hr
  | zero =>
    obtain ⟨k', rfl⟩ : ∃ k', k = k' + 1 := ⟨k - 1, by omega⟩
    have e : laid p 95 0 (k' + 1) = ((bodyS p).cps.toList ++ List.replicate k' 95) ++ [95] := by
      unfold laid; rw [List.replicate_succ']; simp
    rw [e] at hr ⊢
    exact none_under2 hr fun z => body_ne (List.append_eq_nil_iff.mp z).1
theorem x_bad (h : 0 < b + k) : PySem.intText? ⟨(laid p 120 b k).toArray⟩ = none :=
  none_x (laid_33 (by omega)) (laid_fill h)
end
end Mine
end P12
section P13
open PySem PySem.W PyProof.Rows PySem.Calls
namespace Mine
open NumText
theorem pow_cast (n : Nat) : (10 ^ n : Int) = ((10 ^ n : Nat) : Int) := by simp
theorem fig_is {c : Nat} (hc : c = 48 ∨ c = 51 ∨ c = 55 ∨ c = 57) : Txt.find (Str.ofString "0123456789") ⟨#[c]⟩ = ((c - 48 : Nat) : Int) := by
  rcases hc with rfl | rfl | rfl | rfl <;> decide +kernel
/-- the number that filler and body spell -/
theorem val_laid {p : Int} {c b k : Nat} (hc : c = 48 ∨ c = 51 ∨ c = 55 ∨ c = 57) :
    ((digitsVal (List.replicate b c ++ digsOf p.natAbs ++ List.replicate k c) : Nat) : Int) = figNum p ⟨#[c]⟩ ((b + k : Nat) : Int) (b : Int) := by
  have ha : absI p = (p.natAbs : Int) := by unfold absI; split <;> omega
  have hl : (Str.ofString (toString (absI p))).length = (digsOf p.natAbs).length := by rw [ha, len_list, text_nat]
  have e1 : (((b + k : Nat) : Int) - (b : Int)).toNat = k := by omega
  unfold figNum
  rw [fig_is hc, hl, e1, ha, ones_div, Int.toNat_natCast, ones_div, val_app, val_app, val_rep, val_rep, digs_val, List.length_replicate, Int.toNat_natCast]
  rw [pow_cast, pow_cast]
  simp only [Int.natCast_add, Int.natCast_mul]
end Mine
end P13
section P14
open PySem PySem.W PyProof.Rows PySem.Calls
namespace Mine
open NumText
theorem due_gen {x : Str} {p : Int} {c m b k : Nat} {P B : Int} {r : Told} (p0 : -1000000000 ≤ p) (p1 : p < 1000000000) (hx : x.cps.toList = pre9 (m :: m :: m :: (laid p c b k ++ [m, 41])))
    (hP : P = ((b + k : Nat) : Int)) (hB : B = (b : Int)) (hbk : b + k ≤ 9) (hc : c ∈ [48, 51, 55, 32, 43, 45, 95, 41, 120, 57]) (h : DueIs p ⟨#[c]⟩ ⟨#[m]⟩ P B r) : toldF x = r := by
  subst hP hB
  have hdl := digs_len (a := p.natAbs) (by omega)
  simp only [List.mem_cons, List.not_mem_nil, or_false] at hc
  have split0 : ¬ (0 : Int) < (b : Int) → b = 0 := by omega
  have bk : (0 : Int) < ((b + k : Nat) : Int) → 0 < b + k := by omega
  cases h with
  | brBefore hp hf hb =>
    obtain rfl := is41.mp hf
    obtain ⟨b', rfl⟩ : ∃ b', b = b' + 1 := ⟨b - 1, by omega⟩
    exact way_before hx
  | brLast hp hf hb hl =>
    obtain rfl := is41.mp hf
    obtain rfl := split0 hb
    obtain ⟨k', rfl⟩ : ∃ k', k = k' + 1 := ⟨k - 1, by omega⟩
    exact gen_last hx hl
  | brMany hp hf hb hl hn =>
    obtain rfl := is41.mp hf
    obtain rfl := split0 hb
    obtain ⟨k', rfl⟩ : ∃ k', k = k' + 1 := ⟨k - 1, by omega⟩
    exact gen_many hx hl hn
  | brOne hp hf hb hl hn hlt =>
    obtain rfl := is41.mp hf
    obtain rfl := split0 hb
    obtain ⟨k', rfl⟩ : ∃ k', k = k' + 1 := ⟨k - 1, by omega⟩
    rw [gen_br p0 p1 hx hl hn, if_pos hlt]
  | brPos hp hf hb hl hn hlt h0 =>
    obtain rfl := is41.mp hf
    obtain rfl := split0 hb
    obtain ⟨k', rfl⟩ : ∃ k', k = k' + 1 := ⟨k - 1, by omega⟩
    rw [gen_br p0 p1 hx hl hn, if_neg hlt, if_pos h0]
  | brNeg hp hf hb hl hn hlt h0 =>
    obtain rfl := is41.mp hf
    obtain rfl := split0 hb
    obtain ⟨k', rfl⟩ : ∃ k', k = k' + 1 := ⟨k - 1, by omega⟩
    rw [gen_br p0 p1 hx hl hn, if_neg hlt, if_neg h0]
  | mkBr hf hm =>
    obtain rfl := is41.mp hm
    exact told_bracket hx
  | mkIn hf hm hi =>
    exact many_laid hx (no41'.mp hm) (laid_body (hasNo_false.mp hi)) fun h => no41'.mp (hf (by omega))
  | mkFill hf hm hi hp he =>
    obtain rfl := one_eq.mp he
    exact many_laid hx (no41'.mp hm) (laid_fill (bk hp)) fun _ => no41'.mp hf
  | bare hm hi hp =>
    have : b = 0 ∧ k = 0 := by omega
    obtain ⟨rfl, rfl⟩ := this
    rw [read_laid hx (no41'.mp hm) (hasNo_true.mp hi) (by omega) (by omega), laid_zero p c 32]
    exact is_in (read_body p0 p1)
  | blank hp hm hi hf hb =>
    obtain rfl := is32.mp hb
    rw [read_laid hx (no41'.mp hm) (hasNo_true.mp hi) (fun _ => one_ne.mp hf) (fun _ => by decide)]
    exact is_in (read_body p0 p1)
  | sg1 hp hm hi hf hs h1 =>
    have hs := in_pm.mp hs
    rw [read_laid hx (no41'.mp hm) (hasNo_true.mp hi) (fun _ => one_ne.mp hf) (fun _ => by omega)]
    exact not_in (sign_bad hs (.inl (by omega)))
  | sg2 hp hm hi hf hs h1 =>
    have hs := in_pm.mp hs
    rw [read_laid hx (no41'.mp hm) (hasNo_true.mp hi) (fun _ => one_ne.mp hf) (fun _ => by omega)]
    exact not_in (sign_bad hs (.inr (.inl (by omega))))
  | sg3 hp hm hi hf hs h1 =>
    have hs := in_pm.mp hs
    rw [read_laid hx (no41'.mp hm) (hasNo_true.mp hi) (fun _ => one_ne.mp hf) (fun _ => by omega)]
    refine not_in (sign_bad hs ?_)
    by_cases hb : b = 0
    · exact .inr (.inl (by omega))
    · exact .inr (.inr ⟨h1, by omega⟩)
  | plus hp hm hi hf h1 h2 h3 h4 =>
    obtain rfl := is43.mp h4
    have : b = 1 ∧ k = 0 := by omega
    obtain ⟨rfl, rfl⟩ := this
    rw [read_laid hx (no41'.mp hm) (hasNo_true.mp hi) (fun _ => one_ne.mp hf) (fun _ => by decide)]
    have e : laid p 43 1 0 = 43 :: digsOf p.natAbs := by unfold laid; rw [body_pos h3]; simp
    rw [e]
    have := read_plus (digs_all p.natAbs) (digs_ne _) (by omega)
    rw [digs_val] at this
    exact is_in (this.trans (by congr 1; omega))
  | minus hp hm hi hf hs h1 h2 h3 h4 =>
    have hs := in_pm.mp hs
    have h4 := no43'.mp h4
    obtain rfl : c = 45 := by omega
    have : b = 1 ∧ k = 0 := by omega
    obtain ⟨rfl, rfl⟩ := this
    rw [read_laid hx (no41'.mp hm) (hasNo_true.mp hi) (fun _ => one_ne.mp hf) (fun _ => by decide)]
    have e : laid p 45 1 0 = 45 :: digsOf p.natAbs := by unfold laid; rw [body_pos h3]; simp
    rw [e]
    have := read_neg (b := 0) (k := 0) (digs_all p.natAbs) (digs_ne _) (by omega)
    simp only [List.replicate_zero, List.nil_append, List.append_nil] at this
    rw [digs_val] at this
    exact is_in (this.trans (by congr 1; omega))
  | ux hp hm hi hf hs =>
    have hs := in_ux.mp hs
    rw [read_laid hx (no41'.mp hm) (hasNo_true.mp hi) (fun _ => one_ne.mp hf) (fun _ => by omega)]
    rcases hs with rfl | rfl
    · exact not_in (under_bad (bk hp))
    · exact not_in (x_bad (bk hp))
  | negB hp hf hm hi he hsp hpm hux hn hb =>
    have hf := no41'.mp hf
    have hsp := no32'.mp hsp
    have hpm := out_pm.mp hpm
    have hux := out_ux.mp hux
    have hd : 48 ≤ c ∧ c ≤ 57 := by omega
    rw [read_laid hx (no41'.mp hm) (hasNo_true.mp hi) (fun _ => one_ne.mp he) (fun _ => hf)]
    refine not_in ?_
    obtain ⟨b', rfl⟩ : ∃ b', b = b' + 1 := ⟨b - 1, by omega⟩
    have e : laid p c (b' + 1) k = c :: (List.replicate b' c ++ (bodyS p).cps.toList ++ List.replicate k c) := by simp [laid, List.replicate_succ]
    have hr : ∀ d ∈ laid p c (b' + 1) k, 33 ≤ d ∧ d < 128 := laid_33 (by omega)
    rw [e] at hr ⊢
    exact none_sign (c := 45) hr (by rw [body_neg hn]; simp) (.inr rfl)
  | figNeg hp hf hm hi he hsp hpm hux hn hb =>
    have hf := no41'.mp hf
    have hsp := no32'.mp hsp
    have hpm := out_pm.mp hpm
    have hux := out_ux.mp hux
    have hd : c = 48 ∨ c = 51 ∨ c = 55 ∨ c = 57 := by omega
    obtain rfl := split0 hb
    rw [read_laid hx (no41'.mp hm) (hasNo_true.mp hi) (fun _ => one_ne.mp he) (fun _ => hf)]
    have hD : AllDigits (digsOf p.natAbs ++ List.replicate k c) := fun d hd => by
      simp only [List.mem_append, List.mem_replicate] at hd
      rcases hd with hd | hd
      · exact digs_all _ d hd
      · omega
    have e : laid p c 0 k = 45 :: (digsOf p.natAbs ++ List.replicate k c) := by unfold laid; rw [body_neg hn]; simp
    have := read_neg (b := 0) (k := 0) hD (by simp [digs_ne]) (by simp only [List.length_append, List.length_replicate]; omega)
    simp only [List.replicate_zero, List.nil_append, List.append_nil] at this
    have hv := val_laid (p := p) (b := 0) (k := k) hd
    simp only [List.replicate_zero, List.nil_append] at hv
    rw [hv] at this
    rw [e]
    exact is_in this
  | figPos hp hf hm hi he hsp hpm hux hn =>
    have hf := no41'.mp hf
    have hsp := no32'.mp hsp
    have hpm := out_pm.mp hpm
    have hux := out_ux.mp hux
    have hd : c = 48 ∨ c = 51 ∨ c = 55 ∨ c = 57 := by omega
    rw [read_laid hx (no41'.mp hm) (hasNo_true.mp hi) (fun _ => one_ne.mp he) (fun _ => hf)]
    have hD : AllDigits (List.replicate b c ++ digsOf p.natAbs ++ List.replicate k c) := fun d hd => by
      simp only [List.mem_append, List.mem_replicate] at hd
      rcases hd with (hd | hd) | hd
      · omega
      · exact digs_all _ d hd
      · omega
    have e : laid p c b k = List.replicate b c ++ digsOf p.natAbs ++ List.replicate k c := by unfold laid; rw [body_pos hn]
    have := read_pos (b := 0) (k := 0) hD (by simp [digs_ne]) (by simp only [List.length_append, List.length_replicate]; omega)
    simp only [List.replicate_zero, List.nil_append, List.append_nil] at this
    rw [val_laid hd] at this
    rw [e]
    exact is_in this
end Mine
end P14
section P15
open PySem PySem.W PyProof.Rows PySem.Calls
namespace Mine
open NumText
theorem fill_one {i : Int} (h0 : 0 ≤ i) (h1 : i < 10) : Txt.item sFill i = ⟨#[(Txt.charAt sFill i).getD 0]⟩ ∧ (Txt.charAt sFill i).getD 0 ∈ [48, 51, 55, 32, 43, 45, 95, 41, 120, 57] :=
  ten (C := fun i => Txt.item sFill i = ⟨#[(Txt.charAt sFill i).getD 0]⟩ ∧ (Txt.charAt sFill i).getD 0 ∈ [48, 51, 55, 32, 43, 45, 95, 41, 120, 57]) h0 h1 (by decide +kernel)
theorem mark_one {i : Int} (h0 : 0 ≤ i) (h1 : i < 7) : Txt.item sMark i = ⟨#[(Txt.charAt sMark i).getD 0]⟩ :=
  seven (C := fun i => Txt.item sMark i = ⟨#[(Txt.charAt sMark i).getD 0]⟩) h0 h1 (by decide +kernel)
theorem pad_parts {way width : Int} {n : Nat} (h0 : 0 ≤ way) (h1 : way < 3) (hw : width ≤ 9) (hn : 1 ≤ n) :
    ∃ b k : Nat, padF width n = ((b + k : Nat) : Int) ∧ befF (padF width n) way = (b : Int) ∧ (padF width n).toNat - (befF (padF width n) way).toNat = k ∧ b + k ≤ 9 ∧ (0 < b + k → n + (b + k) ≤ 9) := by
  have hP0 : 0 ≤ padF width n := by unfold padF; split <;> omega
  have hP9 : padF width n + n ≤ 9 ∨ padF width n = 0 := by unfold padF; split <;> omega
  have hB : 0 ≤ befF (padF width n) way ∧ befF (padF width n) way ≤ padF width n := by
    rcases bef_cases (padF width n) way h0 h1 with ⟨_, e⟩ | ⟨_, e⟩ | ⟨_, e⟩ <;> (rw [e]; omega)
  exact ⟨(befF (padF width n) way).toNat, (padF width n).toNat - (befF (padF width n) way).toNat, by omega, by omega, rfl, by omega, by omega⟩
theorem due_told {n p : Int} {r : Told} (p0 : -1000000000 ≤ p) (p1 : p < 1000000000) (h : DueAt p (Txt.item sFill (n.fmod 10)) ((n.fdiv 10).fmod 3) (markF n) ((n.fdiv 210).fmod 9 + 1) r) : toldF (xF n p) = r := by
  have b9 := Int.fmod_lt_of_pos (n.fdiv 210) (show (0:Int) < 9 by decide)
  have hf := fill_one (i := n.fmod 10) (Int.fmod_nonneg_of_pos _ (by decide)) (Int.fmod_lt_of_pos _ (by decide))
  have hm : markF n = _ := mark_one (i := (n.fdiv 30).fmod 7) (Int.fmod_nonneg_of_pos _ (by decide)) (Int.fmod_lt_of_pos _ (by decide))
  obtain ⟨b, k, e1, e2, e3, e4, _⟩ := pad_parts (way := (n.fdiv 10).fmod 3) (width := (n.fdiv 210).fmod 9 + 1) (n := (bodyS p).length) (Int.fmod_nonneg_of_pos _ (by decide)) (Int.fmod_lt_of_pos _ (by decide)) (by omega) (text_len p0 p1).1
  unfold DueAt at h
  rw [hf.1, hm] at h
  refine due_gen (c := (Txt.charAt sFill (n.fmod 10)).getD 0) (m := (Txt.charAt sMark ((n.fdiv 30).fmod 7)).getD 0) (b := b) (k := k) p0 p1 ?_ e1 e2 e4 hf.2 h
  have et : (textF n p).cps.toList = laid p ((Txt.charAt sFill (n.fmod 10)).getD 0) b k := by
    unfold textF padL
    rw [e3, e2]
    simp
  rw [xF_list, et]
  simp
theorem digs_body {p : Int} : (digsOf p.natAbs).length + (if p < 0 then 1 else 0) = (bodyS p).length := by
  rw [len_list]
  by_cases h : p < 0
  · rw [if_pos h, body_neg h, List.length_cons]
  · rw [if_neg h, body_pos h]; rfl
theorem fig_lt {p : Int} {c b k : Nat} (hc : c = 48 ∨ c = 51 ∨ c = 55 ∨ c = 57) (hl : (bodyS p).length + (b + k) ≤ 9) : 0 ≤ figNum p ⟨#[c]⟩ ((b + k : Nat) : Int) (b : Int) ∧ figNum p ⟨#[c]⟩ ((b + k : Nat) : Int) (b : Int) < 1000000000 := by
  rw [← val_laid hc]
  have hD : AllDigits (List.replicate b c ++ digsOf p.natAbs ++ List.replicate k c) := fun d hd => by
    simp only [List.mem_append, List.mem_replicate] at hd
    rcases hd with (hd | hd) | hd
    · omega
    · exact digs_all _ d hd
    · omega
  have h1 := val_lt hD
  have h2 := digs_body (p := p)
  have h3 : (List.replicate b c ++ digsOf p.natAbs ++ List.replicate k c).length ≤ 9 := by
    simp only [List.length_append, List.length_replicate]; omega
  have h4 : 10 ^ (List.replicate b c ++ digsOf p.natAbs ++ List.replicate k c).length ≤ 10 ^ 9 := Nat.pow_le_pow_right (by decide) h3
  have : (10 : Nat) ^ 9 = 1000000000 := by decide
  omega
theorem due_bnd {n p : Int} {r : Told} (p0 : -1000000000 ≤ p) (p1 : p < 1000000000) (h : DueAt p (Txt.item sFill (n.fmod 10)) ((n.fdiv 10).fmod 3) (markF n) ((n.fdiv 210).fmod 9 + 1) r) :
    r ≠ .reply ∧ ∀ q, r = .port q → -1000000000 ≤ q ∧ q < 1000000000 := by
  have b9 := Int.fmod_lt_of_pos (n.fdiv 210) (show (0:Int) < 9 by decide)
  have hf := fill_one (i := n.fmod 10) (Int.fmod_nonneg_of_pos _ (by decide)) (Int.fmod_lt_of_pos _ (by decide))
  obtain ⟨b, k, e1, e2, e3, e4, e5⟩ := pad_parts (way := (n.fdiv 10).fmod 3) (width := (n.fdiv 210).fmod 9 + 1) (n := (bodyS p).length) (Int.fmod_nonneg_of_pos _ (by decide)) (Int.fmod_lt_of_pos _ (by decide)) (by omega) (text_len p0 p1).1
  unfold DueAt at h
  rw [hf.1, e2, e1] at h
  have hc := hf.2
  clear hf
  generalize (Txt.charAt sFill (n.fmod 10)).getD 0 = c at h hc
  simp only [List.mem_cons, List.not_mem_nil, or_false] at hc


  have fig : (⟨#[c]⟩ == Str.ofString ")") = false → (⟨#[c]⟩ == Str.ofString " ") = false → hasNo (Str.ofString "+-") ⟨#[c]⟩ = true → hasNo (Str.ofString "_x") ⟨#[c]⟩ = true → 0 < ((b + k : Nat) : Int) →
      0 ≤ figNum p ⟨#[c]⟩ ((b + k : Nat) : Int) (b : Int) ∧ figNum p ⟨#[c]⟩ ((b + k : Nat) : Int) (b : Int) < 1000000000 := by
    intro h1 h2 h3 h4 hp
    have h1 := no41'.mp h1
    have h2 := no32'.mp h2
    have h3 := out_pm.mp h3
    have h4 := out_ux.mp h4
    exact fig_lt (by omega) (e5 (by omega))
  constructor
  · intro e; subst e; cases h
  · intro q e
    cases h with
    | brBefore | brLast | brMany | brOne | mkBr | mkIn | mkFill | sg1 | sg2 | sg3 | ux | negB => cases e
    | bare | blank | plus => cases e; exact ⟨p0, p1⟩
    | brPos => cases e; rw [Int.fdiv_eq_ediv_of_nonneg _ (by decide)]; omega
    | brNeg => cases e; rw [Int.fdiv_eq_ediv_of_nonneg _ (by decide)]; omega
    | minus => cases e; omega
    | figNeg hp h1 _ _ _ h2 h3 h4 => cases e; have := fig h1 h2 h3 h4 hp; omega
    | figPos hp h1 _ _ _ h2 h3 h4 => cases e; have := fig h1 h2 h3 h4 hp; omega
end Mine
end P15
section C5
open PySem PySem.W PyProof.Rows PySem.Calls
namespace Mine
theorem codeC_loop' {M : Model} {A : Around} {s : Shared} {c : Code} {R : Result → Shared → Prop} (hq : c.quiet = true) (I : Nat → Shared → Prop)
    (turn : ∀ n s, I n s → wpC M (A.under c) (M.den c) (fun fin s' => match fin with
        | .done f => R (.ok f) s'
        | .again c' => (c' = c ∧ ∃ m, m < n ∧ I m s') ∨ (c'.quiet = true ∧ codeC M A c' R s')) (fun e s' => R (.error e) s') s)
    (n : Nat) (h : I n s) : codeC M A c R s := by
  induction n using Nat.strongRecOn generalizing s with
  | ind n ih =>
    refine codeC_of_tree (wpC_mono (turn n s h) (fun fin s' hf => ?_) fun _ _ h' => h')
    cases fin with
    | done f => exact hf
    | again c' =>
      rcases hf with ⟨rfl, m, hm, hI⟩ | hf
      · exact ⟨hq, ih m hm hI⟩
      · exact hf
section
variable {prog : Program} {w : World} {A : Around} {s : Shared} {env : Env} {E : Value → Shared → Prop}
theorem codeC_forLoop {R : Result → Shared → Prop} {target : Expr} {it : Value} {body orelse : List Stmt} (I : Nat → Shared → Prop)
    (turn : ∀ n s, I n s → wpAny (model prog w) A (pyNext it) (fun r s₁ => match r with
      | none => wpAny (model prog w) A (execs orelse env) (fun f s₃ => R (.ok f) s₃) (notedBy (model prog w) A env fun e s' => R (.error e) s') s₁
      | some v => wpAny (model prog w) A (assign target env v) (fun _ s₂ => wpC (model prog w) A (execs body env) (fun f s₃ => match f with
          | .next | .cont => ∃ m, m < n ∧ I m s₃
          | .brk => R (.ok .next) s₃
          | .ret v => R (.ok (.ret v)) s₃) (fun _ _ => False) s₂) (fun _ _ => False) s₁) (fun _ _ => False) s)
    (n : Nat) (h : I n s) (ht : ∀ v, letOwnedTupleGo target it v = pure () := by intro _; rfl) : codeC (model prog w) A (.forLoop target it body orelse env) R s := by
  refine codeC_loop' rfl I (fun n s hI => ?_) n h
  show wpC _ _ ((forTurn target it body orelse env).onRaise (fun x => do noteFrame x env; theTreesLotGoes x)) _ _ s
  refine wpC_onRaise (wpC_mono (E := fun _ _ => False) ?_ (fun _ _ x => x) fun _ _ x => x.elim)
  simp only [forTurn]
  refine wpC_stand (wpC_then (wpAny_onRaise (wpAny_mono (turn n s hI) (fun r s₁ h₁ => ?_) fun _ _ h' => h'.elim)))
  cases r with
  | none => exact wpC_of (wpAny_pure (.inr ⟨rfl, codeC_of (codeAny_block h₁)⟩))
  | some v =>
    refine wpC_then (wpAny_of_eq (ht v) ?_)
    refine wpC_then (wpAny_mono h₁ (fun _ s₂ h₂ => wpC_bind (wpC_mono h₂ (fun f s₃ h₃ => ?_) fun _ _ h' => h')) fun _ _ h' => h')
    cases f with
    | next => exact wpC_of (wpAny_pure (.inl ⟨rfl, h₃⟩))
    | cont => exact wpC_of (wpAny_pure (.inl ⟨rfl, h₃⟩))
    | brk => exact wpC_of (wpAny_pure h₃)
    | ret v => exact wpC_of (wpAny_pure h₃)
theorem wpC_For {target iter : Expr} {body orelse : List Stmt} {pos : Pos} {Q : Flow → Shared → Prop}
    (h : wpAny (model prog w) A (eval iter env) (fun x s₁ => wpAny (model prog w) A (pyIter x) (fun it s₂ =>
      codeC (model prog w) A (.forLoop target it body orelse env) (fun r s' => match r with | .ok f => Q f s' | .error e => cameBackBy (model prog w) A env E e s') s₂) E s₁) E s)
    (hs : ∀ x, foldedSetIterable iter env x = pure x := by intro _; rfl) :
    wpC (model prog w) A (exec (.For target iter body orelse pos) env) Q E s := by
  rw [exec_For]
  exact wpC_stand (wpC_then (wpAny_mono h (fun x s₁ h₁ => wpC_then (wpAny_of_eq (hs x) (wpC_stand (wpC_then (wpAny_holding
    (wpAny_mono h₁ (fun it s₂ h₂ => wpC_runOwn h₂) fun _ _ h' => h')))))) fun _ _ h' => h'))
/-- what one turn keeps -/
def TurnC (h₀ : Heap) (L : Addr) (nw : List (Addr × Obj)) (J : (Str → Option Value) → Prop) (s : Shared) (Q : Flow → Shared → Prop) (f : Flow) (s₂ : Shared) : Prop :=
  match f with
  | .ret v => Q (.ret v) s₂
  | .brk => Q .next s₂
  | _ => ∃ h' tk' m', s₂ = { s with heap := h', toks := tk' } ∧ Fr h₀ L h' m' ∧ News h₀ L h' nw ∧ J m'
theorem loopC {h₀ : Heap} {x : Str} {px : Pos} {body : List Stmt} {Q : Flow → Shared → Prop} {l : Addr} {vs : List Value} {ns : List Int} {nn : Nat} {m₀ : Str → Option Value} {news : List (Addr × Obj)}
    (J : (Str → Option Value) → Prop) (hx : env.kindOf x = some .local) (hp : (env.scope.kind == .class || (env.scope.kind == .module && env.locals != env.globals)) = false)
    (hh : A.handled = none) (hl : (l, listOf vs.toArray nn) ∈ news) (hi : IntsAre vs ns) (F : Fr h₀ env.locals s.heap m₀) (N : News h₀ env.locals s.heap news) (hj : J m₀)
    (turn : ∀ n t m₁ h tk nw, J m₁ → Fr h₀ env.locals h (fun y => if y = x then some (.int n t) else m₁ y) → News h₀ env.locals h nw →
      wpC (model prog w) A (execs body env) (TurnC h₀ env.locals nw J s Q) (fun _ _ => False) { s with heap := h, toks := tk })
    (done : ∀ m₁ h tk, J m₁ → Fr h₀ env.locals h m₁ → News h₀ env.locals h news → Q .next { s with heap := h, toks := tk }) :
    wpAny (model prog w) A (pyIter (.ref l)) (fun it s₂ => codeC (model prog w) A (.forLoop (.Name x px) it body [] env)
      (fun r s' => match r with | .ok f => Q f s' | .error e => cameBackBy (model prog w) A env E e s') s₂) E s := by
  have hol : s.heap.get? l = some (listOf vs.toArray nn) := (N _ hl).1
  have hls : s.heap.IsList l vs.toArray := ⟨_, hol, rfl, nn, rfl⟩
  have hne : l ≠ s.heap.objs.size := Nat.ne_of_lt (Heap.lt_size hol)
  refine wpAny_pyIter_list hls ?_
  have W := Walks.list (prog := prog) (w := w) hh s.heap.objs.size l hne vs.toArray
  have hlen : vs.toArray.size = ns.length := by simp [hi.length]
  rw [hlen] at W
  have hI : ∀ p ∈ news, p.1 ≠ s.heap.objs.size := fun p hp e => absurd (Heap.lt_size (N p hp).1) (by rw [e]; exact Nat.lt_irrefl _)
  have hLI : env.locals ≠ s.heap.objs.size := fun e => absurd F.ns.lt (e ▸ Nat.lt_irrefl _)
  have nI : h₀.get? s.heap.objs.size = none := next_is_new F
  refine codeC_forLoop
    (fun k s' => ∃ h' tk m' i, s' = { s with heap := h', toks := tk } ∧ h'.IsListIter s.heap.objs.size l i ∧ Fr h₀ env.locals h' m' ∧ News h₀ env.locals h' news ∧ J m' ∧ i ≤ ns.length ∧ k = ns.length + 1 - i) ?_ (ns.length + 1)
    ⟨_, _, m₀, 0, rfl, ⟨_, Heap.get?_push_size _ rfl, rfl, rfl⟩, F.push _, (fun p hp => ⟨Heap.get?_push_of_some _ (N p hp).1, (N p hp).2⟩), hj, Nat.zero_le _, rfl⟩
  rintro k s' ⟨h', tk, m', i, rfl, hit, F', N', hJ, hin, rfl⟩
  have hls' : h'.IsList l vs.toArray := ⟨_, (N' _ hl).1, rfl, nn, rfl⟩
  have next : ∀ h₁ : Heap, (∀ b o, b ∉ [s.heap.objs.size] → h'.get? b = some o → h₁.get? b = some o) → Fr h₀ env.locals h₁ m' ∧ News h₀ env.locals h₁ news := fun h₁ hk₁ =>
    ⟨⟨F'.ns.at' fun o e => hk₁ _ o (fun z => hLI (List.mem_singleton.mp z)) e, fun b o e => hk₁ b o (fun z => by rw [List.mem_singleton.mp z, nI] at e; cases e) (F'.keep b o e), F'.above⟩,
      fun p hp => ⟨hk₁ _ _ (fun z => hI p hp (List.mem_singleton.mp z)) (N' p hp).1, (N' p hp).2⟩⟩
  by_cases hlt : i < ns.length
  · refine W.item i _ _ _ hlt ⟨hit, hls'⟩ fun v h₁ tk₁ hP hst₁ hk₁ => ?_
    obtain ⟨F₁, N₁⟩ := next h₁ hk₁
    obtain ⟨t, ht⟩ := hi.get i ns[i] (by simp [hlt])
    have hv : v = .int ns[i] t := by
      have hP' : vs[i]? = some v := by simpa using hP
      rw [ht] at hP'; exact (Option.some.inj hP').symm
    subst hv
    refine wpAny_assign_Name (wpAny_storeName_local hx F₁.ns (fun h₂ hn₂ hs₂ => ?_) hp)
    have F₂ := F₁.set hn₂ hs₂
    obtain ⟨oI, hoI, hcI, hdI⟩ := hst₁.1
    have N₂ : News h₀ env.locals h₂ ((s.heap.objs.size, oI) :: news) := fun p hp => by
      rcases List.mem_cons.mp hp with rfl | hp
      · exact ⟨(hs₂.2 _ (Ne.symm hLI)).trans hoI, Ne.symm hLI, nI⟩
      · exact (N₁.set hs₂) p hp
    refine wpC_mono (turn _ _ _ _ _ _ hJ F₂ N₂) (fun f s₃ h₃ => ?_) fun _ _ e => e
    have fin : (∃ h' tk' m', s₃ = { s with heap := h', toks := tk' } ∧ Fr h₀ env.locals h' m' ∧ News h₀ env.locals h' ((s.heap.objs.size, oI) :: news) ∧ J m') →
        ∃ m, m < ns.length + 1 - i ∧ ∃ h' tk m' i, s₃ = { s with heap := h', toks := tk } ∧ h'.IsListIter s.heap.objs.size l i ∧ Fr h₀ env.locals h' m' ∧ News h₀ env.locals h' news ∧ J m' ∧ i ≤ ns.length ∧ m = ns.length + 1 - i := by
      rintro ⟨h₄, tk₄, m₄, rfl, F₄, N₄, J₄⟩
      exact ⟨ns.length + 1 - (i + 1), by omega, h₄, tk₄, m₄, i + 1, rfl, ⟨oI, (N₄ _ (.head _)).1, hcI, hdI⟩, F₄, fun p hp => N₄ p (.tail _ hp), J₄, hlt, rfl⟩
    cases f with
    | ret v => exact h₃
    | brk => exact h₃
    | cont => exact fin h₃
    | next => exact fin h₃
  · have hin' : i = ns.length := by omega
    subst hin'
    refine W.done _ _ _ ⟨hit, hls'⟩ fun h₁ tk₁ hk₁ => wpAny_execs_nil ?_
    obtain ⟨F₁, N₁⟩ := next h₁ hk₁
    exact done m' h₁ tk₁ hJ F₁ N₁
/-- the call of the law's own def -/
theorem callC_full {R : Result → Shared → Prop} {name : Str} {params : Arguments} {body : List Stmt} {scope : Scope}
    {dV kV pm cd doc : Value} {a : Addr} {o : Obj} {args : Args} {binds : List (Str × Value)}
    (hroom : A.depth < recursionLimit) (ho : s.heap.get? a = some o) (hdata : o.data = .func { docDef name params body scope pm cd doc with defaults := dV, kwdefaults := kV }) (hlim : s.heap.NoLimit) (hcd : s.heap.CodeRec cd name)
    (hbind : BindsTo s { docDef name params body scope pm cd doc with defaults := dV, kwdefaults := kV } args binds)
    (hloc : ∀ x ∈ binds, scope.names.lookup x.1 = some .local)
    (h : ∀ h₁, Fr s.heap s.heap.objs.size h₁ (fun x => binds.reverse.lookup x) →
      wpC (model prog w) (A.deeper (envOf name scope s.heap.objs.size a cd)) (execs body (envOf name scope s.heap.objs.size a cd))
        (fun f s' => R (.ok (.ret (match f with | .ret v => v | _ => .none))) s')
        (fun _ _ => False) { s with heap := h₁, toks := s.toks + binds.length })
    (hco : scope.isCoroutine = false := by rfl) (hgen : scope.isGenerator = false := by rfl) (hk : scope.kind = .function := by rfl)
    (hcell : ∀ x ∈ scope.names, x.2 ≠ .cell := by decide) :
    codeC (model prog w) A (.call (.ref a) args) R s :=
  codeC_call_def hroom ho hdata hlim hcd rfl hbind hcell hloc (fun h₁ hns hkeep => wpC_mono (h h₁ ⟨hns, hkeep, Nat.le_refl _⟩) (fun _ _ x => x) fun _ _ x => x.elim) hco hgen hk
theorem enterK {M : Model} {f : Value} {pos : List Value} {kw : List (Str × Value)} {c : ClaimW} {cl : Str → Option Addr} {mean : ExcName → Option Value} {args : List WData} {s₁ : Shared}
    (h : codeC M callerA (.call f ⟨pos, kw⟩) (GoodWG c cl mean args s₁) s) : wpK M (PySem.call f pos kw) (fun v s' => GoodWG c cl mean args s₁ (.ok (.ret v)) s') (fun e s' => GoodWG c cl mean args s₁ (.error e) s') s :=
  wpK_call (codeC_mono h fun res s' g => by rcases g.1 with ⟨v, _, _, rfl, _⟩ | ⟨e, _, _, rfl, _⟩ <;> exact g)
end
end Mine
end C5
section T2
open PySem PySem.W PyProof.Rows PySem.Calls
namespace Mine
local macro_rules | `(tactic| walk_at "subscriptTail Name BinOp str int") => `(tactic| (k_here; (with_reducible show wpAny _ _ (subscriptTail _ _ (Value.str _ _) (Value.int _ _)) _ _ _); (refine KXi.item rfl ?mz0 ?mz1 ?mz2 ?_); (case mz2 => omega); (case mz0 => ((have b1 := find_bnd (by assumption)); (have b2 := find3_bnd (by assumption) (by omega)); omega)); (case mz1 => ((have b1 := find_bnd (by assumption)); (have b2 := find3_bnd (by assumption) (by omega)); omega)); intro _; (try dsimp only)))
theorem told_end {h₀ h' : Heap} {L : Addr} {m : Str → Option Value} {news : List (Addr × Obj)} {s : Shared} {Q : Value → Shared → Prop} {x : Str} {t : Tok} {tk' : Nat} (r : Told)
    (hret : ∀ (t : Tok) (h' : Heap) (tk' : Nat), Fr h₀ L h' m → News h₀ L h' news → Q ((toldF x).val t) { s with heap := h', toks := tk' })
    (e : toldF x = r) (F : Fr h₀ L h' m) (N : News h₀ L h' news) : Q (r.val t) { s with heap := h', toks := tk' } := e ▸ hret t h' tk' F N
theorem told (w : World) (mean : ExcName → Option Value) (mg mb : Str → Option Value) (x : Str) (tx : Tok) (hx : x.length ≤ 60) (hxc : ∀ c ∈ x.cps.toList, c < 128) :
  LawClaimC w mean mg mb 164 [.str x tx] (toldF x).val := by
  dsimp only [LawClaimC]; k_fill
  intro cn cs a ccd h₀ L m news s Q E B F X N T hk hret
  refine wpC_call ?_
  k_dflt (refine' codeC_defS0 ?k1 ?k2 ?k3 ?k4 ?k5 ?kA ?k6 ?k7 ?k8 ?k9 ?kB ?_ ?cK ?c2 ?c3 ?c4 ?c5; (case kA => exact rfl); (case k2 => k_asm); (case k1 => k_asm); (case k3 => k_asm); (case k4 => k_asm); (case k5 => k_asm); (case k6 => k_is); (case k7 => k_is); (case k8 => k_room); (case k9 => exact BindsTo.of_eq rfl); (case kB => exact locs rfl); (case cK => assumption); (case c2 => exact rfl); (case c3 => exact rfl); (case c4 => exact rfl); (case c5 => decide); k_whole; intro g' L' h' FG' F' N' B' X' T' D'; (try dsimp only); (try k_lift B'); (try k_fold))
  refine wpC_execs_cons (wpC_Try (wpC_execs_cons (wpC_Assign_Tuple (wpC_Call_Name ?_))))
  k_steps
  k_dflt (refine wpC_callK (K := hdC.heap_39 w.params) (by k_is) ?_)
  k_steps
  refine wpC_call ?_
  k_dflt (refine' codeC_defK ?k1 ?k2 ?k3 ?k4 ?k5 ?kA ?kF ?kK ?k6 ?k7 ?k8 ?k9 ?kB ?_ ?c2 ?c3 ?c4 ?c5; (case kA => exact rfl); (case kF => exact rfl); (case kK => exact rfl); (case k1 => k_asm); (case k2 => k_asm); (case k3 => k_asm); (case k4 => k_asm); (case k5 => k_asm); (case k6 => k_is); (case k7 => k_is); (case k8 => k_room); (case k9 => exact BindsTo.of_eq rfl); (case kB => exact locs rfl); (case c2 => exact rfl); (case c3 => exact rfl); (case c4 => exact rfl); (case c5 => decide); k_whole; intro g' L' h' FG' F' N' B' X' T'; (try dsimp only); (try k_lift B'))
  repeat' (first
    | ((with_reducible show wpC _ _ (execs (Stmt.Assign _ (Expr.Call (Expr.Name (Str.ofString "int") _) _ _ _) _ :: _) _) _ _ _); refine wpC_execs_cons (wpC_Assign_Name (wpC_Call_Name ?_)); (try clear qk); (try clear ek))
    | ((with_reducible refine wpC_of (wpAny_execs_nil ?_)); (try dsimp only); (try clear qk); (try clear ek))
    | ((with_reducible refine wpC_execs_any ?_); (try dsimp only); (try clear qk); (try clear ek); (try k_fold))
    | ((with_reducible show wpC _ _ (callWith _ (Value.type _) _ _ _) _ _ _); k_dflt (refine wpC_callT ?_))
    | ((with_reducible show wpC _ _ (PySem.call (Value.type _) _) _ _ _); (rename (List.map _ _ = Txt.split _ _) => hlk); (rename (((List.length _ : Nat) : Int) = 5) => hl5); (rename (_[Int.toNat 3]? = some _) => hget);
       (have h4 := pieces_five (x := x) hlk hl5); (rw [hlk] at hget); (have h5 : _ ∈ pieces x := List.mem_of_getElem? hget); (have hyc := piece_small hxc (by assumption) (by assumption) h5); (have hyl := piece_len h5);
       (refine int_two (by omega) hyc rfl ?kok ?kno); (case' kok => (intro n6 h6; (try dsimp only); (try k_fold))); (case' kno => (intro h6 h6' e6 tk6 hx6; (try dsimp only); (try k_fold))))
    | ((fail_if_success (with_reducible show wpC _ _ _ _ _ _)); (fail_if_success (with_reducible show Q _ _)); first | (k_unfold; (try dsimp only)) | (k_end; kc_close) | walk1 | (dsimp only; walk1) | (leave1; walk_say "STEP leave1"; (try dsimp only)))
    | fail "no step")
  all_goals (first
    | refine told_end .reply hret (told_reply (by assumption)) ?_ ?_
    | refine told_end .proto hret (told_p1 (by assumption) (by assumption)) ?_ ?_
    | refine told_end .proto hret (told_p2 (by assumption) (by assumption) (by assumption)) ?_ ?_
    | refine told_end .proto hret (told_p3 (by assumption) (by assumption) (by assumption) (by assumption)) ?_ ?_
    | ((rename (List.map _ _ = Txt.split _ _) => hlk); refine told_end .proto hret (told_p4 (by assumption) (by assumption) (by assumption) (by assumption) (pieces_not hlk (by assumption))) ?_ ?_)
    | refine told_end .value hret (told_value (by assumption) (by assumption) (by assumption) (by assumption) (by assumption) hget (by assumption)) ?_ ?_
    | refine told_end (.port _) hret (told_port (by assumption) (by assumption) (by assumption) (by assumption) (by assumption) hget (by assumption)) ?_ ?_
    | skip)
  all_goals (first | k_asm | (refine' cb_drop ?_ ?_; rotate_left; assumption; kcj_all))
end Mine
end T2
section T3
open PySem PySem.W PyProof.Rows PySem.Calls
namespace Mine
local macro_rules | `(tactic| walk_at "subscriptTail Name UnaryOp str int") => `(tactic| (k_here; (with_reducible show wpAny _ _ (subscriptTail _ _ (Value.str _ _) (Value.int _ _)) _ _ _); (refine KXi.item rfl ?mz0 ?mz1 ?mz2 ?_); (case mz2 => omega); (case mz0 => omega); (case mz1 => omega); intro _; (try dsimp only)))
local macro_rules | `(tactic| walk_at "binaryOp Pow int int") => `(tactic| (k_here; (with_reducible refine pow_line ?mz0 ?mz1 ?_); (case mz0 => omega); (case mz1 => omega); intro pw hpw hpw1 hpw2; (try dsimp only)))
local macro_rules | `(tactic| walk_at "binaryOp Mult int int") => `(tactic| (k_here; first
  | ((with_reducible refine mul_left ?mz0 ?mz1 ?_); (case mz0 => omega); (case mz1 => omega); (try dsimp only))
  | ((with_reducible refine mul_right ?mz0 ?mz1 ?_); (case mz0 => omega); (case mz1 => omega); (try dsimp only))))
theorem due (w : World) (mean : ExcName → Option Value) (mg mb : Str → Option Value) (port : Int) (tp : Tok) (fill : Str) (tf : Tok) (way : Int) (tw : Tok) (mark : Str) (tm : Tok) (width : Int) (td : Tok)
   (hp1 : -1000000000 ≤ port) (hp2 : port < 1000000000) (hw1 : 0 ≤ way) (hw2 : way < 3) (hd1 : 1 ≤ width) (hd2 : width ≤ 9) (hf : fill.length = 1) (hm : mark.length = 1) (hfill : fill ∈ fills)
   (hb1 : 1 ≤ (Str.ofString (toString port)).length) (hb2 : (Str.ofString (toString port)).length ≤ 11) (hb3 : (Str.ofString (toString (port.natAbs : Int))).length ≤ 10) (hb4 : 1 ≤ (Str.ofString (toString (port.natAbs : Int))).length) :
  LawClaimR w mean mg mb 157 [.int port tp, .str fill tf, .int way tw, .str mark tm, .int width td] (DueAt port fill way mark width) := by
  dsimp only [LawClaimR]; k_fill
  intro cn cs a ccd h₀ L m news s Q E B F X N T hk hret
  have hfig := fig_bnd fill
  refine wpAny_call ?_
  k_dflt (refine' code_def ?k1 ?k2 ?k3 ?k4 ?k5 ?kA ?kF ?kK ?k6 ?k7 ?k8 ?k9 ?kB ?_ ?c2 ?c3 ?c4 ?c5; (case kA => exact rfl); (case kF => exact rfl); (case kK => assumption); (case k1 => k_asm); (case k2 => k_asm); (case k3 => k_asm); (case k4 => k_asm); (case k5 => k_asm); (case k6 => k_is); (case k7 => k_is); (case k8 => k_room); (case k9 => exact BindsTo.of_eq rfl); (case kB => exact locs rfl); (case c2 => exact rfl); (case c3 => exact rfl); (case c4 => exact rfl); (case c5 => decide); k_whole; intro g' L' h' FG' F' N' B' X' T'; (try dsimp only); (try k_lift B'); (try k_fold))
  repeat' (first
    | ((with_reducible show wpAny _ _ (storeName _ (Str.ofString "pad") (Value.int (ite _ _ _) _)) _ _ _); refine pad_gen (C := fun b => wpAny _ _ (storeName _ (Str.ofString "pad") (Value.int b _)) _ _ _) hd2 hb1 ?_; intro P hP hP0 hP1; dsimp only)
    | ((with_reducible show wpAny _ _ (storeName _ (Str.ofString "before") (Value.int (List.getD _ _ _) _)) _ _ _); refine bef_gen (C := fun b => wpAny _ _ (storeName _ (Str.ofString "before") (Value.int b _)) _ _ _) hP0 hw1 hw2 ?_; intro B hB hB0 hB1; dsimp only)
    | ((fail_if_success (with_reducible show Q _ _)); (first | (k_unfold; (try dsimp only)) | (k_end; kc_close) | walk1 | (dsimp only; walk1) | (leave1; walk_say "STEP leave1"; (try dsimp only)) | fail "no step")) | fail "no")
  · (refine due_end .proto hret hP hB ?_ ?_ (.brBefore (by assumption) (by assumption) (by assumption))) <;> first | k_asm | (refine' cb_drop ?_ ?_; rotate_left; assumption; kcj_all)
  · (refine due_end .proto hret hP hB ?_ ?_ (.brLast (by assumption) (by assumption) (by assumption) (by assumption))) <;> first | k_asm | (refine' cb_drop ?_ ?_; rotate_left; assumption; kcj_all)
  · (refine due_end .proto hret hP hB ?_ ?_ (.brMany (by assumption) (by assumption) (by assumption) (by assumption) (by assumption))) <;> first | k_asm | (refine' cb_drop ?_ ?_; rotate_left; assumption; kcj_all)
  · (refine due_end .value hret hP hB ?_ ?_ (.brOne (by assumption) (by assumption) (by assumption) (by assumption) (by assumption) (by assumption))) <;> first | k_asm | (refine' cb_drop ?_ ?_; rotate_left; assumption; kcj_all)
  · (refine due_end (.port _) hret hP hB ?_ ?_ (.brPos (by assumption) (by assumption) (by assumption) (by assumption) (by assumption) (by assumption) (by assumption))) <;> first | k_asm | (refine' cb_drop ?_ ?_; rotate_left; assumption; kcj_all)
  · (refine due_end (.port _) hret hP hB ?_ ?_ (.brNeg (by assumption) (by assumption) (by assumption) (by assumption) (by assumption) (by assumption) (by assumption))) <;> first | k_asm | (refine' cb_drop ?_ ?_; rotate_left; assumption; kcj_all)
  · (refine due_end .proto hret hP hB ?_ ?_ (.mkBr (fun _ => by assumption) (by assumption))) <;> first | k_asm | (refine' cb_drop ?_ ?_; rotate_left; assumption; kcj_all)
  · (refine due_end .proto hret hP hB ?_ ?_ (.mkFill (by assumption) (by assumption) (by assumption) (by assumption) (by assumption))) <;> first | k_asm | (refine' cb_drop ?_ ?_; rotate_left; assumption; kcj_all)
  · exfalso; omega
  · (refine due_end (.port _) hret hP hB ?_ ?_ (.blank (by assumption) (by assumption) (by assumption) (by assumption) (by assumption))) <;> first | k_asm | (refine' cb_drop ?_ ?_; rotate_left; assumption; kcj_all)
  · (refine due_end .value hret hP hB ?_ ?_ (.negB (by assumption) (by assumption) (by assumption) (by assumption) (by assumption) (by assumption) (by assumption) (by assumption) (by assumption) (by assumption))) <;> first | k_asm | (refine' cb_drop ?_ ?_; rotate_left; assumption; kcj_all)
  · exact (no_fig hfill (by assumption) (by assumption) (by assumption) (by assumption) (by assumption)).elim
  · (subst_vars; refine due_end (.port _) hret rfl rfl ?_ ?_ (.figNeg (by assumption) (by assumption) (by assumption) (by assumption) (by assumption) (by assumption) (by assumption) (by assumption) (by assumption) (by assumption))) <;> first | k_asm | (refine' cb_drop ?_ ?_; rotate_left; assumption; kcj_all)
  · exact (no_fig hfill (by assumption) (by assumption) (by assumption) (by assumption) (by assumption)).elim
  · (subst_vars; refine due_end (.port _) hret rfl rfl ?_ ?_ (.figPos (by assumption) (by assumption) (by assumption) (by assumption) (by assumption) (by assumption) (by assumption) (by assumption) (by assumption))) <;> first | k_asm | (refine' cb_drop ?_ ?_; rotate_left; assumption; kcj_all)
  · (refine due_end .value hret hP hB ?_ ?_ (.ux (by assumption) (by assumption) (by assumption) (by assumption) (by assumption))) <;> first | k_asm | (refine' cb_drop ?_ ?_; rotate_left; assumption; kcj_all)
  · (refine due_end .value hret hP hB ?_ ?_ (.sg1 (by assumption) (by assumption) (by assumption) (by assumption) (by assumption) (by assumption))) <;> first | k_asm | (refine' cb_drop ?_ ?_; rotate_left; assumption; kcj_all)
  · (refine due_end .value hret hP hB ?_ ?_ (.sg2 (by assumption) (by assumption) (by assumption) (by assumption) (by assumption) (by assumption))) <;> first | k_asm | (refine' cb_drop ?_ ?_; rotate_left; assumption; kcj_all)
  · (refine due_end .value hret hP hB ?_ ?_ (.sg3 (by assumption) (by assumption) (by assumption) (by assumption) (by assumption) (by assumption))) <;> first | k_asm | (refine' cb_drop ?_ ?_; rotate_left; assumption; kcj_all)
  · (refine due_end (.port _) hret hP hB ?_ ?_ (.plus (by assumption) (by assumption) (by assumption) (by assumption) (by assumption) (by assumption) (by assumption) (by assumption))) <;> first | k_asm | (refine' cb_drop ?_ ?_; rotate_left; assumption; kcj_all)
  · (refine due_end (.port _) hret hP hB ?_ ?_ (.minus (by assumption) (by assumption) (by assumption) (by assumption) (by assumption) (by assumption) (by assumption) (by assumption) (by assumption))) <;> first | k_asm | (refine' cb_drop ?_ ?_; rotate_left; assumption; kcj_all)
  · (refine due_end .proto hret hP hB ?_ ?_ (.mkIn (fun _ => by assumption) (by assumption) (by assumption))) <;> first | k_asm | (refine' cb_drop ?_ ?_; rotate_left; assumption; kcj_all)
  · (refine due_end .proto hret hP hB ?_ ?_ (.mkBr (fun h => absurd h (by assumption)) (by assumption))) <;> first | k_asm | (refine' cb_drop ?_ ?_; rotate_left; assumption; kcj_all)
  · (refine due_end (.port _) hret hP hB ?_ ?_ (.bare (by assumption) (by assumption) (by assumption))) <;> first | k_asm | (refine' cb_drop ?_ ?_; rotate_left; assumption; kcj_all)
  · exfalso; omega
  · (refine due_end .proto hret hP hB ?_ ?_ (.mkIn (fun h => absurd h (by assumption)) (by assumption) (by assumption))) <;> first | k_asm | (refine' cb_drop ?_ ?_; rotate_left; assumption; kcj_all)
end Mine
end T3
section T5
open PySem PySem.W PyProof.Rows PySem.Calls
namespace Mine
theorem fmt_turn {prog : Program} {w : World} {A : Around} {E : Value → Shared → Prop} {s : Shared} {Q : Value → Shared → Prop} {p n i j : Int} {t u : Tok} (p0 : -1000000000 ≤ p) (p1 : p < 1000000000)
    (h : ∀ t' tk, (padL (bodyS p) ((Txt.charAt sFill (n.fmod 10)).getD 0) (i.fmod 3) (j.fmod 9 + 1)).length ≤ 11 → Q (.str (padL (bodyS p) ((Txt.charAt sFill (n.fmod 10)).getD 0) (i.fmod 3) (j.fmod 9 + 1)) t') { s with toks := tk }) :
    wpAny (model prog w) A (call (.builtin "format") [.str (bodyS p) t, .str (Txt.item sFill (n.fmod 10) ++ Txt.item sWay (i.fmod 3) ++ Str.ofString (toString (j.fmod 9 + 1))) u]) Q E s := by
  have hl := (text_len p0 p1).2.1
  have b9 := Int.fmod_lt_of_pos j (show (0:Int) < 9 by decide)
  refine fmt_law (Int.fmod_nonneg_of_pos _ (by decide)) (Int.fmod_lt_of_pos _ (by decide)) (Int.fmod_nonneg_of_pos _ (by decide)) (Int.fmod_lt_of_pos _ (by decide)) (Int.fmod_nonneg_of_pos _ (by decide)) (Int.fmod_lt_of_pos _ (by decide)) (Nat.le_trans hl (by decide)) fun t' tk => h t' tk ?_
  exact padL_len (Int.fmod_nonneg_of_pos _ (by decide)) (Int.fmod_lt_of_pos _ (by decide)) (by omega) hl
theorem ne_same {prog : Program} {w : World} {A : Around} {E : Value → Shared → Prop} {s : Shared} {Q : Value → Shared → Prop} {r : Told} {t u : Tok} (h : Q (.bool false) s) :
    wpAny (model prog w) A (compareOp .NotEq (r.val t) (r.val u)) Q E s := by
  cases r with
  | reply => exact ne_str (by simpa using h)
  | proto => exact ne_str (by simpa using h)
  | value => exact ne_str (by simpa using h)
  | port n => exact ne_int (by simpa using h)
theorem ne_reply {prog : Program} {w : World} {A : Around} {E : Value → Shared → Prop} {s : Shared} {Q : Value → Shared → Prop} {t u : Tok} (h : Q (.bool false) s) :
    wpAny (model prog w) A (compareOp .NotEq (Told.reply.val t) (.str (Str.ofString "reply") u)) Q E s := ne_same (r := .reply) h
theorem told_1 (w : World) (mean : ExcName → Option Value) (mg mb : Str → Option Value) {n p : Int} {r : Told} {tx : Tok} (p0 : -1000000000 ≤ p) (p1 : p < 1000000000)
    (h : DueAt p (Txt.item sFill (n.fmod 10)) ((n.fdiv 10).fmod 3) (markF n) ((n.fdiv 210).fmod 9 + 1) r) : LawClaimC w mean mg mb 164 [.str (xF n p) tx] r.val := by
  have hs := xF_small (n := n) p0 p1
  have := told w mean mg mb (xF n p) tx (by omega) hs.2
  rwa [due_told p0 p1 h] at this
theorem told_2 (w : World) (mean : ExcName → Option Value) (mg mb : Str → Option Value) {n p : Int} {tx : Tok} (p0 : -1000000000 ≤ p) (p1 : p < 1000000000) :
    LawClaimC w mean mg mb 164 [.str (reply2 (xF n p)) tx] Told.reply.val := by
  have hs := x2_small (xF_small (n := n) p0 p1)
  have := told w mean mg mb (reply2 (xF n p)) tx hs.1 hs.2
  rwa [x2_told] at this
theorem slice_xF {prog : Program} {w : World} {A : Around} {E : Value → Shared → Prop} {s : Shared} {Q : Value → Shared → Prop} {h₀ : Heap} {L : Addr} {m : Str → Option Value} {news : List (Addr × Obj)} {value slice : Expr} {n p i : Int} {t ui : Tok}
    (p0 : -1000000000 ≤ p) (p1 : p < 1000000000) (hF : Fr h₀ L s.heap m) (hN : News h₀ L s.heap news)
    (h : ∀ h' t' k, Fr h₀ L h' m → News h₀ L h' news → (Txt.slice (xF n p) (some i) none).length ≤ 50 → Q (.str (Txt.slice (xF n p) (some i) none) t') { s with heap := h', toks := k })
    (hs : subscripted slice false (.str (xF n p) t) (.ref s.heap.objs.size) = operate [.ref s.heap.objs.size, .str (xF n p) t] (getItem (.str (xF n p) t) (.ref s.heap.objs.size)) := by with_unfolding_all rfl)
    (ht : ∀ r, letTemporaryGo value (.str (xF n p) t) r = pure () := by intro _; with_unfolding_all rfl) :
    wpAny (model prog w) A (subscriptTail value slice (.str (xF n p) t) (.ref s.heap.objs.size)) Q E { s with heap := s.heap.push { cls := .type "slice", data := .fields #[.int i ui, .none, .none] } } := by
  have hl := (xF_small (n := n) p0 p1).1
  exact slice_strN_sn_len hF hN (fun h' t' k a b c => h h' t' k a b (Nat.le_trans c hl)) hs ht (by rw [sizeLine_eq]; omega)
theorem wpC_or_nil {M : Model} {A : Around} {E : Value → Shared → Prop} {s : Shared} {env : Env} {pos : Pos} {whole : Sem Value} {Q : Bool → Shared → Prop} (h : Q false s) :
    wpC M A (PySem.isTrue (.BoolOp .Or [] pos) env whole) Q E s := wpC_of (show wpAny M A (pure false) Q E s from wpAny_pure h)
theorem fmod_b (a : Int) {b : Int} (h : 0 < b) : 0 ≤ a.fmod b ∧ a.fmod b < b := ⟨Int.fmod_nonneg_of_pos a h, Int.fmod_lt_of_pos a h⟩
local macro_rules | `(tactic| walk_at "call builtin:format") => `(tactic| (k_here; (refine fmt_turn (by assumption) (by assumption) ?_); intro tFm kFm hFm; walk_say "FORMAT"))
local macro_rules | `(tactic| walk_at "subscriptTail Name Slice str ref") => `(tactic| ((with_reducible show wpAny _ _ (subscriptTail _ (Expr.Slice (some _) none none _) _ _) _ _ _); (with_reducible rename Fr _ _ _ _ => F'); (with_reducible rename News _ _ _ _ => N'); (refine slice_xF (s := ⟨_, _, _, _, _⟩) (by assumption) (by assumption) F' N' ?_); intro _ _ _ _ _ hSl; walk_say "SLICE"))
local macro_rules | `(tactic| walk_at "call ref") => `(tactic| (k_here; (with_reducible show wpAny _ _ (PySem.call (.ref 157) _) _ _ _); (have hlen := text_len (by assumption) (by assumption)); (refine due _ _ _ _ _ _ _ _ _ _ _ _ _ _ (by assumption) (by assumption) (fmod_b _ (by decide)).1 (fmod_b _ (by decide)).2 ?_ ?_ rfl rfl (fill_in (fmod_b _ (by decide)).1 (fmod_b _ (by decide)).2) hlen.1 hlen.2.1 hlen.2.2.1 hlen.2.2.2 _ _ _ _ _ _ _ _ _ _ _ (by k_asm) (by k_asm) (by k_asm) (by k_asm) (by k_asm) rfl ?_); walk_say "DUE"))
theorem turn_neg {p : Int} (p0 : -1000000000 ≤ p) (p1 : p < 1000000000) : -1000000000 ≤ -1 - p ∧ -1 - p < 1000000000 := by omega
theorem turn_tenth {p : Int} (p0 : -1000000000 ≤ p) (p1 : p < 1000000000) : -1000000000 ≤ (if p < 0 then -p else p).fdiv 10 ∧ (if p < 0 then -p else p).fdiv 10 < 1000000000 := by
  rw [Int.fdiv_eq_ediv_of_nonneg _ (by decide)]
  split <;> omega
theorem the_law : PySem.Challenge.rw_ik0029_01.Holds := hdC (by
  k_fill
  intro w s₀ s₁ mg mb G Y fa o pm cd doc dV kV ho hd hcd hD hmg hg args vals as hpre hlay hrd hwl hlo
  have KX := kIn_of Y
  have X := (Ground.X G).1
  have V := (Ground.X G).2
  refine Ground.open G ?_
  intro T B D TE TW
  try (refine guard_noD D (by decide +kernel) ?_; clear D)
  obtain ⟨_, _, M⟩ := bmod_of_top T
  have TA := at_of_top T
  try (obtain ⟨_, _, he, B0⟩ := based_of_top T rfl hmg ho hd; have he' : cd = _ := he; subst he'; clear he)
  clear hmg
  wrow_args hpre hlay hrd hwl hlo
  refine enterK ?_
  w_top on
  refine codeC_mono ?_ (fun _ _ g => GoodW.toG g)
  have K0 := below_caller (Top.heap T)
  have he := Dflts.none hD rfl; subst he
  refine callC_full (by decide) ho hd (Top.nolimit T) hcd (BindsTo.of_eq rfl) (locs rfl) fun h₁ F => ?_
  w_binds F
  have N0 := (News.nil : News _ _ _ []).at F
  clear hd TA
  k_drop
  refine wpC_execs_any ?_
  repeat' (first
    | ((with_reducible show wpC _ _ (execs (Stmt.For _ _ _ _ _ :: _) _) _ _ _); refine wpC_execs_cons (wpC_For ?_); (try dsimp only); (try clear qk); (try clear ek); (try k_fold))
    | ((fail_if_success (with_reducible show wpC _ _ _ _ _ _)); (fail_if_success (with_reducible show wpAny _ _ (pyIter _) _ _ _)); first | (k_unfold; (try dsimp only)) | (k_end; kc_close) | walk1 | (dsimp only; walk1))
    | fail "no step")
  with_reducible show wpAny _ _ (pyIter _) _ _ _
  (try dsimp only)
  (rename IntsAre _ (_ ++ [1703, 1699]) => hIl); (rename Fr _ _ _ _ => lF); (rename News _ _ _ _ => lN)
  refine loopC (fun m => ∃ p t, m (Str.ofString "port") = some (.int p t) ∧ -1000000000 ≤ p ∧ p < 1000000000) rfl rfl rfl (.head _) hIl lF lN ⟨12, _, rfl, by decide, by decide⟩ ?turn ?done
  case done =>
    clear lF lN
    intro m₁ h tk hJ F₁ N₁
    clear hJ
    (try dsimp only)
    refine wpC_execs_any ?_
    (try dsimp only); (try clear qk); (try clear ek); (try k_fold)
    repeat' ((fail_if_success (with_reducible show GoodW _ _ _ _ _ _ _)); first | (k_unfold; (try dsimp only)) | walk1)
    k_end
    kc_bool
    refine goodW_bool F₁ (by assumption) (raisesW_false ?_) ?_
    · wrow_none_raised
    · exact postW_of (by wrow_shape) (w_eq_bool (w_res rfl) w_lit) rfl
  case turn =>
    clear lF lN
    rintro n tn m₁ hh tk nw ⟨p, tp, hm, hp0, hp1⟩ F₁ N₁
    have em : (fun y => if y = Str.ofString "x" then some (Value.int n tn) else m₁ y) = (fun y => if y = Str.ofString "x" then some (Value.int n tn) else if y = Str.ofString "port" then some (Value.int p tp) else m₁ y) := by
      funext y
      by_cases h : y = Str.ofString "port"
      · rw [if_pos h, h, hm]
      · rw [if_neg h]
    rw [em] at F₁
    clear em hm
    repeat' ((fail_if_success (with_reducible show wpC _ _ (execs (Stmt.If (Expr.Compare _ _ _ _) _ _ _ :: _) _) _ _ _)); first
      | ((with_reducible show wpC _ _ (execs (Stmt.Assign _ _ _ :: _) _) _ _ _); refine wpC_execs_any ?_; (try dsimp only); (try clear qk); (try clear ek); (try k_fold))
      | ((with_reducible show wpC _ _ (execs (Stmt.If (Expr.BoolOp _ _ _) _ _ _ :: _) _) _ _ _); refine wpC_execs_cons (wpC_If (wpC_isTrue_or (wpC_isTrue_Compare1 (wpC_Call_Name ?_)))); (try dsimp only); (try clear qk); (try clear ek); (try k_fold))
      | ((with_reducible show wpC _ _ (callWith _ _ _ _ _) _ _ _); k_dflt (refine wpC_callK (K := hdC.heap_39 w.params) (by k_is) ?_))
      | ((with_reducible show wpC _ _ (PySem.call (Value.ref 164) [Value.str (Str.ofString "227" ++ _) _]) _ _ _); (refine told_2 _ _ _ _ (by assumption) (by assumption) _ _ _ _ _ _ _ _ _ _ _ (by k_asm) (by k_asm) (by k_asm) (by k_asm) (by k_asm) rfl ?_); walk_say "TOLD 2"; intro t8 h8 tk8 F8 N8; (try dsimp only))
      | ((with_reducible show wpC _ _ (PySem.call (Value.ref 164) [Value.str (_ ++ Str.ofString ")") _]) _ _ _); (refine told_1 _ _ _ _ (by assumption) (by assumption) (by assumption) _ _ _ _ _ _ _ _ _ _ _ (by k_asm) (by k_asm) (by k_asm) (by k_asm) (by k_asm) rfl ?_); walk_say "TOLD 1"; intro t7 h7 tk7 F7 N7; (try dsimp only))
      | ((with_reducible show wpC _ _ (eval (Expr.Name _ _) _) _ _ _); refine wpC_of ?_)
      | ((with_reducible show wpC _ _ (eval (Expr.Constant _ _ _) _) _ _ _); refine wpC_of ?_)
      | ((with_reducible show wpC _ _ (compareOp _ _ _) _ _ _); (first | refine wpC_of (ne_same (wpC_of (wpAny_truthy_bool ?_))) | refine wpC_of (ne_reply (wpC_of (wpAny_truthy_bool ?_)))); walk_say "SAME"; (try dsimp only))
      | ((with_reducible show wpC _ _ (isTrue (Expr.BoolOp _ [] _) _ _) _ _ _); refine wpC_or_nil ?_; (try dsimp only))
      | ((with_reducible refine wpC_of (wpAny_execs_nil ?_)); (try dsimp only); (try clear qk); (try clear ek))
      | ((with_reducible show wpC _ _ (execs (Stmt.If (Expr.Compare _ _ _ _) _ _ _ :: _) _) _ _ _); fail "stop")
      | ((with_reducible show wpC _ _ (isTrue (Expr.BoolOp _ _ _) _ _) _ _ _); walk_say "OR 2"; refine wpC_isTrue_or (wpC_isTrue_Compare1 (wpC_Call_Name ?_)); (try dsimp only); (try clear qk); (try clear ek); (try k_fold))
      | ((fail_if_success (with_reducible show wpC _ _ _ _ _ _)); (fail_if_success (with_reducible show TurnC _ _ _ _ _ _ _ _)); first | (k_unfold; (try dsimp only)) | (k_end; kc_close) | walk1 | (dsimp only; walk1) | (leave1; walk_say "STEP leave1"; (try dsimp only)))
      | fail "no step")
    (with_reducible rename DueAt _ _ _ _ _ _ => hr9)
    have hb9 := due_bnd (by assumption) (by assumption) hr9
    (with_reducible rename Told => r9)
    clear hr9
    cases r9
    focus exact absurd rfl hb9.1
    all_goals (dsimp only [Told.val] at F8; (try obtain ⟨hq1, hq2⟩ := hb9.2 _ rfl); clear hb9; refine wpC_execs_any ?_; (try dsimp only); (try clear qk); (try clear ek); (try k_fold))
    all_goals (repeat' ((fail_if_success (with_reducible show TurnC _ _ _ _ _ _ _ _)); first | (k_unfold; (try dsimp only)) | (k_end; kc_close) | walk1 | (dsimp only; walk1) | (leave1; walk_say "STEP leave1"; (try dsimp only))))
    all_goals ((with_reducible refine wpC_of (wpAny_execs_nil ?_)); (with_reducible rename Fr _ _ _ _ => lF); (with_reducible rename News _ _ _ _ => lN); refine ⟨_, _, _, rfl, lF, ?_, _, _, rfl, ?_, ?_⟩)
    all_goals (first | exact (turn_neg hp0 hp1).1 | exact (turn_neg hp0 hp1).2 | exact (turn_tenth hp0 hp1).1 | exact (turn_tenth hp0 hp1).2 | with_reducible exact hq1 | with_reducible exact hq2 | (repeat (first | exact lN | replace lN := News.tail' lN))))
end Mine
end T5
theorem PySem.Challenge.cw_ik0029_01_holds : PySem.Challenge.rw_ik0029_01.Holds := by
  exact Mine.the_law
