import PyProof.Rows.All
import Wide.All
import OpenK.AllK
import Wide.FinOn
import PySem.Challenge.RW_iy0003_01
open PySem PySem.W PyProof.Rows
set_option Elab.async false
set_option maxRecDepth 100000
namespace Mine
open PySem PySem.W PySem.Calls PyProof.Rows
section
open PySem.Sem (wp)

def holdIds : List String := Builtin.Bytes.decodersThatHold ++ ["bytearray.__contains__", "bytearray.__mod__", "bytearray.__rmod__", "_struct.pack_into.held", "bytearray.find.held"]
def isHold : Code → Bool
  | .builtin id _ => holdIds.contains id
  | _ => false
/-- the context holds no builtin that lends a bytearray's memory out -/
def HF (Γ : Ctx) : Prop := isHold Γ.code = false ∧ ∀ x ∈ Γ.below, isHold x.1 = false

theorem HF.enter {Γ : Ctx} (h : HF Γ) {c : Code} (hc : isHold c = false) (hd : Option Value) (p : Pos) : HF (Γ.enter c hd p) :=
  ⟨hc, fun x hx => by
    rcases List.mem_cons.mp hx with rfl | hx
    · exact h.1
    · exact h.2 x hx⟩
theorem HF.goto {Γ : Ctx} (h : HF Γ) {c : Code} (hc : isHold c = false) : HF (Γ.goto c) := ⟨hc, h.2⟩
theorem HF.wake {Γ : Ctx} (h : HF Γ) {c : Code} (hc : isHold c = false) (p : Pos) : HF (Γ.wake c p) :=
  ⟨hc, fun x hx => by
    rcases List.mem_cons.mp hx with rfl | hx
    · exact h.1
    · exact h.2 x hx⟩
def FreeFs (fs : List Frame) : Prop := ∀ f ∈ fs, isHold f.where_.1 = false
theorem HF.over {Γ : Ctx} (h : HF Γ) {fs : List Frame} (hf : FreeFs fs) : HF (Γ.over fs) :=
  ⟨h.1, fun x hx => by
    rcases List.mem_append.mp hx with hx | hx
    · obtain ⟨f, hm, rfl⟩ := List.mem_map.mp hx
      exact hf f hm
    · exact h.2 x hx⟩

/-- as wpAny; with b over those contexts alone that lend nothing -/
def wpB {α : Type} (b : Bool) (M : Model) (A : Around) (t : Sem α) (Q : α → Shared → Prop) (E : Value → Shared → Prop) (s : Shared) : Prop :=
  ∀ Γ p, Γ.In A → (b = true → HF Γ) → wp M Γ t (fun a _ s' => Q a s') (fun e _ s' => E e s') p s
def codeB (b : Bool) (M : Model) (A : Around) (c : Code) (R : Result → Shared → Prop) (s : Shared) : Prop :=
  ∀ Γ p, Γ.code = c → Γ.Below A → (b = true → HF Γ) → wpCode M Γ R p s

section
variable {α β : Type} {b : Bool} {M : Model} {A : Around} {E : Value → Shared → Prop} {s : Shared}
theorem wpB_any {t : Sem α} {Q : α → Shared → Prop} (h : wpAny M A t Q E s) : wpB b M A t Q E s := fun Γ p hΓ _ => h Γ p hΓ
theorem any_wpB {t : Sem α} {Q : α → Shared → Prop} (h : wpB false M A t Q E s) : wpAny M A t Q E s := fun Γ p hΓ => h Γ p hΓ fun x => nomatch x
theorem wpB_pure {a : α} {Q : α → Shared → Prop} (h : Q a s) : wpB b M A (pure a) Q E s := fun _ _ _ _ => h
theorem wpB_mono {t : Sem α} {Q Q' : α → Shared → Prop} {E' : Value → Shared → Prop} (h : wpB b M A t Q E s)
    (hQ : ∀ a s, Q a s → Q' a s) (hE : ∀ e s, E e s → E' e s) : wpB b M A t Q' E' s :=
  fun Γ p hΓ hF => Sem.wp_mono M Γ t (fun a _ s => hQ a s) (fun e _ s => hE e s) p s (h Γ p hΓ hF)
theorem wpB_bind {m : Sem α} {f : α → Sem β} {Q : β → Shared → Prop} (h : wpB b M A m (fun a s' => wpB b M A (f a) Q E s') E s) :
    wpB b M A (m >>= f) Q E s := fun Γ p hΓ hF => by
  rw [Sem.wp_bind']
  exact Sem.wp_mono M Γ m (fun a p' s' h' => h' Γ p' hΓ hF) (fun _ _ _ h' => h') p s (h Γ p hΓ hF)
/-- a step that needs no more than wpAny, the rest behind it -/
theorem wpB_step {m : Sem α} {f : α → Sem β} {Q : β → Shared → Prop} (h : wpAny M A m (fun a s' => wpB b M A (f a) Q E s') E s) :
    wpB b M A (m >>= f) Q E s := wpB_bind (wpB_any h)
theorem wpB_onRaise {m : Sem α} {k : Value → Sem Unit} {Q : α → Shared → Prop}
    (h : wpB b M A m Q (fun e s' => wpB b M A (k e) (fun _ s'' => E e s'') E s') s) : wpB b M A (m.onRaise k) Q E s := fun Γ p hΓ hF => by
  rw [Sem.wp_onRaise]
  exact Sem.wp_mono M Γ m (fun _ _ _ h' => h') (fun e p' s' h' => h' Γ p' hΓ hF) p s (h Γ p hΓ hF)
theorem wpB_attempt {m : Sem α} {Q : Except Value α → Shared → Prop} (h : wpB b M A m (fun a => Q (.ok a)) (fun e => Q (.error e)) s) :
    wpB b M A m.attempt Q E s := fun Γ p hΓ hF => by rw [Sem.wp_attempt]; exact h Γ p hΓ hF
theorem wpB_holding {vs : List Value} {m : Sem α} {Q : α → Shared → Prop} (h : wpB b M A m Q E s) : wpB b M A (holding vs m) Q E s :=
  fun Γ p hΓ hF => by rw [Sem.wp_holding]; exact h Γ p hΓ hF
theorem wpB_keep {vs : List Value} {m : Sem α} {Q : α → Shared → Prop} (h : wpB b M A m Q E s) : wpB b M A (m.keep vs) Q E s :=
  fun Γ p hΓ hF => by rw [Sem.wp_keep]; exact h Γ p hΓ hF
theorem wpB_operate {vs : List Value} {m : Sem Value} {Q : Value → Shared → Prop} (h : wpB b M A m Q E s) : wpB b M A (operate vs m) Q E s :=
  fun Γ p hΓ hF => by rw [Sem.wp_operate]; exact h Γ p hΓ hF
theorem wpB_standAt {pos : Pos} {Q : Unit → Shared → Prop} (h : Q () s) : wpB b M A (standAt pos) Q E s := fun _ _ _ _ => h
theorem wpB_point {Q : Unit → Shared → Prop} (h : Q () s) : wpB b M A point Q E s := fun _ _ _ _ => h
theorem wpB_eq {m : Sem α} {a : α} {Q : α → Shared → Prop} (e : m = pure a) (h : Q a s) : wpB b M A m Q E s := by rw [e]; exact wpB_pure h
theorem codeB_mono {c : Code} {R R' : Result → Shared → Prop} (h : codeB b M A c R s) (hR : ∀ r s, R r s → R' r s) : codeB b M A c R' s :=
  fun Γ p hc hΓ hF => wpCode_mono hR (h Γ p hc hΓ hF)
theorem wpB_run {c : Code} {h : Option Value} {Q : Flow → Shared → Prop} (hf : isHold c = false)
    (hc : codeB b M (A.mark h) c (fun r s' => match r with | .ok f => Q f s' | .error e => E e s') s) (hnb : h ≠ some byPass := by intro x; cases x) :
    wpB b M A (run c h) Q E s :=
  fun Γ p hΓ hF => by rw [Sem.wp_run]; exact hc _ p rfl (hΓ.enter c h p hnb) fun x => (hF x).enter hf h p
theorem wpB_runValue {c : Code} {Q : Value → Shared → Prop} (hf : isHold c = false)
    (hc : codeB b M A c (fun r s' => match r with | .ok (.ret v) => Q v s' | .ok _ => False | .error e => E e s') s) :
    wpB b M A (runValue c) Q E s := fun Γ p hΓ hF => by rw [Sem.wp_runValue]; exact hc _ p rfl (hΓ.enter c none p (by intro x; cases x)) fun x => (hF x).enter hf none p
theorem wpB_call {f : Value} {pos : List Value} {kw : List (Str × Value)} {Q : Value → Shared → Prop}
    (hc : codeB b M A (.call f ⟨pos, kw⟩) (fun r s' => match r with | .ok (.ret v) => Q v s' | .ok _ => False | .error e => E e s') s) :
    wpB b M A (call f pos kw) Q E s := wpB_runValue rfl hc

theorem codeB_of_tree {c : Code} {R : Result → Shared → Prop}
    (h : wpB b M (A.under c) (M.den c) (fun fin s' => match fin with | .done f => R (.ok f) s' | .again c' => c'.quiet = true ∧ isHold c' = false ∧ codeB b M A c' R s')
      (fun e s' => R (.error e) s') s) : codeB b M A c R s := fun Γ p hc hΓ hF => by
  rw [wpCode_iff_wp, hc]
  refine Sem.wp_mono M Γ _ (fun fin p' s' h' => ?_) (fun _ _ _ h' => h') p s (h Γ p (hc ▸ hΓ.in) hF)
  cases fin with
  | done f => exact h'
  | again c' => exact ⟨h'.1, h'.2.2 (Γ.goto c') p' rfl (hΓ.goto c') fun x => (hF x).goto h'.2.1⟩

theorem codeB_loop {c : Code} {R : Result → Shared → Prop} (hq : c.quiet = true) (hf : isHold c = false) (I : Nat → Shared → Prop)
    (turn : ∀ n s, I n s → wpB b M (A.under c) (M.den c)
      (fun fin s' => match fin with | .done f => R (.ok f) s' | .again c' => (c' = c ∧ ∃ m, m < n ∧ I m s') ∨ (c'.quiet = true ∧ isHold c' = false ∧ codeB b M A c' R s')) (fun e s' => R (.error e) s') s)
    (n : Nat) (h : I n s) : codeB b M A c R s := by
  induction n using Nat.strongRecOn generalizing s with
  | ind n ih =>
    refine codeB_of_tree (wpB_mono (turn n s h) (fun fin s' hf' => ?_) fun _ _ h' => h')
    cases fin with
    | done f => exact hf'
    | again c' =>
      rcases hf' with ⟨rfl, m, hm, hI⟩ | x
      · exact ⟨hq, hf, ih m hm hI⟩
      · exact x

theorem mem_any_false {γ : Type} {l : List γ} {f : γ → Bool} (h : ∀ x ∈ l, f x = false) : l.any f = false := by
  induction l with
  | nil => rfl
  | cons x l ih => rw [List.any_cons, h x (List.mem_cons_self ..), ih fun y hy => h y (List.mem_cons_of_mem _ hy)]; rfl

theorem decoders_hold {id : String} (h : holdIds.contains id = false) : Builtin.Bytes.decodersThatHold.contains id = false := by
  cases q : Builtin.Bytes.decodersThatHold.contains id with
  | false => rfl
  | true =>
    have : holdIds.contains id = true := List.contains_iff_mem.mpr (List.mem_append_left _ (List.contains_iff_mem.mp q))
    rw [this] at h; cases h

theorem wpB_exported {v : Value} {Q : Bool → Shared → Prop} (h : Q false s) : wpB true M A (Builtin.Bytes.exported v) Q E s := fun Γ p hΓ hF => by
  show Q (List.any ((Γ.code, p) :: Γ.below) _) s
  rw [mem_any_false fun x hx => ?_]
  · exact h
  · have hh : isHold x.1 = false := by
      rcases List.mem_cons.mp hx with rfl | hx
      · exact (hF rfl).1
      · exact (hF rfl).2 x hx
    clear hx
    obtain ⟨c, q⟩ := x
    replace hh : isHold c = false := hh
    cases c with
    | builtin id args =>
      have n1 : id ≠ "bytearray.__contains__" := fun e => absurd (show holdIds.contains "bytearray.__contains__" = false from e ▸ hh) (by decide +kernel)
      have n2 : id ≠ "bytearray.__mod__" := fun e => absurd (show holdIds.contains "bytearray.__mod__" = false from e ▸ hh) (by decide +kernel)
      have n3 : id ≠ "bytearray.__rmod__" := fun e => absurd (show holdIds.contains "bytearray.__rmod__" = false from e ▸ hh) (by decide +kernel)
      have n4 : id ≠ "_struct.pack_into.held" := fun e => absurd (show holdIds.contains "_struct.pack_into.held" = false from e ▸ hh) (by decide +kernel)
      have n5 : id ≠ "bytearray.find.held" := fun e => absurd (show holdIds.contains "bytearray.find.held" = false from e ▸ hh) (by decide +kernel)
      have hd := decoders_hold hh
      obtain ⟨pos, kw⟩ := args
      delta PySem.Builtin.Bytes.exported.match_1
      dsimp only
      cases pos with
      | nil => exact (dif_neg n1).trans ((dif_neg n2).trans ((dif_neg n3).trans ((dif_neg n4).trans ((dif_neg n5).trans rfl))))
      | cons v r => exact (dif_neg n1).trans ((dif_neg n2).trans ((dif_neg n3).trans ((dif_neg n4).trans ((dif_neg n5).trans ((congrArg (Builtin.Bytes.sameRef v _ && ·) hd).trans (Bool.and_false _))))))
    | _ => rfl
end
end
section
open PySem PySem.W PySem.Calls PyProof.Rows

/-- nothing is raised -/
abbrev NE : Value → Shared → Prop := fun _ _ => False

section
variable {b : Bool} {M : Model} {A : Around} {E : Value → Shared → Prop} {s : Shared} {env : Env}

theorem wpB_execs_nil {Q : Flow → Shared → Prop} (h : Q .next s) : wpB b M A (execs [] env) Q E s := fun _ _ _ _ => h
theorem wpB_execs_cons {st : Stmt} {rest : List Stmt} {Q : Flow → Shared → Prop}
    (h : wpB b M A (exec st env) (fun f s' => match f with | .next => wpB b M A (execs rest env) Q E s' | f => Q f s') E s) :
    wpB b M A (execs (st :: rest) env) Q E s := by
  rw [execs_cons]
  refine wpB_bind (wpB_mono h (fun f s' h' => ?_) fun _ _ x => x)
  cases f <;> first | exact h' | exact wpB_pure h'
/-- a statement that needs no more than wpAny, the rest behind it -/
theorem wpB_execs_any {st : Stmt} {rest : List Stmt} {Q : Flow → Shared → Prop}
    (h : wpAny M A (exec st env) (fun f s' => f = .next ∧ wpB b M A (execs rest env) Q E s') E s) :
    wpB b M A (execs (st :: rest) env) Q E s := wpB_execs_cons (wpB_any (wpAny_mono h (fun f s' ⟨e, h'⟩ => by subst e; exact h') fun _ _ x => x))
theorem wpB_Expr {e : Expr} {pos : Pos} {Q : Flow → Shared → Prop} (h : wpB b M A (eval e env) (fun v s' => match v with | .ref _ => False | _ => Q .next s') E s)
    (hi : interactive env = false := by rfl) (hs : swapsWith e none pos.line env = pure false := by rfl) :
    wpB b M A (exec (.Expr e pos) env) Q E s := by
  rw [exec_Expr env e pos hi hs]
  refine wpB_bind (wpB_standAt (wpB_bind (wpB_mono h (fun v s' h' => ?_) fun _ _ x => x)))
  rw [dropValue_plain fun a hva => by subst hva; exact h']
  refine wpB_pure ?_
  cases v <;> first | exact h' | exact h'.elim
theorem wpB_Assign_Name {x : Str} {pos' : Pos} {value : Expr} {pos : Pos} {Q : Flow → Shared → Prop}
    (h : wpB b M A (eval value env) (fun v s₁ => wpAny M A (storeName env x v) (fun _ => Q .next) E s₁) E s)
    (hs : swapsWith value (some (.Name x pos')) pos.line env = pure false := by rfl) :
    wpB b M A (exec (.Assign [.Name x pos'] value pos) env) Q E s := by
  rw [exec_Assign_Name env x pos' value pos hs]
  exact wpB_bind (wpB_standAt (wpB_bind (wpB_mono h (fun v s₁ h₁ => wpB_bind (wpB_standAt (wpB_step (wpAny_bindName (wpAny_mono h₁ (fun _ _ q => wpB_pure q) fun _ _ x => x))))) fun _ _ x => x)))
theorem wpB_If {test : Expr} {body orelse : List Stmt} {pos : Pos} {Q : Flow → Shared → Prop}
    (h : wpB b M A (isTrue test env (eval test env))
      (fun c s₂ => if c then wpB b M A (execs body env) Q E s₂ else wpB b M A (execs orelse env) Q E s₂) E s) :
    wpB b M A (exec (.If test body orelse pos) env) Q E s := by
  rw [exec_If]
  refine wpB_bind (wpB_standAt (wpB_bind (wpB_mono h (fun c s₂ h₂ => ?_) fun _ _ x => x)))
  cases c <;> exact h₂
theorem wpB_Return {e : Expr} {pos : Pos} {Q : Flow → Shared → Prop} (h : wpB b M A (eval e env) (fun v => Q (.ret v)) E s) :
    wpB b M A (exec (.Return (some e) pos) env) Q E s := by
  rw [exec_Return_some]
  exact wpB_bind (wpB_standAt (wpB_bind (wpB_mono h (fun v s' q => wpB_pure q) fun _ _ x => x)))
theorem wpB_isTrue_Compare1 {l r : Expr} {op : CmpOp} {pos : Pos} {whole : Sem Value} {Q : Bool → Shared → Prop}
    (h : wpB b M A (eval l env) (fun a s₁ => wpAny M A (eval r env) (fun c s₂ => wpAny M A (compareOp op a c)
      (fun c s₃ => wpAny M A (truthy c) Q E s₃) E s₂) E s₁) E s)
    (hm : behindInMarks op r = false := by with_unfolding_all rfl) : wpB b M A (isTrue (.Compare l [op] [r] pos) env whole) Q E s := by
  rw [isTrue_Compare1, markedBehindIn_of_false hm]
  refine wpB_bind (wpB_mono h (fun a s₁ h₁ => wpB_bind (wpB_holding (wpB_any (wpAny_mono h₁ (fun c s₂ h₂ => ?_) fun _ _ x => x)))) fun _ _ x => x)
  refine wpB_bind (wpB_standAt (wpB_bind (wpB_operate (wpB_any (wpAny_mono h₂ (fun c s₃ h₃ => wpB_holding (wpB_any h₃)) fun _ _ x => x)))))

theorem wpB_spliced_nil {Q : List Value → Shared → Prop} (h : Q [] s) : wpB b M A (spliced []) Q E s := wpB_pure h
theorem wpB_spliced_cons {x : Sem Value} {rest : List (Bool × Sem Value)} {Q : List Value → Shared → Prop}
    (h : wpB b M A x (fun v s₁ => wpB b M A (spliced rest) (fun vs s₂ => Q (v :: vs) s₂) E s₁) E s) : wpB b M A (spliced ((false, x) :: rest)) Q E s := by
  rw [spliced]
  refine wpB_bind (wpB_mono h (fun v s₁ h₁ => ?_) fun _ _ x => x)
  simp only [Bool.false_eq_true, if_false]
  exact wpB_bind (wpB_pure (wpB_bind (wpB_holding (wpB_mono h₁ (fun vs s₂ h₂ => wpB_pure h₂) fun _ _ x => x))))
theorem wpB_evalArgs {f : Value} {x : Sem Value} {rest : List (Bool × Sem Value)} {Q : Args → Shared → Prop}
    (h : wpB b M A (spliced ((false, x) :: rest)) (fun vs s' => Q ⟨vs, []⟩ s') E s) : wpB b M A (evalArgs f true ((false, x) :: rest) []) Q E s := by
  unfold evalArgs
  show wpB b M A (spliced ((false, x) :: rest) >>= _) Q E s
  refine wpB_bind (wpB_mono h (fun vs s' h' => ?_) fun _ _ x => x)
  refine wpB_holding ?_
  exact wpB_bind (wpB_pure (wpB_bind (wpB_pure (wpB_pure h'))))
theorem wpB_evalArgs0 {f : Value} {Q : Args → Shared → Prop} (h : Q ⟨[], []⟩ s) : wpB b M A (evalArgs f true [] []) Q E s := wpB_any (evalArgs_nil3 h)

theorem callTail {t : Sem Value} {Q : Value → Shared → Prop} (ht : wpB b M A t Q E s) : wpB b M A (t >>= fun r => holding [r] point >>= fun _ => pure r) Q E s :=
  wpB_bind (wpB_mono ht (fun r s₂ hr => wpB_bind (wpB_holding (wpB_point (wpB_pure hr)))) fun _ _ x => x)
/-- a call: its arguments, what keeps its frame, the call itself -/
theorem wpB_callWith {pos : Pos} {f : Value} {first : List Value} {args : List (Bool × Sem Value)} {Q : Value → Shared → Prop} {k : Keeper} (hk : k = .machine ∨ k = .frame) (hplain : args.any (·.1) = false)
    (h : wpB b M A (evalArgs f true args []) (fun a s₁ => wpAny M A (keeperOf f) (fun k' s₂ => k' = k ∧ wpB b M A (call f (first ++ a.pos) a.kw) Q E s₂) E s₁) E s) : wpB b M A (callWith pos f first args []) Q E s := by
  have none : (args.any (·.1) || ([] : List (Option Str × Sem Value)).any (·.1.isNone)) = false := by rw [hplain]; rfl
  unfold callWith
  rw [none]
  refine wpB_bind (wpB_holding (wpB_mono h (fun a s₁ h₁ => wpB_bind (wpB_standAt (wpB_step (wpAny_mono h₁ (fun k' s₂ h₂ => ?_) fun _ _ x => x)))) fun _ _ x => x))
  obtain ⟨rfl, h₂⟩ := h₂
  rcases hk with rfl | rfl
  · exact callTail h₂
  · show wpB b M A (if args.length + 2 * ([] : List (Option Str × Sem Value)).length > 30 then call f (first ++ a.pos) a.kw >>= fun r => holding [r] point >>= fun _ => pure r
      else callMarked plainCall f (first ++ a.pos) a.kw >>= fun r => holding [r] point >>= fun _ => pure r) Q E s₂
    split
    · exact callTail h₂
    · exact callTail (wpB_keep h₂)
theorem wpB_callWith_type {pos : Pos} {T : String} {first : List Value} {args : List (Bool × Sem Value)} {Q : Value → Shared → Prop} (hplain : args.any (·.1) = false)
    (h : wpB b M A (evalArgs (.type T) true args []) (fun a s₁ => wpB b M A (call (.type T) (first ++ a.pos) a.kw) Q E s₁) E s) : wpB b M A (callWith pos (.type T) first args []) Q E s :=
  wpB_callWith (.inl rfl) hplain (wpB_mono h (fun _ _ x => wpAny_pure ⟨rfl, x⟩) fun _ _ x => x)
theorem wpB_callWith_builtin {pos : Pos} {id : String} {first : List Value} {args : List (Bool × Sem Value)} {Q : Value → Shared → Prop} (hplain : args.any (·.1) = false)
    (h : wpB b M A (evalArgs (.builtin id) true args []) (fun a s₁ => wpB b M A (call (.builtin id) (first ++ a.pos) a.kw) Q E s₁) E s) : wpB b M A (callWith pos (.builtin id) first args []) Q E s :=
  wpB_callWith (.inl rfl) hplain (wpB_mono h (fun _ _ x => wpAny_pure ⟨rfl, x⟩) fun _ _ x => x)
theorem wpB_callWith_function {pos : Pos} {a : Addr} {o : Obj} {fd : FuncData} {first : List Value} {args : List (Bool × Sem Value)} {Q : Value → Shared → Prop} (hplain : args.any (·.1) = false)
    (h : wpB b M A (evalArgs (.ref a) true args []) (fun x s₁ => (s₁.heap.get? a = some o ∧ o.data = .func fd) ∧ wpB b M A (call (.ref a) (first ++ x.pos) x.kw) Q E s₁) E s) : wpB b M A (callWith pos (.ref a) first args []) Q E s :=
  wpB_callWith (k := .frame) (.inr rfl) hplain (wpB_mono h (fun _ _ x => wpAny_bind (wpAny_load x.1.1 (by rw [x.1.2]; exact wpAny_pure ⟨rfl, x.2⟩))) fun _ _ x => x)
theorem wpB_Call_ofName {x : Str} {np pos : Pos} {args : List Expr} {Q : Value → Shared → Prop}
    (h : wpB b M A (eval (.Name x np) env) (fun f s₁ => wpB b M A (callWith pos f [] (backTo pos (starEach args env)) []) Q E s₁) E s) :
    wpB b M A (eval (.Call (.Name x np) args [] pos) env) Q E s := by
  show wpB b M A (do callWith pos (← eval (.Name x np) env) [] (backTo pos (starEach args env)) (backToKw pos (keywordEach [] env))) Q E s
  exact wpB_bind h

theorem wpB_runOwn {c : Code} {Q : Flow → Shared → Prop} (hf : isHold c = false)
    (hc : codeB b M A c (fun r s' => match r with | .ok f => Q f s' | .error _ => False) s) : wpB b M A (runOwn c env none) Q E s := by
  unfold runOwn
  refine wpB_onRaise (wpB_run hf ?_)
  exact codeB_mono hc fun r s' h => by
    cases r with
    | ok f => exact h
    | error e => exact h.elim
end

section
variable {b : Bool} {prog : Program} {w : World} {A : Around} {E : Value → Shared → Prop} {R : Result → Shared → Prop} {s : Shared} {env : Env}

theorem wpB_noted {α : Type} {M : Model} {m : Sem α} {Q : α → Shared → Prop} {k : Value → Sem Unit} (h : wpB b M A m Q NE s) : wpB b M A (m.onRaise k) Q E s :=
  wpB_onRaise (wpB_mono h (fun _ _ q => q) fun _ _ x => x.elim)

theorem wpB_While {test : Expr} {body : List Stmt} {pos : Pos} {Q : Flow → Shared → Prop} (I : Nat → Shared → Prop)
    (turn : ∀ n s, I n s → wpB b (model prog w) A (isTrue test env (eval test env)) (fun c s₂ =>
        if c then wpB b (model prog w) A (execs body env) (fun f s₃ => match f with
            | .next | .cont => ∃ m, m < n ∧ I m s₃
            | .brk => Q .next s₃
            | .ret v => Q (.ret v) s₃) NE s₂
        else Q .next s₂) NE s)
    (n : Nat) (h : I n s) : wpB b (model prog w) A (exec (.While test body [] pos) env) Q E s := by
  rw [exec_While]
  refine wpB_bind (wpB_standAt (wpB_runOwn rfl ?_))
  refine codeB_loop rfl rfl I (fun n s hI => ?_) n h
  show wpB b _ A ((whileTurn test body [] env).onRaise (fun x => do noteFrame x env; theTreesLotGoes x)) _ _ s
  refine wpB_noted ?_
  unfold whileTurn
  refine wpB_bind (wpB_mono (turn n s hI) (fun c s₂ h₂ => ?_) fun _ _ x => x)
  cases c with
  | false => exact wpB_bind (wpB_execs_nil (wpB_pure h₂))
  | true =>
    refine wpB_bind (wpB_mono h₂ (fun f s₃ h₃ => ?_) fun _ _ x => x)
    cases f with
    | next => exact wpB_pure (.inl ⟨rfl, h₃⟩)
    | cont => exact wpB_pure (.inl ⟨rfl, h₃⟩)
    | brk => exact wpB_pure h₃
    | ret v => exact wpB_pure h₃

theorem wpB_For {target iter : Expr} {body : List Stmt} {pos : Pos} {Q : Flow → Shared → Prop} (I : Value → Nat → Shared → Prop)
    (h : wpAny (model prog w) A (eval iter env) (fun x s₁ => wpAny (model prog w) A (pyIter x) (fun it s₂ => ∃ n, I it n s₂) E s₁) E s)
    (turn : ∀ it n s, I it n s → wpAny (model prog w) A (pyNext it) (fun r s₁ => match r with
      | none => Q .next s₁
      | some v => wpAny (model prog w) A (assign target env v) (fun _ s₂ => wpB b (model prog w) A (execs body env) (fun f s₃ => match f with
          | .next | .cont => ∃ m, m < n ∧ I it m s₃
          | .brk => Q .next s₃
          | .ret v => Q (.ret v) s₃) NE s₂) NE s₁) NE s)
    (ht : ∀ it v, letOwnedTupleGo target it v = pure () := by intro _ _; rfl) (hs : ∀ x, foldedSetIterable iter env x = pure x := by intro _; rfl) :
    wpB b (model prog w) A (exec (.For target iter body [] pos) env) Q E s := by
  rw [exec_For]
  refine wpB_bind (wpB_standAt (wpB_step (wpAny_mono h (fun x s₁ h₁ => ?_) fun _ _ x => x)))
  refine wpB_bind (wpB_eq (hs x) (wpB_bind (wpB_standAt (wpB_bind (wpB_holding (wpB_any (wpAny_mono h₁ (fun it s₂ h₂ => ?_) fun _ _ x => x)))))))
  obtain ⟨n, h₂⟩ := h₂
  refine wpB_runOwn rfl ?_
  refine codeB_loop rfl rfl (I it) (fun n s hI => ?_) n h₂
  show wpB b _ A ((forTurn target it body [] env).onRaise (fun x => do noteFrame x env; theTreesLotGoes x)) _ _ s
  refine wpB_noted ?_
  unfold forTurn
  refine wpB_bind (wpB_standAt (wpB_bind (wpB_onRaise (wpB_any (wpAny_mono (turn it n s hI) (fun r s₁ h₁ => ?_) fun _ _ x => x.elim)))))
  cases r with
  | none =>
    refine wpB_pure (.inr ⟨rfl, rfl, codeB_of_tree ?_⟩)
    show wpB b _ A (do return Fin.done (← (execs [] env).onRaise (fun x => do noteFrame x env; theTreesLotGoes x))) _ _ s₁
    exact wpB_bind (wpB_noted (wpB_execs_nil (wpB_pure h₁)))
  | some v =>
    refine wpB_bind (wpB_eq (ht it v) ?_)
    refine wpB_step (wpAny_mono h₁ (fun _ s₂ h₂ => wpB_bind (wpB_mono h₂ (fun f s₃ h₃ => ?_) fun _ _ x => x)) fun _ _ x => x.elim)
    cases f with
    | next => exact wpB_pure (.inl ⟨rfl, h₃⟩)
    | cont => exact wpB_pure (.inl ⟨rfl, h₃⟩)
    | brk => exact wpB_pure h₃
    | ret v => exact wpB_pure h₃

theorem codeB_func {body : List Stmt}
    (h : wpB b (model prog w) (A.deeper env) (execs body env) (fun f s' => R (.ok (.ret (match f with | .ret v => v | _ => .none))) s') NE s) :
    codeB b (model prog w) A (.func body env) R s := by
  refine codeB_of_tree ?_
  show wpB b _ (A.deeper env) (do point; match ← (execs body env).onRaise (leaving env) with | .ret v => ret v | _ => ret .none) _ _ s
  refine wpB_bind (wpB_point (wpB_bind (wpB_noted (wpB_mono h (fun f s' h' => ?_) fun _ _ x => x))))
  cases f <;> exact wpB_pure h'

theorem codeB_builtin {id : String} {args : Args} {f : Builtin} (hb : entryFor table id = some f)
    (h : wpB b (model prog w) (A.under (.builtin id args)) (f args)
      (fun fin s' => match fin with | .done f => R (.ok f) s' | .again c' => c'.quiet = true ∧ isHold c' = false ∧ codeB b (model prog w) A c' R s') (fun e s' => R (.error e) s') s) :
    codeB b (model prog w) A (.builtin id args) R s := by
  refine codeB_of_tree ?_
  show wpB b _ _ (match entryFor table id with | some b => b args | none => unsupported ((withoutEnding? id "#data").getD id)) _ _ s
  rw [hb]; exact h
theorem codeB_call_builtin {id : String} {args : Args} {f : Builtin} (hq : plainId id = true) (hh : holdIds.contains id = false) (hb : entryFor table id = some f)
    (h : wpAny (model prog w) A.in1 (checkBuiltinCall id args) (fun _ s₁ => wpB b (model prog w) A.in1 (f args)
      (fun fin s' => match fin with | .done f => R (.ok f) s' | .again c' => c'.quiet = true ∧ isHold c' = false ∧ codeB b (model prog w) A c' R s') (fun e s' => R (.error e) s') s₁)
      (fun e s' => R (.error e) s') s) : codeB b (model prog w) A (.call (.builtin id) args) R s := by
  refine codeB_of_tree ?_
  show wpB b _ A.in1 (do checkBuiltinCall id args; again (.builtin id args)) _ _ s
  refine wpB_step (wpAny_mono h (fun _ s₁ h₁ => wpB_pure ⟨plainId_quiet hq args, hh, codeB_builtin hb ?_⟩) fun _ _ x => x)
  rw [Around.under_plainId hq args]
  exact h₁

/-- what the call of a def comes to: its body, in a frame of its own -/
theorem called {a : Addr} {args : Args} {o : Obj} {fd : FuncData} {body : List Stmt} {P : Env → Shared → Prop} (hroom : A.depth < recursionLimit) (ho : s.heap.get? a = some o) (hd : o.data = .func fd)
    (hplain : fd.scope.isGenerator = false ∧ fd.scope.isCoroutine = false) (hbody : fd.body = .stmts body) (hcd : s.heap.CodeRec fd.code fd.qualname)
    (h : wpAny (model prog w) A.in1 (bindArgs fd args) (fun binds s₁ => wpAny (model prog w) A.in1 (newFunctionEnv fd.scope fd.globals fd.closure binds (fd.qualname ++ ".<locals>.") (some a) fd.code none fd.builtins)
      (fun env s₂ => s₂.heap.NoLimit ∧ P env s₂) E s₁) E s) :
    wpAny (model prog w) A.in1 (callAny (.ref a) args) (fun fin s' => ∃ env, fin = .again (.func body env) ∧ P env s') E s := by
  unfold callAny
  refine wpAny_bind (wpAny_load ho ?_)
  rw [hd]
  show wpAny _ _ (callFunction a fd args) _ _ _
  unfold callFunction
  rw [hbody, hplain.1, hplain.2]
  obtain ⟨c, oc, vs, tq, hc, hoc, hdc, hq⟩ := hcd
  rw [hc] at h ⊢
  have env : ∀ env s₂, s₂.heap.NoLimit ∧ P env s₂ → wpAny (model prog w) A.in1 (do enterFrame; again (.func body env)) (fun fin s' => ∃ env, fin = .again (.func body env) ∧ P env s') E s₂ :=
    fun env s₂ x => wpAny_bind (wpAny_enterFrame x.1 hroom (wpAny_pure ⟨env, rfl, x.2⟩))
  have rest := wpAny_bind (wpAny_mono h (fun _ _ h₁ => wpAny_bind (wpAny_mono h₁ env fun _ _ x => x)) fun _ _ x => x)
  exact wpAny_bind (m := field (.ref c) 1) (wpAny_field hoc hdc hq (wpAny_bind (wpAny_pure rest)))
theorem codeB_call_function {a : Addr} {args : Args} {o : Obj} {fd : FuncData} {body : List Stmt} (hroom : A.depth < recursionLimit) (ho : s.heap.get? a = some o) (hd : o.data = .func fd)
    (hco : fd.scope.isCoroutine = false) (hgen : fd.scope.isGenerator = false) (hbody : fd.body = .stmts body) (hcd : s.heap.CodeRec fd.code fd.qualname)
    (h : wpAny (model prog w) A.in1 (bindArgs fd args) (fun binds s₁ => wpAny (model prog w) A.in1 (newFunctionEnv fd.scope fd.globals fd.closure binds (fd.qualname ++ ".<locals>.") (some a) fd.code none fd.builtins)
      (fun env s₂ => s₂.heap.NoLimit ∧ codeB b (model prog w) A (.func body env) R s₂) (fun e s' => R (.error e) s') s₁) (fun e s' => R (.error e) s') s) :
    codeB b (model prog w) A (.call (.ref a) args) R s :=
  codeB_of_tree (wpB_any (wpAny_mono (called hroom ho hd ⟨hgen, hco⟩ hbody hcd h) (fun _ _ ⟨_, e, x⟩ => e ▸ ⟨rfl, rfl, x⟩) fun _ _ x => x))

/-- a def called from any state: its own frame over all that lies there -/
theorem codeB_def {a : Addr} {o : Obj} {name qual : Str} {params : Arguments} {body : List Stmt} {scope : Scope} {cl : List (Str × Addr)} {dV kV doc pm cdv ct : Value} {an : Option Addr} {args : Args} {binds : List (Str × Value)}
    (hroom : A.depth < recursionLimit) (ho : s.heap.get? a = some o) (hdata : o.data = .func (fnX name qual params body scope cl dV kV doc pm an cdv ct)) (hlim : s.heap.NoLimit) (hcd : s.heap.CodeRec cdv qual)
    (hbind : BindsTo s (fnX name qual params body scope cl dV kV doc pm an cdv ct) args binds) (hloc : ∀ x ∈ binds, scope.names.lookup x.1 = some .local)
    (h : ∀ L h₁, L = s.heap.objs.size → Fr s.heap L h₁ (fun y => binds.reverse.lookup y) →
      wpB b (model prog w) (A.deeper (envX qual scope L a cdv cl)) (execs body (envX qual scope L a cdv cl)) (fun f s' => R (.ok (.ret (match f with | .ret v => v | _ => .none))) s') NE
        { s with heap := h₁, toks := s.toks + binds.length })
    (hcell : ∀ x ∈ scope.names, x.2 ≠ .cell) (hco : scope.isCoroutine = false := by rfl) (hgen : scope.isGenerator = false := by rfl) (hk : scope.kind = .function := by rfl) :
    codeB b (model prog w) A (.call (.ref a) args) R s := by
  refine codeB_call_function hroom ho hdata hco hgen rfl hcd (hbind _ _ _ _ ?_)
  refine wpAny_newFunctionEnv hcell hloc (fun h₀ hns₀ hsb₀ => ⟨hlim.fresh _ hsb₀, codeB_func ?_⟩) hk
  exact h _ h₀ rfl ⟨hns₀, fun b o e => hsb₀.extBut b o (Nat.ne_of_lt (Heap.lt_size e)) (Heap.get?_push_of_some _ e), Nat.le_refl _⟩
end
end
section
open PySem PySem.W PySem.Calls PyProof.Rows
namespace F
theorem plainAttrs_bytearray : PlainAttrs "bytearray" :=
  ⟨⟨"bytearray.__getattribute__", by rw [typeLookup_type, builtinLookup_eq_fast]; kernel_rfl, by decide +kernel⟩, by rw [typeLookup_type, builtinLookup_eq_fast]; kernel_rfl⟩
theorem owner_bytearray : Manifest.owners.lookup (String.ofList ['y', 'a', 'r', 'r', 'a', 'e', 't', 'y', 'b'].reverse) = some Manifest.sig_bytearray := by kernel_rfl
theorem mro_bytearray : mroOf (.type "bytearray") = pure [.type "bytearray", .type "object"] := by rw [mroOf_type]; kernel_rfl
theorem lookup_new : typeLookup (.type "bytearray") "__new__" = pure (some (.builtin "bytearray.__new__")) := by rw [typeLookup_type, builtinLookup_eq_fast]; kernel_rfl
theorem slot_init : Slot "bytearray" "__init__" "bytearray.__init__" :=
  .of (owner := "bytearray") (n := "__init__") (by rw [typeLookup_type, builtinLookup_eq_fast]; kernel_rfl) (by decide +kernel) (by decide +kernel) (by decide +kernel)
    (by first | exact .inl (by decide +kernel) | exact .inr (by decide +kernel)) (by rw [isSubtype_type]; kernel_rfl)
theorem called : TypeCalled "bytearray" "bytearray.__new__" "bytearray.__init__" :=
  ⟨by decide +kernel, by decide +kernel, ⟨_, _, mro_bytearray⟩, madeBy_type mro_bytearray lookup_new (by decide +kernel), by decide +kernel, by rw [isSubtype_type]; kernel_rfl, slot_init⟩
theorem typeCall0 : checkTypeCall "bytearray" ⟨[], []⟩ = pure () := by kernel_rfl
theorem newCall0 : checkBuiltinCall "bytearray.__new__" ⟨[.type "bytearray"], []⟩ = pure () := by kernel_rfl
theorem typeCall1 (a : Value) : checkTypeCall "bytearray" ⟨[a], []⟩ = pure () := by kernel_rfl
theorem newCall1 (a : Value) : checkBuiltinCall "bytearray.__new__" ⟨[.type "bytearray", a], []⟩ = pure () := by kernel_rfl
theorem entry_new : entryFor table "bytearray.__new__" = some Builtin.«list.__new__» :=
  entryFor_alias (id' := "list.__new__") (by kernel_rfl) (by first | rfl | decide +kernel) (by decide +kernel) (by kernel_rfl)
theorem plain_new : plainId "bytearray.__new__" = true := by decide +kernel
theorem plain_init : plainId "bytearray.__init__" = true := by decide +kernel
theorem entry_init : entryFor table "bytearray.__init__" = some Builtin.«bytearray.__init__» := entryFor_of_tree (by kernel_rfl)
set_option maxRecDepth 1000000 in
set_option maxHeartbeats 4000000 in
theorem owner_new : ("bytearray.__new__".splitOn ".__new__").headD "" = "bytearray" := by simp +decide [String.splitOn, String.splitOnAux]
theorem args_init1 (a : Value) : argsOk "bytearray.__init__" ⟨[a], []⟩ := by
  unfold argsOk; rw [signature?_of (id := "bytearray.__init__") (n := ['_', '_', 't', 'i', 'n', 'i', '_', '_']) (o := ['y', 'a', 'r', 'r', 'a', 'e', 't', 'y', 'b']) (by kernel_rfl) owner_bytearray]; kernel_rfl
theorem args_init2 (a b : Value) : argsOk "bytearray.__init__" ⟨[a, b], []⟩ := by
  unfold argsOk; rw [signature?_of (id := "bytearray.__init__") (n := ['_', '_', 't', 'i', 'n', 'i', '_', '_']) (o := ['y', 'a', 'r', 'r', 'a', 'e', 't', 'y', 'b']) (by kernel_rfl) owner_bytearray]; kernel_rfl
theorem look_release : typeLookup (.type "bytearray") "__release_buffer__" = pure (some (.builtin "bytearray.__release_buffer__")) := by rw [typeLookup_type, builtinLookup_eq_fast]; kernel_rfl
theorem look_buffer : typeLookup (.type "bytearray") "__buffer__" = pure (some (.builtin "bytearray.__buffer__")) := by rw [typeLookup_type, builtinLookup_eq_fast]; kernel_rfl
theorem ba_noBytes : typeLookup (.type "bytearray") "__bytes__" = pure none := by rw [typeLookup_type, builtinLookup_eq_fast]; kernel_rfl
theorem ba_noIndex : typeLookup (.type "bytearray") "__index__" = pure none := by rw [typeLookup_type, builtinLookup_eq_fast]; kernel_rfl
theorem slot_append : Slot "bytearray" "append" "bytearray.append" :=
  .of (owner := "bytearray") (n := "append") (by rw [typeLookup_type, builtinLookup_eq_fast]; kernel_rfl) (by decide +kernel) (by decide +kernel) (by decide +kernel)
    (by first | exact .inl (by decide +kernel) | exact .inr (by decide +kernel)) (by rw [isSubtype_type]; kernel_rfl)
theorem type_append : typeOf (.builtin "bytearray.append") = pure (.type "method_descriptor") := by show builtinType _ = _; rw [builtinType_eq_fast]; kernel_rfl
theorem entry_append : entryFor table "bytearray.append" = some Builtin.«bytearray.append» := entryFor_of_tree (by kernel_rfl)
theorem args_append (a b : Value) : argsOk "bytearray.append" ⟨[a, b], []⟩ := by
  unfold argsOk; rw [signature?_of (id := "bytearray.append") (n := ['d', 'n', 'e', 'p', 'p', 'a']) (o := ['y', 'a', 'r', 'r', 'a', 'e', 't', 'y', 'b']) (by kernel_rfl) owner_bytearray]; kernel_rfl
theorem plain_append : plainId "bytearray.append" = true := by decide +kernel
theorem slot_getitem : Slot "bytearray" "__getitem__" "bytearray.__getitem__" :=
  .of (owner := "bytearray") (n := "__getitem__") (by rw [typeLookup_type, builtinLookup_eq_fast]; kernel_rfl) (by decide +kernel) (by decide +kernel) (by decide +kernel)
    (by first | exact .inl (by decide +kernel) | exact .inr (by decide +kernel)) (by rw [isSubtype_type]; kernel_rfl)
theorem entry_getitem : entryFor table "bytearray.__getitem__" = some Builtin.«bytearray.__getitem__» := entryFor_of_tree (by kernel_rfl)
theorem args_getitem (a b : Value) : argsOk "bytearray.__getitem__" ⟨[a, b], []⟩ := by
  unfold argsOk; rw [signature?_of (id := "bytearray.__getitem__") (n := ['_', '_', 'm', 'e', 't', 'i', 't', 'e', 'g', '_', '_']) (o := ['y', 'a', 'r', 'r', 'a', 'e', 't', 'y', 'b']) (by kernel_rfl) owner_bytearray]; kernel_rfl
theorem slot_setitem : Slot "bytearray" "__setitem__" "bytearray.__setitem__" :=
  .of (owner := "bytearray") (n := "__setitem__") (by rw [typeLookup_type, builtinLookup_eq_fast]; kernel_rfl) (by decide +kernel) (by decide +kernel) (by decide +kernel)
    (by first | exact .inl (by decide +kernel) | exact .inr (by decide +kernel)) (by rw [isSubtype_type]; kernel_rfl)
theorem entry_setitem : entryFor table "bytearray.__setitem__" = some Builtin.«bytearray.__setitem__» := entryFor_of_tree (by kernel_rfl)
theorem args_setitem (a b c : Value) : argsOk "bytearray.__setitem__" ⟨[a, b, c], []⟩ := by
  unfold argsOk; rw [signature?_of (id := "bytearray.__setitem__") (n := ['_', '_', 'm', 'e', 't', 'i', 't', 'e', 's', '_', '_']) (o := ['y', 'a', 'r', 'r', 'a', 'e', 't', 'y', 'b']) (by kernel_rfl) owner_bytearray]; kernel_rfl
theorem slot_join : Slot "bytes" "join" "bytes.join" :=
  .of (owner := "bytes") (n := "join") (by rw [typeLookup_type, builtinLookup_eq_fast]; kernel_rfl) (by decide +kernel) (by decide +kernel) (by decide +kernel)
    (by first | exact .inl (by decide +kernel) | exact .inr (by decide +kernel)) (by rw [isSubtype_type]; kernel_rfl)
theorem type_join : typeOf (.builtin "bytes.join") = pure (.type "method_descriptor") := by show builtinType _ = _; rw [builtinType_eq_fast]; kernel_rfl
theorem entry_join : entryFor table "bytes.join" = some Builtin.«bytes.join» := entryFor_of_tree (by kernel_rfl)
theorem args_join (a b : Value) : argsOk "bytes.join" ⟨[a, b], []⟩ := by
  unfold argsOk; rw [signature?_of (id := "bytes.join") (n := ['n', 'i', 'o', 'j']) (o := ['s', 'e', 't', 'y', 'b']) (by kernel_rfl) FB.owner_bytes]; kernel_rfl
end F
end
section
open PySem PySem.W PySem.Calls PyProof.Rows

section
variable {b : Bool} {M : Model} {A : Around} {E : Value → Shared → Prop} {s : Shared}
theorem wpB_ite_false {α : Type} {c : Bool} {x y : Sem α} {Q : α → Shared → Prop} (hc : c = false) (h : wpB b M A y Q E s) : wpB b M A (if c = true then x else y) Q E s := by
  subst hc; exact h
theorem wpB_ite_true {α : Type} {c : Bool} {x y : Sem α} {Q : α → Shared → Prop} (hc : c = true) (h : wpB b M A x Q E s) : wpB b M A (if c = true then x else y) Q E s := by
  subst hc; exact h
theorem wpB_rule {tag : String} {Q : Unit → Shared → Prop} (h : Q () s) : wpB b M A (rule tag) Q E s := fun _ _ _ _ => h
theorem wpB_callSpecial {self : Value} {T : String} {name : Str} {id : String} {args : List Value} {kw : List (Str × Value)}
    {Q : Option Value → Shared → Prop} (hT : s.TypeIs self T) (h : Slot T name id)
    (hc : wpB b M A (call (.builtin id) (self :: args) kw) (fun v => Q (some v)) E s) : wpB b M A (callSpecial? self name args kw) Q E s := by
  unfold callSpecial?
  refine wpB_step (wpAny_specialOf hT h.lookup ?_)
  dsimp only
  rw [h.bind]
  exact wpB_holding (wpB_bind (wpB_pure (wpB_bind (wpB_mono hc (fun v s' h' => wpB_pure h') fun _ _ h' => h'))))
end

section
variable {b : Bool} {prog : Program} {w : World} {A : Around} {E : Value → Shared → Prop} {s : Shared} {R : Result → Shared → Prop}

theorem callTypeB {T newId initId : String} {args : List Value} {Q Q₁ : Value → Shared → Prop} (ft : TypeCalled T newId initId)
    (hct : checkTypeCall T ⟨args, []⟩ = pure ())
    (hnew : codeAny (model prog w) A.in1 (.call (.builtin newId) ⟨.type T :: args, []⟩) (wants Q₁ E) s)
    (hnext : ∀ obj s₁, Q₁ obj s₁ → s₁.TypeIs obj T ∧
      codeB b (model prog w) A.in1 (.call (.builtin initId) ⟨obj :: args, []⟩) (wants (fun r s₂ => r = .none ∧ Q obj s₂) E) s₁) :
    wpB b (model prog w) A (call (.type T) args) Q E s := by
  obtain ⟨c, tl, hmro⟩ := ft.mro
  refine wpB_call (codeB_of_tree ?_)
  show wpB b _ _ (callAny (.type T) _) _ _ _
  refine wpB_pure ⟨Code.quiet_builtin _ (by decide +kernel), by show holdIds.contains "type.__call__" = false; decide +kernel, codeB_builtin F.entry_type_call ?_⟩
  rw [Around.under_plain (weight_type_call_type T args []) (units_type_call_type T args [])]
  unfold Builtin.«type.__call__»
  dsimp only
  refine wpB_ite_false ft.notType ?_
  refine wpB_ite_false ft.canCreate ?_
  refine wpB_bind (wpB_eq hct ?_)
  refine wpB_bind (wpB_eq hmro ?_)
  refine wpB_ite_false rfl ?_
  refine wpB_bind (wpB_eq ft.made ?_)
  dsimp only
  refine wpB_bind (wpB_pure ?_)
  refine wpB_bind (wpB_holding (wpB_any (wpAny_call (codeAny_mono hnew fun r s₁ hr => ?_))))
  unfold wants at hr
  split at hr
  · rename_i obj
    obtain ⟨hT, hi⟩ := hnext _ _ hr
    dsimp only
    refine wpB_step (wpAny_isInstance hT ft.sub ?_)
    refine wpB_ite_false rfl ?_
    refine wpB_bind (wpB_holding (wpB_callSpecial hT ft.init (wpB_call (codeB_mono hi fun r₂ s₂ hr₂ => ?_))))
    unfold wants at hr₂
    split at hr₂
    · obtain ⟨rfl, hq⟩ := hr₂
      dsimp only
      refine wpB_ite_false rfl ?_
      exact wpB_pure hq
    · exact hr₂.elim
    · exact hr₂
  · exact hr.elim
  · exact hr

abbrev baObj (x : Array UInt8) : Obj := { cls := .type "bytearray", data := .bytearray x }

theorem code_ba_new {args : List Value} {Q₁ : Value → Shared → Prop} (hc : checkBuiltinCall "bytearray.__new__" ⟨.type "bytearray" :: args, []⟩ = pure ())
    (h : Q₁ (.ref s.heap.objs.size) { s with heap := s.heap.push (baObj #[]) }) :
    codeAny (model prog w) A (.call (.builtin "bytearray.__new__") ⟨.type "bytearray" :: args, []⟩) (wants Q₁ E) s := by
  refine codeAny_of_tree ?_
  show wpAny _ A.in1 (do checkBuiltinCall "bytearray.__new__" ⟨.type "bytearray" :: args, []⟩; again (.builtin "bytearray.__new__" ⟨.type "bytearray" :: args, []⟩)) _ _ s
  refine wpAny_bind (wpAny_of_eq hc (wpAny_pure ⟨plainId_quiet F.plain_new _, codeAny_builtin_stack F.entry_new rfl fun p st => ?_⟩))
  rw [Around.under_plainId F.plain_new _]
  have hsub := PySem.F.sub_bytearray_bytearray
  have hown := F.owner_new
  obtain ⟨hp, g, d, tk, os⟩ := s
  simp only [hown]
  wp_walk
  exact h

/-- an update of a bytearray's octets -/
theorem wpAny_write {M : Model} {a : Addr} {x : Array UInt8} {f : Array UInt8 → Array UInt8} {Q : Unit → Shared → Prop} (ha : s.heap.get? a = some (baObj x)) (hz : (f x).size ≤ sizeLine)
    (h : ∀ h', h'.get? a = some (baObj (f x)) → Heap.SameBut a s.heap h' → Q () { s with heap := h' }) : wpAny M A (Builtin.Bytes.write (.ref a) f) Q E s := by
  show wpAny _ _ (updateBytearray a f) _ _ _
  unfold updateBytearray
  refine wpAny_bind (wpAny_load ha ?_)
  show wpAny _ _ (update a (Obj.mapBytearray f) >>= fun _ => lookBehind a) _ _ _
  refine wpAny_bind (wpAny_update ha ?_)
  have h2 : (s.heap.update a (Obj.mapBytearray f)).get? a = some (baObj (f x)) := Heap.get?_update_self (Obj.mapBytearray f) ha rfl
  refine wpAny_lookBehind h2 ?_ (h _ h2 (Heap.SameBut.update ..))
  show (if (f x).size > sizeLine then some "bytearray:memory" else none) = none
  rw [if_neg (Nat.not_lt.mpr hz)]

theorem slotIsOwn_ba {M : Model} {a : Addr} {x : Array UInt8} {name : String} {id : String} {Q : Bool → Shared → Prop} (ha : s.heap.get? a = some (baObj x))
    (hl : typeLookup (.type "bytearray") (name : Str) = pure (some (.builtin id))) (he : id.endsWith ("." ++ name) = true) (hd : id.dropRight (name.length + 1) = "bytearray")
    (h : Q true s) : wpAny M A (Builtin.Bytes.slotIsOwn (.ref a) name) Q E s := by
  have hT : s.TypeIs (.ref a) "bytearray" := ⟨_, ha, rfl⟩
  unfold Builtin.Bytes.slotIsOwn
  refine wpAny_bind (wpAny_specialOf hT hl ?_)
  dsimp only
  rw [he, hd]
  exact wpAny_isInstance hT PySem.F.sub_bytearray_bytearray h
theorem ownRelease_ba {M : Model} {a : Addr} {x : Array UInt8} {Q : Bool → Shared → Prop} (ha : s.heap.get? a = some (baObj x)) (h : Q false s) : wpAny M A (Builtin.Bytes.ownRelease (.ref a)) Q E s := by
  unfold Builtin.Bytes.ownRelease
  exact wpAny_bind (slotIsOwn_ba ha F.look_release (by decide +kernel) (by decide +kernel) (wpAny_pure h))
theorem payload_ba {M : Model} {a : Addr} {x : Array UInt8} {Q : Array UInt8 → Shared → Prop} (ha : s.heap.get? a = some (baObj x)) (h : Q x s) : wpAny M A (Builtin.Bytes.payload (.ref a)) Q E s := by
  unfold Builtin.Bytes.payload Builtin.Bytes.payload?
  exact wpAny_bind (wpAny_bind (wpAny_load ha (wpAny_pure (wpAny_pure h))))
theorem exportsOf_ba {M : Model} {a : Addr} {x : Array UInt8} {Q : Nat → Shared → Prop} (ha : s.heap.get? a = some (baObj x)) (h : Q 0 s) : wpAny M A (Builtin.Bytes.exportsOf (.ref a)) Q E s := by
  unfold Builtin.Bytes.exportsOf
  exact wpAny_bind (wpAny_load ha (wpAny_pure h))
theorem notLent_ba {M : Model} {a : Addr} {x : Array UInt8} {Q : Bool → Shared → Prop} (ha : s.heap.get? a = some (baObj x)) (h : Q false s) :
    wpB true M A (Builtin.Bytes.exported (.ref a) <||> (do return (← Builtin.Bytes.exportsOf (.ref a)) > 0)) Q E s := by
  show wpB true M A (Builtin.Bytes.exported (.ref a) >>= fun c => _) Q E s
  refine wpB_bind (wpB_exported ?_)
  exact wpB_step (exportsOf_ba ha (wpB_pure h))
theorem checkResize_ba {M : Model} {a : Addr} {x : Array UInt8} {Q : Unit → Shared → Prop} (ha : s.heap.get? a = some (baObj x)) (h : Q () s) : wpB true M A (Builtin.Bytes.checkResize (.ref a)) Q E s := by
  unfold Builtin.Bytes.checkResize
  exact wpB_bind (notLent_ba ha (wpB_ite_false rfl (wpB_pure h)))

theorem bind0 : Builtin.Bytes.bindOptional "bytearray.__init__" "bytearray" ["source", "encoding", "errors"] [] [] = pure [none, none, none] := by kernel_rfl
theorem bind1 (v : Value) : Builtin.Bytes.bindOptional "bytearray.__init__" "bytearray" ["source", "encoding", "errors"] [v] [] = pure [some v, none, none] := by kernel_rfl

theorem ba_init0 {Q : Value → Shared → Prop} {x : Array UInt8} {a : Addr} (ha : s.heap.get? a = some (baObj x))
    (h : ∀ h', h'.get? a = some (baObj #[]) → Heap.SameBut a s.heap h' → Q .none { s with heap := h' }) :
    codeB true (model prog w) A (.call (.builtin "bytearray.__init__") ⟨[.ref a], []⟩) (wants Q E) s := by
  have hT : s.TypeIs (.ref a) "bytearray" := ⟨_, ha, rfl⟩
  refine codeB_call_builtin F.plain_init (by decide +kernel) F.entry_init (F.slot_init.check _ _ _ _ _ _ _ _ hT (F.args_init1 _) ?_)
  unfold Builtin.«bytearray.__init__»
  dsimp only
  refine wpB_step (ownRelease_ba ha ?_)
  refine wpB_ite_false rfl ?_
  refine wpB_bind (wpB_eq bind0 ?_)
  dsimp only
  refine wpB_bind (wpB_eq (a := ()) rfl ?_)
  refine wpB_bind (wpB_eq (a := ()) rfl ?_)
  refine wpB_bind (notLent_ba ha ?_)
  refine wpB_ite_false rfl ?_
  refine wpB_step (wpAny_write (f := fun _ => #[]) ha (Nat.zero_le _) fun h' h1 h2 => ?_)
  refine wpB_bind (wpB_ite_false rfl (wpB_ite_false rfl (wpB_pure ?_)))
  exact wpB_pure (h h' h1 h2)

theorem ba_init1 {Q : Value → Shared → Prop} {x : Array UInt8} {a l : Addr} {t : Tok} (ha : s.heap.get? a = some (baObj x)) (hl : s.heap.IsList l #[.int 128 t])
    (h : ∀ h', h'.get? a = some (baObj #[128]) → Heap.SameBut a s.heap h' → Q .none { s with heap := h' }) :
    codeB true (model prog w) A (.call (.builtin "bytearray.__init__") ⟨[.ref a, .ref l], []⟩) (wants Q E) s := by
  have hT : s.TypeIs (.ref a) "bytearray" := ⟨_, ha, rfl⟩
  obtain ⟨ol, hol, hoc, nl, hod⟩ := id hl
  have hne : a ≠ l := fun e => by subst e; rw [ha] at hol; cases hol; cases hod
  refine codeB_call_builtin F.plain_init (by decide +kernel) F.entry_init (F.slot_init.check _ _ _ _ _ _ _ _ hT (F.args_init2 _ _) ?_)
  unfold Builtin.«bytearray.__init__»
  dsimp only
  refine wpB_step (ownRelease_ba ha ?_)
  refine wpB_ite_false rfl ?_
  refine wpB_bind (wpB_eq (bind1 _) ?_)
  dsimp only
  refine wpB_bind (wpB_eq (a := ()) rfl ?_)
  refine wpB_bind (wpB_eq (a := ()) rfl ?_)
  refine wpB_bind (notLent_ba ha ?_)
  refine wpB_ite_false rfl ?_
  refine wpB_step (wpAny_write (f := fun _ => #[]) ha (Nat.zero_le _) fun h' e1 e2 => ?_)
  have hl' : h'.IsList l #[.int 128 t] := hl.extBut e2.extBut (Ne.symm hne)
  have hol' : h'.get? l = some ol := e2.extBut l ol (Ne.symm hne) hol
  have hTl : ({ s with heap := h' } : Shared).TypeIs (.ref l) "list" := ⟨ol, hol', hoc⟩
  refine wpB_step (m := asStr? (.ref l)) (by
    show wpAny _ _ (load l >>= _) _ _ _
    refine wpAny_bind (wpAny_load hol' ?_)
    rw [hod]
    refine wpAny_pure ?_
    refine wpB_ite_false rfl ?_
    refine wpB_bind (wpB_ite_false rfl (wpB_ite_false rfl (wpB_pure ?_)))
    refine wpB_step (wpAny_specialOf hTl F.bm_no_index ?_)
    refine wpB_ite_false rfl ?_
    refine wpB_step ?_
    unfold Builtin.Bytes.buffer?
    refine wpAny_bind (wpAny_specialOf hTl F.bm_no_buffer ?_)
    refine wpAny_bind (wpAny_specialOf hTl F.bm_no_buffer ?_)
    refine wpAny_pure ?_
    refine wpB_step (wpAny_typeOf hTl ?_)
    refine wpB_ite_true (by decide) ?_
    refine wpB_step (wpAny_seqItems hol' hod ?_)
    show wpB true _ _ (rule "bytearray.__init__.list-of-ints" >>= fun _ => Builtin.Bytes.write (.ref a) (fun _ => #[128]) >>= fun _ => ret .none) _ _ _
    refine wpB_bind (wpB_rule (wpB_step (wpAny_write e1 (by rw [sizeLine_eq]; decide) fun h2 g1 g2 => ?_)))
    exact wpB_pure (h h2 g1 (e2.trans g2)))

theorem call_ba0 {Q : Value → Shared → Prop}
    (h : ∀ h', h'.get? s.heap.objs.size = some (baObj #[]) → (∀ b o, s.heap.get? b = some o → h'.get? b = some o) → Q (.ref s.heap.objs.size) { s with heap := h' }) :
    wpB true (model prog w) A (call (.type "bytearray") []) Q E s := by
  refine callTypeB (Q₁ := fun obj s₁ => obj = .ref s.heap.objs.size ∧ s₁ = { s with heap := s.heap.push (baObj #[]) }) F.called F.typeCall0 (code_ba_new F.newCall0 ⟨rfl, rfl⟩) fun obj s₁ h₁ => ?_
  obtain ⟨rfl, rfl⟩ := h₁
  have ha : (s.heap.push (baObj #[])).get? s.heap.objs.size = some (baObj #[]) := Heap.get?_push_size _ rfl
  refine ⟨⟨_, ha, rfl⟩, ba_init0 ha fun h' e1 e2 => ⟨rfl, h h' e1 fun b o e => ?_⟩⟩
  exact e2.extBut b o (Nat.ne_of_lt (Heap.lt_size e)) (Heap.get?_push_of_some _ e)
theorem call_ba1 {Q : Value → Shared → Prop} {l : Addr} {t : Tok} (hl : s.heap.IsList l #[.int 128 t])
    (h : ∀ h', h'.get? s.heap.objs.size = some (baObj #[128]) → (∀ b o, s.heap.get? b = some o → h'.get? b = some o) → Q (.ref s.heap.objs.size) { s with heap := h' }) :
    wpB true (model prog w) A (call (.type "bytearray") [.ref l]) Q E s := by
  refine callTypeB (Q₁ := fun obj s₁ => obj = .ref s.heap.objs.size ∧ s₁ = { s with heap := s.heap.push (baObj #[]) }) F.called (F.typeCall1 _) (code_ba_new (F.newCall1 _) ⟨rfl, rfl⟩) fun obj s₁ h₁ => ?_
  obtain ⟨rfl, rfl⟩ := h₁
  have ha : (s.heap.push (baObj #[])).get? s.heap.objs.size = some (baObj #[]) := Heap.get?_push_size _ rfl
  refine ⟨⟨_, ha, rfl⟩, ba_init1 ha (hl.push _) fun h' e1 e2 => ⟨rfl, h h' e1 fun b o e => ?_⟩⟩
  exact e2.extBut b o (Nat.ne_of_lt (Heap.lt_size e)) (Heap.get?_push_of_some _ e)

theorem call_append {Q : Value → Shared → Prop} {x : Array UInt8} {a : Addr} {i : Int} {t : Tok} (ha : s.heap.get? a = some (baObj x)) (h0 : 0 ≤ i) (h1 : i < 256) (hz : x.size < 16777216)
    (h : ∀ h', h'.get? a = some (baObj (x.push i.toNat.toUInt8)) → Heap.SameBut a s.heap h' → Q .none { s with heap := h' }) :
    wpB true (model prog w) A (call (.builtin "bytearray.append") [.ref a, .int i t]) Q E s := by
  have hT : s.TypeIs (.ref a) "bytearray" := ⟨_, ha, rfl⟩
  refine wpB_call (codeB_call_builtin F.plain_append (by decide +kernel) F.entry_append (F.slot_append.check _ _ _ _ _ _ _ _ hT (F.args_append _ _) ?_))
  show wpB true _ _ (Builtin.Bytes.byteValue (.int i t) >>= fun c => Builtin.Bytes.checkResize (.ref a) >>= fun _ => Builtin.Bytes.write (.ref a) (·.push c) >>= fun _ => ret .none) _ _ s
  refine wpB_step ?_
  unfold Builtin.Bytes.byteValue
  refine wpAny_bind (wpAny_of_eq (rfl : asIndex (.int i t) = pure i) ?_)
  refine bm_if_false (by simp only [Bool.or_eq_false_iff, decide_eq_false_iff_not]; omega) (wpAny_pure ?_)
  refine wpB_bind (checkResize_ba ha ?_)
  refine wpB_step (wpAny_write ha (by rw [Array.size_push, sizeLine_eq]; omega) fun h' e1 e2 => ?_)
  exact wpB_pure (h h' e1 e2)

/-- bytes(a bytearray) -/
theorem buffer_ba {M : Model} {a : Addr} {x : Array UInt8} {id : String} {full : Bool} {Q : Option (Array UInt8) → Shared → Prop} (ha : s.heap.get? a = some (baObj x)) (h : Q (some x) s) :
    wpAny M A (Builtin.Bytes.buffer? id (.ref a) full) Q E s := by
  have hT : s.TypeIs (.ref a) "bytearray" := ⟨_, ha, rfl⟩
  unfold Builtin.Bytes.buffer?
  refine wpAny_bind (wpAny_specialOf hT F.look_buffer ?_)
  refine wpAny_bind (slotIsOwn_ba ha F.look_buffer (by decide +kernel) (by decide +kernel) ?_)
  refine bm_if_false rfl ?_
  refine wpAny_bind (wpAny_specialOf hT F.look_buffer ?_)
  show wpAny _ _ (Builtin.Bytes.ownRelease (.ref a) >>= fun c => _) _ _ _
  refine wpAny_bind (ownRelease_ba ha ?_)
  refine bm_if_false rfl ?_
  exact wpAny_bind (payload_ba ha (wpAny_pure h))
theorem call_bytes_ba {Q : Value → Shared → Prop} {a : Addr} {x : Array UInt8} (ha : s.heap.get? a = some (baObj x)) (hz : x.size ≤ 16777216)
    (h : Q (.bytes x s.toks) { s with toks := s.toks + 1 }) : wpAny (model prog w) A (call (.type "bytes") [.ref a]) Q E s := by
  have hT : s.TypeIs (.ref a) "bytearray" := ⟨_, ha, rfl⟩
  refine callType_codes (Q₁ := fun obj s₁ => s₁.TypeIs obj "bytes" ∧ Q obj s₁) F.bm_called (F.bm_typeCall _) F.entry_object_init ?_ fun obj s₁ h₁ =>
    ⟨h₁.1, F.args_object_init_2 obj _, object_init_meets F.bm_called.init.lookup F.bm_called.made (by decide) prog w A.in1 _ s₁ ⟨h₁.1, rfl, h₁.2⟩⟩
  refine codeAny_of_tree ?_
  show wpAny _ A.in1.in1 (do checkBuiltinCall "bytes.__new__" ⟨[.type "bytes", .ref a], []⟩; again (.builtin "bytes.__new__" ⟨[.type "bytes", .ref a], []⟩)) _ _ s
  refine wpAny_bind (wpAny_of_eq (F.bm_newCall _) (wpAny_pure ⟨plainId_quiet F.bm_plain _, codeAny_builtin F.bm_entry ?_⟩))
  rw [Around.under_plainId F.bm_plain _]
  unfold Builtin.«bytes.__new__»
  refine wpAny_bind (wpAny_of_eq (a := true) rfl ?_)
  refine bm_if_false rfl ?_
  refine wpAny_bind (wpAny_of_eq F.bm_sub ?_)
  refine bm_if_false rfl ?_
  refine wpAny_bind (wpAny_of_eq (F.bm_bind _) ?_)
  refine wpAny_bind (wpAny_of_eq (a := ()) rfl ?_)
  refine wpAny_bind (wpAny_of_eq (a := ()) rfl ?_)
  refine bm_if_false rfl ?_
  refine wpAny_bind (wpAny_specialOf hT F.ba_noBytes ?_)
  refine wpAny_bind (wpAny_bind ?_)
  show wpAny _ _ (load a >>= _) _ _ _
  refine wpAny_bind (wpAny_load ha ?_)
  refine wpAny_pure (wpAny_pure ?_)
  refine bm_if_false rfl ?_
  refine wpAny_bind (wpAny_specialOf hT F.ba_noIndex ?_)
  refine bm_if_true rfl ?_
  show wpAny _ _ (Builtin.Bytes.buffer? "bytes.__new__" (.ref a) true >>= _) _ _ _
  refine wpAny_bind (buffer_ba ha ?_)
  refine wpAny_bind (wpAny_rule ?_)
  refine wpAny_bind (wpAny_mkBytes ?_ (by rw [sizeLine_eq]; exact hz))
  show wpAny _ _ (if (Value.type "bytes" == Value.type "bytes") = true then _ else _) _ _ _
  refine bm_if_true (by decide) ?_
  first
    | exact wpAny_pure ⟨PySem.W.typeIs_bytes _ _ _, h⟩
    | exact wpAny_bind (wpAny_pure (wpAny_pure ⟨PySem.W.typeIs_bytes _ _ _, h⟩))

/-- an octet of a bytearray at a place -/
theorem getItem_ba {Q : Value → Shared → Prop} {a : Addr} {x : Array UInt8} {k : Int} {u : Tok} (ha : s.heap.get? a = some (baObj x)) (h0 : 0 ≤ k) (h1 : k < 2 ^ 62) {c : UInt8} (hx : x[k.toNat]? = some c)
    (h : Q (.int c.toNat s.toks) { s with toks := s.toks + 1 }) : wpAny (model prog w) A (getItem (.ref a) (.int k u)) Q E s := by
  have hT : s.TypeIs (.ref a) "bytearray" := ⟨_, ha, rfl⟩
  unfold getItem
  try with_reducible refine wpAny_holding ?_
  first | refine wpAny_bind (wpAny_pure ?_) | skip
  refine wpAny_bind (wpAny_sequenceKey hT (by decide) ?_)
  refine wpAny_bind (wpAny_callSpecial?_slot (name := Str.ofString "__getitem__") hT F.slot_getitem
    (wpAny_call_entry F.slot_getitem hT F.entry_getitem ?_ (F.args_getitem _ _)))
  show wpAny _ _ (Builtin.Bytes.subscript? (.int k u) >>= _) _ _ s
  refine wpAny_bind ?_
  unfold Builtin.Bytes.subscript?
  refine wpAny_bind (wpAny_specialOf (T := "int") (typeIs_int _ _ _) F.slot_int_index.lookup ?_)
  refine bm_if_false rfl ?_
  refine wpAny_bind (wpAny_of_eq (rfl : asIndex (.int k u) = pure k) ?_)
  refine bm_if_false ?_ (wpAny_pure ?_)
  · unfold Builtin.Bytes.fitsIndex
    rw [Bool.not_eq_false', Bool.and_eq_true, decide_eq_true_eq, decide_eq_true_eq]
    omega
  show wpAny _ _ (Builtin.Bytes.payload (.ref a) >>= _) _ _ _
  refine wpAny_bind (payload_ba ha ?_)
  have hj : seqIndex? k x.size = some k.toNat := by
    have : k.toNat < x.size := by
      rcases Nat.lt_or_ge k.toNat x.size with q | q
      · exact q
      · rw [Array.getElem?_eq_none q] at hx; cases hx
    exact seqIndex_of h0 (by omega)
  rw [hj]
  show wpAny _ _ (match x[k.toNat]? with | some c => _ | none => _) _ _ _
  rw [hx]
  exact wpAny_bind (wpAny_mkInt (wpAny_pure ⟨_, rfl, wpAny_pure h⟩))
theorem subscript_int {M : Model} {k : Int} {u : Tok} {Q : Option Int → Shared → Prop} (h0 : 0 ≤ k) (h1 : k < 2 ^ 62) (h : Q (some k) s) : wpAny M A (Builtin.Bytes.subscript? (.int k u)) Q E s := by
  unfold Builtin.Bytes.subscript?
  refine wpAny_bind (wpAny_specialOf (T := "int") (typeIs_int _ _ _) F.slot_int_index.lookup ?_)
  refine bm_if_false rfl ?_
  refine wpAny_bind (wpAny_of_eq (rfl : asIndex (.int k u) = pure k) ?_)
  refine bm_if_false ?_ (wpAny_pure h)
  unfold Builtin.Bytes.fitsIndex
  rw [Bool.not_eq_false', Bool.and_eq_true, decide_eq_true_eq, decide_eq_true_eq]
  omega
theorem setItem_ba {Q : Unit → Shared → Prop} {a : Addr} {x : Array UInt8} {k i : Int} {u t : Tok} (ha : s.heap.get? a = some (baObj x)) (h0 : 0 ≤ k) (h1 : k < x.size) (hz : x.size ≤ 16777216) (i0 : 0 ≤ i) (i1 : i < 256)
    (h : ∀ h', h'.get? a = some (baObj (x.setIfInBounds k.toNat i.toNat.toUInt8)) → Heap.SameBut a s.heap h' → Q () { s with heap := h' }) : wpAny (model prog w) A (setItem (.ref a) (.int k u) (.int i t)) Q E s := by
  have hT : s.TypeIs (.ref a) "bytearray" := ⟨_, ha, rfl⟩
  unfold setItem
  try with_reducible refine wpAny_holding ?_
  first | refine wpAny_bind (wpAny_pure ?_) | skip
  refine wpAny_bind (wpAny_sequenceKey hT (by decide) ?_)
  refine wpAny_bind (wpAny_callSpecial?_slot (name := Str.ofString "__setitem__") hT F.slot_setitem
    (wpAny_call_entry F.slot_setitem hT F.entry_setitem ?_ (F.args_setitem _ _ _)))
  show wpAny _ _ (Builtin.Bytes.subscript? (.int k u) >>= _) _ _ s
  refine wpAny_bind (subscript_int h0 (by omega) ?_)
  show wpAny _ _ (Builtin.Bytes.byteValue (.int i t) >>= _) _ _ _
  refine wpAny_bind ?_
  unfold Builtin.Bytes.byteValue
  refine wpAny_bind (wpAny_of_eq (rfl : asIndex (.int i t) = pure i) ?_)
  refine bm_if_false (by simp only [Bool.or_eq_false_iff, decide_eq_false_iff_not]; omega) (wpAny_pure ?_)
  refine wpAny_bind (payload_ba ha ?_)
  rw [seqIndex_of h0 h1]
  refine wpAny_bind (wpAny_write ha (by rw [Array.size_setIfInBounds, sizeLine_eq]; exact hz) fun h' e1 e2 => ?_)
  exact wpAny_pure ⟨_, rfl, wpAny_pure (h h' e1 e2)⟩
end
end
section
open PySem PySem.W PySem.Calls PyProof.Rows
open PySem.Sem (wp)

theorem HF.of_over {Γ : Ctx} {fs : List Frame} (h : HF (Γ.over fs)) : isHold Γ.code = false ∧ FreeFs fs :=
  ⟨h.1, fun f hf => h.2 f.where_ (List.mem_append_left _ (List.mem_map_of_mem hf))⟩
theorem HF.push {Γ : Ctx} {fs : List Frame} (h : HF (Γ.over fs)) {c' : Code} (hc : isHold c' = false) {k o g l p kp} : HF ((Γ.goto c').over (.ret k o g l Γ.code p kp :: fs)) :=
  ⟨hc, fun x hx => by
    rcases List.mem_cons.mp hx with rfl | hx
    · exact h.1
    · exact h.2 x hx⟩
theorem HF.pop {Γ : Ctx} {fs : List Frame} {k o g l c₁ p kp} (h : HF (Γ.over (.ret k o g l c₁ p kp :: fs))) : HF ((Γ.goto c₁).over fs) :=
  ⟨h.2 (c₁, p) (.head _), fun x hx => h.2 x (.tail _ hx)⟩
theorem HF.swap {Γ : Ctx} {fs : List Frame} (h : HF (Γ.over fs)) {c' : Code} (hc : isHold c' = false) : HF ((Γ.goto c').over fs) := ⟨hc, h.2⟩

/-- a stretch's end: the octets that are still to come name it -/
def EndB (D U : Shared → Shared → Prop) (go : Shared → Code → Sem Fin → List Frame → Shared → Prop) : List (Array UInt8) → Shared → End → Shared → Prop
  | [], s₀, e, s' => e = .ret (.ok (.ret .none)) ∧ D s₀ s'
  | x :: _, s₀, e, s' => ∃ t g l k c p fs, e = .susp (.bytes x t) g l k c p fs ∧ (End.susp (.bytes x t) g l k c p fs).quiet = true ∧ (isHold c = false ∧ FreeFs fs) ∧ D s₀ s' ∧
      ∀ s'', U s' s'' → go s'' c (k (.send .none)) fs s''
def SegB (M : Model) (A : Around) (D U : Shared → Shared → Prop) : List (Array UInt8) → Shared → Code → Sem Fin → List Frame → Shared → Prop
  | [] => fun s₀ c t fs s => ∀ Γ p, Γ.code = c → Γ.Woken A → HF (Γ.over fs) → ∃ e s', Runs M Γ p t fs s e s' ∧ EndB D U (fun _ _ _ _ _ => False) [] s₀ e s'
  | x :: cs => fun s₀ c t fs s => ∀ Γ p, Γ.code = c → Γ.Woken A → HF (Γ.over fs) → ∃ e s', Runs M Γ p t fs s e s' ∧ EndB D U (fun s₀' c' t' fs' s'' => SegB M A D U cs s₀' c' t' fs' s'') (x :: cs) s₀ e s'
def SegB.next (M : Model) (A : Around) (D U : Shared → Shared → Prop) : List (Array UInt8) → Shared → Code → Sem Fin → List Frame → Shared → Prop
  | [] => fun _ _ _ _ _ => False
  | _ :: cs => fun s₀ c t fs s => SegB M A D U cs s₀ c t fs s
section
variable {M : Model} {A : Around} {D U : Shared → Shared → Prop} {cs : List (Array UInt8)} {s₀ : Shared} {c : Code} {fs : List Frame} {s : Shared} {env : Env}
theorem segB_iff {t : Sem Fin} : SegB M A D U cs s₀ c t fs s ↔ ∀ Γ p, Γ.code = c → Γ.Woken A → HF (Γ.over fs) → ∃ e s', Runs M Γ p t fs s e s' ∧ EndB D U (SegB.next M A D U cs) cs s₀ e s' := by
  cases cs <;> rfl
theorem segB_wrap {α : Type} {m : Sem α} {K : α → Sem Fin} {H : Value → Sem Fin} {gd lv}
    (h : wpB true M (A.over c fs) m (fun a s' => SegB M A D U cs s₀ c (K a) fs s') NE s) : SegB M A D U cs s₀ c (m.wrap K H gd lv) fs s := by
  rw [segB_iff]
  rintro Γ p rfl hΓ hF
  exact runs_wrap_of_wp K H gd lv m (h (Γ.over fs) p (hΓ.over fs) fun _ => hF) (fun a p' s' h' => segB_iff.mp h' Γ p' rfl hΓ hF) (fun x p' s' h' => h'.elim)
theorem bind_wrap {α β : Type} (m : Sem α) (f : α → Sem β) (K : β → Sem Fin) (H : Value → Sem Fin) (gd lv) :
    (m >>= f).wrap K H gd lv = m.wrap (fun a => (f a).wrap K H gd lv) H gd lv := by
  rw [Sem.bind_eq_wrap', Sem.wrap_wrap]; rfl
theorem segB_bindw {α β : Type} {m : Sem α} {f : α → Sem β} {K : β → Sem Fin} {H : Value → Sem Fin} {gd lv}
    (h : wpB true M (A.over c fs) m (fun a s' => SegB M A D U cs s₀ c ((f a).wrap K H gd lv) fs s') NE s) : SegB M A D U cs s₀ c ((m >>= f).wrap K H gd lv) fs s := by
  rw [bind_wrap]; exact segB_wrap h
theorem segB_at {p' : Pos} {k : Unit → Sem Fin} (h : SegB M A D U cs s₀ c (k ()) fs s) : SegB M A D U cs s₀ c (.at p' k) fs s :=
  segB_wrap (m := standAt p') (K := k) (H := .raise) (gd := id) (lv := id) (wpB_standAt h)
theorem segB_point {l : List Value} {k : Unit → Sem Fin} (h : SegB M A D U cs s₀ c (k ()) fs s) : SegB M A D U cs s₀ c (.point l k) fs s :=
  segB_wrap (m := point) (K := k) (H := .raise) (gd := id) (lv := fun _ => l) (wpB_point h)
theorem segB_call {c' : Code} {h g l} {k : Result → Sem Fin} (hf : isHold c' = false) (hc : ∀ p, SegB M A D U cs s₀ c' (M.den c') (.ret k h g l c p [] :: fs) s) :
    SegB M A D U cs s₀ c (.call c' h g l k) fs s := by
  rw [segB_iff]
  rintro Γ p rfl hΓ hF
  obtain ⟨e, s', hr, he⟩ := segB_iff.mp (hc p) (Γ.goto c') p rfl (hΓ.goto c') (hF.push hf)
  exact ⟨e, s', runs_call_seg hr, he⟩
theorem segB_leaf {k h g l c₁ p₁ kp} (r : Result) (hk : SegB M A D U cs s₀ c₁ (k r) fs s) : SegB M A D U cs s₀ c (leafOf r) (.ret k h g l c₁ p₁ kp :: fs) s := by
  rw [segB_iff]
  rintro Γ p rfl hΓ hF
  obtain ⟨e, s', hr, he⟩ := segB_iff.mp hk (Γ.goto c₁) p₁ rfl (hΓ.goto c₁) hF.pop
  exact ⟨e, s', Runs.pop r hr, he⟩
theorem segB_again {c' : Code} (hq : c'.quiet = true) (hf : isHold c' = false) (hc : SegB M A D U cs s₀ c' (M.den c') fs s) : SegB M A D U cs s₀ c (.pure (.again c')) fs s := by
  rw [segB_iff]
  rintro Γ p rfl hΓ hF
  obtain ⟨e, s', hr, he⟩ := segB_iff.mp hc (Γ.goto c') p rfl (hΓ.goto c') (hF.swap hf)
  exact ⟨e, s', Runs.head (c₁ := c') (fun _ _ x => .again hq x) hr, he⟩
theorem segB_end (h : D s₀ s) : SegB M A D U [] s₀ c (leafOf (.ok (.ret .none))) [] s := by
  rw [segB_iff]
  rintro Γ p rfl _ _
  exact ⟨.ret (.ok (.ret .none)), s, Runs.leaf _, rfl, h⟩
theorem segB_yield {x : Array UInt8} {t : Tok} {g l} {k : Resume → Sem Fin} (hfs : splitAtGen fs = none) (hg : g = false) (hfg : fs.any Frame.guarded = false)
    (hD : D s₀ s) (h : ∀ s'', U s s'' → SegB M A D U cs s'' c (k (.send .none)) fs s'') : SegB M A D U (x :: cs) s₀ c (.yield (.bytes x t) g l k) fs s := by
  rw [segB_iff]
  rintro Γ p rfl _ hF
  exact ⟨_, s, Runs.yield' fs hfs, t, _, _, _, _, _, _, rfl, by simp [End.quiet, hg, hfg], hF.of_over, hD, h⟩

variable {K : Flow → Sem Fin} {H : Value → Sem Fin} {gd : Bool → Bool} {lv : List Value → List Value}
theorem segB_execs_nil (h : SegB M A D U cs s₀ c (K .next) fs s) : SegB M A D U cs s₀ c ((execs [] env).wrap K H gd lv) fs s := h
theorem segB_execs_cons {st : Stmt} {rest : List Stmt}
    (h : SegB M A D U cs s₀ c ((exec st env).wrap (fun f => match f with | .next => (execs rest env).wrap K H gd lv | f => K f) H gd lv) fs s) :
    SegB M A D U cs s₀ c ((execs (st :: rest) env).wrap K H gd lv) fs s := by rw [execs_cons_wrap]; exact h
/-- a statement that does not stop -/
theorem segB_stmt {st : Stmt} {rest : List Stmt}
    (h : wpB true M (A.over c fs) (exec st env) (fun f s' => f = .next ∧ SegB M A D U cs s₀ c ((execs rest env).wrap K H gd lv) fs s') NE s) :
    SegB M A D U cs s₀ c ((execs (st :: rest) env).wrap K H gd lv) fs s :=
  segB_execs_cons (segB_wrap (wpB_mono h (fun f s' ⟨e, h'⟩ => by subst e; exact h') fun _ _ x => x))
theorem segB_If {test : Expr} {body orelse : List Stmt} {pos : Pos}
    (h : wpB true M (A.over c fs) (isTrue test env (eval test env)) (fun d s' => if d = true then SegB M A D U cs s₀ c ((execs body env).wrap K H gd lv) fs s' else SegB M A D U cs s₀ c ((execs orelse env).wrap K H gd lv) fs s') NE s) :
    SegB M A D U cs s₀ c ((exec (.If test body orelse pos) env).wrap K H gd lv) fs s := by
  rw [exec_If]
  refine segB_bindw (wpB_standAt (segB_bindw (wpB_mono h (fun d s' h' => ?_) fun _ _ x => x)))
  cases d <;> exact h'
theorem segB_Yield {x : Array UInt8} {e : Expr} {ypos pos : Pos} (hfs : splitAtGen fs = none) (hgd : gd false = false) (hfg : fs.any Frame.guarded = false)
    (h : wpB true M (A.over c fs) (eval e env) (fun v s' => ∃ t, v = .bytes x t ∧ D s₀ s' ∧ ∀ s'', U s' s'' → SegB M A D U cs s'' c (K .next) fs s'') NE s)
    (hco : env.scope.isCoroutine = false := by rfl) (hi : interactive env = false := by rfl) :
    SegB M A D U (x :: cs) s₀ c ((exec (.Expr (.Yield (some e) ypos) pos) env).wrap K H gd lv) fs s := by
  rw [exec_Expr env _ pos hi rfl]
  show SegB M A D U (x :: cs) s₀ c (.at pos fun _ => ((eval e env >>= fun v => (standAt ypos >>= fun _ => yieldOut env v)) >>= fun x =>
    dropValue (.Yield (some e) ypos) pos x).wrap K H gd lv) fs s
  have hy : ∀ v, yieldOut env v = yieldValue v := fun v => by simp only [yieldOut, hco, Bool.false_eq_true, if_false]
  simp only [hy]
  refine segB_at ?_
  rw [Sem.bind_eq_wrap', Sem.bind_eq_wrap', Sem.wrap_wrap, Sem.wrap_wrap]
  refine segB_wrap (wpB_mono h (fun v s' h' => ?_) fun _ _ x => x)
  obtain ⟨t, rfl, hD, h'⟩ := h'
  exact segB_at (segB_yield hfs hgd hfg hD h')
/-- what a frame over the loop hands on -/
def Back (M : Model) (A : Around) (D U : Shared → Shared → Prop) (c : Code) (K : Flow → Sem Fin) (fs : List Frame) (_lc : Code) (fl : List Frame) : Prop :=
  (∀ lc cs s₀ s f, SegB M A D U cs s₀ c (K f) fs s → SegB M A D U cs s₀ lc (.pure (.done f)) fl s) ∧
  (splitAtGen fs = none → splitAtGen fl = none) ∧ (gd false = false → fs.any Frame.guarded = false → fl.any Frame.guarded = false) ∧ ∃ k p, fl = .ret k none (gd false) (lv []) c p [] :: fs
theorem segB_runOwn {lc : Code} (hf : isHold lc = false)
    (h : ∀ fl, Back (gd := gd) (lv := lv) M A D U c K fs lc fl → SegB M A D U cs s₀ lc (M.den lc) fl s) : SegB M A D U cs s₀ c ((runOwn lc env none).wrap K H gd lv) fs s := by
  refine segB_call hf fun p => h _ ⟨fun lc cs s₀ s f hk => ?_, fun hs => ?_, fun hg hs => ?_, ⟨_, _, rfl⟩⟩
  · exact segB_leaf (.ok f) hk
  · show (splitAtGen fs).map _ = none
    rw [hs]; rfl
  · rw [List.any_cons, hs]
    show (gd false || false) = false
    rw [hg]; rfl
theorem segB_While {test : Expr} {body orelse : List Stmt} {pos : Pos}
    (h : ∀ fl, Back (gd := gd) (lv := lv) M A D U c K fs (.whileLoop test body orelse env) fl → SegB M A D U cs s₀ (.whileLoop test body orelse env) (M.den (.whileLoop test body orelse env)) fl s) :
    SegB M A D U cs s₀ c ((exec (.While test body orelse pos) env).wrap K H gd lv) fs s := by
  rw [exec_While]
  exact segB_bindw (wpB_standAt (segB_runOwn rfl h))
theorem segB_For {target iter : Expr} {body orelse : List Stmt} {pos : Pos} (hs : ∀ x, foldedSetIterable iter env x = pure x := by intro _; rfl)
    (h : wpAny M (A.over c fs) (eval iter env) (fun x s₁ => wpAny M (A.over c fs) (pyIter x) (fun it s₂ => ∀ fl, Back (gd := gd) (lv := lv) M A D U c K fs (.forLoop target it body orelse env) fl →
      SegB M A D U cs s₀ (.forLoop target it body orelse env) (M.den (.forLoop target it body orelse env)) fl s₂) NE s₁) NE s) :
    SegB M A D U cs s₀ c ((exec (.For target iter body orelse pos) env).wrap K H gd lv) fs s := by
  rw [exec_For]
  refine segB_bindw (wpB_standAt (segB_bindw (wpB_any (wpAny_mono h (fun x s₁ h₁ => ?_) fun _ _ x => x))))
  refine segB_bindw (wpB_eq (hs x) (segB_bindw (wpB_standAt (segB_bindw (wpB_holding (wpB_any (wpAny_mono h₁ (fun it s₂ h₂ => ?_) fun _ _ x => x)))))))
  exact segB_runOwn rfl h₂
end

section
variable {prog : Program} {w : World} {A : Around} {D U : Shared → Shared → Prop} {cs : List (Array UInt8)} {s₀ : Shared} {fs : List Frame} {s : Shared} {env : Env}
theorem segB_loop {lc : Code} (hq : lc.quiet = true) (hf : isHold lc = false) (I : Nat → List (Array UInt8) → Shared → Shared → Prop)
    (turn : ∀ n cs s₀ s, I n cs s₀ s → (∀ m cs' s₀' s', m < n → I m cs' s₀' s' → SegB (model prog w) A D U cs' s₀' lc (.pure (.again lc)) fs s') →
      SegB (model prog w) A D U cs s₀ lc ((model prog w).den lc) fs s)
    (n : Nat) (h : I n cs s₀ s) : SegB (model prog w) A D U cs s₀ lc ((model prog w).den lc) fs s := by
  induction n using Nat.strongRecOn generalizing cs s₀ s with
  | ind n ih => exact turn n cs s₀ s h fun m cs' s₀' s' hm hI => segB_again hq hf (ih m hm hI)
/-- a loop's turn: the body, and what stands behind it -/
abbrev loopK (lc : Code) : Flow → Sem Fin := fun f => match f with
  | .next | .cont => .pure (.again lc)
  | .brk => .pure (.done .next)
  | .ret v => .pure (.done (.ret v))
abbrev loopH (env : Env) : Value → Sem Fin := fun e => (do noteFrame e env; theTreesLotGoes e : Sem Unit).wrap (fun _ => .raise e) .raise id id
/-- the loop's body in a tree whose ends are those of the loop -/
theorem body_wrap {M : Model} {lc c : Code} {body : List Stmt} {K : Flow → Sem Fin} (hK : ∀ f, K f = loopK lc f)
    (h : SegB M A D U cs s₀ c ((execs body env).wrap (loopK lc) (loopH env) id id) fs s) :
    SegB M A D U cs s₀ c ((execs body env).wrap K (fun e => (do noteFrame e env; theTreesLotGoes e : Sem Unit).bind fun _ => .raise e) id id) fs s :=
  Sem.wrap_congr (execs body env) id id hK (fun _ => Sem.bind_eq_wrap _ _) ▸ h
theorem segB_whileTurn {test : Expr} {body : List Stmt}
    (h : wpB true (model prog w) (A.over (.whileLoop test body [] env) fs) (isTrue test env (eval test env)) (fun b s' =>
        if b = true then SegB (model prog w) A D U cs s₀ (.whileLoop test body [] env) ((execs body env).wrap (loopK (.whileLoop test body [] env)) (loopH env) id id) fs s'
        else SegB (model prog w) A D U cs s₀ (.whileLoop test body [] env) (.pure (.done .next)) fs s') NE s) :
    SegB (model prog w) A D U cs s₀ (.whileLoop test body [] env) ((model prog w).den (.whileLoop test body [] env)) fs s := by
  show SegB _ A D U cs s₀ _ ((whileTurn test body [] env).onRaise (fun x => do noteFrame x env; theTreesLotGoes x)) fs s
  unfold whileTurn
  rw [Sem.onRaise_eq_wrap]
  refine segB_bindw (wpB_mono h (fun b s' hb => ?_) fun _ _ x => x)
  cases b with
  | true =>
    rw [if_pos rfl] at hb
    show SegB _ A D U cs s₀ _ (Sem.wrap _ _ _ _ (if true = true then _ else _)) fs s'
    rw [if_pos rfl, bind_wrap]
    exact body_wrap (fun f => by cases f <;> rfl) hb
  | false => exact hb
theorem segB_forTurn {target : Expr} {it : Value} {body : List Stmt}
    (h : wpAny (model prog w) (A.over (.forLoop target it body [] env) fs) (pyNext it) (fun r s₁ => match r with
      | none => SegB (model prog w) A D U cs s₀ (.block [] env) (.pure (.done .next)) fs s₁
      | some v => wpAny (model prog w) (A.over (.forLoop target it body [] env) fs) (letOwnedTupleGo target it v) (fun _ s₁ => wpAny (model prog w) (A.over (.forLoop target it body [] env) fs) (assign target env v) (fun _ s₂ =>
          SegB (model prog w) A D U cs s₀ (.forLoop target it body [] env) ((execs body env).wrap (loopK (.forLoop target it body [] env)) (loopH env) id id) fs s₂) NE s₁) NE s₁) NE s) :
    SegB (model prog w) A D U cs s₀ (.forLoop target it body [] env) ((model prog w).den (.forLoop target it body [] env)) fs s := by
  show SegB _ A D U cs s₀ _ ((forTurn target it body [] env).onRaise (fun x => do noteFrame x env; theTreesLotGoes x)) fs s
  unfold forTurn
  rw [Sem.onRaise_eq_wrap]
  refine segB_bindw (wpB_standAt (segB_bindw (wpB_onRaise (wpB_any (wpAny_mono h (fun r s₁ h₁ => ?_) fun _ _ x => x.elim)))))
  cases r with
  | none =>
    refine segB_again (c' := .block [] env) rfl rfl ?_
    exact h₁
  | some v =>
    refine segB_bindw (wpB_any (wpAny_mono h₁ (fun _ s₁ h₁ => segB_bindw (wpB_any (wpAny_mono h₁ (fun _ s₂ h₂ => ?_) fun _ _ x => x))) fun _ _ x => x))
    rw [bind_wrap]
    exact body_wrap (fun f => by cases f <;> rfl) h₂
/-- a frame's tree: the body, and the two ways out of it -/
abbrev frameK : Flow → Sem Fin := fun f => .pure (.done (.ret (match f with | .ret v => v | _ => .none)))
abbrev frameH (env : Env) : Value → Sem Fin := fun e => (leaving env e).wrap (fun _ => .raise e) .raise id id
theorem frame_tree (body : List Stmt) (k : Flow → Sem Fin) (hk : ∀ f, k f = frameK f) : ((execs body env).onRaise (leaving env)).bind k = (execs body env).wrap frameK (frameH env) id id := by
  rw [Sem.onRaise_eq_wrap]
  refine (Sem.bind_eq_wrap _ _).trans ((Sem.wrap_wrap ..).trans (Sem.wrap_congr _ id id (fun f => hk f) fun e => ?_))
  rw [Sem.bind_eq_wrap, Sem.wrap_wrap]; rfl
theorem segB_func {body : List Stmt} (h : SegB (model prog w) A D U cs s₀ (.func body env) ((execs body env).wrap frameK (frameH env) id id) fs s) :
    SegB (model prog w) A D U cs s₀ (.func body env) ((model prog w).den (.func body env)) fs s := by
  refine segB_point ?_
  show SegB _ A D U cs s₀ _ (((execs body env).onRaise (leaving env)).bind fun f => match f with | .ret v => ret v | _ => ret .none) fs s
  rw [frame_tree body _ fun f => by cases f <;> rfl]
  exact h
end
end
section
open PySem PySem.W PySem.Calls PyProof.Rows
open PySem.Sem (wp)

/-- a generator's state from which the octets come -/
def GoesB (M : Model) (A : Around) (D U : Shared → Shared → Prop) (cs : List (Array UInt8)) : GenState → Shared → Prop
  | .fresh c => fun s => isHold c = false ∧ SegB M A D U cs s c (M.den c) [] s
  | .suspended k _ c _ fs _ => fun s => (isHold c = false ∧ FreeFs fs) ∧ SegB M A D U cs s c (k (.send .none)) fs s
  | _ => fun _ => False

theorem HF.wakeOver {Γ : Ctx} (h : HF Γ) {c : Code} (hc : isHold c = false) (p : Pos) {fs : List Frame} (hf : FreeFs fs) : HF ((Γ.wake c p).over fs) := (h.wake hc p).over hf

section
variable {M : Model} {A : Around} {D U : Shared → Shared → Prop} {cs : List (Array UInt8)} {E : Value → Shared → Prop} {s : Shared}
theorem wpB_resume {g : Nat} {gs : GenState} {l : List Value} {α : Type} {k : GenResult → Sem α} {Q : α → Shared → Prop} (hg : s.gens[g]? = some gs)
    (hgo : GoesB M A D U cs gs (s.setGen g .running))
    (h : match cs with
      | [] => ∀ s₁, D (s.setGen g .running) s₁ → wpB true M A (k (.returned .none)) Q E (s₁.setGen g .finished)
      | x :: cs => ∀ t s₁ gs', D (s.setGen g .running) s₁ → (∀ s'', U s₁ s'' → GoesB M A D U cs gs' s'') → wpB true M A (k (.yielded (.bytes x t))) Q E (s₁.setGen g gs')) :
    wpB true M A (.resume g (.send .none) l k) Q E s := by
  intro Γ p hΓ hF
  have hF := hF rfl
  rw [Sem.wp_resume]
  have fin : ∀ e₁ s₁, EndB D U (SegB.next M A D U cs) cs (s.setGen g .running) e₁ s₁ →
      wp M Γ (k e₁.result) (fun a _ s' => Q a s') (fun e _ s' => E e s') p (s₁.setGen g e₁.genState) := by
    intro e₁ s₁ he
    cases cs with
    | nil =>
      obtain ⟨rfl, hD⟩ := he
      exact h s₁ hD Γ p hΓ fun _ => hF
    | cons x cs =>
      obtain ⟨t, g₀, l₀, k₀, c₀, p₀, fs₀, rfl, hq, hf, hD, hU⟩ := he
      exact h t s₁ (End.susp (.bytes x t) g₀ l₀ k₀ c₀ p₀ fs₀).genState hD (fun s'' hu => id (α := (isHold c₀ = false ∧ FreeFs fs₀) ∧ SegB M A D U cs s'' c₀ (k₀ (.send .none)) fs₀ s'') ⟨hf, hU s'' hu⟩) Γ p hΓ fun _ => hF
  have hqt : ∀ e₁ s₁, EndB D U (SegB.next M A D U cs) cs (s.setGen g .running) e₁ s₁ → e₁.quiet = true := by
    intro e₁ s₁ he
    cases cs with
    | nil =>
      obtain ⟨rfl, hD⟩ := he
      rfl
    | cons x cs =>
      obtain ⟨t, g₀, l₀, k₀, c₀, p₀, fs₀, rfl, hq, _⟩ := he
      exact hq
  cases gs with
  | fresh c =>
    obtain ⟨hc, hs⟩ := hgo
    obtain ⟨e₁, s₁, hr, he⟩ := segB_iff.mp hs (Γ.wake c p) p rfl (hΓ.wake c p) (hF.wakeOver hc p fun _ hx => nomatch hx)
    exact ⟨_, _, by unfold Wakes; rw [hg]; exact ⟨e₁, s₁, hr, hqt e₁ s₁ he, rfl, rfl⟩, fin e₁ s₁ he⟩
  | suspended k₀ l₀ c₀ p₀ fs₀ cl =>
    obtain ⟨hc, hgo⟩ := hgo
    obtain ⟨e₁, s₁, hr, he⟩ := segB_iff.mp hgo (Γ.wake c₀ p) p₀ rfl (hΓ.wake c₀ p) (hF.wakeOver hc.1 p hc.2)
    exact ⟨_, _, by unfold Wakes; rw [hg]; exact ⟨e₁, s₁, hr, hqt e₁ s₁ he, rfl, rfl⟩, fin e₁ s₁ he⟩
  | running => exact hgo.elim
  | finished => exact hgo.elim
end

section
variable {prog : Program} {w : World} {A : Around} {D U : Shared → Shared → Prop} {cs : List (Array UInt8)} {E : Value → Shared → Prop} {s : Shared}
/-- a new StopIteration: two objects more, no token -/
theorem newStop {Q : Value → Shared → Prop} (h : ∀ h' e, (∀ b o, s.heap.get? b = some o → h'.get? b = some o) → Shared.TypeIs { s with heap := h' } (.ref e) "StopIteration" → Q (.ref e) { s with heap := h' }) :
    wpAny (model prog w) A (newExc (.type "StopIteration") []) Q E s := by
  have two : ∀ o₁ o₂ b o, s.heap.get? b = some o → ((s.heap.push o₁).push o₂).get? b = some o := fun o₁ o₂ b o e => Heap.get?_push_of_some o₂ (Heap.get?_push_of_some o₁ e)
  have none1 : firstArgMember (.type "StopIteration") [] = pure Value.none := by first | rfl | (unfold firstArgMember; rfl)
  unfold newExc newTuple
  refine wpAny_bind (wpAny_newObj_type (wpAny_bind (m := firstArgMember _ _) (wpAny_of_eq none1 (wpAny_newObj_type (h _ _ (two _ _) ⟨_, Heap.get?_push_size _ rfl, rfl⟩) ?_))) ?_) <;> size_fits
theorem wpB_pyNext_gen {a : Addr} {g : Nat} {gs : GenState} {Q : Option Value → Shared → Prop} (hh : A.handled = none)
    (hl : s.heap.NoLimit) (hroom : A.depth < recursionLimit) (hg : s.heap.IsGen a g) (hgs : s.gens[g]? = some gs)
    (hgo : GoesB (model prog w) A.in1 D U cs gs (s.setGen g .running))
    (h : match cs with
      | [] => ∀ s₁, D (s.setGen g .running) s₁ → ∀ h', (∀ b o, s₁.heap.get? b = some o → h'.get? b = some o) → Q none { s₁.setGen g .finished with heap := h' }
      | x :: cs => ∀ t s₁ gs', D (s.setGen g .running) s₁ → (∀ s'', U s₁ s'' → GoesB (model prog w) A.in1 D U cs gs' s'') → Q (some (.bytes x t)) (s₁.setGen g gs')) :
    wpB true (model prog w) A (pyNext (.ref a)) Q E s := by
  unfold pyNext
  refine wpB_bind (wpB_attempt (wpB_callSpecial (name := Str.ofString "__next__") hg.typeIs slot_gen_next
    (wpB_call (codeB_call_builtin slot_gen_next.plain (by decide +kernel) entry_gen_next (slot_gen_next.check _ _ _ _ _ _ _ _ hg.typeIs (args_gen_next _) ?_)))))
  show wpB true _ _ (Builtin.Generator.genWake (.ref a) (.send .none)) _ _ s
  unfold Builtin.Generator.genWake
  refine wpB_bind (wpB_holding (wpB_any (wpAny_genNumber hg ?_)))
  refine wpB_step (wpAny_genState hgs ?_)
  cases gs with
  | running => exact hgo.elim
  | finished => exact hgo.elim
  | _ =>
    refine wpB_step (wpAny_roomToWake hl hroom ?_)
    show wpB true _ _ (.resume g (.send .none) [] _) _ _ s
    refine wpB_resume hgs hgo ?_
    cases cs with
    | nil =>
      intro s₁ hD
      refine wpB_any ?_
      show wpAny _ _ (newExc (.type "StopIteration") [] >>= _) _ _ _
      refine wpAny_bind (newStop fun h' e k he => wpAny_bind (wpAny_raiseNew_none hh ?_))
      exact wpB_step (wpAny_isInstance (T := "StopIteration") (b := true) he isSubtype_stop (wpB_pure (h s₁ hD h' k)))
    | cons x cs =>
      intro t s₁ gs' hD hU
      refine wpB_pure (wpB_pure ?_)
      exact h t s₁ gs' hD hU
end
end
section
open PySem PySem.W PySem.Calls PyProof.Rows

def bytesOf : Value → Option (Array UInt8)
  | .bytes x _ => some x
  | _ => none
def BytesL (vs : List Value) (xs : List (Array UInt8)) : Prop := vs.map bytesOf = xs.map some
theorem BytesL.nil : BytesL [] [] := rfl
theorem BytesL.push {vs : List Value} {xs : List (Array UInt8)} (h : BytesL vs xs) (x : Array UInt8) (t : Tok) : BytesL (vs ++ [.bytes x t]) (xs ++ [x]) := by
  unfold BytesL at h ⊢
  rw [List.map_append, List.map_append, h]; rfl

/-- what the generator's stretch leaves -/
def GD (hb : Heap) (S Ga : Addr) (go : Obj) (s₀ s' : Shared) : Prop :=
  ∃ h' tk, s' = { s₀ with heap := h', toks := tk } ∧ (∀ b o, hb.get? b = some o → h'.get? b = some o) ∧ h'.get? S = s₀.heap.get? S ∧ h'.get? Ga = some go
/-- what the list's maker may change meanwhile -/
def GU (S : Addr) (s' s'' : Shared) : Prop :=
  ∃ h'' tk gs o, s'' = ⟨h'', gs, s'.drawn, tk, s'.os⟩ ∧ Heap.SameBut S s'.heap h'' ∧ h''.get? S = some o

abbrev lsObj (acc : Array Value) (c : Nat) : Obj := { cls := .type "list", dict := none, data := .seq acc c, slots := #[] }

section
variable {prog : Program} {w : World} {A : Around} {E : Value → Shared → Prop} {s : Shared} {R : Result → Shared → Prop}

theorem codeB_extend_gen {hb : Heap} {S Ga : Addr} {g : Nat} {go : Obj} {res : Value} (hne : S ≠ Ga) (hSb : hb.get? S = none) (hh : A.handled = none) (hroom : A.depth < recursionLimit) (hlim : hb.NoLimit)
    (hgen : ∀ h : Heap, h.get? Ga = some go → h.IsGen Ga g) (all : List (Array UInt8)) (hall : all.length < 16777216) (G₀ : Array GenState) (dr : Drawn) (os : OsState)
    (hR : ∀ h' tk acc c, (∀ b o, hb.get? b = some o → h'.get? b = some o) → h'.get? S = some (lsObj acc c) → BytesL acc.toList all → h'.get? Ga = some go → R (.ok (.ret res)) ⟨h', G₀.setIfInBounds g .finished, dr, tk, os⟩) :
    ∀ (cs done : List (Array UInt8)) (h : Heap) (tk : Nat) (G : Array GenState) (acc : Array Value) (c : Nat) (gs : GenState), done ++ cs = all → BytesL acc.toList done →
      (∀ b o, hb.get? b = some o → h.get? b = some o) → h.get? S = some (lsObj acc c) → h.get? Ga = some go → G[g]? = some gs → (∀ x, G.setIfInBounds g x = G₀.setIfInBounds g x) →
      (∀ s'', GU S ⟨h, G, dr, tk, os⟩ s'' → GoesB (model prog w) A.in1.in1 (GD hb S Ga go) (GU S) cs gs s'') →
      codeB true (model prog w) A (.builtin "list.extend.loop" ⟨[.ref S, .ref Ga, res], []⟩) R ⟨h, G, dr, tk, os⟩ := by
  intro cs
  induction cs with
  | nil =>
    intro done h tk G acc c gs hd ha hk hS hGa hg hG hgo
    refine codeB_builtin F.entry_extend_loop ?_
    rw [Around.under_plainId F.plain_extend_loop _]
    show wpB true _ A.in1 (pyNext (.ref Ga) >>= _) _ _ _
    refine wpB_bind (wpB_pyNext_gen (D := GD hb S Ga go) (U := GU S) (cs := []) hh (hlim.keeps hk) hroom (hgen h hGa) hg (hgo _ ⟨h, tk, _, _, rfl, .refl _ _, hS⟩) ?_)
    intro s₁ hD h' hk'
    obtain ⟨h1, tk1, rfl, k1, k2, k3⟩ := hD
    refine wpB_pure ?_
    have := hR h' tk1 acc c (fun b o e => hk' _ _ (k1 b o e)) (hk' _ _ (k2.trans hS)) (by rw [← hd, List.append_nil]; exact ha) (hk' _ _ k3)
    rw [← hG] at this
    show R _ (⟨h', (G.setIfInBounds g .running).setIfInBounds g .finished, dr, tk1, os⟩ : Shared)
    rw [show (G.setIfInBounds g .running).setIfInBounds g .finished = G.setIfInBounds g .finished from by simp]
    exact this
  | cons x cs ih =>
    intro done h tk G acc c gs hd ha hk hS hGa hg hG hgo
    refine codeB_builtin F.entry_extend_loop ?_
    rw [Around.under_plainId F.plain_extend_loop _]
    show wpB true _ A.in1 (pyNext (.ref Ga) >>= _) _ _ _
    refine wpB_bind (wpB_pyNext_gen (D := GD hb S Ga go) (U := GU S) (cs := x :: cs) hh (hlim.keeps hk) hroom (hgen h hGa) hg (hgo _ ⟨h, tk, _, _, rfl, .refl _ _, hS⟩) ?_)
    intro t s₁ gs' hD hU
    obtain ⟨h1, tk1, rfl, k1, k2, k3⟩ := hD
    have hS1 : h1.get? S = some (lsObj acc c) := k2.trans hS
    have hlen : acc.size = done.length := by
      have := congrArg List.length ha
      simpa using this
    have hdl : done.length < all.length := by rw [← hd, List.length_append, List.length_cons]; omega
    have hgl : g < G.size := (Array.getElem?_eq_some_iff.mp hg).1
    show wpB true _ A.in1 (updateSeq S (·.push (.bytes x t)) >>= _) _ _ _
    refine wpB_step (wpAny_updateSeq hS1 rfl ?_ (by rw [sizeLine_eq, hlen]; omega) (by show (acc.push _).size ≤ sizeLine + 1; rw [Array.size_push, sizeLine_eq, hlen]; omega))
    refine wpB_pure ⟨plainId_quiet F.plain_extend_loop _, (by show holdIds.contains "list.extend.loop" = false; decide +kernel), ?_⟩
    refine ih (done ++ [x]) _ _ _ _ _ gs' (by rw [List.append_assoc]; exact hd) (by rw [Array.toList_push]; exact ha.push x t) (fun b o e => ?_) (Heap.get?_update_self _ hS1 rfl) ?_ ?_ ?_ ?_
    · exact (Heap.get?_update_other _ _ (fun q => by subst q; rw [hSb] at e; cases e)).trans (k1 b o e)
    · exact (Heap.get?_update_other _ _ hne).trans k3
    · show (((G.setIfInBounds g .running)).setIfInBounds g gs')[g]? = some gs'
      simp [hgl]
    · intro y
      show (((G.setIfInBounds g .running)).setIfInBounds g gs').setIfInBounds g y = _
      rw [← hG]; simp
    · rintro s'' ⟨h2, tk2, G2, o, rfl, hs, ho⟩
      exact hU _ ⟨h2, tk2, G2, o, rfl, (Heap.SameBut.update _ _ _).trans hs, ho⟩

theorem code_list_initB {hb : Heap} {S Ga : Addr} {g : Nat} {go : Obj} {gs : GenState} {cs : List (Array UInt8)} (hne : S ≠ Ga) (hSb : hb.get? S = none) (hh : A.handled = none) (hroom : A.depth < recursionLimit) (hlim : hb.NoLimit)
    (hgen : ∀ h : Heap, h.get? Ga = some go → h.IsGen Ga g) (hall : cs.length < 16777216)
    (hk : ∀ b o, hb.get? b = some o → s.heap.get? b = some o) (hS : s.heap.get? S = some { cls := .type "list", data := .seq #[] }) (hGa : s.heap.get? Ga = some go) (hg : s.gens[g]? = some gs)
    (hgo : ∀ s'', GU S s s'' → GoesB (model prog w) A.in1.in1 (GD hb S Ga go) (GU S) cs gs s'')
    (hR : ∀ h' tk acc c, (∀ b o, hb.get? b = some o → h'.get? b = some o) → h'.get? S = some (lsObj acc c) → BytesL acc.toList cs → h'.get? Ga = some go → R (.ok (.ret .none)) ⟨h', s.gens.setIfInBounds g .finished, s.drawn, tk, s.os⟩) :
    codeB true (model prog w) A (.call (.builtin "list.__init__") ⟨[.ref S, .ref Ga], []⟩) R s := by
  have hT : s.TypeIs (.ref S) "list" := ⟨_, hS, rfl⟩
  obtain ⟨hp, G, dr, tk, os⟩ := s
  dsimp only at hk hS hGa hg hgo hR
  refine codeB_call_builtin F.called_list.init.plain (by decide +kernel) F.entry_list_init (F.called_list.init.check _ _ _ _ _ _ _ _ hT (F.args_list_init_2 _ _) ?_)
  show wpB true _ A.in1 (do let old ← Builtin.List.listItems (.ref S); Builtin.List.listUpdate (.ref S) (fun _ => #[]); letGo old.toList.reverse; Builtin.List.listExtendWith (.ref S) (.ref Ga) .none) _ _ _
  refine wpB_step ?_
  unfold Builtin.List.listItems
  refine wpAny_bind (wpAny_seqItems hS rfl (wpAny_pure ?_))
  show wpB true _ A.in1 (updateSeq S (fun _ => #[]) >>= fun _ => letGo (#[] : Array Value).toList.reverse >>= fun _ => Builtin.List.listExtendWith (.ref S) (.ref Ga) .none) _ _ _
  refine wpB_step (wpAny_updateSeq hS rfl ?_)
  have hS₂ := Heap.get?_update_self (Obj.mapSeq (fun _ => (#[] : Array Value))) hS rfl
  have oth : ∀ b o, b ≠ S → hp.get? b = some o → (hp.update S (Obj.mapSeq (fun _ => (#[] : Array Value)))).get? b = some o :=
    fun b o hb e => (Heap.get?_update_other _ _ (Ne.symm hb)).trans e
  have sb₂ : Heap.SameBut S hp (hp.update S (Obj.mapSeq (fun _ => (#[] : Array Value)))) := Heap.SameBut.update _ _ _
  refine wpB_step (wpAny_letGo ?_)
  dsimp only
  generalize hp.update S (Obj.mapSeq (fun _ => (#[] : Array Value))) = h2 at hS₂ oth sb₂ ⊢
  have hne' : Ga ≠ S := Ne.symm hne
  have hGen2 : h2.IsGen Ga g := hgen _ (oth _ _ hne' hGa)
  have hT2 : ({ heap := h2, gens := G, drawn := dr, toks := tk, os := os } : Shared).TypeIs (.ref Ga) "generator" := hGen2.typeIs
  unfold Builtin.List.listExtendWith
  refine wpB_step (wpAny_typeOf hT2 ?_)
  have h1 : Builtin.List.listSameRef (.ref S) (.ref Ga) = false := by simp [Builtin.List.listSameRef, hne]
  have h2' : (Value.type "generator" == Value.type "list") = false := by decide
  have h3 : (Value.type "generator" == Value.type "tuple") = false := by decide
  simp only [h1, h2', h3, Bool.or_false, Bool.false_eq_true, if_false]
  refine wpB_step (wpAny_pyIter_gen hGen2 ?_)
  refine wpB_step (wpAny_holding ?_)
  unfold Builtin.List.listLengthHint
  refine wpAny_bind (wpAny_specialOf hT2 F.gen_no_len ?_)
  show wpAny _ A.in1 (specialOf (Value.ref Ga) (Str.ofString "__length_hint__") >>= _) _ _ _
  refine wpAny_bind (wpAny_specialOf hT2 F.gen_no_hint ?_)
  refine wpAny_pure ?_
  show wpB true _ A.in1 (rule "list.extend.makes-room" >>= fun _ => Builtin.List.listTouch (.ref S) >>= fun _ =>
    again (.builtin "list.extend.loop" ⟨[.ref S, .ref Ga, .none], []⟩)) _ _ _
  refine wpB_step (wpAny_rule ?_)
  refine wpB_step ?_
  show wpAny _ A.in1 (updateSeq S (·.push .none) >>= fun _ => updateSeq S (·.pop)) _ _ _
  refine wpAny_bind (wpAny_updateSeq hS₂ rfl ?_)
  have hS₃ := Heap.get?_update_self (Obj.mapSeq (·.push Value.none)) hS₂ rfl
  refine wpAny_updateSeq (hz := by seq_fits) hS₃ rfl ?_
  have hS₄ := Heap.get?_update_self (Obj.mapSeq (·.pop)) hS₃ rfl
  have sb₄ : Heap.SameBut S h2 ((h2.update S (Obj.mapSeq (·.push Value.none))).update S (Obj.mapSeq (·.pop))) := (Heap.SameBut.update _ _ _).trans (Heap.SameBut.update _ _ _)
  refine wpB_pure ⟨plainId_quiet F.plain_extend_loop _, (by show holdIds.contains "list.extend.loop" = false; decide +kernel), ?_⟩
  have sb := sb₂.trans sb₄
  have keep : ∀ b o, b ≠ S → hp.get? b = some o → ((h2.update S (Obj.mapSeq (·.push Value.none))).update S (Obj.mapSeq (·.pop))).get? b = some o := fun b o q e => sb.extBut b o q e
  refine codeB_extend_gen hne hSb hh hroom hlim hgen cs hall G dr os hR cs [] _ _ G _ _ gs rfl BytesL.nil (fun b o e => keep b o (fun q => by subst q; rw [hSb] at e; cases e) (hk b o e)) hS₄ (keep _ _ hne' hGa) hg (fun _ => rfl) ?_
  rintro s'' ⟨h5, tk5, G5, o, rfl, hs, ho⟩
  exact hgo _ ⟨h5, tk5, G5, o, rfl, sb.trans hs, ho⟩

/-- list(a generator that gives octets) -/
theorem call_list_genB {Q : Value → Shared → Prop} {hb : Heap} {Ga : Addr} {g : Nat} {go : Obj} {gs : GenState} {cs : List (Array UInt8)} (hh : A.handled = none) (hroom : A.depth < recursionLimit) (hlim : hb.NoLimit)
    (hgen : ∀ h : Heap, h.get? Ga = some go → h.IsGen Ga g) (hall : cs.length < 16777216)
    (hk : ∀ b o, hb.get? b = some o → s.heap.get? b = some o) (hGa : s.heap.get? Ga = some go) (hg : s.gens[g]? = some gs)
    (hgo : ∀ s'', GU s.heap.objs.size { s with heap := s.heap.push { cls := .type "list", data := .seq #[] } } s'' → GoesB (model prog w) A.in1.in1.in1 (GD hb s.heap.objs.size Ga go) (GU s.heap.objs.size) cs gs s'')
    (hR : ∀ h' tk acc c, (∀ b o, hb.get? b = some o → h'.get? b = some o) → h'.get? s.heap.objs.size = some (lsObj acc c) → BytesL acc.toList cs → h'.get? Ga = some go →
      Q (.ref s.heap.objs.size) ⟨h', s.gens.setIfInBounds g .finished, s.drawn, tk, s.os⟩) :
    wpB true (model prog w) A (call (.type "list") [.ref Ga]) Q E s := by
  have hlt := Heap.lt_size hGa
  have hne : s.heap.objs.size ≠ Ga := Ne.symm (Nat.ne_of_lt hlt)
  have hSb : hb.get? s.heap.objs.size = none := by
    cases q : hb.get? s.heap.objs.size with
    | none => rfl
    | some o => exact absurd (Heap.lt_size (hk _ _ q)) (Nat.lt_irrefl _)
  refine callTypeB (Q₁ := fun obj s₁ => obj = .ref s.heap.objs.size ∧ s₁ = { s with heap := s.heap.push { cls := .type "list", data := .seq #[] } }) F.called_list (F.typeCall_list_1 _)
    (code_list_new _ ⟨rfl, rfl⟩) fun obj s₁ h₁ => ?_
  obtain ⟨rfl, rfl⟩ := h₁
  have hS : (s.heap.push { cls := .type "list", data := .seq #[] }).get? s.heap.objs.size = some { cls := .type "list", data := .seq #[] } := Heap.get?_push_size _ rfl
  refine ⟨⟨_, hS, rfl⟩, code_list_initB hne hSb hh hroom hlim hgen hall (fun b o e => Heap.get?_push_of_some _ (hk b o e)) hS (Heap.get?_push_of_some _ hGa) hg hgo fun h' tk acc c k1 k2 k3 k4 => ⟨rfl, hR h' tk acc c k1 k2 k3 k4⟩⟩
end
end
section
open PySem PySem.W PySem.Calls PyProof.Rows

def catB (xs : List (Array UInt8)) : Array UInt8 := (xs.flatMap Array.toList).toArray
theorem catB_nil : catB [] = #[] := rfl
theorem catB_cons (x : Array UInt8) (xs : List (Array UInt8)) : catB (x :: xs) = x ++ catB xs := by
  apply Array.ext'; simp [catB]
theorem catB_append (xs ys : List (Array UInt8)) : catB (xs ++ ys) = catB xs ++ catB ys := by
  apply Array.ext'; simp [catB]
theorem catB_size (xs : List (Array UInt8)) : (catB xs).size = (xs.map Array.size).sum := by
  induction xs with
  | nil => rfl
  | cons x xs ih => rw [catB_cons, Array.size_append, ih]; rfl
theorem joined_nil (xs : List (Array UInt8)) : Builtin.Bytes.joined #[] xs = catB xs := by
  unfold Builtin.Bytes.joined
  have key : ∀ (xs : List (Array UInt8)) (k : Nat) (acc : Array UInt8),
      (xs.zipIdx k).foldl (fun out (p : Array UInt8 × Nat) => (if p.2 > 0 then out ++ #[] else out) ++ p.1) acc = acc ++ catB xs := by
    intro xs
    induction xs with
    | nil => intro k acc; simp [catB]
    | cons x xs ih =>
      intro k acc
      rw [List.zipIdx_cons, List.foldl_cons, ih, catB_cons]
      simp
  have := key xs 0 #[]
  rw [Array.empty_append] at this
  rw [← this]
theorem sizes_foldl (xs : List (Array UInt8)) (k : Nat) : xs.foldl (fun n x => n + x.size) k = k + (catB xs).size := by
  rw [catB_size]
  induction xs generalizing k with
  | nil => rfl
  | cons x xs ih => rw [List.foldl_cons, ih, List.map_cons, List.sum_cons]; omega

section
variable {M : Model} {A : Around} {E : Value → Shared → Prop} {s : Shared}
theorem wpAny_forList {σ : Type} {f : Nat → σ → Sem (ForInStep σ)} {Q : σ → Shared → Prop} (I : Nat → σ → Shared → Prop) :
    ∀ (n a : Nat) (c : σ) (s : Shared), I a c s →
      (∀ i c s, a ≤ i → i < a + n → I i c s → wpAny M A (f i c) (fun r s' => ∃ c', r = .yield c' ∧ I (i + 1) c' s') E s) →
      (∀ c s, I (a + n) c s → Q c s) → wpAny M A (forIn (List.range' a n 1) c f) Q E s
  | 0, a, c, s, h, _, hQ => wpAny_pure (hQ c s h)
  | n + 1, a, c, s, h, step, hQ => by
    rw [List.range'_succ, List.forIn_cons]
    refine wpAny_bind (wpAny_mono (step a c s (Nat.le_refl _) (by omega) h) (fun r s' hr => ?_) fun _ _ x => x)
    obtain ⟨c', rfl, h'⟩ := hr
    exact wpAny_forList I n (a + 1) c' s' h' (fun i c s h1 h2 h3 => step i c s (by omega) (by omega) h3) fun c s h3 => hQ c s (by rw [show a + (n + 1) = a + 1 + n from by omega]; exact h3)
theorem wpAny_forRange {σ : Type} {n : Nat} {f : Nat → σ → Sem (ForInStep σ)} {Q : σ → Shared → Prop} (I : Nat → σ → Shared → Prop) (c : σ) (h : I 0 c s)
    (step : ∀ i c s, i < n → I i c s → wpAny M A (f i c) (fun r s' => ∃ c', r = .yield c' ∧ I (i + 1) c' s') E s) (hQ : ∀ c s, I n c s → Q c s) : wpAny M A (forIn [0:n] c f) Q E s := by
  rw [Std.Legacy.Range.forIn_eq_forIn_range']
  have hsz : ([0:n] : Std.Legacy.Range).size = n := by simp [Std.Legacy.Range.size]
  show wpAny M A (forIn (List.range' 0 ([0:n] : Std.Legacy.Range).size 1) c f) Q E s
  rw [hsz]
  exact wpAny_forList I n 0 c s h (fun i c s _ h2 h3 => step i c s (by omega) h3) fun c s h3 => hQ c s (by rw [Nat.zero_add] at h3; exact h3)

theorem take_bytes {id : String} {b : Array UInt8} {t : Tok} : Builtin.Bytes.takeBufferQuiet? id (.bytes b t) 0 = pure (some (b, none)) := by
  unfold Builtin.Bytes.takeBufferQuiet? Builtin.Bytes.takeBuffer?
  rw [KBy.special_eq KBy.look_buffer, KBy.own_buffer]
  have e : (Builtin.Bytes.buffer? id (.bytes b t) (full := (0 : Int) == Builtin.Bytes.fullReadOnly)) = pure (some b) := by
    rw [show ((0 : Int) == Builtin.Bytes.fullReadOnly) = false from by decide +kernel]
    exact KBy.buffer_eq
  show (Sem.attempt (Builtin.Bytes.buffer? id (.bytes b t) (full := (0 : Int) == Builtin.Bytes.fullReadOnly) >>= fun r => pure (r.map (·, none))) >>= _) = _
  rw [e]
  rfl
theorem joinLetGo_bytes : ∀ (taken : List (Value × Option Value)) (keep : List Value) (Q : Unit → Shared → Prop), (∀ p ∈ taken, p.2 = none) → Q () s → wpAny M A (Builtin.Bytes.joinLetGo taken keep) Q E s
  | [], _, _, _, h => wpAny_pure h
  | (x, w) :: rest, keep, Q, hw, h => by
    have : w = none := hw _ (.head _)
    subst this
    show wpAny M A (do letGo (x :: []) _; Builtin.Bytes.joinLetGo rest keep) Q E s
    exact wpAny_bind (wpAny_letGo (joinLetGo_bytes rest keep Q (fun p hp => hw p (.tail _ hp)) h))
end

section
variable {prog : Program} {w : World} {A : Around} {E : Value → Shared → Prop} {s : Shared}
theorem seqItems_list {l : Addr} {items : Array Value} {Q : Option (Array Value) → Shared → Prop} {M : Model} (hl : s.heap.IsList l items) (h : Q (some items) s) : wpAny M A (seqItems? (.ref l)) Q E s := by
  obtain ⟨o, ho, _, n, hd⟩ := hl
  show wpAny M A (load l >>= _) Q E s
  refine wpAny_bind (wpAny_load ho ?_)
  rw [hd]
  exact wpAny_pure h

theorem call_join {l : Addr} {items : Array Value} {xs : List (Array UInt8)} {t : Tok} {Q : Value → Shared → Prop} (hl : s.heap.IsList l items) (hx : BytesL items.toList xs) (hz : (catB xs).size ≤ 16777216)
    (h : ∀ t' k, Q (.bytes (catB xs) t') { s with toks := k }) : wpAny (model prog w) A (call (.builtin "bytes.join") [.bytes #[] t, .ref l]) Q E s := by
  have hT := typeIs_bytes s #[] t
  refine wpAny_call_entry F.slot_join hT F.entry_join ?_ (F.args_join _ _)
  have hTl : s.TypeIs (.ref l) "list" := hl.typeIs
  unfold Builtin.«bytes.join» Builtin.Bytes.joinM
  refine wpAny_bind (wpAny_of_eq (a := (Value.bytes #[] t, Value.ref l)) rfl ?_)
  dsimp only
  refine bm_if_true rfl ?_
  refine wpAny_bind ?_
  unfold Builtin.Bytes.joinItems
  refine wpAny_bind (wpAny_typeOf hTl ?_)
  refine bm_if_true (by decide) (wpAny_pure ?_)
  refine wpAny_bind (seqItems_list hl ?_)
  dsimp only
  refine bm_if_true rfl ?_
  have key : ∀ (i : Nat) (v : Value), items[i]? = some v → ∃ b u, v = .bytes b u ∧ xs[i]? = some b := by
    intro i v hv
    have h1 := congrArg (fun l => l[i]?) hx
    simp only [List.getElem?_map, Array.getElem?_toList, hv, Option.map_some] at h1
    cases q : xs[i]? with
    | none => rw [q] at h1; cases h1
    | some b =>
      rw [q] at h1
      cases v with
      | bytes b' u => cases (show some (some b') = some (some b) from h1); exact ⟨_, _, rfl, rfl⟩
      | _ => cases (show (some none : Option (Option (Array UInt8))) = some (some b) from h1)
  have hlen : items.size = xs.length := by have := congrArg List.length hx; simpa using this
  rcases hq : items with ⟨_ | ⟨x, _ | ⟨y, r⟩⟩⟩
  rotate_left
  · subst hq
    obtain ⟨b, u, rfl, hb⟩ := key 0 _ rfl
    have hxs : catB xs = b := by
      match xs, hlen, hb with
      | [y], _, hb => cases hb; rw [catB_cons, catB_nil, Array.append_empty]
    refine wpAny_bind (wpAny_typeOf (typeIs_bytes s b u) ?_)
    refine bm_if_true (by decide) ?_
    refine wpAny_bind (wpAny_rule ?_)
    have := h u s.toks
    rw [hxs] at this
    exact wpAny_bind (wpAny_pure (wpAny_pure ⟨_, rfl, this⟩))
  all_goals
    refine wpAny_bind ?_
    rw [← hq]
    refine (wpAny_forRange (σ := Array (Array UInt8) × List (Value × Option Value)) (fun i c s' => s' = s ∧ c.1.toList = xs.take i ∧ ∀ p ∈ c.2, p.2 = none ∧ p.1.onHeap = false) _ ⟨rfl, rfl, fun _ hp => nomatch hp⟩ ?_ ?_)
    · rintro i ⟨parts, taken⟩ s' hi ⟨rfl, hp, ht⟩
      dsimp only at hp ht ⊢
      obtain ⟨b, u, hv, hb⟩ := key i items[i] (by simp [hi])
      have hd : items.getD i .none = .bytes b u := by rw [Array.getD_eq_getD_getElem?, show items[i]? = some items[i] from by simp [hi], hv]; rfl
      refine wpAny_bind (seqItems_list hl ?_)
      dsimp only
      have hany : (Builtin.Bytes.Kind.bytes == Builtin.Bytes.Kind.bytearray || taken.any (·.1.onHeap)) = false := by
        rw [show (Builtin.Bytes.Kind.bytes == Builtin.Bytes.Kind.bytearray) = false from rfl, Bool.false_or]
        exact mem_any_false fun p hp => (ht p hp).2
      refine bm_if_false hany ?_
      rw [hd]
      refine wpAny_bind (wpAny_holding (wpAny_of_eq take_bytes ?_))
      dsimp only
      refine wpAny_bind (seqItems_list hl ?_)
      dsimp only
      refine bm_if_false (by simp) ?_
      refine wpAny_pure ⟨_, rfl, rfl, ?_, ?_⟩
      · dsimp only
        rw [Array.toList_push, hp, List.take_add_one, hb]
        rfl
      · intro p hp
        rcases List.mem_append.mp hp with hp | hp
        · exact ht p hp
        · rw [List.mem_singleton.mp hp]; exact ⟨rfl, rfl⟩
    · rintro ⟨parts, taken⟩ s' ⟨rfl, hp, ht⟩
      dsimp only at hp ht ⊢
      rw [hlen, List.take_length] at hp
      refine wpAny_bind (wpAny_of_eq (a := #[]) rfl ?_)
      refine bm_if_false ?_ ?_
      · refine KBy.tooLong_not ?_
        rw [← Array.foldl_toList, hp, sizes_foldl]
        show 0 * _ + _ ≤ _
        omega
      rw [hp, joined_nil]
      refine wpAny_bind (wpAny_mkBytes ?_ (by rw [sizeLine_eq]; exact hz))
      refine wpAny_bind (wpAny_holding (wpAny_point ?_))
      refine wpAny_bind (joinLetGo_bytes _ _ _ (fun p hp => (ht p hp).1) ?_)
      exact wpAny_pure ⟨_, rfl, h _ _⟩
end
end
section
open PySem PySem.W PySem.Calls PyProof.Rows
theorem picked_ij (b : Array UInt8) (i j : Nat) : KBy.picked b (some i) (some j) = b.extract i j := by
  rw [KBc.picked_eq]
  apply Array.ext'
  simp only [Option.elim, clipAt_nat, Array.toList_extract, List.extract_eq_take_drop]
  have h := b.length_toList
  generalize b.toList = l at h ⊢
  rw [← h]
  clear h
  by_cases hi : i ≤ l.length
  · rw [Nat.min_eq_left hi]
    by_cases hj : j ≤ l.length
    · rw [Nat.min_eq_left hj]
    · have e1 : min j l.length = l.length := Nat.min_eq_right (by omega)
      rw [e1, List.take_of_length_le (by rw [List.length_drop]; omega), List.take_of_length_le (by rw [List.length_drop]; omega)]
  · have e1 : min i l.length = l.length := Nat.min_eq_right (by omega)
    rw [e1, List.drop_of_length_le (Nat.le_refl _), List.drop_of_length_le (by omega : l.length ≤ i)]
    simp
theorem picked_j (b : Array UInt8) (j : Nat) : KBy.picked b none (some j) = b.extract 0 j := by
  rw [← picked_ij b 0 j, KBc.picked_eq, KBc.picked_eq]
  simp only [Option.elim, clipAt_nat, Nat.zero_min]
theorem picked_i (b : Array UInt8) (i : Nat) : KBy.picked b (some i) none = b.extract i b.size := by
  rw [← picked_ij b i b.size, KBc.picked_eq, KBc.picked_eq]
  simp only [Option.elim, clipAt_nat, Nat.min_self]
section
variable {prog : Program} {w : World} {A : Around} {E : Value → Shared → Prop} {s : Shared} {value slice : PySem.Expr} {b : Array UInt8} {t tu tl : Tok} {h₀ : Heap} {L : Addr} {m : PySem.Str → Option Value} {news : List (Addr × Obj)} {i j : Int} {Q : Value → Shared → Prop}
theorem slice_ij (hF : Fr h₀ L s.heap m) (hN : News h₀ L s.heap news) (hz : b.size ≤ 16777216) (hi : 0 ≤ i) (hj : 0 ≤ j)
    (h : ∀ h' t' k, Fr h₀ L h' m → News h₀ L h' news → Q (.bytes (b.extract i.toNat j.toNat) t') { s with heap := h', toks := k })
    (hs : subscripted slice false (.bytes b t) (.ref s.heap.objs.size) = operate [.ref s.heap.objs.size, .bytes b t] (getItem (.bytes b t) (.ref s.heap.objs.size)) := by with_unfolding_all rfl)
    (ht : ∀ r, letTemporaryGo value (.bytes b t) r = pure () := by intro _; with_unfolding_all rfl) :
    wpAny (model prog w) A (subscriptTail value slice (.bytes b t) (.ref s.heap.objs.size)) Q E { s with heap := s.heap.push { cls := .type "slice", data := .fields #[.int i tl, .int j tu, .none] } } := by
  refine KBc.slice_K (ks := KBw.bInts b) hF hN rfl (.int i tl) (.int j tu) (by rw [KBw.ints_length]; exact hz) (fun h' t' k F N _ => ?_) hs ht
  have := h h' t' k F N
  rw [← picked_ij, Int.toNat_of_nonneg hi, Int.toNat_of_nonneg hj] at this
  exact this
theorem slice_j (hF : Fr h₀ L s.heap m) (hN : News h₀ L s.heap news) (hz : b.size ≤ 16777216) (hj : 0 ≤ j)
    (h : ∀ h' t' k, Fr h₀ L h' m → News h₀ L h' news → Q (.bytes (b.extract 0 j.toNat) t') { s with heap := h', toks := k })
    (hs : subscripted slice false (.bytes b t) (.ref s.heap.objs.size) = operate [.ref s.heap.objs.size, .bytes b t] (getItem (.bytes b t) (.ref s.heap.objs.size)) := by with_unfolding_all rfl)
    (ht : ∀ r, letTemporaryGo value (.bytes b t) r = pure () := by intro _; with_unfolding_all rfl) :
    wpAny (model prog w) A (subscriptTail value slice (.bytes b t) (.ref s.heap.objs.size)) Q E { s with heap := s.heap.push { cls := .type "slice", data := .fields #[.none, .int j tu, .none] } } := by
  refine KBc.slice_K (ks := KBw.bInts b) hF hN rfl .none (.int j tu) (by rw [KBw.ints_length]; exact hz) (fun h' t' k F N _ => ?_) hs ht
  have := h h' t' k F N
  rw [← picked_j, Int.toNat_of_nonneg hj] at this
  exact this
theorem slice_i (hF : Fr h₀ L s.heap m) (hN : News h₀ L s.heap news) (hz : b.size ≤ 16777216) (hi : 0 ≤ i)
    (h : ∀ h' t' k, Fr h₀ L h' m → News h₀ L h' news → Q (.bytes (b.extract i.toNat b.size) t') { s with heap := h', toks := k })
    (hs : subscripted slice false (.bytes b t) (.ref s.heap.objs.size) = operate [.ref s.heap.objs.size, .bytes b t] (getItem (.bytes b t) (.ref s.heap.objs.size)) := by with_unfolding_all rfl)
    (ht : ∀ r, letTemporaryGo value (.bytes b t) r = pure () := by intro _; with_unfolding_all rfl) :
    wpAny (model prog w) A (subscriptTail value slice (.bytes b t) (.ref s.heap.objs.size)) Q E { s with heap := s.heap.push { cls := .type "slice", data := .fields #[.int i tl, .none, .none] } } := by
  refine KBc.slice_K (ks := KBw.bInts b) hF hN rfl (.int i tl) .none (by rw [KBw.ints_length]; exact hz) (fun h' t' k F N _ => ?_) hs ht
  have := h h' t' k F N
  rw [← picked_i, Int.toNat_of_nonneg hi] at this
  exact this
/-- an octet at a place -/
def octAt (b : Array UInt8) (i : Nat) : Nat := (b.toList.getD i 0).toNat
theorem octAt_lt (b : Array UInt8) (i : Nat) : octAt b i < 256 := UInt8.toNat_lt _
theorem item_at {ui : Tok} (hz : b.size ≤ 16777216) (h0 : 0 ≤ i) (h1 : i < b.size) (h : Q (.int (octAt b i.toNat) s.toks) { s with toks := s.toks + 1 })
    (hs : subscripted slice false (.bytes b t) (.int i ui) = operate [.bytes b t, .int i ui] (getItem (.bytes b t) (.int i ui)) := by with_unfolding_all rfl)
    (ht : ∀ r, letTemporaryGo value (.bytes b t) r = pure () := by intro _; with_unfolding_all rfl) : wpAny (model prog w) A (subscriptTail value slice (.bytes b t) (.int i ui)) Q E s := by
  have hl := b.length_toList
  have e : b = b.toList.toArray := by simp
  have : wpAny (model prog w) A (subscriptTail value slice (.bytes b.toList.toArray t) (.int i ui)) Q E s :=
    KBy.item_N (by omega) h0 (by omega) h (by rw [← e]; exact hs) (by rw [← e]; exact ht)
  rw [← e] at this
  exact this
theorem setItem_lst {l : Addr} {items : Array Value} {n : Nat} {k : Int} {t : Tok} {v : Value} {Q : Unit → Shared → Prop} (ho : s.heap.get? l = some (W.listOf items n)) (h0 : 0 ≤ k) (hfit : k < 2 ^ 63) (hn : k < items.size)
    (h : ∀ h' n', h'.get? l = some (W.listOf (items.setIfInBounds k.toNat v) n') → Heap.SameBut l s.heap h' → Q () { s with heap := h' }) : wpAny (model prog w) A (setItem (.ref l) (.int k t) v) Q E s :=
  ki_setAt ho h0 hfit hn (h _ _ (PySem.IsL.update ho (·.setIfInBounds k.toNat v)) (Heap.SameBut.update _ _ _))
end
end
section
open PySem PySem.W PySem.Calls PyProof.Rows

theorem newN {h₀ h h' : Heap} {L : Addr} {m : Str → Option Value} {news : List (Addr × Obj)} {o : Obj} (F : Fr h₀ L h m) (N : News h₀ L h news)
    (ha : h'.get? h.objs.size = some o) (hk : ∀ b o, h.get? b = some o → h'.get? b = some o) : News h₀ L h' ((h.objs.size, o) :: news) := by
  intro p hp
  rcases List.mem_cons.mp hp with rfl | hp
  · refine ⟨ha, Nat.ne_of_gt F.ns.lt, ?_⟩
    cases q : h₀.get? h.objs.size with
    | none => rfl
    | some x => exact absurd (Heap.lt_size (F.keep _ _ q)) (Nat.lt_irrefl _)
  · exact News.keepsAll N hk p hp
/-- an object of the ledger is changed -/
theorem updN {h₀ h h' : Heap} {L a : Addr} {m : Str → Option Value} {news : List (Addr × Obj)} {o o' : Obj} (F : Fr h₀ L h m) (N : News h₀ L h ((a, o) :: news))
    (ha : h'.get? a = some o') (hs : Heap.SameBut a h h') (hne : ∀ p ∈ news, p.1 ≠ a) : Fr h₀ L h' m ∧ News h₀ L h' ((a, o') :: news) := by
  have D := N (a, o) (.head _)
  refine ⟨⟨F.ns.sameBut hs (Ne.symm D.2.1), fun b ob e => hs.extBut b ob (fun q => ?_) (F.keep b ob e), F.above⟩, fun p hp => ?_⟩
  · subst q; have := D.2.2; rw [e] at this; cases this
  · rcases List.mem_cons.mp hp with rfl | hp
    · exact ⟨ha, D.2⟩
    · have P := N p (.tail _ hp)
      exact ⟨hs.extBut _ _ (hne p hp) P.1, P.2⟩

abbrev Has (m : Str → Option Value) (ps : List (Str × Value)) : Prop := ∀ p ∈ ps, m p.1 = some p.2
theorem frB {h₀ h : Heap} {L : Addr} {m : Str → Option Value} {ps : List (Str × Value)} (F : Fr h₀ L h m) (hm : Has m ps) : Fr h₀ L h (kstB m ps) := by
  have e : kstB m ps = m := funext fun z => kstB_eq hm fun _ => rfl
  rw [e]; exact F
theorem Has.nil {m : Str → Option Value} : Has m [] := fun _ h => nomatch h
theorem Has.cons {m : Str → Option Value} {x : Str} {v : Value} {ps : List (Str × Value)} (e : m x = some v) (h : Has m ps) : Has m ((x, v) :: ps) := fun p hp => by
  rcases List.mem_cons.mp hp with rfl | hp
  · exact e
  · exact h p hp

/-- a turn's end: the state c' holds -/
def TurnEnd {σ : Type} (h₀ : Heap) (L : Addr) (s : Shared) (ps : σ → List (Str × Value)) (Led : σ → List (Addr × Obj)) (own : List (Addr × Obj)) (P : σ → Prop) (s₃ : Shared) : Prop :=
  ∃ (c' : σ) (h' : Heap) (tk : Nat) (m' : Str → Option Value) (news' : List (Addr × Obj)), s₃ = { s with heap := h', toks := tk } ∧ Fr h₀ L h' m' ∧ Has m' (ps c') ∧ News h₀ L h' news' ∧ (∀ p ∈ Led c' ++ own, p ∈ news') ∧ P c'
theorem TurnEnd.intro {σ : Type} {h₀ : Heap} {L : Addr} {s : Shared} {ps : σ → List (Str × Value)} {Led : σ → List (Addr × Obj)} {own : List (Addr × Obj)} {P : σ → Prop} {h' : Heap} {tk : Nat} {m' : Str → Option Value} {news' : List (Addr × Obj)} (c' : σ)
    (F : Fr h₀ L h' m') (hm : Has m' (ps c')) (N : News h₀ L h' news') (hn : ∀ p ∈ Led c' ++ own, p ∈ news') (hp : P c') : TurnEnd h₀ L s ps Led own P { s with heap := h', toks := tk } :=
  ⟨c', h', tk, m', news', rfl, F, hm, N, hn, hp⟩
def TurnPost {σ : Type} (h₀ : Heap) (L : Addr) (s : Shared) (ps : σ → List (Str × Value)) (Led : σ → List (Addr × Obj)) (own : List (Addr × Obj)) (P : σ → Prop) (Q : Flow → Shared → Prop) (f : Flow) (s₃ : Shared) : Prop :=
  match f with
  | .ret v => Q (.ret v) s₃
  | .brk => Q .next s₃
  | _ => TurnEnd h₀ L s ps Led own P s₃

section
variable {b : Bool} {prog : Program} {w : World} {A : Around} {E : Value → Shared → Prop} {s : Shared} {env : Env} {h₀ : Heap} {L : Addr}

theorem while_inv {σ : Type} {test : Expr} {body : List Stmt} {pos : Pos} {Q : Flow → Shared → Prop} (ps : σ → List (Str × Value)) (Led : σ → List (Addr × Obj)) (P : σ → Prop) (μ : σ → Nat) (c₀ : σ)
    {m₀ : Str → Option Value} {news : List (Addr × Obj)} (F : Fr h₀ L s.heap m₀) (N : News h₀ L s.heap news) (hm : Has m₀ (ps c₀)) (hn : ∀ p ∈ Led c₀, p ∈ news) (hp : P c₀)
    (turn : ∀ (c : σ) h tk m, P c → Fr h₀ L h (kstB m (ps c)) → News h₀ L h (Led c) →
      wpB b (model prog w) A (isTrue test env (eval test env)) (fun d s₂ =>
        if d = true then wpB b (model prog w) A (execs body env) (TurnPost h₀ L s ps Led [] (fun c' => P c' ∧ μ c' < μ c) Q) NE s₂ else Q .next s₂) NE { s with heap := h, toks := tk }) :
    wpB b (model prog w) A (exec (.While test body [] pos) env) Q E s := by
  refine wpB_While (fun n s' => ∃ (c : σ) (h' : Heap) (tk : Nat) (m : Str → Option Value), s' = { s with heap := h', toks := tk } ∧ Fr h₀ L h' m ∧ Has m (ps c) ∧ News h₀ L h' (Led c) ∧ P c ∧ μ c = n) ?_ (μ c₀)
    ⟨c₀, s.heap, s.toks, m₀, rfl, F, hm, fun p hp => N p (hn p hp), hp, rfl⟩
  rintro n s' ⟨c, h', tk, m, rfl, F', hm', N', hp', rfl⟩
  refine wpB_mono (turn c h' tk m hp' (frB F' hm') N') (fun d s₂ h₂ => ?_) fun _ _ x => x
  cases d with
  | false => simpa using h₂
  | true =>
    simp only [if_true] at h₂ ⊢
    refine wpB_mono h₂ (fun f s₃ h₃ => ?_) fun _ _ x => x
    have up : TurnEnd h₀ L s ps Led [] (fun c' => P c' ∧ μ c' < μ c) s₃ → ∃ m₁, m₁ < μ c ∧ ∃ (c : σ) (h' : Heap) (tk : Nat) (m : Str → Option Value), s₃ = { s with heap := h', toks := tk } ∧ Fr h₀ L h' m ∧ Has m (ps c) ∧ News h₀ L h' (Led c) ∧ P c ∧ μ c = m₁ := by
      rintro ⟨c', h'', tk', m', news', rfl, F3, hm3, N3, hn3, hp3, hlt⟩
      exact ⟨μ c', hlt, c', h'', tk', m', rfl, F3, hm3, fun p hp => N3 p (hn3 p (List.mem_append_left _ hp)), hp3, rfl⟩
    cases f with
    | next => exact up h₃
    | cont => exact up h₃
    | brk => exact h₃
    | ret v => exact h₃

/-- what a for's head must show: a range from 0 -/
def RangeAt (h₀ : Heap) (L : Addr) (s : Shared) (m : Str → Option Value) (news : List (Addr × Obj)) (n : Nat) (xv : Value) (s₁ : Shared) : Prop :=
  ∃ r t u v h' tk, xv = .ref r ∧ s₁ = { s with heap := h', toks := tk } ∧ IsRange h' r 0 n 1 t u v ∧ Fr h₀ L h' m ∧ News h₀ L h' news

theorem for_range {σ : Type} {iter : Expr} {x : Str} {px : Pos} {body : List Stmt} {pos : Pos} {Q : Flow → Shared → Prop} (n : Nat) (ps : σ → List (Str × Value)) (Led : σ → List (Addr × Obj)) (P : Nat → σ → Prop) (c₀ : σ)
    {m₀ : Str → Option Value} {news : List (Addr × Obj)} (_F : Fr h₀ L s.heap m₀) (_N : News h₀ L s.heap news) (hm : Has m₀ (ps c₀)) (hn : ∀ p ∈ Led c₀, p ∈ news) (hp : P 0 c₀) (hh : A.handled = none) (hN : n < 1000)
    (hx : env.kindOf x = some .local) (hk : (env.scope.kind == .class || (env.scope.kind == .module && env.locals != env.globals)) = false) (hL : env.locals = L)
    (head : wpAny (model prog w) A (eval iter env) (RangeAt h₀ L s m₀ news n) NE s)
    (turn : ∀ (i : Nat) (c : σ) h t tk m I o, i < n → P i c → (∀ p ∈ Led c, p.1 ≠ I) → Fr h₀ L h (fun y => if y = x then some (.int i t) else kstB m (ps c) y) → News h₀ L h (Led c ++ [(I, o)]) →
      wpB b (model prog w) A (execs body env) (TurnPost h₀ L s ps Led [(I, o)] (P (i + 1)) Q) NE { s with heap := h, toks := tk })
    (hadr : ∀ c c', (Led c).map (·.1) = (Led c').map (·.1))
    (done : ∀ (c : σ) h tk m, P n c → Fr h₀ L h (kstB m (ps c)) → News h₀ L h (Led c) → Q .next { s with heap := h, toks := tk })
    (hs : ∀ x, foldedSetIterable iter env x = pure x := by intro _; rfl) :
    wpB b (model prog w) A (exec (.For (.Name x px) iter body [] pos) env) Q NE s := by
  subst hL
  refine wpB_For (fun it k s' => ∃ (I : Addr) (i : Nat) (c : σ) (h' : Heap) (tk : Nat) (m : Str → Option Value), it = .ref I ∧ s' = { s with heap := h', toks := tk } ∧ Fr h₀ env.locals h' m ∧ Has m (ps c) ∧
      News h₀ env.locals h' (Led c ++ [(I, { cls := .type "range_iterator", dict := none, data := .fields #[rawInt ((0 : Int) + i * 1), rawInt ((n : Int) - i), rawInt 1], slots := #[] })]) ∧ (∀ p ∈ Led c, p.1 ≠ I) ∧ P i c ∧ i ≤ n ∧ k = n - i)
    (wpAny_mono head (fun xv s₁ h₁ => ?_) fun _ _ x => x) ?_ (fun _ _ => rfl) hs
  · obtain ⟨r, t, u, v, h', tk, rfl, rfl, hr, F, N⟩ := h₁
    have hsz : Builtin.Range.rangeSize 0 n 1 = (n : Int) := by
      unfold Builtin.Range.rangeSize
      simp only [show ¬ ((1 : Int) < 0) by decide, show (1 : Int) > 0 by decide, if_true, if_false]
      split <;> simp_all <;> omega
    refine wpAny_pyIter_range hr ?_ ?_
    · unfold Builtin.Range.small
      rw [hsz]
      have fit : ∀ k : Int, 0 ≤ k → k < 2000 → Builtin.Range.rangeFitsLong k = true := fun k h0 h1 => by
        unfold Builtin.Range.rangeFitsLong
        rw [Bool.and_eq_true, decide_eq_true_eq, decide_eq_true_eq]
        omega
      rw [fit 0 (by omega) (by omega), fit n (by omega) (by omega), fit 1 (by omega) (by omega), if_pos (by decide), fit _ (by omega) (by omega), Bool.or_true]
      rfl
    · rw [hsz]
      have hlt : ∀ p ∈ Led c₀, p.1 ≠ h'.objs.size := fun p hp => Nat.ne_of_lt (Heap.lt_size (N p (hn p hp)).1)
      refine ⟨n, h'.objs.size, 0, c₀, _, _, m₀, rfl, rfl, F.push _, hm, fun p hp => ?_, hlt, hp, Nat.zero_le _, rfl⟩
      have hk := newN F N (o := { cls := .type "range_iterator", data := .fields #[rawInt 0, rawInt n, rawInt 1] }) (Heap.get?_push_size h' rfl) (fun b o e => Heap.get?_push_of_some _ e)
      rcases List.mem_append.mp hp with hp | hp
      · exact hk p (.tail _ (hn p hp))
      · rw [List.mem_singleton.mp hp]
        have := hk _ (.head _)
        simpa using this
  · rintro it k s' ⟨I, i, c, h', tk, m, rfl, rfl, F, hm', N, hne, hp', hi, rfl⟩
    have NI := N _ (List.mem_append_right _ (.head _))
    have W := Walks.range (prog := prog) (w := w) hh I 0 1 n
    by_cases hlt : i < n
    · refine W.item i _ _ _ hlt NI.1 fun v h₁ tk₁ hv hI hk₁ => ?_
      obtain ⟨t, rfl⟩ := hv
      have kb : ∀ b o, b ≠ I → h'.get? b = some o → h₁.get? b = some o := fun b o q e => hk₁ b o (by simpa using q) e
      have F₁ : Fr h₀ env.locals h₁ m := ⟨F.ns.at' fun o e => kb _ o (Ne.symm NI.2.1) e, fun b o e => kb b o (fun q => by subst q; have := NI.2.2; rw [e] at this; cases this) (F.keep b o e), F.above⟩
      have N₁ : News h₀ env.locals h₁ (Led c ++ [(I, { cls := .type "range_iterator", dict := none, data := .fields #[rawInt ((0 : Int) + (i + 1 : Nat) * 1), rawInt ((n : Int) - (i + 1 : Nat)), rawInt 1], slots := #[] })]) := fun p hp => by
        rcases List.mem_append.mp hp with hp | hp
        · have Q := N p (List.mem_append_left _ hp)
          exact ⟨kb _ _ (hne p hp) Q.1, Q.2⟩
        · rw [List.mem_singleton.mp hp]
          exact ⟨hI, NI.2⟩
      refine wpAny_assign_Name (wpAny_storeName_local hx F₁.ns (fun h₂ hn₂ hs₂ => ?_) hk)
      have F₂ := F₁.set hn₂ hs₂
      have N₂ := N₁.set hs₂
      have F₃ : Fr h₀ env.locals h₂ (fun y => if y = x then some (.int i t) else kstB m (ps c) y) := by
        have e : kstB m (ps c) = m := funext fun z => kstB_eq hm' fun _ => rfl
        have e2 : (0 : Int) + (i : Int) * 1 = i := by omega
        rw [e, ← e2]
        exact F₂
      refine wpB_mono (turn i c h₂ t _ m I _ hlt hp' hne F₃ N₂) (fun f s₃ h₃ => ?_) fun _ _ x => x
      have up : TurnEnd h₀ env.locals s ps Led [(I, { cls := .type "range_iterator", dict := none, data := .fields #[rawInt ((0 : Int) + (i + 1 : Nat) * 1), rawInt ((n : Int) - (i + 1 : Nat)), rawInt 1], slots := #[] })] (P (i + 1)) s₃ →
          ∃ m_1, m_1 < n - i ∧ ∃ (I_1 : Addr) (i_1 : Nat) (c : σ) (h' : Heap) (tk : Nat) (m : Str → Option Value), Value.ref I = .ref I_1 ∧ s₃ = { s with heap := h', toks := tk } ∧ Fr h₀ env.locals h' m ∧ Has m (ps c) ∧
            News h₀ env.locals h' (Led c ++ [(I_1, { cls := .type "range_iterator", dict := none, data := .fields #[rawInt ((0 : Int) + i_1 * 1), rawInt ((n : Int) - i_1), rawInt 1], slots := #[] })]) ∧ (∀ p ∈ Led c, p.1 ≠ I_1) ∧ P i_1 c ∧ i_1 ≤ n ∧ m_1 = n - i_1 := by
        rintro ⟨c', h'', tk', m', news', rfl, F3, hm3, N3, hn3, hp3⟩
        refine ⟨n - (i + 1), by omega, I, i + 1, c', h'', tk', m', rfl, rfl, F3, hm3, fun p hp => N3 p (hn3 p hp), fun p hp q => ?_, hp3, hlt, rfl⟩
        have hm4 : p.1 ∈ (Led c).map (·.1) := hadr c' c ▸ List.mem_map_of_mem hp
        obtain ⟨p', hp', e'⟩ := List.mem_map.mp hm4
        exact hne p' hp' (e'.trans q)
      cases f with
      | next => exact up h₃
      | cont => exact up h₃
      | brk => exact h₃
      | ret v => exact h₃
    · have hin : i = n := by omega
      subst hin
      refine W.done _ _ _ NI.1 fun h₁ tk₁ hk₁ => ?_
      have kb : ∀ b o, b ≠ I → h'.get? b = some o → h₁.get? b = some o := fun b o q e => hk₁ b o (by simpa using q) e
      have F₁ : Fr h₀ env.locals h₁ m := ⟨F.ns.at' fun o e => kb _ o (Ne.symm NI.2.1) e, fun b o e => kb b o (fun q => by subst q; have := NI.2.2; rw [e] at this; cases this) (F.keep b o e), F.above⟩
      exact done c h₁ _ m hp' (frB F₁ hm') fun p hp => ⟨kb _ _ (hne p hp) (N p (List.mem_append_left _ hp)).1, (N p (List.mem_append_left _ hp)).2⟩
end
end
section
open PySem PySem.W PySem.Calls PyProof.Rows

section
variable {b : Bool} {prog : Program} {w : World} {A : Around} {E : Value → Shared → Prop} {s : Shared} {env : Env}
/-- o.name(e), name a method that the type's builtin answers -/
theorem wpB_method {o e : Expr} {name : Str} {apos pos : Pos} {Q : Value → Shared → Prop}
    (hbase : attributeBase o name env (eval o env) = eval o env) (hfew : methodCallForm ([e].length + 0) (backTo pos (starEach [e] env)) (backToKw pos (keywordEach [] env)) = true)
    (hline : (apos.endLine == pos.line) = true) (htrees : backTo pos (starEach [e] env) = [(false, eval e env)])
    (h : wpAny (model prog w) A (eval o env) (fun ov s₁ => ∃ T id, PlainAttrs T ∧ Slot T name id ∧ typeOf (.builtin id) = pure (.type "method_descriptor") ∧ s₁.TypeIs ov T ∧ (∀ a, ov = .ref a → ∃ ob, s₁.heap.get? a = some ob ∧ ob.dict = none) ∧
      wpB b (model prog w) A (eval e env) (fun v s₂ => wpB b (model prog w) A (call (.builtin id) [ov, v]) Q E s₂) E s₁) E s) :
    wpB b (model prog w) A (eval (.Call (.Attribute o name apos) [e] [] pos) env) Q E s := by
  have line : methodCallPos true o env apos pos = pure pos := by unfold methodCallPos; simp [hline]
  have few : methodCallForm ([e].length + ([] : List Keyword).length) (backTo pos (starEach [e] env)) (backToKw pos (keywordEach [] env)) = true := hfew
  rw [arm_eval_Call, hbase]
  refine wpB_step (wpAny_mono h (fun ov s₁ ⟨T, id, hp, hs, ht, hT, hd, hc⟩ => wpB_bind (wpB_standAt ?_)) fun _ _ x => x)
  unfold methodCall
  rw [few, htrees]
  exact wpB_step (wpAny_holding (getMethod_builtin hT hp hs ht hd (wpB_bind (wpB_eq line
    (wpB_callWith_builtin rfl (wpB_evalArgs (wpB_spliced_cons (wpB_mono hc (fun _ _ x => wpB_spliced_nil x) fun _ _ x => x))))))))
/-- a goal that the walk leaves alone -/
def Then (P : Prop) : Prop := P
/-- x.append(e) for a bytearray of the ledger -/
theorem appendB {o e : Expr} {apos pos : Pos} {Q : Value → Shared → Prop}
    (hbase : attributeBase o "append" env (eval o env) = eval o env) (hfew : methodCallForm ([e].length + 0) (backTo pos (starEach [e] env)) (backToKw pos (keywordEach [] env)) = true)
    (hline : (apos.endLine == pos.line) = true) (htrees : backTo pos (starEach [e] env) = [(false, eval e env)])
    (h : wpAny (model prog w) A (eval o env) (fun ov s₁ => Then <| ∃ a x, ov = .ref a ∧ s₁.heap.get? a = some (baObj x) ∧
      wpAny (model prog w) A (eval e env) (fun v s₂ => Then <| ∃ i t y, v = .int i t ∧ s₂.heap.get? a = some (baObj y) ∧ 0 ≤ i ∧ i < 256 ∧ y.size < 16777216 ∧
        ∀ h', h'.get? a = some (baObj (y.push i.toNat.toUInt8)) → Heap.SameBut a s₂.heap h' → Q .none { s₂ with heap := h' }) E s₁) E s) :
    wpB true (model prog w) A (eval (.Call (.Attribute o "append" apos) [e] [] pos) env) Q E s := by
  refine wpB_method hbase hfew hline htrees (wpAny_mono h (fun ov s₁ h₁ => ?_) fun _ _ x => x)
  obtain ⟨a, x, rfl, ha, h₁⟩ := h₁
  refine ⟨_, _, F.plainAttrs_bytearray, F.slot_append, F.type_append, ⟨_, ha, rfl⟩, fun a' e' => by cases e'; exact ⟨_, ha, rfl⟩, wpB_any (wpAny_mono h₁ (fun v s₂ h₂ => ?_) fun _ _ x => x)⟩
  obtain ⟨i, t, y, rfl, hy, i0, i1, hz, k⟩ := h₂
  exact call_append hy i0 i1 hz k
end

section
variable {b : Bool} {M : Model} {A : Around} {E : Value → Shared → Prop} {s : Shared} {env : Env}
theorem callWith_ty {pos : Pos} {T : String} {e : Expr} {rest : List Expr} {first : List Value} {Q : Value → Shared → Prop}
    (h : wpB b M A (spliced (backTo pos (starEach (e :: rest) env))) (fun vs s₁ => wpB b M A (call (.type T) (first ++ vs)) Q E s₁) E s)
    (he : starEach (e :: rest) env = (false, eval e env) :: starEach rest env := by rfl) (hplain : (backTo pos (starEach rest env)).any (·.1) = false := by rfl) :
    wpB b M A (callWith pos (.type T) first (backTo pos (starEach (e :: rest) env)) []) Q E s := by
  rw [he] at h ⊢
  exact wpB_callWith_type (by show (false || (backTo pos (starEach rest env)).any (·.1)) = false; rw [hplain]; rfl) (wpB_evalArgs h)
theorem callWith_bi {pos : Pos} {id : String} {e : Expr} {rest : List Expr} {first : List Value} {Q : Value → Shared → Prop}
    (h : wpB b M A (spliced (backTo pos (starEach (e :: rest) env))) (fun vs s₁ => wpB b M A (call (.builtin id) (first ++ vs)) Q E s₁) E s)
    (he : starEach (e :: rest) env = (false, eval e env) :: starEach rest env := by rfl) (hplain : (backTo pos (starEach rest env)).any (·.1) = false := by rfl) :
    wpB b M A (callWith pos (.builtin id) first (backTo pos (starEach (e :: rest) env)) []) Q E s := by
  rw [he] at h ⊢
  exact wpB_callWith_builtin (by show (false || (backTo pos (starEach rest env)).any (·.1)) = false; rw [hplain]; rfl) (wpB_evalArgs h)
theorem callWith_fn {pos : Pos} {a : Addr} {o : Obj} {fd : FuncData} {e : Expr} {rest : List Expr} {Q : Value → Shared → Prop} (hd : o.data = .func fd)
    (h : wpB b M A (spliced (backTo pos (starEach (e :: rest) env))) (fun vs s₁ => s₁.heap.get? a = some o ∧ wpB b M A (call (.ref a) vs) Q E s₁) E s)
    (he : starEach (e :: rest) env = (false, eval e env) :: starEach rest env := by rfl) (hplain : (backTo pos (starEach rest env)).any (·.1) = false := by rfl) :
    wpB b M A (callWith pos (.ref a) [] (backTo pos (starEach (e :: rest) env)) []) Q E s := by
  rw [he] at h ⊢
  exact wpB_callWith_function (by show (false || (backTo pos (starEach rest env)).any (·.1)) = false; rw [hplain]; rfl) (wpB_evalArgs (wpB_mono h (fun vs s₁ h₁ => ⟨⟨h₁.1, hd⟩, h₁.2⟩) fun _ _ x => x))
end
end
section
open PySem PySem.W PySem.Calls PyProof.Rows
section
variable {b : Bool} {prog : Program} {w : World} {A : Around} {E : Value → Shared → Prop} {s : Shared} {env : Env}
theorem wpB_Assign_Tuple {M : Model} {elts k tpos value pos} {Q : Flow → Shared → Prop}
    (h : wpB b M A (eval value env) (fun v s₁ => wpAny M A (assign (.Tuple elts k tpos) env v) (fun _ => Q .next) E s₁) E s)
    (hs : swapsWithSole [.Tuple elts k tpos] value pos.line env = pure false := by rfl)
    (hw : swappedStores [.Tuple elts k tpos] value env = pure none := by rfl) :
    wpB b M A (exec (.Assign [.Tuple elts k tpos] value pos) env) Q E s := by
  have store : ∀ v s₁, wpAny M A (assign (.Tuple elts k tpos) env v) (fun _ => Q .next) E s₁ → wpB b M A (do assignAll v [assign (.Tuple elts k tpos) env]; pure .next) Q E s₁ :=
    fun v s₁ h₁ => wpB_bind (wpB_any (wpAny_mono h₁ (fun _ _ x => wpB_pure x) fun _ _ x => x))
  rw [exec_Assign, hs, hw]
  exact wpB_bind (wpB_standAt (wpB_bind (wpB_pure (wpB_bind (wpB_mono h (fun v s₁ h₁ => wpB_bind (wpB_pure (store v s₁ h₁))) fun _ _ x => x)))))
/-- a tuple of a call, taken apart -/
theorem assign_pair {prog : Program} {w : World} {elts : List Expr} {x1} {pos : Pos} {t : Addr} {items : Array Value} {Q : Unit → Shared → Prop} {h₀ : Heap} {L : Addr} {m : Str → Option Value} {news : List (Addr × Obj)} (hh : A.handled = none)
    (F : Fr h₀ L s.heap m) (N : News h₀ L s.heap news) (ht : s.heap.IsTuple t items)
    (hn : (assignEach elts env).length = items.size) (hstar : (assignEach elts env).findIdx? (·.1) = none)
    (h : ∀ h', Fr h₀ L h' m → News h₀ L h' news → wpAny (model prog w) A (assignInOrder ((assignEach elts env).map (·.2)) items.toList) Q E { s with heap := h' }) :
    wpAny (model prog w) A (assign (.Tuple elts x1 pos) env (.ref t)) Q E s :=
  wpAny_assign_Tuple hh ht hn hstar fun h' he => h h' (F.extBut he (Nat.le_refl _)) (N.extBut he (Nat.le_refl _))
/-- b''.join(e) -/
theorem joinB {o e : Expr} {apos pos : Pos} {Q : Value → Shared → Prop}
    (hbase : attributeBase o "join" env (eval o env) = eval o env) (hfew : methodCallForm ([e].length + 0) (backTo pos (starEach [e] env)) (backToKw pos (keywordEach [] env)) = true)
    (hline : (apos.endLine == pos.line) = true) (htrees : backTo pos (starEach [e] env) = [(false, eval e env)])
    (h : wpAny (model prog w) A (eval o env) (fun ov s₁ => Then <| ∃ t, ov = .bytes #[] t ∧
      wpB b (model prog w) A (eval e env) (fun v s₂ => Then <| ∃ l items xs, v = .ref l ∧ s₂.heap.IsList l items ∧ BytesL items.toList xs ∧ (catB xs).size ≤ 16777216 ∧
        ∀ t' k, Q (.bytes (catB xs) t') { s₂ with toks := k }) E s₁) E s) :
    wpB b (model prog w) A (eval (.Call (.Attribute o "join" apos) [e] [] pos) env) Q E s := by
  refine wpB_method hbase hfew hline htrees (wpAny_mono h (fun ov s₁ h₁ => ?_) fun _ _ x => x)
  obtain ⟨t, rfl, h₁⟩ := h₁
  refine ⟨_, _, FB.plainAttrs_bytes, F.slot_join, F.type_join, typeIs_bytes _ _ _, (fun a' e' => nomatch e'), wpB_mono h₁ (fun v s₂ h₂ => ?_) fun _ _ x => x⟩
  obtain ⟨l, items, xs, rfl, hl, hx, hz, k⟩ := h₂
  exact wpB_any (call_join hl hx hz k)
end

/-- a generator function of the module's heap, called -/
theorem codeAny_Kgen {prog : Program} {w : World} {A : Around} {R : Result → Shared → Prop} {s : Shared} {K : Frag} {f : Addr} {oc : Value} {od : Option Addr} {osl : Array (Option Value)} {name qual : Str} {params : Arguments} {body : List Stmt} {scope : Scope} {cl : List (Str × Addr)} {dV kV doc pm cdv ct : Value} {an : Option Addr} {args : Args} (binds : List (Str × Value))
    (X : K.In s.heap) (hlim : s.heap.NoLimit) (hroom : A.depth < recursionLimit)
    (ho : K.lookup f = some ⟨oc, od, .func (fnX name qual params body scope cl dV kV doc pm an cdv ct), osl⟩) (hcd : codeIn K cdv qual = true)
    (hbind : BindsTo s (fnX name qual params body scope cl dV kV doc pm an cdv ct) args binds) (hloc : ∀ x ∈ binds, scope.names.lookup x.1 = some .local)
    (h : ∀ L h₁ t1 t2 tk, L = s.heap.objs.size → Fr s.heap L h₁ (kstB (fun _ => none) binds.reverse) → News s.heap L h₁ [] →
      R (.ok (.ret (.ref h₁.objs.size))) { s with heap := h₁.push { cls := .type "generator", data := .fields #[.int s.gens.size 0, .str name t1, .str qual t2] },
                                                  gens := s.gens.push (.fresh (.func body (envX qual scope L f cdv cl))), toks := tk })
    (hcell : ∀ x ∈ scope.names, x.2 ≠ .cell) (hco : scope.isCoroutine = false) (hgen : scope.isGenerator = true) (hk : scope.kind = .function) :
    codeAny (model prog w) A (.call (.ref f) args) R s := by
  have e : ∀ bs : List (Str × Value), (fun y => bs.lookup y) = kstB (fun _ => none) bs := by
    intro bs
    induction bs with
    | nil => rfl
    | cons p r ih =>
      funext y
      obtain ⟨x, v⟩ := p
      show (match y == x with | true => some v | false => r.lookup y) = if y = x then some v else kstB (fun _ => none) r y
      by_cases q : y = x
      · subst q; simp
      · rw [if_neg q, ← ih, beq_false_of_ne q]
  refine codeAny_call_generator hroom (X _ _ ho) rfl hco hgen rfl (codeRec_of X hcd) (hbind _ _ _ _ ?_)
  refine wpAny_newFunctionEnv hcell hloc (fun h₀ hns₀ hsb₀ => ⟨hlim.fresh _ hsb₀, ?_⟩) hk
  have F : Fr s.heap s.heap.objs.size h₀ (fun y => binds.reverse.lookup y) :=
    ⟨hns₀, fun b o e => hsb₀.extBut b o (Nat.ne_of_lt (Heap.lt_size e)) (Heap.get?_push_of_some _ e), Nat.le_refl _⟩
  exact h _ h₀ _ _ _ rfl (e _ ▸ F) .nil

/-- f(e, ..) for a def of the module's heap -/
theorem callWith_K {bb : Bool} {M : Model} {A : Around} {E : Value → Shared → Prop} {s : Shared} {env : Env} {K : Frag} {hb : Heap} {pos : Pos} {a : Addr} {e : Expr} {rest : List Expr} {Q : Value → Shared → Prop}
    {oc : Value} {od : Option Addr} {osl : Array (Option Value)} {name qual : Str} {params : Arguments} {body : List Stmt} {scope : Scope} {cl : List (Str × Addr)} {dV kV doc pm cdv ct : Value} {an : Option Addr}
    (X : K.In hb) (ho : K.lookup a = some ⟨oc, od, .func (fnX name qual params body scope cl dV kV doc pm an cdv ct), osl⟩)
    (h : wpB bb M A (spliced (backTo pos (starEach (e :: rest) env))) (fun vs s₁ => Then <| (∀ b o, hb.get? b = some o → s₁.heap.get? b = some o) ∧ wpB bb M A (call (.ref a) vs) Q E s₁) E s)
    (he : starEach (e :: rest) env = (false, eval e env) :: starEach rest env := by rfl) (hplain : (backTo pos (starEach rest env)).any (·.1) = false := by rfl) :
    wpB bb M A (callWith pos (.ref a) [] (backTo pos (starEach (e :: rest) env)) []) Q E s :=
  callWith_fn (o := ⟨oc, od, .func (fnX name qual params body scope cl dV kV doc pm an cdv ct), osl⟩) rfl (wpB_mono h (fun _ _ h₁ => ⟨h₁.1 _ _ (X _ _ ho), h₁.2⟩) fun _ _ x => x) he hplain
end
section
/-- git's size: seven bits an octet, the lowest first -/
def varint (n : Nat) : List UInt8 := if n < 128 then [n.toUInt8] else (n % 128 + 128).toUInt8 :: varint (n / 128)
termination_by n
theorem varint_lo {n : Nat} (h : n < 128) : varint n = [n.toUInt8] := by rw [varint, if_pos h]
theorem varint_hi {n : Nat} (h : ¬ n < 128) : varint n = (n % 128 + 128).toUInt8 :: varint (n / 128) := by rw [varint, if_neg h]
theorem varint_len : ∀ n : Nat, (varint n).length ≤ n + 1 := by
  intro n
  induction n using Nat.strongRecOn with
  | ind n ih =>
    by_cases h : n < 128
    · rw [varint_lo h]; simp
    · rw [varint_hi h, List.length_cons]
      have := ih (n / 128) (by omega)
      omega
end
section
open PySem PySem.W
theorem fdiv128 (n : Nat) : (n : Int).fdiv (2 ^ Int.toNat 7) = ((n / 128 : Nat) : Int) := by
  rw [show ((2 : Int) ^ Int.toNat 7) = 128 from by decide, Int.fdiv_eq_ediv_of_nonneg _ (by decide)]
  omega
theorem and127 (n : Nat) : Builtin.bitAnd (n : Int) 127 = ((n % 128 : Nat) : Int) := by
  have := kbt_mask (n : Int) 7
  rw [show ((2 : Int) ^ 7 - 1) = 127 from by decide, show ((2 : Int) ^ 7) = 128 from by decide] at this
  rw [this]
  omega
theorem or128 {n : Nat} (h : n < 128) : Builtin.bitOr (n : Int) 128 = ((n + 128 : Nat) : Int) := by
  have : ∀ n : Fin 128, Builtin.bitOr ((n : Nat) : Int) 128 = (((n : Nat) + 128 : Nat) : Int) := by decide +kernel
  exact this ⟨n, h⟩
end
section
open PySem PySem.W
/-- the octets of a copy's two numbers, in the order of the format -/
def fieldAt (start len k : Nat) : Nat := if k < 4 then start / 256 ^ k % 256 else len / 256 ^ (k - 4) % 256
def maskTo (f : Nat → Nat) : Nat → Nat
  | 0 => 0
  | k + 1 => maskTo f k + (if f k = 0 then 0 else 2 ^ k)
def bytesTo (f : Nat → Nat) : Nat → List UInt8
  | 0 => []
  | k + 1 => bytesTo f k ++ (if f k = 0 then [] else [(f k).toUInt8])
def encTo (f : Nat → Nat) (k : Nat) : List UInt8 := (128 + maskTo f k).toUInt8 :: bytesTo f k
def encCopy (start len : Nat) : List UInt8 := encTo (fieldAt start len) 6
theorem maskTo_lt (f : Nat → Nat) : ∀ k, maskTo f k < 2 ^ k
  | 0 => by simp [maskTo]
  | k + 1 => by
    have := maskTo_lt f k
    rw [maskTo, Nat.pow_succ]
    split <;> omega
theorem bytesTo_len (f : Nat → Nat) : ∀ k, (bytesTo f k).length ≤ k
  | 0 => by simp [bytesTo]
  | k + 1 => by
    have := bytesTo_len f k
    rw [bytesTo, List.length_append]
    split <;> simp <;> omega
theorem fieldAt_lt (start len k : Nat) : fieldAt start len k < 256 := by
  unfold fieldAt
  split <;> exact Nat.mod_lt _ (by decide)

/-- the mask takes the k-th bit -/
theorem or_bit {k m : Nat} (hk : k < 6) (hm : m < 2 ^ k) : Builtin.bitOr ((128 + m : Nat) : Int) ((2 ^ k : Nat) : Int) = ((128 + (m + 2 ^ k) : Nat) : Int) := by
  have key : ∀ (k : Fin 6) (m : Fin 64), (m : Nat) < 2 ^ (k : Nat) → Builtin.bitOr ((128 + (m : Nat) : Nat) : Int) ((2 ^ (k : Nat) : Nat) : Int) = ((128 + ((m : Nat) + 2 ^ (k : Nat)) : Nat) : Int) := by decide +kernel
  have : (2 : Nat) ^ k ≤ 2 ^ 5 := Nat.pow_le_pow_right (by decide) (by omega)
  exact key ⟨k, hk⟩ ⟨m, by omega⟩ hm
end
section
open PySem PySem.W
theorem bitAnd_nat (a b : Nat) : Builtin.bitAnd (a : Int) (b : Int) = ((a &&& b : Nat) : Int) := by
  unfold Builtin.bitAnd
  rw [decide_eq_true (Int.natCast_nonneg a), decide_eq_true (Int.natCast_nonneg b)]
  rfl
theorem toNat8 (i : Nat) : ((i : Int) * 8).toNat = 8 * i := by omega
theorem pow256 (i : Nat) : 2 ^ (8 * i) = 256 ^ i := by rw [Nat.pow_mul]
theorem field_bit (a i : Nat) : Builtin.bitAnd (a : Int) (255 * 2 ^ ((i : Int) * 8).toNat) ≠ 0 ↔ a / 256 ^ i % 256 ≠ 0 := by
  rw [toNat8, show (255 * 2 ^ (8 * i) : Int) = ((255 * 2 ^ (8 * i) : Nat) : Int) from by rw [Int.natCast_mul, kbt_cast]; rfl, bitAnd_nat]
  have e : a &&& 255 * 2 ^ (8 * i) = (a / 256 ^ i % 256) * 2 ^ (8 * i) := by
    rw [← Nat.shiftLeft_eq, ← Nat.shiftLeft_eq, ← pow256, ← Nat.shiftRight_eq_div_pow, show 256 = 2 ^ 8 from rfl, show 255 = 2 ^ 8 - 1 from rfl]
    apply Nat.eq_of_testBit_eq
    intro j
    simp only [Nat.testBit_and, Nat.testBit_shiftLeft, Nat.testBit_shiftRight, Nat.testBit_mod_two_pow, Nat.testBit_two_pow_sub_one]
    by_cases h : 8 * i ≤ j
    · rw [show 8 * i + (j - 8 * i) = j from by omega]
      simp [h, Bool.and_comm]
    · simp [h]
  rw [e]
  have : 0 < 2 ^ (8 * i) := Nat.pow_pos (by decide)
  constructor
  · intro h q; rw [q] at h; simp at h
  · intro h q
    have q' : (a / 256 ^ i % 256) * 2 ^ (8 * i) = 0 := by exact_mod_cast q
    rcases Nat.mul_eq_zero.mp q' with q | q
    · exact h q
    · omega
theorem field_val (a i : Nat) : Builtin.bitAnd ((a : Int).fdiv (2 ^ ((i : Int) * 8).toNat)) 255 = ((a / 256 ^ i % 256 : Nat) : Int) := by
  rw [toNat8, Int.fdiv_eq_ediv_of_nonneg _ (Int.le_of_lt (kbt_pos _))]
  have e := kbt_mask (((a / 256 ^ i : Nat) : Int)) 8
  rw [show ((2 : Int) ^ 8 - 1) = 255 from by decide, show ((2 : Int) ^ 8) = 256 from by decide] at e
  rw [← kbt_cast, pow256, ← Int.natCast_ediv, e]
  omega
theorem fieldAt_lo {a l i : Nat} (h : i < 4) : fieldAt a l i = a / 256 ^ i % 256 := if_pos h
theorem fieldAt_hi (a l i : Nat) : fieldAt a l (4 + i) = l / 256 ^ i % 256 := by
  unfold fieldAt
  rw [if_neg (by omega), show 4 + i - 4 = i from by omega]
theorem encTo_skip {f : Nat → Nat} {k : Nat} (h : f k = 0) : encTo f (k + 1) = encTo f k := by simp [encTo, maskTo, bytesTo, h]
theorem encTo_take {f : Nat → Nat} {k : Nat} (h : f k ≠ 0) : ((encTo f k).toArray.push (f k).toUInt8).setIfInBounds 0 ((128 + (maskTo f k + 2 ^ k)).toUInt8) = (encTo f (k + 1)).toArray := by
  apply Array.ext'
  simp [encTo, maskTo, bytesTo, h]
theorem toUInt8_toNat {n : Nat} (h : n < 256) : n.toUInt8.toNat = n := by
  simp [Nat.mod_eq_of_lt h]
theorem or_bit1 {i m : Nat} (hk : i < 6) (hm : m < 2 ^ i) : Builtin.bitOr ((128 + m : Nat) : Int) (1 * 2 ^ ((i : Int)).toNat) = ((128 + (m + 2 ^ i) : Nat) : Int) := by
  rw [← or_bit hk hm, Int.one_mul, Int.toNat_natCast, kbt_cast]
theorem or_bit2 {i m : Nat} (hk : i < 2) (hm : m < 2 ^ (4 + i)) : Builtin.bitOr ((128 + m : Nat) : Int) (1 * 2 ^ (4 + (i : Int)).toNat) = ((128 + (m + 2 ^ (4 + i)) : Nat) : Int) := by
  rw [← or_bit (by omega) hm, Int.one_mul, kbt_cast, show (4 + (i : Int)).toNat = 4 + i from by omega]
theorem field_bit0 {a i : Nat} (h : Builtin.bitAnd (a : Int) (255 * 2 ^ ((i : Int) * 8).toNat) = 0) : a / 256 ^ i % 256 = 0 :=
  Decidable.not_not.mp fun q => (field_bit a i).mpr q h
theorem encTo_size (f : Nat → Nat) (k : Nat) : (encTo f k).toArray.size ≤ k + 1 := by
  have := bytesTo_len f k
  simp [encTo]; omega
theorem encTo_head (f : Nat → Nat) (k : Nat) (y : UInt8) : ((encTo f k).toArray.push y)[0]? = some (128 + maskTo f k).toUInt8 := by
  simp [encTo]
end
section
open PySem PySem.W
/-- a row of a comparison -/
structure Row where
  k : Nat
  i1 : Nat
  i2 : Nat
  j1 : Nat
  j2 : Nat
def kindStr : Nat → Str
  | 0 => Str.ofString "equal"
  | 1 => Str.ofString "delete"
  | 2 => Str.ofString "insert"
  | _ => Str.ofString "replace"
def copyCh (a n : Nat) : List (Array UInt8) := if n = 0 then [] else (encCopy a (min n 65535)).toArray :: copyCh (a + min n 65535) (n - min n 65535)
termination_by n
def insCh (t : Array UInt8) (o s : Nat) : List (Array UInt8) := if _h : 127 < s then #[127] :: t.extract o (o + 127) :: insCh t (o + 127) (s - 127) else [#[s.toUInt8], t.extract o (o + s)]
termination_by s
decreasing_by omega
def rowCh (t : Array UInt8) (r : Row) : List (Array UInt8) := (if r.k = 0 then copyCh r.i1 (r.i2 - r.i1) else []) ++ (if 2 ≤ r.k then insCh t r.j1 (r.j2 - r.j1) else [])
def deltaCh (b t : Array UInt8) (rows : List Row) : List (Array UInt8) := (varint b.size).toArray :: (varint t.size).toArray :: rows.flatMap (rowCh t)
def RowIs (h : Heap) (v : Value) (r : Row) : Prop := ∃ T t0 t1 t2 t3 t4, v = .ref T ∧ h.IsTuple T #[.str (kindStr r.k) t0, .int r.i1 t1, .int r.i2 t2, .int r.j1 t3, .int r.j2 t4]
def RowsAt (h : Heap) (a : Addr) (rows : List Row) : Prop := ∃ items : Array Value, h.IsList a items ∧ items.size = rows.length ∧ ∀ (i : Nat) (r : Row), rows[i]? = some r → ∃ v : Value, items[i]? = some v ∧ RowIs h v r
/-- a row within its texts -/
def Row.Ok (b t : Array UInt8) (r : Row) : Prop := r.k < 4 ∧ r.i1 ≤ r.i2 ∧ r.i2 ≤ b.size ∧ r.j1 ≤ r.j2 ∧ r.j2 ≤ t.size
/-- a text handed in whole or in two parts -/
def Buf (h : Heap) (v : Value) (b : Array UInt8) : Prop := (∃ t, v = .bytes b t) ∨ ∃ l items xs, v = .ref l ∧ h.IsList l items ∧ BytesL items.toList xs ∧ b = catB xs
theorem kind_equal (k : Nat) : (kindStr k == Str.ofString "equal") = decide (k = 0) := by
  match k with
  | 0 => decide +kernel
  | 1 => decide +kernel
  | 2 => decide +kernel
  | n + 3 => rw [show kindStr (n + 3) = Str.ofString "replace" from rfl, decide_eq_false (by omega)]; decide +kernel
theorem kind_replace (k : Nat) : (kindStr k == Str.ofString "replace") = decide (3 ≤ k) := by
  match k with
  | 0 => decide +kernel
  | 1 => decide +kernel
  | 2 => decide +kernel
  | n + 3 => rw [show kindStr (n + 3) = Str.ofString "replace" from rfl, decide_eq_true (by omega)]; decide +kernel
theorem kind_insert (k : Nat) : (kindStr k == Str.ofString "insert") = decide (k = 2) := by
  match k with
  | 0 => decide +kernel
  | 1 => decide +kernel
  | 2 => decide +kernel
  | n + 3 => rw [show kindStr (n + 3) = Str.ofString "replace" from rfl, decide_eq_false (by omega)]; decide +kernel
theorem copyCh_zero (a : Nat) : copyCh a 0 = [] := by rw [copyCh, if_pos rfl]
theorem copyCh_pos {a n : Nat} (h : n ≠ 0) : copyCh a n = (encCopy a (min n 65535)).toArray :: copyCh (a + min n 65535) (n - min n 65535) := by rw [copyCh, if_neg h]
theorem insCh_big {t : Array UInt8} {o s : Nat} (h : 127 < s) : insCh t o s = #[127] :: t.extract o (o + 127) :: insCh t (o + 127) (s - 127) := by rw [insCh, dif_pos h]
theorem insCh_small {t : Array UInt8} {o s : Nat} (h : ¬ 127 < s) : insCh t o s = [#[s.toUInt8], t.extract o (o + s)] := by rw [insCh, dif_neg h]
theorem byteArr1 (n : Nat) : byteArr [(n : Int)] = #[n.toUInt8] := by
  simp [byteArr]
theorem byteArr127 : byteArr [127] = #[127] := byteArr1 127
end
section
open PySem PySem.W
theorem octAt_of {D : Array UInt8} {P : List UInt8} {c : UInt8} {R : List UInt8} (h : D.toList = P ++ c :: R) : octAt D P.length = c.toNat := by
  unfold octAt
  rw [h, List.getD_eq_getElem?_getD, List.getElem?_append_right (Nat.le_refl _), Nat.sub_self]
  rfl
theorem size_of {D : Array UInt8} {l : List UInt8} (h : D.toList = l) : D.size = l.length := by rw [← h]; simp
theorem varint_pos (n : Nat) : 0 < (varint n).length := by
  by_cases h : n < 128
  · rw [varint_lo h]; simp
  · rw [varint_hi h]; simp
theorem varint_step {D : Array UInt8} {P R : List UInt8} {m : Nat} (h : D.toList = P ++ (varint m ++ R)) :
    (m < 128 ∧ octAt D P.length = m ∧ (varint m).length = 1) ∨
    (128 ≤ m ∧ octAt D P.length = m % 128 + 128 ∧ D.toList = (P ++ [(m % 128 + 128).toUInt8]) ++ (varint (m / 128) ++ R) ∧ (varint m).length = 1 + (varint (m / 128)).length) := by
  by_cases hm : m < 128
  · refine .inl ⟨hm, ?_, by rw [varint_lo hm]; rfl⟩
    rw [varint_lo hm] at h
    rw [octAt_of (c := m.toUInt8) (R := R) h, toUInt8_toNat (by omega)]
  · rw [varint_hi hm] at h ⊢
    refine .inr ⟨by omega, ?_, ?_, ?_⟩
    · rw [octAt_of (c := (m % 128 + 128).toUInt8) (R := varint (m / 128) ++ R) h, toUInt8_toNat (by omega)]
    · rw [h]; simp
    · rw [List.length_cons]; omega
theorem fmod_nat (a b : Nat) : Int.fmod (a : Int) (b : Int) = ((a % b : Nat) : Int) := by
  rw [Int.fmod_eq_emod_of_nonneg _ (Int.natCast_nonneg b), Int.natCast_emod]
theorem fdiv_nat (a b : Nat) : Int.fdiv (a : Int) (b : Int) = ((a / b : Nat) : Int) := by
  rw [Int.fdiv_eq_ediv_of_nonneg _ (Int.natCast_nonneg b), Int.natCast_ediv]
end
section
open PySem PySem.W
/-- a deed of the delta -/
inductive Op where
  | copy (a n : Nat)
  | ins (d : List UInt8)
def Op.enc : Op → List UInt8
  | .copy a n => encCopy a n
  | .ins d => d.length.toUInt8 :: d
def Op.Ok (b : Array UInt8) : Op → Prop
  | .copy a n => 0 < n ∧ n < 65536 ∧ a + n ≤ b.size
  | .ins d => 0 < d.length ∧ d.length < 128
def Op.out (b : Array UInt8) : Op → List UInt8
  | .copy a n => (b.extract a (a + n)).toList
  | .ins d => d
theorem Op.enc_pos (o : Op) : 0 < o.enc.length := by cases o <;> simp [Op.enc, encCopy, encTo]
theorem bytesTo_split (f : Nat → Nat) : ∀ k n, k ≤ n → ∃ r, bytesTo f n = bytesTo f k ++ r
  | k, n, h => by
    induction n with
    | zero => exact ⟨[], by rw [show k = 0 from by omega]; simp [bytesTo]⟩
    | succ n ih =>
      by_cases q : k = n + 1
      · exact ⟨[], by rw [q]; simp⟩
      · obtain ⟨r, hr⟩ := ih (by omega)
        exact ⟨r ++ (if f n = 0 then [] else [(f n).toUInt8]), by rw [bytesTo, hr, List.append_assoc]⟩
/-- the octet of the k-th field -/
theorem field_oct {D : Array UInt8} {P R : List UInt8} {f : Nat → Nat} {k : Nat} (hk : k < 6) (hf : f k ≠ 0) (hf2 : f k < 256) (h : D.toList = P ++ (encTo f 6 ++ R)) :
    octAt D (P.length + 1 + (bytesTo f k).length) = f k ∧ P.length + 1 + (bytesTo f k).length < D.size := by
  obtain ⟨r, hr⟩ := bytesTo_split f (k + 1) 6 (by omega)
  rw [show bytesTo f (k + 1) = bytesTo f k ++ [(f k).toUInt8] from by rw [bytesTo, if_neg hf]] at hr
  have e : D.toList = (P ++ (128 + maskTo f 6).toUInt8 :: bytesTo f k) ++ (f k).toUInt8 :: (r ++ R) := by
    rw [h, encTo, hr]; simp
  have l : (P ++ (128 + maskTo f 6).toUInt8 :: bytesTo f k).length = P.length + 1 + (bytesTo f k).length := by simp; omega
  refine ⟨?_, ?_⟩
  · rw [← l, octAt_of e, toUInt8_toNat hf2]
  · rw [size_of e, List.length_append, l, List.length_cons]; omega
theorem add_pow_bit (m n k : Nat) (h : k < n) : (m + 2 ^ n) / 2 ^ k % 2 = m / 2 ^ k % 2 := by
  obtain ⟨j, rfl⟩ : ∃ j, n = k + 1 + j := ⟨n - (k + 1), by omega⟩
  have hp : 0 < 2 ^ k := Nat.pow_pos (by decide)
  rw [show 2 ^ (k + 1 + j) = 2 ^ k * (2 * 2 ^ j) from by rw [Nat.pow_add, Nat.pow_succ, Nat.mul_assoc], Nat.add_mul_div_left _ _ hp]
  omega
theorem mask_bit {f : Nat → Nat} : ∀ n k, k < n → maskTo f n / 2 ^ k % 2 = if f k = 0 then 0 else 1
  | n + 1, k, h => by
    have hp : 0 < 2 ^ k := Nat.pow_pos (by decide)
    rw [maskTo]
    by_cases q : k = n
    · subst q
      have := maskTo_lt f k
      split
      · rw [Nat.add_zero, Nat.div_eq_of_lt this]
      · rw [Nat.add_div_right _ hp, Nat.div_eq_of_lt this]
    · have ih := mask_bit (f := f) n k (by omega)
      rw [← ih]
      split
      · rw [Nat.add_zero]
      · exact add_pow_bit _ _ _ (by omega)
theorem deed_bit (f : Nat → Nat) {k : Nat} (h : k < 6) : (128 + maskTo f 6) / 2 ^ k % 2 = if f k = 0 then 0 else 1 := by
  rw [Nat.add_comm, show (128 : Nat) = 2 ^ 7 from rfl, add_pow_bit _ _ _ (by omega), mask_bit 6 k h]
theorem deed_bit6 (f : Nat → Nat) : (128 + maskTo f 6) / 2 ^ 6 % 2 = 0 := by
  have := maskTo_lt f 6
  omega
theorem fields_start {a n : Nat} (h : a < 4294967296) : fieldAt a n 0 + 256 * fieldAt a n 1 + 65536 * fieldAt a n 2 + 16777216 * fieldAt a n 3 = a := by
  simp only [fieldAt_lo (show 0 < 4 by decide), fieldAt_lo (show 1 < 4 by decide), fieldAt_lo (show 2 < 4 by decide), fieldAt_lo (show 3 < 4 by decide)]
  omega
theorem fields_size {a n : Nat} (h : n < 65536) : fieldAt a n 4 + 256 * fieldAt a n 5 = n := by
  rw [show 4 = 4 + 0 from rfl, show 5 = 4 + 1 from rfl, fieldAt_hi, fieldAt_hi]
  omega
theorem extract_mid {D : Array UInt8} {P dd R : List UInt8} {c : UInt8} (h : D.toList = P ++ ((c :: dd) ++ R)) : D.extract (P.length + 1) (P.length + 1 + dd.length) = dd.toArray := by
  apply Array.ext'
  rw [Array.toList_extract, List.extract_eq_take_drop, h, show P ++ ((c :: dd) ++ R) = (P ++ [c]) ++ (dd ++ R) from by simp]
  rw [List.drop_append_of_le_length (by simp), List.drop_of_length_le (by simp), List.nil_append, show P.length + 1 + dd.length - (P.length + 1) = dd.length from by omega]
  simp
theorem bit_cast (m i : Nat) : ((m : Int).fdiv (2 ^ ((i : Int)).toNat)).fmod 2 = ((m / 2 ^ i % 2 : Nat) : Int) := by
  rw [Int.toNat_natCast, ← kbt_cast, fdiv_nat, show (2 : Int) = ((2 : Nat) : Int) from rfl, fmod_nat]
theorem bytesTo_take {f : Nat → Nat} {k : Nat} (h : f k ≠ 0) : (bytesTo f (k + 1)).length = (bytesTo f k).length + 1 := by rw [bytesTo, if_neg h]; simp
theorem bytesTo_skip {f : Nat → Nat} {k : Nat} (h : f k = 0) : bytesTo f (k + 1) = bytesTo f k := by rw [bytesTo, if_pos h]; simp
theorem deed6 (f : Nat → Nat) : ((((128 + maskTo f 6 : Nat) : Int).fdiv 64).fmod 2) = 0 := by
  rw [show (64 : Int) = ((64 : Nat) : Int) from rfl, fdiv_nat, show (2 : Int) = ((2 : Nat) : Int) from rfl, fmod_nat]
  have h := maskTo_lt f 6
  omega
theorem start_int {a n : Nat} (h : a < 4294967296) : (((fieldAt a n 0 : Nat) : Int) + 256 * ((fieldAt a n 1 : Nat) : Int) + 65536 * ((fieldAt a n 2 : Nat) : Int) + 16777216 * ((fieldAt a n 3 : Nat) : Int)) = (a : Int) := by
  have := fields_start (a := a) (n := n) h
  omega
theorem size_int {a n : Nat} (h : n < 65536) : (((fieldAt a n 4 : Nat) : Int) + 256 * ((fieldAt a n 5 : Nat) : Int)) = (n : Int) := by
  have := fields_size (a := a) (n := n) h
  omega
theorem start_intL {a n : Nat} (h : a < 4294967296) : ([((fieldAt a n 0 : Nat) : Int), ((fieldAt a n 1 : Nat) : Int), ((fieldAt a n 2 : Nat) : Int), ((fieldAt a n 3 : Nat) : Int), ((fieldAt a n 4 : Nat) : Int), ((fieldAt a n 5 : Nat) : Int), ((0 : Nat) : Int)] : List Int).getD (Int.toNat 0) 0 + 256 * ([((fieldAt a n 0 : Nat) : Int), ((fieldAt a n 1 : Nat) : Int), ((fieldAt a n 2 : Nat) : Int), ((fieldAt a n 3 : Nat) : Int), ((fieldAt a n 4 : Nat) : Int), ((fieldAt a n 5 : Nat) : Int), ((0 : Nat) : Int)] : List Int).getD (Int.toNat 1) 0 + 65536 * ([((fieldAt a n 0 : Nat) : Int), ((fieldAt a n 1 : Nat) : Int), ((fieldAt a n 2 : Nat) : Int), ((fieldAt a n 3 : Nat) : Int), ((fieldAt a n 4 : Nat) : Int), ((fieldAt a n 5 : Nat) : Int), ((0 : Nat) : Int)] : List Int).getD (Int.toNat 2) 0 + 16777216 * ([((fieldAt a n 0 : Nat) : Int), ((fieldAt a n 1 : Nat) : Int), ((fieldAt a n 2 : Nat) : Int), ((fieldAt a n 3 : Nat) : Int), ((fieldAt a n 4 : Nat) : Int), ((fieldAt a n 5 : Nat) : Int), ((0 : Nat) : Int)] : List Int).getD (Int.toNat 3) 0 = (a : Int) := by
  have := start_int (n := n) h
  rw [show (Int.toNat 0) = 0 from rfl, show (Int.toNat 1) = 1 from rfl, show (Int.toNat 2) = 2 from rfl, show (Int.toNat 3) = 3 from rfl]
  simp only [List.getD_cons_zero, List.getD_cons_succ]
  exact this
theorem size_intL {a n : Nat} (h : n < 65536) : ([((fieldAt a n 0 : Nat) : Int), ((fieldAt a n 1 : Nat) : Int), ((fieldAt a n 2 : Nat) : Int), ((fieldAt a n 3 : Nat) : Int), ((fieldAt a n 4 : Nat) : Int), ((fieldAt a n 5 : Nat) : Int), ((0 : Nat) : Int)] : List Int).getD (Int.toNat 4) 0 + 256 * ([((fieldAt a n 0 : Nat) : Int), ((fieldAt a n 1 : Nat) : Int), ((fieldAt a n 2 : Nat) : Int), ((fieldAt a n 3 : Nat) : Int), ((fieldAt a n 4 : Nat) : Int), ((fieldAt a n 5 : Nat) : Int), ((0 : Nat) : Int)] : List Int).getD (Int.toNat 5) 0 = (n : Int) := by
  have := size_int (a := a) h
  rw [show (Int.toNat 4) = 4 from rfl, show (Int.toNat 5) = 5 from rfl]
  simp only [List.getD_cons_zero, List.getD_cons_succ]
  exact this
end
section
open PySem PySem.W PySem.Spec PySem.Calls PyProof.Rows

/-- a tree behind a look at the machine's stack: where some builtin lends memory out, the answer is `a` at once -/
def look {α : Type} (a : α) (t : Sem α) : Sem α := .stack fun st => if st.any (fun x => isHold x.1) then .pure a else t

theorem hf_of_stack {Γ : PySem.Ctx} {p : Pos} (h : (((Γ.code, p) :: Γ.below).any fun x => isHold x.1) = false) : HF Γ :=
  have h' := List.any_eq_false.mp h
  ⟨eq_false_of_ne_true (h' _ (.head _)), fun x hx => eq_false_of_ne_true (h' x (.tail _ hx))⟩
theorem stack_of_hf {Γ : PySem.Ctx} {p : Pos} (h : HF Γ) : (((Γ.code, p) :: Γ.below).any fun x => isHold x.1) = false := mem_any_false fun x hx => by
  rcases List.mem_cons.mp hx with rfl | hx
  · exact h.1
  · exact h.2 x hx

section
variable {α β : Type} {M : Model} {A : Around} {E : Value → Shared → Prop} {s : Shared}
theorem wpAny_look {a : α} {t : Sem α} {Q : α → Shared → Prop} (h : wpB true M A t Q E s) (ha : Q a s) : wpAny M A (look a t) Q E s := fun Γ p hΓ => by
  show Sem.wp M Γ (if ((Γ.code, p) :: Γ.below).any (fun x => isHold x.1) then Sem.pure a else t) _ _ p s
  cases hc : ((Γ.code, p) :: Γ.below).any fun x => isHold x.1 with
  | true => exact ha
  | false => exact h Γ p hΓ fun _ => hf_of_stack hc
theorem look_mono {a : α} {t : Sem α} {a' : β} {t' : Sem β} {Q : α → Shared → Prop} {Q' : β → Shared → Prop} (h : wpAny M A (look a t) Q E s)
    (ha : Q a s → Q' a' s) (ht : wpB true M A t Q E s → wpB true M A t' Q' E s) : wpAny M A (look a' t') Q' E s := fun Γ p hΓ => by
  show Sem.wp M Γ (if ((Γ.code, p) :: Γ.below).any (fun x => isHold x.1) then Sem.pure a' else t') _ _ p s
  cases hc : ((Γ.code, p) :: Γ.below).any fun x => isHold x.1 with
  | true =>
    have h' : Sem.wp M Γ (if ((Γ.code, p) :: Γ.below).any (fun x => isHold x.1) then Sem.pure a else t) (fun a _ s' => Q a s') (fun e _ s' => E e s') p s := h Γ p hΓ
    rw [hc] at h'
    exact ha h'
  | false =>
    refine ht (fun Γ' p' hΓ' hF => ?_) Γ p hΓ fun _ => hf_of_stack hc
    have h' : Sem.wp M Γ' (if ((Γ'.code, p') :: Γ'.below).any (fun x => isHold x.1) then Sem.pure a else t) (fun a _ s' => Q a s') (fun e _ s' => E e s') p' s := h Γ' p' hΓ'
    rw [stack_of_hf (hF rfl)] at h'
    exact h'
end

/-- under two existentials, one conjunct for another -/
theorem swap_run {L : List Value → Shared → Prop} {S S' : List Value → Shared → Nat → Outcome → Shared → Prop} {R : List Value → Shared → Outcome → Shared → Prop}
    (h : ∀ vs s₁, L vs s₁ → ∀ n o s', S vs s₁ n o s' → ∃ n', S' vs s₁ n' o s') :
    (∃ vs s₁, L vs s₁ ∧ ∃ n o s', S vs s₁ n o s' ∧ R vs s₁ o s') → ∃ vs s₁, L vs s₁ ∧ ∃ n o s', S' vs s₁ n o s' ∧ R vs s₁ o s' := fun ⟨vs, s₁, l, n, o, s', x, y⟩ =>
  have ⟨n', z⟩ := h vs s₁ l n o s' x
  ⟨vs, s₁, l, n', o, s', z, y⟩
theorem swap_last {F G : Shared → Prop} {T X Y Z C C' : Shared → Shared → Prop} (h : ∀ s₀ s₁, F s₀ → T s₀ s₁ → C s₀ s₁ → C' s₀ s₁) :
    (∃ s₀, F s₀ ∧ G s₀ ∧ ∃ s₁, T s₀ s₁ ∧ X s₀ s₁ ∧ Y s₀ s₁ ∧ Z s₀ s₁ ∧ C s₀ s₁) → ∃ s₀, F s₀ ∧ G s₀ ∧ ∃ s₁, T s₀ s₁ ∧ X s₀ s₁ ∧ Y s₀ s₁ ∧ Z s₀ s₁ ∧ C' s₀ s₁ := fun ⟨s₀, f, g, s₁, t, x, y, z, c⟩ =>
  ⟨s₀, f, g, s₁, t, x, y, z, h s₀ s₁ f t c⟩
/-- the caller's own stack lends nothing: there the look is one step of the machine -/
theorem look_run {prog : Program} {w : World} {s : Shared} {a : Fin} {t : Sem Fin} (hz : s.asleep) : ∀ (n : Nat) (o : Outcome) (s' : Shared),
    schedN (denote table) prog w n (.single s ⟨look a t, .builtin "claim.caller" {}, default, []⟩) = .halted o s' → ∃ n', schedN (denote table) prog w n' (.single s ⟨t, .builtin "claim.caller" {}, default, []⟩) = .halted o s'
  | 0, _, _, h => by cases h
  | n + 1, _, _, h => by
    rcases sstep_single (denote table) prog w s ⟨look a t, .builtin "claim.caller" {}, default, []⟩ rfl hz with e | e
    · rw [schedN, e] at h
      exact ⟨n, h⟩
    · cases e
/-- the claim with the look is the claim without -/
theorem unlook {c : ClaimW} {a : Fin} {tree : List Value → Sem Fin} {defs keeps : List Str} {writes : Bool}
    (hz : ∀ w s, AfterRun (opening c.prog) w s → ∀ s₀, fenceModules? c.prog s = some s₀ → s₀.asleep)
    (H : c.HoldsOpenBy (fun vs => ⟨look a (tree vs), .builtin "claim.caller" {}, default, []⟩) defs keeps writes) :
    c.HoldsOpenBy (fun vs => ⟨tree vs, .builtin "claim.caller" {}, default, []⟩) defs keeps writes :=
  ⟨H.1, H.2.1, fun w => ⟨(H.2.2 w).1, fun s hs => swap_last (fun s₀ _ hf hT hC args hp hl ord ho =>
    swap_run (fun _ _ hlaid => look_run (Shared.asleep_of_life (layAllW_rest _ _ _ hlaid).2.2.2 (Shared.asleep_of_life hT.2.1 (hz w s hs s₀ hf)))) (hC args hp hl ord ho)) ((H.2.2 w).2 s hs)⟩⟩

/-- what a walk of my own has to show -/
abbrev WalkB (q : Program) (loose : List Str) (XP : (Str → Option Value) → Heap → Prop) (YP : World → Heap → Prop) (r : RowW) : Prop :=
  ∀ (w : World) (s₀ s₁ : Shared) (mg mb : Str → Option Value), Ground q loose r.records XP w s₀ mg mb s₁.heap → YP w s₁.heap → ∀ (args : List WData) (vs : List Value) (as : List Addr),
    r.claim.pre args = true → WData.layableAll args = true → Laid r.records w s₀ s₁ args vs as → sysModules < s₀.heap.objs.size → ∃ f, mg r.name = some f ∧
      wpB true (model r.prog w) callerA (PySem.call f vs) (fun v s' => GoodWG r.claim (classAt s₀.heap) (ExcName.means s₀.heap) args s₁ (.ok (.ret v)) s')
        (fun e s' => GoodWG r.claim (classAt s₀.heap) (ExcName.means s₀.heap) args s₁ (.error e) s') s₁ ∧
      GoodWG r.claim (classAt s₀.heap) (ExcName.means s₀.heap) args s₁ (.ok (.ret (.bool true))) s₁

end
end Mine
/-- the head for such a walk: the library's own open_anyG, for the call behind a look -/
theorem Mine.PySem.W.holds_open {r : OpenRow} {q : Program} {loose : List Str} {Xt : Shared → Bool} {XP : (Str → Option Value) → Heap → Prop} {α : Type} {Yf : Shared → α} {Ya : World → α} {YP : World → Heap → Prop} {d : DefRec} {kwd : List (Str × Expr)} {N : Nat}
    (left : ∀ w, (openEnds treeTable r.prog w N).map (fun s => (openSeen q loose (importedModules r.prog.main.body) Xt true s, Yf s)) = some (openGood q loose, Ya w)) (hY : ∀ w s, Yf s = Ya w → YP w s.heap) (hYk : ∀ w h h', YP w h → (∀ b o, h.get? b = some o → h'.get? b = some o) → YP w h')
    (hX : ∀ s, Xt s = true → XP (s.heap.nsMap mainGlobals) s.heap) (hXk : ∀ mg h h', XP mg h → (∀ b o, h.get? b = some o → h'.get? b = some o) → XP mg h')
    (hdef : defOf q r.name = some (d, kwd)) (hp : r.prog.theDef r.name = some (d.params, d.body, d.scope)) (hk : kwWritten? d.params.kwonlyargs d.params.kw_defaults = some kwd) (hRf : ∀ s, Xt s = true → RecFacts r.records s.heap) (hwr : (!r.writes || r.records.isEmpty) = true)
    (k1 : r.wellSaid = true) (ok : (chainsOk q && opensWell r.prog && (frees r.toRowW && r.within.isEmpty)) = true) (hb : r.prog.bare) (hw : r.toRowW.promised)
    (call : WalkB q loose XP YP r.toRowW) : r.Holds := by
  have hch : chainsOk q = true := (Bool.and_eq_true_iff.mp (Bool.and_eq_true_iff.mp ok).1).1
  refine ⟨k1, hw, unlook (a := .done (.ret (.bool true))) (fun w s hs s₀ hf => ?_) (open_anyG (r := r.toRowW) (run := fun f vs => look (.bool true) (PySem.call f vs))
    (tree := fun vs => look (.done (.ret (.bool true))) (callStub r.name vs).cur) left hY hYk hX hXk hRf hwr ok hb hw ?_ ?_ ?_)⟩
  · obtain ⟨s₀', hf', _, s₁, hT, hz, _⟩ := (LeftO.behind left hX hch w).2 s hs
    cases hf.symm.trans hf'
    exact Shared.asleep_of_life hT.2.1.symm hz
  · intro vs w s mg f Q E hg hf h
    refine look_mono h (fun x => x) fun h => wpB_step (wpAny_nsGet hg ?_)
    rw [hf]
    exact wpB_bind (wpB_mono h (fun _ _ x => wpB_pure x) fun _ _ x => x)
  · intro w s hg G n hn
    have e : n = r.name := by
      cases hr : r.pinned with
      | true => rw [hr] at hn; exact List.mem_singleton.mp hn
      | false => rw [hr] at hn; cases hn
    exact e ▸ pinned_of_view hg G hdef hp hk
  · exact fun w s₀ s₁ mg mb G Y args vs as hpre hlay L low => have ⟨f, h1, h2, h3⟩ := call w s₀ s₁ mg mb G Y args vs as hpre hlay L low; ⟨f, h1, wpAny_look h2 h3⟩
namespace Mine
open PySem PySem.W PySem.Calls PyProof.Rows
section
open PySem PySem.W PySem.Spec PySem.Calls PyProof.Rows

set_option maxHeartbeats 8000000
open_top hdB for PySem.Challenge.rw_iy0003_01
end
section
open PySem PySem.W PySem.Calls PyProof.Rows
section
variable {prog : Program} {w : World} {A : Around} {E : Value → Shared → Prop} {s : Shared}
theorem ord_cut {D : Array UInt8} {i j : Nat} {t : Tok} {Q : Value → Shared → Prop} (hj : j = i + 1) (hi : i < D.size) (h : Q (.int (octAt D i) s.toks) { s with toks := s.toks + 1 }) :
    wpAny (model prog w) A (call (.builtin "ord") [.bytes (D.extract i j) t]) Q E s := by
  refine call_function_entry F.kind_ord F.plain_ord F.entry_ord (F.args_ord1 _) ?_
  have e : (D.extract i j).toList.map (·.toNat) = [octAt D i] := by
    subst hj
    rw [Array.toList_extract, List.extract_eq_take_drop, show i + 1 - i = 1 from by omega]
    have hl : i < D.toList.length := by rw [Array.length_toList]; exact hi
    rw [List.drop_eq_getElem_cons hl]
    simp [octAt, List.getD_eq_getElem?_getD, hi]
  unfold Builtin.«ord»
  refine wpAny_bind (wpAny_of_eq (a := Value.bytes (D.extract i j) t) rfl ?_)
  refine wpAny_bind (wpAny_of_eq (a := (none : Option Str)) rfl ?_)
  refine wpAny_bind (wpAny_of_eq (a := some (D.extract i j)) rfl ?_)
  refine wpAny_bind (wpAny_pure ?_)
  dsimp only [Option.map]
  rw [e]
  exact wpAny_bind (wpAny_mkInt (wpAny_pure ⟨_, rfl, h⟩))

theorem ldX {M : Model} {h₀ : Heap} {L a : Addr} {m : Str → Option Value} {cn : Str} {cs : Scope} {ccd : Value} {cl : List (Str × Addr)} {x : Str} {v : Value} {Q : Value → Shared → Prop}
    (F : Fr h₀ L s.heap m) (hv : m x = some v) (h : Q v s) (hk : cs.kind = .function := by rfl) (hl : (envX cn cs L a ccd cl).kindOf x = some .local := by rfl) :
    wpAny M A (loadName (envX cn cs L a ccd cl) x) Q E s := wpAny_loadName_local hk hl F.ns hv h
theorem nameX_FB {M : Model} {h₀ : Heap} {L a : Addr} {m : Str → Option Value} {cn : Str} {cs : Scope} {ccd : Value} {cl : List (Str × Addr)} {x : Str} {pos : Pos} {v : Value} {Q : Value → Shared → Prop} {c : Addr} {o : Obj}
    (F : Fr h₀ L s.heap m) (hc : cl.lookup x = some c) (ho : h₀.get? c = some o) (hd : o.data = .cell (some v)) (h : Q v s)
    (hk : cs.kind = .function := by rfl) (hx : (envX cn cs L a ccd cl).kindOf x = some .free := by rfl) (hb : (x == ("__debug__" : Str)) = false := by decide) (hn : (x == ("__classdict__" : Str)) = false := by decide) :
    wpAny M A (eval (.Name x pos) (envX cn cs L a ccd cl)) Q E s := wpAny_Name (wpAny_loadName_free hk hx hc ⟨o, F.keep _ _ ho, hd⟩ h hn) hb

/-- out.append(e) for a list of the ledger -/
theorem appendL {b : Bool} {env : Env} {o e : Expr} {apos pos : Pos} {Q : Value → Shared → Prop}
    (hbase : attributeBase o "append" env (eval o env) = eval o env) (hfew : methodCallForm ([e].length + 0) (backTo pos (starEach [e] env)) (backToKw pos (keywordEach [] env)) = true)
    (hline : (apos.endLine == pos.line) = true) (htrees : backTo pos (starEach [e] env) = [(false, eval e env)])
    (h : wpAny (model prog w) A (eval o env) (fun ov s₁ => Then <| ∃ a its n, ov = .ref a ∧ s₁.heap.get? a = some (W.listOf its n) ∧
      wpB b (model prog w) A (eval e env) (fun v s₂ => Then <| ∃ its n, s₂.heap.get? a = some (W.listOf its n) ∧ its.size < 16777216 ∧
        ∀ h' n', h'.get? a = some (W.listOf (its.push v) n') → Heap.SameBut a s₂.heap h' → Q .none { s₂ with heap := h' }) E s₁) E s) :
    wpB b (model prog w) A (eval (.Call (.Attribute o "append" apos) [e] [] pos) env) Q E s := by
  refine wpB_method hbase hfew hline htrees (wpAny_mono h (fun ov s₁ h₁ => ?_) fun _ _ x => x)
  obtain ⟨a, its, n, rfl, ha, h₁⟩ := h₁
  refine ⟨_, _, PySem.F.plainAttrs_list, slot_list_append, type_list_append, ⟨_, ha, rfl⟩, fun a' e' => by cases e'; exact ⟨_, ha, rfl⟩, wpB_mono h₁ (fun v s₂ h₂ => ?_) fun _ _ x => x⟩
  obtain ⟨its, n, hy, hz, k⟩ := h₂
  exact wpB_any (wpAny_list_append_plain ⟨n, hy⟩ (fun h' ⟨n', e1⟩ e2 => k h' n' e1 e2) (by rw [sizeLine_eq]; omega))

/-- a def with cells, entered over a base of its own -/
theorem codeB_Kcells {b : Bool} {R : Result → Shared → Prop} {K : Frag} {f : Addr} {oc : Value} {od : Option Addr} {osl : Array (Option Value)} {name qual : Str} {params : Arguments} {body : List Stmt} {scope : Scope} {dV kV doc pm cdv ct : Value} {an : Option Addr} {args : Args} (binds : List (Str × Value))
    {G : Heap} {news : List (Addr × Obj)} (hG : ∀ b o, G.get? b = some o → s.heap.get? b = some o) (hGs : G.objs.size ≤ s.heap.objs.size) (hN : ∀ p ∈ news, s.heap.get? p.1 = some p.2 ∧ G.get? p.1 = none)
    (X : K.In G) (hlim : s.heap.NoLimit) (hroom : A.depth < recursionLimit)
    (ho : K.lookup f = some ⟨oc, od, .func (fnX name qual params body scope [] dV kV doc pm an cdv ct), osl⟩) (hcd : codeIn K cdv qual = true)
    (hbind : BindsTo s (fnX name qual params body scope [] dV kV doc pm an cdv ct) args binds)
    (hkind : ∀ n, ∀ x ∈ binds, scope.names.lookup x.1 = some .local ∨ (scope.names.lookup x.1 = some .cell ∧ ((cellsFrom n scope.names []).lookup x.1).isSome = true))
    (hnd : ((cellsFrom 0 scope.names []).map (·.1)).Nodup)
    (h : ∀ L h₁ tk cells, L = s.heap.objs.size → Fr G L h₁ (bindL (envOfC qual scope L f cdv).kindOf binds fun _ => none) → News G L h₁ (cells ++ news) →
      CellsAre (bindC (envOfC qual scope L f cdv).kindOf binds fun _ => none) (cellsFrom (L + 1) scope.names []) cells →
      wpB b (model prog w) (A.deeper (envX qual scope L f cdv (cellsFrom (L + 1) scope.names []))) (execs body (envX qual scope L f cdv (cellsFrom (L + 1) scope.names []))) (fun fl s' => R (.ok (.ret (match fl with | .ret v => v | _ => .none))) s') NE { s with heap := h₁, toks := tk })
    (hco : scope.isCoroutine = false) (hgen : scope.isGenerator = false) (hk : scope.kind = .function) : codeB b (model prog w) A (.call (.ref f) args) R s := by
  refine codeB_call_function hroom (hG _ _ (X _ _ ho)) rfl hco hgen rfl (by
    obtain ⟨c, o, vs, t, e1, e2, e3, e4⟩ := codeRec_of X hcd
    exact ⟨c, o, vs, t, e1, hG _ _ e2, e3, e4⟩) (hbind _ _ _ _ ?_)
  refine wpAny_newFunctionEnv_cells hk (hkind _) fun env' he s' x => ?_
  subst he
  refine ⟨hlim.keeps x.toInCall.keep, codeB_func ?_⟩
  obtain ⟨h₁, tk, rfl, _⟩ := x.done
  have hk₁ := x.toInCall.keep
  obtain ⟨cells, NC, Y⟩ := Cl.news (h₀ := s.heap) (Nat.le_refl _) fun n c hm => ⟨x.cell n c (lookup_of_mem_nodup (cellsFrom_names scope.names 0 (s.heap.objs.size + 1) [] [] rfl ▸ hnd) hm), x.above n c hm⟩
  refine h s.heap.objs.size h₁ tk cells rfl ⟨x.toInCall.ns, fun b o e => hk₁ b o (hG _ _ e), hGs⟩ (fun p hp => ?_) Y
  rcases List.mem_append.mp hp with hp | hp
  · refine ⟨(NC p hp).1, (NC p hp).2.1, ?_⟩
    cases q : G.get? p.1 with
    | none => rfl
    | some o => have := hG _ _ q; rw [(NC p hp).2.2] at this; cases this
  · exact ⟨hk₁ _ _ (hN p hp).1, Nat.ne_of_lt (Heap.lt_size (hN p hp).1), (hN p hp).2⟩

theorem wpB_cut {b : Bool} {M : Model} {env : Env} {st : Stmt} {rest : List Stmt} {Q : Flow → Shared → Prop} (P : Shared → Prop) (h : wpB b M A (exec st env) (fun f s' => f = .next ∧ P s') E s)
    (k : ∀ s', P s' → wpB b M A (execs rest env) Q E s') : wpB b M A (execs (st :: rest) env) Q E s :=
  wpB_execs_cons (wpB_mono h (fun f s' ⟨e, hp⟩ => by subst e; exact k s' hp) fun _ _ x => x)
theorem wpB_cut2 {b : Bool} {M : Model} {env : Env} {d1 d2 : Stmt} {rest : List Stmt} {Q : Flow → Shared → Prop} (P : Shared → Prop)
    (h : wpB b M A (exec d1 env) (fun f s₁ => f = .next ∧ wpB b M A (exec d2 env) (fun f s₂ => f = .next ∧ P s₂) E s₁) E s)
    (k : ∀ s', P s' → wpB b M A (execs rest env) Q E s') : wpB b M A (execs (d1 :: d2 :: rest) env) Q E s :=
  wpB_execs_cons (wpB_mono h (fun f s₁ ⟨e, h₁⟩ => by subst e; exact wpB_cut P h₁ k) fun _ _ x => x)
end
theorem qual1 {cs : Scope} {L a : Addr} {cd : Value} {cl : List (Str × Addr)} (hk : (envX (Str.ofString "_apply_delta_py") cs L a cd cl).kindOf (Str.ofString "get_delta_header_size") = some .local) :
    qualnameIn (envX (Str.ofString "_apply_delta_py") cs L a cd cl) (Str.ofString "get_delta_header_size") (Str.ofString "get_delta_header_size") = Str.ofString "_apply_delta_py.<locals>.get_delta_header_size" := by
  unfold qualnameIn
  rw [hk]
  show Str.ofString "_apply_delta_py" ++ (".<locals>." : Str) ++ Str.ofString "get_delta_header_size" = _
  decide +kernel
theorem qual2 {cs : Scope} {L a : Addr} {cd : Value} {cl : List (Str × Addr)} (hk : (envX (Str.ofString "_apply_delta_py") cs L a cd cl).kindOf (Str.ofString "read_byte") = some .local) :
    qualnameIn (envX (Str.ofString "_apply_delta_py") cs L a cd cl) (Str.ofString "read_byte") (Str.ofString "read_byte") = Str.ofString "_apply_delta_py.<locals>.read_byte" := by
  unfold qualnameIn
  rw [hk]
  show Str.ofString "_apply_delta_py" ++ (".<locals>." : Str) ++ Str.ofString "read_byte" = _
  decide +kernel
theorem nameFns {G h : Heap} {L f2 c2 f1 : Addr} {o2 oc2 o1 : Obj} {rest : List (Addr × Obj)} (N : News G L h ((f2, o2) :: (c2, oc2) :: (f1, o1) :: rest)) :
    ∃ x2 x1, o2 = x2 ∧ o1 = x1 ∧ News G L h ((f2, x2) :: (c2, oc2) :: (f1, x1) :: rest) := ⟨_, _, rfl, rfl, N⟩
theorem nameFns2 {G h : Heap} {L f2 f1 : Addr} {o2 o1 : Obj} {rest : List (Addr × Obj)} (N : News G L h ((f2, o2) :: (f1, o1) :: rest)) :
    ∃ x2 x1, o2 = x2 ∧ o1 = x1 ∧ News G L h ((f2, x2) :: (f1, x1) :: rest) := ⟨_, _, rfl, rfl, N⟩
theorem codeB_defK {b : Bool} {prog : Program} {w : World} {A : Around} {R : Result → Shared → Prop} {s : Shared} {a : Addr} {o : Obj} {name qual : Str} {params : Arguments} {body : List Stmt} {scope : Scope} {cl : List (Str × Addr)} {dV kV doc pm cdv ct : Value} {an : Option Addr} {args : Args} (binds : List (Str × Value))
    (hroom : A.depth < recursionLimit) (ho : s.heap.get? a = some o) (hdata : o.data = .func (fnX name qual params body scope cl dV kV doc pm an cdv ct)) (hlim : s.heap.NoLimit) (hcd : s.heap.CodeRec cdv qual)
    (hbind : BindsTo s (fnX name qual params body scope cl dV kV doc pm an cdv ct) args binds) (hloc : ∀ x ∈ binds, scope.names.lookup x.1 = some .local)
    (h : ∀ L h₁, Fr s.heap L h₁ (kstB (fun _ => none) binds.reverse) → News s.heap L h₁ [] →
      wpB b (model prog w) (A.deeper (envX qual scope L a cdv cl)) (execs body (envX qual scope L a cdv cl)) (fun f s' => R (.ok (.ret (match f with | .ret v => v | _ => .none))) s') NE
        { s with heap := h₁, toks := s.toks + binds.length })
    (hcell : ∀ x ∈ scope.names, x.2 ≠ .cell) (hco : scope.isCoroutine = false) (hgen : scope.isGenerator = false) (hk : scope.kind = .function) :
    codeB b (model prog w) A (.call (.ref a) args) R s := by
  have e : ∀ bs : List (Str × Value), (fun y => bs.lookup y) = kstB (fun _ => none) bs := by
    intro bs
    induction bs with
    | nil => rfl
    | cons p r ih =>
      funext y
      obtain ⟨x, v⟩ := p
      show (match y == x with | true => some v | false => r.lookup y) = if y = x then some v else kstB (fun _ => none) r y
      by_cases q : y = x
      · subst q; simp
      · rw [if_neg q, ← ih, beq_false_of_ne q]
  exact codeB_def hroom ho hdata hlim hcd hbind hloc (fun L h₁ _ F => h L h₁ (e _ ▸ F) .nil) hcell hco hgen hk
theorem callWith_fnT {b : Bool} {M : Model} {A : Around} {E : Value → Shared → Prop} {s : Shared} {env : Env} {pos : Pos} {a : Addr} {o : Obj} {fd : FuncData} {e : Expr} {rest : List Expr} {Q : Value → Shared → Prop} (hd : o.data = .func fd)
    (h : wpB b M A (spliced (backTo pos (starEach (e :: rest) env))) (fun vs s₁ => Then <| s₁.heap.get? a = some o ∧ wpB b M A (call (.ref a) vs) Q E s₁) E s)
    (he : starEach (e :: rest) env = (false, eval e env) :: starEach rest env := by rfl) (hplain : (backTo pos (starEach rest env)).any (·.1) = false := by rfl) :
    wpB b M A (callWith pos (.ref a) [] (backTo pos (starEach (e :: rest) env)) []) Q E s := callWith_fn hd h he hplain
end
section
theorem anew_W1 : True := by (w_top off); exact True.intro
open PySem PySem.W PySem.Calls PyProof.Rows

theorem codeB_K {b : Bool} {prog : Program} {w : World} {A : Around} {R : Result → Shared → Prop} {s : Shared} {K : Frag} {f : Addr} {oc : Value} {od : Option Addr} {osl : Array (Option Value)} {name qual : Str} {params : Arguments} {body : List Stmt} {scope : Scope} {cl : List (Str × Addr)} {dV kV doc pm cdv ct : Value} {an : Option Addr} {args : Args} (binds : List (Str × Value))
    (X : K.In s.heap) (hlim : s.heap.NoLimit) (hroom : A.depth < recursionLimit)
    (ho : K.lookup f = some ⟨oc, od, .func (fnX name qual params body scope cl dV kV doc pm an cdv ct), osl⟩) (hcd : codeIn K cdv qual = true)
    (hbind : BindsTo s (fnX name qual params body scope cl dV kV doc pm an cdv ct) args binds) (hloc : ∀ x ∈ binds, scope.names.lookup x.1 = some .local)
    (h : ∀ L h₁, L = s.heap.objs.size → Fr s.heap L h₁ (kstB (fun _ => none) binds.reverse) → News s.heap L h₁ [] →
      wpB b (model prog w) (A.deeper (envX qual scope L f cdv cl)) (execs body (envX qual scope L f cdv cl)) (fun f s' => R (.ok (.ret (match f with | .ret v => v | _ => .none))) s') NE
        { s with heap := h₁, toks := s.toks + binds.length })
    (hcell : ∀ x ∈ scope.names, x.2 ≠ .cell) (hco : scope.isCoroutine = false) (hgen : scope.isGenerator = false) (hk : scope.kind = .function) :
    codeB b (model prog w) A (.call (.ref f) args) R s := by
  have e : ∀ bs : List (Str × Value), (fun y => bs.lookup y) = kstB (fun _ => none) bs := by
    intro bs
    induction bs with
    | nil => rfl
    | cons p r ih =>
      funext y
      obtain ⟨x, v⟩ := p
      show (match y == x with | true => some v | false => r.lookup y) = if y = x then some v else kstB (fun _ => none) r y
      by_cases q : y = x
      · subst q; simp
      · rw [if_neg q, ← ih, beq_false_of_ne q]
  exact codeB_def hroom (X _ _ ho) rfl hlim (codeRec_of X hcd) hbind hloc (fun L h₁ q F => h L h₁ q (e _ ▸ F) .nil) hcell hco hgen hk

section
variable {w : World} {A : Around} {E : Value → Shared → Prop} {s : Shared} {p : Program} {loose : List Str} {mean : ExcName → Option Value} {mg mb : Str → Option Value}

theorem encSize_call {Q : Value → Shared → Prop} (X : (hdB.heap_39 w.params).In s.heap) (T : Top p loose mean mg mb s.heap)
    (hh : A.handled = none) (hroom : A.depth < recursionLimit) (n : Nat) (t : Tok) (hn : n < 16777216)
    (h : ∀ h' tk t', (∀ b o, s.heap.get? b = some o → h'.get? b = some o) → Q (.bytes (varint n).toArray t') { s with heap := h', toks := tk }) :
    wpB true (model PySem.Challenge.rw_iy0003_01.row.prog w) A (call (.ref 47) [.int n t]) Q E s := by
  (revert X; k_fill; intro X)
  refine wpB_call ?_
  refine' codeB_K [(Str.ofString "size", .int n t)] X T.nolimit hroom ?ho ?hcd ?hb ?hl ?_ ?c2 ?c3 ?c4 ?c5
  case ho => k_is
  case hcd => k_is
  case hb => exact BindsTo.of_eq rfl
  case hl => exact locs rfl
  case c2 => decide
  case c3 => exact rfl
  case c4 => exact rfl
  case c5 => exact rfl
  intro L h₁ hL F N
  dsimp only [List.reverse_cons, List.reverse_nil, List.nil_append, List.length_cons, List.length_nil, kstB] at F ⊢
  obtain ⟨hp, gs, dr, tk, os⟩ := s
  dsimp only at F X T N hL h ⊢
  refine wpB_execs_cons (wpB_Assign_Name (wpB_Call_ofName (wpB_any ?_)))
  k_steps
  rename Fr _ _ _ _ => F
  refine wpB_callWith_type rfl (wpB_evalArgs0 (call_ba0 fun h2 ha hk => ?_))
  have N2 := newN F N ha hk
  have F2 := Fr.after F hk
  have hlt : L < h₁.objs.size := F.ns.lt
  dsimp only at N2 hlt ⊢
  generalize h₁.objs.size = a at N2 hlt ⊢
  clear F N ha hk
  k_steps
  dsimp only
  refine wpB_execs_any ?_
  k_steps
  dsimp only
  refine wpB_execs_any ?_
  k_steps
  dsimp only
  rename Fr _ _ _ _ => F3
  rename News _ _ _ _ => N3
  dsimp only at F3
  rw [fdiv128, and127] at F3
  refine wpB_execs_cons ?_
  refine' while_inv (σ := Nat × Array UInt8 × Tok × Tok) (fun c => [(Str.ofString "size", .int (c.1 / 128 : Nat) c.2.2.1), (Str.ofString "c", .int (c.1 % 128 : Nat) c.2.2.2), (Str.ofString "ret", .ref a)])
    (fun c => [(a, baObj c.2.1)]) (fun c => c.2.1.toList ++ varint c.1 = varint n ∧ c.2.1.size + c.1 ≤ n) (fun c => c.1) (n, #[], ?t1, ?t2) F3 N3 ?hm ?hn ?hp ?turn
  case hm => kst_all
  case hn => exact fun p hp => hp
  case hp => exact ⟨rfl, by simp⟩
  case turn =>
    rintro ⟨m, x, t1, t2⟩ h3 tk3 mm ⟨hv, hs⟩ F4 N4
    dsimp only [kstB] at F4 N4 hv hs ⊢
    refine wpB_any ?_
    k_steps
    · rename_i hm
      refine wpB_execs_cons (wpB_Expr (appendB rfl rfl rfl rfl ?_))
      k_steps
      refine ⟨a, x, rfl, (N4 _ (.head _)).1, ?_⟩
      k_steps
      rw [or128 (by omega)]
      refine ⟨_, _, x, rfl, (N4 _ (.head _)).1, by omega, by omega, by omega, fun h4 ha4 hs4 => ?_⟩
      obtain ⟨F5, N5⟩ := updN F4 N4 ha4 hs4 (fun _ hp => nomatch hp)
      dsimp only
      refine wpB_execs_any ?_
      k_steps
      dsimp only
      refine wpB_execs_any ?_
      k_steps
      dsimp only
      rename Fr _ _ _ _ => F6
      rename News _ _ _ _ => N6
      dsimp only at F6
      rw [fdiv128, and127] at F6
      refine wpB_execs_nil ?_
      show TurnEnd _ _ _ _ _ _ _ _
      refine' TurnEnd.intro (m / 128, x.push (m % 128 + 128).toUInt8, ?t3, ?t4) F6 ?hm N6 ?hn ?hp
      case hm => kst_all
      case hn => exact fun p hp => hp
      case hp =>
        refine ⟨⟨?_, by rw [Array.size_push]; omega⟩, by dsimp only; omega⟩
        rw [← hv, varint_hi (n := m) (by omega), Array.toList_push, List.append_assoc]
        rfl
    · rename_i hm
      refine wpB_execs_cons (wpB_Expr (appendB rfl rfl rfl rfl ?_))
      k_steps
      refine ⟨a, x, rfl, (N4 _ (.head _)).1, ?_⟩
      k_steps
      refine ⟨_, _, x, rfl, (N4 _ (.head _)).1, by omega, by omega, by omega, fun h4 ha4 hs4 => ?_⟩
      obtain ⟨F5, N5⟩ := updN F4 N4 ha4 hs4 (fun _ hp => nomatch hp)
      dsimp only
      refine wpB_execs_cons (wpB_any ?_)
      k_steps
      refine call_bytes_ba (N5 _ (.head _)).1 (by rw [Array.size_push]; omega) ?_
      k_steps
      have e : x.push (((m % 128 : Nat) : Int)).toNat.toUInt8 = (varint n).toArray := by
        rw [← hv, varint_lo (n := m) (by omega)]
        apply Array.ext'
        rw [Array.toList_push, show m % 128 = m from by omega]
        rfl
      rw [e]
      exact h h4 _ _ F5.keep
end
end
section
theorem anew_W2 : True := by (w_top off); exact True.intro
open PySem PySem.W PySem.Calls PyProof.Rows
section
variable {w : World} {A : Around} {E : Value → Shared → Prop} {s : Shared} {p : Program} {loose : List Str} {mean : ExcName → Option Value} {mg mb : Str → Option Value}

set_option maxHeartbeats 4000000 in
theorem encCopy_call {Q : Value → Shared → Prop} (X : (hdB.heap_39 w.params).In s.heap) (T : Top p loose mean mg mb s.heap)
    (hh : A.handled = none) (hroom : A.depth < recursionLimit) (start len : Nat) (t1 t2 : Tok) (hs : start < 4294967296) (hl : len < 65536)
    (h : ∀ h' tk t', (∀ b o, s.heap.get? b = some o → h'.get? b = some o) → Q (.bytes (encCopy start len).toArray t') { s with heap := h', toks := tk }) :
    wpB true (model PySem.Challenge.rw_iy0003_01.row.prog w) A (call (.ref 54) [.int start t1, .int len t2]) Q E s := by
  (revert X; k_fill; intro X)
  refine wpB_call ?_
  refine' codeB_K [(Str.ofString "start", .int start t1), (Str.ofString "length", .int len t2)] X T.nolimit hroom ?ho ?hcd ?hb ?hl ?_ ?c2 ?c3 ?c4 ?c5
  case ho => k_is
  case hcd => k_is
  case hb => exact BindsTo.of_eq rfl
  case hl => exact locs rfl
  case c2 => decide
  case c3 => exact rfl
  case c4 => exact rfl
  case c5 => exact rfl
  intro L h₁ hL F N
  dsimp only [List.reverse_cons, List.reverse_nil, List.nil_append, List.cons_append, List.length_cons, List.length_nil, kstB] at F ⊢
  obtain ⟨hp, gs, dr, tk, os⟩ := s
  dsimp only at F X T N hL h ⊢
  refine wpB_execs_cons (wpB_Assign_Name (wpB_Call_ofName (wpB_any ?_)))
  k_steps
  rename Fr _ _ _ _ => F
  refine callWith_ty (wpB_any ?_)
  k_steps
  rename Fr _ _ _ _ => F
  rename News _ _ _ _ => N
  (try dsimp only)
  refine call_ba1 (t := _) ⟨_, (N _ (.head _)).1, rfl, _, rfl⟩ fun h2 ha hk => ?_
  have N2 := newN F .nil ha hk
  have F2 := Fr.after F hk
  (try dsimp only at N2); (try dsimp only)
  generalize (Array.size _) = a at N2 ⊢
  clear F N ha hk
  k_steps
  dsimp only
  rename Fr _ _ _ _ => F3
  rename News _ _ _ _ => N3
  refine wpB_execs_cons ?_
  refine' for_range (σ := Array UInt8) 4 (fun _ => [(Str.ofString "start", .int start t1), (Str.ofString "length", .int len t2), (Str.ofString "scratch", .ref a)])
    (fun c => [(a, baObj c)]) (fun i c => c = (encTo (fieldAt start len) i).toArray) #[128] F3 N3 ?hm ?hn ?hp hh (by decide) rfl rfl rfl ?head ?turn ?hadr ?done
  case hm => kst_all
  case hn => exact fun p hp => hp
  case hp => rfl
  case hadr => exact fun _ _ => rfl
  case head =>
    k_steps
    rename Fr _ _ _ _ => F4
    rename News _ _ _ _ => N4
    exact ⟨_, _, _, _, _, _, rfl, rfl, by assumption, F4, N4⟩
  case turn =>
    intro i x h4 ti tk4 m I o hi hx hne F4 N4
    dsimp only [kstB] at F4 N4 hx hne ⊢
    refine wpB_execs_cons ?_
    refine wpB_If (wpB_any ?_)
    k_steps
    · rename_i hb
      have hb := (field_bit _ _).mp hb
      rw [← fieldAt_lo (l := len) hi] at hb
      all_goals try dsimp only
      refine wpB_execs_cons (wpB_Expr (appendB rfl rfl rfl rfl ?_))
      k_steps
      refine ⟨a, x, rfl, (N4 _ (.head _)).1, ?_⟩
      k_steps
      rw [field_val, ← fieldAt_lo (l := len) hi]
      have hlt := fieldAt_lt start len i
      have hsz := encTo_size (fieldAt start len) i
      refine ⟨_, _, x, rfl, (N4 _ (.head _)).1, by omega, by omega, by rw [hx]; omega, fun h5 ha5 hs5 => ?_⟩
      dsimp only at ha5 hs5
      obtain ⟨F5, N5⟩ := updN F4 N4 ha5 hs5 (fun p hp => by rw [List.mem_singleton.mp hp]; exact Ne.symm (hne _ (.head _)))
      clear F4 N4
      dsimp only
      refine wpB_execs_any ?_
      k_steps
      all_goals try dsimp only
      have hmask := maskTo_lt (fieldAt start len) i
      have hpow : 2 ^ i ≤ 2 ^ 5 := Nat.pow_le_pow_right (by decide) (by omega)
      refine getItem_ba (N5 _ (.head _)).1 (by decide) (by decide) (c := (128 + maskTo (fieldAt start len) i).toUInt8) (by rw [hx]; exact encTo_head _ _ _) ?_
      rw [toUInt8_toNat (by omega)]
      k_steps
      all_goals try dsimp only
      rw [or_bit1 (by omega) hmask]
      refine setItem_ba (N5 _ (.head _)).1 (by decide) (by rw [Array.size_push]; omega) (by rw [Array.size_push, hx]; omega) (by omega) (by omega) fun h6 ha6 hs6 => ?_
      dsimp only at ha6 hs6
      obtain ⟨F6, N6⟩ := updN F5 N5 ha6 hs6 (fun p hp => by rw [List.mem_singleton.mp hp]; exact Ne.symm (hne _ (.head _)))
      refine ⟨rfl, ?_⟩
      refine wpB_execs_nil ?_
      refine wpB_execs_nil ?_
      show TurnEnd _ _ _ _ _ _ _ _
      refine TurnEnd.intro _ F6 ?_ N6 (fun p hp => hp) ?_
      · kst_all
      · rw [hx]; exact encTo_take hb
    · rename_i hb
      have hb := field_bit0 hb
      rw [← fieldAt_lo (l := len) hi] at hb
      refine wpB_execs_nil ?_
      refine wpB_execs_nil ?_
      show TurnEnd _ _ _ _ _ _ _ _
      refine TurnEnd.intro x F4 ?_ N4 (fun p hp => hp) ?_
      · kst_all
      · rw [hx]; exact congrArg _ (encTo_skip hb).symm
  case done =>
    intro x h4 tk4 m hx F4 N4
    (try dsimp only at hx)
    dsimp only [kstB] at F4 N4 ⊢
    refine wpB_execs_cons ?_
    refine' for_range (σ := Array UInt8) 2 (fun _ => [(Str.ofString "start", .int start t1), (Str.ofString "length", .int len t2), (Str.ofString "scratch", .ref a)])
      (fun c => [(a, baObj c)]) (fun i c => c = (encTo (fieldAt start len) (4 + i)).toArray) x F4 N4 ?hm ?hn ?hp hh (by decide) rfl rfl rfl ?head ?turn ?hadr ?done
    case hm => kst_all
    case hn => exact fun p hp => hp
    case hp => exact hx
    case hadr => exact fun _ _ => rfl
    case head =>
      k_steps
      rename Fr _ _ _ _ => F5
      rename News _ _ _ _ => N5
      exact ⟨_, _, _, _, _, _, rfl, rfl, by assumption, F5, N5⟩
    case done =>
      intro x h4 tk4 m hx F4 N4
      (try dsimp only at hx)
      dsimp only [kstB] at F4 N4 ⊢
      refine wpB_execs_cons (wpB_any ?_)
      k_steps
      have hsz := encTo_size (fieldAt start len) (4 + 2)
      refine call_bytes_ba (N4 _ (.head _)).1 (by rw [hx]; omega) ?_
      k_steps
      rw [hx]
      exact h h4 _ _ F4.keep
    case turn =>
      intro i x h4 ti tk4 m I o hi hx hne F4 N4
      dsimp only [kstB] at F4 N4 hx hne ⊢
      refine wpB_execs_cons ?_
      refine wpB_If (wpB_any ?_)
      k_steps
      · rename_i hb
        have hb := (field_bit _ _).mp hb
        rw [← fieldAt_hi start] at hb
        all_goals try dsimp only
        refine wpB_execs_cons (wpB_Expr (appendB rfl rfl rfl rfl ?_))
        k_steps
        refine ⟨a, x, rfl, (N4 _ (.head _)).1, ?_⟩
        k_steps
        rw [field_val, ← fieldAt_hi start]
        have hlt := fieldAt_lt start len (4 + i)
        have hsz := encTo_size (fieldAt start len) (4 + i)
        refine ⟨_, _, x, rfl, (N4 _ (.head _)).1, by omega, by omega, by rw [hx]; omega, fun h5 ha5 hs5 => ?_⟩
        dsimp only at ha5 hs5
        obtain ⟨F5, N5⟩ := updN F4 N4 ha5 hs5 (fun p hp => by rw [List.mem_singleton.mp hp]; exact Ne.symm (hne _ (.head _)))
        clear F4 N4
        dsimp only
        refine wpB_execs_any ?_
        k_steps
        all_goals try dsimp only
        have hmask := maskTo_lt (fieldAt start len) (4 + i)
        have hpow : 2 ^ (4 + i) ≤ 2 ^ 5 := Nat.pow_le_pow_right (by decide) (by omega)
        refine getItem_ba (N5 _ (.head _)).1 (by decide) (by decide) (c := (128 + maskTo (fieldAt start len) (4 + i)).toUInt8) (by rw [hx]; exact encTo_head _ _ _) ?_
        rw [toUInt8_toNat (by omega)]
        k_steps
        all_goals try dsimp only
        rw [or_bit2 hi hmask]
        refine setItem_ba (N5 _ (.head _)).1 (by decide) (by rw [Array.size_push]; omega) (by rw [Array.size_push, hx]; omega) (by omega) (by omega) fun h6 ha6 hs6 => ?_
        dsimp only at ha6 hs6
        obtain ⟨F6, N6⟩ := updN F5 N5 ha6 hs6 (fun p hp => by rw [List.mem_singleton.mp hp]; exact Ne.symm (hne _ (.head _)))
        refine ⟨rfl, ?_⟩
        refine wpB_execs_nil ?_
        refine wpB_execs_nil ?_
        show TurnEnd _ _ _ _ _ _ _ _
        refine TurnEnd.intro _ F6 ?_ N6 (fun p hp => hp) ?_
        · kst_all
        · rw [hx]; exact encTo_take hb
      · rename_i hb
        have hb := field_bit0 hb
        rw [← fieldAt_hi start] at hb
        refine wpB_execs_nil ?_
        refine wpB_execs_nil ?_
        show TurnEnd _ _ _ _ _ _ _ _
        refine TurnEnd.intro x F4 ?_ N4 (fun p hp => hp) ?_
        · kst_all
        · rw [hx]; exact congrArg _ (encTo_skip hb).symm
end
end
local macro_rules | `(tactic| walk_at "subscriptTail") => `(tactic| (k_here; (with_reducible show wpAny _ _ (subscriptTail _ (Expr.Slice _ _ none _) (Value.bytes _ _) (Value.ref _)) _ _ _); (with_reducible rename Fr _ _ _ _ => F'); (with_reducible rename News _ _ _ _ => N'); (first | refine slice_ij (s := ⟨_, _, _, _, _⟩) F' N' (by omega) (by omega) (by omega) ?_ | refine slice_j (s := ⟨_, _, _, _, _⟩) F' N' (by omega) (by omega) ?_ | refine slice_i (s := ⟨_, _, _, _, _⟩) F' N' (by omega) (by omega) ?_); intro _ _ _ _ _))
local macro_rules | `(tactic| walk_at "subscriptTail") => `(tactic| (k_here; (with_reducible show wpAny _ _ (subscriptTail _ _ (Value.bytes _ _) (Value.int _ _)) _ _ _); (refine item_at (by omega) (by omega) (by omega) ?_)))
section
theorem anew_W5 : True := by (w_top off); exact True.intro
open PySem PySem.W PySem.Calls PyProof.Rows
section
variable {w : World} {A : Around} {E : Value → Shared → Prop} {s : Shared} {p : Program} {loose : List Str} {mean : ExcName → Option Value} {mg mb : Str → Option Value}

set_option maxHeartbeats 4000000 in
theorem lawSize_call {Q : Value → Shared → Prop} {D : Array UInt8} {P R : List UInt8} {n : Nat} {td ta : Tok} (X : (hdB.heap_39 w.params).In s.heap) (T : Top p loose mean mg mb s.heap)
    (hroom : A.depth < recursionLimit) (hD : D.toList = P ++ (varint n ++ R)) (hz : D.size ≤ 16777216)
    (h : ∀ h' tk a t1 t2, (∀ b o, s.heap.get? b = some o → h'.get? b = some o) → h'.IsTuple a #[.int n t1, .int (P.length + (varint n).length : Nat) t2] → Q (.ref a) { s with heap := h', toks := tk }) :
    wpB true (model PySem.Challenge.rw_iy0003_01.row.prog w) A (call (.ref 90) [.bytes D td, .int P.length ta]) Q E s := by
  (revert X; k_fill; intro X)
  refine wpB_call ?_
  refine' codeB_K [(Str.ofString "delta", .bytes D td), (Str.ofString "at", .int P.length ta)] X T.nolimit hroom ?ho ?hcd ?hb ?hl ?_ ?c2 ?c3 ?c4 ?c5
  case ho => k_is
  case hcd => k_is
  case hb => exact BindsTo.of_eq rfl
  case hl => exact locs rfl
  case c2 => decide
  case c3 => exact rfl
  case c4 => exact rfl
  case c5 => exact rfl
  intro L h₁ hL F N
  dsimp only [List.reverse_cons, List.reverse_nil, List.nil_append, List.cons_append, List.length_cons, List.length_nil, kstB] at F ⊢
  obtain ⟨hp, gs, dr, tk, os⟩ := s
  dsimp only at F X T N hL h ⊢
  refine wpB_execs_any ?_
  k_steps
  (try dsimp only)
  refine wpB_execs_any ?_
  k_steps
  (try dsimp only)
  rename Fr _ _ _ _ => F
  rename News _ _ _ _ => N
  refine wpB_execs_cons ?_
  refine' while_inv (σ := Nat × Nat × Nat × List UInt8 × Tok × Tok × Tok) (fun c => [(Str.ofString "size", .int (c.1 : Nat) c.2.2.2.2.1), (Str.ofString "weight", .int (c.2.1 : Nat) c.2.2.2.2.2.1), (Str.ofString "at", .int (c.2.2.2.1.length : Nat) c.2.2.2.2.2.2), (Str.ofString "delta", .bytes D td)])
    (fun _ => []) (fun c => D.toList = c.2.2.2.1 ++ (varint c.2.2.1 ++ R) ∧ c.1 + c.2.2.1 * c.2.1 = n ∧ c.2.2.2.1.length + (varint c.2.2.1).length = P.length + (varint n).length) (fun c => c.2.2.1) (0, 1, n, P, ?t1, ?t2, ?t3) F N ?hm ?hn ?hp ?turn
  case hm => kst_all
  case hn => exact fun p hp => nomatch hp
  case hp => exact ⟨hD, by simp, rfl⟩
  case turn =>
    rintro ⟨sz, wt, m, P', t1, t2, t3⟩ h3 tk3 mm ⟨hD', hs, hl⟩ F4 N4
    dsimp only [kstB] at F4 N4 hD' hs hl ⊢
    have hsz := size_of hD'
    have hvp := varint_pos m
    rw [List.length_append, List.length_append] at hsz
    refine wpB_any ?_
    k_steps
    · rename_i hgt
      rw [Int.toNat_natCast] at hgt
      rcases varint_step hD' with ⟨hm, ho, _⟩ | ⟨hm, ho, hD2, hl2⟩
      · omega
      (try dsimp only)
      refine wpB_execs_any ?_
      k_steps
      (try dsimp only)
      refine wpB_execs_any ?_
      k_steps
      (try dsimp only)
      refine wpB_execs_any ?_
      k_steps
      (try dsimp only)
      rename Fr _ _ _ _ => F5
      rename News _ _ _ _ => N5
      rw [Int.toNat_natCast, ho] at F5
      have e1 : ((sz : Int) + (((m % 128 + 128 : Nat) : Int).fmod 128) * (wt : Int)) = ((sz + m % 128 * wt : Nat) : Int) := by
        rw [show (128 : Int) = ((128 : Nat) : Int) from rfl, fmod_nat, show (m % 128 + 128) % 128 = m % 128 from by omega, Int.natCast_add, Int.natCast_mul]
      have e2 : ((wt : Int) * 128) = ((wt * 128 : Nat) : Int) := by omega
      have e3 : ((P'.length : Int) + 1) = (((P' ++ [(m % 128 + 128).toUInt8]).length : Nat) : Int) := by rw [List.length_append]; simp
      rw [e1, e2, e3] at F5
      refine wpB_execs_nil ?_
      show TurnEnd _ _ _ _ _ _ _ _
      refine' TurnEnd.intro (sz + m % 128 * wt, wt * 128, m / 128, P' ++ [(m % 128 + 128).toUInt8], ?t4, ?t5, ?t6) F5 ?hm N5 ?hn ?hp
      case hm => kst_all
      case hn => exact fun p hp => nomatch hp
      case hp =>
        refine ⟨⟨hD2, ?_, ?_⟩, by dsimp only; omega⟩
        · dsimp only
          have : m % 128 * wt + m / 128 * (wt * 128) = m * wt := by
            rw [Nat.mul_comm wt 128, ← Nat.mul_assoc, ← Nat.add_mul, Nat.mod_add_div']
          omega
        · dsimp only
          rw [List.length_append, List.length_singleton]; omega
    · rename_i hgt
      rw [Int.toNat_natCast] at hgt
      rcases varint_step hD' with ⟨hm, ho, hl1⟩ | ⟨hm, ho, hD2, hl2⟩
      rotate_left
      · omega
      (try dsimp only)
      refine wpB_execs_cons (wpB_any ?_)
      k_steps
      rw [Int.toNat_natCast, ho]
      refine mul_int ?_
      k_steps
      rename Fr _ _ _ _ => F5
      rename News _ _ _ _ => N5
      have e1 : ((sz : Int) + (m : Int) * (wt : Int)) = (n : Int) := by rw [← hs, Int.natCast_add, Int.natCast_mul]
      have e3 : ((P'.length : Int) + 1) = ((P.length + (varint n).length : Nat) : Int) := by omega
      rw [e1, e3] at N5
      exact h _ _ _ _ _ F5.keep ⟨_, (N5 _ (.head _)).1, rfl, _, rfl⟩
end
end
section
open PySem PySem.W
theorem bitOr_nat (a b : Nat) : Builtin.bitOr (a : Int) (b : Int) = ((a ||| b : Nat) : Int) := by
  unfold Builtin.bitOr
  have e : ∀ x : Nat, Builtin.bitNot (x : Int) = -(x : Int) - 1 := fun x => rfl
  have e2 : ∀ x : Nat, Builtin.bitNot (-(x : Int) - 1) = (x : Int) := fun x => by show -(-(x : Int) - 1) - 1 = _; omega
  rw [e, e]
  unfold Builtin.bitAnd
  rw [decide_eq_false (by omega), decide_eq_false (by omega)]
  dsimp only
  rw [e2, e2, e, e2, Int.toNat_natCast, Int.toNat_natCast]
theorem or_shift {s k x : Nat} (h : s < 2 ^ k) : Builtin.bitOr (s : Int) ((x : Int) * 2 ^ ((k : Int)).toNat) = ((s + x * 2 ^ k : Nat) : Int) := by
  rw [Int.toNat_natCast, ← kbt_cast, ← Int.natCast_mul, bitOr_nat]
  congr 1
  rw [Nat.or_comm, Nat.mul_comm, ← Nat.two_pow_add_eq_or_of_lt h, Nat.add_comm]
theorem and_not128 {c : Nat} (h : c < 256) : Builtin.bitAnd (c : Int) (-129) = ((c % 128 : Nat) : Int) := by
  have : ∀ n : Fin 256, Builtin.bitAnd ((n : Nat) : Int) (-129) = (((n : Nat) % 128 : Nat) : Int) := by decide +kernel
  exact this ⟨c, h⟩
theorem and_128 {c : Nat} (h : c < 256) : Builtin.bitAnd (c : Int) 128 = ((c / 128 * 128 : Nat) : Int) := by
  have : ∀ n : Fin 256, Builtin.bitAnd ((n : Nat) : Int) 128 = (((n : Nat) / 128 * 128 : Nat) : Int) := by decide +kernel
  exact this ⟨c, h⟩
theorem and_not128b {c : Nat} (h : c < 256) : Builtin.bitAnd (c : Int) (Builtin.bitNot 128) = ((c % 128 : Nat) : Int) := and_not128 h
theorem shift_room {m i n : Nat} (h : s + m * 2 ^ i = n) (hn : n < 2 ^ 28) (hm : 128 ≤ m) : i + 7 ≤ 28 := by
  have h1 : 2 ^ 7 * 2 ^ i ≤ m * 2 ^ i := Nat.mul_le_mul_right _ hm
  rw [← Nat.pow_add] at h1
  have h2 : 2 ^ (7 + i) < 2 ^ 28 := by omega
  have := (Nat.pow_lt_pow_iff_right (by decide : 1 < 2)).mp h2
  omega
theorem cmd_bit {m k : Nat} : Builtin.bitAnd (m : Int) (1 * 2 ^ ((k : Int)).toNat) = ((m / 2 ^ k % 2 * 2 ^ k : Nat) : Int) := by
  rw [Int.one_mul, Int.toNat_natCast, kbt_bit, ← kbt_cast, Int.natCast_mul, Int.natCast_emod, Int.natCast_ediv]; rfl
theorem cmd_bit4 {m k : Nat} : Builtin.bitAnd (m : Int) (1 * 2 ^ (4 + (k : Int)).toNat) = ((m / 2 ^ (4 + k) % 2 * 2 ^ (4 + k) : Nat) : Int) := by
  rw [show (4 + (k : Int)) = ((4 + k : Nat) : Int) from by omega, cmd_bit]
theorem off_step {a i x : Nat} (hx : a / 256 ^ i % 256 = x) : Builtin.bitOr ((a % 256 ^ i : Nat) : Int) ((x : Int) * 2 ^ ((i : Int) * 8).toNat) = ((a % 256 ^ (i + 1) : Nat) : Int) := by
  have h : a % 256 ^ i < 2 ^ (8 * i) := by rw [pow256]; exact Nat.mod_lt _ (Nat.pow_pos (by decide))
  rw [show ((i : Int) * 8) = ((8 * i : Nat) : Int) from by omega, or_shift h, pow256, Nat.mod_pow_succ, hx, Nat.mul_comm]
theorem off_skip {a i : Nat} (hx : a / 256 ^ i % 256 = 0) : a % 256 ^ (i + 1) = a % 256 ^ i := by
  rw [Nat.mod_pow_succ, hx]; simp
end
section
open PySem PySem.W PySem.Calls PyProof.Rows

/-- a place where a generator may stop -/
structure FOk (A : Around) (c : Code) (fs : List Frame) : Prop where
  gen : splitAtGen fs = none
  guard : fs.any Frame.guarded = false
  handled : (A.over c fs).handled = none
  depth : (A.over c fs).depth < recursionLimit
theorem FOk.back {M : Model} {A : Around} {D U : Shared → Shared → Prop} {c lc : Code} {K : Flow → Sem Fin} {fs fl : List Frame} {gd : Bool → Bool} {lv : List Value → List Value} (x : FOk A c fs) (hB : Back (gd := gd) (lv := lv) M A D U c K fs lc fl) (hw : lc.weight = 0) (hgd : gd false = false) : FOk A lc fl := by
  obtain ⟨_, h2, h3, k, p, rfl⟩ := hB
  refine ⟨h2 x.gen, h3 hgd x.guard, x.handled, ?_⟩
  have e : (A.over lc (.ret k none (gd false) (lv []) c p [] :: fs)).depth = (A.over c fs).depth := by
    show A.depth + frameCount ((c, p) :: fs.map Frame.where_) + lc.weight = A.depth + frameCount (fs.map Frame.where_) + c.weight
    rw [hw, frameCount_cons]; omega
  rw [e]; exact x.depth

section
variable {prog : Program} {w : World} {A : Around} {cs : List (Array UInt8)} {c : Code} {fs : List Frame} {env : Env} {hb : Heap} {L S Ga : Addr} {go : Obj} {gs : Array GenState} {dr : Drawn} {os : OsState}
  {K : Flow → Sem Fin} {H : Value → Sem Fin} {gd : Bool → Bool} {lv : List Value → List Value}
/-- a yield: the frame and the ledger come back, the list's object may be another -/
theorem yieldAt {x : Array UInt8} {e : Expr} {ypos pos : Pos} {h h0 : Heap} {tk tk0 : Nat} {news : List (Addr × Obj)} {oS : Obj} (hS : h0.get? S = some oS) (O : FOk A c fs) (hgd : gd false = false)
    (hne : ∀ p ∈ (Ga, go) :: news, p.1 ≠ S)
    (k : wpB true (model prog w) (A.over c fs) (eval e env) (fun v s' => Then <| ∃ tt h' tk' m, v = .bytes x tt ∧ s' = ⟨h', gs, dr, tk', os⟩ ∧ Fr hb L h' m ∧ News hb L h' ((S, oS) :: (Ga, go) :: news) ∧
      ∀ h'' tk'' gs'' oS'', h''.get? S = some oS'' → Fr hb L h'' m → News hb L h'' ((S, oS'') :: (Ga, go) :: news) → SegB (model prog w) A (GD hb S Ga go) (GU S) cs ⟨h'', gs'', dr, tk'', os⟩ c (K .next) fs ⟨h'', gs'', dr, tk'', os⟩) NE ⟨h, gs, dr, tk, os⟩)
    (hco : env.scope.isCoroutine = false := by rfl) (hi : interactive env = false := by rfl) :
    SegB (model prog w) A (GD hb S Ga go) (GU S) (x :: cs) ⟨h0, gs, dr, tk0, os⟩ c ((exec (.Expr (.Yield (some e) ypos) pos) env).wrap K H gd lv) fs ⟨h, gs, dr, tk, os⟩ := by
  refine segB_Yield O.gen hgd O.guard (wpB_mono k (fun v s' hv => ?_) fun _ _ x => x) hco hi
  obtain ⟨tt, h', tk', m, rfl, rfl, F, N, k⟩ := hv
  refine ⟨tt, rfl, ⟨h', tk', rfl, F.keep, (N _ (.head _)).1.trans hS.symm, (N _ (.tail _ (.head _))).1⟩, ?_⟩
  rintro s'' ⟨h'', tk'', gs'', o, rfl, hs, ho⟩
  obtain ⟨F2, N2⟩ := updN F N ho hs hne
  exact k h'' tk'' gs'' o ho F2 N2

theorem segB_join {st : Stmt} {rest : List Stmt} {h h0 : Heap} {tk tk0 : Nat} (ps : List (Str × Value)) (csB : List (Array UInt8)) (news : List (Addr × Obj))
    (f : (∀ h0 h gs tk0 tk oS m, h0.get? S = some oS → Fr hb L h m → Has m ps → News hb L h ((S, oS) :: (Ga, go) :: news) →
        SegB (model prog w) A (GD hb S Ga go) (GU S) csB ⟨h0, gs, dr, tk0, os⟩ c ((execs rest env).wrap K H gd lv) fs ⟨h, gs, dr, tk, os⟩) →
      SegB (model prog w) A (GD hb S Ga go) (GU S) cs ⟨h0, gs, dr, tk0, os⟩ c ((exec st env).wrap (fun f => match f with | .next => (execs rest env).wrap K H gd lv | f => K f) H gd lv) fs ⟨h, gs, dr, tk, os⟩)
    (k : ∀ h0 h gs tk0 tk oS m, h0.get? S = some oS → Fr hb L h m → Has m ps → News hb L h ((S, oS) :: (Ga, go) :: news) →
        SegB (model prog w) A (GD hb S Ga go) (GU S) csB ⟨h0, gs, dr, tk0, os⟩ c ((execs rest env).wrap K H gd lv) fs ⟨h, gs, dr, tk, os⟩) :
    SegB (model prog w) A (GD hb S Ga go) (GU S) cs ⟨h0, gs, dr, tk0, os⟩ c ((execs (st :: rest) env).wrap K H gd lv) fs ⟨h, gs, dr, tk, os⟩ := segB_execs_cons (f k)

theorem whileG {σ : Type} {test : Expr} {body : List Stmt} {pos : Pos} (ps : σ → List (Str × Value)) (csOf : σ → List (Array UInt8)) (P Z : σ → Prop) (μ : σ → Nat) (news : List (Addr × Obj)) (c₀ : σ)
    {h h0 : Heap} {tk tk0 : Nat} {oS : Obj} {m : Str → Option Value} (O : FOk A c fs) (hgd : gd false = false) (hcs : cs = csOf c₀) (hp : P c₀) (hS : h0.get? S = some oS) (F : Fr hb L h m) (hm : Has m (ps c₀)) (N : News hb L h ((S, oS) :: (Ga, go) :: news))
    (turn : ∀ (c : σ) fl h0 h gs tk0 tk oS m, FOk A (.whileLoop test body [] env) fl → P c → h0.get? S = some oS → Fr hb L h (kstB m (ps c)) → News hb L h ((S, oS) :: (Ga, go) :: news) →
      (∀ c' h0 h gs tk0 tk oS m, P c' → μ c' < μ c → h0.get? S = some oS → Fr hb L h m → Has m (ps c') → News hb L h ((S, oS) :: (Ga, go) :: news) →
        SegB (model prog w) A (GD hb S Ga go) (GU S) (csOf c') ⟨h0, gs, dr, tk0, os⟩ (.whileLoop test body [] env) (.pure (.again (.whileLoop test body [] env))) fl ⟨h, gs, dr, tk, os⟩) →
      (∀ h tk m, Z c → Fr hb L h m → Has m (ps c) → News hb L h ((S, oS) :: (Ga, go) :: news) →
        SegB (model prog w) A (GD hb S Ga go) (GU S) (csOf c) ⟨h0, gs, dr, tk0, os⟩ (.whileLoop test body [] env) (.pure (.done .next)) fl ⟨h, gs, dr, tk, os⟩) →
      wpB true (model prog w) (A.over (.whileLoop test body [] env) fl) (isTrue test env (eval test env)) (fun d s' =>
        if d = true then SegB (model prog w) A (GD hb S Ga go) (GU S) (csOf c) ⟨h0, gs, dr, tk0, os⟩ (.whileLoop test body [] env) ((execs body env).wrap (loopK (.whileLoop test body [] env)) (loopH env) id id) fl s'
        else SegB (model prog w) A (GD hb S Ga go) (GU S) (csOf c) ⟨h0, gs, dr, tk0, os⟩ (.whileLoop test body [] env) (.pure (.done .next)) fl s') NE ⟨h, gs, dr, tk, os⟩)
    (done : ∀ (c' : σ) h0 h gs tk0 tk oS m, P c' → Z c' → h0.get? S = some oS → Fr hb L h m → Has m (ps c') → News hb L h ((S, oS) :: (Ga, go) :: news) →
      SegB (model prog w) A (GD hb S Ga go) (GU S) (csOf c') ⟨h0, gs, dr, tk0, os⟩ c (K .next) fs ⟨h, gs, dr, tk, os⟩) :
    SegB (model prog w) A (GD hb S Ga go) (GU S) cs ⟨h0, gs, dr, tk0, os⟩ c ((exec (.While test body [] pos) env).wrap K H gd lv) fs ⟨h, gs, dr, tk, os⟩ := by
  refine segB_While fun fl hB => ?_
  have Ol := O.back hB rfl hgd
  subst hcs
  refine segB_loop rfl rfl (fun n cs s₀ s => ∃ (c : σ) (h0 h : Heap) (gs : Array GenState) (tk0 tk : Nat) (oS : Obj) (m : Str → Option Value), n = μ c ∧ cs = csOf c ∧ s₀ = ⟨h0, gs, dr, tk0, os⟩ ∧ s = ⟨h, gs, dr, tk, os⟩ ∧ P c ∧ h0.get? S = some oS ∧
    Fr hb L h m ∧ Has m (ps c) ∧ News hb L h ((S, oS) :: (Ga, go) :: news)) ?_ (μ c₀) ⟨c₀, h0, h, gs, tk0, tk, oS, m, rfl, rfl, rfl, rfl, hp, hS, F, hm, N⟩
  rintro n cs s₀ s ⟨c', h0, h, gs, tk0, tk, oS, m, rfl, rfl, rfl, rfl, hp, hS, F, hm, N⟩ ih
  refine segB_whileTurn (turn c' fl h0 h gs tk0 tk oS m Ol hp hS (frB F hm) N (fun c'' h0 h gs tk0 tk oS m hp' hlt hS F hm N => ?_) fun h tk m hz F hm N => ?_)
  · exact ih (μ c'') _ _ _ hlt ⟨c'', h0, h, gs, tk0, tk, oS, m, rfl, rfl, rfl, rfl, hp', hS, F, hm, N⟩
  · exact hB.1 _ _ _ _ .next (done c' h0 h gs tk0 tk oS m hp hz hS F hm N)

theorem forG {elts : List Expr} {x1} {tpos : Pos} {iter : Expr} {body : List Stmt} {pos : Pos} {Ra : Addr} {items : Array Value} (ps : List (Str × Value)) (csOf : Nat → List (Array UInt8))
    {h h0 : Heap} {tk tk0 : Nat} {oS : Obj} (O : FOk A c fs) (hgd : gd false = false) (hcs : cs = csOf 0) (hl : hb.IsList Ra items) (hS : h0.get? S = some oS) (hne : Ga ≠ S)
    (head : wpAny (model prog w) (A.over c fs) (eval iter env) (fun v s' => Then <| v = .ref Ra ∧ ∃ h' tk' m, s' = ⟨h', gs, dr, tk', os⟩ ∧ Fr hb L h' m ∧ Has m ps ∧ News hb L h' [(S, oS), (Ga, go)]) NE ⟨h, gs, dr, tk, os⟩)
    (ht : ∀ (i : Nat) (v : Value), items[i]? = some v → ∃ T, v = .ref T) (hs : ∀ x, foldedSetIterable iter env x = pure x)
    (turn : ∀ (i : Nat) (v : Value) (I : Addr) (oI : Obj) fl h0 h gs tk0 tk oS m, FOk A (.forLoop (.Tuple elts x1 tpos) (.ref I) body [] env) fl → items[i]? = some v → I ≠ S → h0.get? S = some oS → Fr hb L h (kstB m ps) → News hb L h [(S, oS), (Ga, go), (I, oI)] →
      (∀ h0 h gs tk0 tk oS m, h0.get? S = some oS → Fr hb L h m → Has m ps → News hb L h [(S, oS), (Ga, go), (I, oI)] →
        SegB (model prog w) A (GD hb S Ga go) (GU S) (csOf (i + 1)) ⟨h0, gs, dr, tk0, os⟩ (.forLoop (.Tuple elts x1 tpos) (.ref I) body [] env) (.pure (.again (.forLoop (.Tuple elts x1 tpos) (.ref I) body [] env))) fl ⟨h, gs, dr, tk, os⟩) →
      wpAny (model prog w) (A.over (.forLoop (.Tuple elts x1 tpos) (.ref I) body [] env) fl) (assign (.Tuple elts x1 tpos) env v) (fun _ s₂ =>
        SegB (model prog w) A (GD hb S Ga go) (GU S) (csOf i) ⟨h0, gs, dr, tk0, os⟩ (.forLoop (.Tuple elts x1 tpos) (.ref I) body [] env) ((execs body env).wrap (loopK (.forLoop (.Tuple elts x1 tpos) (.ref I) body [] env)) (loopH env) id id) fl s₂) NE ⟨h, gs, dr, tk, os⟩)
    (done : ∀ h0 h gs tk0 tk oS m, h0.get? S = some oS → Fr hb L h m → Has m ps → News hb L h [(S, oS), (Ga, go)] →
      SegB (model prog w) A (GD hb S Ga go) (GU S) (csOf items.size) ⟨h0, gs, dr, tk0, os⟩ c (K .next) fs ⟨h, gs, dr, tk, os⟩) :
    SegB (model prog w) A (GD hb S Ga go) (GU S) cs ⟨h0, gs, dr, tk0, os⟩ c ((exec (.For (.Tuple elts x1 tpos) iter body [] pos) env).wrap K H gd lv) fs ⟨h, gs, dr, tk, os⟩ := by
  subst hcs
  refine segB_For hs (wpAny_mono head (fun v s' hv => ?_) fun _ _ x => x)
  obtain ⟨rfl, h', tk', m, rfl, F, hm, N⟩ := hv
  refine wpAny_pyIter_list (lstKept hl F.keep) ?_
  dsimp only
  intro fl hB
  have Ol := O.back hB rfl hgd
  have kf : ∀ b o, h'.get? b = some o → (h'.push { cls := .type "list_iterator", data := .fields #[.ref Ra, .int 0 0] }).get? b = some o := fun b o e => Heap.get?_push_of_some _ e
  have hIS : h'.objs.size ≠ S := Ne.symm (Nat.ne_of_lt (Heap.lt_size (N _ (.head _)).1))
  have hIG : h'.objs.size ≠ Ga := Ne.symm (Nat.ne_of_lt (Heap.lt_size (N _ (.tail _ (.head _))).1))
  have hnew := newN F N (Heap.get?_push_size h' rfl) kf
  have F' := Fr.after F kf
  generalize h'.objs.size = I at hIS hIG hnew hB Ol ⊢
  refine segB_loop rfl rfl (fun n cs s₀ s => ∃ (i : Nat) (h0 h : Heap) (gs : Array GenState) (tk0 tk : Nat) (oS oI : Obj) (m : Str → Option Value), n = items.size - i ∧ i ≤ items.size ∧ cs = csOf i ∧ s₀ = ⟨h0, gs, dr, tk0, os⟩ ∧ s = ⟨h, gs, dr, tk, os⟩ ∧ h0.get? S = some oS ∧
    Fr hb L h m ∧ Has m ps ∧ News hb L h [(S, oS), (Ga, go), (I, oI)] ∧ oI.cls = .type "list_iterator" ∧ oI.data = .fields #[.ref Ra, .int i 0]) ?_ items.size ⟨0, h0, _, gs, tk0, _, oS, { cls := .type "list_iterator", data := .fields #[.ref Ra, .int 0 0] }, m, rfl, Nat.zero_le _, rfl, rfl, rfl, hS, F', hm, fun p hp => hnew p ?_, rfl, rfl⟩
  · rintro n cs s₀ s ⟨i, h0, h, gs, tk0, tk, oS, oI, m, rfl, hi, rfl, rfl, rfl, hS, F, hm, N, hc, hd⟩ ih
    have NI := N (I, oI) (.tail _ (.tail _ (.head _)))
    have hit : h.IsListIter I Ra i := ⟨oI, NI.1, hc, hd⟩
    have hlh := lstKept hl F.keep
    have hGaI : Ga ≠ I := Ne.symm hIG
    refine segB_forTurn ?_
    by_cases hlt : i < items.size
    · refine wpAny_pyNext_list_item hit hlh (x := items[i]) (by simp [hlt]) fun h1 hit1 hs1 => ?_
      obtain ⟨T, hT⟩ := ht i items[i] (by simp [hlt])
      dsimp only
      have hit1' := hit1
      obtain ⟨oI1, hoI1, hc1, hd1⟩ := hit1
      have N' : News hb L h ((I, oI) :: [(S, oS), (Ga, go)]) := fun p hp => N p (by
        rcases List.mem_cons.mp hp with rfl | hp
        · exact .tail _ (.tail _ (.head _))
        · rcases List.mem_cons.mp hp with rfl | hp
          · exact .head _
          · rw [List.mem_singleton.mp hp]; exact .tail _ (.head _))
      obtain ⟨F1, N1⟩ := updN F N' hoI1 hs1 (by
        intro p hp
        rcases List.mem_cons.mp hp with rfl | hp
        · exact Ne.symm hIS
        · rw [List.mem_singleton.mp hp]; exact hGaI)
      have N2 : News hb L h1 [(S, oS), (Ga, go), (I, oI1)] := fun p hp => N1 p (by
        rcases List.mem_cons.mp hp with rfl | hp
        · exact .tail _ (.head _)
        · rcases List.mem_cons.mp hp with rfl | hp
          · exact .tail _ (.tail _ (.head _))
          · rw [List.mem_singleton.mp hp]; exact .head _)
      rw [hT]
      refine wpAny_letOwnedTupleGo_listiter hit1' ?_
      rw [← hT]
      refine turn i _ I oI1 fl h0 h1 gs tk0 tk oS m Ol (by simp [hlt]) hIS hS (frB F1 hm) N2 fun h0 h gs tk0 tk oS m hS F hm N => ?_
      exact ih (items.size - (i + 1)) _ _ _ (by omega) ⟨i + 1, h0, h, gs, tk0, tk, oS, oI1, m, rfl, hlt, rfl, rfl, rfl, hS, F, hm, N, hc1, hd1⟩
    · have e : i = items.size := by omega
      subst e
      refine wpAny_pyNext_list_end Ol.handled hit hlh (by simp) fun h1 he => ?_
      refine hB.1 _ _ _ _ .next (done h0 h1 gs tk0 tk oS m hS ⟨?_, ?_, ?_⟩ hm ?_)
      · exact F.ns.at' fun o e => he _ o (Ne.symm NI.2.1) e
      · exact fun b o e => he b o (fun q => by subst q; have := NI.2.2; rw [e] at this; cases this) (F.keep b o e)
      · exact F.above
      · intro p hp
        rcases List.mem_cons.mp hp with rfl | hp
        · exact ⟨he _ _ (Ne.symm hIS) (N _ (.head _)).1, (N _ (.head _)).2⟩
        · rw [List.mem_singleton.mp hp]
          exact ⟨he _ _ hGaI (N _ (.tail _ (.head _))).1, (N _ (.tail _ (.head _))).2⟩
  · rcases List.mem_cons.mp hp with rfl | hp
    · exact .tail _ (.head _)
    · rcases List.mem_cons.mp hp with rfl | hp
      · exact .tail _ (.tail _ (.head _))
      · rw [List.mem_singleton.mp hp]; exact .head _
end
end
section
theorem anew_C1 : True := by (w_top off); exact True.intro
open PySem PySem.W PySem.Calls PyProof.Rows
theorem mem_le_sum {n : Nat} : ∀ {l : List Nat}, n ∈ l → n ≤ l.sum
  | x :: l, h => by
    rw [List.sum_cons]
    rcases List.mem_cons.mp h with rfl | h
    · omega
    · have := mem_le_sum h; omega
theorem bytesOf_eq {v : Value} {b : Array UInt8} (h : bytesOf v = some b) : ∃ t, v = .bytes b t := by
  cases v <;> simp [bytesOf] at h
  subst h
  exact ⟨_, rfl⟩
theorem paired_sum {vs ys : List Value} {xs : List (Array UInt8)} (hx : BytesL vs xs) (hp : Paired (fun v y => ∃ (x : Array UInt8) (t u : Tok), v = Value.bytes x t ∧ y = Value.int (x.size : Nat) u) vs ys) :
    ∃ zs : List (Int × Tok), ys = zs.map (fun p => Value.int p.1 p.2) ∧ (zs.map (·.1)).sum = ((catB xs).size : Int) := by
  induction hp generalizing xs with
  | nil =>
    cases xs with
    | nil => exact ⟨[], rfl, rfl⟩
    | cons x xs => cases hx
  | cons h _ ih =>
    obtain ⟨x, t, u, rfl, rfl⟩ := h
    cases xs with
    | nil => cases hx
    | cons x' xs =>
      have h1 : bytesOf (.bytes x t) = some x' := (List.cons.inj hx).1
      cases h1
      obtain ⟨zs, e1, e2⟩ := ih (List.cons.inj hx).2
      refine ⟨((x.size : Nat), u) :: zs, by rw [e1]; rfl, ?_⟩
      rw [List.map_cons, List.sum_cons, e2, catB_cons, Array.size_append]
      omega
section
variable {w : World} {A : Around} {E : Value → Shared → Prop} {s : Shared} {p : Program} {loose : List Str} {mean : ExcName → Option Value} {mg mb : Str → Option Value}
set_option maxHeartbeats 4000000 in
theorem chunksLen_call {Q : Value → Shared → Prop} {l : Addr} {items : Array Value} {xs : List (Array UInt8)} (X : (hdB.heap_39 w.params).In s.heap) (T : Top p loose mean mg mb s.heap)
    (hh : A.handled = none) (hroom : A.depth < recursionLimit) (hl : s.heap.IsList l items) (hx : BytesL items.toList xs) (hz : (catB xs).size ≤ 16777216) (hn : xs.length ≤ 16777216)
    (h : ∀ h' tk t, (∀ b o, s.heap.get? b = some o → h'.get? b = some o) → Q (.int ((catB xs).size : Nat) t) { s with heap := h', toks := tk }) :
    wpB false (model PySem.Challenge.rw_iy0003_01.row.prog w) A (call (.ref 40) [.ref l]) Q E s := by
  (revert X; k_fill; intro X)
  refine wpB_call ?_
  refine' codeB_K [(Str.ofString "chunks", .ref l)] X T.nolimit (by omega) ?ho ?hcd ?hb ?hl ?_ ?c2 ?c3 ?c4 ?c5
  case ho => k_is
  case hcd => k_is
  case hb => exact BindsTo.of_eq rfl
  case hl => exact locs rfl
  case c2 => decide
  case c3 => exact rfl
  case c4 => exact rfl
  case c5 => exact rfl
  intro L h₁ hL F N
  dsimp only [List.reverse_cons, List.reverse_nil, List.nil_append, List.cons_append, List.length_cons, List.length_nil, kstB] at F ⊢
  obtain ⟨hp, gs, dr, tk, os⟩ := s
  dsimp only at F X T N hL hl h ⊢
  refine wpB_execs_cons (wpB_If (wpB_any ?_))
  k_steps
  (try dsimp only)
  refine wpB_execs_cons (wpB_Return (wpB_Call_ofName (wpB_any ?_)))
  k_steps
  rename Fr _ _ _ _ => F
  rename News _ _ _ _ => N
  refine callWith_bi ?_
  rw [show backTo _ (starEach [_] _) = [(false, eval _ _)] from rfl]
  refine wpB_spliced_cons (wpB_any ?_)
  refine wpAny_ListComp_map (fun _ => true) (fun v y => ∃ x t u, v = .bytes x t ∧ y = .int (x.size : Nat) u) hh ?_ ?_ rfl ?_ rfl ?_
  · decide
  · decide
  · decide
  refine nameX_L F rfl ?_
  refine ⟨l, items, rfl, lstKept hl F.keep, ?_, ?_, ?_, ?_⟩
  · have := congrArg List.length hx
    rw [sizeLine_eq]
    simp at this
    omega
  · intro C v s₂ m₂ E' _ _ _ _
    exact wpAny_pure ⟨rfl, s₂.heap, s₂.toks, rfl, fun _ _ e => e⟩
  · intro C v s₂ m₂ E' hv _ hns hm2 hk2
    obtain ⟨x, t, rfl, hxz⟩ : ∃ x t, v = .bytes x t ∧ x.size ≤ 16777216 := by
      have hv' : v ∈ items.toList := Array.mem_toList_iff.mpr hv
      obtain ⟨i, hi, he⟩ := List.getElem_of_mem hv'
      have h1 := congrArg (fun l => l[i]?) hx
      simp only [List.getElem?_map, List.getElem?_eq_getElem hi, he, Option.map_some] at h1
      cases q : xs[i]? with
      | none => rw [q] at h1; cases h1
      | some b =>
        rw [q] at h1
        obtain ⟨t, rfl⟩ := bytesOf_eq (Option.some.inj h1)
        refine ⟨_, _, rfl, ?_⟩
        rw [catB_size] at hz
        have hm : b.size ∈ xs.map Array.size := List.mem_map_of_mem (List.mem_of_getElem? q)
        have := mem_le_sum hm
        omega
    have hG : s₂.heap.Ns mainGlobals mg := T.g.keeps fun b o e => hk2 b o (F.keep b o e)
    have hB : s₂.heap.Ns builtinsNs mb := T.b.keeps fun b o e => hk2 b o (F.keep b o e)
    have hmiss : mg (Str.ofString "len") = none := mg_none_of X T.g (by k_is)
    have hlen : mb (Str.ofString "len") = some (.builtin "len") := (T.builtins _ (by decide)).trans (by boot_by_name)
    refine any_wpB ?_
    refine wpB_Call_ofName (wpB_any ?_)
    refine Name_function_global rfl rfl (loadGlobal_builtin hG hmiss hB hlen ?_)
    refine callWith_bi ?_
    rw [show backTo _ (starEach [_] _) = [(false, eval _ _)] from rfl]
    refine wpB_spliced_cons (wpB_any ?_)
    refine wpAny_Name (wpAny_loadName_local rfl rfl hns hm2 ?_)
    refine wpB_spliced_nil (wpB_any ?_)
    refine len_bytes (by omega) ?_
    exact ⟨⟨x, t, _, rfl, rfl⟩, s₂.heap, _, rfl, fun _ _ e => e⟩
  · intro D h' tk ys hD hys hpair hk2
    refine wpB_spliced_nil (wpB_any ?_)
    obtain ⟨zs, hzs, hsum⟩ : ∃ zs : Array (Int × Tok), ys = intItems zs ∧ (zs.toList.map (·.1)).sum = ((catB xs).size : Int) := by
      rw [List.filter_eq_self.mpr (fun _ _ => rfl)] at hpair
      obtain ⟨zs, e1, e2⟩ := paired_sum hx hpair
      refine ⟨zs.toArray, ?_, by simpa using e2⟩
      apply Array.ext'
      rw [e1]; simp [intItems]
    subst hzs
    refine sum_intListG hh hys fun h3 tk3 t3 hk3 => ?_
    rw [preSum_eq, List.take_of_length_le (by simp), hsum]
    exact h _ _ _ fun b o e => hk3 b o (hk2 b o (F.keep b o e))
end
end
section
theorem anew_A4 : True := by (w_top off); exact True.intro
open PySem PySem.W PySem.Calls PyProof.Rows
theorem toNat_one (n : Nat) : ((n : Int) + 1).toNat = ((n : Int)).toNat + 1 := rfl
local macro_rules | `(tactic| walk_at "call builtin:ord") => `(tactic| (k_here; (with_reducible show wpAny _ _ (call (Value.builtin "ord") [Value.bytes (Array.extract _ _ _) _]) _ _ _); (refine ord_cut (by first | exact toNat_one _ | omega) (by omega) ?_)))
local macro_rules | `(tactic| walk_at "eval Name") => `(tactic| (k_here; (with_reducible rename Fr _ _ _ _ => kF); (with_unfolding_all refine nameX_FB kF (by rfl) (by assumption) (by assumption) ?_ (by rfl) (by rfl))))
local macro_rules | `(tactic| walk_at "loadName") => `(tactic| (k_here; (with_reducible rename Fr _ _ _ _ => kF); (with_unfolding_all refine ldX kF (by rfl) ?_ (by rfl) (by rfl))))
section
variable {w : World} {A : Around} {E : Value → Shared → Prop} {s : Shared} {p : Program} {loose : List Str} {mean : ExcName → Option Value} {mg mb : Str → Option Value}

/-- the frame's state at a place -/
def AtA (G : Heap) (L : Addr) (gs : Array GenState) (dr : Drawn) (os : OsState) (news : List (Addr × Obj)) (ps : List (Str × Value)) (s' : Shared) : Prop :=
  ∃ h' tk' m, s' = ⟨h', gs, dr, tk', os⟩ ∧ Fr G L h' m ∧ Has m ps ∧ News G L h' news
/-- the table of the nested codes: laid, or met again -/
def TabSt (h : Heap) (ps : Array Value) : Prop := ps = #[] ∨ ∃ c1 c2, ps = #[rawInt 69, rawInt 4, .ref c1, rawInt 83, rawInt 4, .ref c2] ∧ h.CodeRec (.ref c1) (Str.ofString "_apply_delta_py.<locals>.get_delta_header_size") ∧ h.CodeRec (.ref c2) (Str.ofString "_apply_delta_py.<locals>.read_byte")

def HdrSpec (w : World) (G : Heap) (D : Array UInt8) (gs : Array GenState) (dr : Drawn) (os : OsState) (L f : Addr) (need : List (Addr × Obj)) : Prop :=
  ∀ (A : Around) (E : Value → Shared → Prop) (Q : Value → Shared → Prop) (h : Heap) (tk : Nat) (m : Str → Option Value) (news : List (Addr × Obj)) (P R : List UInt8) (n : Nat) (td ta : Tok), A.depth < recursionLimit →
    Fr G L h m → News G L h news → (∀ p ∈ need, p ∈ news) → D.toList = P ++ (varint n ++ R) → n < 2 ^ 28 →
    (∀ h' tk' a t1 t2, (∀ b o, h.get? b = some o → h'.get? b = some o) → h'.IsTuple a #[.int n t1, .int (P.length + (varint n).length : Nat) t2] → Q (.ref a) ⟨h', gs, dr, tk', os⟩) →
    wpB true (model PySem.Challenge.rw_iy0003_01.row.prog w) A (call (.ref f) [.bytes D td, .int P.length ta]) Q E ⟨h, gs, dr, tk, os⟩
def RdSpec (w : World) (G : Heap) (D : Array UInt8) (gs : Array GenState) (dr : Drawn) (os : OsState) (L f : Addr) (need : List (Addr × Obj)) : Prop :=
  ∀ (A : Around) (E : Value → Shared → Prop) (Q : Value → Shared → Prop) (h : Heap) (tk : Nat) (m : Str → Option Value) (news : List (Addr × Obj)) (i : Nat) (td ta : Tok), A.depth < recursionLimit →
    Fr G L h m → News G L h news → (∀ p ∈ need, p ∈ news) → i < D.size →
    (∀ h' tk' a t1 t2, (∀ b o, h.get? b = some o → h'.get? b = some o) → h'.IsTuple a #[.int (octAt D i : Nat) t1, .int (i + 1 : Nat) t2] → Q (.ref a) ⟨h', gs, dr, tk', os⟩) →
    wpB true (model PySem.Challenge.rw_iy0003_01.row.prog w) A (call (.ref f) [.bytes D td, .int i ta]) Q E ⟨h, gs, dr, tk, os⟩

def CodesOk (G : Heap) (L c1 c2 : Addr) (need : List (Addr × Obj)) : Prop :=
  ∀ (h : Heap) (m : Str → Option Value) (news : List (Addr × Obj)), Fr G L h m → News G L h news → (∀ p ∈ need, p ∈ news) →
    h.CodeRec (.ref c1) (Str.ofString "_apply_delta_py.<locals>.get_delta_header_size") ∧ h.CodeRec (.ref c2) (Str.ofString "_apply_delta_py.<locals>.read_byte")
theorem wpB_cut2K {b : Bool} {M : Model} {A : Around} {E : Value → Shared → Prop} {s : Shared} {env : Env} {d1 d2 : Stmt} {rest : List Stmt} {Q : Flow → Shared → Prop} {P : Shared → Prop}
    (h : ∀ K : Shared → Prop, (∀ s', P s' → K s') → wpB b M A (exec d1 env) (fun f s₁ => f = .next ∧ wpB b M A (exec d2 env) (fun f s₂ => f = .next ∧ K s₂) E s₁) E s)
    (k : ∀ s', P s' → wpB b M A (execs rest env) Q E s') : wpB b M A (execs (d1 :: d2 :: rest) env) Q E s := wpB_cut2 P (h P fun _ x => x) k
/-- the two nested defs are made -/
def MidDefs (G : Heap) (D b : Array UInt8) (gs : Array GenState) (dr : Drawn) (os : OsState) (L : Addr) (q1 : Str) (a1 : Arguments) (b1 : List Stmt) (s1 : Scope) (q2 : Str) (a2 : Arguments) (b2 : List Stmt) (s2 : Scope) (s' : Shared) : Prop :=
  ∃ h' tk' m f1 f2 c1 c2 la co tci toi tb td extra fo1 fo2 dc1 pm1 an1 ct1 dc2 pm2 an2 ct2, s' = ⟨h', gs, dr, tk', os⟩ ∧ Fr G L h' m ∧
    Has m [(Str.ofString "read_byte", .ref f2), (Str.ofString "get_delta_header_size", .ref f1), (Str.ofString "index", .int 0 toi), (Str.ofString "out", .ref la), (Str.ofString "src_buf", .bytes b tb), (Str.ofString "delta", .bytes D td)] ∧
    News G L h' ((la, W.listOf #[] 0) :: (63, tabObj #[rawInt 69, rawInt 4, .ref c1, rawInt 83, rawInt 4, .ref c2]) :: (L + 1, co) :: extra) ∧
    (∀ p ∈ (63, tabObj #[rawInt 69, rawInt 4, .ref c1, rawInt 83, rawInt 4, .ref c2]) :: (L + 1, co) :: extra, p.1 ≠ la) ∧ co.data = .cell (some (.int D.size tci)) ∧
    (f1, fo1) ∈ extra ∧ (f2, fo2) ∈ extra ∧
    Obj.data fo1 = .func (fnX (Str.ofString "get_delta_header_size") q1 a1 b1 s1 [(Str.ofString "delta_length", L + 1)] .none .none dc1 pm1 an1 (.ref c1) ct1) ∧
    Obj.data fo2 = .func (fnX (Str.ofString "read_byte") q2 a2 b2 s2 [(Str.ofString "delta_length", L + 1)] .none .none dc2 pm2 an2 (.ref c2) ct2) ∧ CodesOk G L c1 c2 extra

set_option maxHeartbeats 4000000 in
theorem applyPy_call {Q : Value → Shared → Prop} {D b : Array UInt8} {n1 n2 : Nat} {ops : List Op} {sv dv : Value} {ps : Array Value} (X : (hdB.heap_39 w.params).In (hideAll s.heap [63])) (T : Top p loose mean mg mb (hideAll s.heap [63]))
    (hP : s.heap.get? 63 = some (tabObj ps)) (hps : TabSt (hideAll s.heap [63]) ps) (hh : A.handled = none) (hroom : A.depth + 1 < recursionLimit)
    (hsv : Buf (hideAll s.heap [63]) sv b) (hdv : Buf (hideAll s.heap [63]) dv D)
    (hD : D.toList = varint n1 ++ (varint n2 ++ ops.flatMap Op.enc)) (hops : ∀ o ∈ ops, o.Ok b) (hn1 : n1 = b.size) (hn2 : n2 = (ops.flatMap (Op.out b)).length)
    (hzD : D.size ≤ 16777216) (hzb : b.size ≤ 66000) (hzt : (ops.flatMap (Op.out b)).length ≤ 200000)
    (h : ∀ h' tk l items xs ps', (∀ b o, b ≠ 63 → s.heap.get? b = some o → h'.get? b = some o) → h'.get? 63 = some (tabObj ps') → TabSt (hideAll h' [63]) ps' → h'.IsList l items → BytesL items.toList xs → (catB xs).toList = ops.flatMap (Op.out b) → l ≠ 63 →
      Q (.ref l) { s with heap := h', toks := tk }) :
    wpB true (model PySem.Challenge.rw_iy0003_01.row.prog w) A (call (.ref 68) [sv, dv]) Q E s := by
  (revert X; k_fill; intro X)
  have C : CodeHd (hideAll s.heap [63]) 67 63 := codeHd_of_K X (by kernel_rfl)
  have hlim : s.heap.NoLimit := T.nolimit.keeps fun b o e => of_hideAll _ e
  refine wpB_call ?_
  refine' codeB_Kcells (G := hideAll s.heap [63]) (news := [(63, tabObj ps)]) [(Str.ofString "src_buf", sv), (Str.ofString "delta", dv)] (fun b o e => of_hideAll _ e) (Nat.le_of_eq (hideAll_size _ _)) (fun p hp => by rw [List.mem_singleton.mp hp]; exact ⟨hP, hideAll_none _ (.head _)⟩) X hlim (by omega) ?ho ?hcd ?hb ?hl ?hnd ?_ ?c3 ?c4 ?c5
  case ho => k_is
  case hcd => k_is
  case hb => exact BindsTo.of_eq rfl
  case hl => exact fun n x hx => .inl (locs rfl x hx)
  case hnd => decide
  case c3 => exact rfl
  case c4 => exact rfl
  case c5 => exact rfl
  intro L h₁ tk cells hL F N Y
  have h63 : 63 < L := hL ▸ Heap.lt_size hP
  clear hL
  k_cells Y
  rename Obj => co
  rename (co.data = _) => hco
  replace hco : co.data = .cell none := hco
  simp only [List.cons_append, List.nil_append] at N
  replace F : Fr (hideAll s.heap [63]) L h₁ (kstB (fun _ => none) [(Str.ofString "delta", dv), (Str.ofString "src_buf", sv)]) := F
  rw [show cellsFrom (L + 1) _ [] = [(Str.ofString "delta_length", L + 1)] from rfl]
  generalize hbase : hideAll s.heap [63] = G at X T C hps hsv hdv F N
  obtain ⟨hp, gs, dr, tk0, os⟩ := s
  dsimp only at hbase hP h hlim ⊢
  refine wpB_cut (fun s' => ∃ tb, AtA G L gs dr os [(L + 1, co), (63, tabObj ps)] [(Str.ofString "src_buf", .bytes b tb), (Str.ofString "delta", dv)] s') ?_ ?_
  · refine wpB_If (wpB_any ?_)
    rcases hsv with ⟨t', rfl⟩ | ⟨l, items, xs, rfl, hl, hx, rfl⟩
    · k_steps
      exact wpB_execs_nil ⟨rfl, _, _, _, _, rfl, F, by kst_all, N⟩
    · k_steps
      refine wpB_execs_cons (wpB_Assign_Name (joinB rfl rfl rfl rfl ?_))
      k_steps
      refine ⟨_, rfl, wpB_any ?_⟩
      k_steps
      refine ⟨l, items, xs, rfl, lstKept hl F.keep, hx, by omega, fun t' k => ?_⟩
      (try dsimp only)
      k_steps
      rename Fr _ _ _ _ => F3
      rename News _ _ _ _ => N3
      exact wpB_execs_nil ⟨rfl, _, _, _, _, rfl, F3, by kst_all, N3⟩
  rintro s' ⟨tb, h3, tk3, m3, rfl, F3, hm3, N3⟩
  replace F3 := frB F3 hm3
  clear F N hm3
  refine wpB_cut (fun s' => ∃ tb td, AtA G L gs dr os [(L + 1, co), (63, tabObj ps)] [(Str.ofString "src_buf", .bytes b tb), (Str.ofString "delta", .bytes D td)] s') ?_ ?_
  · refine wpB_If (wpB_any ?_)
    rcases hdv with ⟨t', rfl⟩ | ⟨l, items, xs, rfl, hl, hx, rfl⟩
    · k_steps
      exact wpB_execs_nil ⟨rfl, _, _, _, _, _, rfl, F3, by kst_all, N3⟩
    · k_steps
      refine wpB_execs_cons (wpB_Assign_Name (joinB rfl rfl rfl rfl ?_))
      k_steps
      refine ⟨_, rfl, wpB_any ?_⟩
      k_steps
      refine ⟨l, items, xs, rfl, lstKept hl F3.keep, hx, by omega, fun t' k => ?_⟩
      (try dsimp only)
      k_steps
      rename Fr _ _ _ _ => F4
      rename News _ _ _ _ => N4
      exact wpB_execs_nil ⟨rfl, _, _, _, _, _, rfl, F4, by kst_all, N4⟩
  rintro s' ⟨tb, td, h4, tk4, m4, rfl, F4, hm4, N4⟩
  replace F4 := frB F4 hm4
  clear F3 N3 hm4
  refine wpB_execs_any ?_
  k_steps
  (any_goals exact True.intro)
  (try dsimp only)
  refine wpB_execs_any ?_
  k_steps
  (try dsimp only)
  refine wpB_execs_any ?_
  k_steps
  (try dsimp only)
  rename_i la hx1 lla hx2 hx3 hx4 co' F6 N6 hco'
  refine' wpB_cut2K (P := MidDefs G D b gs dr os L ?q1 ?a1 ?b1 ?s1 ?q2 ?a2 ?b2 ?s2) ?mid ?_
  case mid =>
    intro Kp hKp
    rcases hps with hps | ⟨c1, c2, hps, hr1, hr2⟩
    · subst hps
      refine wpB_any ?_
      k_steps
      refine wpB_any ?_
      k_steps
      rename_i f1 c1 oc1 vs1 tt1 ct1 dc1 hh1 tkk1 d11 d21 l11 l21 hmid f2 c2 oc2 vs2 tt2 ct2 dc2 hh2 tkk2 d12 d22 l12 l22 hlast Fz Nz
      rw [qual1 rfl] at d21 Nz
      rw [qual2 rfl] at d22 Nz
      obtain ⟨fo2, fo1, hfo2, hfo1, Ny⟩ := nameFns Nz
      clear Nz
      have hcodes : CodesOk G L c1 c2 [(f2, fo2), (c2, oc2), (f1, fo1), (c1, oc1)] := fun h m news F N hneed =>
        ⟨codeRec_news N (hneed _ (.tail _ (.tail _ (.tail _ (.head _))))) d11 d21, codeRec_news N (hneed _ (.tail _ (.head _))) d12 d22⟩
      refine hKp _ ?_
      refine' ⟨_, _, _, f1, f2, c1, c2, la, co', _, ?toi0, tb, td, [(f2, fo2), (c2, oc2), (f1, fo1), (c1, oc1)], fo1, fo2, ?doc10, ?pm10, ?an10, ?ct10, ?doc20, ?pm20, ?an20, ?ct20, rfl, Fz, ?hmz0, ?hnz0, ?hez0, hco', .tail _ (.tail _ (.head _)), .head _, ?hff10, ?hff20, hcodes⟩
      case hff10 => exact (congrArg Obj.data hfo1).symm
      case hff20 => exact (congrArg Obj.data hfo2).symm
      case hmz0 => kst_all
      · intro p hp
        refine Ny p ?_
        simp only [List.mem_cons, List.not_mem_nil, or_false] at hp ⊢
        rcases hp with q | q | q | q | q | q | q <;> simp [q]
      · intro p hp
        simp only [List.mem_cons, List.not_mem_nil, or_false] at hp
        rcases hp with q | q | q | q | q | q <;> subst q <;> dsimp only <;> first | exact Nat.ne_of_lt (by omega) | exact Nat.ne_of_gt (by omega)
    · subst hps
      refine wpB_any ?_
      k_steps
      refine wpB_any ?_
      k_steps
      rename_i f1 ct1 dc1 hh1 tkk1 l11 hmid f2 ct2 dc2 hh2 tkk2 l12 hlast Fz Nz
      rw [qual1 rfl, qual2 rfl] at Nz
      obtain ⟨fo2, fo1, hfo2, hfo1, Ny⟩ := nameFns2 Nz
      clear Nz
      have hcodes : CodesOk G L c1 c2 [(f2, fo2), (f1, fo1)] := fun h m news F N hneed =>
        ⟨by obtain ⟨c, o, vs, t, e1, e2, e3, e4⟩ := hr1; exact ⟨c, o, vs, t, e1, F.keep _ _ e2, e3, e4⟩, by obtain ⟨c, o, vs, t, e1, e2, e3, e4⟩ := hr2; exact ⟨c, o, vs, t, e1, F.keep _ _ e2, e3, e4⟩⟩
      refine hKp _ ?_
      refine' ⟨_, _, _, f1, f2, c1, c2, la, co', _, ?toi1, tb, td, [(f2, fo2), (f1, fo1)], fo1, fo2, ?doc11, ?pm11, ?an11, ?ct11, ?doc21, ?pm21, ?an21, ?ct21, rfl, Fz, ?hmz1, ?hnz1, ?hez1, hco', .tail _ (.head _), .head _, ?hff11, ?hff21, hcodes⟩
      case hff11 => exact (congrArg Obj.data hfo1).symm
      case hff21 => exact (congrArg Obj.data hfo2).symm
      case hmz1 => kst_all
      · intro p hp
        refine Ny p ?_
        simp only [List.mem_cons, List.not_mem_nil, or_false] at hp ⊢
        rcases hp with q | q | q | q | q <;> simp [q]
      · intro p hp
        simp only [List.mem_cons, List.not_mem_nil, or_false] at hp
        rcases hp with q | q | q | q <;> subst q <;> dsimp only <;> first | exact Nat.ne_of_lt (by omega) | exact Nat.ne_of_gt (by omega)
  clear F6 N6 hco'
  rintro s' ⟨h7, tk7, m7, f1, f2, c1, c2, la, co, tci, toi, tb, td, extra, fo1, fo2, dc1, pm1, an1, ct1, dc2, pm2, an2, ct2, rfl, F7, hm7, N7, hne7, hco, hm1, hm2, hfd1, hfd2, hcodes⟩
  replace F7 := frB F7 hm7
  clear hm7
  have hdr : HdrSpec w G D gs dr os L f1 ((L + 1, co) :: extra) := by
    intro A E Q h tk m news P R n td ta hroom F N hneed hD' hn28 k
    have hf := (N _ (hneed _ (.tail _ hm1))).1
    have hcell := (N _ (hneed _ (.head _))).1
    have X' := X.keeps F.keep
    have T' := T.keeps F.keep
    have hrec := (hcodes h m news F N fun p hp => hneed p (.tail _ hp)).1
    refine wpB_call ?_
    refine' codeB_defK [(Str.ofString "delta", .bytes D td), (Str.ofString "index", .int P.length ta)] hroom hf hfd1 T'.nolimit hrec ?hb1 ?hl1 ?_ ?hc1 ?hd1 ?he1 ?hf1
    case hb1 => exact BindsTo.of_eq rfl
    case hl1 => exact locs rfl
    case hc1 => decide
    case hd1 => exact rfl
    case he1 => exact rfl
    case hf1 => exact rfl
    clear F N N7 X T F7 hneed hcodes hrec hf
    intro L' h₁ F1 N1
    dsimp only [List.reverse_cons, List.reverse_nil, List.nil_append, List.cons_append, List.length_cons, List.length_nil, kstB] at F1 hcell ⊢
    (try dsimp only at N1)
    refine wpB_execs_any ?_
    k_steps
    (try dsimp only)
    refine wpB_execs_any ?_
    k_steps
    (try dsimp only)
    rename Fr _ _ _ _ => F2
    rename News _ _ _ _ => N2
    refine wpB_execs_cons ?_
    refine' while_inv (σ := Nat × Nat × Nat × List UInt8 × Tok × Tok × Tok) (fun c => [(Str.ofString "size", .int (c.1 : Nat) c.2.2.2.2.1), (Str.ofString "i", .int (c.2.1 : Nat) c.2.2.2.2.2.1), (Str.ofString "index", .int (c.2.2.2.1.length : Nat) c.2.2.2.2.2.2), (Str.ofString "delta", .bytes D td)])
      (fun _ => []) (fun c => (D.toList = c.2.2.2.1 ++ (varint c.2.2.1 ++ R) ∧ c.1 + c.2.2.1 * 2 ^ c.2.1 = n ∧ c.2.2.2.1.length + (varint c.2.2.1).length = P.length + (varint n).length) ∧ c.1 < 2 ^ c.2.1 ∧ c.2.1 ≤ 28) (fun c => c.2.2.1) (0, 0, n, P, ?t1, ?t2, ?t3) F2 N2 ?hm ?hn ?hp ?turn
    case hm => kst_all
    case hn => exact fun p hp => nomatch hp
    case hp => exact ⟨⟨hD', by simp, rfl⟩, by simp, by simp⟩
    case turn =>
      rintro ⟨sz, i, mm, P', t1, t2, t3⟩ h3 tk3 mf ⟨⟨hD3, hs3, hl3⟩, hsz3, hi3⟩ F4 N4
      dsimp only [kstB] at F4 N4 hD3 hs3 hl3 hsz3 hi3 ⊢
      have hsz := size_of hD3
      have hvp := varint_pos mm
      rw [List.length_append, List.length_append] at hsz
      refine wpB_any ?_
      k_steps
      (try dsimp only)
      refine wpB_execs_cons (wpB_If (wpB_any ?_))
      k_steps
      refine wpB_execs_nil ?_
      refine wpB_execs_any ?_
      k_steps
      (any_goals exact True.intro)
      rename Fr _ _ _ _ => F5
      rename News _ _ _ _ => N5
      (try dsimp only)
      obtain ⟨cc, hcc, hcv, hc256⟩ : ∃ cc, octAt D P'.length = cc ∧ ((mm < 128 ∧ cc = mm ∧ (varint mm).length = 1) ∨ (128 ≤ mm ∧ cc = mm % 128 + 128 ∧ D.toList = (P' ++ [(mm % 128 + 128).toUInt8]) ++ (varint (mm / 128) ++ R) ∧ (varint mm).length = 1 + (varint (mm / 128)).length)) ∧ cc < 256 := by
        refine ⟨_, rfl, ?_, octAt_lt _ _⟩
        exact varint_step hD3
      rw [Int.toNat_natCast, hcc] at F5
      refine wpB_execs_any ?_
      k_steps
      (try dsimp only)
      refine wpB_execs_any ?_
      k_steps
      (try dsimp only)
      rw [and_not128b hc256]
      refine lshift_int_small (by omega) (by omega) (by rw [Int.natAbs_natCast]; omega) ?_
      k_steps
      (try dsimp only)
      refine wpB_execs_any ?_
      k_steps
      rename Fr _ _ _ _ => F6
      rename News _ _ _ _ => N6
      (try dsimp only)
      rw [or_shift hsz3] at F6
      rw [show ((P'.length : Int) + 1) = (((P' ++ [(mm % 128 + 128).toUInt8]).length : Nat) : Int) from by rw [List.length_append]; simp, show ((i : Int) + 7) = ((i + 7 : Nat) : Int) from rfl] at F6
      refine wpB_execs_cons (wpB_If (wpB_any ?_))
      k_steps
      · rename_i hbit
        rw [and_128 hc256] at hbit
        rcases hcv with ⟨q1, q2, q3⟩ | ⟨q1, q2, q3, q4⟩
        · exfalso; omega
        have h8 := shift_room hs3 hn28 q1
        rw [show cc % 128 = mm % 128 from by omega] at F6
        have hmod : mm % 128 * 2 ^ i + mm / 128 * 2 ^ (i + 7) = mm * 2 ^ i := by
          rw [Nat.pow_add, Nat.mul_comm (2 ^ i) (2 ^ 7), ← Nat.mul_assoc, ← Nat.add_mul, show (2 : Nat) ^ 7 = 128 from rfl, Nat.mod_add_div']
        refine wpB_execs_nil (wpB_execs_nil ?_)
        show TurnEnd _ _ _ _ _ _ _ _
        refine' TurnEnd.intro (sz + mm % 128 * 2 ^ i, i + 7, mm / 128, P' ++ [(mm % 128 + 128).toUInt8], ?t4, ?t5, ?t6) F6 ?hm4 N6 ?hn4 ?hp4
        case hm4 => kst_all
        case hn4 => exact fun p hp => nomatch hp
        case hp4 =>
          refine ⟨⟨⟨q3, ?_, ?_⟩, ?_, h8⟩, by dsimp only; omega⟩
          · dsimp only
            rw [Nat.add_assoc, hmod]; exact hs3
          · dsimp only
            rw [List.length_append, List.length_singleton]; omega
          · dsimp only
            have hlt : mm % 128 < 128 := Nat.mod_lt _ (by decide)
            have h9 : (mm % 128 + 1) * 2 ^ i ≤ 128 * 2 ^ i := Nat.mul_le_mul_right _ hlt
            rw [Nat.pow_add, show (2 : Nat) ^ 7 = 128 from rfl]
            rw [Nat.add_mul] at h9
            omega
      · rename_i hbit
        rw [and_128 hc256] at hbit
        rcases hcv with ⟨q1, q2, q3⟩ | ⟨q1, q2, q3, q4⟩
        rotate_left
        · exfalso; omega
        rw [show sz + cc % 128 * 2 ^ i = n from by rw [show cc % 128 = mm from by omega]; exact hs3, show (P' ++ [(mm % 128 + 128).toUInt8]).length = P.length + (varint n).length from by rw [List.length_append, List.length_singleton]; omega] at F6
        refine wpB_execs_cons (wpB_any ?_)
        k_steps
        show wpB _ _ _ _ _ _ _
        (try dsimp only)
        refine wpB_execs_cons (wpB_any ?_)
        k_steps
        rename Fr _ _ _ _ => F7
        rename News _ _ _ _ => N7
        exact k _ _ _ _ _ F7.keep ⟨_, (N7 _ (.head _)).1, rfl, _, rfl⟩
  have hrd : RdSpec w G D gs dr os L f2 ((L + 1, co) :: extra) := by
    intro A E Q h tk m news i td ta hroom F N hneed hi k
    have hf := (N _ (hneed _ (.tail _ hm2))).1
    have hcell := (N _ (hneed _ (.head _))).1
    have X' := X.keeps F.keep
    have T' := T.keeps F.keep
    have hrec := (hcodes h m news F N fun p hp => hneed p (.tail _ hp)).2
    refine wpB_call ?_
    refine' codeB_defK [(Str.ofString "delta", .bytes D td), (Str.ofString "index", .int i ta)] hroom hf hfd2 T'.nolimit hrec ?hb2 ?hl2 ?_ ?hc2 ?hd2 ?he2 ?hf2
    case hb2 => exact BindsTo.of_eq rfl
    case hl2 => exact locs rfl
    case hc2 => decide
    case hd2 => exact rfl
    case he2 => exact rfl
    case hf2 => exact rfl
    clear F N N7 X T F7 hneed hcodes hrec hf hdr
    intro L' h₁ F1 N1
    dsimp only [List.reverse_cons, List.reverse_nil, List.nil_append, List.cons_append, List.length_cons, List.length_nil, kstB] at F1 hcell ⊢
    (try dsimp only at N1)
    refine wpB_execs_cons (wpB_If (wpB_any ?_))
    k_steps
    refine wpB_execs_nil ?_
    (try dsimp only)
    refine wpB_execs_cons (wpB_any ?_)
    k_steps
    rename Fr _ _ _ _ => F7
    rename News _ _ _ _ => N7
    rw [Int.toNat_natCast] at N7
    exact k _ _ _ _ _ F7.keep ⟨_, (N7 _ (.head _)).1, rfl, _, rfl⟩
  have hd1 := hfd1
  have hd2 := hfd2
  have hneed : ∀ p ∈ (L + 1, co) :: extra, p ∈ (la, W.listOf #[] 0) :: (63, tabObj #[rawInt 69, rawInt 4, .ref c1, rawInt 83, rawInt 4, .ref c2]) :: (L + 1, co) :: extra := fun p hp => .tail _ (.tail _ hp)
  refine wpB_execs_cons (wpB_Assign_Tuple (wpB_Call_ofName (wpB_any ?_)))
  k_steps
  rename Fr _ _ _ _ => F7
  rename News _ _ _ _ => N7
  refine callWith_fnT hd1 (wpB_any ?_)
  k_steps
  rename Fr _ _ _ _ => F7
  rename News _ _ _ _ => N7
  (try dsimp only)
  refine ⟨(N7 _ (hneed _ (.tail _ hm1))).1, ?_⟩
  refine hdr _ _ _ _ _ _ _ [] _ n1 _ _ (by exact hroom) F7 N7 hneed hD (by omega) fun h8 tk8 a8 t1 t2 hk8 ht8 => ?_
  have F8 := Fr.after F7 hk8
  have N8 := News.keepsAll N7 hk8
  clear F7 N7 hk8
  refine assign_pair hh F8 N8 ht8 rfl rfl fun h9 F9 N9 => ?_
  clear F8 N8
  (try dsimp only)
  k_steps
  rename Fr _ _ _ _ => F9
  rename News _ _ _ _ => N9
  rw [show ([] : List UInt8).length + (varint n1).length = (varint n1).length from Nat.zero_add _] at F9
  (try dsimp only)
  refine wpB_execs_cons (wpB_Assign_Tuple (wpB_Call_ofName (wpB_any ?_)))
  k_steps
  rename Fr _ _ _ _ => F9
  rename News _ _ _ _ => N9
  refine callWith_fnT hd1 (wpB_any ?_)
  k_steps
  rename Fr _ _ _ _ => F9
  rename News _ _ _ _ => N9
  (try dsimp only)
  refine ⟨(N9 _ (hneed _ (.tail _ hm1))).1, ?_⟩
  refine hdr _ _ _ _ _ _ _ (varint n1) _ n2 _ _ (by exact hroom) F9 N9 hneed hD (by omega) fun h8 tk8 a8 t3 t4 hk8 ht8 => ?_
  have F8 := Fr.after F9 hk8
  have N8 := News.keepsAll N9 hk8
  clear F9 N9 hk8
  refine assign_pair hh F8 N8 ht8 rfl rfl fun h9 F9 N9 => ?_
  clear F8 N8
  (try dsimp only)
  k_steps
  rename Fr _ _ _ _ => F9
  rename News _ _ _ _ => N9
  rw [show (varint n1).length + (varint n2).length = (varint n1 ++ varint n2).length from by rw [List.length_append]] at F9
  (try dsimp only)
  refine wpB_execs_cons (wpB_If (wpB_any ?_))
  k_steps
  all_goals try (exfalso; omega)
  refine wpB_execs_nil ?_
  (try dsimp only)
  refine wpB_execs_any ?_
  k_steps
  rename Fr _ _ _ _ => F9
  rename News _ _ _ _ => N9
  (try dsimp only)
  refine wpB_execs_cons ?_
  refine' while_inv (σ := List UInt8 × List Op × List (Array UInt8) × Array Value × Nat × Nat × Tok × Tok) (fun c => [(Str.ofString "index", .int (c.1.length : Nat) c.2.2.2.2.2.2.1), (Str.ofString "remaining", .int (c.2.2.2.2.2.1 : Nat) c.2.2.2.2.2.2.2), (Str.ofString "out", .ref la), (Str.ofString "src_size", .int n1 t1), (Str.ofString "dest_size", .int n2 t3), (Str.ofString "read_byte", .ref f2), (Str.ofString "src_buf", .bytes b tb), (Str.ofString "delta", .bytes D td)])
    (fun c => (la, W.listOf c.2.2.2.1 c.2.2.2.2.1) :: (63, tabObj #[rawInt 69, rawInt 4, .ref c1, rawInt 83, rawInt 4, .ref c2]) :: (L + 1, co) :: extra)
    (fun c => D.toList = c.1 ++ c.2.1.flatMap Op.enc ∧ BytesL c.2.2.2.1.toList c.2.2.1 ∧ (catB c.2.2.1).toList ++ c.2.1.flatMap (Op.out b) = ops.flatMap (Op.out b) ∧ (∀ o ∈ c.2.1, o.Ok b) ∧ c.2.2.1.length ≤ c.1.length ∧ c.2.2.2.2.2.1 = (c.2.1.flatMap (Op.out b)).length) (fun c => c.2.1.length)
    (varint n1 ++ varint n2, ops, [], #[], 0, n2, ?u1, ?u2) F9 N9 ?hm1 ?hn1 ?hp1 ?turn1
  case hm1 => kst_all
  case hn1 => exact fun p hp => hp
  case hp1 => exact ⟨by rw [hD, List.append_assoc], rfl, rfl, hops, Nat.zero_le _, hn2⟩
  case turn1 =>
    clear F9 N9
    rintro ⟨P, rest, xs, its, nn, rem, t5, t6⟩ h7 tk7 mm ⟨hD', hxs, ht', ho', hxl, hrem⟩ F7 N7
    dsimp only [kstB] at F7 N7 hD' hxs ht' ho' hxl hrem ⊢
    have hsz := size_of hD'
    rw [List.length_append] at hsz
    have hil : its.size = xs.length := by have := congrArg List.length hxs; simpa using this
    refine wpB_any ?_
    k_steps
    · rename_i hlt
      rcases rest with _ | ⟨o, rest⟩
      · exfalso
        simp at hsz
        omega
      rw [List.flatMap_cons] at hD' hsz ht' hrem
      rw [List.length_append] at hrem
      have hoo := ho' o (.head _)
      rcases o with ⟨a, n⟩ | dd
      rotate_left
      · obtain ⟨hd0, hd1⟩ := hoo
        have ho : octAt D P.length = dd.length := by
          rw [octAt_of (c := dd.length.toUInt8) (R := dd ++ rest.flatMap Op.enc) hD', toUInt8_toNat (by omega)]
        have hel : (Op.ins dd).enc.length = dd.length + 1 := by simp [Op.enc]
        rw [List.length_append, hel] at hsz
        have hcmdlt : P.length < D.size := by omega
        refine wpB_execs_any ?_
        k_steps
        (any_goals exact True.intro)
        rename Fr _ _ _ _ => F8
        rename News _ _ _ _ => N8
        (try dsimp only)
        rw [Int.toNat_natCast, ho] at F8
        refine wpB_execs_any ?_
        k_steps
        rename Fr _ _ _ _ => F8
        rename News _ _ _ _ => N8
        (try dsimp only)
        refine wpB_execs_cons (wpB_If (wpB_any ?_))
        k_steps
        · rename_i hbit
          exfalso
          rw [and_128 (by omega)] at hbit
          omega
        rename_i hbit
        clear hbit
        have hol : (Op.out b (Op.ins dd)).length = dd.length := rfl
        refine wpB_execs_cons (wpB_If (wpB_any ?_))
        k_steps
        all_goals try (exfalso; omega)
        (try dsimp only)
        refine wpB_execs_cons (wpB_If (wpB_any ?_))
        k_steps
        all_goals try (exfalso; omega)
        refine wpB_execs_nil ?_
        (try dsimp only)
        refine wpB_execs_cons (wpB_If (wpB_any ?_))
        k_steps
        all_goals try (exfalso; omega)
        refine wpB_execs_nil ?_
        (try dsimp only)
        refine wpB_execs_cons (wpB_Expr (appendL rfl rfl rfl rfl ?_))
        k_steps
        rename Fr _ _ _ _ => F9
        rename News _ _ _ _ => N9
        refine ⟨la, its, nn, rfl, (N9 _ (.head _)).1, wpB_any ?_⟩
        k_steps
        rename Fr _ _ _ _ => F9
        rename News _ _ _ _ => N9
        refine ⟨its, nn, (N9 _ (.head _)).1, by omega, fun h9 n9 q9 hs9 => ?_⟩
        obtain ⟨Fa, Na⟩ := updN F9 N9 q9 hs9 hne7
        clear F9 N9 q9 hs9
        rw [show ((P.length : Int) + 1).toNat = P.length + 1 from rfl, show ((P.length : Int) + 1 + (dd.length : Int)).toNat = P.length + 1 + dd.length from rfl, extract_mid hD'] at Na
        (try dsimp only)
        refine wpB_execs_any ?_
        k_steps
        (try dsimp only)
        refine wpB_execs_any ?_
        k_steps
        rename Fr _ _ _ _ => Fb
        rename News _ _ _ _ => Nb
        (try dsimp only)
        rw [show ((P.length : Int) + 1 + (dd.length : Int)) = (((P ++ (Op.ins dd).enc).length : Nat) : Int) from by rw [List.length_append, hel]; omega,
          show ((rem : Int) - (dd.length : Int)) = ((rem - dd.length : Nat) : Int) from (Int.ofNat_sub (by rw [hrem, hol]; exact Nat.le_add_right _ _)).symm] at Fb
        repeat refine wpB_execs_nil ?_
        show TurnEnd _ _ _ _ _ _ _ _
        refine' TurnEnd.intro (P ++ (Op.ins dd).enc, rest, xs ++ [dd.toArray], its.push (.bytes dd.toArray _), n9, rem - dd.length, ?v1, ?v2) Fb ?hm2 Nb ?hn2 ?hp2
        case hm2 => kst_all
        case hn2 => exact fun p hp => by rw [List.append_nil] at hp; exact hp
        case hp2 =>
          refine ⟨⟨?_, ?_, ?_, fun o h => ho' o (.tail _ h), ?_, ?_⟩, by simp⟩
          · rw [hD', List.append_assoc]
          · dsimp only
            rw [Array.toList_push]
            exact hxs.push _ _
          · rw [← ht', catB_append, Array.toList_append, List.append_assoc]
            congr 1
            rw [catB_cons, catB_nil, Array.append_empty]; rfl
          · dsimp only
            rw [List.length_append, List.length_append, hel, List.length_singleton]; omega
          · dsimp only
            omega
      · obtain ⟨hn0, hn1', han⟩ := hoo
        have hD2 : D.toList = P ++ ((encTo (fieldAt a n) 6) ++ rest.flatMap Op.enc) := hD'
        have hmask := maskTo_lt (fieldAt a n) 6
        have ho : octAt D P.length = 128 + maskTo (fieldAt a n) 6 := by
          rw [octAt_of (c := (128 + maskTo (fieldAt a n) 6).toUInt8) (R := bytesTo (fieldAt a n) 6 ++ rest.flatMap Op.enc) hD2, toUInt8_toNat (by omega)]
        have hel : (Op.copy a n).enc.length = 1 + (bytesTo (fieldAt a n) 6).length := by simp [Op.enc, encCopy, encTo]; omega
        rw [List.length_append, hel] at hsz
        have hcmdlt : P.length < D.size := by omega
        refine wpB_execs_any ?_
        k_steps
        (any_goals exact True.intro)
        rename Fr _ _ _ _ => F8
        rename News _ _ _ _ => N8
        (try dsimp only)
        rw [Int.toNat_natCast, ho] at F8
        refine wpB_execs_any ?_
        k_steps
        rename Fr _ _ _ _ => F8
        rename News _ _ _ _ => N8
        (try dsimp only)
        refine wpB_execs_cons (wpB_If (wpB_any ?_))
        k_steps
        rotate_left
        · rename_i hbit
          exfalso
          rw [and_128 (by omega)] at hbit
          omega
        rename_i hbit
        clear hbit
        refine wpB_execs_any ?_
        k_steps
        rename Fr _ _ _ _ => F9
        rename News _ _ _ _ => N9
        (try dsimp only)
        refine wpB_execs_cons ?_
        refine' for_range (σ := Nat × Nat × Tok × Tok) 4 (fun c => [(Str.ofString "cp_off", .int (c.1 : Nat) c.2.2.1), (Str.ofString "index", .int (P.length + 1 + c.2.1 : Nat) c.2.2.2), (Str.ofString "cmd", .int (128 + maskTo (fieldAt a n) 6 : Nat) ?pa), (Str.ofString "remaining", .int (rem : Nat) t6), (Str.ofString "out", .ref la), (Str.ofString "src_size", .int n1 t1), (Str.ofString "dest_size", .int n2 t3), (Str.ofString "read_byte", .ref f2), (Str.ofString "src_buf", .bytes b tb), (Str.ofString "delta", .bytes D td)])
          (fun _ => ((la, W.listOf its nn) :: (63, tabObj #[rawInt 69, rawInt 4, .ref c1, rawInt 83, rawInt 4, .ref c2]) :: (L + 1, co) :: extra)) (fun i c => c.1 = a % 256 ^ i ∧ c.2.1 = (bytesTo (fieldAt a n) (min (i) 6)).length) (0, 0, ?pb, ?pc) F9 N9 ?phm ?phn ?php hh (by decide) rfl rfl rfl ?phead ?pturn ?phadr ?pdone
        case phm => kst_all
        case phn => exact fun p hp => hp
        case php => exact ⟨by simp [Nat.mod_one], rfl⟩
        case phadr => exact fun _ _ => rfl
        case phead =>
          k_steps
          rename Fr _ _ _ _ => F4
          rename News _ _ _ _ => N4
          exact ⟨_, _, _, _, _, _, rfl, rfl, by assumption, F4, N4⟩
        case pturn =>
          (try clear F9 N9)
          rintro i ⟨off, fo, t7, t8⟩ h9 ti tk9 mi I o hi ⟨hoff, hfo⟩ hneI Fa Na
          dsimp only [kstB] at Fa Na hoff hfo hneI ⊢
          refine wpB_execs_cons (wpB_If (wpB_any ?_))
          k_steps
          · rename_i hbit
            rw [cmd_bit] at hbit
            replace hbit : (128 + maskTo (fieldAt a n) 6) / 2 ^ i % 2 * 2 ^ i ≠ 0 := fun q => hbit (by rw [q]; rfl)
            have hi6 : i < 6 := by omega
            have hf0 : fieldAt a n (i) ≠ 0 := fun q => by
              rw [deed_bit _ hi6, if_pos q, Nat.zero_mul] at hbit
              exact hbit rfl
            rw [show min (i) 6 = i from by omega] at hfo
            obtain ⟨hoct, hin⟩ := field_oct hi6 hf0 (fieldAt_lt a n (i)) hD2
            rw [← hfo] at hoct hin
            have hflt := fieldAt_lt a n (i)
            subst hoff
            have hneedI : ∀ p ∈ (L + 1, co) :: extra, p ∈ ((la, W.listOf its nn) :: (63, tabObj #[rawInt 69, rawInt 4, .ref c1, rawInt 83, rawInt 4, .ref c2]) :: (L + 1, co) :: extra) ++ [(I, o)] := fun p hp => List.mem_append_left _ (.tail _ (.tail _ hp))
            (try dsimp only)
            refine wpB_execs_cons (wpB_Assign_Tuple (wpB_Call_ofName (wpB_any ?_)))
            k_steps
            rename Fr _ _ _ _ => Fa
            rename News _ _ _ _ => Na
            refine callWith_fnT hd2 (wpB_any ?_)
            k_steps
            rename Fr _ _ _ _ => Fa
            rename News _ _ _ _ => Na
            (try dsimp only)
            refine ⟨(Na _ (hneedI _ (.tail _ hm2))).1, ?_⟩
            refine hrd _ _ _ _ _ _ _ (P.length + 1 + fo) _ _ (by exact hroom) Fa Na hneedI hin fun h10 tk10 a10 u1 u2 hk10 ht10 => ?_
            have Fb := Fr.after Fa hk10
            have Nb := News.keepsAll Na hk10
            clear Fa Na hk10
            refine assign_pair hh Fb Nb ht10 rfl rfl fun h11 Fc Nc => ?_
            clear Fb Nb
            (try dsimp only)
            k_steps
            rename Fr _ _ _ _ => Fc
            rename News _ _ _ _ => Nc
            rw [hoct] at Fc
            (try dsimp only)
            refine wpB_execs_any ?_
            k_steps
            rename Fr _ _ _ _ => Fd
            rename News _ _ _ _ => Nd
            (try dsimp only)
            rw [off_step (fieldAt_lo (l := n) hi).symm] at Fd
            repeat refine wpB_execs_nil ?_
            show TurnEnd _ _ _ _ _ _ _ _
            refine' TurnEnd.intro (a % 256 ^ (i + 1), fo + 1, ?pd, ?pe) Fd ?ph1 Nd ?ph2 ?ph3
            case ph1 => kst_all
            case ph2 => exact fun p hp => hp
            case ph3 =>
              refine ⟨rfl, ?_⟩
              dsimp only
              rw [hfo, show min (i + 1) 6 = i + 1 from by omega, bytesTo_take hf0]
          · rename_i hbit
            rw [cmd_bit] at hbit
            have hb0 : (128 + maskTo (fieldAt a n) 6) / 2 ^ (i) % 2 = 0 := by
              have hb1 : (128 + maskTo (fieldAt a n) 6) / 2 ^ (i) % 2 * 2 ^ (i) = 0 := by exact_mod_cast hbit
              rcases Nat.mul_eq_zero.mp hb1 with q | q
              · exact q
              · exact absurd q (Nat.ne_of_gt (Nat.pow_pos (by decide)))
            subst hoff
            have hz0 : fieldAt a n i = 0 := by
              rcases Nat.eq_zero_or_pos (fieldAt a n i) with q | q
              · exact q
              · rw [deed_bit _ (by omega), if_neg (by omega)] at hb0; cases hb0
            have hz : a / 256 ^ i % 256 = 0 := by rw [← fieldAt_lo (l := n) hi]; exact hz0
            have hlen : (bytesTo (fieldAt a n) (min i 6)).length = (bytesTo (fieldAt a n) (min (i + 1) 6)).length := by
              rw [show min i 6 = i from by omega, show min (i + 1) 6 = i + 1 from by omega, bytesTo_skip hz0]
            repeat refine wpB_execs_nil ?_
            show TurnEnd _ _ _ _ _ _ _ _
            refine' TurnEnd.intro (a % 256 ^ i, fo, ?pf, ?pg) Fa ?ph4 Na ?ph5 ?ph6
            case ph4 => kst_all
            case ph5 => exact fun p hp => hp
            case ph6 => exact ⟨(off_skip hz).symm, hfo.trans hlen⟩
        case pdone =>
          (try clear F9 N9)
          rintro ⟨off, fo, t7, t8⟩ h9 tk9 mi ⟨hoff, hfo⟩ F9 N9
          dsimp only [kstB] at F9 N9 hoff hfo ⊢
          have hoa : off = a := by rw [hoff]; exact Nat.mod_eq_of_lt (by rw [show (256 : Nat) ^ 4 = 4294967296 from rfl]; omega)
          rw [hoa, show fo = (bytesTo (fieldAt a n) 4).length from hfo] at F9
          clear hoff hfo hoa
          refine wpB_execs_any ?_
          k_steps
          rename Fr _ _ _ _ => F9
          rename News _ _ _ _ => N9
          (try dsimp only)
          refine wpB_execs_cons ?_
          refine' for_range (σ := Nat × Nat × Tok × Tok) 3 (fun c => [(Str.ofString "cp_size", .int (c.1 : Nat) c.2.2.1), (Str.ofString "index", .int (P.length + 1 + c.2.1 : Nat) c.2.2.2), (Str.ofString "cp_off", .int (a : Nat) t7), (Str.ofString "cmd", .int (128 + maskTo (fieldAt a n) 6 : Nat) ?qa), (Str.ofString "remaining", .int (rem : Nat) t6), (Str.ofString "out", .ref la), (Str.ofString "src_size", .int n1 t1), (Str.ofString "dest_size", .int n2 t3), (Str.ofString "read_byte", .ref f2), (Str.ofString "src_buf", .bytes b tb), (Str.ofString "delta", .bytes D td)])
            (fun _ => ((la, W.listOf its nn) :: (63, tabObj #[rawInt 69, rawInt 4, .ref c1, rawInt 83, rawInt 4, .ref c2]) :: (L + 1, co) :: extra)) (fun i c => c.1 = n % 256 ^ i ∧ c.2.1 = (bytesTo (fieldAt a n) (min (4 + i) 6)).length) (0, (bytesTo (fieldAt a n) 4).length, ?qb, ?qc) F9 N9 ?qhm ?qhn ?qhp hh (by decide) rfl rfl rfl ?qhead ?qturn ?qhadr ?qdone
          case qhm => kst_all
          case qhn => exact fun p hp => hp
          case qhp => exact ⟨by simp [Nat.mod_one], rfl⟩
          case qhadr => exact fun _ _ => rfl
          case qhead =>
            k_steps
            rename Fr _ _ _ _ => F4
            rename News _ _ _ _ => N4
            exact ⟨_, _, _, _, _, _, rfl, rfl, by assumption, F4, N4⟩
          case qturn =>
            (try clear F9 N9)
            rintro i ⟨off, fo2, t9, t10⟩ h9 ti tk9 mi I o hi ⟨hoff, hfo2⟩ hneI Fa Na
            dsimp only [kstB] at Fa Na hoff hfo2 hneI ⊢
            refine wpB_execs_cons (wpB_If (wpB_any ?_))
            k_steps
            · rename_i hbit
              rw [cmd_bit4] at hbit
              replace hbit : (128 + maskTo (fieldAt a n) 6) / 2 ^ (4 + i) % 2 * 2 ^ (4 + i) ≠ 0 := fun q => hbit (by rw [q]; rfl)
              have hi6 : 4 + i < 6 := by
                rcases Nat.lt_or_ge i 2 with q | q
                · omega
                · exfalso
                  have e : i = 2 := by omega
                  subst e
                  exact hbit (by rw [show 4 + 2 = 6 from rfl, deed_bit6, Nat.zero_mul])
              have hf0 : fieldAt a n (4 + i) ≠ 0 := fun q => by
                rw [deed_bit _ hi6, if_pos q, Nat.zero_mul] at hbit
                exact hbit rfl
              rw [show min (4 + i) 6 = 4 + i from by omega] at hfo2
              obtain ⟨hoct, hin⟩ := field_oct hi6 hf0 (fieldAt_lt a n (4 + i)) hD2
              rw [← hfo2] at hoct hin
              have hflt := fieldAt_lt a n (4 + i)
              subst hoff
              have hneedI : ∀ p ∈ (L + 1, co) :: extra, p ∈ ((la, W.listOf its nn) :: (63, tabObj #[rawInt 69, rawInt 4, .ref c1, rawInt 83, rawInt 4, .ref c2]) :: (L + 1, co) :: extra) ++ [(I, o)] := fun p hp => List.mem_append_left _ (.tail _ (.tail _ hp))
              (try dsimp only)
              refine wpB_execs_cons (wpB_Assign_Tuple (wpB_Call_ofName (wpB_any ?_)))
              k_steps
              rename Fr _ _ _ _ => Fa
              rename News _ _ _ _ => Na
              refine callWith_fnT hd2 (wpB_any ?_)
              k_steps
              rename Fr _ _ _ _ => Fa
              rename News _ _ _ _ => Na
              (try dsimp only)
              refine ⟨(Na _ (hneedI _ (.tail _ hm2))).1, ?_⟩
              refine hrd _ _ _ _ _ _ _ (P.length + 1 + fo2) _ _ (by exact hroom) Fa Na hneedI hin fun h12 tk12 a12 u3 u4 hk12 ht12 => ?_
              have Fb := Fr.after Fa hk12
              have Nb := News.keepsAll Na hk12
              clear Fa Na hk12
              refine assign_pair hh Fb Nb ht12 rfl rfl fun h13 Fc Nc => ?_
              clear Fb Nb
              (try dsimp only)
              k_steps
              rename Fr _ _ _ _ => Fc
              rename News _ _ _ _ => Nc
              rw [hoct] at Fc
              (try dsimp only)
              refine wpB_execs_any ?_
              k_steps
              rename Fr _ _ _ _ => Fd
              rename News _ _ _ _ => Nd
              (try dsimp only)
              rw [off_step (fieldAt_hi a n i).symm] at Fd
              repeat refine wpB_execs_nil ?_
              show TurnEnd _ _ _ _ _ _ _ _
              refine' TurnEnd.intro (n % 256 ^ (i + 1), fo2 + 1, ?qd, ?qe) Fd ?qh1 Nd ?qh2 ?qh3
              case qh1 => kst_all
              case qh2 => exact fun p hp => hp
              case qh3 =>
                refine ⟨rfl, ?_⟩
                dsimp only
                rw [hfo2, show min (4 + (i + 1)) 6 = 4 + i + 1 from by omega, bytesTo_take hf0]
            · rename_i hbit
              rw [cmd_bit4] at hbit
              have hb0 : (128 + maskTo (fieldAt a n) 6) / 2 ^ (4 + i) % 2 = 0 := by
                have hb1 : (128 + maskTo (fieldAt a n) 6) / 2 ^ (4 + i) % 2 * 2 ^ (4 + i) = 0 := by exact_mod_cast hbit
                rcases Nat.mul_eq_zero.mp hb1 with q | q
                · exact q
                · exact absurd q (Nat.ne_of_gt (Nat.pow_pos (by decide)))
              subst hoff
              have hz : n / 256 ^ i % 256 = 0 ∧ (bytesTo (fieldAt a n) (min (4 + i) 6)).length = (bytesTo (fieldAt a n) (min (4 + (i + 1)) 6)).length := by
                rcases Nat.lt_or_ge i 2 with q | q
                · have hz0 : fieldAt a n (4 + i) = 0 := by
                    rcases Nat.eq_zero_or_pos (fieldAt a n (4 + i)) with q | q
                    · exact q
                    · rw [deed_bit _ (by omega), if_neg (by omega)] at hb0; cases hb0
                  refine ⟨by rw [← fieldAt_hi a n i]; exact hz0, ?_⟩
                  rw [show min (4 + i) 6 = 4 + i from by omega, show min (4 + (i + 1)) 6 = 4 + i + 1 from by omega, bytesTo_skip hz0]
                · have e : i = 2 := by omega
                  subst e
                  exact ⟨by rw [show (256 : Nat) ^ 2 = 65536 from rfl]; omega, rfl⟩
              have hlen := hz.2
              replace hz := hz.1
              repeat refine wpB_execs_nil ?_
              show TurnEnd _ _ _ _ _ _ _ _
              refine' TurnEnd.intro (n % 256 ^ i, fo2, ?qf, ?qg) Fa ?qh4 Na ?qh5 ?qh6
              case qh4 => kst_all
              case qh5 => exact fun p hp => hp
              case qh6 => exact ⟨(off_skip hz).symm, hfo2.trans hlen⟩
          case qdone =>
            (try clear F9 N9)
            rintro ⟨off, fo2, t9, t10⟩ h9 tk9 mi ⟨hoff, hfo2⟩ F9 N9
            dsimp only [kstB] at F9 N9 hoff hfo2 ⊢
            have hoa : off = n := by rw [hoff]; exact Nat.mod_eq_of_lt (by rw [show (256 : Nat) ^ 3 = 16777216 from rfl]; omega)
            have hat : P.length + 1 + fo2 = (P ++ (Op.copy a n).enc).length := by rw [List.length_append, hel, hfo2]; show _ = _ + (1 + (bytesTo (fieldAt a n) 6).length); rw [show min (4 + 3) 6 = 6 from rfl]; omega
            rw [hoa, hat] at F9
            clear hoff hfo2 hoa
            have hext : (b.extract a (a + n)).size = n := by rw [Array.size_extract, Nat.min_eq_left han, Nat.add_sub_cancel_left]
            have hol : (Op.out b (Op.copy a n)).length = n := by show (b.extract a (a + n)).toList.length = n; rw [Array.length_toList]; exact hext
            refine wpB_execs_cons (wpB_If (wpB_any ?_))
            k_steps
            all_goals try (exfalso; omega)
            refine wpB_execs_nil ?_
            (try dsimp only)
            refine wpB_execs_cons (wpB_If (wpB_any ?_))
            k_steps
            all_goals try (exfalso; omega)
            refine wpB_execs_nil ?_
            (try dsimp only)
            refine wpB_execs_cons (wpB_Expr (appendL rfl rfl rfl rfl ?_))
            k_steps
            rename Fr _ _ _ _ => F9
            rename News _ _ _ _ => N9
            refine ⟨la, its, nn, rfl, (N9 _ (.head _)).1, wpB_any ?_⟩
            k_steps
            rename Fr _ _ _ _ => F9
            rename News _ _ _ _ => N9
            refine ⟨its, nn, (N9 _ (.head _)).1, by omega, fun h14 n14 q14 hs14 => ?_⟩
            obtain ⟨Fa, Na⟩ := updN F9 N9 q14 hs14 hne7
            clear F9 N9 q14 hs14
            rw [show ((a : Int)).toNat = a from rfl, show ((a : Int) + (n : Int)).toNat = a + n from rfl] at Na
            (try dsimp only)
            refine wpB_execs_any ?_
            k_steps
            rename Fr _ _ _ _ => Fb
            rename News _ _ _ _ => Nb
            (try dsimp only)
            rw [show ((rem : Int) - (n : Int)) = ((rem - n : Nat) : Int) from (Int.ofNat_sub (by rw [hrem, hol]; exact Nat.le_add_right _ _)).symm] at Fb
            repeat refine wpB_execs_nil ?_
            show TurnEnd _ _ _ _ _ _ _ _
            refine' TurnEnd.intro (P ++ (Op.copy a n).enc, rest, xs ++ [b.extract a (a + n)], its.push (.bytes (b.extract a (a + n)) _), n14, rem - n, ?w1, ?w2) Fb ?hm3 Nb ?hn3 ?hp3
            case hm3 => kst_all
            case hn3 => exact fun p hp => by rw [List.append_nil] at hp; exact hp
            case hp3 =>
              refine ⟨⟨?_, ?_, ?_, fun o h => ho' o (.tail _ h), ?_, ?_⟩, by simp⟩
              · rw [hD', List.append_assoc]
              · dsimp only
                rw [Array.toList_push]
                exact hxs.push _ _
              · rw [← ht', catB_append, Array.toList_append, List.append_assoc]
                congr 1
                rw [catB_cons, catB_nil, Array.append_empty]; rfl
              · dsimp only
                rw [List.length_append, List.length_append, hel, List.length_singleton]; omega
              · dsimp only
                omega
    · rename_i hlt
      rcases rest with _ | ⟨o, rest⟩
      rotate_left
      · exfalso
        have := o.enc_pos
        rw [List.flatMap_cons, List.length_append] at hsz
        omega
      rw [List.flatMap_nil, List.append_nil] at ht'
      rw [List.flatMap_nil, List.length_nil, Nat.add_zero] at hsz
      refine wpB_execs_cons (wpB_If (wpB_any ?_))
      k_steps
      all_goals try (exfalso; omega)
      refine wpB_execs_nil ?_
      (try dsimp only)
      refine wpB_execs_cons (wpB_If (wpB_isTrue_Compare1 ?_))
      rename Fr _ _ _ _ => F8
      rename News _ _ _ _ => N8
      refine wpB_any (nameX_L F8 rfl ?_)
      refine any_wpB (wpB_Call_ofName (wpB_any ?_))
      k_steps
      rename Fr _ _ _ _ => F8
      rename News _ _ _ _ => N8
      refine' callWith_K X ?hoc (wpB_any ?_)
      case hoc => k_is
      k_steps
      rename Fr _ _ _ _ => F8
      rename News _ _ _ _ => N8
      refine ⟨F8.keep, ?_⟩
      (try dsimp only)
      have hcat : (catB xs).size = n2 := by
        rw [hn2, ← ht', Array.length_toList]
      refine chunksLen_call (X.keeps F8.keep) (T.keeps F8.keep) (by exact hh) (by exact hroom) ⟨_, (N8 _ (.head _)).1, rfl, _, rfl⟩ hxs (by omega) (by omega) fun h15 tk15 t15 hk15 => ?_
      have F9 := Fr.after F8 hk15
      have N9 := News.keepsAll N8 hk15
      clear F8 N8 hk15
      (try dsimp only)
      rw [hcat]
      k_steps
      all_goals try (exfalso; omega)
      refine wpB_execs_nil ?_
      (try dsimp only)
      refine wpB_execs_cons (wpB_any ?_)
      k_steps
      rename Fr _ _ _ _ => F9
      rename News _ _ _ _ => N9
      have h63g := (N9 _ (.tail _ (.head _))).1
      have hh63 : ∀ c q, Heap.CodeRec _ (.ref c) q → Heap.CodeRec (hideAll _ [63]) (.ref c) q := fun c q hr => by
        obtain ⟨c', o, vs, t, e1, e2, e3, e4⟩ := hr
        refine ⟨c', o, vs, t, e1, hideAll_get _ e2 (fun q => ?_), e3, e4⟩
        rw [List.mem_singleton.mp q] at e2
        rw [h63g] at e2
        cases e2
        cases e3
        cases e4
      have hcc := hcodes _ _ _ F9 N9 fun p hp => .tail _ (.tail _ (.tail _ hp))
      exact h _ _ la its xs _ (fun b' o hb' e => F9.keep _ _ (hbase ▸ hideAll_get _ e (fun q => hb' (List.mem_singleton.mp q)))) h63g (.inr ⟨c1, c2, rfl, hh63 _ _ hcc.1, hh63 _ _ hcc.2⟩) ⟨_, (N9 _ (.head _)).1, rfl, _, rfl⟩ hxs ht' (Ne.symm (hne7 _ (.head _)))
end
end
section
theorem anew_W3 : True := by (w_top off); exact True.intro
open PySem PySem.W PySem.Calls PyProof.Rows

section
variable {M : Model} {A : Around} {D U : Shared → Shared → Prop} {cs : List (Array UInt8)} {s₀ : Shared} {c : Code} {fs : List Frame} {s : Shared} {env : Env}
  {K : Flow → Sem Fin} {H : Value → Sem Fin} {gd : Bool → Bool} {lv : List Value → List Value}
theorem segB_cut {st : Stmt} {rest : List Stmt} (P : Shared → Prop) (h : wpB true M (A.over c fs) (exec st env) (fun f s' => f = .next ∧ P s') NE s)
    (k : ∀ s', P s' → SegB M A D U cs s₀ c ((execs rest env).wrap K H gd lv) fs s') : SegB M A D U cs s₀ c ((execs (st :: rest) env).wrap K H gd lv) fs s :=
  segB_stmt (wpB_mono h (fun _ s' ⟨e, hp⟩ => ⟨e, k s' hp⟩) fun _ _ x => x)
end

/-- the frame's state at a place of the generator -/
def AtG (hb : Heap) (L S Ga : Addr) (go oS : Obj) (gs : Array GenState) (dr : Drawn) (os : OsState) (ps : List (Str × Value)) (s' : Shared) : Prop :=
  ∃ h' tk' m, s' = ⟨h', gs, dr, tk', os⟩ ∧ Fr hb L h' m ∧ Has m ps ∧ News hb L h' [(S, oS), (Ga, go)]

section
variable {w : World} {A : Around} {E : Value → Shared → Prop} {s : Shared} {p : Program} {loose : List Str} {mean : ExcName → Option Value} {mg mb : Str → Option Value}

def ReadyG (w : World) (hb h' : Heap) (Ga : Addr) (go : Obj) (gs : GenState) (cs : List (Array UInt8)) : Prop :=
  ∀ (A : Around) (S : Addr) (s : Shared) (oS : Obj), A.handled = none → A.depth + 1 < recursionLimit → h'.objs.size ≤ S → (∀ b o, h'.get? b = some o → s.heap.get? b = some o) → s.heap.get? S = some oS →
    GoesB (model PySem.Challenge.rw_iy0003_01.row.prog w) A (GD hb S Ga go) (GU S) cs gs s

set_option maxHeartbeats 4000000 in
theorem createPy_call {Q : Value → Shared → Prop} {b t : Array UInt8} {rows : List Row} {bv tv : Value} {Ra : Addr}
    (X : (hdB.heap_39 w.params).In s.heap) (T : Top p loose mean mg mb s.heap) (hroom : A.depth < recursionLimit)
    (hbv : Buf s.heap bv b) (htv : Buf s.heap tv t) (hR : RowsAt s.heap Ra rows) (hok : ∀ r ∈ rows, r.Ok b t) (hzb : b.size < 200000) (hzt : t.size < 200000)
    (hQ : ∀ h' tk Ga go gs, (∀ b o, s.heap.get? b = some o → h'.get? b = some o) → h'.get? Ga = some go → (∀ h : Heap, h.get? Ga = some go → h.IsGen Ga s.gens.size) →
      ReadyG w s.heap h' Ga go gs (deltaCh b t rows) → Q (.ref Ga) { s with heap := h', gens := s.gens.push gs, toks := tk }) :
    wpAny (model PySem.Challenge.rw_iy0003_01.row.prog w) A (call (.ref 61) [bv, tv, .ref Ra]) Q E s := by
  (revert X; k_fill; intro X)
  refine wpAny_call ?_
  refine' codeAny_Kgen [(Str.ofString "base_buf", bv), (Str.ofString "target_buf", tv), (Str.ofString "opcodes", .ref Ra)] X T.nolimit hroom ?ho ?hcd ?hb ?hl ?_ ?c2 ?c3 ?c4 ?c5
  case ho => k_is
  case hcd => k_is
  case hb => exact BindsTo.of_eq rfl
  case hl => exact locs rfl
  case c2 => decide
  case c3 => exact rfl
  case c4 => exact rfl
  case c5 => exact rfl
  intro L h₁ u1 u2 tk hL F N
  have hLlt : L < h₁.objs.size := F.ns.lt
  refine hQ _ _ _ _ _ (fun b o e => Heap.get?_push_of_some _ (F.keep b o e)) (Heap.get?_push_size _ rfl) (fun h e => ⟨_, _, _, e, rfl, rfl, rfl⟩) ?_
  generalize hGo : ({ cls := .type "generator", data := .fields #[.int s.gens.size 0, .str _ u1, .str _ u2] } : Obj) = go
  intro A' S s2 oS hh' hroom' hSz hk hS
  show isHold _ = false ∧ _
  refine ⟨rfl, ?_⟩
  have hGa : s2.heap.get? h₁.objs.size = some go := hk _ _ (Heap.get?_push_size _ (by rw [← hGo]; rfl))
  have hsz : (h₁.push go).objs.size = h₁.objs.size + 1 := by simp [Heap.push]
  have F2 : Fr s.heap L s2.heap _ := Fr.after F (fun b o e => hk _ _ (Heap.get?_push_of_some _ e))
  have none_of : ∀ a, h₁.objs.size ≤ a → s.heap.get? a = none := fun a ha => by
    cases q : s.heap.get? a with
    | none => rfl
    | some o =>
      have : a < h₁.objs.size := Heap.lt_size (F.keep _ _ q)
      omega
  have N2 : News s.heap L s2.heap [(S, oS), (h₁.objs.size, go)] := by
    intro p hp
    rcases List.mem_cons.mp hp with rfl | hp
    · exact ⟨hS, by rw [hsz] at hSz; exact Nat.ne_of_gt (by omega), none_of _ (by omega)⟩
    · rw [List.mem_singleton.mp hp]
      exact ⟨hGa, Nat.ne_of_gt hLlt, none_of _ (Nat.le_refl _)⟩
  have hne : h₁.objs.size ≠ S := by rw [hsz] at hSz; exact Nat.ne_of_lt (by omega)
  clear hQ N hk hSz hS hGa
  generalize h₁.objs.size = Ga at N2 hne ⊢
  (try dsimp only [List.reverse_cons, List.reverse_nil, List.nil_append, List.cons_append, kstB] at F2)
  obtain ⟨hb, gs0, dr0, tk0, os0⟩ := s
  obtain ⟨hp, gs, dr, tk, os⟩ := s2
  (try dsimp only at F2 N2 X T hbv htv hR ⊢)
  clear F hLlt none_of hGo hsz
  have hS0 : hp.get? S = some oS := (N2 _ (.head _)).1
  refine segB_func ?_
  refine segB_cut (fun s' => ∃ tb, AtG hb L S Ga go oS gs dr os [(Str.ofString "base_buf", .bytes b tb), (Str.ofString "target_buf", tv), (Str.ofString "opcodes", .ref Ra)] s') ?_ ?_
  · refine wpB_If (wpB_any ?_)
    rcases hbv with ⟨t', rfl⟩ | ⟨l, items, xs, rfl, hl, hx, rfl⟩
    · k_steps
      exact wpB_execs_nil ⟨rfl, _, _, _, _, rfl, F2, by kst_all, N2⟩
    · k_steps
      refine wpB_execs_cons (wpB_Assign_Name (joinB rfl rfl rfl rfl ?_))
      k_steps
      refine ⟨_, rfl, wpB_any ?_⟩
      k_steps
      refine ⟨l, items, xs, rfl, lstKept hl F2.keep, hx, by omega, fun t' k => ?_⟩
      (try dsimp only)
      k_steps
      rename Fr _ _ _ _ => F3
      rename News _ _ _ _ => N3
      exact wpB_execs_nil ⟨rfl, _, _, _, _, rfl, F3, by kst_all, N3⟩
  · rintro s' ⟨tb, h3, tk3, m3, rfl, F3, hm3, N3⟩
    replace F3 := frB F3 hm3
    clear F2 N2 hm3
    refine segB_cut (fun s' => ∃ tb tt, AtG hb L S Ga go oS gs dr os [(Str.ofString "base_buf", .bytes b tb), (Str.ofString "target_buf", .bytes t tt), (Str.ofString "opcodes", .ref Ra)] s') ?_ ?_
    · refine wpB_If (wpB_any ?_)
      rcases htv with ⟨t', rfl⟩ | ⟨l, items, xs, rfl, hl, hx, rfl⟩
      · k_steps
        exact wpB_execs_nil ⟨rfl, _, _, _, _, _, rfl, F3, by kst_all, N3⟩
      · k_steps
        refine wpB_execs_cons (wpB_Assign_Name (joinB rfl rfl rfl rfl ?_))
        k_steps
        refine ⟨_, rfl, wpB_any ?_⟩
        k_steps
        refine ⟨l, items, xs, rfl, lstKept hl F3.keep, hx, by omega, fun t' k => ?_⟩
        (try dsimp only)
        k_steps
        rename Fr _ _ _ _ => F4
        rename News _ _ _ _ => N4
        exact wpB_execs_nil ⟨rfl, _, _, _, _, _, rfl, F4, by kst_all, N4⟩
    · rintro s' ⟨tb, tt, h4, tk4, m4, rfl, F4, hm4, N4⟩
      replace F4 := frB F4 hm4
      clear F3 N3 hm4
      refine segB_execs_cons (yieldAt (hb := hb) (L := L) hS0 ⟨rfl, rfl, hh', hroom'⟩ rfl (news := []) (fun p hp => by rw [List.mem_singleton.mp hp]; exact hne) ?_)
      refine wpB_Call_ofName (wpB_any ?_)
      k_steps
      refine' callWith_K X ?ho (wpB_any ?_)
      case ho => k_is
      k_steps
      refine ⟨F4.keep, ?_⟩
      refine encSize_call (X.keeps F4.keep) (T.keeps F4.keep) (by exact hh') (by exact hroom') _ _ (by omega) fun h5 tk5 t5 k5 => ⟨_, h5, tk5, _, rfl, rfl, Fr.after F4 k5, News.keepsAll N4 k5, ?_⟩
      clear hS0 F4 N4 k5 h5 tk5 t5
      intro h4 tk4 gs4 oS4 hS4 F4 N4
      refine segB_execs_cons (yieldAt (hb := hb) (L := L) hS4 ⟨rfl, rfl, hh', hroom'⟩ rfl (news := []) (fun p hp => by rw [List.mem_singleton.mp hp]; exact hne) ?_)
      refine wpB_Call_ofName (wpB_any ?_)
      k_steps
      refine' callWith_K X ?ho (wpB_any ?_)
      case ho => k_is
      k_steps
      refine ⟨F4.keep, ?_⟩
      refine encSize_call (X.keeps F4.keep) (T.keeps F4.keep) (by exact hh') (by exact hroom') _ _ (by omega) fun h5 tk5 t5 k5 => ⟨_, h5, tk5, _, rfl, rfl, Fr.after F4 k5, News.keepsAll N4 k5, ?_⟩
      clear hS4 F4 N4 k5 h5 tk5 t5
      intro h4 tk4 gs4 oS4 hS4 F4 N4
      obtain ⟨items, hl, hlen, hrow⟩ := hR
      refine segB_execs_cons ?_
      refine' forG (hb := hb) (L := L) [(Str.ofString "target_buf", .bytes t tt)] (fun i => (rows.drop i).flatMap (rowCh t)) ⟨rfl, rfl, hh', hroom'⟩ rfl rfl hl hS4 hne ?head ?ht ?hs ?turn ?done
      case ht =>
        intro i v hv
        obtain ⟨r, hr⟩ : ∃ r, rows[i]? = some r := by
          have := (Array.getElem?_eq_some_iff.mp hv).1
          exact ⟨rows[i]'(by omega), by simp [← hlen, this]⟩
        obtain ⟨v', hv', T', t0, t1, t2, t3, t4, rfl, hT'⟩ := hrow i r hr
        rw [hv] at hv'
        exact ⟨T', Option.some.inj hv'⟩
      case hs => exact fun _ => rfl
      case head =>
        k_steps
        exact ⟨rfl, _, _, _, rfl, F4, by kst_all, N4⟩
      case done =>
        intro h0 h gs tk0 tk oS m hS F hm N
        rw [hlen, List.drop_length]
        exact segB_execs_nil (segB_end ⟨h, tk, rfl, F.keep, (N _ (.head _)).1.trans hS.symm, (N _ (.tail _ (.head _))).1⟩)
      case turn =>
        clear F4 N4 hS4
        intro i v I oI fl h0 h4 gs4 tk0 tk4 oS4 m Ol hv hIS hS4 F4 N4 again
        (try dsimp only at Ol F4 N4 again)
        obtain ⟨r, hr⟩ : ∃ r, rows[i]? = some r := by
          have := (Array.getElem?_eq_some_iff.mp hv).1
          exact ⟨rows[i]'(by omega), by simp [← hlen, this]⟩
        obtain ⟨v', hv', T', t0, t1, t2, t3, t4, rfl, hT'⟩ := hrow i r hr
        rw [hv] at hv'
        cases hv'
        refine wpAny_assign_Tuple Ol.handled (Heap.IsTuple.at hT' (F4.keep _)) rfl rfl fun h5 he => ?_
        replace N4 := N4.extBut he (Nat.le_refl _)
        replace F4 := F4.extBut he (Nat.le_refl _)
        (try dsimp only at F4 N4)
        k_steps
        rename Fr _ _ _ _ => F5
        rename News _ _ _ _ => N5
        (try dsimp only)
        skip
        have hdr : (rows.drop i).flatMap (rowCh t) = (if r.k = 0 then copyCh r.i1 (r.i2 - r.i1) else []) ++ ((if 2 ≤ r.k then insCh t r.j1 (r.j2 - r.j1) else []) ++ (rows.drop (i + 1)).flatMap (rowCh t)) := by
          have e : rows.drop i = r :: rows.drop (i + 1) := by
            obtain ⟨hlt, he⟩ := List.getElem?_eq_some_iff.mp hr
            rw [List.drop_eq_getElem_cons hlt, he]
          rw [e, List.flatMap_cons, rowCh, List.append_assoc]
        rw [hdr]
        obtain ⟨hk4, hi12, hi2, hj12, hj2⟩ := hok r (List.mem_of_getElem? hr)
        refine' segB_join (hb := hb) (L := L) [(Str.ofString "opcode", .str (kindStr r.k) t0), (Str.ofString "j1", .int r.j1 t3), (Str.ofString "j2", .int r.j2 t4), (Str.ofString "target_buf", .bytes t tt)] ((if 2 ≤ r.k then insCh t r.j1 (r.j2 - r.j1) else []) ++ (rows.drop (i + 1)).flatMap (rowCh t)) [(I, oI)] ?first ?second
        case first =>
          intro second
          refine segB_If (wpB_any ?_)
          k_steps
          · rename_i hkq
            rw [kind_equal, decide_eq_true_eq] at hkq
            rw [if_pos hkq]
            (try dsimp only)
            refine segB_stmt (wpB_any ?_)
            k_steps
            (try dsimp only)
            refine segB_stmt (wpB_any ?_)
            k_steps
            rename Fr _ _ _ _ => F6
            rename News _ _ _ _ => N6
            (try dsimp only)
            have e12 : ((r.i2 : Int) - (r.i1 : Int)) = ((r.i2 - r.i1 : Nat) : Int) := by omega
            rw [e12] at F6
            refine segB_execs_cons ?_
            refine' whileG (hb := hb) (L := L) (σ := Nat × Nat × Tok × Tok) (fun c => [(Str.ofString "copy_start", .int (c.1 : Nat) c.2.2.1), (Str.ofString "copy_len", .int (c.2.1 : Nat) c.2.2.2), (Str.ofString "opcode", .str (kindStr r.k) t0), (Str.ofString "j1", .int r.j1 t3), (Str.ofString "j2", .int r.j2 t4), (Str.ofString "target_buf", .bytes t tt)])
              (fun c => copyCh c.1 c.2.1 ++ ((if 2 ≤ r.k then insCh t r.j1 (r.j2 - r.j1) else []) ++ (rows.drop (i + 1)).flatMap (rowCh t))) (fun c => c.1 + c.2.1 ≤ b.size) (fun c => c.2.1 = 0) (fun c => c.2.1) [(I, oI)] (r.i1, r.i2 - r.i1, ?_, ?_) Ol rfl rfl (by dsimp only; omega) hS4 F6 ?hm N6 ?turn ?done
            case hm => kst_all
            case done =>
              clear F6 N6
              rintro ⟨ca, cn, ta, tn⟩ h0 h6 gs6 tk0 tk6 oS6 m6 hp6 hz6 hS6 F6 hm6 N6
              dsimp only at hz6 hm6 ⊢
              subst hz6
              rw [copyCh_zero, List.nil_append]
              exact segB_execs_nil (second _ _ _ _ _ _ _ hS6 F6 (fun p hp => hm6 p (.tail _ (.tail _ hp))) N6)
            case turn =>
              clear F6 N6
              rintro ⟨ca, cn, ta, tn⟩ fl2 h0 h6 gs6 tk0 tk6 oS6 m6 Ol6 hp6 hS6 F6 N6 again6 exit6
              (try dsimp only at hp6 F6 N6 again6 exit6)
              (try dsimp only)
              refine wpB_any ?_
              k_steps
              · rename_i hpos
                (try dsimp only)
                rw [copyCh_pos (by omega)]
                refine segB_stmt (wpB_any ?_)
                k_steps
                refine min_two_N Ol6.handled F6 N6 fun h7 tk7 F7 N7 => ?_
                rw [show (if (65535 : Int) < (cn : Int) then (65535 : Int) else (cn : Int)) = ((min cn 65535 : Nat) : Int) from by split <;> omega]
                k_steps
                rename Fr _ _ _ _ => F8
                rename News _ _ _ _ => N8
                (try dsimp only)
                refine segB_execs_cons (yieldAt (hb := hb) (L := L) hS6 Ol6 rfl (news := [(I, oI)]) ?hne ?_)
                case hne =>
                  intro p hp
                  rcases List.mem_cons.mp hp with rfl | hp
                  · exact hne
                  · rw [List.mem_singleton.mp hp]; exact hIS
                refine wpB_Call_ofName (wpB_any ?_)
                k_steps
                refine' callWith_K X ?ho (wpB_any ?_)
                case ho => k_is
                k_steps
                rename Fr _ _ _ _ => F8
                rename News _ _ _ _ => N8
                refine ⟨F8.keep, ?_⟩
                refine encCopy_call (X.keeps F8.keep) (T.keeps F8.keep) Ol6.handled Ol6.depth _ _ _ _ (by omega) (by omega) fun h9 tk9 t9 k9 => ⟨_, h9, tk9, _, rfl, rfl, Fr.after F8 k9, News.keepsAll N8 k9, ?_⟩
                clear F8 N8 k9 h9 tk9 t9
                intro h9 tk9 gs9 oS9 hS9 F9 N9
                refine segB_stmt (wpB_any ?_)
                k_steps
                (try dsimp only)
                refine segB_stmt (wpB_any ?_)
                k_steps
                rename Fr _ _ _ _ => Fa
                rename News _ _ _ _ => Na
                (try dsimp only)
                rw [show ((cn : Int) - ((min cn 65535 : Nat) : Int)) = ((cn - min cn 65535 : Nat) : Int) from by omega] at Fa
                refine' segB_execs_nil (again6 (ca + min cn 65535, cn - min cn 65535, ?ta, ?tn) _ _ _ _ _ _ _ (by dsimp only; omega) (by dsimp only; omega) hS9 Fa ?hm Na)
                case hm => kst_all
              · rename_i hpos
                exact exit6 _ _ _ (by omega) F6 (by kst_all) N6
          · rename_i hkq
            rw [kind_equal, decide_eq_false_iff_not] at hkq
            rw [if_neg hkq]
            exact second _ _ _ _ _ _ _ hS4 F5 (by kst_all) N5
        case second =>
          intro h0 h5 gs5 tk0 tk5 oS5 m hS5 F5 hm5 N5
          replace F5 := frB F5 hm5
          refine segB_execs_cons ?_
          refine segB_If (wpB_mono (Q := fun d s' => Then <| ∃ tk', s' = ⟨h5, gs5, dr, tk', os⟩ ∧ d = decide (2 ≤ r.k)) ?test ?cont fun _ _ x => x)
          case test =>
            refine wpB_any ?_
            k_steps
            · rename_i hq
              rw [kind_replace, decide_eq_true_eq] at hq
              exact ⟨_, rfl, (decide_eq_true (by omega)).symm⟩
            · rename_i hq1 hq2
              rw [kind_insert, decide_eq_true_eq] at hq2
              exact ⟨_, rfl, (decide_eq_true (by omega)).symm⟩
            · rename_i hq1 hq2
              rw [kind_replace, decide_eq_false_iff_not] at hq1
              rw [kind_insert, decide_eq_false_iff_not] at hq2
              exact ⟨_, rfl, (decide_eq_false (by omega)).symm⟩
          case cont =>
            rintro d s' ⟨tk', rfl, rfl⟩
            by_cases hk2 : 2 ≤ r.k
            · rw [if_pos (decide_eq_true hk2), if_pos hk2]
              (try dsimp only)
              refine segB_stmt (wpB_any ?_)
              k_steps
              (try dsimp only)
              refine segB_stmt (wpB_any ?_)
              k_steps
              rename Fr _ _ _ _ => F6
              rename News _ _ _ _ => N6
              (try dsimp only)
              rw [show ((r.j2 : Int) - (r.j1 : Int)) = ((r.j2 - r.j1 : Nat) : Int) from by omega] at F6
              refine segB_execs_cons ?_
              refine' whileG (hb := hb) (L := L) (σ := Nat × Nat × Tok × Tok) (fun c => [(Str.ofString "s", .int (c.2.1 : Nat) c.2.2.2), (Str.ofString "o", .int (c.1 : Nat) c.2.2.1), (Str.ofString "target_buf", .bytes t tt)])
                (fun c => insCh t c.1 c.2.1 ++ (rows.drop (i + 1)).flatMap (rowCh t)) (fun c => c.1 + c.2.1 ≤ t.size) (fun c => c.2.1 ≤ 127) (fun c => c.2.1) [(I, oI)] (r.j1, r.j2 - r.j1, ?_, ?_) Ol rfl rfl (by dsimp only; omega) hS5 F6 ?hm N6 ?turn ?done
              case hm => kst_all
              case done =>
                clear F6 N6
                rintro ⟨co, cn, ta, tn⟩ h0 h6 gs6 tk0 tk6 oS6 m6 hp6 hz6 hS6 F6 hm6 N6
                dsimp only at hp6 hz6 hm6 ⊢
                replace F6 := frB F6 hm6
                rw [insCh_small (by omega)]
                refine segB_execs_cons (yieldAt (hb := hb) (L := L) hS6 Ol rfl (news := [(I, oI)]) ?hne ?_)
                case hne =>
                  intro p hp
                  rcases List.mem_cons.mp hp with rfl | hp
                  · exact hne
                  · rw [List.mem_singleton.mp hp]; exact hIS
                refine wpB_any ?_
                k_steps
                rename Fr _ _ _ _ => F7
                rename News _ _ _ _ => N7
                refine call_bytes_ints (vs := [_]) (ns := [(cn : Int)]) ⟨_, (N7 _ (.head _)).1, rfl, _, rfl⟩ (.cons _ _ .nil) (by intro n hn; rw [List.mem_singleton.mp hn]; omega) (by size_fits) Ol.handled fun h8 t8 k8 hk8 => ?_
                rw [byteArr1]
                refine ⟨_, h8, _, _, rfl, rfl, Fr.after F7 hk8, News.keepsAll (fun p hp => N7 p (.tail _ hp)) hk8, ?_⟩
                clear F7 N7 hk8
                intro h9 tk9 gs9 oS9 hS9 F9 N9
                (try dsimp only)
                refine segB_execs_cons (yieldAt (hb := hb) (L := L) hS9 Ol rfl (news := [(I, oI)]) ?hne ?_)
                case hne =>
                  intro p hp
                  rcases List.mem_cons.mp hp with rfl | hp
                  · exact hne
                  · rw [List.mem_singleton.mp hp]; exact hIS
                refine wpB_any ?_
                k_steps
                rename Fr _ _ _ _ => Fb
                rename News _ _ _ _ => Nb
                rw [show ((co : Int)).toNat = co from by omega, show ((co : Int) + (cn : Int)).toNat = co + cn from by omega]
                refine ⟨_, _, _, _, rfl, rfl, Fb, Nb, ?_⟩
                clear hS9
                intro hc tkc gsc oSc hSc Fc Nc
                exact segB_execs_nil (segB_execs_nil (again _ _ _ _ _ _ _ hSc Fc (by kst_all) Nc))
              case turn =>
                clear F6 N6
                rintro ⟨co, cn, ta, tn⟩ fl2 h0 h6 gs6 tk0 tk6 oS6 m6 Ol6 hp6 hS6 F6 N6 again6 exit6
                (try dsimp only at hp6 F6 N6 again6 exit6)
                (try dsimp only)
                refine wpB_any ?_
                k_steps
                · rename_i hpos
                  (try dsimp only)
                  rw [insCh_big (by omega)]
                  refine segB_execs_cons (yieldAt (hb := hb) (L := L) hS6 Ol6 rfl (news := [(I, oI)]) ?hne ?_)
                  case hne =>
                    intro p hp
                    rcases List.mem_cons.mp hp with rfl | hp
                    · exact hne
                    · rw [List.mem_singleton.mp hp]; exact hIS
                  refine wpB_any ?_
                  k_steps
                  rename Fr _ _ _ _ => F7
                  rename News _ _ _ _ => N7
                  refine call_bytes_ints (vs := [_]) (ns := [127]) ⟨_, (N7 _ (.head _)).1, rfl, _, rfl⟩ (.cons _ _ .nil) (by intro n hn; rw [List.mem_singleton.mp hn]; omega) (by size_fits) Ol6.handled fun h8 t8 k8 hk8 => ?_
                  rw [byteArr127]
                  refine ⟨_, h8, _, _, rfl, rfl, Fr.after F7 hk8, News.keepsAll (fun p hp => N7 p (.tail _ hp)) hk8, ?_⟩
                  clear F7 N7 hk8
                  intro h9 tk9 gs9 oS9 hS9 F9 N9
                  (try dsimp only)
                  refine segB_execs_cons (yieldAt (hb := hb) (L := L) hS9 Ol6 rfl (news := [(I, oI)]) ?hne ?_)
                  case hne =>
                    intro p hp
                    rcases List.mem_cons.mp hp with rfl | hp
                    · exact hne
                    · rw [List.mem_singleton.mp hp]; exact hIS
                  refine wpB_any ?_
                  k_steps
                  rename Fr _ _ _ _ => Fb
                  rename News _ _ _ _ => Nb
                  rw [show ((co : Int)).toNat = co from by omega, show ((co : Int) + 127).toNat = co + 127 from by omega]
                  refine ⟨_, _, _, _, rfl, rfl, Fb, Nb, ?_⟩
                  clear hS9
                  intro hc tkc gsc oSc hSc Fc Nc
                  (try dsimp only)
                  refine segB_stmt (wpB_any ?_)
                  k_steps
                  (try dsimp only)
                  refine segB_stmt (wpB_any ?_)
                  k_steps
                  rename Fr _ _ _ _ => Fd
                  rename News _ _ _ _ => Nd
                  (try dsimp only)
                  rw [show ((cn : Int) - 127) = ((cn - 127 : Nat) : Int) from by omega] at Fd
                  refine' segB_execs_nil (again6 (co + 127, cn - 127, ?tc, ?td) _ _ _ _ _ _ _ (by dsimp only; omega) (by dsimp only; omega) hSc Fd ?hm2 Nd)
                  case hm2 => kst_all
                · rename_i hpos
                  exact exit6 _ _ _ (by omega) F6 (by kst_all) N6
            · rw [if_neg (by rw [decide_eq_true_eq]; exact hk2), if_neg hk2, List.nil_append]
              exact segB_execs_nil (segB_execs_nil (again _ _ _ _ _ _ _ hS5 F5 (by kst_all) N5))
end
end
section
theorem anew_W7 : True := by (w_top off); exact True.intro
open PySem PySem.W PySem.Calls PyProof.Rows
section
variable {w : World} {A : Around} {E : Value → Shared → Prop} {s : Shared} {p : Program} {loose : List Str} {mean : ExcName → Option Value} {mg mb : Str → Option Value}
theorem copyCh_len : ∀ (n a : Nat), (copyCh a n).length ≤ n := by
  intro n
  induction n using Nat.strongRecOn with
  | ind n ih =>
    intro a
    by_cases h : n = 0
    · subst h; rw [copyCh_zero]; simp
    · rw [copyCh_pos h, List.length_cons]
      have := ih (n - min n 65535) (by omega) (a + min n 65535)
      omega
theorem insCh_len (t : Array UInt8) : ∀ (s o : Nat), (insCh t o s).length ≤ s + 2 := by
  intro s
  induction s using Nat.strongRecOn with
  | ind s ih =>
    intro o
    by_cases h : 127 < s
    · rw [insCh_big h, List.length_cons, List.length_cons]
      have := ih (s - 127) (by omega) (o + 127)
      omega
    · rw [insCh_small h]; simp
theorem rowCh_len {b t : Array UInt8} {r : Row} (h : r.Ok b t) : (rowCh t r).length ≤ b.size + t.size + 2 := by
  obtain ⟨_, h1, h2, h3, h4⟩ := h
  unfold rowCh
  rw [List.length_append]
  have e1 : (if r.k = 0 then copyCh r.i1 (r.i2 - r.i1) else []).length ≤ b.size := by
    split
    · have := copyCh_len (r.i2 - r.i1) r.i1; omega
    · simp
  have e2 : (if 2 ≤ r.k then insCh t r.j1 (r.j2 - r.j1) else []).length ≤ t.size + 2 := by
    split
    · have := insCh_len t (r.j2 - r.j1) r.j1; omega
    · simp
  omega
theorem flat_len {b t : Array UInt8} : ∀ {rows : List Row}, (∀ r ∈ rows, r.Ok b t) → (rows.flatMap (rowCh t)).length ≤ rows.length * (b.size + t.size + 2)
  | [], _ => by simp
  | r :: rows, h => by
    rw [List.flatMap_cons, List.length_append, List.length_cons, Nat.succ_mul]
    have := rowCh_len (h r (.head _))
    have := flat_len (rows := rows) fun x hx => h x (.tail _ hx)
    omega
theorem delta_len {b t : Array UInt8} {rows : List Row} (h : ∀ r ∈ rows, r.Ok b t) (hb : b.size ≤ 66000) (ht : t.size ≤ 132000) (hr : rows.length ≤ 9) : (deltaCh b t rows).length < 16777216 := by
  have h1 := flat_len h
  have h2 : rows.length * (b.size + t.size + 2) ≤ 9 * (b.size + t.size + 2) := Nat.mul_le_mul_right _ hr
  unfold deltaCh
  rw [List.length_cons, List.length_cons]
  omega

theorem Buf.keeps {h h' : Heap} {v : Value} {b : Array UInt8} (x : Buf h v b) (hk : ∀ b o, h.get? b = some o → h'.get? b = some o) : Buf h' v b := by
  rcases x with ⟨t, rfl⟩ | ⟨l, items, xs, rfl, hl, hx, rfl⟩
  · exact .inl ⟨t, rfl⟩
  · exact .inr ⟨l, items, xs, rfl, lstKept hl hk, hx, rfl⟩
theorem RowsAt.keeps {h h' : Heap} {a : Addr} {rows : List Row} (x : RowsAt h a rows) (hk : ∀ b o, h.get? b = some o → h'.get? b = some o) : RowsAt h' a rows := by
  obtain ⟨items, hl, hn, hr⟩ := x
  refine ⟨items, lstKept hl hk, hn, fun i r e => ?_⟩
  obtain ⟨v, hv, T, t0, t1, t2, t3, t4, rfl, ht⟩ := hr i r e
  exact ⟨_, hv, T, t0, t1, t2, t3, t4, rfl, Heap.IsTuple.at ht (hk _)⟩
set_option maxHeartbeats 4000000 in
/-- create_delta, and the list of what it gives -/
theorem create_list {Q : Value → Shared → Prop} {b t : Array UInt8} {rows : List Row} {bv tv : Value} {Ra : Addr}
    (X : (hdB.heap_39 w.params).In s.heap) (T : Top p loose mean mg mb s.heap) (hh : A.handled = none) (hroom : A.depth + 1 < recursionLimit)
    (hbv : Buf s.heap bv b) (htv : Buf s.heap tv t) (hR : RowsAt s.heap Ra rows) (hok : ∀ r ∈ rows, r.Ok b t) (hzb : b.size ≤ 66000) (hzt : t.size ≤ 132000) (hrl : rows.length ≤ 9)
    (h : ∀ h' tk l items, (∀ b o, s.heap.get? b = some o → h'.get? b = some o) → h'.IsList l items → BytesL items.toList (deltaCh b t rows) → Q (.ref l) { s with heap := h', gens := s.gens.push .finished, toks := tk }) :
    wpB true (model PySem.Challenge.rw_iy0003_01.row.prog w) A (call (.ref 75) [bv, tv, .ref Ra]) (fun v s₁ => wpB true (model PySem.Challenge.rw_iy0003_01.row.prog w) A (call (.type "list") [v]) Q E s₁) E s := by
  (revert X; k_fill; intro X)
  refine wpB_call ?_
  refine' codeB_K [(Str.ofString "base_buf", bv), (Str.ofString "target_buf", tv), (Str.ofString "opcodes", .ref Ra)] X T.nolimit (by omega) ?ho ?hcd ?hb ?hl ?_ ?c2 ?c3 ?c4 ?c5
  case ho => k_is
  case hcd => k_is
  case hb => exact BindsTo.of_eq rfl
  case hl => exact locs rfl
  case c2 => decide
  case c3 => exact rfl
  case c4 => exact rfl
  case c5 => exact rfl
  intro L h₁ hL F N
  dsimp only [List.reverse_cons, List.reverse_nil, List.nil_append, List.cons_append, List.length_cons, List.length_nil, kstB] at F ⊢
  obtain ⟨hp, gs, dr, tk, os⟩ := s
  dsimp only at F X T N hL h hbv htv hR ⊢
  refine wpB_execs_cons (wpB_Return (wpB_Call_ofName (wpB_any ?_)))
  k_steps
  rename Fr _ _ _ _ => F
  rename News _ _ _ _ => N
  refine' callWith_K X ?hoc (wpB_any ?_)
  case hoc => k_is
  k_steps
  rename Fr _ _ _ _ => F
  rename News _ _ _ _ => N
  refine ⟨F.keep, ?_⟩
  (try dsimp only)
  refine wpB_any (createPy_call (X.keeps F.keep) (T.keeps F.keep) (by exact hroom) (hbv.keeps F.keep) (htv.keeps F.keep) (hR.keeps F.keep) hok (by omega) (by omega) fun h' tk' Ga go gst k1 k2 k3 k4 => ?_)
  (try dsimp only)
  dsimp only at k1 k3 k4
  refine call_list_genB (hb := h₁) (go := go) (gs := gst) (g := gs.size) (cs := deltaCh b t rows) hh (by omega) (T.nolimit.keeps F.keep) k3 (delta_len hok hzb hzt hrl) k1 k2 (by simp) ?_ ?_
  · rintro s'' ⟨h'', tk'', gs'', o, rfl, hs, ho⟩
    refine k4 A.in1.in1.in1 h'.objs.size _ o hh (by exact hroom) (Nat.le_refl _) (fun b o e => ?_) ho
    exact hs.extBut b o (Nat.ne_of_lt (Heap.lt_size e)) (Heap.get?_push_of_some _ e)
  · intro h'' tk'' acc c kk hS hB _
    dsimp only
    rw [show (gs.push gst).setIfInBounds gs.size .finished = gs.push .finished from by apply Array.ext'; simp]
    exact h _ _ _ acc (fun b o e => kk _ _ (F.keep b o e)) ⟨_, hS, rfl, _, rfl⟩ hB
end
end
section
theorem anew_W8 : True := by (w_top off); exact True.intro
open PySem PySem.W PySem.Calls PyProof.Rows
section
variable {w : World} {A : Around} {E : Value → Shared → Prop} {s : Shared} {p : Program} {loose : List Str} {mean : ExcName → Option Value} {mg mb : Str → Option Value}
theorem hide_keeps {G h : Heap} (hG : ∀ b o, G.get? b = some o → h.get? b = some o) (h63 : G.get? 63 = none) : ∀ b o, G.get? b = some o → (hideAll h [63]).get? b = some o := fun b o e =>
  hideAll_get _ (hG b o e) fun q => by rw [List.mem_singleton.mp q] at e; rw [h63] at e; cases e
theorem TabSt.keeps {h h' : Heap} {ps : Array Value} (x : TabSt h ps) (hk : ∀ b o, h.get? b = some o → h'.get? b = some o) : TabSt h' ps := by
  rcases x with rfl | ⟨c1, c2, rfl, r1, r2⟩
  · exact .inl rfl
  · refine .inr ⟨c1, c2, rfl, ?_, ?_⟩
    · obtain ⟨c, o, vs, t, e1, e2, e3, e4⟩ := r1; exact ⟨c, o, vs, t, e1, hk _ _ e2, e3, e4⟩
    · obtain ⟨c, o, vs, t, e1, e2, e3, e4⟩ := r2; exact ⟨c, o, vs, t, e1, hk _ _ e2, e3, e4⟩
theorem hide_up {h h' : Heap} (hk : ∀ b o, h.get? b = some o → h'.get? b = some o) : ∀ b o, (hideAll h [63]).get? b = some o → (hideAll h' [63]).get? b = some o := fun b o e =>
  hideAll_get _ (hk b o (of_hideAll _ e)) fun q => by
    rw [hideAll_none [63] (h := h) (b := b) q] at e; cases e

set_option maxHeartbeats 4000000 in
theorem apply_call {Q : Value → Shared → Prop} {G0 : Heap} {D b : Array UInt8} {n1 n2 : Nat} {ops : List Op} {sv dv : Value} {ps : Array Value} (hG : ∀ b o, G0.get? b = some o → s.heap.get? b = some o) (hG63 : G0.get? 63 = none) (X : (hdB.heap_39 w.params).In G0) (T : Top p loose mean mg mb G0)
    (hP : s.heap.get? 63 = some (tabObj ps)) (hps : TabSt (hideAll s.heap [63]) ps) (hh : A.handled = none) (hroom : A.depth + 2 < recursionLimit)
    (hsv : Buf (hideAll s.heap [63]) sv b) (hdv : Buf (hideAll s.heap [63]) dv D)
    (hD : D.toList = varint n1 ++ (varint n2 ++ ops.flatMap Op.enc)) (hops : ∀ o ∈ ops, o.Ok b) (hn1 : n1 = b.size) (hn2 : n2 = (ops.flatMap (Op.out b)).length)
    (hzD : D.size ≤ 16777216) (hzb : b.size ≤ 66000) (hzt : (ops.flatMap (Op.out b)).length ≤ 200000)
    (h : ∀ h' tk l items xs ps', (∀ b o, b ≠ 63 → s.heap.get? b = some o → h'.get? b = some o) → h'.get? 63 = some (tabObj ps') → TabSt (hideAll h' [63]) ps' → h'.IsList l items → BytesL items.toList xs → (catB xs).toList = ops.flatMap (Op.out b) → l ≠ 63 →
      Q (.ref l) { s with heap := h', toks := tk }) :
    wpB true (model PySem.Challenge.rw_iy0003_01.row.prog w) A (call (.ref 82) [sv, dv]) Q E s := by
  (revert X; k_fill; intro X)
  have Xs := X.keeps hG
  have Ts := T.keeps hG
  refine wpB_call ?_
  refine' codeB_K [(Str.ofString "src_buf", sv), (Str.ofString "delta", dv)] Xs Ts.nolimit (by omega) ?ho ?hcd ?hb ?hl ?_ ?c2 ?c3 ?c4 ?c5
  case ho => k_is
  case hcd => k_is
  case hb => exact BindsTo.of_eq rfl
  case hl => exact locs rfl
  case c2 => decide
  case c3 => exact rfl
  case c4 => exact rfl
  case c5 => exact rfl
  intro L h₁ hL F N
  dsimp only [List.reverse_cons, List.reverse_nil, List.nil_append, List.cons_append, List.length_cons, List.length_nil, kstB] at F ⊢
  obtain ⟨hp, gs, dr, tk, os⟩ := s
  dsimp only at F Xs Ts N hL h hG hP hps hsv hdv ⊢
  have kg := hide_keeps (h := hp) hG hG63
  have X0 := X.keeps kg
  have T0 := T.keeps kg
  clear X T
  refine wpB_execs_cons (wpB_Return (wpB_Call_ofName (wpB_any ?_)))
  k_steps
  rename Fr _ _ _ _ => F
  rename News _ _ _ _ => N
  refine' callWith_K Xs ?hoc (wpB_any ?_)
  case hoc => k_is
  k_steps
  rename Fr _ _ _ _ => F
  rename News _ _ _ _ => N
  refine ⟨F.keep, ?_⟩
  (try dsimp only)
  have ku := hide_up F.keep
  refine applyPy_call (X0.keeps ku) (T0.keeps ku) (F.keep _ _ hP) (hps.keeps ku) (by exact hh) (by show A.depth + 1 + 1 < _; omega) (hsv.keeps ku) (hdv.keeps ku) hD hops hn1 hn2 hzD hzb hzt fun h' tk' l items xs ps' k1 k2 k3 k4 k5 k6 k7 => ?_
  exact h h' tk' l items xs ps' (fun b o hb e => k1 b o hb (F.keep b o e)) k2 k3 k4 k5 k6 k7
end
end
section
open PySem PySem.W PySem.Calls PyProof.Rows
/-- the law's end -/
theorem law_end {s₀ s₁ s' : Shared} {ns : List Int} {ps : Array Value} (C : CodeHd s₁.heap 67 63) (hP : s₁.heap.get? 63 = some (tabObj #[]))
    (hk : ∀ b o, b ≠ 63 → s₁.heap.get? b = some o → s'.heap.get? b = some o) (hP' : s'.heap.get? 63 = some (tabObj ps)) (hos : s'.os = s₁.os) (hg : AllBare s'.gens) :
    GoodWG PySem.Challenge.rw_iy0003_01.row.claim (classAt s₀.heap) (ExcName.means s₀.heap) [ofPy (PyData.list (ns.map PyData.int))] s₁ (.ok (.ret (.bool true))) s' := by
  refine ⟨.inl ⟨.bool true, .bool true, [], rfl, fun _ => rfl, ?_, ?_, fun _ => ⟨List.nodup_nil, fun _ h => nomatch h⟩⟩, ⟨fun b o e => ?_, fun b o e => ?_⟩, hos, hg⟩
  · constructor
  · kernel_rfl
  · by_cases hb : b = 63
    · subst hb
      rw [hP] at e
      cases e
      exact .inr (.inl ⟨(C.tab hP).isCodeTable, rfl, #[], ps, rfl, by rw [Array.empty_append]; exact hP'⟩)
    · exact .inl (hk b o hb e)
  · by_cases hb : b = 63
    · subst hb; exact ⟨_, hP'⟩
    · exact ⟨o, hk b o hb e⟩
end
section
open PySem PySem.W
def copyOps (a n : Nat) : List Op := if n = 0 then [] else .copy a (min n 65535) :: copyOps (a + min n 65535) (n - min n 65535)
termination_by n
def insOps (t : Array UInt8) (o s : Nat) : List Op := if _h : 127 < s then .ins (t.extract o (o + 127)).toList :: insOps t (o + 127) (s - 127) else [.ins (t.extract o (o + s)).toList]
termination_by s
decreasing_by omega
def rowOps (t : Array UInt8) (r : Row) : List Op := (if r.k = 0 then copyOps r.i1 (r.i2 - r.i1) else []) ++ (if 2 ≤ r.k then insOps t r.j1 (r.j2 - r.j1) else [])
theorem copyOps_zero (a : Nat) : copyOps a 0 = [] := by rw [copyOps, if_pos rfl]
theorem copyOps_pos {a n : Nat} (h : n ≠ 0) : copyOps a n = .copy a (min n 65535) :: copyOps (a + min n 65535) (n - min n 65535) := by rw [copyOps, if_neg h]
theorem insOps_big {t : Array UInt8} {o s : Nat} (h : 127 < s) : insOps t o s = .ins (t.extract o (o + 127)).toList :: insOps t (o + 127) (s - 127) := by rw [insOps, dif_pos h]
theorem insOps_small {t : Array UInt8} {o s : Nat} (h : ¬ 127 < s) : insOps t o s = [.ins (t.extract o (o + s)).toList] := by rw [insOps, dif_neg h]

theorem ext_len (t : Array UInt8) {o k : Nat} (h : o + k ≤ t.size) : (t.extract o (o + k)).toList.length = k := by
  rw [Array.length_toList, Array.size_extract]; omega
theorem ext_split (t : Array UInt8) {i j k : Nat} (h1 : i ≤ j) (h2 : j ≤ k) : (t.extract i j).toList ++ (t.extract j k).toList = (t.extract i k).toList := by
  rw [← Array.toList_append, Array.extract_append_extract]
  congr 2 <;> omega
theorem copy_enc : ∀ (n a : Nat), (catB (copyCh a n)).toList = (copyOps a n).flatMap Op.enc := by
  intro n
  induction n using Nat.strongRecOn with
  | ind n ih =>
    intro a
    by_cases h : n = 0
    · subst h; rw [copyCh_zero, copyOps_zero]; rfl
    · rw [copyCh_pos h, copyOps_pos h, catB_cons, Array.toList_append, ih _ (by omega), List.flatMap_cons]; rfl
theorem ins_enc (t : Array UInt8) : ∀ (s o : Nat), o + s ≤ t.size → (catB (insCh t o s)).toList = (insOps t o s).flatMap Op.enc := by
  intro s
  induction s using Nat.strongRecOn with
  | ind s ih =>
    intro o ho
    by_cases h : 127 < s
    · rw [insCh_big h, insOps_big h, catB_cons, catB_cons, Array.toList_append, Array.toList_append, ih _ (by omega) _ (by omega), List.flatMap_cons]
      show [127] ++ _ = ((_ : List UInt8).length.toUInt8 :: _) ++ _
      rw [ext_len t (by omega)]; rfl
    · rw [insCh_small h, insOps_small h, catB_cons, catB_cons, catB_nil, Array.append_empty, Array.toList_append, List.flatMap_cons, List.flatMap_nil, List.append_nil]
      show [s.toUInt8] ++ _ = (_ : List UInt8).length.toUInt8 :: _
      rw [ext_len t ho]; rfl
theorem row_enc {b t : Array UInt8} {r : Row} (h : r.Ok b t) : (catB (rowCh t r)).toList = (rowOps t r).flatMap Op.enc := by
  obtain ⟨_, h1, h2, h3, h4⟩ := h
  unfold rowCh rowOps
  rw [catB_append, Array.toList_append, List.flatMap_append]
  congr 1
  · split
    · exact copy_enc _ _
    · rfl
  · split
    · exact ins_enc t _ _ (by omega)
    · rfl
theorem rows_enc {b t : Array UInt8} : ∀ {rows : List Row}, (∀ r ∈ rows, r.Ok b t) → (catB (rows.flatMap (rowCh t))).toList = (rows.flatMap (rowOps t)).flatMap Op.enc
  | [], _ => rfl
  | r :: rows, h => by
    rw [List.flatMap_cons, List.flatMap_cons, catB_append, Array.toList_append, List.flatMap_append, row_enc (h r (.head _)), rows_enc fun x hx => h x (.tail _ hx)]
theorem delta_enc {b t : Array UInt8} {rows : List Row} (h : ∀ r ∈ rows, r.Ok b t) : (catB (deltaCh b t rows)).toList = varint b.size ++ (varint t.size ++ (rows.flatMap (rowOps t)).flatMap Op.enc) := by
  unfold deltaCh
  rw [catB_cons, catB_cons, Array.toList_append, Array.toList_append, rows_enc h]

theorem copy_out (b : Array UInt8) : ∀ (n a : Nat), a + n ≤ b.size → (copyOps a n).flatMap (Op.out b) = (b.extract a (a + n)).toList ∧ ∀ o ∈ copyOps a n, o.Ok b := by
  intro n
  induction n using Nat.strongRecOn with
  | ind n ih =>
    intro a ha
    by_cases h : n = 0
    · subst h
      rw [copyOps_zero]
      refine ⟨?_, fun _ hx => nomatch hx⟩
      have : (b.extract a (a + 0)).toList.length = 0 := ext_len b ha
      rw [List.length_eq_zero_iff.mp this]; rfl
    · rw [copyOps_pos h]
      obtain ⟨e1, e2⟩ := ih (n - min n 65535) (by omega) (a + min n 65535) (by omega)
      refine ⟨?_, fun o ho => ?_⟩
      · rw [List.flatMap_cons, e1]
        show (b.extract a (a + min n 65535)).toList ++ _ = _
        rw [ext_split b (by omega) (by omega)]
        congr 2; omega
      · rcases List.mem_cons.mp ho with rfl | ho
        · exact ⟨by omega, by omega, by omega⟩
        · exact e2 o ho
theorem ins_out (b t : Array UInt8) : ∀ (s o : Nat), o + s ≤ t.size → 0 < s → (insOps t o s).flatMap (Op.out b) = (t.extract o (o + s)).toList ∧ ∀ x ∈ insOps t o s, x.Ok b := by
  intro s
  induction s using Nat.strongRecOn with
  | ind s ih =>
    intro o ho hs
    by_cases h : 127 < s
    · rw [insOps_big h]
      obtain ⟨e1, e2⟩ := ih (s - 127) (by omega) (o + 127) (by omega) (by omega)
      refine ⟨?_, fun x hx => ?_⟩
      · rw [List.flatMap_cons, e1]
        show (t.extract o (o + 127)).toList ++ _ = _
        rw [ext_split t (by omega) (by omega)]
        congr 2; omega
      · rcases List.mem_cons.mp hx with rfl | hx
        · have := ext_len t (o := o) (k := 127) (by omega)
          exact ⟨by omega, by omega⟩
        · exact e2 x hx
    · rw [insOps_small h]
      refine ⟨by rw [List.flatMap_cons, List.flatMap_nil, List.append_nil]; rfl, fun x hx => ?_⟩
      rw [List.mem_singleton.mp hx]
      have := ext_len t ho
      exact ⟨by omega, by omega⟩
/-- a row that is true of both texts -/
def Row.True (b t : Array UInt8) (r : Row) : Prop := r.Ok b t ∧ (r.k = 0 → b.extract r.i1 r.i2 = t.extract r.j1 r.j2) ∧ (r.k = 1 → r.j1 = r.j2) ∧ (2 ≤ r.k → r.j1 < r.j2)
def Chain (b t : Array UInt8) : Nat → List Row → Prop
  | j, [] => j = t.size
  | j, r :: rs => r.j1 = j ∧ r.True b t ∧ Chain b t r.j2 rs
theorem row_out {b t : Array UInt8} {r : Row} (h : r.True b t) : (rowOps t r).flatMap (Op.out b) = (t.extract r.j1 r.j2).toList ∧ ∀ x ∈ rowOps t r, x.Ok b := by
  obtain ⟨⟨hk, h1, h2, h3, h4⟩, e0, e1, e2⟩ := h
  unfold rowOps
  by_cases k0 : r.k = 0
  · rw [if_pos k0, if_neg (by omega), List.append_nil, ← e0 k0]
    have := copy_out b (r.i2 - r.i1) r.i1 (by omega)
    rwa [show r.i1 + (r.i2 - r.i1) = r.i2 from by omega] at this
  · rw [if_neg k0, List.nil_append]
    by_cases k2 : 2 ≤ r.k
    · rw [if_pos k2]
      have h5 := e2 k2
      have := ins_out b t (r.j2 - r.j1) r.j1 (by omega) (by omega)
      rwa [show r.j1 + (r.j2 - r.j1) = r.j2 from by omega] at this
    · rw [if_neg k2]
      refine ⟨?_, fun _ hx => nomatch hx⟩
      have h5 := e1 (by omega)
      have : (t.extract r.j1 r.j2).toList.length = 0 := by rw [Array.length_toList, Array.size_extract]; omega
      rw [List.length_eq_zero_iff.mp this]; rfl
theorem chain_le {b t : Array UInt8} : ∀ {rows : List Row} {j : Nat}, Chain b t j rows → j ≤ t.size
  | [], j, h => Nat.le_of_eq h
  | r :: rs, j, ⟨h1, ⟨⟨_, _, _, h3, h4⟩, _⟩, _⟩ => by omega
theorem rows_out {b t : Array UInt8} : ∀ {rows : List Row} {j : Nat}, Chain b t j rows → (rows.flatMap (rowOps t)).flatMap (Op.out b) = (t.extract j t.size).toList ∧ ∀ x ∈ rows.flatMap (rowOps t), x.Ok b
  | [], j, h => by
    refine ⟨?_, fun _ hx => nomatch hx⟩
    have : (t.extract j t.size).toList.length = 0 := by rw [Array.length_toList, Array.size_extract]; have : j = t.size := h; omega
    rw [List.length_eq_zero_iff.mp this]; rfl
  | r :: rs, j, ⟨h1, h2, h3⟩ => by
    obtain ⟨a1, a2⟩ := row_out h2
    obtain ⟨b1, b2⟩ := rows_out h3
    have h4 := chain_le h3
    have h5 : r.j1 ≤ r.j2 := h2.1.2.2.2.1
    refine ⟨?_, fun x hx => ?_⟩
    · rw [List.flatMap_cons, List.flatMap_append, a1, b1, ext_split t h5 h4, h1]
    · rw [List.flatMap_cons] at hx
      rcases List.mem_append.mp hx with hx | hx
      · exact a2 x hx
      · exact b2 x hx
theorem chain_ok {b t : Array UInt8} : ∀ {rows : List Row} {j : Nat}, Chain b t j rows → ∀ r ∈ rows, r.Ok b t
  | r :: rs, j, ⟨_, h2, h3⟩, x, hx => by
    rcases List.mem_cons.mp hx with rfl | hx
    · exact h2.1
    · exact chain_ok h3 x hx
/-- the deeds of a chain of rows make the target -/
theorem chain_out {b t : Array UInt8} {rows : List Row} (h : Chain b t 0 rows) : (rows.flatMap (rowOps t)).flatMap (Op.out b) = t.toList ∧ ∀ x ∈ rows.flatMap (rowOps t), x.Ok b := by
  have := rows_out h
  rwa [Array.extract_size] at this
end
section
open PySem PySem.W PySem.Calls PyProof.Rows
def repB (b : Array UInt8) (n : Int) : Array UInt8 := ((List.replicate n.toNat b.toList).flatten).toArray
theorem repB_size (b : Array UInt8) (n : Int) : (repB b n).size = n.toNat * b.size := by simp [repB]
theorem repB_one (b : Array UInt8) : repB b 1 = b := by simp [repB]
theorem repB_made {b : Array UInt8} (n : Int) (hb : 0 < b.size) : Builtin.Bytes.repeated b n.toNat = repB b n :=
  (congrArg (fun x => Builtin.Bytes.repeated x n.toNat) (Array.toArray_toList (xs := b))).symm.trans (BMul.repeated_list (fun q => Nat.lt_irrefl 0 (by rwa [← Array.length_toList, q] at hb)) n.toNat)
/-- the product has another length, unless it is taken once -/
theorem mul_other {a n : Nat} (ha : 0 < a) (hn : n ≠ 1) : (a * n == a) = false :=
  beq_false_of_ne fun e => hn (Nat.eq_of_mul_eq_mul_left ha (e.trans (Nat.mul_one a).symm))
section
variable {prog : Program} {w : World} {A : Around} {E : Value → Shared → Prop} {s : Shared}
/-- octets times a number: what the type's own product answers -/
theorem mul_answer {b : Array UInt8} {n : Int} {t u : Tok} {Q : Value → Shared → Prop} {m : Made} (g : Gives (Builtin.«bytes.__mul__» ⟨[.bytes b t, .int n u], []⟩) m) (h : m.post Q s) :
    wpAny (model prog w) A (binaryOp .Mult (.bytes b t) (.int n u)) Q E s :=
  have left : wpAny (model prog w) A (call (.builtin "bytes.__mul__") [.bytes b t, .int n u]) Q E s := call_gives BMul.slot_mul (typeIs_bytes s b t) BMul.entry_mul (BMul.args_mul _ _) g h
  wpAny_binaryOp_repeat (by decide) (fun x => typeIs_bytes x b t) (fun x => typeIs_int x n u) BMul.noFill F.fills_int_mul F.slot_int_rmul BMul.repeats F.slot_int_index.lookup
    (call_gives F.slot_int_rmul (typeIs_int s n u) F.entry_int_rmul (F.args_int_rmul_2 _ _) (BMul.int_declines n u b t) ⟨rfl, left⟩)
theorem bytes_mul {b : Array UInt8} {n : Int} {t u : Tok} {Q : Value → Shared → Prop} (hb : 0 < b.size) (hlo : -1048576 ≤ n) (hn : n ≤ 1048576) (hle : b.size * n.toNat ≤ 16777216) (h : ∀ t' k, Q (.bytes (repB b n) t') { s with toks := k }) :
    wpAny (model prog w) A (binaryOp .Mult (.bytes b t) (.int n u)) Q E s := by
  rcases Decidable.em (n = 1) with rfl | h1
  · exact mul_answer (BMul.gives_mul1 (by rwa [show (1 : Int).toNat = 1 from rfl, Nat.mul_one] at hle)) (repB_one b ▸ h t s.toks)
  · refine mul_answer (BMul.gives_mul (by rw [Builtin.Bytes.fitsIndex, Bool.and_eq_true]; exact ⟨decide_eq_true (by omega), decide_eq_true (by omega)⟩) (Nat.not_le_of_lt (Nat.lt_of_le_of_lt hle (by decide)))
      (mul_other hb fun e => h1 (by omega)) (KBy.tooLong_not hle)) ?_
    rw [repB_made n hb]
    exact ⟨by rwa [repB_size, sizeLine_eq, Nat.mul_comm], h _ _⟩
end
end
section
open PySem PySem.W PySem.Calls PyProof.Rows
abbrev ForIntsI {σ : Type} (h₀ : Heap) (L : Addr) (s : Shared) (ps : σ → List (Str × Value)) (Led : σ → List (Addr × Obj)) (Good : List Int → Prop) (P : List Int → Nat → σ → Prop) (it : Value) (k : Nat) (s' : Shared) : Prop :=
  ∃ (I D : Addr) (ws : List Value) (nn : Nat) (ns : List Int) (i : Nat) (c : σ) (h' : Heap) (tk : Nat) (m : Str → Option Value) (oI : Obj), it = .ref I ∧ s' = { s with heap := h', toks := tk } ∧ Fr h₀ L h' m ∧ Has m (ps c) ∧
      News h₀ L h' (Led c ++ [(D, W.listOf ws.toArray nn), (I, oI)]) ∧ (∀ p ∈ Led c, p.1 ≠ I) ∧ (∀ p ∈ Led c, p.1 ≠ D) ∧ D ≠ I ∧ oI.cls = .type "list_iterator" ∧ oI.data = .fields #[.ref D, .int i 0] ∧ IntsAre ws ns ∧ Good ns ∧ P ns i c ∧ i ≤ ns.length ∧ k = ns.length - i
section
variable {b : Bool} {prog : Program} {w : World} {A : Around} {E : Value → Shared → Prop} {s : Shared} {env : Env} {h₀ : Heap} {L : Addr}
/-- a for over a new list of ints -/
theorem for_ints {σ : Type} {iter : Expr} {x : Str} {px : Pos} {body : List Stmt} {pos : Pos} {Q : Flow → Shared → Prop} (Good : List Int → Prop) (ps : σ → List (Str × Value)) (Led : σ → List (Addr × Obj)) (P : List Int → Nat → σ → Prop) (c₀ : σ)
    (hp : ∀ ns, Good ns → P ns 0 c₀) (hh : A.handled = none)
    (hx : env.kindOf x = some .local) (hk : (env.scope.kind == .class || (env.scope.kind == .module && env.locals != env.globals)) = false) (hL : env.locals = L)
    (head : wpAny (model prog w) A (eval iter env) (fun v s₁ => Then <| ∃ (D : Addr) (ws : List Value) (nn : Nat) (ns : List Int) (h' : Heap) (tk' : Nat) (m : Str → Option Value), v = .ref D ∧ s₁ = { s with heap := h', toks := tk' } ∧ Fr h₀ L h' m ∧ Has m (ps c₀) ∧
      News h₀ L h' ((D, W.listOf ws.toArray nn) :: Led c₀) ∧ (∀ p ∈ Led c₀, p.1 ≠ D) ∧ IntsAre ws ns ∧ Good ns) NE s)
    (turn : ∀ (D I : Addr) (oD o : Obj) (ns : List Int) (i : Nat) (n : Int) (c : σ) h t tk m, ns[i]? = some n → Good ns → P ns i c → (∀ p ∈ Led c, p.1 ≠ I) → (∀ p ∈ Led c, p.1 ≠ D) → Fr h₀ L h (fun y => if y = x then some (.int n t) else kstB m (ps c) y) → News h₀ L h (Led c ++ [(D, oD), (I, o)]) →
      wpB b (model prog w) A (execs body env) (TurnPost h₀ L s ps Led [(D, oD), (I, o)] (fun c' => P ns (i + 1) c' ∧ (∀ p ∈ Led c', p.1 ≠ I) ∧ ∀ p ∈ Led c', p.1 ≠ D) Q) NE { s with heap := h, toks := tk })
    (done : ∀ (ns : List Int) (c : σ) h tk m, Good ns → P ns ns.length c → Fr h₀ L h (kstB m (ps c)) → News h₀ L h (Led c) → Q .next { s with heap := h, toks := tk })
    (hs : ∀ x, foldedSetIterable iter env x = pure x := by intro _; rfl) :
    wpB b (model prog w) A (exec (.For (.Name x px) iter body [] pos) env) Q E s := by
  subst hL
  refine wpB_For (ForIntsI h₀ env.locals s ps Led Good P)
    (wpAny_mono head (fun xv s₁ h₁ => ?_) fun _ _ x => x.elim) ?_ (fun _ _ => rfl) hs
  · obtain ⟨D, ws, nn, ns, h', tk', m, rfl, rfl, F, hm, N, hne, hi, hg⟩ := h₁
    have ND := N _ (.head _)
    refine wpAny_pyIter_list ⟨_, ND.1, rfl, _, rfl⟩ ?_
    have kf : ∀ b o, h'.get? b = some o → (h'.push { cls := .type "list_iterator", data := .fields #[.ref D, .int 0 0] }).get? b = some o := fun b o e => Heap.get?_push_of_some _ e
    have hnew := newN F N (Heap.get?_push_size h' rfl) kf
    refine ⟨ns.length, h'.objs.size, D, ws, nn, ns, 0, c₀, _, _, m, { cls := .type "list_iterator", data := .fields #[.ref D, .int 0 0] }, rfl, rfl, F.push _, hm, fun p hp => ?_, fun p hp => Nat.ne_of_lt (Heap.lt_size (N p (.tail _ hp)).1), hne, Nat.ne_of_lt (Heap.lt_size ND.1), rfl, rfl, hi, hg, hp ns hg, Nat.zero_le _, rfl⟩
    rcases List.mem_append.mp hp with hp | hp
    · exact hnew p (.tail _ (.tail _ hp))
    · rcases List.mem_cons.mp hp with rfl | hp
      · exact hnew _ (.tail _ (.head _))
      · rw [List.mem_singleton.mp hp]; exact hnew _ (.head _)
  · rintro it k s' ⟨I, D, ws, nn, ns, i, c, h', tk, m, oI, rfl, rfl, F, hm', N, hneI, hneD, hDI, hc, hd, hi, hg, hp', hle, rfl⟩
    have ND := N _ (List.mem_append_right _ (.head _))
    have NI := N _ (List.mem_append_right _ (.tail _ (.head _)))
    have hit : h'.IsListIter I D i := ⟨oI, NI.1, hc, hd⟩
    have hlD : h'.IsList D ws.toArray := ⟨_, ND.1, rfl, _, rfl⟩
    have keepF : ∀ {h1 : Heap}, (∀ b o, b ≠ I → h'.get? b = some o → h1.get? b = some o) → Fr h₀ env.locals h1 m := fun kb =>
      ⟨F.ns.at' fun o e => kb _ o (Ne.symm NI.2.1) e, fun b o e => kb b o (fun q => by subst q; have := NI.2.2; rw [e] at this; cases this) (F.keep b o e), F.above⟩
    by_cases hlt : i < ns.length
    · obtain ⟨t, hv⟩ := IntsAre.get hi i ns[i] (by simp [hlt])
      refine wpAny_pyNext_list_item hit hlD (x := .int ns[i] t) (by simpa using hv) fun h1 hit1 hs1 => ?_
      obtain ⟨oI1, hoI1, hc1, hd1⟩ := hit1
      have kb : ∀ b o, b ≠ I → h'.get? b = some o → h1.get? b = some o := fun b o q e => hs1.extBut b o q e
      have F1 := keepF kb
      have N1 : News h₀ env.locals h1 (Led c ++ [(D, W.listOf ws.toArray nn), (I, oI1)]) := fun p hp => by
        rcases List.mem_append.mp hp with hp | hp
        · exact ⟨kb _ _ (hneI p hp) (N p (List.mem_append_left _ hp)).1, (N p (List.mem_append_left _ hp)).2⟩
        · rcases List.mem_cons.mp hp with rfl | hp
          · exact ⟨kb _ _ hDI ND.1, ND.2⟩
          · rw [List.mem_singleton.mp hp]; exact ⟨hoI1, NI.2⟩
      refine wpAny_assign_Name (wpAny_storeName_local hx F1.ns (fun h2 hn2 hs2 => ?_) hk)
      have F2 := F1.set hn2 hs2
      have N2 := N1.set hs2
      have F3 : Fr h₀ env.locals h2 (fun y => if y = x then some (.int ns[i] t) else kstB m (ps c) y) := by
        have e : kstB m (ps c) = m := funext fun z => kstB_eq hm' fun _ => rfl
        rw [e]; exact F2
      refine wpB_mono (turn D I _ oI1 ns i ns[i] c h2 t _ m (by simp [hlt]) hg hp' hneI hneD F3 N2) (fun f s₃ h₃ => ?_) fun _ _ x => x
      have up : TurnEnd h₀ env.locals s ps Led [(D, W.listOf ws.toArray nn), (I, oI1)] (fun c' => P ns (i + 1) c' ∧ (∀ p ∈ Led c', p.1 ≠ I) ∧ ∀ p ∈ Led c', p.1 ≠ D) s₃ →
          ∃ m_1, m_1 < ns.length - i ∧ ForIntsI h₀ env.locals s ps Led Good P (.ref I) m_1 s₃ := by
        rintro ⟨c', h'', tk', m', news', rfl, F3, hm3, N3, hn3, hp3, hI3, hD3⟩
        exact ⟨ns.length - (i + 1), by omega, I, D, ws, nn, ns, i + 1, c', h'', tk', m', oI1, rfl, rfl, F3, hm3, fun p hp => N3 p (hn3 p hp), hI3, hD3, hDI, hc1, hd1, hi, hg, hp3, hlt, rfl⟩
      cases f with
      | next => exact up h₃
      | cont => exact up h₃
      | brk => exact h₃
      | ret v => exact h₃
    · have hin : i = ns.length := by omega
      subst hin
      refine wpAny_pyNext_list_end hh hit hlD (by simp [hi.length]) fun h1 he => ?_
      exact done ns c h1 _ m hg hp' (frB (keepF fun b o q e => he b o q e) hm') fun p hp => ⟨he _ _ (hneI p hp) (N p (List.mem_append_left _ hp)).1, (N p (List.mem_append_left _ hp)).2⟩
end
end
section
theorem ext_push (t p : Array UInt8) {i j : Nat} (h : j ≤ t.size) : (t ++ p).extract i j = t.extract i j := by
  apply Array.ext'
  rw [Array.toList_extract, Array.toList_extract, List.extract_eq_take_drop, List.extract_eq_take_drop, Array.toList_append]
  by_cases hi : i ≤ t.size
  · rw [List.drop_append_of_le_length (by simpa using hi), List.take_append_of_le_length (by rw [List.length_drop, Array.length_toList]; omega)]
  · rw [show j - i = 0 from by omega]; simp
theorem ext_new (t p : Array UInt8) : (t ++ p).extract t.size (t.size + p.size) = p := by
  apply Array.ext'
  rw [Array.toList_extract, List.extract_eq_take_drop, Array.toList_append, List.drop_append_of_le_length (by simp), List.drop_of_length_le (by simp), List.nil_append, List.take_of_length_le (by simp)]
theorem true_push {b t : Array UInt8} (p : Array UInt8) {r : Row} (h : r.True b t) : r.True b (t ++ p) := by
  obtain ⟨⟨h0, h1, h2, h3, h4⟩, e0, e1, e2⟩ := h
  refine ⟨⟨h0, h1, h2, h3, by rw [Array.size_append]; omega⟩, fun q => ?_, e1, e2⟩
  rw [ext_push t p h4]; exact e0 q
theorem chain_push {b t p : Array UInt8} {r : Row} : ∀ {rows : List Row} {j : Nat}, Chain b t j rows → r.j1 = t.size → r.j2 = t.size + p.size → r.True b (t ++ p) → Chain b (t ++ p) j (rows ++ [r])
  | [], j, h, h1, h2, h3 => ⟨by rw [h1]; exact (show j = t.size from h).symm, h3, by show r.j2 = _; rw [h2, Array.size_append]⟩
  | x :: rows, j, ⟨a1, a2, a3⟩, h1, h2, h3 => ⟨a1, true_push p a2, chain_push a3 h1 h2 h3⟩
end
section
open PySem PySem.W PySem.Calls PyProof.Rows
abbrev rowObj (r : Row) (t0 t1 t2 t3 t4 : Tok) : Obj := { cls := .type "tuple", data := .seq #[.str (kindStr r.k) t0, .int r.i1 t1, .int r.i2 t2, .int r.j1 t3, .int r.j2 t4] }
def RowsIn (tl : List (Addr × Obj)) (items : Array Value) (rows : List Row) : Prop :=
  items.size = rows.length ∧ ∀ (i : Nat) (r : Row), rows[i]? = some r → ∃ T t0 t1 t2 t3 t4, items[i]? = some (.ref T) ∧ (T, rowObj r t0 t1 t2 t3 t4) ∈ tl
theorem RowsIn.nil : RowsIn [] #[] [] := ⟨rfl, fun i r e => by simp at e⟩
theorem RowsIn.push {tl : List (Addr × Obj)} {items : Array Value} {rows : List Row} {T : Addr} {r : Row} {t0 t1 t2 t3 t4 : Tok} (x : RowsIn tl items rows) : RowsIn ((T, rowObj r t0 t1 t2 t3 t4) :: tl) (items.push (.ref T)) (rows ++ [r]) := by
  obtain ⟨h1, h2⟩ := x
  refine ⟨by rw [Array.size_push, List.length_append, h1]; rfl, fun i q e => ?_⟩
  by_cases hi : i < rows.length
  · rw [List.getElem?_append_left hi] at e
    obtain ⟨T', a0, a1, a2, a3, a4, e1, e2⟩ := h2 i q e
    refine ⟨T', a0, a1, a2, a3, a4, ?_, .tail _ e2⟩
    rw [Array.getElem?_push_lt (by omega)]
    rw [← e1, Array.getElem?_eq_getElem (by omega)]
  · have hlt := (List.getElem?_eq_some_iff.mp e).1
    rw [List.length_append, List.length_singleton] at hlt
    have : i = rows.length := by omega
    subst this
    rw [List.getElem?_append_right (Nat.le_refl _), Nat.sub_self] at e
    cases e
    exact ⟨T, t0, t1, t2, t3, t4, by rw [← h1]; simp, .head _⟩
theorem RowsIn.at {G h : Heap} {L ra : Addr} {tl news : List (Addr × Obj)} {items : Array Value} {rows : List Row} {nn : Nat} (x : RowsIn tl items rows) (N : News G L h news) (hra : (ra, W.listOf items nn) ∈ news) (htl : ∀ p ∈ tl, p ∈ news) : RowsAt h ra rows := by
  refine ⟨items, ⟨_, (N _ hra).1, rfl, _, rfl⟩, x.1, fun i r e => ?_⟩
  obtain ⟨T, t0, t1, t2, t3, t4, e1, e2⟩ := x.2 i r e
  exact ⟨_, e1, T, t0, t1, t2, t3, t4, rfl, ⟨_, (N _ (htl _ e2)).1, rfl, _, rfl⟩⟩
end
section
theorem anew_W6 : True := by (w_top off); exact True.intro
open PySem PySem.W PySem.Calls PyProof.Rows
local macro_rules | `(tactic| walk_at "binaryOp Add bytes bytes") => `(tactic| (k_here; (with_reducible show wpAny _ _ (binaryOp Operator.Add (Value.bytes _ _) (Value.bytes _ _)) _ _ _); (refine KBy.add_bytes (by first | omega | (simp only [Array.size_extract]; omega)) ?_); intro _ _))
section
variable {w : World} {A : Around} {E : Value → Shared → Prop} {s : Shared} {p : Program} {loose : List Str} {mean : ExcName → Option Value} {mg mb : Str → Option Value}

/-- the items from place k on -/
def ItemsFrom {α : Type} (fv : Array α) : Nat → List α → Prop
  | _, [] => True
  | k, x :: xs => fv[k]? = some x ∧ ItemsFrom fv (k + 1) xs
theorem items_drop {α : Type} {fv : Array α} : ∀ (xs : List α) (k : Nat), fv.size = k + xs.length → ItemsFrom fv k xs → fv.toList.drop k = xs
  | [], k, h, _ => List.drop_eq_nil_of_le (Nat.le_of_eq h)
  | x :: xs, k, h, ⟨a, b⟩ => by
    have hk : k < fv.toList.length := by rw [Array.length_toList, h]; exact Nat.lt_add_of_pos_right (Nat.succ_pos _)
    have e : fv.toList[k]'hk = x := Option.some.inj (((Array.getElem?_eq_getElem hk).symm).trans a)
    rw [List.drop_eq_getElem_cons hk, e, items_drop xs (k + 1) (by rw [h, List.length_cons, Nat.add_right_comm, Nat.add_assoc]) b]
theorem items_eq {α : Type} {fv : Array α} (xs : List α) (h : fv.size = xs.length) (hi : ItemsFrom fv 0 xs) : fv = xs.toArray :=
  Array.toList_inj.mp (items_drop xs 0 (h.trans (Nat.zero_add _).symm) hi)
theorem upto_succ {P : Nat → Prop} {n : Nat} (h : ∀ j, j < n → P j) (hn : P n) (j : Nat) (hj : j < n + 1) : P j :=
  (Nat.lt_succ_iff_lt_or_eq.mp hj).elim (h j) fun e => e ▸ hn

set_option maxHeartbeats 4000000 in
theorem lawRead_call {Q : Value → Shared → Prop} {D b : Array UInt8} {n1 n2 : Nat} {ops : List Op} {td tb : Tok} (X : (hdB.heap_39 w.params).In s.heap) (T : Top p loose mean mg mb s.heap)
    (hh : A.handled = none) (hroom : A.depth + 1 < recursionLimit) (hD : D.toList = varint n1 ++ (varint n2 ++ ops.flatMap Op.enc)) (hops : ∀ o ∈ ops, o.Ok b)
    (hzD : D.size ≤ 16777216) (hzb : b.size ≤ 66000) (hzt : (ops.flatMap (Op.out b)).length ≤ 200000)
    (h : ∀ h' tk a t1 t2 t3, (∀ b o, s.heap.get? b = some o → h'.get? b = some o) → s.heap.get? a = none → h'.IsTuple a #[.int n1 t1, .int n2 t2, .bytes (ops.flatMap (Op.out b)).toArray t3] → Q (.ref a) { s with heap := h', toks := tk }) :
    wpB true (model PySem.Challenge.rw_iy0003_01.row.prog w) A (call (.ref 97) [.bytes b tb, .bytes D td]) Q E s := by
  (revert X; k_fill; intro X)
  refine wpB_call ?_
  refine' codeB_K [(Str.ofString "base", .bytes b tb), (Str.ofString "delta", .bytes D td)] X T.nolimit (by omega) ?ho ?hcd ?hb ?hl ?_ ?c2 ?c3 ?c4 ?c5
  case ho => k_is
  case hcd => k_is
  case hb => exact BindsTo.of_eq rfl
  case hl => exact locs rfl
  case c2 => decide
  case c3 => exact rfl
  case c4 => exact rfl
  case c5 => exact rfl
  intro L h₁ hL F N
  dsimp only [List.reverse_cons, List.reverse_nil, List.nil_append, List.cons_append, List.length_cons, List.length_nil, kstB] at F ⊢
  obtain ⟨hp, gs, dr, tk, os⟩ := s
  dsimp only at F X T N hL h ⊢
  refine wpB_execs_cons (wpB_Assign_Tuple (wpB_Call_ofName (wpB_any ?_)))
  k_steps
  rename Fr _ _ _ _ => F
  rename News _ _ _ _ => N
  refine' callWith_K X ?ho (wpB_any ?_)
  case ho => k_is
  k_steps
  rename Fr _ _ _ _ => F
  rename News _ _ _ _ => N
  refine ⟨F.keep, ?_⟩
  (try dsimp only)
  refine lawSize_call (P := []) (X.keeps F.keep) (T.keeps F.keep) hroom hD hzD fun h2 tk2 a2 t1 t2 hk2 ht2 => ?_
  have F2 := Fr.after F hk2
  have N2 := News.keepsAll N hk2
  clear F N hk2
  refine assign_pair hh F2 N2 ht2 rfl rfl fun h3 F3 N3 => ?_
  clear F2 N2
  (try dsimp only)
  k_steps
  rename Fr _ _ _ _ => F4
  rename News _ _ _ _ => N4
  (try dsimp only)
  rw [show ([] : List UInt8).length + (varint n1).length = (varint n1).length from Nat.zero_add _] at F4
  refine wpB_execs_cons (wpB_Assign_Tuple (wpB_Call_ofName (wpB_any ?_)))
  k_steps
  rename Fr _ _ _ _ => F
  rename News _ _ _ _ => N
  refine' callWith_K X ?ho2 (wpB_any ?_)
  case ho2 => k_is
  k_steps
  rename Fr _ _ _ _ => F
  rename News _ _ _ _ => N
  refine ⟨F.keep, ?_⟩
  (try dsimp only)
  refine lawSize_call (P := varint n1) (X.keeps F.keep) (T.keeps F.keep) hroom hD hzD fun h5 tk5 a5 t3 t4 hk5 ht5 => ?_
  have F2 := Fr.after F hk5
  have N2 := News.keepsAll N hk5
  clear F N hk5
  refine assign_pair hh F2 N2 ht5 rfl rfl fun h6 F3 N3 => ?_
  clear F2 N2
  (try dsimp only)
  k_steps
  rename Fr _ _ _ _ => F5
  rename News _ _ _ _ => N5
  (try dsimp only)
  refine wpB_execs_any ?_
  k_steps
  rename Fr _ _ _ _ => F6
  rename News _ _ _ _ => N6
  (try dsimp only)
  (try clear F5 N5)
  have hl12 : (varint n1).length + (varint n2).length = (varint n1 ++ varint n2).length := by rw [List.length_append]
  rw [hl12] at F6
  refine wpB_execs_cons ?_
  refine' while_inv (σ := List UInt8 × List Op × Array UInt8 × Tok × Tok) (fun c => [(Str.ofString "text", .bytes c.2.2.1 c.2.2.2.1), (Str.ofString "at", .int (c.1.length : Nat) c.2.2.2.2), (Str.ofString "one", .int n1 t1), (Str.ofString "two", .int n2 t3), (Str.ofString "base", .bytes b tb), (Str.ofString "delta", .bytes D td)])
    (fun _ => []) (fun c => D.toList = c.1 ++ c.2.1.flatMap Op.enc ∧ c.2.2.1.toList ++ c.2.1.flatMap (Op.out b) = ops.flatMap (Op.out b) ∧ ∀ o ∈ c.2.1, o.Ok b) (fun c => c.2.1.length) (varint n1 ++ varint n2, ops, #[], ?t1, ?t2) F6 N6 ?hm ?hn ?hp ?turn
  case hm => kst_all
  case hn => exact fun p hp => nomatch hp
  case hp => exact ⟨by rw [hD, List.append_assoc], rfl, hops⟩
  case turn =>
    (try clear F6 N6)
    rintro ⟨P, rest, tx, t5, t6⟩ h7 tk7 mm ⟨hD', ht', ho'⟩ F7 N7
    dsimp only [kstB] at F7 N7 hD' ht' ho' ⊢
    have hsz := size_of hD'
    rw [List.length_append] at hsz
    refine wpB_any ?_
    k_steps
    · rename_i hlt
      have htx : tx.size ≤ 200000 := by
        have := congrArg List.length ht'
        rw [List.length_append, Array.length_toList] at this
        omega
      rcases rest with _ | ⟨o, rest⟩
      · exfalso
        simp at hsz
        omega
      rw [List.flatMap_cons] at hD' hsz ht'
      have hoo := ho' o (.head _)
      rcases o with ⟨a, n⟩ | dd
      rotate_left
      · obtain ⟨hd0, hd1⟩ := hoo
        have ho : octAt D P.length = dd.length := by
          rw [octAt_of (c := dd.length.toUInt8) (R := dd ++ rest.flatMap Op.enc) hD', toUInt8_toNat (by omega)]
        have hel : (Op.ins dd).enc.length = dd.length + 1 := by simp [Op.enc]
        rw [List.length_append, hel] at hsz
        (try dsimp only)
        refine wpB_execs_any ?_
        k_steps
        (try dsimp only)
        refine wpB_execs_any ?_
        k_steps
        rename Fr _ _ _ _ => F8
        rename News _ _ _ _ => N8
        (try dsimp only)
        rw [Int.toNat_natCast, ho] at F8
        refine wpB_execs_cons (wpB_If (wpB_any ?_))
        k_steps
        all_goals try (exfalso; omega)
        refine wpB_execs_nil ?_
        (try dsimp only)
        refine wpB_execs_cons (wpB_If (wpB_any ?_))
        k_steps

        refine wpB_execs_cons (wpB_If (wpB_any ?_))
        k_steps
        all_goals try (exfalso; omega)
        refine wpB_execs_nil ?_
        (try dsimp only)
        refine wpB_execs_any ?_
        k_steps
        (try dsimp only)
        refine wpB_execs_any ?_
        k_steps
        rename Fr _ _ _ _ => F9
        rename News _ _ _ _ => N9
        (try dsimp only)
        rw [show ((P.length : Int) + 1).toNat = P.length + 1 from rfl, show ((P.length : Int) + 1 + (dd.length : Int)).toNat = P.length + 1 + dd.length from rfl, extract_mid hD',
          show ((P.length : Int) + 1 + (dd.length : Int)) = (((P ++ (Op.ins dd).enc).length : Nat) : Int) from by rw [List.length_append, hel]; omega] at F9
        refine wpB_execs_nil (wpB_execs_nil ?_)
        show TurnEnd _ _ _ _ _ _ _ _
        refine' TurnEnd.intro (P ++ (Op.ins dd).enc, rest, tx ++ dd.toArray, ?t3, ?t4) F9 ?hm N9 ?hn ?hp
        case hm => kst_all
        case hn => exact fun p hp => nomatch hp
        case hp =>
          refine ⟨⟨?_, ?_, fun o h => ho' o (.tail _ h)⟩, by simp⟩
          · rw [hD', List.append_assoc]
          · rw [← ht', Array.toList_append, List.append_assoc]; rfl
      · obtain ⟨hn0, hn1, han⟩ := hoo
        have hD2 : D.toList = P ++ ((encTo (fieldAt a n) 6) ++ rest.flatMap Op.enc) := hD'
        have hmask := maskTo_lt (fieldAt a n) 6
        have ho : octAt D P.length = 128 + maskTo (fieldAt a n) 6 := by
          rw [octAt_of (c := (128 + maskTo (fieldAt a n) 6).toUInt8) (R := bytesTo (fieldAt a n) 6 ++ rest.flatMap Op.enc) hD2, toUInt8_toNat (by omega)]
        have hel : (Op.copy a n).enc.length = 1 + (bytesTo (fieldAt a n) 6).length := by simp [Op.enc, encCopy, encTo]; omega
        rw [List.length_append, hel] at hsz
        (try dsimp only)
        refine wpB_execs_any ?_
        k_steps
        (try dsimp only)
        refine wpB_execs_any ?_
        k_steps
        rename Fr _ _ _ _ => F8
        rename News _ _ _ _ => N8
        (try dsimp only)
        rw [Int.toNat_natCast, ho] at F8
        refine wpB_execs_cons (wpB_If (wpB_any ?_))
        k_steps
        all_goals try (exfalso; omega)
        refine wpB_execs_nil ?_
        (try dsimp only)
        refine wpB_execs_cons (wpB_If (wpB_any ?_))
        k_steps

        all_goals try (exfalso; omega)
        refine wpB_execs_any ?_
        k_steps
        (any_goals exact True.intro)
        rename Fr _ _ _ _ => F9
        rename News _ _ _ _ => N9
        (try dsimp only)
        rename Addr => la
        have hlA := (N9 _ (.head _)).1
        generalize hG : (#[_, _, _, _, _, _, _] : Array Value) = fl0 at N9 hlA
        have hI0 : fl0.size = 7 ∧ ∀ j, j < 7 → ∃ t, fl0[j]? = some (.int ((if j < 0 ∧ j < 6 then fieldAt a n j else 0 : Nat) : Int) t) := by
          rw [← hG]
          exact ⟨rfl, upto_succ (upto_succ (upto_succ (upto_succ (upto_succ (upto_succ (upto_succ (fun _ h => absurd h (Nat.not_lt_zero _)) ⟨_, rfl⟩) ⟨_, rfl⟩) ⟨_, rfl⟩) ⟨_, rfl⟩) ⟨_, rfl⟩) ⟨_, rfl⟩) ⟨_, rfl⟩⟩
        clear hG hlA
        refine wpB_execs_cons ?_
        refine' for_range (σ := Array Value × Nat × Nat × Tok) 7 (fun c => [(Str.ofString "fields", .ref la), (Str.ofString "at", .int (P.length + 1 + c.2.2.1 : Nat) c.2.2.2), (Str.ofString "deed", .int (128 + maskTo (fieldAt a n) 6 : Nat) ?u2), (Str.ofString "text", .bytes tx t5), (Str.ofString "one", .int n1 t1), (Str.ofString "two", .int n2 t3), (Str.ofString "base", .bytes b tb), (Str.ofString "delta", .bytes D td)])
          (fun c => [(la, W.listOf c.1 c.2.1)]) (fun i c => (c.1.size = 7 ∧ ∀ j, j < 7 → ∃ t, c.1[j]? = some (.int ((if j < i ∧ j < 6 then fieldAt a n j else 0 : Nat) : Int) t)) ∧ c.2.2.1 = (bytesTo (fieldAt a n) (min i 6)).length) (fl0, 0, 0, ?u1) F9 N9 ?hm9 ?hn9 ?hp9 hh (by decide) rfl rfl rfl ?head9 ?turn9 ?hadr9 ?done9
        case hm9 => kst_all
        case hn9 => exact fun p hp => hp
        case hp9 => exact ⟨hI0, rfl⟩
        case hadr9 => exact fun _ _ => rfl
        case head9 =>
          k_steps
          rename Fr _ _ _ _ => F4
          rename News _ _ _ _ => N4
          exact ⟨_, _, _, _, _, _, rfl, rfl, by assumption, F4, N4⟩
        case turn9 =>
          rintro i ⟨fv, fn, fo, t7⟩ h9 ti tk9 mi I o hi ⟨⟨hf7, hfj⟩, hfo⟩ hne F10 N10
          dsimp only [kstB] at F10 N10 hf7 hfj hfo hne ⊢
          refine wpB_execs_cons (wpB_If (wpB_any ?_))
          k_steps
          · rename_i hbit
            rw [bit_cast] at hbit
            have hi6 : i < 6 := by
              rcases Nat.lt_or_ge i 6 with h6 | h6
              · exact h6
              · have e6 : i = 6 := by omega
                subst e6
                rw [deed_bit6] at hbit
                cases hbit
            have hf0 : fieldAt a n i ≠ 0 := fun q => by
              rw [deed_bit _ hi6, if_pos q] at hbit
              cases hbit
            rw [show min i 6 = i from by omega] at hfo
            obtain ⟨hoct, hin⟩ := field_oct hi6 hf0 (fieldAt_lt a n i) hD2
            rw [← hfo] at hoct hin
            (try dsimp only)
            refine wpB_execs_any ?_
            k_steps
            have hget := (N10 _ (.head _)).1
            refine setItem_lst hget (by omega) (by omega) (by omega) fun h10 fn' q hs10 => ?_
            obtain ⟨F11, N11⟩ := updN F10 N10 q hs10 (fun p hp => by rw [List.mem_singleton.mp hp]; exact Ne.symm (hne _ (.head _)))
            dsimp only at F11 N11 ⊢
            rw [Int.toNat_natCast, Int.toNat_natCast, hoct] at N11
            clear q hget hs10
            refine ⟨rfl, ?_⟩
            refine wpB_execs_any ?_
            k_steps
            rename Fr _ _ _ _ => F12
            rename News _ _ _ _ => N12
            (try dsimp only)
            rw [show (((P.length + 1 + fo : Nat) : Int) + 1) = ((P.length + 1 + (fo + 1) : Nat) : Int) from rfl] at F12
            refine wpB_execs_nil (wpB_execs_nil ?_)
            show TurnEnd _ _ _ _ _ _ _ _
            refine' TurnEnd.intro (fv.setIfInBounds i (.int (fieldAt a n i : Nat) _), fn', fo + 1, ?u4) F12 ?hm7 N12 (fun p hp => hp) ?hp7
            case hm7 => kst_all
            case hp7 =>
              refine ⟨⟨by dsimp only; rw [Array.size_setIfInBounds]; exact hf7, fun j hj => ?_⟩, ?_⟩
              · dsimp only
                by_cases q : i = j
                · subst q
                  rw [Array.getElem?_setIfInBounds_self_of_lt (by omega), if_pos (by omega)]
                  exact ⟨_, rfl⟩
                · obtain ⟨t, ht⟩ := hfj j hj
                  refine ⟨t, ?_⟩
                  rw [Array.getElem?_setIfInBounds_ne q, ht]
                  congr 4
                  simp only [eq_iff_iff]; omega
              · dsimp only
                rw [hfo, show min (i + 1) 6 = i + 1 from by omega, bytesTo_take hf0]
          · rename_i hbit
            have hbit := fun q => hbit (by rw [bit_cast]; exact congrArg _ q)
            refine wpB_execs_nil (wpB_execs_nil ?_)
            show TurnEnd _ _ _ _ _ _ _ _
            refine' TurnEnd.intro (fv, fn, fo, ?u3) F10 ?hm8 N10 (fun p hp => hp) ?hp8
            case hm8 => kst_all
            case hp8 =>
              rcases Nat.lt_or_ge i 6 with h6 | h6
              · have hf0 : fieldAt a n i = 0 := by
                  rcases Nat.eq_zero_or_pos (fieldAt a n i) with q | q
                  · exact q
                  · exact absurd (by rw [deed_bit _ h6, if_neg (by omega)]) hbit
                refine ⟨⟨hf7, fun j hj => ?_⟩, ?_⟩
                · obtain ⟨t, ht⟩ := hfj j hj
                  refine ⟨t, ht.trans ?_⟩
                  by_cases q : j = i
                  · subst q
                    rw [if_neg (by omega), if_pos (by omega), hf0]
                  · congr 4
                    simp only [eq_iff_iff]; omega
                · dsimp only
                  rw [hfo, show min (i + 1) 6 = i + 1 from by omega, show min i 6 = i from by omega, bytesTo_skip hf0]
              · refine ⟨⟨hf7, fun j hj => ?_⟩, ?_⟩
                · obtain ⟨t, ht⟩ := hfj j hj
                  refine ⟨t, ht.trans ?_⟩
                  congr 4
                  simp only [eq_iff_iff]; omega
                · dsimp only
                  rw [hfo, show min (i + 1) 6 = 6 from by omega, show min i 6 = 6 from by omega]
        case done9 =>
          rintro ⟨fv, fn, fo, t7⟩ h9 tk9 mi ⟨⟨hf7, hfj⟩, hfo⟩ F10 N10
          dsimp only [kstB] at F10 N10 hf7 hfj hfo ⊢
          have hlit : ∃ t0 t1 t2 t3 t4 t5 t6, fv = #[.int (fieldAt a n 0 : Nat) t0, .int (fieldAt a n 1 : Nat) t1, .int (fieldAt a n 2 : Nat) t2, .int (fieldAt a n 3 : Nat) t3, .int (fieldAt a n 4 : Nat) t4, .int (fieldAt a n 5 : Nat) t5, .int (0 : Nat) t6] := by
            obtain ⟨t0, h0⟩ := hfj 0 (by decide)
            obtain ⟨t1, h1⟩ := hfj 1 (by decide)
            obtain ⟨t2, h2⟩ := hfj 2 (by decide)
            obtain ⟨t3, h3⟩ := hfj 3 (by decide)
            obtain ⟨t4, h4⟩ := hfj 4 (by decide)
            obtain ⟨t5, h5⟩ := hfj 5 (by decide)
            obtain ⟨t6, h6⟩ := hfj 6 (by decide)
            exact ⟨t0, t1, t2, t3, t4, t5, t6, items_eq [_, _, _, _, _, _, _] hf7 ⟨h0, h1, h2, h3, h4, h5, h6, trivial⟩⟩
          obtain ⟨y0, y1, y2, y3, y4, y5, y6, rfl⟩ := hlit
          clear hfj
          have es := start_intL (a := a) (n := n) (by omega)
          have ez := size_intL (a := a) (n := n) hn1
          have e6 := deed6 (fieldAt a n)
          refine wpB_execs_any ?_
          k_steps
          rename Fr _ _ _ _ => F11
          rename News _ _ _ _ => N11
          simp only [es] at F11
          clear es
          (try dsimp only)
          refine wpB_execs_any ?_
          k_steps
          rename Fr _ _ _ _ => F12
          rename News _ _ _ _ => N12
          simp only [ez] at F12
          clear ez
          (try dsimp only)
          refine wpB_execs_cons (wpB_If (wpB_any ?_))
          k_steps
          all_goals try (exfalso; omega)
          refine wpB_execs_nil ?_
          (try dsimp only)
          have hext : (b.extract a (a + n)).size = n := by rw [Array.size_extract, Nat.min_eq_left han, Nat.add_sub_cancel_left]
          have htot : tx.size + n ≤ 200000 := by
            have := congrArg List.length ht'
            rw [List.length_append, List.length_append, Array.length_toList, show (Op.copy a n).out b = (b.extract a (a + n)).toList from rfl, Array.length_toList, hext] at this
            omega
          refine wpB_execs_any ?_
          k_steps
          rename Fr _ _ _ _ => F13
          rename News _ _ _ _ => N13
          (try dsimp only)
          rw [show ((a : Int)).toNat = a from rfl, show ((a : Int) + (n : Int)).toNat = a + n from rfl] at F13
          have hat : P.length + 1 + fo = (P ++ (Op.copy a n).enc).length := by rw [List.length_append, hel, hfo]; show _ = _ + (1 + (bytesTo (fieldAt a n) 6).length); rw [show min 7 6 = 6 from rfl]; omega
          rw [hat] at F13
          refine wpB_execs_nil (wpB_execs_nil ?_)
          show TurnEnd _ _ _ _ _ _ _ _
          refine' TurnEnd.intro (P ++ (Op.copy a n).enc, rest, tx ++ b.extract a (a + n), ?u6, ?u7) F13 ?hm6 N13 ?hn6 ?hp6
          case hm6 => kst_all
          case hn6 => exact fun p hp => nomatch hp
          case hp6 =>
            refine ⟨⟨?_, ?_, fun o h => ho' o (.tail _ h)⟩, by simp⟩
            · rw [hD', List.append_assoc]
            · rw [← ht', Array.toList_append, List.append_assoc]; rfl
    · rename_i hlt
      rcases rest with _ | ⟨o, rest⟩
      rotate_left
      · exfalso
        have := o.enc_pos
        rw [List.flatMap_cons, List.length_append] at hsz
        omega
      rw [List.flatMap_nil, List.append_nil] at ht'
      refine wpB_execs_cons (wpB_any ?_)
      k_steps
      rename Fr _ _ _ _ => F8
      rename News _ _ _ _ => N8
      have e : tx = (ops.flatMap (Op.out b)).toArray := by rw [← ht', Array.toArray_toList]
      rw [e] at N8
      exact h _ _ _ _ _ _ F8.keep (N8 _ (.head _)).2.2 ⟨_, (N8 _ (.head _)).1, rfl, _, rfl⟩
end
end
section
open PySem PySem.W PySem.Calls PyProof.Rows
section
variable {prog : Program} {w : World} {A : Around} {E : Value → Shared → Prop} {s : Shared}
theorem eqAt_bytes {A : Around} {s : Shared} (b : Array UInt8) (t u : Tok) : SeqAt.EqAt A s (.bytes b t) (.bytes b u) true := fun prog w E Q h => by
  unfold eqBool
  refine wpAny_holding ?_
  refine wpAny_ite_split (fun hab => ?_) (fun _ => ?_)
  · exact wpAny_bind (wpAny_rule (wpAny_pure h))
  · refine wpAny_bind ?_
    show wpAny _ _ (compareOp .Eq (.bytes b t) (.bytes b u)) _ _ _
    exact eq_bytes (wpAny_truthy_bool (by simpa using h))
theorem eqAt_int {A : Around} {s : Shared} (a : Int) (t u : Tok) : SeqAt.EqAt A s (.int a t) (.int a u) true := by
  have := SeqAt.EqAt.int_int (A := A) (s := s) a t a u
  simpa using this
/-- two tuples, equal item by item -/
theorem ne_tuples {a b : Addr} {xs ys : Array Value} {Q : Value → Shared → Prop} (ha : s.heap.IsTuple a xs) (hb : s.heap.IsTuple b ys) (hsz : xs.size = ys.size) (hu : A.units < cLine)
    (he : ∀ j (h1 : j < xs.size) (h2 : j < ys.size), SeqAt.EqAt A.in1 s xs[j] ys[j] true) (h : Q (.bool false) s) : wpAny (model prog w) A (compareOp .NotEq (.ref a) (.ref b)) Q E s :=
  SeqAt.RcNeAt.tuples (e := fun _ => true) ha hb hu he prog w E Q (by
    rw [hsz, show ((List.range (min ys.size ys.size)).all fun _ => true) = true from List.all_eq_true.mpr fun _ _ => rfl]
    simpa using h)
theorem ne_lists {a b : Addr} {xs ys : Array Value} {Q : Value → Shared → Prop} (ha : s.heap.IsList a xs) (hb : s.heap.IsList b ys) (hsz : xs.size = ys.size) (hu : A.units < cLine)
    (he : ∀ j (h1 : j < xs.size) (h2 : j < ys.size), SeqAt.EqAt A.in1 s xs[j] ys[j] true) (h : Q (.bool false) s) : wpAny (model prog w) A (compareOp .NotEq (.ref a) (.ref b)) Q E s :=
  SeqAt.RcNeAt.lists (e := fun _ => true) ha hb hsz hu he prog w E Q (by
    rw [show ((List.range xs.size).all fun _ => true) = true from List.all_eq_true.mpr fun _ _ => rfl]
    simpa using h)
theorem eq_lists {a b : Addr} {xs ys : Array Value} {Q : Value → Shared → Prop} (ha : s.heap.IsList a xs) (hb : s.heap.IsList b ys) (hsz : xs.size = ys.size) (hu : A.units < cLine)
    (he : ∀ j (h1 : j < xs.size) (h2 : j < ys.size), SeqAt.EqAt A.in1 s xs[j] ys[j] true) (h : Q (.bool true) s) : wpAny (model prog w) A (compareOp .Eq (.ref a) (.ref b)) Q E s :=
  SeqAt.RcAt.lists (e := fun _ => true) ha hb hsz hu he prog w E Q (by
    rw [show ((List.range xs.size).all fun _ => true) = true from List.all_eq_true.mpr fun _ _ => rfl]
    exact h)
/-- the same list twice over: items identical -/
theorem ne_same {a b : Addr} {xs : Array Value} {Q : Value → Shared → Prop} (ha : s.heap.IsList a xs) (hb : s.heap.IsList b xs) (hu : A.units < cLine) (h : Q (.bool false) s) : wpAny (model prog w) A (compareOp .NotEq (.ref a) (.ref b)) Q E s :=
  ne_lists ha hb rfl hu (fun _ _ _ => SeqAt.EqAt.same _) h
/-- two lists of two octet texts -/
theorem eq_two {a b : Addr} {x y : Array UInt8} {t1 t2 t3 t4 : Tok} {Q : Value → Shared → Prop} (ha : s.heap.IsList a #[.bytes x t1, .bytes y t2]) (hb : s.heap.IsList b #[.bytes x t3, .bytes y t4]) (hu : A.units < cLine) (h : Q (.bool true) s) :
    wpAny (model prog w) A (compareOp .Eq (.ref a) (.ref b)) Q E s :=
  eq_lists ha hb rfl hu (fun j h1 h2 => by
    match j, h1, h2 with
    | 0, _, _ => exact eqAt_bytes x t1 t3
    | 1, _, _ => exact eqAt_bytes y t2 t4) h
theorem ne_head {a b : Addr} {m n : Int} {x : Array UInt8} {t1 t2 t3 t4 t5 t6 : Tok} {Q : Value → Shared → Prop} (ha : s.heap.IsTuple a #[.int m t1, .int n t2, .bytes x t3]) (hb : s.heap.IsTuple b #[.int m t4, .int n t5, .bytes x t6]) (hu : A.units < cLine) (h : Q (.bool false) s) :
    wpAny (model prog w) A (compareOp .NotEq (.ref a) (.ref b)) Q E s :=
  ne_tuples ha hb rfl hu (fun j h1 h2 => by
    match j, h1, h2 with
    | 0, _, _ => exact eqAt_int m t1 t4
    | 1, _, _ => exact eqAt_int n t2 t5
    | 2, _, _ => exact eqAt_bytes x t3 t6) h
end
end
section
theorem anew_R1 : True := by (w_top off); exact True.intro
open PySem PySem.W PySem.Calls PyProof.Rows
local macro_rules | `(tactic| walk_at "binaryOp Add bytes bytes") => `(tactic| (k_here; (with_reducible show wpAny _ _ (binaryOp Operator.Add (Value.bytes _ _) (Value.bytes _ _)) _ _ _); (refine KBy.add_bytes (by first | omega | (simp only [Array.size_extract]; omega)) ?_); intro _ _))
section
variable {prog : Program} {w : World} {A : Around} {E : Value → Shared → Prop} {s : Shared}
theorem mul100 {x y z : UInt8} {Q : Value → Shared → Prop} {t u : Tok} (h : ∀ t' k, Q (.bytes (repB #[x, y, z] 100) t') { s with toks := k }) : wpAny (model prog w) A (binaryOp .Mult (.bytes #[x, y, z] t) (.int 100 u)) Q E s :=
  bytes_mul (by exact Nat.le_of_ble_eq_true rfl) (by decide) (by decide) (by exact Nat.le_of_ble_eq_true rfl) h
theorem item_any {value slice : PySem.Expr} {l : Addr} {vs : Array Value} {k : Int} {u : Tok} {Q : Value → Shared → Prop}
    (hl : s.heap.IsList l vs) (h0 : 0 ≤ k) (hk : k < vs.size) (hz : vs.size < 1000) (h : ∀ v, v ∈ vs.toList → Q v s)
    (hs : subscripted slice false (.ref l) (.int k u) = operate [.ref l, .int k u] (getItem (.ref l) (.int k u)) := by with_unfolding_all rfl) :
    wpAny (model prog w) A (subscriptTail value slice (.ref l) (.int k u)) Q E s := by
  obtain ⟨v, hv⟩ : ∃ v, vs[k.toNat]? = some v := ⟨_, Array.getElem?_eq_getElem (by omega)⟩
  exact tail_any hl.typeIs slot_list_getitem.lookup (wpAny_getItem_list hl h0 (by omega) hv (h _ (Array.mem_toList_iff.mpr (Array.mem_of_getElem? hv)))) hs
end
local macro_rules | `(tactic| walk_at "binaryOp Mult bytes int") => `(tactic| (k_here; (with_reducible show wpAny _ _ (binaryOp Operator.Mult (Value.bytes _ _) (Value.int _ _)) _ _ _); (refine mul100 ?_); intro _ _))
theorem wpB_cutK {b : Bool} {M : Model} {A : Around} {E : Value → Shared → Prop} {s : Shared} {env : Env} {st : Stmt} {rest : List Stmt} {Q : Flow → Shared → Prop} {P : Shared → Prop}
    (h : ∀ K : Shared → Prop, (∀ s', P s' → K s') → wpB b M A (exec st env) (fun f s' => f = .next ∧ K s') E s)
    (k : ∀ s', P s' → wpB b M A (execs rest env) Q E s') : wpB b M A (execs (st :: rest) env) Q E s := wpB_cut P (h P fun _ x => x) k
theorem kind_delete (k : Nat) : (kindStr k != Str.ofString "delete") = decide (k ≠ 1) := by
  match k with
  | 0 => decide +kernel
  | 1 => decide +kernel
  | 2 => decide +kernel
  | n + 3 => rw [show kindStr (n + 3) = Str.ofString "replace" from rfl, decide_eq_true (by omega)]; decide +kernel
def forBody : List Stmt → List Stmt
  | .For _ _ b _ _ :: _ => b
  | _ => []
section
variable {w : World} {s : Shared} {p : Program} {loose : List Str} {mean : ExcName → Option Value} {mg mb : Str → Option Value}
set_option maxHeartbeats 8000000 in
theorem rows_turn {oc : Value} {od : Option Addr} {osl : Array (Option Value)} {name qual : Str} {params : Arguments} {body : List Stmt} {scope : Scope} {cl : List (Str × Addr)} {dV kV doc pm cdv ct : Value} {an : Option Addr}
    (hK : (hdB.heap_39 w.params).lookup 102 = some ⟨oc, od, .func (fnX name qual params body scope cl dV kV doc pm an cdv ct), osl⟩)
    {G : Heap} {L ra sl : Addr} {n mx : Int} {lg : Bool} {b t : Array UInt8} {items : Array Value} {nn : Nat} {rest : List (Addr × Obj)} {m : Str → Option Value} {tn tt tb tm : Tok} {Q : Flow → Shared → Prop}
    (X : (hdB.heap_39 w.params).In G) (T : Top p loose mean mg mb G)
    (F : Fr G L s.heap (kstB m [(Str.ofString "n", .int n tn), (Str.ofString "target", .bytes t tt), (Str.ofString "rows", .ref ra), (Str.ofString "base", .bytes b tb), (Str.ofString "large", .bool lg), (Str.ofString "mix", .int mx tm), (Str.ofString "script", .ref sl)]))
    (N : News G L s.heap ((ra, W.listOf items nn) :: rest)) (hne : ∀ p ∈ rest, p.1 ≠ ra) (hz : items.size < 100) (hzb : b.size ≤ 66000) (hzt : t.size ≤ 132000)
    (k : ∀ (h' : Heap) (tk' : Nat) (m' : Str → Option Value) (news' : List (Addr × Obj)) (r : Row) (pc : Array UInt8) (Ta : Addr) (t0 t1 t2 t3 t4 tt' : Tok) (nn' : Nat), Fr G L h' m' →
      Has m' [(Str.ofString "target", .bytes (t ++ pc) tt'), (Str.ofString "rows", .ref ra), (Str.ofString "base", .bytes b tb), (Str.ofString "large", .bool lg), (Str.ofString "mix", .int mx tm), (Str.ofString "script", .ref sl)] →
      News G L h' news' → (ra, W.listOf (items.push (.ref Ta)) nn') ∈ news' → (Ta, rowObj r t0 t1 t2 t3 t4) ∈ news' → (∀ p ∈ rest, p ∈ news') → (∀ p ∈ rest, p.1 ≠ Ta) → Ta ≠ ra → r.j1 = t.size → r.j2 = t.size + pc.size → r.True b (t ++ pc) → pc.size ≤ max b.size 300 → Q .next { s with heap := h', toks := tk' }) :
    wpB true (model PySem.Challenge.rw_iy0003_01.row.prog w) (callerA.deeper (envX qual scope L 102 cdv cl)) (execs (forBody (body.drop 6)) (envX qual scope L 102 cdv cl)) Q NE s := by
  (revert X; k_fill; intro X)
  have e : _ = some (⟨_, _, .func (fnX _ _ _ _ _ _ _ _ _ _ _ _ _), _⟩ : Obj) := hK.symm.trans (by k_is)
  injection e with e
  injection e with e1 e2 e3 e4
  injection e3 with e3
  injection e3 with q1 q2 q3 q4 q5 q6 q7 q8 q9 q10 q11 q12 q13 q14 q15
  injection q4 with q4
  subst q2 q4 q5 q7 q13
  clear e1 e2 e4 q1 q3 q6 q8 q9 q10 q11 q12 q14 q15 hK
  clear oc od osl name params dV kV doc pm ct an
  dsimp only [List.drop, forBody]
  have hh : callerA.handled = none := rfl
  obtain ⟨hp, gs, dr, tk0, os⟩ := s
  dsimp only [kstB] at F N k ⊢
  have rest4 : ∀ {m' : Str → Option Value} {h' : Heap}, True := fun {_ _} => True.intro
  clear rest4
  refine wpB_cutK (P := fun s' => ∃ (h' : Heap) (tk' : Nat) (m' : Str → Option Value) (kk : Nat) (tkk : Tok), s' = ⟨h', gs, dr, tk', os⟩ ∧ Fr G L h' m' ∧ Has m' [(Str.ofString "kind", .str (kindStr kk) tkk), (Str.ofString "n", .int n tn), (Str.ofString "target", .bytes t tt), (Str.ofString "rows", .ref ra), (Str.ofString "base", .bytes b tb), (Str.ofString "large", .bool lg), (Str.ofString "mix", .int mx tm), (Str.ofString "script", .ref sl)] ∧ News G L h' ((ra, W.listOf items nn) :: rest) ∧ kk < 4) ?_ ?_
  · intro Kp hKp
    refine wpB_any ?_
    k_steps
    rename Fr _ _ _ _ => F2
    rename News _ _ _ _ => N2
    have hm0 : 0 ≤ n.fmod 4 := fmod_lo _ (by decide)
    have hm1 : n.fmod 4 < 4 := fmod_hi _ (by decide)
    refine item_any ⟨_, (N2 _ (.head _)).1, rfl, _, rfl⟩ hm0 hm1 (by exact Nat.le_of_ble_eq_true rfl) fun v hv => ?_
    obtain ⟨kk, tkk, rfl, hkk⟩ : ∃ (kk : Nat) (tkk : Tok), v = .str (kindStr kk) tkk ∧ kk < 4 := by
      simp only [List.mem_cons, List.not_mem_nil, or_false] at hv
      rcases hv with rfl | rfl | rfl | rfl
      · exact ⟨0, _, rfl, by decide⟩
      · exact ⟨1, _, rfl, by decide⟩
      · exact ⟨2, _, rfl, by decide⟩
      · exact ⟨3, _, rfl, by decide⟩
    clear hv
    (try dsimp only)
    k_steps
    (try any_goals exact True.intro)
    rename Fr _ _ _ _ => F3
    rename News _ _ _ _ => N3
    refine hKp _ ?_
    refine' ⟨_, _, _, kk, _, rfl, F3, ?HaA, fun p hp => N3 p (.tail _ hp), hkk⟩
    case HaA => kst_all
  rintro s' ⟨h2, tk2, m2, kk, tkk, rfl, F2, hm2, N2, hkk⟩
  replace F2 := frB F2 hm2
  clear F N hm2
  dsimp only [kstB] at F2
  refine wpB_execs_any ?_
  k_steps
  (try any_goals exact True.intro)
  (try dsimp only)
  refine wpB_execs_any ?_
  k_steps
  (try any_goals exact True.intro)
  (try dsimp only)
  rename Fr _ _ _ _ => F3
  rename News _ _ _ _ => N3
  have hs0 : 0 ≤ (n.fdiv 4).fmod ((b.size : Int) + 1) := fmod_lo _ (by omega)
  have hs1 : (n.fdiv 4).fmod ((b.size : Int) + 1) < (b.size : Int) + 1 := fmod_hi _ (by omega)
  generalize (n.fdiv 4).fmod ((b.size : Int) + 1) = st at hs0 hs1 F3
  generalize n.fdiv 4 = qv at F3
  obtain ⟨i1, rfl⟩ : ∃ i1 : Nat, st = i1 := ⟨st.toNat, by omega⟩
  replace hs1 : i1 ≤ b.size := by omega
  clear hs0
  dsimp only at F3
  refine wpB_cutK (P := fun s' => ∃ (h' : Heap) (tk' : Nat) (m' : Str → Option Value) (i2 : Nat) (tq t1 t2 : Tok), s' = ⟨h', gs, dr, tk', os⟩ ∧ Fr G L h' m' ∧ Has m' [(Str.ofString "end", .int (i2 : Nat) t2), (Str.ofString "start", .int (i1 : Nat) t1), (Str.ofString "q", .int qv tq), (Str.ofString "kind", .str (kindStr kk) tkk), (Str.ofString "target", .bytes t tt), (Str.ofString "rows", .ref ra), (Str.ofString "base", .bytes b tb), (Str.ofString "large", .bool lg), (Str.ofString "mix", .int mx tm), (Str.ofString "script", .ref sl)] ∧ News G L h' ((ra, W.listOf items nn) :: rest) ∧ i1 ≤ i2 ∧ i2 ≤ b.size) ?_ ?_
  · intro Kp hKp
    refine wpB_any ?_
    k_steps
    (try any_goals exact True.intro)
    · rename Fr _ _ _ _ => F4
      rename News _ _ _ _ => N4
      rw [show (i1 : Int) + ((b.size : Int) - (i1 : Int)) = ((b.size : Nat) : Int) from by omega] at F4
      refine hKp _ ?_
      refine' ⟨_, _, _, b.size, _, _, _, rfl, F4, ?HaE, N4, hs1, Nat.le_refl _⟩
      case HaE => kst_all
    · rename Fr _ _ _ _ => F4
      rename News _ _ _ _ => N4
      have hd0 : 0 ≤ (qv.fdiv 21).fmod ((b.size : Int) - (i1 : Int) + 1) := fmod_lo _ (by omega)
      have hd1 : (qv.fdiv 21).fmod ((b.size : Int) - (i1 : Int) + 1) < (b.size : Int) - (i1 : Int) + 1 := fmod_hi _ (by omega)
      generalize (qv.fdiv 21).fmod ((b.size : Int) - (i1 : Int) + 1) = dd at hd0 hd1 F4
      obtain ⟨d1, rfl⟩ : ∃ d1 : Nat, dd = d1 := ⟨dd.toNat, by omega⟩
      rw [show (i1 : Int) + (d1 : Int) = ((i1 + d1 : Nat) : Int) from by omega] at F4
      refine hKp _ ?_
      refine' ⟨_, _, _, i1 + d1, _, _, _, rfl, F4, ?HaG, N4, by omega, by omega⟩
      case HaG => kst_all
  rintro s' ⟨h5, tk5, m5, i2, tq, t1, t2, rfl, F5, hm5, N5, hi12, hi2⟩
  replace F5 := frB F5 hm5
  (try clear F2 N2)
  (try clear F3 N3)
  clear hm5
  dsimp only [kstB] at F5
  refine wpB_execs_any ?_
  k_steps
  (try any_goals exact True.intro)
  (try dsimp only)
  rename Fr _ _ _ _ => F6
  rename News _ _ _ _ => N6
  dsimp only at F6 N6
  refine wpB_cutK (P := fun s' => ∃ (h' : Heap) (tk' : Nat) (m' : Str → Option Value) (pc : Array UInt8) (tp t1 t2 : Tok), s' = ⟨h', gs, dr, tk', os⟩ ∧ Fr G L h' m' ∧ Has m' [(Str.ofString "piece", .bytes pc tp), (Str.ofString "end", .int (i2 : Nat) t2), (Str.ofString "start", .int (i1 : Nat) t1), (Str.ofString "kind", .str (kindStr kk) tkk), (Str.ofString "target", .bytes t tt), (Str.ofString "rows", .ref ra), (Str.ofString "base", .bytes b tb), (Str.ofString "large", .bool lg), (Str.ofString "mix", .int mx tm), (Str.ofString "script", .ref sl)] ∧ News G L h' ((ra, W.listOf items nn) :: rest) ∧
      (kk = 0 → pc = b.extract i1 i2) ∧ (kk = 1 → pc.size = 0) ∧ (2 ≤ kk → 0 < pc.size ∧ pc.size ≤ 300)) ?_ ?_
  · intro Kp hKp
    refine wpB_any ?_
    obtain hk4 | hk4 | hk4 : kk = 0 ∨ kk = 1 ∨ 2 ≤ kk := by omega
    · rw [hk4] at F6
      rw [show kindStr 0 = Str.ofString "equal" from rfl] at F6
      k_steps
      rename Fr _ _ _ _ => F7
      rename News _ _ _ _ => N7
      rw [Int.toNat_natCast, Int.toNat_natCast] at F7
      refine hKp _ ?_
      refine' ⟨_, _, _, _, _, _, _, rfl, F7, ?HaK, N7, fun _ => rfl, fun q => by omega, fun q => by omega⟩
      case HaK => (rw [hk4]; kst_all)
    · rw [hk4] at F6
      rw [show kindStr 1 = Str.ofString "delete" from rfl] at F6
      k_steps
      rename Fr _ _ _ _ => F7
      rename News _ _ _ _ => N7
      refine hKp _ ?_
      refine' ⟨_, _, _, #[], _, _, _, rfl, F7, ?HaL, N7, fun q => by omega, fun _ => rfl, fun q => by omega⟩
      case HaL => (rw [hk4]; kst_all)
    · have hke : (kindStr kk == Str.ofString "equal") = false := by rw [kind_equal]; exact decide_eq_false (by omega)
      have hkd : (kindStr kk != Str.ofString "delete") = true := by rw [kind_delete]; exact decide_eq_true (by omega)
      have h83 : G.get? 83 = some (⟨_, _, .seq _ _, _⟩ : Obj) := X 83 _ (by k_is)
      k_steps
      rename Fr _ _ _ _ => F7
      rename News _ _ _ _ => N7
      have hm0 : 0 ≤ qv.fmod 10 := fmod_lo _ (by decide)
      have hm1 : qv.fmod 10 < 10 := fmod_hi _ (by decide)
      refine item_any ⟨_, F7.keep _ _ h83, rfl, _, rfl⟩ hm0 hm1 (by exact Nat.le_of_ble_eq_true rfl) fun v hv => ?_
      obtain ⟨ln, tln, rfl, hl0, hl1⟩ : ∃ (ln : Nat) (tln : Tok), v = .int (ln : Nat) tln ∧ 0 < ln ∧ ln ≤ 300 := by
        simp only [List.mem_cons, List.not_mem_nil, or_false] at hv
        rcases hv with rfl | rfl | rfl | rfl | rfl | rfl | rfl | rfl | rfl | rfl <;> exact ⟨_, _, rfl, by decide, by decide⟩
      clear hv hm0 hm1 h83
      have hpr : (repB #[(qv.fmod 256).toNat.toUInt8, ((qv.fdiv 256).fmod 256).toNat.toUInt8, (Int.toNat 65).toUInt8] 100).size = 300 := by rw [repB_size]; rfl
      generalize repB #[(qv.fmod 256).toNat.toUInt8, ((qv.fdiv 256).fmod 256).toNat.toUInt8, (Int.toNat 65).toUInt8] 100 = pr at hpr ⊢
      (try dsimp only)
      k_steps
      rename Fr _ _ _ _ => F8
      rename News _ _ _ _ => N8
      rw [Int.toNat_natCast] at F8
      refine hKp _ ?_
      refine' ⟨_, _, _, pr.extract 0 ln, _, _, _, rfl, F8, ?HaM, fun p hp => N8 p (.tail _ hp), fun q => by omega, fun q => by omega, fun _ => by rw [Array.size_extract]; omega⟩
      case HaM => kst_all
  rintro s' ⟨h8, tk8, m8, pc, tp, t1, t2, rfl, F8, hm8, N8, hp0, hp1, hp2⟩
  replace F8 := frB F8 hm8
  (try clear F5 N5)
  (try clear F6 N6)
  clear hm8
  dsimp only [kstB] at F8
  have hpz : pc.size ≤ max b.size 300 := by
    obtain q | q | q : kk = 0 ∨ kk = 1 ∨ 2 ≤ kk := by omega
    · rw [hp0 q, Array.size_extract]; omega
    · rw [hp1 q]; exact Nat.zero_le _
    · exact Nat.le_trans (hp2 q).2 (Nat.le_max_right _ _)
  have hpz2 : pc.size ≤ 66000 := by omega
  refine wpB_execs_cons (wpB_Expr (appendL rfl rfl rfl rfl ?_))
  k_steps
  rename Fr _ _ _ _ => F9
  rename News _ _ _ _ => N9
  refine ⟨ra, items, nn, rfl, (N9 _ (.head _)).1, wpB_any ?_⟩
  k_steps
  · rename Fr _ _ _ _ => F10
    rename News _ _ _ _ => N10
    rename (_ == _) = _ => hki
    rw [kind_insert] at hki
    rename (_ ∧ AllLt _ _) => hlt2
    obtain ⟨hlt, hlr⟩ := hlt2
    rw [show (t.size : Int) + (pc.size : Int) = ((t.size + pc.size : Nat) : Int) from by omega] at N10
    refine ⟨items, nn, (N10 _ (.tail _ (.head _))).1, by omega, fun h' n' e1 e2 => ?_⟩
    obtain ⟨F11, N11⟩ := updN F10 (news := (_, _) :: rest) (fun p hp => N10 p (by
      rcases List.mem_cons.mp hp with rfl | hp
      · exact .tail _ (.head _)
      · rcases List.mem_cons.mp hp with rfl | hp
        · exact .head _
        · exact .tail _ (.tail _ hp))) e1 e2 (fun p hp => by
      rcases List.mem_cons.mp hp with rfl | hp
      · exact Nat.ne_of_gt hlt
      · exact hne p hp)
    clear F10 N10 e1 e2
    (try clear F9 N9)
    (try clear F8 N8)
    (try dsimp only)
    refine wpB_execs_any ?_
    k_steps
    (try any_goals exact True.intro)
    (try dsimp only)
    rename Fr _ _ _ _ => F12
    rename News _ _ _ _ => N12
    refine wpB_execs_nil ?_
    refine' k _ _ _ _ ⟨kk, i1, i1, t.size, t.size + pc.size⟩ pc _ _ _ _ _ _ _ _ F12 ?HaR N12 (.head _) (.tail _ (.head _)) (fun p hp => .tail _ (.tail _ hp)) (fun p hp => Nat.ne_of_lt (kst_ltOf hlr p hp)) (Nat.ne_of_gt hlt) rfl rfl ⟨⟨hkk, by first | exact Nat.le_refl _ | omega, by first | exact hs1 | omega, Nat.le_add_right _ _, by rw [Array.size_append]; exact Nat.le_refl _⟩, fun q => by rw [show kk = 0 from q] at hki; exact absurd hki (by decide), fun q => by have := hp1 q; show t.size = t.size + pc.size; omega, fun q => by have := (hp2 q).1; show t.size < t.size + pc.size; omega⟩ hpz
    case HaR => kst_all
  · rename Fr _ _ _ _ => F10
    rename News _ _ _ _ => N10
    rename (_ == _) = _ => hki
    rw [kind_insert] at hki
    rename (_ ∧ AllLt _ _) => hlt2
    obtain ⟨hlt, hlr⟩ := hlt2
    rw [show (t.size : Int) + (pc.size : Int) = ((t.size + pc.size : Nat) : Int) from by omega] at N10
    refine ⟨items, nn, (N10 _ (.tail _ (.head _))).1, by omega, fun h' n' e1 e2 => ?_⟩
    obtain ⟨F11, N11⟩ := updN F10 (news := (_, _) :: rest) (fun p hp => N10 p (by
      rcases List.mem_cons.mp hp with rfl | hp
      · exact .tail _ (.head _)
      · rcases List.mem_cons.mp hp with rfl | hp
        · exact .head _
        · exact .tail _ (.tail _ hp))) e1 e2 (fun p hp => by
      rcases List.mem_cons.mp hp with rfl | hp
      · exact Nat.ne_of_gt hlt
      · exact hne p hp)
    clear F10 N10 e1 e2
    (try clear F9 N9)
    (try clear F8 N8)
    (try dsimp only)
    refine wpB_execs_any ?_
    k_steps
    (try any_goals exact True.intro)
    (try dsimp only)
    rename Fr _ _ _ _ => F12
    rename News _ _ _ _ => N12
    refine wpB_execs_nil ?_
    refine' k _ _ _ _ ⟨kk, i1, i2, t.size, t.size + pc.size⟩ pc _ _ _ _ _ _ _ _ F12 ?HaS N12 (.head _) (.tail _ (.head _)) (fun p hp => .tail _ (.tail _ hp)) (fun p hp => Nat.ne_of_lt (kst_ltOf hlr p hp)) (Nat.ne_of_gt hlt) rfl rfl ⟨⟨hkk, by first | exact Nat.le_refl _ | omega, by first | exact hs1 | omega, Nat.le_add_right _ _, by rw [Array.size_append]; exact Nat.le_refl _⟩, fun q => by show b.extract i1 i2 = (t ++ pc).extract t.size (t.size + pc.size); rw [ext_new, hp0 q], fun q => by have := hp1 q; show t.size = t.size + pc.size; omega, fun q => by have := (hp2 q).1; show t.size < t.size + pc.size; omega⟩ hpz
    case HaS => kst_all
end
end
section
open PySem PySem.W PySem.Calls PyProof.Rows
theorem copyCh_sz : ∀ (n a : Nat), (catB (copyCh a n)).size ≤ 8 * n := by
  intro n
  induction n using Nat.strongRecOn with
  | ind n ih =>
    intro a
    by_cases h : n = 0
    · subst h; rw [copyCh_zero]; exact Nat.zero_le _
    · rw [copyCh_pos h, catB_cons, Array.size_append]
      have h1 := ih (n - min n 65535) (by omega) (a + min n 65535)
      have h2 : (encCopy a (min n 65535)).toArray.size ≤ 7 := encTo_size _ _
      omega
theorem insCh_sz (t : Array UInt8) : ∀ (s o : Nat), (catB (insCh t o s)).size ≤ 3 * s + 2 := by
  intro s
  induction s using Nat.strongRecOn with
  | ind s ih =>
    intro o
    by_cases h : 127 < s
    · rw [insCh_big h, catB_cons, catB_cons, Array.size_append, Array.size_append]
      have h1 := ih (s - 127) (by omega) (o + 127)
      have h2 : (t.extract o (o + 127)).size ≤ 127 := by rw [Array.size_extract]; omega
      have h3 : (#[127] : Array UInt8).size = 1 := rfl
      omega
    · rw [insCh_small h, catB_cons, catB_cons, catB_nil, Array.append_empty, Array.size_append, Array.size_extract]
      have h3 : (#[s.toUInt8] : Array UInt8).size = 1 := rfl
      omega
theorem rowCh_sz {b t : Array UInt8} {r : Row} (h : r.Ok b t) : (catB (rowCh t r)).size ≤ 8 * b.size + (3 * t.size + 2) := by
  obtain ⟨_, h1, h2, h3, h4⟩ := h
  unfold rowCh
  rw [catB_append, Array.size_append]
  have e1 : (catB (if r.k = 0 then copyCh r.i1 (r.i2 - r.i1) else [])).size ≤ 8 * b.size := by
    split
    · have := copyCh_sz (r.i2 - r.i1) r.i1; omega
    · exact Nat.zero_le _
  have e2 : (catB (if 2 ≤ r.k then insCh t r.j1 (r.j2 - r.j1) else [])).size ≤ 3 * t.size + 2 := by
    split
    · have := insCh_sz t (r.j2 - r.j1) r.j1; omega
    · exact Nat.zero_le _
  omega
theorem flat_sz {b t : Array UInt8} : ∀ {rows : List Row}, (∀ r ∈ rows, r.Ok b t) → (catB (rows.flatMap (rowCh t))).size ≤ rows.length * (8 * b.size + (3 * t.size + 2))
  | [], _ => by simp [catB]
  | r :: rows, h => by
    rw [List.flatMap_cons, catB_append, Array.size_append, List.length_cons, Nat.succ_mul]
    have := rowCh_sz (h r (.head _))
    have := flat_sz (rows := rows) fun x hx => h x (.tail _ hx)
    omega
theorem delta_sz {b t : Array UInt8} {rows : List Row} (h : ∀ r ∈ rows, r.Ok b t) (hb : b.size ≤ 66000) (ht : t.size ≤ 132000) (hr : rows.length ≤ 9) : (catB (deltaCh b t rows)).size ≤ 16000000 := by
  have h1 := flat_sz h
  have h2 : rows.length * (8 * b.size + (3 * t.size + 2)) ≤ 9 * (8 * b.size + (3 * t.size + 2)) := Nat.mul_le_mul_right _ hr
  have h3 := varint_len b.size
  have h4 := varint_len t.size
  have h5 : (varint b.size).toArray.size = (varint b.size).length := rfl
  have h6 : (varint t.size).toArray.size = (varint t.size).length := rfl
  unfold deltaCh
  rw [catB_cons, catB_cons, Array.size_append, Array.size_append]
  omega
/-- a text cut in two -/
theorem cat_two (b : Array UInt8) {k : Nat} (h : k ≤ b.size) : catB [b.extract 0 k, b.extract k b.size] = b := by
  rw [catB_cons, catB_cons, catB_nil, Array.append_empty, Array.extract_append_extract, Nat.zero_min, Nat.max_eq_right h, Array.extract_size]
section
variable {b : Bool} {M : Model} {A : Around} {E : Value → Shared → Prop} {s : Shared} {env : Env}
/-- the first of several alternatives, in a test -/
theorem or_tree (x : Expr) (rest : List Expr) (pos : Pos) (whole : Sem Value) : isTrue (.BoolOp .Or (x :: rest) pos) env whole = isTrue x env (eval x env) >>= fun c => if c then pure true else isTrue (.BoolOp .Or rest pos) env whole :=
  congrArg (isTrue x env (eval x env) >>= ·) (funext fun c => by cases c <;> rfl)
theorem wpB_isTrue_or {x rest pos whole} {Q : Bool → Shared → Prop} (h : wpB b M A (isTrue x env (eval x env)) (fun c s' => if c then Q true s' else wpB b M A (isTrue (.BoolOp .Or rest pos) env whole) Q E s') E s) :
    wpB b M A (isTrue (.BoolOp .Or (x :: rest) pos) env whole) Q E s :=
  or_tree (env := env) x rest pos whole ▸ wpB_bind (wpB_mono h (fun c _ k => by cases c <;> first | exact k | exact wpB_pure k) fun _ _ k => k)
end
end
section
theorem anew_R2 : True := by (w_top off); exact True.intro
open PySem PySem.W PySem.Calls PyProof.Rows
theorem put_tuple {G h h' : Heap} {L a : Addr} {m : Str → Option Value} {news : List (Addr × Obj)} {its : Array Value} (F : Fr G L h m) (N : News G L h news) (hk : ∀ b o, h.get? b = some o → h'.get? b = some o) (ha : h.get? a = none) (ht : h'.IsTuple a its) :
    ∃ o, News G L h' ((a, o) :: news) ∧ ∀ h'' : Heap, h''.get? a = some o → h''.IsTuple a its := by
  obtain ⟨o, ho, hc, n, hd⟩ := ht
  refine ⟨o, fun p hp => ?_, fun h'' e => ⟨o, e, hc, n, hd⟩⟩
  rcases List.mem_cons.mp hp with rfl | hp
  · refine ⟨ho, fun q => ?_, ?_⟩
    · obtain ⟨_, _, _, hL, _⟩ := F.ns
      rw [show a = L from q] at ha
      rw [ha] at hL; cases hL
    · cases q : G.get? a with
      | none => rfl
      | some x => have := F.keep _ _ q; rw [ha] at this; cases this
  · exact ⟨hk _ _ (N p hp).1, (N p hp).2⟩
theorem upd63 {G h h' : Heap} {L : Addr} {m : Str → Option Value} {news : List (Addr × Obj)} {ps ps' : Array Value} (F : Fr G L h m) (N : News G L h ((63, tabObj ps) :: news)) (hG63 : G.get? 63 = none)
    (hk : ∀ b o, b ≠ 63 → h.get? b = some o → h'.get? b = some o) (h63 : h'.get? 63 = some (tabObj ps')) (hne : ∀ p ∈ news, p.1 ≠ 63) : Fr G L h' m ∧ News G L h' ((63, tabObj ps') :: news) := by
  have D := N _ (.head _)
  refine ⟨⟨F.ns.at' fun o e => hk _ o (Ne.symm D.2.1) e, fun b o e => hk b o (fun q => by rw [q, hG63] at e; cases e) (F.keep b o e), F.above⟩, fun p hp => ?_⟩
  rcases List.mem_cons.mp hp with rfl | hp
  · exact ⟨h63, D.2⟩
  · exact ⟨hk _ _ (hne p hp) (N p (.tail _ hp)).1, (N p (.tail _ hp)).2⟩
theorem keep_code {G h : Heap} {L : Addr} {m : Str → Option Value} {cv : Value} {q : Str} (F : Fr G L h m) (hc : (hideAll h [63]).CodeRec cv q) :
    ∃ ext : List (Addr × Obj), News G L h ext ∧ (∀ p ∈ ext, p.1 ≠ 63) ∧ ∀ h'' m'', Fr G L h'' m'' → News G L h'' ext → (hideAll h'' [63]).CodeRec cv q := by
  obtain ⟨c, o, vs, t, rfl, hg, hd, hv⟩ := hc
  have hg' := of_hideAll _ hg
  have hc63 : c ≠ 63 := fun e => by rw [hideAll_none [63] (List.mem_singleton.mpr e)] at hg; cases hg
  have up : ∀ h'' : Heap, h''.get? c = some o → (hideAll h'' [63]).CodeRec (.ref c) q := fun h'' e => ⟨c, o, vs, t, rfl, hideAll_get _ e fun z => hc63 (List.mem_singleton.mp z), hd, hv⟩
  cases hG : G.get? c with
  | some x =>
    have e := F.keep _ _ hG
    rw [hg'] at e; cases e
    exact ⟨[], News.nil, (fun _ hp => nomatch hp), fun h'' m'' F'' _ => up h'' (F''.keep _ _ hG)⟩
  | none =>
    refine ⟨[(c, o)], fun p hp => ?_, fun p hp => by rw [List.mem_singleton.mp hp]; exact hc63, fun h'' m'' _ N'' => up h'' (N'' _ (.head _)).1⟩
    rw [List.mem_singleton.mp hp]
    refine ⟨hg', fun e => ?_, hG⟩
    obtain ⟨oL, es, ep, hL, hdL, _⟩ := F.ns
    rw [show c = L from e, hL] at hg'
    cases hg'
    rw [hdL] at hd; cases hd
theorem keep_tab {G h : Heap} {L : Addr} {m : Str → Option Value} {ps : Array Value} (F : Fr G L h m) (ht : TabSt (hideAll h [63]) ps) :
    ∃ ext : List (Addr × Obj), News G L h ext ∧ (∀ p ∈ ext, p.1 ≠ 63) ∧ ∀ h'' m'', Fr G L h'' m'' → News G L h'' ext → TabSt (hideAll h'' [63]) ps := by
  rcases ht with rfl | ⟨c1, c2, rfl, r1, r2⟩
  · exact ⟨[], News.nil, (fun _ hp => nomatch hp), fun _ _ _ _ => .inl rfl⟩
  · obtain ⟨e1, n1, m1, k1⟩ := keep_code F r1
    obtain ⟨e2, n2, m2, k2⟩ := keep_code F r2
    refine ⟨e1 ++ e2, fun p hp => (List.mem_append.mp hp).elim (n1 p) (n2 p), fun p hp => (List.mem_append.mp hp).elim (m1 p) (m2 p), fun h'' m'' F'' N'' => .inr ⟨c1, c2, rfl, k1 h'' m'' F'' fun p hp => N'' p (List.mem_append_left _ hp), k2 h'' m'' F'' fun p hp => N'' p (List.mem_append_right _ hp)⟩⟩
theorem ne_bytes_same {prog : Program} {w : World} {A : Around} {E : Value → Shared → Prop} {s : Shared} {b : Array UInt8} {t u : Tok} {Q : Value → Shared → Prop} (h : Q (.bool false) s) : wpAny (model prog w) A (compareOp .NotEq (.bytes b t) (.bytes b u)) Q E s :=
  ne_bytes (by rw [bne_self_eq_false]; exact h)
local macro_rules | `(tactic| walk_at "compareOp NotEq bytes bytes") => `(tactic| (k_here; with_reducible refine ne_bytes_same ?_))
section
variable {w : World} {s : Shared} {p : Program} {loose : List Str} {mean : ExcName → Option Value} {mg mb : Str → Option Value}
set_option maxHeartbeats 8000000 in
theorem law_half1 {oc : Value} {od : Option Addr} {osl : Array (Option Value)} {name qual : Str} {params : Arguments} {body : List Stmt} {scope : Scope} {cl : List (Str × Addr)} {dV kV doc pm cdv ct : Value} {an : Option Addr}
    (hK : (hdB.heap_39 w.params).lookup 102 = some ⟨oc, od, .func (fnX name qual params body scope cl dV kV doc pm an cdv ct), osl⟩)
    {G : Heap} {L ra sl : Addr} {mx : Int} {lg : Bool} {b t : Array UInt8} {rows : List Row} {items : Array Value} {nn : Nat} {rest : List (Addr × Obj)} {m : Str → Option Value} {tt tb tm : Tok} {Q : Flow → Shared → Prop}
    (X : (hdB.heap_39 w.params).In G) (T : Top p loose mean mg mb G) (hG63 : G.get? 63 = none)
    (F : Fr G L s.heap (kstB m [(Str.ofString "target", .bytes t tt), (Str.ofString "rows", .ref ra), (Str.ofString "base", .bytes b tb), (Str.ofString "large", .bool lg), (Str.ofString "mix", .int mx tm), (Str.ofString "script", .ref sl)]))
    (N : News G L s.heap ((ra, W.listOf items nn) :: (63, tabObj #[]) :: rest)) (hch : Chain b t 0 rows) (hri : RowsIn rest items rows) (hrl : rows.length ≤ 9) (hne : ∀ p ∈ (63, tabObj #[]) :: rest, p.1 ≠ ra) (hne2 : ∀ p ∈ rest, p.1 ≠ 63) (hzb : b.size ≤ 66000) (hzt : t.size ≤ 132000)
    (k : ∀ (h' : Heap) (tk' : Nat) (m' : Str → Option Value) (D : Array UInt8) (td : Tok) (ps : Array Value) (rest' : List (Addr × Obj)), Fr G L h' m' →
      Has m' [(Str.ofString "delta", .bytes D td), (Str.ofString "target", .bytes t tt), (Str.ofString "rows", .ref ra), (Str.ofString "base", .bytes b tb), (Str.ofString "large", .bool lg), (Str.ofString "mix", .int mx tm), (Str.ofString "script", .ref sl)] →
      News G L h' ((63, tabObj ps) :: rest') → (∀ p ∈ rest', p.1 ≠ 63) →
      (∀ h'' m'', Fr G L h'' m'' → News G L h'' ((63, tabObj ps) :: rest') → TabSt (hideAll h'' [63]) ps ∧ RowsAt h'' ra rows) → D.toList = varint b.size ++ (varint t.size ++ (rows.flatMap (rowOps t)).flatMap Op.enc) → D = catB (deltaCh b t rows) → D.size ≤ 16000000 →
      wpB true (model PySem.Challenge.rw_iy0003_01.row.prog w) (callerA.deeper (envX qual scope L 102 cdv cl)) (execs (body.drop 11) (envX qual scope L 102 cdv cl)) Q NE { s with heap := h', gens := s.gens.push .finished, toks := tk' }) :
    wpB true (model PySem.Challenge.rw_iy0003_01.row.prog w) (callerA.deeper (envX qual scope L 102 cdv cl)) (execs (body.drop 7) (envX qual scope L 102 cdv cl)) Q NE s := by
  (revert X; k_fill; intro X)
  have e : _ = some (⟨_, _, .func (fnX _ _ _ _ _ _ _ _ _ _ _ _ _), _⟩ : Obj) := hK.symm.trans (by k_is)
  injection e with e
  injection e with e1 e2 e3 e4
  injection e3 with e3
  injection e3 with q1 q2 q3 q4 q5 q6 q7 q8 q9 q10 q11 q12 q13 q14 q15
  injection q4 with q4
  subst q2 q4 q5 q7 q13
  clear e1 e2 e4 q1 q3 q6 q8 q9 q10 q11 q12 q14 q15 hK
  clear oc od osl name params dV kV doc pm ct an
  dsimp only [List.drop] at k ⊢
  have hh : callerA.handled = none := rfl
  have hroom : callerA.depth + 8 < recursionLimit := by decide +kernel
  have hok := chain_ok hch
  obtain ⟨hp, gs, dr, tk0, os⟩ := s
  dsimp only [kstB] at F N k ⊢
  have hits : items.size ≤ 9 := by have := hri.1; omega
  have hra63 : ra ≠ 63 := Ne.symm (hne _ (.head _))
  refine wpB_execs_any ?_
  k_steps
  (try any_goals exact True.intro)
  (try dsimp only)
  rename Fr _ _ _ _ => F3
  rename News _ _ _ _ => N3
  rename (ra < _ ∧ 63 < _ ∧ AllLt _ _) => hga
  refine wpB_execs_cons (wpB_Assign_Name (joinB rfl rfl rfl rfl ?_))
  k_steps
  refine ⟨_, rfl, ?_⟩
  refine wpB_Call_ofName (wpB_any ?_)
  k_steps
  refine callWith_ty ?_
  rw [show backTo _ (starEach [_] _) = [(false, eval _ _)] from rfl]
  refine wpB_spliced_cons ?_
  refine wpB_Call_ofName (wpB_any ?_)
  k_steps
  rename Fr _ _ _ _ => F4
  rename News _ _ _ _ => N4
  refine' callWith_K X ?hoc (wpB_any ?_)
  case hoc => k_is
  k_steps
  rename Fr _ _ _ _ => F5
  rename News _ _ _ _ => N5
  refine ⟨F5.keep, ?_⟩
  (try dsimp only)
  refine wpB_mono (create_list (b := b) (t := t) (X.keeps F5.keep) (T.keeps F5.keep) (by exact hh) (by show callerA.depth + 1 + 1 < _; omega) (.inl ⟨_, rfl⟩) (.inl ⟨_, rfl⟩) (hri.at N5 (.tail _ (.head _)) fun p hp => .tail _ (.tail _ (.tail _ hp))) hok hzb hzt hrl fun h6 tk6 l6 its6 hk6 hl6 hB6 => ?_) (fun v s₁ h₁ => wpB_spliced_nil h₁) (fun _ _ x => x)
  have F6 := Fr.after F5 hk6
  have N6 := News.keepsAll N5 hk6
  (try clear F4 N4)
  clear F5 N5 hk6
  have hzD := delta_sz hok hzb hzt hrl
  refine ⟨l6, its6, _, rfl, hl6, hB6, by omega, fun t' kq => ?_⟩
  have hDe := delta_enc hok
  generalize hDd : catB (deltaCh b t rows) = D at hzD hDe ⊢
  replace hDd := hDd.symm
  (try dsimp only)
  k_steps
  (try any_goals exact True.intro)
  (try dsimp only)
  rename Fr _ _ _ _ => F7
  rename News _ _ _ _ => N7
  obtain ⟨hout, hopk⟩ := chain_out hch
  generalize hops : rows.flatMap (rowOps t) = ops at hDe hout hopk
  have hol : (ops.flatMap (Op.out b)).length = t.size := by rw [hout, Array.length_toList]
  refine wpB_execs_cons (wpB_If (wpB_isTrue_Compare1 ?_))
  refine wpB_Call_ofName (wpB_any ?_)
  k_steps
  rename Fr _ _ _ _ => F8
  rename News _ _ _ _ => N8
  (try clear F7 N7)
  refine' callWith_K X ?hod (wpB_any ?_)
  case hod => k_is
  k_steps
  rename Fr _ _ _ _ => F9
  rename News _ _ _ _ => N9
  refine ⟨F9.keep, ?_⟩
  (try dsimp only)
  refine lawRead_call (X.keeps F9.keep) (T.keeps F9.keep) (by exact hh) (by show callerA.depth + 1 + 1 < _; omega) hDe hopk (by omega) hzb (by omega) fun h10 tk10 a10 u1 u2 u3 hk10 hn10 ht10 => ?_
  rw [hout] at ht10
  rw [show t.toList.toArray = t from Array.toArray_toList] at ht10
  obtain ⟨o10, N10, hT10⟩ := put_tuple F9 N9 hk10 hn10 ht10
  have F10 := Fr.after F9 hk10
  (try clear F8 N8)
  clear F9 N9 hk10 hn10 ht10
  (try dsimp only)
  k_steps
  rename Fr _ _ _ _ => F11
  rename News _ _ _ _ => N11
  refine ne_head (hT10 _ (N11 _ (.tail _ (.head _))).1) ⟨_, (N11 _ (.head _)).1, rfl, _, rfl⟩ (by exact Nat.le_of_ble_eq_true rfl) ?_
  replace N11 : News G L _ ((63, tabObj #[]) :: (_, W.listOf items _) :: (ra, W.listOf items nn) :: rest) := fun p hp => N11 p (by
    rcases List.mem_cons.mp hp with rfl | hp
    · exact .tail _ (.tail _ (.tail _ (.tail _ (.head _))))
    · rcases List.mem_cons.mp hp with rfl | hp
      · exact .tail _ (.tail _ (.head _))
      · rcases List.mem_cons.mp hp with rfl | hp
        · exact .tail _ (.tail _ (.tail _ (.head _)))
        · exact .tail _ (.tail _ (.tail _ (.tail _ (.tail _ hp)))))
  refine wpAny_truthy_bool ?_
  rw [if_neg (by decide)]
  refine wpB_execs_nil ?_
  (try clear F10 N10)
  clear hT10
  dsimp only
  refine wpB_execs_cons (wpB_If (wpB_isTrue_or (wpB_isTrue_Compare1 (joinB rfl rfl rfl rfl ?_))))
  k_steps
  refine ⟨_, rfl, ?_⟩
  refine wpB_Call_ofName (wpB_any ?_)
  k_steps
  rename Fr _ _ _ _ => F12
  rename News _ _ _ _ => N12
  refine' callWith_K X ?hoe (wpB_any ?_)
  case hoe => k_is
  k_steps
  rename Fr _ _ _ _ => F13
  rename News _ _ _ _ => N13
  refine ⟨F13.keep, ?_⟩
  (try dsimp only)
  refine apply_call (G0 := G) (b := b) (D := D) F13.keep hG63 X T (N13 _ (.head _)).1 (.inl rfl) (by exact hh) (by show callerA.depth + 1 + 2 < _; omega) (.inl ⟨_, rfl⟩) (.inl ⟨_, rfl⟩) hDe hopk rfl hol.symm (by omega) hzb (by omega) fun h14 tk14 l14 its14 xs14 ps hk14 h63 hTab hl14 hB14 hc14 hl63 => ?_
  have hcx : catB xs14 = t := Array.toList_inj.mp (hc14.trans hout)
  obtain ⟨F14, N14⟩ := upd63 F13 N13 hG63 hk14 h63 (fun p hp => by
    rcases List.mem_cons.mp hp with rfl | hp
    · exact Nat.ne_of_gt hga.2.1
    · rcases List.mem_cons.mp hp with rfl | hp
      · exact hra63
      · exact hne2 p hp)
  obtain ⟨ext, NE14, hex, hext⟩ := keep_tab F14 hTab
  refine ⟨l14, its14, xs14, rfl, hl14, hB14, by rw [hcx]; omega, fun t'' kq => ?_⟩
  rw [hcx]
  clear hB14 hc14 hl14 hk14 h63 hTab
  (try clear F12 N12)
  clear F13 N13
  have N15 : News G L h14 ((63, tabObj ps) :: (_, W.listOf items _) :: (ra, W.listOf items nn) :: (rest ++ ext)) := fun p hp => by
    rcases List.mem_cons.mp hp with rfl | hp
    · exact N14 _ (.head _)
    · rcases List.mem_cons.mp hp with rfl | hp
      · exact N14 _ (.tail _ (.head _))
      · rcases List.mem_cons.mp hp with rfl | hp
        · exact N14 _ (.tail _ (.tail _ (.head _)))
        · rcases List.mem_append.mp hp with hp | hp
          · exact N14 _ (.tail _ (.tail _ (.tail _ hp)))
          · exact NE14 _ hp
  clear N14 NE14
  (try dsimp only)
  k_steps
  refine wpB_isTrue_or (wpB_any ?_)
  k_steps
  rename Fr _ _ _ _ => F16
  rename News _ _ _ _ => N16
  refine ne_same (N16.isList (.tail _ (.tail _ (.head _)))) (N16.isList (.tail _ (.head _))) (by exact Nat.le_of_ble_eq_true rfl) ?_
  refine wpAny_truthy_bool ?_
  rw [if_neg (by decide)]
  refine wpB_any (isTrue_or_nil ?_)
  rw [if_neg (by decide)]
  refine wpB_execs_nil ?_
  dsimp only
  refine' k _ _ _ D _ ps ((_, W.listOf items _) :: (ra, W.listOf items nn) :: (rest ++ ext)) F16 ?Ha N16 (fun p hp => ?_) (fun h'' m'' F'' N'' => ⟨hext h'' m'' F'' fun p hp => N'' p (.tail _ (.tail _ (.tail _ (List.mem_append_right _ hp)))), hri.at N'' (.tail _ (.tail _ (.head _))) fun p hp => .tail _ (.tail _ (.tail _ (List.mem_append_left _ hp)))⟩) (by rw [hops]; exact hDe) hDd hzD
  case Ha => kst_all
  rcases List.mem_cons.mp hp with rfl | hp
  · exact Nat.ne_of_gt hga.2.1
  · rcases List.mem_cons.mp hp with rfl | hp
    · exact hra63
    · rcases List.mem_append.mp hp with hp | hp
      · exact hne2 p hp
      · exact hex p hp
end
end
section
theorem anew_R3 : True := by (w_top off); exact True.intro
open PySem PySem.W PySem.Calls PyProof.Rows
local macro_rules | `(tactic| walk_at "compareOp NotEq bytes bytes") => `(tactic| (k_here; with_reducible refine ne_bytes_same ?_))
theorem turn_three {G h : Heap} {L pa pb pc : Addr} {oa ob oc o : Obj} {rest : List (Addr × Obj)} (N : News G L h ((pa, oa) :: (pb, ob) :: (pc, oc) :: (63, o) :: rest)) (g1 : 63 < pc) (g2 : 63 < pb) (g3 : 63 < pa) (hne : ∀ p ∈ rest, p.1 ≠ 63) :
    News G L h ((63, o) :: (pc, oc) :: (pb, ob) :: (pa, oa) :: rest) ∧ ∀ p ∈ (pc, oc) :: (pb, ob) :: (pa, oa) :: rest, p.1 ≠ 63 := by
  constructor
  · intro p hp
    rcases List.mem_cons.mp hp with rfl | hp
    · exact N _ (.tail _ (.tail _ (.tail _ (.head _))))
    rcases List.mem_cons.mp hp with rfl | hp
    · exact N _ (.tail _ (.tail _ (.head _)))
    rcases List.mem_cons.mp hp with rfl | hp
    · exact N _ (.tail _ (.head _))
    rcases List.mem_cons.mp hp with rfl | hp
    · exact N _ (.head _)
    exact N _ (.tail _ (.tail _ (.tail _ (.tail _ hp))))
  · intro p hp
    rcases List.mem_cons.mp hp with rfl | hp
    · exact Nat.ne_of_gt g1
    rcases List.mem_cons.mp hp with rfl | hp
    · exact Nat.ne_of_gt g2
    rcases List.mem_cons.mp hp with rfl | hp
    · exact Nat.ne_of_gt g3
    exact hne p hp
theorem hide_list {h : Heap} {l : Addr} {items : Array Value} (hl : h.IsList l items) (h63 : l ≠ 63) : (hideAll h [63]).IsList l items := by
  obtain ⟨o, ho, hc, n, hd⟩ := hl
  exact ⟨o, hideAll_get _ ho fun q => h63 (List.mem_singleton.mp q), hc, n, hd⟩
theorem eq_twoL {prog : Program} {w : World} {env : Env} {E : Value → Shared → Prop} {s : Shared} {G : Heap} {L a b : Addr} {i j : Nat} {x : Array UInt8} {t1 t2 t3 t4 : Tok} {n c : Nat} {news : List (Addr × Obj)} {Q : Value → Shared → Prop}
    (N : News G L s.heap ((b, W.listOf #[.bytes (x.extract 0 ((i : Nat) : Int).toNat) t3, .bytes (x.extract ((j : Nat) : Int).toNat x.size) t4] n) :: news)) (ha : (a, W.listOf #[.bytes (x.extract 0 i) t1, .bytes (x.extract j x.size) t2] c) ∈ news) (h : Q (.bool true) s) :
    wpAny (model prog w) (callerA.deeper env) (compareOp .Eq (.ref a) (.ref b)) Q E s :=
  eq_two (N.isList (.tail _ ha)) (by have := N.isList (.head _); simp only [Int.toNat_natCast] at this; exact this) (by exact Nat.le_of_ble_eq_true rfl) h
local macro_rules | `(tactic| walk_at "compareOp Eq ref ref") => `(tactic| (k_here; (with_reducible show wpAny _ _ (compareOp CmpOp.Eq (Value.ref _) (Value.ref _)) _ _ _); (with_reducible rename News _ _ _ _ => N'); (refine' eq_twoL N' ?e1 ?_; (case e1 => (repeat' (first | (with_reducible exact List.mem_cons_self ..) | (with_reducible refine List.mem_cons_of_mem _ ?_)))))))
section
variable {w : World} {s : Shared} {p : Program} {loose : List Str} {mean : ExcName → Option Value} {mg mb : Str → Option Value}
set_option maxHeartbeats 8000000 in
theorem law_half2 {oc : Value} {od : Option Addr} {osl : Array (Option Value)} {name qual : Str} {params : Arguments} {body : List Stmt} {scope : Scope} {cl : List (Str × Addr)} {dV kV doc pm cdv ct : Value} {an : Option Addr}
    (hK : (hdB.heap_39 w.params).lookup 102 = some ⟨oc, od, .func (fnX name qual params body scope cl dV kV doc pm an cdv ct), osl⟩)
    {G : Heap} {L ra sl : Addr} {mx : Int} {lg : Bool} {b t D : Array UInt8} {rows : List Row} {ps : Array Value} {rest : List (Addr × Obj)} {m : Str → Option Value} {td tt tb tm : Tok} {Q : Flow → Shared → Prop}
    (X : (hdB.heap_39 w.params).In G) (T : Top p loose mean mg mb G) (hG63 : G.get? 63 = none)
    (F : Fr G L s.heap (kstB m [(Str.ofString "delta", .bytes D td), (Str.ofString "target", .bytes t tt), (Str.ofString "rows", .ref ra), (Str.ofString "base", .bytes b tb), (Str.ofString "large", .bool lg), (Str.ofString "mix", .int mx tm), (Str.ofString "script", .ref sl)]))
    (N : News G L s.heap ((63, tabObj ps) :: rest)) (hne : ∀ p ∈ rest, p.1 ≠ 63)
    (hTR : ∀ h'' m'', Fr G L h'' m'' → News G L h'' ((63, tabObj ps) :: rest) → TabSt (hideAll h'' [63]) ps ∧ RowsAt h'' ra rows)
    (hch : Chain b t 0 rows) (hrl : rows.length ≤ 9) (hzb : b.size ≤ 66000) (hzt : t.size ≤ 132000) (hzD : D.size ≤ 16000000) (hDd : D = catB (deltaCh b t rows))
    (hDe : D.toList = varint b.size ++ (varint t.size ++ (rows.flatMap (rowOps t)).flatMap Op.enc))
    (k : ∀ (h' : Heap) (tk' : Nat) (ps' : Array Value), (∀ b o, G.get? b = some o → h'.get? b = some o) → h'.get? 63 = some (tabObj ps') → Q (.ret (.bool true)) { s with heap := h', gens := s.gens.push .finished, toks := tk' }) :
    wpB true (model PySem.Challenge.rw_iy0003_01.row.prog w) (callerA.deeper (envX qual scope L 102 cdv cl)) (execs (body.drop 11) (envX qual scope L 102 cdv cl)) Q NE s := by
  (revert X; k_fill; intro X)
  have e : _ = some (⟨_, _, .func (fnX _ _ _ _ _ _ _ _ _ _ _ _ _), _⟩ : Obj) := hK.symm.trans (by k_is)
  injection e with e
  injection e with e1 e2 e3 e4
  injection e3 with e3
  injection e3 with q1 q2 q3 q4 q5 q6 q7 q8 q9 q10 q11 q12 q13 q14 q15
  injection q4 with q4
  subst q2 q4 q5 q7 q13
  clear e1 e2 e4 q1 q3 q6 q8 q9 q10 q11 q12 q14 q15 hK
  clear oc od osl name params dV kV doc pm ct an
  dsimp only [List.drop] at k ⊢
  have hh : callerA.handled = none := rfl
  have hroom : callerA.depth + 8 < recursionLimit := by decide +kernel
  have hok := chain_ok hch
  obtain ⟨hp, gs, dr, tk0, os⟩ := s
  dsimp only [kstB] at F N k ⊢
  refine wpB_cutK (P := fun s' => ∃ (h' : Heap) (tk' : Nat) (m' : Str → Option Value) (c : Nat) (tc : Tok), s' = ⟨h', gs, dr, tk', os⟩ ∧ Fr G L h' m' ∧ Has m' [(Str.ofString "k", .int (c : Nat) tc), (Str.ofString "delta", .bytes D td), (Str.ofString "target", .bytes t tt), (Str.ofString "rows", .ref ra), (Str.ofString "base", .bytes b tb), (Str.ofString "large", .bool lg), (Str.ofString "mix", .int mx tm), (Str.ofString "script", .ref sl)] ∧ News G L h' ((63, tabObj ps) :: rest) ∧ c ≤ b.size) ?_ ?_
  · intro Kp hKp
    refine wpB_any ?_
    k_steps
    (try any_goals exact True.intro)
    rename Fr _ _ _ _ => F2
    rename News _ _ _ _ => N2
    have c0 : 0 ≤ (mx.fmod 31).fmod ((b.size : Int) + 1) := fmod_lo _ (by omega)
    have c1 : (mx.fmod 31).fmod ((b.size : Int) + 1) < (b.size : Int) + 1 := fmod_hi _ (by omega)
    generalize (mx.fmod 31).fmod ((b.size : Int) + 1) = cv at c0 c1 F2
    obtain ⟨c, rfl⟩ : ∃ c : Nat, cv = c := ⟨cv.toNat, by omega⟩
    refine hKp _ ?_
    refine' ⟨_, _, _, c, _, rfl, F2, ?HaA, N2, by omega⟩
    case HaA => kst_all
  rintro s' ⟨h2, tk2, m2, kv, tkv, rfl, F2, hm2, N2, hkv⟩
  replace F2 := frB F2 hm2
  clear F N hm2
  dsimp only [kstB] at F2
  refine wpB_cutK (P := fun s' => ∃ (h' : Heap) (tk' : Nat) (m' : Str → Option Value) (c : Nat) (tc : Tok), s' = ⟨h', gs, dr, tk', os⟩ ∧ Fr G L h' m' ∧ Has m' [(Str.ofString "j", .int (c : Nat) tc), (Str.ofString "k", .int (kv : Nat) tkv), (Str.ofString "delta", .bytes D td), (Str.ofString "target", .bytes t tt), (Str.ofString "rows", .ref ra), (Str.ofString "base", .bytes b tb), (Str.ofString "large", .bool lg), (Str.ofString "mix", .int mx tm), (Str.ofString "script", .ref sl)] ∧ News G L h' ((63, tabObj ps) :: rest) ∧ c ≤ t.size) ?_ ?_
  · intro Kp hKp
    refine wpB_any ?_
    k_steps
    (try any_goals exact True.intro)
    rename Fr _ _ _ _ => F2
    rename News _ _ _ _ => N2
    have c0 : 0 ≤ (mx.fmod 29).fmod ((t.size : Int) + 1) := fmod_lo _ (by omega)
    have c1 : (mx.fmod 29).fmod ((t.size : Int) + 1) < (t.size : Int) + 1 := fmod_hi _ (by omega)
    generalize (mx.fmod 29).fmod ((t.size : Int) + 1) = cv at c0 c1 F2
    obtain ⟨c, rfl⟩ : ∃ c : Nat, cv = c := ⟨cv.toNat, by omega⟩
    refine hKp _ ?_
    refine' ⟨_, _, _, c, _, rfl, F2, ?HaB, N2, by omega⟩
    case HaB => kst_all
  rintro s' ⟨h3, tk3, m3, jv, tkj, rfl, F3, hm3, N3, hjv⟩
  replace F3 := frB F3 hm3
  clear F2 N2 hm3
  dsimp only [kstB] at F3
  refine wpB_cutK (P := fun s' => ∃ (h' : Heap) (tk' : Nat) (m' : Str → Option Value) (c : Nat) (tc : Tok), s' = ⟨h', gs, dr, tk', os⟩ ∧ Fr G L h' m' ∧ Has m' [(Str.ofString "i", .int (c : Nat) tc), (Str.ofString "j", .int (jv : Nat) tkj), (Str.ofString "k", .int (kv : Nat) tkv), (Str.ofString "delta", .bytes D td), (Str.ofString "target", .bytes t tt), (Str.ofString "rows", .ref ra), (Str.ofString "base", .bytes b tb), (Str.ofString "large", .bool lg), (Str.ofString "mix", .int mx tm), (Str.ofString "script", .ref sl)] ∧ News G L h' ((63, tabObj ps) :: rest) ∧ c ≤ D.size) ?_ ?_
  · intro Kp hKp
    refine wpB_any ?_
    k_steps
    (try any_goals exact True.intro)
    rename Fr _ _ _ _ => F2
    rename News _ _ _ _ => N2
    have c0 : 0 ≤ (mx.fmod 23).fmod ((D.size : Int) + 1) := fmod_lo _ (by omega)
    have c1 : (mx.fmod 23).fmod ((D.size : Int) + 1) < (D.size : Int) + 1 := fmod_hi _ (by omega)
    generalize (mx.fmod 23).fmod ((D.size : Int) + 1) = cv at c0 c1 F2
    obtain ⟨c, rfl⟩ : ∃ c : Nat, cv = c := ⟨cv.toNat, by omega⟩
    refine hKp _ ?_
    refine' ⟨_, _, _, c, _, rfl, F2, ?HaC, N2, by omega⟩
    case HaC => kst_all
  rintro s' ⟨h4, tk4, m4, iv, tki, rfl, F4, hm4, N4, hiv⟩
  replace F4 := frB F4 hm4
  clear F3 N3 hm4
  dsimp only [kstB] at F4
  refine wpB_execs_any ?_
  k_steps
  (try any_goals exact True.intro)
  (try dsimp only)
  refine wpB_execs_any ?_
  k_steps
  (try any_goals exact True.intro)
  (try dsimp only)
  refine wpB_execs_any ?_
  k_steps
  (try any_goals exact True.intro)
  (try dsimp only)
  rename Fr _ _ _ _ => F5
  rename News _ _ _ _ => N5
  simp only [Int.toNat_natCast] at N5
  rename (_ < _ ∧ _ < _ ∧ 63 < _ ∧ AllLt _ _) => g3
  rename (_ < _ ∧ 63 < _ ∧ AllLt _ _) => g2
  rename (63 < _ ∧ AllLt _ _) => g1
  obtain ⟨N6, hne6⟩ := turn_three N5 g1.1 g2.2.1 g3.2.2.1 hne
  clear N5
  refine wpB_execs_cons (wpB_If (wpB_isTrue_Compare1 (joinB rfl rfl rfl rfl ?_)))
  k_steps
  refine ⟨_, rfl, ?_⟩
  refine wpB_Call_ofName (wpB_any ?_)
  k_steps
  refine callWith_ty ?_
  rw [show backTo _ (starEach [_] _) = [(false, eval _ _)] from rfl]
  refine wpB_spliced_cons ?_
  refine wpB_Call_ofName (wpB_any ?_)
  k_steps
  rename Fr _ _ _ _ => F7
  rename News _ _ _ _ => N7
  refine' callWith_K X ?hoc (wpB_any ?_)
  case hoc => k_is
  k_steps
  rename Fr _ _ _ _ => F8
  rename News _ _ _ _ => N8
  refine ⟨F8.keep, ?_⟩
  (try dsimp only)
  have N8r : News G L _ ((63, tabObj ps) :: rest) := fun p hp => N8 p (by
    rcases List.mem_cons.mp hp with rfl | hp
    · exact .head _
    · exact .tail _ (.tail _ (.tail _ (.tail _ hp))))
  have hR8 := (hTR _ _ F8 N8r).2
  clear N8r
  refine wpB_mono (create_list (b := b) (t := t) (X.keeps F8.keep) (T.keeps F8.keep) (by exact hh) (by show callerA.depth + 1 + 1 < _; omega) (.inr ⟨_, _, [b.extract 0 kv, b.extract kv b.size], rfl, N8.isList (.tail _ (.head _)), rfl, (cat_two b hkv).symm⟩) (.inr ⟨_, _, [t.extract 0 jv, t.extract jv t.size], rfl, N8.isList (.tail _ (.tail _ (.head _))), rfl, (cat_two t hjv).symm⟩) hR8 hok hzb hzt hrl fun h9 tk9 l9 its9 hk9 hl9 hB9 => ?_) (fun v s₁ h₁ => wpB_spliced_nil h₁) (fun _ _ x => x)
  have F9 := Fr.after F8 hk9
  have N9 := News.keepsAll N8 hk9
  (try clear F5 N6)
  (try clear F7 N7)
  clear F8 N8 hk9 hR8
  refine ⟨l9, its9, _, rfl, hl9, hB9, by rw [← hDd]; omega, fun t' kq => ?_⟩
  rw [← hDd]
  (try dsimp only)
  k_steps
  refine wpB_execs_nil ?_
  dsimp only
  obtain ⟨hout, hopk⟩ := chain_out hch
  generalize rows.flatMap (rowOps t) = ops at hDe hout hopk
  have hol : (ops.flatMap (Op.out b)).length = t.size := by rw [hout, Array.length_toList]
  refine wpB_execs_cons (wpB_If (wpB_isTrue_Compare1 (joinB rfl rfl rfl rfl ?_)))
  k_steps
  refine ⟨_, rfl, ?_⟩
  refine wpB_Call_ofName (wpB_any ?_)
  k_steps
  rename Fr _ _ _ _ => F12
  rename News _ _ _ _ => N12
  refine' callWith_K X ?hoe (wpB_any ?_)
  case hoe => k_is
  k_steps
  rename Fr _ _ _ _ => F13
  rename News _ _ _ _ => N13
  refine ⟨F13.keep, ?_⟩
  (try dsimp only)
  have hT13 := (hTR _ _ F13 fun p hp => N13 p (by
    rcases List.mem_cons.mp hp with rfl | hp
    · exact .head _
    · exact .tail _ (.tail _ (.tail _ (.tail _ hp))))).1
  refine apply_call (G0 := G) (b := b) (D := D) F13.keep hG63 X T (N13 _ (.head _)).1 hT13 (by exact hh) (by show callerA.depth + 1 + 2 < _; omega)
    (.inr ⟨_, _, [b.extract 0 kv, b.extract kv b.size], rfl, hide_list (N13.isList (.tail _ (.head _))) (hne6 _ (.head _)), rfl, (cat_two b hkv).symm⟩)
    (.inr ⟨_, _, [D.extract 0 iv, D.extract iv D.size], rfl, hide_list (N13.isList (.tail _ (.tail _ (.tail _ (.head _))))) (hne6 _ (.tail _ (.tail _ (.head _)))), rfl, (cat_two D hiv).symm⟩)
    hDe hopk rfl hol.symm (by omega) hzb (by omega) fun h14 tk14 l14 its14 xs14 ps' hk14 h63 hTab hl14 hB14 hc14 hl63 => ?_
  have hcx : catB xs14 = t := Array.toList_inj.mp (hc14.trans hout)
  obtain ⟨F14, N14⟩ := upd63 F13 N13 hG63 hk14 h63 hne6
  refine ⟨l14, its14, xs14, rfl, hl14, hB14, by rw [hcx]; omega, fun t'' kq => ?_⟩
  rw [hcx]
  clear hB14 hc14 hl14 hk14 h63 hTab hT13
  (try clear F9 N9)
  (try clear F12 N12)
  clear F13 N13
  (try dsimp only)
  k_steps
  refine wpB_execs_nil ?_
  dsimp only
  clear hne6 hTR hDe hDd hch
  refine wpB_execs_cons (wpB_Return (wpB_any ?_))
  k_steps
  rename Fr _ _ _ _ => F20
  rename News _ _ _ _ => N20
  exact k _ _ _ F20.keep (N20 _ (.tail _ (.tail _ (.tail _ (.head _))))).1
end
end
section
theorem anew_W9 : True := by (w_top off); exact True.intro
open PySem PySem.W PySem.Calls PyProof.Rows
section
variable {w : World} {s : Shared} {p : Program} {loose : List Str} {mean : ExcName → Option Value} {mg mb : Str → Option Value}
set_option maxHeartbeats 8000000 in
theorem law_walk {G0 : Heap} {ns : List Int} {vs : List Value} {sl : Addr} {Q : Value → Shared → Prop} {E : Value → Shared → Prop} (hG : ∀ b o, G0.get? b = some o → s.heap.get? b = some o) (hGs : G0.objs.size ≤ s.heap.objs.size) (hG63 : G0.get? 63 = none)
    (X : (hdB.heap_39 w.params).In G0) (T : Top p loose mean mg mb G0) (hP : s.heap.get? 63 = some (tabObj #[])) 
    (hl : G0.IsList sl vs.toArray) (hi : IntsAre vs ns) (hn : ns.length ≤ 63) (hgens : s.gens = #[])
    (h : ∀ h' tk gs ps, (∀ b o, G0.get? b = some o → h'.get? b = some o) → h'.get? 63 = some (tabObj ps) → AllBare gs → Q (.bool true) { s with heap := h', gens := gs, toks := tk }) :
    wpB true (model PySem.Challenge.rw_iy0003_01.row.prog w) callerA (call (.ref 102) [.ref sl]) Q E s := by
  have hh : callerA.handled = none := rfl
  have hroom : callerA.depth + 8 < recursionLimit := by decide +kernel
  (revert X; k_fill; intro X)
  refine wpB_call ?_
  refine' codeB_Kcells (G := G0) (news := [(63, tabObj #[])]) [(Str.ofString "script", .ref sl)] hG hGs (fun p hp => by rw [List.mem_singleton.mp hp]; exact ⟨hP, hG63⟩) X (T.nolimit.keeps hG) (by omega) ?ho ?hcd ?hb ?hl ?hnd ?_ ?c3 ?c4 ?c5
  case ho => k_is
  case hcd => k_is
  case hb => exact BindsTo.of_eq rfl
  case hl => exact fun n x hx => .inl (locs rfl x hx)
  case hnd => decide
  case c3 => exact rfl
  case c4 => exact rfl
  case c5 => exact rfl
  intro L h₁ tk cells hL F N Y
  have hce : cells = [] := by cases Y; rfl
  subst hce
  simp only [List.nil_append] at N
  replace F : Fr G0 L h₁ (kstB (fun _ => none) [(Str.ofString "script", .ref sl)]) := F
  rw [show cellsFrom (L + 1) _ [] = [] from rfl]
  obtain ⟨hp, gs, dr, tk0, os⟩ := s
  dsimp only at hG hGs hP hL hgens h ⊢
  clear Y
  refine wpB_execs_any ?_
  k_steps
  (try any_goals exact True.intro)
  (try dsimp only)
  refine wpB_execs_any ?_
  k_steps
  (try any_goals exact True.intro)
  (try dsimp only)
  refine wpB_execs_any ?_
  k_steps
  (try any_goals exact True.intro)
  (try dsimp only)
  rename Fr _ _ _ _ => F1
  rename News _ _ _ _ => N1
  have hb16 : (byteArr (List.map (fun k' => k'.fmod 256) (List.take 16 ns))).size ≤ 16 := by rw [byteArr_size, List.length_map, List.length_take]; omega
  generalize hb0 : byteArr (List.map (fun k' => k'.fmod 256) (List.take 16 ns)) ++ #[116, 114, 101, 101, 32, 98, 108, 111, 98, 32, 99, 111, 109, 109, 105, 116, 32, 116, 97, 103] = b0 at F1
  have hs0 : 20 ≤ b0.size ∧ b0.size ≤ 36 := by
    rw [← hb0, Array.size_append]
    have : (#[116, 114, 101, 101, 32, 98, 108, 111, 98, 32, 99, 111, 109, 109, 105, 116, 32, 116, 97, 103] : Array UInt8).size = 20 := rfl
    omega
  generalize (List.take 63 ns).sum = mx at F1
  clear hb0 hb16
  refine wpB_cut (fun s' => Then <| ∃ (h' : Heap) (tk' : Nat) (m : Str → Option Value) (b : Array UInt8) (tb tm : Tok), s' = ⟨h', gs, dr, tk', os⟩ ∧ Fr G0 L h' m ∧ Has m [(Str.ofString "base", .bytes b tb), (Str.ofString "large", .bool (mx.fmod 16 == 7)), (Str.ofString "mix", .int mx tm), (Str.ofString "script", .ref sl)] ∧ News G0 L h' [(63, tabObj #[])] ∧ b.size ≤ 66000 ∧ (mx.fmod 16 ≠ 7 → b.size ≤ 108)) ?_ ?_
  · refine wpB_any ?_
    k_steps
    · have hm1 : 66000 / b0.size * b0.size ≤ 66000 := Nat.div_mul_le_self _ _
      have hm2 : 66000 / b0.size ≤ 66000 := Nat.div_le_self _ _
      rw [show Int.fdiv 66000 (b0.size : Int) = ((66000 / b0.size : Nat) : Int) from fdiv_nat 66000 b0.size]
      generalize 66000 / b0.size = qd at hm1 hm2 ⊢
      refine bytes_mul (n := (qd : Int)) (by omega) (by omega) (by omega) (by rw [Int.toNat_natCast, Nat.mul_comm]; omega) fun tq kq => ?_
      k_steps
      (try any_goals exact True.intro)
      rename Fr _ _ _ _ => F2
      rename News _ _ _ _ => N2
      refine' ⟨_, _, _, _, ?TaB, ?TaM, rfl, F2, ?HaM, fun p hp => N2 p (.tail _ (.tail _ (.tail _ hp))), ?HaS⟩
      case HaM => kst_all
      case HaS => exact ⟨by rw [repB_size, Int.toNat_natCast]; exact hm1, fun q => absurd (by assumption) q⟩
    · have hx0 : 0 ≤ (mx.fdiv 16).fmod 4 := fmod_lo _ (by decide)
      have hx1 : (mx.fdiv 16).fmod 4 < 4 := fmod_hi _ (by decide)
      generalize (mx.fdiv 16).fmod 4 = xq at hx0 hx1
      have hm1 : b0.size * xq.toNat ≤ 36 * 3 := Nat.mul_le_mul hs0.2 (by omega)
      refine bytes_mul (n := xq) (by omega) (by omega) (by omega) (by omega) fun tq kq => ?_
      k_steps
      (try any_goals exact True.intro)
      rename Fr _ _ _ _ => F2
      rename News _ _ _ _ => N2
      refine' ⟨_, _, _, _, ?TbB, ?TbM, rfl, F2, ?HbM, fun p hp => N2 p (.tail _ (.tail _ (.tail _ hp))), ?HbS⟩
      case HbM => kst_all
      case HbS => exact ⟨by rw [repB_size, Nat.mul_comm]; omega, fun _ => by rw [repB_size, Nat.mul_comm]; exact hm1⟩
  rintro s' ⟨h2, tk2, m2, b, tb, tm, rfl, F2, hm2, N2, hzb, hzs⟩
  replace F2 := frB F2 hm2
  (try clear F1 N1)
  clear hm2 hs0
  refine wpB_execs_any ?_
  k_steps
  (try any_goals exact True.intro)
  (try dsimp only)
  refine wpB_execs_any ?_
  k_steps
  (try any_goals exact True.intro)
  rename Fr _ _ _ _ => F3
  rename News _ _ _ _ => N3
  (try dsimp only)
  rename Addr => ra
  refine wpB_execs_cons ?_
  refine' for_ints (h₀ := G0) (L := L) (σ := Array UInt8 × List Row × Array Value × Nat × List (Addr × Obj) × Tok) (fun ms => ms.length ≤ 9 ∧ ms.length * max b.size 300 ≤ 132000) (fun c => [(Str.ofString "target", .bytes c.1 c.2.2.2.2.2), (Str.ofString "rows", .ref ra), (Str.ofString "base", .bytes b tb), (Str.ofString "large", .bool (mx.fmod 16 == 7)), (Str.ofString "mix", .int mx tm), (Str.ofString "script", .ref sl)])
    (fun c => (ra, W.listOf c.2.2.1 c.2.2.2.1) :: (63, tabObj #[]) :: c.2.2.2.2.1)
    (fun ms i c => Chain b c.1 0 c.2.1 ∧ RowsIn c.2.2.2.2.1 c.2.2.1 c.2.1 ∧ c.2.1.length = i ∧ (∀ p ∈ (63, tabObj #[]) :: c.2.2.2.2.1, p.1 ≠ ra) ∧ c.1.size ≤ i * max b.size 300 ∧ ∀ p ∈ c.2.2.2.2.1, p.1 ≠ 63)
    (#[], [], #[], 0, [], ?q1) ?hp rfl rfl rfl rfl ?head ?turn ?done
  case hp =>
    intro ms _
    exact ⟨rfl, RowsIn.nil, rfl, fun p hp => by rw [List.mem_singleton.mp hp]; exact Nat.ne_of_lt (by assumption), Nat.zero_le _, fun _ hp => nomatch hp⟩
  case head =>
    k_steps
    · rename Fr _ _ _ _ => F4
      rename News _ _ _ _ => N4
      rename (ra < _ ∧ 63 < _) => hlo
      refine' ⟨_, _, _, List.take 2 ns, _, _, _, rfl, rfl, F4, ?hma, N4, fun p hp => ?_, by assumption, ⟨by rw [List.length_take]; omega, by rw [List.length_take]; exact Nat.le_trans (Nat.mul_le_mul (Nat.min_le_left 2 _) (Nat.max_le.mpr ⟨hzb, by decide⟩ : max b.size 300 ≤ 66000)) (by decide)⟩⟩
      case hma => kst_all
      rcases List.mem_cons.mp hp with rfl | hp
      · exact Nat.ne_of_lt hlo.1
      · rw [List.mem_singleton.mp hp]; exact Nat.ne_of_lt hlo.2
    · rename Fr _ _ _ _ => F4
      rename News _ _ _ _ => N4
      rename (ra < _ ∧ 63 < _) => hlo
      refine' ⟨_, _, _, List.take (min 10 ns.length - 1) (List.drop 1 ns), _, _, _, rfl, rfl, F4, ?hmb, N4, fun p hp => ?_, by assumption, ⟨by rw [List.length_take]; omega, by rw [List.length_take]; exact Nat.le_trans (Nat.mul_le_mul (show _ ≤ 9 from by omega) (Nat.max_le.mpr ⟨Nat.le_trans (hzs (by assumption)) (by decide), Nat.le_refl _⟩ : max b.size 300 ≤ 300)) (by decide)⟩⟩
      case hmb => kst_all
      rcases List.mem_cons.mp hp with rfl | hp
      · exact Nat.ne_of_lt hlo.1
      · rw [List.mem_singleton.mp hp]; exact Nat.ne_of_lt hlo.2
  case turn =>
    rintro D I oD oI ms i n ⟨t, rows, items, nn, tl, tt⟩ h4 tn tk4 m4 hn4 ⟨hg1, hg2⟩ ⟨hch, hri, hrl, hne, hts, hn63⟩ hnI hnD F4 N4
    dsimp only [kstB] at F4 N4 hch hri hrl hne hts hnI hnD ⊢
    have hi9 : i < ms.length := (List.getElem?_eq_some_iff.mp hn4).1
    have ht1 : t.size ≤ 132000 := Nat.le_trans hts (Nat.le_trans (Nat.mul_le_mul_right _ (Nat.le_of_lt hi9)) hg2)
    have hits : items.size < 100 := by have := hri.1; omega
    have hK : _ = some (⟨_, _, .func (fnX _ _ _ _ _ _ _ _ _ _ _ _ _), _⟩ : Obj) := Eq.trans (Eq.refl ((hdB.heap_39 w.params).lookup 102)) (by k_is)
    refine rows_turn hK (m := m4) (rest := ((63, tabObj #[]) :: tl) ++ [(D, oD), (I, oI)]) X T F4 N4 (fun p hp => ?_) hits hzb ht1 ?_
    · rcases List.mem_append.mp hp with hp | hp
      · exact hne p hp
      · rcases List.mem_cons.mp hp with rfl | hp
        · exact Ne.symm (hnD _ (.head _))
        · rw [List.mem_singleton.mp hp]; exact Ne.symm (hnI _ (.head _))
    · intro h' tk' m' news' r pc Ta u0 u1 u2 u3 u4 tt' nn' F5 hm5 N5 hm1 hm2 hm3 hm4 hm6 hj1 hj2 hT hpz
      refine TurnEnd.intro (σ := Array UInt8 × List Row × Array Value × Nat × List (Addr × Obj) × Tok) (t ++ pc, rows ++ [r], items.push (.ref Ta), nn', (Ta, rowObj r u0 u1 u2 u3 u4) :: tl, tt') F5 hm5 N5 (fun p hp => ?_) ⟨⟨chain_push hch hj1 hj2 hT, hri.push, by rw [List.length_append, hrl]; rfl, fun p hp => ?_, ?_, fun p hp => ?_⟩, fun p hp => ?_, fun p hp => ?_⟩
      · dsimp only at hp
        rcases List.mem_append.mp hp with hp | hp
        · rcases List.mem_cons.mp hp with rfl | hp
          · exact hm1
          · rcases List.mem_cons.mp hp with rfl | hp
            · exact hm3 _ (List.mem_append_left _ (.head _))
            · rcases List.mem_cons.mp hp with rfl | hp
              · exact hm2
              · exact hm3 _ (List.mem_append_left _ (.tail _ hp))
        · exact hm3 _ (List.mem_append_right _ hp)
      · dsimp only at hp
        rcases List.mem_cons.mp hp with rfl | hp
        · exact hne _ (.head _)
        · rcases List.mem_cons.mp hp with rfl | hp
          · exact hm6
          · exact hne _ (.tail _ hp)
      · dsimp only
        rw [Array.size_append, Nat.succ_mul]
        omega
      · dsimp only at hp
        rcases List.mem_cons.mp hp with rfl | hp
        · exact Ne.symm (hm4 (63, tabObj #[]) (List.mem_append_left _ (.head _)))
        · exact hn63 _ hp
      · dsimp only at hp
        rcases List.mem_cons.mp hp with rfl | hp
        · exact (hnI (ra, W.listOf items nn) (.head _) :)
        · rcases List.mem_cons.mp hp with rfl | hp
          · exact hnI _ (.tail _ (.head _))
          · rcases List.mem_cons.mp hp with rfl | hp
            · exact Ne.symm (hm4 _ (List.mem_append_right _ (.tail _ (.head _))))
            · exact hnI _ (.tail _ (.tail _ hp))
      · dsimp only at hp
        rcases List.mem_cons.mp hp with rfl | hp
        · exact (hnD (ra, W.listOf items nn) (.head _) :)
        · rcases List.mem_cons.mp hp with rfl | hp
          · exact hnD _ (.tail _ (.head _))
          · rcases List.mem_cons.mp hp with rfl | hp
            · exact Ne.symm (hm4 _ (List.mem_append_right _ (.head _)))
            · exact hnD _ (.tail _ (.tail _ hp))
  case done =>
    rintro ms ⟨t, rows, items, nn, tl, tt⟩ h4 tk4 m4 ⟨hg1, hg2⟩ ⟨hch, hri, hrl, hne, hts, hn63⟩ F4 N4
    dsimp only at F4 N4 hch hri hrl hne hts ⊢
    have hr9 : rows.length ≤ 9 := by omega
    have hK : _ = some (⟨_, _, .func (fnX _ _ _ _ _ _ _ _ _ _ _ _ _), _⟩ : Obj) := Eq.trans (Eq.refl ((hdB.heap_39 w.params).lookup 102)) (by k_is)
    refine law_half1 hK (m := m4) (rest := tl) X T hG63 F4 N4 hch hri hr9 hne hn63 hzb (Nat.le_trans hts hg2) fun h5 tk5 m5 D td ps rest' F5 hm5 N5 hne5 hTR hDe hDd hzD => ?_
    refine law_half2 hK (m := m5) X T hG63 (frB F5 hm5) N5 hne5 hTR hch hr9 hzb (Nat.le_trans hts hg2) hzD hDd hDe fun h6 tk6 ps' hk hP' => ?_
    dsimp only
    refine h _ _ _ _ hk hP' ?_
    exact ((AllBare.of_eq hgens).push rfl).push rfl
end
end
section
open PySem PySem.W PySem.Calls PyProof.Rows
set_option maxHeartbeats 8000000 in
theorem X9 : PySem.Challenge.rw_iy0003_01.Holds := hdB (by
  k_fill
  intro w s₀ s₁ mg mb G Y args vals as hpre hlay LL low
  have hrd := LL.reads
  have hwl := LL.well
  have hlo := LL.low low
  have hg := LL.gens
  clear LL low
  have X := km_in_of Y
  have hP := km_tabs_of Y 63 (by simp)
  have C : CodeHd s₁.heap 67 63 := codeHd_of_K X (by kernel_rfl)
  have hT : TabsAt [(67, 63)] s₁.heap := fun q hq => by rw [List.mem_singleton.mp hq]; exact ⟨C, hP⟩
  have T1 := G.T
  wrow_args hpre hlay hrd hwl hlo
  refine ⟨.ref 102, mg_of (n := Str.ofString "law") X T1.g (by k_is), ?_, law_end C hP (fun _ _ _ e => e) hP rfl (.of_eq hg)⟩
  have hsl := (by assumption : s₁.heap.IsList _ _)
  refine law_walk (G0 := ghostOf s₁.heap [(67, 63)]) (fun b o e => of_hideAll _ e) (Nat.le_of_eq (hideAll_size _ _)) (hideAll_none _ (.head _)) (ghost_K hT X (by kernel_rfl)) (ghost_top hT T1) hP (ghost_list hT hsl) (by assumption) (by omega) hg fun h' tk gs ps hk h63 hb => ?_
  exact law_end C hP (fun b o hb e => hk b o (hideAll_get _ e fun q => hb (List.mem_singleton.mp q))) h63 rfl hb)
end
end Mine
theorem PySem.Challenge.cw_iy0003_01_holds : PySem.Challenge.rw_iy0003_01.Holds :=
  Mine.X9
