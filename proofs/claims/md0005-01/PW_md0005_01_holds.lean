import PyProof.Rows.All
import Wide.All
import OpenK.AllK
import Wide.FinOn
import PySem.Challenge.RW_md0005_01
set_option Elab.async false

section
open PySem PySem.W PyProof.Rows
namespace Mine

/-- a code that holds no bytearray's memory -/
def Calm : Code → Prop
  | .builtin id _ => Builtin.Bytes.decodersThatHold.contains id = false
  | _ => True
def Clean (Γ : Ctx) : Prop := Calm Γ.code ∧ ∀ x ∈ Γ.below, Calm x.1

theorem Clean.enter {Γ : Ctx} {c : Code} (h : Clean Γ) (hc : Calm c) (hd : Option Value) (p : Pos) : Clean (Γ.enter c hd p) :=
  ⟨hc, fun x hx => by
    rcases List.mem_cons.mp hx with rfl | hx
    · exact h.1
    · exact h.2 x hx⟩
theorem Clean.goto {Γ : Ctx} {c : Code} (h : Clean Γ) (hc : Calm c) : Clean (Γ.goto c) := ⟨hc, h.2⟩

def wpS {α : Type} (M : Model) (A : Around) (t : Sem α) (Q : α → Shared → Prop) (s : Shared) : Prop :=
  ∀ Γ p, Γ.In A → Clean Γ → Sem.wp M Γ t (fun a _ s' => Q a s') (fun _ _ _ => False) p s
def codeS (M : Model) (A : Around) (c : Code) (R : Flow → Shared → Prop) (s : Shared) : Prop :=
  ∀ Γ p, Γ.code = c → Γ.Below A → Clean Γ → wpCode M Γ (fun r s' => ∃ f, r = .ok f ∧ R f s') p s

section
variable {α β : Type} {M : Model} {A : Around} {s : Shared} {prog : Program} {w : World} {env : Env}

theorem wpS_of_any {t : Sem α} {Q : α → Shared → Prop} (h : wpAny M A t Q (fun _ _ => False) s) : wpS M A t Q s := fun Γ p hΓ _ => h Γ p hΓ
theorem wpS_pure {a : α} {Q : α → Shared → Prop} (h : Q a s) : wpS M A (pure a) Q s := fun _ _ _ _ => h
theorem wpS_mono {t : Sem α} {Q Q' : α → Shared → Prop} (h : wpS M A t Q s) (hQ : ∀ a s, Q a s → Q' a s) : wpS M A t Q' s :=
  fun Γ p hΓ hc => Sem.wp_mono M Γ t (fun a _ s => hQ a s) (fun _ _ _ h => h) p s (h Γ p hΓ hc)
theorem wpS_bind {m : Sem α} {f : α → Sem β} {Q : β → Shared → Prop} (h : wpS M A m (fun a s' => wpS M A (f a) Q s') s) : wpS M A (m >>= f) Q s := fun Γ p hΓ hc => by
  rw [Sem.wp_bind']
  exact Sem.wp_mono M Γ m (fun a p' s' h' => h' Γ p' hΓ hc) (fun _ _ _ h' => h') p s (h Γ p hΓ hc)
theorem wpS_bindA {m : Sem α} {f : α → Sem β} {Q : β → Shared → Prop} (h : wpAny M A m (fun a s' => wpS M A (f a) Q s') (fun _ _ => False) s) : wpS M A (m >>= f) Q s := wpS_bind (wpS_of_any h)
theorem wpS_onRaise {m : Sem α} {k : Value → Sem Unit} {Q : α → Shared → Prop} (h : wpS M A m Q s) : wpS M A (m.onRaise k) Q s := fun Γ p hΓ hc => by
  rw [Sem.wp_onRaise]
  exact Sem.wp_mono M Γ m (fun _ _ _ h' => h') (fun _ _ _ h' => h'.elim) p s (h Γ p hΓ hc)
theorem wpS_attempt {m : Sem α} {Q : Except Value α → Shared → Prop} (h : wpS M A m (fun a => Q (.ok a)) s) : wpS M A m.attempt Q s := fun Γ p hΓ hc => by
  rw [Sem.wp_attempt]
  exact Sem.wp_mono M Γ m (fun _ _ _ h' => h') (fun _ _ _ h' => h'.elim) p s (h Γ p hΓ hc)
theorem wpS_holding {vs : List Value} {m : Sem α} {Q : α → Shared → Prop} (h : wpS M A m Q s) : wpS M A (holding vs m) Q s :=
  fun Γ p hΓ hc => by rw [Sem.wp_holding]; exact h Γ p hΓ hc
theorem wpS_keep {vs : List Value} {m : Sem α} {Q : α → Shared → Prop} (h : wpS M A m Q s) : wpS M A (m.keep vs) Q s :=
  fun Γ p hΓ hc => by rw [Sem.wp_keep]; exact h Γ p hΓ hc
theorem wpS_standAt {pos : Pos} {Q : Unit → Shared → Prop} (h : Q () s) : wpS M A (standAt pos) Q s := fun _ _ _ _ => h
theorem wpS_rule {tag : String} {Q : Unit → Shared → Prop} (h : Q () s) : wpS M A (rule tag) Q s := fun _ _ _ _ => h
theorem wpS_in1 {t : Sem α} {Q : α → Shared → Prop} (h : wpS M A.in1 t Q s) : wpS M A t Q s :=
  fun Γ p hΓ => h Γ p ⟨hΓ.1, hΓ.2.1, hΓ.2.2.1, hΓ.2.2.2.1, Nat.le_succ_of_le hΓ.2.2.2.2⟩
theorem wpS_of_eq {t : Sem α} {a : α} {Q : α → Shared → Prop} (e : t = pure a) (h : Q a s) : wpS M A t Q s := e ▸ wpS_pure h

theorem wpS_run {c : Code} {Q : Flow → Shared → Prop} (hc : codeS M A c Q s) (hC : Calm c) : wpS M A (run c none) Q s :=
  fun Γ p hΓ hcl => by
    rw [Sem.wp_run]
    refine wpCode_mono (fun r s' h => ?_) (hc _ p rfl (hΓ.enter c none p (by intro x; cases x)) (hcl.enter hC none p))
    obtain ⟨f, rfl, hf⟩ := h
    exact hf
theorem wpS_runValue {c : Code} {Q : Value → Shared → Prop} (hc : codeS M A c (fun f s' => match f with | .ret v => Q v s' | _ => False) s) (hC : Calm c) : wpS M A (runValue c) Q s :=
  fun Γ p hΓ hcl => by
    rw [Sem.wp_runValue]
    refine wpCode_mono (fun r s' h => ?_) (hc _ p rfl (hΓ.enter c none p (by intro x; cases x)) (hcl.enter hC none p))
    obtain ⟨f, rfl, hf⟩ := h
    cases f <;> first | exact hf | exact hf.elim
theorem wpS_call {f : Value} {pos : List Value} {kw : List (Str × Value)} {Q : Value → Shared → Prop} (hc : codeS M A (.call f ⟨pos, kw⟩) (fun f s' => match f with | .ret v => Q v s' | _ => False) s) :
    wpS M A (call f pos kw) Q s := wpS_runValue hc trivial

theorem codeS_of_tree {c : Code} {R : Flow → Shared → Prop}
    (h : wpS M (A.under c) (M.den c) (fun fin s' => match fin with | .done f => R f s' | .again c' => c'.quiet = true ∧ Calm c' ∧ codeS M A c' R s') s) : codeS M A c R s := fun Γ p hc hΓ hcl => by
  rw [wpCode_iff_wp, hc]
  refine Sem.wp_mono M Γ _ (fun fin p' s' h' => ?_) (fun _ _ _ h' => h'.elim) p s (h Γ p (hc ▸ hΓ.in) hcl)
  cases fin with
  | done f => exact ⟨f, rfl, h'⟩
  | again c' => exact ⟨h'.1, h'.2.2 (Γ.goto c') p' rfl (hΓ.goto c') (hcl.goto h'.2.1)⟩
theorem codeS_loop {c : Code} {R : Flow → Shared → Prop} (hq : c.quiet = true) (hC : Calm c) (I : Nat → Shared → Prop)
    (turn : ∀ n s, I n s → wpS M (A.under c) (M.den c)
      (fun fin s' => match fin with
        | .done f => R f s'
        | .again c' => (c' = c ∧ ∃ m, m < n ∧ I m s') ∨ (c'.quiet = true ∧ Calm c' ∧ codeS M A c' R s')) s)
    (n : Nat) (h : I n s) : codeS M A c R s := by
  induction n using Nat.strongRecOn generalizing s with
  | ind n ih =>
    refine codeS_of_tree (wpS_mono (turn n s h) fun fin s' hf => ?_)
    cases fin with
    | done f => exact hf
    | again c' =>
      rcases hf with ⟨rfl, m, hm, hI⟩ | hf
      · exact ⟨hq, hC, ih m hm hI⟩
      · exact hf
theorem codeS_mono {c : Code} {R R' : Flow → Shared → Prop} (h : codeS M A c R s) (hR : ∀ f s, R f s → R' f s) : codeS M A c R' s :=
  fun Γ p hc hΓ hcl => wpCode_mono (fun _ _ ⟨f, e, hf⟩ => ⟨f, e, hR f _ hf⟩) (h Γ p hc hΓ hcl)
theorem codeS_of_any {c : Code} {R : Flow → Shared → Prop} (h : codeAny M A c (fun r s' => match r with | .ok f => R f s' | .error _ => False) s) : codeS M A c R s :=
  fun Γ p hc hΓ _ => wpCode_mono (fun r s' hr => by
    cases r with
    | ok f => exact ⟨f, rfl, hr⟩
    | error e => exact hr.elim) (h Γ p hc hΓ)

theorem wpS_execs_nil {Q : Flow → Shared → Prop} (h : Q .next s) : wpS M A (execs [] env) Q s := wpS_pure h
theorem wpS_execs_cons {st : Stmt} {rest : List Stmt} {Q : Flow → Shared → Prop}
    (h : wpS M A (exec st env) (fun f s' => match f with | .next => wpS M A (execs rest env) Q s' | f => Q f s') s) : wpS M A (execs (st :: rest) env) Q s := by
  rw [execs_cons]
  refine wpS_bind (wpS_mono h fun f s' h' => ?_)
  cases f <;> first | exact h' | exact wpS_pure h'
/-- a statement that ends plainly: what it leaves, then the rest -/
theorem wpS_cut {st : Stmt} {rest : List Stmt} {Q : Flow → Shared → Prop} (I : Shared → Prop)
    (h : wpS M A (exec st env) (fun f s' => match f with | .next => I s' | f => Q f s') s) (hr : ∀ s', I s' → wpS M A (execs rest env) Q s') : wpS M A (execs (st :: rest) env) Q s :=
  wpS_execs_cons (wpS_mono h fun f s' h' => by cases f <;> first | exact hr s' h' | exact h')
theorem wpS_If {test body orelse pos} {Q : Flow → Shared → Prop}
    (h : wpS M A (isTrue test env (eval test env)) (fun b s' => if b = true then wpS M A (execs body env) Q s' else wpS M A (execs orelse env) Q s') s) :
    wpS M A (exec (.If test body orelse pos) env) Q s := by
  rw [exec_If]
  refine wpS_bind (wpS_standAt (wpS_bind (wpS_mono h fun b s' h' => ?_)))
  cases b <;> simpa using h'
theorem wpS_runOwn {c : Code} {Q : Flow → Shared → Prop} (hc : codeS M A c Q s) (hC : Calm c) : wpS M A (runOwn c env none) Q s := by
  unfold runOwn
  exact wpS_onRaise (wpS_run hc hC)
theorem wpS_Return {e pos} {Q : Flow → Shared → Prop} (h : wpS M A (eval e env) (fun v => Q (.ret v)) s) : wpS M A (exec (.Return (some e) pos) env) Q s := fun Γ p hΓ hc => by
  simp only [exec_Return_some, Sem.wp_bind', Sem.wp_cmd_standAt, Sem.wp_pure']; exact h Γ _ hΓ hc
theorem wpS_Assign_Name {x pos' value pos} {Q : Flow → Shared → Prop} (hs : swapsWith value (some (.Name x pos')) pos.line env = pure false)
    (h : wpS M A (eval value env) (fun v s₁ => wpAny M A (bindName env x v) (fun _ s₂ => Q .next s₂) (fun _ _ => False) s₁) s) : wpS M A (exec (.Assign [.Name x pos'] value pos) env) Q s := by
  rw [exec_Assign_Name (hs := hs)]
  exact wpS_bind (wpS_standAt (wpS_bind (wpS_mono h fun v s₁ h₁ => wpS_bind (wpS_standAt (wpS_bind (wpS_mono (wpS_of_any h₁) fun _ _ h₂ => wpS_pure h₂))))))
theorem wpS_AugAssign_Name {x pos' op value pos} {Q : Flow → Shared → Prop}
    (h : wpAny M A (loadName env x) (fun old s₁ => wpAny M A (eval value env) (fun v s₂ => wpS M A (operate [old, v] (inplaceOp op old v)) (fun new s₃ => wpAny M A (bindName env x new) (fun _ s₄ => Q .next s₄) (fun _ _ => False) s₃) s₂) (fun _ _ => False) s₁) (fun _ _ => False) s) :
    wpS M A (exec (.AugAssign (.Name x pos') op value pos) env) Q s := by
  rw [exec_AugAssign_Name]
  exact wpS_bind (wpS_standAt (wpS_bind (wpS_mono (wpS_of_any h) fun old s₁ h₁ => wpS_bind (wpS_holding (wpS_mono (wpS_of_any h₁) fun v s₂ h₂ => wpS_bind (wpS_standAt (wpS_bind (wpS_mono h₂ fun new s₃ h₃ =>
    wpS_bind (wpS_standAt (wpS_bind (wpS_mono (wpS_of_any h₃) fun _ _ h₄ => wpS_pure h₄)))))))))))

theorem under_while {test body orelse} : A.under (.whileLoop test body orelse env) = A := Around.under_of_weight rfl
theorem under_for {target it body orelse} : A.under (.forLoop target it body orelse env) = A := Around.under_of_weight rfl
theorem under_block {body} : A.under (.block body env) = A := Around.under_of_weight rfl

theorem wpS_While {test body pos} {Q : Flow → Shared → Prop} (I : Nat → Shared → Prop)
    (turn : ∀ n s, I n s →
      wpS (model prog w) A (isTrue test env (eval test env)) (fun b s₂ =>
        if b = true then wpS (model prog w) A (execs body env) (fun f s₃ => match f with
            | .ret v => Q (.ret v) s₃
            | .brk => Q .next s₃
            | _ => ∃ m, m < n ∧ I m s₃) s₂
        else Q .next s₂) s)
    (n : Nat) (h : I n s) : wpS (model prog w) A (exec (.While test body [] pos) env) Q s := by
  rw [exec_While]
  refine wpS_bind (wpS_standAt (wpS_runOwn (codeS_loop rfl trivial I (fun n s hI => ?_) n h) trivial))
  rw [under_while]
  show wpS _ A ((whileTurn test body [] env).onRaise _) _ s
  refine wpS_onRaise ?_
  simp only [whileTurn]
  refine wpS_bind (wpS_mono (turn n s hI) fun b s₂ h₂ => ?_)
  cases b with
  | false =>
    simp only [Bool.false_eq_true, if_false] at h₂ ⊢
    exact wpS_bind (wpS_execs_nil (wpS_pure h₂))
  | true =>
    simp only [if_true] at h₂ ⊢
    refine wpS_bind (wpS_mono h₂ fun f s₃ h₃ => ?_)
    cases f with
    | next => exact wpS_pure (.inl ⟨rfl, h₃⟩)
    | cont => exact wpS_pure (.inl ⟨rfl, h₃⟩)
    | brk => exact wpS_pure h₃
    | ret v => exact wpS_pure h₃
theorem wpS_forLoop {x px it body} {R : Flow → Shared → Prop} (I : Nat → Shared → Prop)
    (turn : ∀ n s, I n s → wpAny (model prog w) A (pyNext it) (fun r s₁ => match r with
      | none => R .next s₁
      | some v => wpAny (model prog w) A (bindName env x v) (fun _ s₂ => wpS (model prog w) A (execs body env) (fun f s₃ => match f with
            | .ret v => R (.ret v) s₃
            | .brk => R .next s₃
            | _ => ∃ m, m < n ∧ I m s₃) s₂) (fun _ _ => False) s₁) (fun _ _ => False) s)
    (n : Nat) (h : I n s) : codeS (model prog w) A (.forLoop (.Name x px) it body [] env) R s := by
  refine codeS_loop rfl trivial I (fun n s hI => ?_) n h
  rw [under_for]
  show wpS _ A ((forTurn (.Name x px) it body [] env).onRaise _) _ s
  refine wpS_onRaise ?_
  simp only [forTurn]
  refine wpS_bind (wpS_standAt (wpS_bind (wpS_onRaise (wpS_mono (wpS_of_any (turn n s hI)) fun r s₁ h₁ => ?_))))
  cases r with
  | none =>
    refine wpS_pure (.inr ⟨rfl, trivial, codeS_of_tree ?_⟩)
    rw [under_block]
    show wpS _ A ((execs [] env).onRaise _ >>= fun f => pure (PySem.Fin.done f)) _ _
    exact wpS_bind (wpS_onRaise (wpS_execs_nil (wpS_pure h₁)))
  | some v =>
    refine wpS_bind (wpS_pure (wpS_bind ?_))
    show wpS _ A (do standAt px; bindName env x v) _ _
    refine wpS_bind (wpS_standAt (wpS_mono (wpS_of_any h₁) fun _ s₂ h₂ => wpS_bind (wpS_mono h₂ fun f s₃ h₃ => ?_)))
    cases f with
    | next => exact wpS_pure (.inl ⟨rfl, h₃⟩)
    | cont => exact wpS_pure (.inl ⟨rfl, h₃⟩)
    | brk => exact wpS_pure h₃
    | ret v => exact wpS_pure h₃
end
end Mine
end

section
open PySem PySem.W PyProof.Rows
set_option maxRecDepth 100000
namespace Mine
/-- the caller's own stack is clean -/
theorem caller_clean : Clean (⟨.builtin "claim.caller" {}, none, none, [], none⟩ : Ctx) :=
  ⟨by show Builtin.Bytes.decodersThatHold.contains "claim.caller" = false; decide +kernel, fun _ hx => nomatch hx⟩

/-- a call from the top, upon clean stacks alone -/
theorem callFromS {c : ClaimW} {tree : List Value → Sem Fin} {w : World} {s : Shared} {free : Addr → Prop} {gens : Prop} {kept : Heap → Prop} (hz : s.asleep) (hgens : s.gens = #[])
    (hspec : ∀ args, c.pre args = true → WData.layableAll args = true → ∀ ord : List DictEntry → List DictEntry, (∀ l, (ord l).Perm l) →
      ∃ vs s₁, layAllW c.records (classAt s.heap) w.params ord args s = some (vs, s₁) ∧
        wpS (model c.prog w) callerA (tree vs) (fun fin s' => ∃ f, fin = .done f ∧ (c.Ends s args vs s₁ (.ok f) s' ∧ s'.os = s.os ∧ AllBare s'.gens ∧ kept s'.heap)) s₁) :
    c.CallFrom (fun vs => ⟨tree vs, .builtin "claim.caller" {}, default, []⟩) w free gens kept s := by
  intro args hpre hlay ord hord
  obtain ⟨vs, s₁, hlaid, hS⟩ := hspec args hpre hlay ord hord
  have hal := layAllW_rest _ _ _ hlaid
  have hwp : Sem.wp (model c.prog w) ⟨.builtin "claim.caller" {}, none, none, [], none⟩ (tree vs)
      (Sem.finPost (model c.prog w) ⟨.builtin "claim.caller" {}, none, none, [], none⟩ fun r s' => (c.Ends s args vs s₁ r s' ∧ s'.os = s.os ∧ kept s'.heap) ∧ leftWithCleanup s'.gens = false)
      (fun e _ s' => (c.Ends s args vs s₁ (.error e) s' ∧ s'.os = s.os ∧ kept s'.heap) ∧ leftWithCleanup s'.gens = false) default s₁ := by
    refine Sem.wp_mono _ _ _ (fun fin p' s' h' => ?_) (fun _ _ _ h' => h'.elim) default s₁ (hS _ default caller_in caller_clean)
    obtain ⟨f, rfl, a, b, d, k⟩ := h'
    exact ⟨⟨a, b, k⟩, leftWithCleanup_false_of_bare d⟩
  obtain ⟨n, r, s'', s', hsched, hrun, hfo, hR⟩ := wp_halts_full (M := model c.prog w) (R := fun r s' => c.Ends s args vs s₁ r s' ∧ s'.os = s.os ∧ kept s'.heap) (Shared.asleep_of_life hal.2.2.2 hz) hwp
  obtain ⟨hcase, hos, hkp⟩ := hR
  obtain ⟨eh, _, _, eo, _⟩ := Shared.forget_eq hfo
  have hcase := hcase.congr eh
  have hkp : kept s'.heap := by rw [eh]; exact hkp
  rw [← eo] at hos
  have hlife : s'.heap.life = s.heap.life := (runN_life _ _ _ hrun).trans hal.2.2.2
  refine ⟨vs, s₁, hlaid, n, _, s', hsched, ?_, (fun _ i x hx => by rw [hgens] at hx; simp at hx), hkp, by rw [hlife], Shared.rest_eq hos⟩
  rcases hcase with ⟨v, rfl, d1, d2, d3, d4, d5⟩ | ⟨e, ob, cls, rfl, d1, d2, d3, d4, d5⟩
  · exact .inl ⟨v, rfl, d1, d2, d3, fun b o y _ => d4 b o y, d5⟩
  · exact .inr ⟨e, ob, cls, rfl, d1, d2, d3, d4, fun b o y _ => d5 b o y⟩
end Mine
end

section
open PySem PySem.W PySem.Calls PyProof.Rows
set_option maxRecDepth 100000
namespace Mine
/-- what the walk is asked, upon clean stacks alone -/
abbrev WalkS (q : Program) (loose : List Str) (XP : (Str → Option Value) → Heap → Prop) (YP : World → Heap → Prop) (r : RowW) (d : DefRec) (kwd : List (Str × Expr)) : Prop :=
  ∀ (w : World) (s₀ s₁ : Shared) (mg mb : Str → Option Value), Ground q loose r.records XP w s₀ mg mb s₁.heap → YP w s₁.heap → ∀ (a : Addr) (o : Obj) (pm cd doc dV kV : Value), s₁.heap.get? a = some o →
    o.data = .func { docDef d.name d.params d.body d.scope pm cd doc with defaults := dV, kwdefaults := kV } → s₁.heap.CodeRec cd d.name → Dflts mg s₁.heap d.params kwd dV kV → mg d.name = some (.ref a) → s₁.gens = #[] →
    ∀ (args : List WData) (vals : List Value) (as : List Addr), r.claim.pre args = true → WData.layableAll args = true → ReadsAllW r.records (classAt s₀.heap) s₁.heap vals args as → WellAll w.params s₁.heap vals args → (∀ a ∈ as, (a == sysModules) = false) →
      wpS (model r.prog w) callerA (call (.ref a) vals) (fun v s' => GoodWG r.claim (classAt s₀.heap) (ExcName.means s₀.heap) args s₁ (.ok (.ret v)) s') s₁

theorem PySem.W.holds_open {r : OpenRow} {q : Program} {loose : List Str} {Xt : Shared → Bool} {XP : (Str → Option Value) → Heap → Prop} {α : Type} {Yf : Shared → α} {Ya : World → α} {YP : World → Heap → Prop} {d : DefRec} {kwd : List (Str × Expr)} {N : Nat}
    (left : LeftO r.prog q loose Xt Yf Ya N) (hY : ∀ w s, Yf s = Ya w → YP w s.heap) (hYk : ∀ w h h', YP w h → (∀ b o, h.get? b = some o → h'.get? b = some o) → YP w h')
    (hX : ∀ s, Xt s = true → XP (s.heap.nsMap mainGlobals) s.heap) (hXk : ∀ mg h h', XP mg h → (∀ b o, h.get? b = some o → h'.get? b = some o) → XP mg h')
    (hdef : defOf q r.name = some (d, kwd)) (hp : r.prog.theDef r.name = some (d.params, d.body, d.scope)) (hk : kwWritten? d.params.kwonlyargs d.params.kw_defaults = some kwd) (hRf : ∀ s, Xt s = true → RecFacts r.records s.heap) (hwr : (!r.writes || r.records.isEmpty) = true)
    (k1 : r.wellSaid = true) (ok : (chainsOk q && opensWell r.prog && (frees r.toRowW && r.within.isEmpty)) = true) (hb : r.prog.bare) (hw : r.toRowW.promised)
    (call : WalkS q loose XP YP r.toRowW d kwd) : r.Holds := by
  obtain ⟨ok, k5⟩ := Bool.and_eq_true_iff.mp ok
  obtain ⟨hch, o1⟩ := Bool.and_eq_true_iff.mp ok
  obtain ⟨k5, k6⟩ := Bool.and_eq_true_iff.mp k5
  obtain ⟨hsame, hu, ha, hap, hm⟩ := frees_parts k5
  refine ⟨k1, hw, ⟨⟨hb, o1, by show r.makers.map _ = []; rw [hm]; rfl⟩, hw.witness, fun w => ⟨(left.behind hX hch w).1, fun s' hs' => ?_⟩⟩⟩
  obtain ⟨s₀, hf, hg0, s, hT, hz, hgens, hg, G00, y⟩ := (left.behind (XP := fun mg h => XP mg h ∧ RecFacts r.records h) (fun s hs => ⟨hX s hs, hRf s hs⟩) hch w).2 s' hs'
  have G0 : Ground q loose [] XP w s (s.heap.nsMap mainGlobals) (s.heap.nsMap builtinsNs) s.heap := ⟨G00.T, G00.B, G00.D, G00.TE, G00.TD, G00.W, G00.X.1, G00.cls, G00.has, G00.apart, G00.once, G00.K⟩
  have RF := G00.X.2
  refine ⟨s₀, hf, hg0, s, hT, fun n hn => ?_, RF.1, RF.2.1, ?_⟩
  · obtain rfl : n = r.name := by split at hn <;> simp_all
    exact pinned_of_view hg G0 hdef hp hk
  have hgens : s.gens = #[] := Array.eq_empty_of_size_eq_zero (beq_iff_eq.mp hgens)
  have G : Ground q loose r.records XP w s _ _ s.heap := RF.ground G0
  refine callFromS (c := r.claim) (tree := fun vs => do match ← nsGet mainNs r.name with
      | some f => do ret (← PySem.call f vs)
      | none => unsupported "claim.caller:no-such-global") hz hgens fun args hpre hlay ord hord => ?_
  obtain ⟨⟨vs, s₁⟩, hlaid⟩ := Option.isSome_iff_exists.mp (layAllW_isSome (P := w.params) (ord := ord) G.has args r.args s (pre_splitW hpre).1)
  have keeps := layAllW_keeps _ _ _ hlaid
  have hal := layAllW_rest _ _ _ hlaid
  obtain ⟨as, hrd, hin, hold⟩ := reads_layAllW hord _ _ _ hlaid hlay s₁.heap (fun _ _ e => e)
  have L : Laid r.records w s s₁ args vs as := ⟨⟨ord, hord, hlaid⟩, hrd, hin, hold, keeps, hal.1.trans hgens, hal.2.2.1⟩
  have G₁ := G.keeps hXk keeps
  have hi := ident_freeW hu ha hap
  have hwi : r.claim.within = [] := List.isEmpty_iff.mp k6
  obtain ⟨a, o, pm, cd, doc, dV, kV, h1, h2, h3, h4, h5⟩ := G₁.fn hdef
  have hS := call w s s₁ _ _ G₁ (hYk _ _ _ (hY w s y) keeps) a o pm cd doc dV kV h2 h3 h4 h5 (defOf_name hdef ▸ h1) L.gens args vs as hpre hlay L.reads L.well (L.low G.low)
  refine ⟨vs, s₁, hlaid, wpS_bind (wpS_of_any (wpAny_nsGet G₁.T.g ?_))⟩
  rw [h1]
  refine wpS_bind (wpS_mono hS fun v s' g => wpS_pure ⟨_, rfl, ?_⟩)
  have z := g.laid (c := r.claim) hsame hwi hi L
  exact ⟨z.1, z.2.1, z.2.2, fun q => ⟨namesKept_of hT hg _ keeps g.2.1.old, noTable hwr q⟩⟩
end Mine
end

section
open PySem PySem.W PyProof.Rows
namespace Mine
set_option maxRecDepth 100000 in
set_option maxHeartbeats 8000000 in
open_top hd for PySem.Challenge.rw_md0005_01
end Mine
end

section
open PySem PySem.W PyProof.Rows
set_option maxRecDepth 100000
namespace Mine
open PySem.Builtin.Bytes (exported exportsOf checkResize)

namespace G
theorem mro : mroOf (.type "bytearray") = pure [.type "bytearray", .type "object"] := by rw [mroOf_type]; kernel_rfl
theorem lookup_new : typeLookup (.type "bytearray") "__new__" = pure (some (.builtin "bytearray.__new__")) := by rw [typeLookup_type, builtinLookup_eq_fast]; kernel_rfl
theorem slot_init : Slot "bytearray" "__init__" "bytearray.__init__" :=
  .of (owner := "bytearray") (n := "__init__") (by rw [typeLookup_type, builtinLookup_eq_fast]; kernel_rfl) (by decide +kernel) (by decide +kernel) (by decide +kernel)
    (by first | exact .inl (by decide +kernel) | exact .inr (by decide +kernel)) (by rw [isSubtype_type]; kernel_rfl)
theorem called : TypeCalled "bytearray" "bytearray.__new__" "bytearray.__init__" :=
  ⟨by decide +kernel, by decide +kernel, ⟨_, _, mro⟩, madeBy_type mro lookup_new (by decide +kernel), by decide +kernel, by rw [isSubtype_type]; kernel_rfl, slot_init⟩
theorem typeCall : checkTypeCall "bytearray" ⟨[], []⟩ = pure () := by kernel_rfl
theorem newCall : checkBuiltinCall "bytearray.__new__" ⟨[.type "bytearray"], []⟩ = pure () := by kernel_rfl
theorem plain_new : plainId "bytearray.__new__" = true := by decide +kernel
theorem entry_new : entryFor table "bytearray.__new__" = some Builtin.«list.__new__» :=
  entryFor_alias (id' := "list.__new__") (by rw [fastTable_eq_tree]; kernel_rfl) (by decide +kernel) (by decide +kernel) (by rw [fastTable_eq_tree]; kernel_rfl)
theorem entry_init : entryFor table "bytearray.__init__" = some Builtin.«bytearray.__init__» := entryFor_of_tree (by kernel_rfl)
theorem plain_init : plainId "bytearray.__init__" = true := by decide +kernel
theorem entry_append : entryFor table "bytearray.append" = some Builtin.«bytearray.append» := entryFor_of_tree (by kernel_rfl)
theorem plain_append : plainId "bytearray.append" = true := by decide +kernel
theorem entry_iadd : entryFor table "bytearray.__iadd__" = some Builtin.«bytearray.__iadd__» := entryFor_of_tree (by kernel_rfl)
theorem plain_iadd : plainId "bytearray.__iadd__" = true := by decide +kernel
theorem slot_iadd : Slot "bytearray" "__iadd__" "bytearray.__iadd__" :=
  .of (owner := "bytearray") (n := "__iadd__") (by rw [typeLookup_type, builtinLookup_eq_fast]; kernel_rfl) (by decide +kernel) (by decide +kernel) (by decide +kernel)
    (by first | exact .inl (by decide +kernel) | exact .inr (by decide +kernel)) (by rw [isSubtype_type]; kernel_rfl)
theorem slot_append : Slot "bytearray" "append" "bytearray.append" :=
  .of (owner := "bytearray") (n := "append") (by rw [typeLookup_type, builtinLookup_eq_fast]; kernel_rfl) (by decide +kernel) (by decide +kernel) (by decide +kernel)
    (by first | exact .inl (by decide +kernel) | exact .inr (by decide +kernel)) (by rw [isSubtype_type]; kernel_rfl)
theorem release : typeLookup (.type "bytearray") "__release_buffer__" = pure (some (.builtin "bytearray.__release_buffer__")) := by rw [typeLookup_type, builtinLookup_eq_fast]; kernel_rfl
theorem release_bytes : typeLookup (.type "bytes") "__release_buffer__" = pure none := by rw [typeLookup_type, builtinLookup_eq_fast]; kernel_rfl
theorem buffer : typeLookup (.type "bytearray") "__buffer__" = pure (some (.builtin "bytearray.__buffer__")) := by rw [typeLookup_type, builtinLookup_eq_fast]; kernel_rfl
theorem buffer_bytes : typeLookup (.type "bytes") "__buffer__" = pure (some (.builtin "bytes.__buffer__")) := by rw [typeLookup_type, builtinLookup_eq_fast]; kernel_rfl
theorem no_bytes : typeLookup (.type "bytearray") "__bytes__" = pure none := by rw [typeLookup_type, builtinLookup_eq_fast]; kernel_rfl
theorem no_idx : typeLookup (.type "bytearray") "__index__" = pure none := by rw [typeLookup_type, builtinLookup_eq_fast]; kernel_rfl
theorem sub : isSubtype (.type "bytearray") (.type "bytearray") = pure true := by rw [isSubtype_type]; kernel_rfl
theorem fill : fillsNumberSlot (.type "bytearray") "add" = pure false :=
  PySem.fillsNumberSlot_seq (id := "bytearray.__add__") (r := none) (by rw [typeLookup_type, builtinLookup_eq_fast]; kernel_rfl) (by decide +kernel) (by rw [typeLookup_type, builtinLookup_eq_fast]; kernel_rfl) rfl
theorem fill_bytes : fillsNumberSlot (.type "bytes") "add" = pure false :=
  PySem.fillsNumberSlot_seq (id := "bytes.__add__") (r := none) (by rw [typeLookup_type, builtinLookup_eq_fast]; kernel_rfl) (by decide +kernel) (by rw [typeLookup_type, builtinLookup_eq_fast]; kernel_rfl) rfl
theorem seq_iadd : isSeqSlot (some (.builtin "bytearray.__iadd__")) = true := by decide +kernel
theorem bind_init : Builtin.Bytes.bindOptional "bytearray.__init__" "bytearray" ["source", "encoding", "errors"] [] [] = pure [none, none, none] := by kernel_rfl
end G
end Mine
end

section
open PySem PySem.W PyProof.Rows
set_option maxRecDepth 100000
namespace Mine
open PySem.Builtin.Bytes (exported exportsOf checkResize)

abbrev baObj (b : Array UInt8) : Obj := { cls := .type "bytearray", data := .bytearray b }

section
variable {α : Type} {M : Model} {A : Around} {s : Shared} {prog : Program} {w : World} {env : Env}

theorem wpS_if_false {c : Bool} {a b : Sem α} {Q : α → Shared → Prop} (hc : c = false) (h : wpS M A b Q s) : wpS M A (if c = true then a else b) Q s := by subst hc; exact h
theorem wpS_if_true {c : Bool} {a b : Sem α} {Q : α → Shared → Prop} (hc : c = true) (h : wpS M A a Q s) : wpS M A (if c = true then a else b) Q s := by subst hc; exact h
theorem wpS_stack {Q : List (Code × Pos) → Shared → Prop} (h : ∀ st : List (Code × Pos), (∀ g, A.guards = some g → guardsOf st = g) → (∀ x ∈ st, Calm x.1) → Q st s) : wpS M A stack Q s := fun Γ p hΓ hc => by
  show Q ((Γ.code, p) :: Γ.below) s
  refine h _ (fun g hg => by rw [guardsOf_cons]; exact hΓ.2.2.2.1 g hg) fun x hx => ?_
  rcases List.mem_cons.mp hx with rfl | hx
  · exact hc.1
  · exact hc.2 x hx
theorem not_guard {st : List (Code × Pos)} (hg : guardsOf st = []) {x : Code × Pos} (hx : x ∈ st) : x.1.isGuard = false := by
  cases h : x.1.isGuard with
  | false => rfl
  | true =>
    have : x.1 ∈ guardsOf st := List.mem_filter.mpr ⟨List.mem_map_of_mem hx, h⟩
    rw [hg] at this
    cases this
theorem wpS_exported {a : Addr} {Q : Bool → Shared → Prop} (hg : A.guards = some []) (h : Q false s) : wpS M A (exported (.ref a)) Q s := by
  unfold exported
  refine wpS_bind (wpS_stack fun st hst hcl => wpS_pure ?_)
  have hgs := hst _ hg
  have e : ∀ f : Code × Pos → Bool, (∀ x ∈ st, f x = false) → st.any f = false := fun f hf => by
    rw [List.any_eq_false]
    intro x hx
    rw [hf x hx]
    exact Bool.false_ne_true
  rw [e]
  · exact h
  · rintro ⟨c, p⟩ hx
    have h1 := not_guard hgs hx
    have h2 := hcl _ hx
    dsimp only at h1 h2
    cases c with
    | builtin id args =>
      have hno : ∀ i, guardIds.contains i = true → id ≠ i := by
        rintro i hi rfl
        exact absurd (h1.symm.trans hi) Bool.false_ne_true
      have n1 := hno "bytearray.__contains__" (by decide +kernel)
      have n2 := hno "bytearray.__mod__" (by decide +kernel)
      have n3 := hno "bytearray.__rmod__" (by decide +kernel)
      have n4 := hno "_struct.pack_into.held" (by decide +kernel)
      have n5 := hno "bytearray.find.held" (by decide +kernel)
      have h3 : Builtin.Bytes.decodersThatHold.contains id = false := h2
      split
      · rename_i heq; cases heq; exact absurd rfl n1
      · rename_i heq; cases heq; exact absurd rfl n2
      · rename_i heq; cases heq; exact absurd rfl n3
      · rename_i heq; cases heq; exact absurd rfl n4
      · rename_i heq; cases heq; exact absurd rfl n5
      · rename_i heq; cases heq; rw [h3, Bool.and_false]
      · rfl
    | _ => rfl
theorem wpS_load {a : Addr} {o : Obj} {Q : Obj → Shared → Prop} (ho : s.heap.get? a = some o) (h : Q o s) : wpS M A (load a) Q s := wpS_of_any (wpAny_load ho h)
theorem any_exportsOf {a : Addr} {b : Array UInt8} {E : Value → Shared → Prop} {Q : Nat → Shared → Prop} (ho : s.heap.get? a = some (baObj b)) (h : Q 0 s) : wpAny M A (exportsOf (.ref a)) Q E s := by
  unfold exportsOf
  exact wpAny_bind (wpAny_load ho (wpAny_pure h))
theorem wpS_free {a : Addr} {b : Array UInt8} {Q : Bool → Shared → Prop} (hg : A.guards = some []) (ho : s.heap.get? a = some (baObj b)) (h : Q false s) :
    wpS M A (exported (.ref a) <||> (do return (← exportsOf (.ref a)) > 0)) Q s := by
  unfold orM
  refine wpS_bind (wpS_exported hg ?_)
  show wpS M A (do return decide ((← exportsOf (.ref a)) > 0)) Q s
  exact wpS_bind (wpS_of_any (any_exportsOf ho (wpS_pure h)))
theorem wpS_checkResize {a : Addr} {b : Array UInt8} {Q : Unit → Shared → Prop} (hg : A.guards = some []) (ho : s.heap.get? a = some (baObj b)) (h : Q () s) : wpS M A (checkResize (.ref a)) Q s := by
  unfold checkResize
  exact wpS_bind (wpS_free hg ho (wpS_if_false rfl (wpS_pure h)))
theorem any_write {a : Addr} {b : Array UInt8} {f : Array UInt8 → Array UInt8} {E : Value → Shared → Prop} {Q : Unit → Shared → Prop} (ho : s.heap.get? a = some (baObj b)) (hz : (f b).size ≤ sizeLine)
    (h : ∀ h', h'.get? a = some (baObj (f b)) → Heap.SameBut a s.heap h' → Q () { s with heap := h' }) : wpAny M A (Builtin.Bytes.write (.ref a) f) Q E s := by
  show wpAny M A (updateBytearray a f) Q E s
  unfold updateBytearray
  refine wpAny_bind (wpAny_load ho ?_)
  show wpAny _ _ (update a (Obj.mapBytearray f) >>= fun _ => lookBehind a) _ _ _
  refine wpAny_bind (wpAny_update ho ?_)
  have h₂ : (s.heap.update a (Obj.mapBytearray f)).get? a = some (baObj (f b)) := Heap.get?_update_self (Obj.mapBytearray f) ho rfl
  refine wpAny_lookBehind h₂ ?_ (h _ h₂ (Heap.SameBut.update ..))
  show (if (f b).size > sizeLine then some "bytearray:memory" else none) = none
  rw [if_neg (by omega)]
theorem ba_typeIs {a : Addr} {b : Array UInt8} (ho : s.heap.get? a = some (baObj b)) : s.TypeIs (.ref a) "bytearray" := ⟨_, ho, rfl⟩

theorem codeS_call_builtin {id : String} {args : Args} {b : Builtin} {R : Flow → Shared → Prop} (hq : plainId id = true) (hC : Calm (.builtin id args)) (hb : entryFor table id = some b)
    (h : wpAny (model prog w) A.in1 (checkBuiltinCall id args) (fun _ s₁ => wpS (model prog w) A.in1 (b args)
      (fun fin s' => match fin with | .done f => R f s' | .again c' => c'.quiet = true ∧ Calm c' ∧ codeS (model prog w) A c' R s') s₁) (fun _ _ => False) s) :
    codeS (model prog w) A (.call (.builtin id) args) R s := by
  refine codeS_of_tree ?_
  show wpS _ A.in1 (do checkBuiltinCall id args; again (.builtin id args)) _ s
  refine wpS_bind (wpS_mono (wpS_of_any h) fun _ s₁ h₁ => wpS_pure ⟨plainId_quiet hq args, hC, codeS_of_tree ?_⟩)
  rw [Around.under_plainId hq args]
  show wpS _ _ (match entryFor table id with | some b => b args | none => unsupported ((withoutEnding? id "#data").getD id)) _ _
  rw [hb]
  exact h₁

theorem args_append (self x : Value) : argsOk "bytearray.append" ⟨[self, x], []⟩ := by first | exact rfl | decide +kernel | kernel_rfl
theorem args_iadd (self x : Value) : argsOk "bytearray.__iadd__" ⟨[self, x], []⟩ := by first | exact rfl | decide +kernel | kernel_rfl

theorem calm_append {args : Args} : Calm (.builtin "bytearray.append" args) := by show Builtin.Bytes.decodersThatHold.contains "bytearray.append" = false; decide +kernel
theorem calm_iadd {args : Args} : Calm (.builtin "bytearray.__iadd__" args) := by show Builtin.Bytes.decodersThatHold.contains "bytearray.__iadd__" = false; decide +kernel
theorem calm_init {args : Args} : Calm (.builtin "bytearray.__init__" args) := by show Builtin.Bytes.decodersThatHold.contains "bytearray.__init__" = false; decide +kernel
theorem calm_typeCall {args : Args} : Calm (.builtin "type.__call__" args) := by show Builtin.Bytes.decodersThatHold.contains "type.__call__" = false; decide +kernel
theorem call_append {a : Addr} {b : Array UInt8} {n : Int} {t : Tok} {Q : Value → Shared → Prop} (hg : A.guards = some []) (ho : s.heap.get? a = some (baObj b)) (h0 : 0 ≤ n) (h1 : n < 256) (hz : b.size < sizeLine)
    (h : ∀ h', h'.get? a = some (baObj (b.push n.toNat.toUInt8)) → Heap.SameBut a s.heap h' → Q .none { s with heap := h' }) :
    wpS (model prog w) A (call (.builtin "bytearray.append") [.ref a, .int n t]) Q s := by
  refine wpS_call (codeS_call_builtin G.plain_append calm_append G.entry_append ?_)
  refine G.slot_append.check _ _ _ _ _ _ _ _ (ba_typeIs ho) (args_append _ _) ?_
  unfold Builtin.«bytearray.append»
  refine wpS_bind (wpS_of_eq (a := (Value.ref a, Value.int n t)) rfl ?_)
  dsimp only
  refine wpS_bind ?_
  unfold Builtin.Bytes.byteValue
  refine wpS_bind (wpS_of_any (wpAny_of_eq (rfl : asIndex (.int n t) = pure n) ?_))
  refine wpS_if_false (by simp only [Bool.or_eq_false_iff, decide_eq_false_iff_not]; omega) (wpS_pure ?_)
  refine wpS_bind (wpS_checkResize hg ho ?_)
  refine wpS_bind (wpS_of_any (any_write ho (by rw [Array.size_push]; omega) fun h' e1 e2 => ?_))
  exact wpS_pure (h h' e1 e2)

theorem any_slotIsOwn {obj : Value} {T id name : String} {E : Value → Shared → Prop} {Q : Bool → Shared → Prop} (hT : s.TypeIs obj T) (hl : typeLookup (.type T) (name : Str) = pure (some (.builtin id))) (he : id.endsWith ("." ++ name) = true)
    (hd : id.dropRight (name.length + 1) = T) (hsub : isSubtype (.type T) (.type T) = pure true) (h : Q true s) : wpAny M A (Builtin.Bytes.slotIsOwn obj name) Q E s := by
  unfold Builtin.Bytes.slotIsOwn
  refine wpAny_bind (wpAny_specialOf hT hl ?_)
  dsimp only
  refine bm_if_false (by rw [he]; rfl) ?_
  rw [hd]
  exact wpAny_isInstance hT hsub h
theorem any_slotOwn_ba {a : Addr} {b : Array UInt8} {E : Value → Shared → Prop} {Q : Bool → Shared → Prop} (ho : s.heap.get? a = some (baObj b)) (h : Q false s) : wpAny M A (Builtin.Bytes.ownRelease (.ref a)) Q E s := by
  unfold Builtin.Bytes.ownRelease
  refine wpAny_bind (any_slotIsOwn (ba_typeIs ho) G.release (by decide +kernel) (by decide +kernel) G.sub ?_)
  exact wpAny_pure h
theorem any_slotOwn_bytes {x : Array UInt8} {t : Tok} {E : Value → Shared → Prop} {Q : Bool → Shared → Prop} (h : Q false s) : wpAny M A (Builtin.Bytes.ownRelease (.bytes x t)) Q E s := by
  unfold Builtin.Bytes.ownRelease Builtin.Bytes.slotIsOwn
  refine wpAny_bind (wpAny_bind (wpAny_specialOf (T := "bytes") (typeIs_bytes _ _ _) G.release_bytes ?_))
  exact wpAny_pure (wpAny_pure h)
theorem sub_bytes : isSubtype (.type "bytes") (.type "bytes") = pure true := by rw [isSubtype_type]; kernel_rfl
theorem any_buffer_bytes {id : String} {x : Array UInt8} {t : Tok} {full : Bool} {E : Value → Shared → Prop} {Q : Option (Array UInt8) → Shared → Prop} (h : Q (some x) s) : wpAny M A (Builtin.Bytes.buffer? id (.bytes x t) full) Q E s := by
  unfold Builtin.Bytes.buffer?
  refine wpAny_bind (wpAny_specialOf (T := "bytes") (typeIs_bytes _ _ _) G.buffer_bytes ?_)
  dsimp only
  refine wpAny_bind (any_slotIsOwn (T := "bytes") (typeIs_bytes _ _ _) G.buffer_bytes (by decide +kernel) (by decide +kernel) sub_bytes ?_)
  refine bm_if_false rfl ?_
  refine wpAny_bind (wpAny_specialOf (T := "bytes") (typeIs_bytes _ _ _) G.buffer_bytes ?_)
  try dsimp only
  refine wpAny_bind (any_slotOwn_bytes (bm_if_false rfl ?_))
  exact wpAny_bind (wpAny_pure (wpAny_pure h))
theorem any_buffer_ba {id : String} {a : Addr} {b : Array UInt8} {full : Bool} {E : Value → Shared → Prop} {Q : Option (Array UInt8) → Shared → Prop} (ho : s.heap.get? a = some (baObj b)) (h : Q (some b) s) :
    wpAny M A (Builtin.Bytes.buffer? id (.ref a) full) Q E s := by
  unfold Builtin.Bytes.buffer?
  refine wpAny_bind (wpAny_specialOf (ba_typeIs ho) G.buffer ?_)
  dsimp only
  refine wpAny_bind (any_slotIsOwn (ba_typeIs ho) G.buffer (by decide +kernel) (by decide +kernel) G.sub ?_)
  refine bm_if_false rfl ?_
  refine wpAny_bind (wpAny_specialOf (ba_typeIs ho) G.buffer ?_)
  try dsimp only
  refine wpAny_bind (any_slotOwn_ba ho (bm_if_false rfl ?_))
  refine wpAny_bind ?_
  unfold Builtin.Bytes.payload Builtin.Bytes.payload?
  exact wpAny_bind (wpAny_bind (wpAny_load ho (wpAny_pure (wpAny_pure (wpAny_pure h)))))
theorem any_payload_ba {a : Addr} {b : Array UInt8} {E : Value → Shared → Prop} {Q : Array UInt8 → Shared → Prop} (ho : s.heap.get? a = some (baObj b)) (h : Q b s) : wpAny M A (Builtin.Bytes.payload (.ref a)) Q E s := by
  unfold Builtin.Bytes.payload Builtin.Bytes.payload?
  exact wpAny_bind (wpAny_bind (wpAny_load ho (wpAny_pure (wpAny_pure h))))
theorem any_takeQuiet {x : Array UInt8} {t : Tok} {E : Value → Shared → Prop} {Q : Option (Array UInt8 × Option Value) → Shared → Prop} (h : Q (some (x, none)) s) :
    wpAny M A (Builtin.Bytes.takeBufferQuiet? "bytearray.__iadd__" (.bytes x t) 0) Q E s := by
  unfold Builtin.Bytes.takeBufferQuiet?
  refine wpAny_bind (wpAny_attempt ?_)
  unfold Builtin.Bytes.takeBuffer?
  refine wpAny_bind (wpAny_specialOf (T := "bytes") (typeIs_bytes _ _ _) G.buffer_bytes ?_)
  try dsimp only
  refine wpAny_bind (any_slotIsOwn (T := "bytes") (typeIs_bytes _ _ _) G.buffer_bytes (by decide +kernel) (by decide +kernel) sub_bytes ?_)
  refine bm_if_false rfl ?_
  refine wpAny_bind (wpAny_specialOf (T := "bytes") (typeIs_bytes _ _ _) G.buffer_bytes ?_)
  try dsimp only
  refine wpAny_bind (any_buffer_bytes (wpAny_pure ?_))
  exact wpAny_pure h
theorem call_iadd {a : Addr} {b x : Array UInt8} {t : Tok} {Q : Value → Shared → Prop} (hg : A.guards = some []) (ho : s.heap.get? a = some (baObj b)) (hz : b.size + x.size ≤ sizeLine)
    (h : ∀ h', h'.get? a = some (baObj (b ++ x)) → Heap.SameBut a s.heap h' → Q (.ref a) { s with heap := h' }) :
    wpS (model prog w) A (call (.builtin "bytearray.__iadd__") [.ref a, .bytes x t]) Q s := by
  refine wpS_call (codeS_call_builtin G.plain_iadd calm_iadd G.entry_iadd ?_)
  refine G.slot_iadd.check _ _ _ _ _ _ _ _ (ba_typeIs ho) (args_iadd _ _) ?_
  unfold Builtin.«bytearray.__iadd__»
  refine wpS_bind (wpS_of_eq (a := (Value.ref a, [Value.bytes x t])) rfl ?_)
  dsimp only
  refine wpS_bind (wpS_of_any (any_takeQuiet ?_))
  dsimp only
  unfold Builtin.Bytes.thenGiveBack
  dsimp only
  have tail : ∀ s' : Shared, s' = s → wpS (model prog w) A.in1 (do
      if Builtin.Bytes.tooLong ((← Builtin.Bytes.payload (Value.ref a)).size + x.size) then unsupported "bytearray.__iadd__:memory"
      Builtin.Bytes.write (Value.ref a) (· ++ x)
      ret (Value.ref a)) (fun fin s' => match fin with
        | .done f => (match f with | .ret v => Q v s' | _ => False)
        | .again c' => c'.quiet = true ∧ Calm c' ∧ codeS (model prog w) A c' (fun f s' => match f with | .ret v => Q v s' | _ => False) s') s' := by
    rintro s' rfl
    refine wpS_bind (wpS_of_any (any_payload_ba ho ?_))
    refine wpS_if_false ?_ ?_
    · unfold Builtin.Bytes.tooLong
      simp only [decide_eq_false_iff_not]
      omega
    refine wpS_bind (wpS_of_any (any_write ho (by rw [Array.size_append]; exact hz) fun h' e1 e2 => ?_))
    exact wpS_pure (h h' e1 e2)
  cases hx : x.isEmpty with
  | true => exact wpS_if_false rfl (tail s rfl)
  | false =>
    refine wpS_if_true rfl ?_
    refine wpS_if_false rfl ?_
    exact wpS_bind (wpS_checkResize hg ho (tail s rfl))
theorem inplace_ba {a : Addr} {b x : Array UInt8} {t : Tok} {Q : Value → Shared → Prop} (hg : A.guards = some []) (ho : s.heap.get? a = some (baObj b)) (hz : b.size + x.size ≤ sizeLine)
    (h : ∀ h', h'.get? a = some (baObj (b ++ x)) → Heap.SameBut a s.heap h' → Q (.ref a) { s with heap := h' }) :
    wpS (model prog w) A (inplaceOp .Add (.ref a) (.bytes x t)) Q s := by
  unfold inplaceOp
  refine wpS_holding ?_
  have hfi : fillsInplaceSlot (.type "bytearray") "add" (Operator.Add == .Add) = pure false := by
    unfold fillsInplaceSlot
    show (typeLookup (.type "bytearray") (dunderI "add") >>= fun fi => pure (fi.isSome && !isSeqSlot fi)) = pure false
    rw [show dunderI "add" = ("__iadd__" : Str) from by decide +kernel, G.slot_iadd.lookup]
    show (pure (true && !isSeqSlot (some (.builtin "bytearray.__iadd__"))) : Sem Bool) = _
    rw [G.seq_iadd]; rfl
  have hsi : seqSlot? (.type "bytearray") (dunderI "add") = pure (some (.builtin "bytearray.__iadd__")) := by
    rw [show dunderI "add" = ("__iadd__" : Str) from by decide +kernel]
    exact PySem.seqSlot_of G.slot_iadd.lookup G.seq_iadd
  refine wpS_bind (wpS_of_any (wpAny_typeOf (ba_typeIs ho) ?_))
  refine wpS_bind (wpS_of_any (wpAny_of_eq hfi ?_))
  refine wpS_if_false rfl ?_
  refine wpS_bind (wpS_of_any ?_)
  simp only [binaryOp1]
  refine wpAny_bind (wpAny_typeOf (ba_typeIs ho) (wpAny_bind (wpAny_typeOf (T := "bytes") (typeIs_bytes _ _ _) (wpAny_bind (wpAny_of_eq G.fill ?_)))))
  refine bm_if_false (by decide +kernel) ?_
  refine wpAny_bind (wpAny_of_eq G.fill_bytes ?_)
  refine wpAny_pure ?_
  refine wpS_bind (wpS_of_any (wpAny_of_eq hsi ?_))
  exact wpS_bind (wpS_rule (call_iadd hg ho hz h))
end
end Mine
end

section
open PySem PySem.W PyProof.Rows
set_option maxRecDepth 100000
namespace Mine
open PySem.Builtin.Bytes (exported exportsOf checkResize)
section
variable {α : Type} {M : Model} {A : Around} {s : Shared} {prog : Program} {w : World} {env : Env}

set_option maxHeartbeats 4000000 in
theorem owner_new : ("bytearray.__new__".splitOn ".__new__").headD "" = "bytearray" := by simp +decide [String.splitOn, String.splitOnAux]

theorem code_ba_new {E : Value → Shared → Prop} {Q₁ : Value → Shared → Prop}
    (h : Q₁ (.ref s.heap.objs.size) { s with heap := s.heap.push (baObj #[]) }) :
    codeAny (model prog w) A (.call (.builtin "bytearray.__new__") ⟨[.type "bytearray"], []⟩) (wants Q₁ E) s := by
  refine codeAny_of_tree ?_
  show wpAny _ A.in1 (do checkBuiltinCall "bytearray.__new__" ⟨[.type "bytearray"], []⟩; again (.builtin "bytearray.__new__" ⟨[.type "bytearray"], []⟩)) _ _ s
  refine wpAny_bind (wpAny_of_eq G.newCall (wpAny_pure ⟨plainId_quiet G.plain_new _, codeAny_builtin_stack G.entry_new rfl fun p st => ?_⟩))
  rw [Around.under_plainId G.plain_new _]
  have hsub := G.sub
  have hown := owner_new
  obtain ⟨hp, g, d, tk, os⟩ := s
  simp only [hown]
  wp_walk
  exact h
theorem ba_init {A' : Around} {a : Addr} {R : Flow → Shared → Prop} (hg : A.guards = some []) (ho : s.heap.get? a = some (baObj #[]))
    (h : ∀ h', h'.get? a = some (baObj #[]) → Heap.SameBut a s.heap h' → R (.ret .none) { s with heap := h' }) :
    wpS (model prog w) A (Builtin.«bytearray.__init__» ⟨[.ref a], []⟩) (fun fin s' => match fin with | .done f => R f s' | .again c' => c'.quiet = true ∧ Calm c' ∧ codeS (model prog w) A' c' R s') s := by
  unfold Builtin.«bytearray.__init__»
  dsimp only
  refine wpS_bind (wpS_of_any (any_slotOwn_ba ho ?_))
  refine wpS_if_false rfl ?_
  refine wpS_bind (wpS_of_eq G.bind_init ?_)
  dsimp only
  refine wpS_bind (wpS_of_eq (a := ()) rfl ?_)
  refine wpS_bind (wpS_of_eq (a := ()) rfl ?_)
  refine wpS_bind (wpS_free hg ho ?_)
  refine wpS_if_false rfl ?_
  refine wpS_bind (wpS_of_any (any_write ho (by decide) fun h' e1 e2 => ?_))
  refine wpS_bind (wpS_of_eq (a := ()) rfl ?_)
  exact wpS_pure (h h' e1 e2)
theorem codeS_builtin {id : String} {args : Args} {b : Builtin} {R : Flow → Shared → Prop} (hb : entryFor table id = some b)
    (h : wpS (model prog w) (A.under (.builtin id args)) (b args) (fun fin s' => match fin with | .done f => R f s' | .again c' => c'.quiet = true ∧ Calm c' ∧ codeS (model prog w) A c' R s') s) :
    codeS (model prog w) A (.builtin id args) R s := by
  refine codeS_of_tree ?_
  show wpS _ _ (match entryFor table id with | some b => b args | none => unsupported ((withoutEnding? id "#data").getD id)) _ _
  rw [hb]
  exact h
theorem args_init (obj : Value) : argsOk "bytearray.__init__" ⟨[obj], []⟩ := by first | exact rfl | decide +kernel | kernel_rfl
theorem call_ba {Q : Value → Shared → Prop} (hg : A.guards = some [])
    (h : ∀ h', h'.get? s.heap.objs.size = some (baObj #[]) → Heap.SameBut s.heap.objs.size (s.heap.push (baObj #[])) h' → Q (.ref s.heap.objs.size) { s with heap := h' }) :
    wpS (model prog w) A (call (.type "bytearray") []) Q s := by
  obtain ⟨c, tl, hmro⟩ := G.called.mro
  refine wpS_call (codeS_of_tree ?_)
  show wpS _ _ (callAny (.type "bytearray") _) _ _
  refine wpS_pure ⟨Code.quiet_builtin _ (by decide +kernel), calm_typeCall, codeS_builtin F.entry_type_call ?_⟩
  rw [Around.under_plain (weight_type_call_type "bytearray" [] []) rfl]
  unfold Builtin.«type.__call__»
  dsimp only
  refine wpS_if_false G.called.notType ?_
  refine wpS_if_false G.called.canCreate ?_
  refine wpS_bind (wpS_of_eq G.typeCall ?_)
  refine wpS_bind (wpS_of_eq hmro ?_)
  refine wpS_if_false rfl ?_
  refine wpS_bind (wpS_of_eq G.called.made ?_)
  refine wpS_bind (wpS_pure ?_)
  refine wpS_bind (wpS_holding (wpS_of_any (wpAny_call ?_)))
  refine codeAny_mono (code_ba_new (E := fun _ _ => False) (Q₁ := fun v s' => v = .ref s.heap.objs.size ∧ s' = { s with heap := s.heap.push (baObj #[]) }) ⟨rfl, rfl⟩) fun r s₁ hr => ?_
  cases r with
  | error e => exact hr
  | ok fl =>
    cases fl with
    | ret obj =>
      obtain ⟨rfl, rfl⟩ := hr
      have ho : (s.heap.push (baObj #[])).get? s.heap.objs.size = some (baObj #[]) := Heap.get?_push_size _ rfl
      have hT : ({ s with heap := s.heap.push (baObj #[]) } : Shared).TypeIs (.ref s.heap.objs.size) "bytearray" := ba_typeIs ho
      refine wpS_bind (wpS_of_any (wpAny_isInstance hT G.sub ?_))
      refine wpS_if_false rfl ?_
      refine wpS_bind (wpS_holding ?_)
      unfold callSpecial?
      refine wpS_bind (wpS_of_any (wpAny_specialOf hT G.slot_init.lookup ?_))
      dsimp only
      refine wpS_holding ?_
      refine wpS_bind (wpS_of_eq (G.slot_init.bind _) ?_)
      dsimp only
      refine wpS_bind (wpS_call (codeS_call_builtin G.plain_init calm_init G.entry_init ?_))
      refine G.slot_init.check _ _ _ _ _ _ _ _ hT (args_init _) ?_
      refine ba_init (s := { s with heap := s.heap.push (baObj #[]) }) hg ho fun h' e1 e2 => ?_
      refine wpS_pure ?_
      dsimp only
      refine wpS_if_false (by decide) ?_
      exact wpS_pure (h h' e1 e2)
    | _ => exact hr.elim

theorem newCall_bytes (a : Value) : checkBuiltinCall "bytes.__new__" ⟨[.type "bytes", a], []⟩ = pure () := F.bm_newCall a
/-- bytes(x) of a bytearray -/
theorem call_bytes_ba {a : Addr} {b : Array UInt8} {E : Value → Shared → Prop} {Q : Value → Shared → Prop} (ho : s.heap.get? a = some (baObj b)) (hz : b.size ≤ sizeLine)
    (hQ : ∀ t k, Q (.bytes b t) { s with toks := k }) : wpAny (model prog w) A (call (.type "bytes") [.ref a]) Q E s := by
  refine callType_codes (Q₁ := fun obj s₁ => s₁.TypeIs obj "bytes" ∧ Q obj s₁) F.bm_called (F.bm_typeCall _) F.entry_object_init ?_ fun obj s₁ h₁ => ?_
  · refine codeAny_of_tree ?_
    show wpAny _ A.in1.in1 (do checkBuiltinCall "bytes.__new__" ⟨[.type "bytes", .ref a], []⟩; again (.builtin "bytes.__new__" ⟨[.type "bytes", .ref a], []⟩)) _ _ s
    refine wpAny_bind (wpAny_of_eq (F.bm_newCall _) (wpAny_pure ⟨plainId_quiet F.bm_plain _, codeAny_builtin F.bm_entry ?_⟩))
    rw [Around.under_plainId F.bm_plain _]
    have hT : s.TypeIs (.ref a) "bytearray" := ba_typeIs ho
    unfold Builtin.«bytes.__new__»
    refine wpAny_bind (wpAny_of_eq (a := true) rfl ?_)
    refine bm_if_false rfl ?_
    refine wpAny_bind (wpAny_of_eq F.bm_sub ?_)
    refine bm_if_false rfl ?_
    refine wpAny_bind (wpAny_of_eq (F.bm_bind _) ?_)
    refine wpAny_bind (wpAny_of_eq (a := ()) rfl ?_)
    refine wpAny_bind (wpAny_of_eq (a := ()) rfl ?_)
    refine bm_if_false rfl ?_
    refine wpAny_bind (wpAny_specialOf hT G.no_bytes ?_)
    refine wpAny_bind (wpAny_bind ?_)
    show wpAny _ _ (load a >>= _) _ _ _
    refine wpAny_bind (wpAny_load ho ?_)
    refine wpAny_pure (wpAny_pure ?_)
    refine bm_if_false rfl ?_
    refine wpAny_bind (wpAny_specialOf hT G.no_idx ?_)
    refine bm_if_true rfl ?_
    first
      | show wpAny _ _ (Builtin.Bytes.buffer? "bytes.__new__" (.ref a) true >>= _) _ _ _
      | (refine wpAny_bind ?_; show wpAny _ _ (Builtin.Bytes.buffer? "bytes.__new__" (.ref a) true >>= _) _ _ _)
    refine wpAny_bind (any_buffer_ba ho ?_)
    refine wpAny_bind (wpAny_rule ?_)
    refine wpAny_bind (wpAny_mkBytes ?_ hz)
    show wpAny _ _ (if (Value.type "bytes" == Value.type "bytes") = true then _ else _) _ _ _
    refine bm_if_true (by decide) ?_
    first
      | exact wpAny_pure ⟨typeIs_bytes _ _ _, hQ _ _⟩
      | exact wpAny_bind (wpAny_pure (wpAny_pure ⟨typeIs_bytes _ _ _, hQ _ _⟩))
  · exact ⟨h₁.1, F.args_object_init_2 obj _, object_init_meets F.bm_called.init.lookup F.bm_called.made (by decide) prog w A.in1 _ s₁ ⟨h₁.1, rfl, h₁.2⟩⟩
end
end Mine
end

section
open PySem PySem.W PyProof.Rows
set_option maxRecDepth 100000
namespace Mine
section
variable {α : Type} {A A₀ : Around} {s : Shared} {prog : Program} {w : World} {env : Env} {R : Flow → Shared → Prop}
theorem codeS_func {body env} (h : wpS (model prog w) (A.deeper env) (execs body env) (fun f s' => R (.ret (match f with | .ret v => v | _ => .none)) s') s) : codeS (model prog w) A (.func body env) R s := by
  refine codeS_of_tree ?_
  show wpS _ (A.deeper env) (do point; match ← (execs body env).onRaise (leaving env) with | .ret v => ret v | _ => ret .none) _ s
  refine wpS_bind (wpS_of_any (wpAny_point (wpS_bind (wpS_onRaise (wpS_mono h fun f s' h' => ?_)))))
  cases f <;> exact wpS_pure h'
theorem codeS_call_function {a : Addr} {args : Args} {o : Obj} {fd : FuncData} {body : List Stmt} (hroom : A.depth < recursionLimit)
    (ho : s.heap.get? a = some o)
    (hd' : o.data = .func fd) (hco : fd.scope.isCoroutine = false) (hgen : fd.scope.isGenerator = false) (hbody : fd.body = .stmts body) (hcd : s.heap.CodeRec fd.code fd.qualname)
    (h : wpAny (model prog w) A.in1 (bindArgs fd args) (fun binds s₁ =>
      wpAny (model prog w) A.in1 (newFunctionEnv fd.scope fd.globals fd.closure binds (fd.qualname ++ ".<locals>.") (some a) fd.code none fd.builtins)
        (fun env s₂ => s₂.heap.NoLimit ∧ codeS (model prog w) A (.func body env) R s₂) (fun _ _ => False) s₁) (fun _ _ => False) s) :
    codeS (model prog w) A (.call (.ref a) args) R s := by
  refine codeS_of_tree (wpS_of_any ?_)
  show wpAny _ A.in1 (callAny (.ref a) args) _ _ s
  simp only [callAny]
  refine wpAny_bind (wpAny_load ho ?_)
  obtain ⟨c, oc, vs, tq, hc, hoc, hdc, hq⟩ := hcd
  simp only [hd', callFunction, hco, hgen, hbody, hc]
  rw [hc] at h
  refine wpAny_bind (m := field (.ref c) 1) (wpAny_field hoc hdc hq (wpAny_bind (wpAny_pure ?_)))
  exact wpAny_bind (wpAny_mono h (fun binds s₁ h₁ => wpAny_bind (wpAny_mono h₁ (fun env s₂ h₂ => wpAny_bind (wpAny_enterFrame h₂.1 hroom
    (wpAny_pure ⟨rfl, trivial, h₂.2⟩))) fun _ _ h' => h')) fun _ _ h' => h')
theorem codeS_def {K : Frag} {L : Addr} {base h₀ : Heap} {m mg mb : Str → Option Value} {p : Program} {loose : List Str} {mean : ExcName → Option Value} {outer : List Env} {name qual : Str} {params : Arguments} {body : List Stmt} {scope : Scope} {dV kV doc pm cdv ct oc : Value} {an od : Option Addr} {osl : Array (Option Value)} {f : Addr} {args : Args} {binds : List (Str × Value)}
    (B : Below A₀ base outer h₀) (F : Fr h₀ L s.heap m) (X₀ : K.In h₀) (T : Top p loose mean mg mb h₀) (hA : A.frames = some (env :: outer)) (hf : env.frame = some L) (hke : env.scope.kind = .function)
    (ho : K.lookup f = some ⟨oc, od, .func (fnOf name qual params body scope dV kV doc pm an cdv ct), osl⟩) (hcd : codeIn K cdv qual = true) (hroom : A.depth < recursionLimit)
    (hbind : BindsTo s (fnOf name qual params body scope dV kV doc pm an cdv ct) args binds) (hloc : ∀ y ∈ binds, scope.names.lookup y.1 = some .local)
    (h : ∀ L' h₁, Fr s.heap L' h₁ (fun y => binds.reverse.lookup y) → Below A base (env :: outer) s.heap → K.In s.heap → Top p loose mean mg mb s.heap →
      wpS (model prog w) (A.deeper (envOf qual scope L' f cdv)) (execs body (envOf qual scope L' f cdv))
        (fun fl s' => R (.ret (match fl with | .ret v => v | _ => .none)) s') { s with heap := h₁, toks := s.toks + binds.length })
    (hco : scope.isCoroutine = false) (hgen : scope.isGenerator = false) (hk : scope.kind = .function)
    (hcell : ∀ x ∈ scope.names, x.2 ≠ .cell) : codeS (model prog w) A (.call (.ref f) args) R s := by
  obtain ⟨FG, BG, st, _⟩ := groundX (R := fun _ _ => True) (news := []) B F News.nil hA hf hke
  have XG := X₀.keeps st
  have TG := T.keeps st
  refine codeS_call_function (fd := fnOf name qual params body scope dV kV doc pm an cdv ct) hroom (X₀.keeps F.keep _ _ ho) rfl hco hgen rfl (codeRec_of (X₀.keeps F.keep) hcd) (hbind _ _ _ _ ?_)
  refine wpAny_newFunctionEnv hcell hloc (fun h₁ hns₁ hsb₁ => ⟨(T.nolimit.keeps F.keep).fresh _ hsb₁, codeS_func ?_⟩) hk
  refine h s.heap.objs.size h₁ ⟨hns₁, fun b o e => ?_, Nat.le_refl _⟩ BG XG TG
  exact hsb₁.extBut b o (Nat.ne_of_lt (Heap.lt_size e)) (Heap.get?_push_of_some _ e)
end
end Mine
end

section
open PySem PySem.W PyProof.Rows
set_option maxRecDepth 100000
namespace Mine
section
variable {α : Type} {M : Model} {A : Around} {s : Shared} {prog : Program} {w : World} {env : Env} {Q : Value → Shared → Prop}
theorem wpS_Call {func : Expr} {args : List Expr} {pos : Pos}
    (h : wpAny M A (eval func env) (fun f s₁ => wpS M A (callWith pos f [] (backTo pos (starEach args env)) []) Q s₁) (fun _ _ => False) s)
    (he : eval (.Call func args [] pos) env = (do callWith pos (← eval func env) [] (backTo pos (starEach args env)) (backToKw pos (keywordEach [] env))) := by rfl) :
    wpS M A (eval (.Call func args [] pos) env) Q s := by
  rw [he]; exact wpS_bindA h
theorem wpS_Method {o : Expr} {name : Str} {apos pos : Pos} {args : List Expr} {pl : Sem Bool}
    (h : wpAny M A (eval o env) (fun ov s₁ => wpAny M A (getMethod ov name pl) (fun fx s₂ => wpS M A (callWith pos fx.1 fx.2 (backTo pos (starEach args env)) []) Q s₂) (fun _ _ => False) s₁) (fun _ _ => False) s)
    (he : eval (.Call (.Attribute o name apos) args [] pos) env = (do
      let ov ← eval o env
      standAt apos.atName
      let (f, first) ← holding [ov] (getMethod ov name pl)
      callWith pos f first (backTo pos (starEach args env)) []) := by rfl) :
    wpS M A (eval (.Call (.Attribute o name apos) args [] pos) env) Q s := by
  rw [he]
  refine wpS_bind (wpS_mono (wpS_of_any h) fun ov s₁ h₁ => wpS_bind (wpS_standAt (wpS_bind (wpS_holding (wpS_mono (wpS_of_any h₁) fun fx s₂ h₂ => ?_)))))
  exact h₂
theorem evalArgsS {f : Value} {x : Sem Value} {Q : Args → Shared → Prop} (h : wpS M A x (fun v s' => Q ⟨[v], []⟩ s') s) : wpS M A (evalArgs f true [(false, x)] []) Q s := by
  unfold evalArgs
  show wpS M A (spliced [(false, x)] >>= _) Q s
  refine wpS_bind ?_
  unfold spliced
  refine wpS_bind (wpS_mono h fun v s' h' => ?_)
  refine wpS_bind (wpS_pure (wpS_bind (wpS_holding (wpS_pure (wpS_pure ?_)))))
  refine wpS_holding ?_
  exact wpS_bind (wpS_pure (wpS_bind (wpS_pure (wpS_pure h'))))
theorem callWithS_type1 {pos : Pos} {T : String} {e : Expr} (h : wpS M A (eval e env) (fun v s₁ => wpS M A (call (.type T) [v]) Q s₁) s)
    (he : starEach [e] env = [(false, eval e env)] := by rfl) : wpS M A (callWith pos (.type T) [] (backTo pos (starEach [e] env)) []) Q s := by
  rw [he]
  unfold callWith
  refine wpS_bind (wpS_holding (evalArgsS (wpS_mono h fun v s₁ h₁ => wpS_bind (wpS_standAt ?_))))
  refine wpS_bind (wpS_pure ?_)
  exact wpS_bind (wpS_mono h₁ fun r s₂ hr => wpS_bind (wpS_holding (wpS_of_any (wpAny_point (wpS_pure hr)))))
theorem callWithS_meth1 {pos : Pos} {id : String} {first : List Value} {e : Expr} (h : wpS M A (eval e env) (fun v s₁ => wpS M A (call (.builtin id) (first ++ [v])) Q s₁) s)
    (he : starEach [e] env = [(false, eval e env)] := by rfl) : wpS M A (callWith pos (.builtin id) first (backTo pos (starEach [e] env)) []) Q s := by
  rw [he]
  unfold callWith
  refine wpS_bind (wpS_holding (evalArgsS (wpS_mono h fun v s₁ h₁ => wpS_bind (wpS_standAt ?_))))
  refine wpS_bind (wpS_pure ?_)
  exact wpS_bind (wpS_mono h₁ fun r s₂ hr => wpS_bind (wpS_holding (wpS_of_any (wpAny_point (wpS_pure hr)))))
theorem callWithS_type0 {pos : Pos} {T : String} (h : wpS M A (call (.type T) []) Q s) : wpS M A (callWith pos (.type T) [] (backTo pos (starEach [] env)) []) Q s := by
  unfold callWith
  refine wpS_bind (wpS_holding (wpS_of_any (PyProof.Rows.evalArgs_none ?_)))
  refine wpS_bind (wpS_standAt ?_)
  refine wpS_bind (wpS_pure ?_)
  exact wpS_bind (wpS_mono h fun r s₂ hr => wpS_bind (wpS_holding (wpS_of_any (wpAny_point (wpS_pure hr)))))
theorem callWithS_def1 {pos : Pos} {f : Addr} {o : Obj} {fd : FuncData} {e : Expr} (hdat : o.data = .func fd) (h : wpS M A (eval e env) (fun v s₁ => s₁.heap.get? f = some o ∧ wpS M A (call (.ref f) [v]) Q s₁) s)
    (he : starEach [e] env = [(false, eval e env)] := by rfl) : wpS M A (callWith pos (.ref f) [] (backTo pos (starEach [e] env)) []) Q s := by
  rw [he]
  unfold callWith
  refine wpS_bind (wpS_holding (evalArgsS (wpS_mono h fun v s₁ h₁ => wpS_bind (wpS_standAt ?_))))
  refine wpS_bind (m := keeperOf (.ref f)) ?_
  unfold keeperOf
  refine wpS_bind (wpS_load h₁.1 ?_)
  rw [hdat]
  refine wpS_pure ?_
  refine wpS_bind ?_
  have tail : wpS M A (call (.ref f) [v]) (fun a s' => wpS M A (holding [a] point >>= fun _ => pure a) Q s') s₁ :=
    wpS_mono h₁.2 fun r s₂ hr => wpS_bind (wpS_holding (wpS_of_any (wpAny_point (wpS_pure hr))))
  show wpS M A (callMarked plainCall (.ref f) [v] []) _ s₁
  unfold callMarked
  exact wpS_keep tail
theorem wpS_Expr {e pos} {Q : Flow → Shared → Prop} (h : wpS M A (eval e env) (fun v s' => v = .none ∧ Q .next s') s)
    (hi : interactive env = false := by rfl) (hs : swapsWith e none pos.line env = pure false := by rfl) : wpS M A (exec (.Expr e pos) env) Q s := by
  rw [exec_Expr env e pos hi hs]
  refine wpS_bind (wpS_standAt (wpS_bind (wpS_mono h fun v s' h' => ?_)))
  obtain ⟨rfl, h'⟩ := h'
  rw [dropValue_plain (fun a e => by cases e)]
  exact wpS_pure h'
theorem plainAttrs_ba : PlainAttrs "bytearray" :=
  ⟨⟨"bytearray.__getattribute__", by rw [typeLookup_type, builtinLookup_eq_fast]; kernel_rfl, by decide +kernel⟩, by rw [typeLookup_type, builtinLookup_eq_fast]; kernel_rfl⟩
theorem type_append : typeOf (.builtin "bytearray.append") = pure (.type "method_descriptor") := by show builtinType _ = _; rw [builtinType_eq_fast]; kernel_rfl
theorem getMethod_ba {a : Addr} {b : Array UInt8} {pl : Sem Bool} {E : Value → Shared → Prop} {Q : Value × List Value → Shared → Prop} (ho : s.heap.get? a = some (baObj b)) (h : Q (.builtin "bytearray.append", [.ref a]) s) :
    wpAny M A (getMethod (.ref a) (Str.ofString "append") pl) Q E s :=
  getMethod_builtin (ba_typeIs ho) plainAttrs_ba G.slot_append type_append (fun a' e => by cases e; exact ⟨_, ho, rfl⟩) h
/-- with the frame and a ledger of the one bytearray -/
theorem ints_push {b : Array UInt8} {os : List Int} {n : Int} (ho : KBw.bInts b = os) (h0 : 0 ≤ n) (h1 : n < 256) : KBw.bInts (b.push n.toNat.toUInt8) = os ++ [n] := by
  subst ho
  have e : ((n.toNat.toUInt8).toNat : Int) = n := by
    have h2 : (n.toNat.toUInt8).toNat = n.toNat := by
      show (UInt8.ofNat n.toNat).toNat = n.toNat
      rw [UInt8.toNat_ofNat']; omega
    rw [h2]; omega
  simp only [KBw.bInts, Array.toList_push, List.map_append, List.map_cons, List.map_nil, e]
theorem news_one {h₀ h h' : Heap} {L D : Addr} {o o' : Obj} (N : News h₀ L h [(D, o)]) (e : h'.get? D = some o') : News h₀ L h' [(D, o')] := by
  intro p hp
  have z := N (D, o) (.head _)
  cases hp with
  | head => exact ⟨e, z.2⟩
  | tail _ hp => cases hp
theorem append_1 {h₀ : Heap} {L D : Addr} {m : Str → Option Value} {b : Array UInt8} {os : List Int} {n : Int} {t : Tok} (hg : A.guards = some []) (F : Fr h₀ L s.heap m) (N : News h₀ L s.heap [(D, baObj b)]) (hb : KBw.bInts b = os)
    (h0 : 0 ≤ n) (h1 : n < 256) (hz : os.length < 16777216)
    (h : ∀ h' b', KBw.bInts b' = os ++ [n] → Fr h₀ L h' m → News h₀ L h' [(D, baObj b')] → Q .none { s with heap := h' }) : wpS (model prog w) A (call (.builtin "bytearray.append") [.ref D, .int n t]) Q s := by
  have z := N (D, baObj b) (.head _)
  have hsz : b.size < sizeLine := by rw [sizeLine_eq, ← KBw.ints_length b, hb]; exact hz
  exact call_append hg z.1 h0 h1 hsz fun h' e1 e2 => h h' _ (ints_push hb h0 h1) (F.change e2 z.2.1 z.2.2) (news_one N e1)
theorem iadd_1 {h₀ : Heap} {L D : Addr} {m : Str → Option Value} {b x : Array UInt8} {os xs : List Int} {t : Tok} (hg : A.guards = some []) (F : Fr h₀ L s.heap m) (N : News h₀ L s.heap [(D, baObj b)]) (hb : KBw.bInts b = os) (hx : KBw.bInts x = xs)
    (hz : os.length + xs.length ≤ 16777216)
    (h : ∀ h' b', KBw.bInts b' = os ++ xs → Fr h₀ L h' m → News h₀ L h' [(D, baObj b')] → Q (.ref D) { s with heap := h' }) : wpS (model prog w) A (inplaceOp .Add (.ref D) (.bytes x t)) Q s := by
  have z := N (D, baObj b) (.head _)
  have hsz : b.size + x.size ≤ sizeLine := by rw [sizeLine_eq, ← KBw.ints_length b, ← KBw.ints_length x, hb, hx]; exact hz
  exact inplace_ba hg z.1 hsz fun h' e1 e2 => h h' _ (KBw.ints_app hb hx) (F.change e2 z.2.1 z.2.2) (news_one N e1)
theorem ba_1 {h₀ : Heap} {L : Addr} {m : Str → Option Value} (hg : A.guards = some []) (F : Fr h₀ L s.heap m)
    (h : ∀ h' D b', KBw.bInts b' = [] → Fr h₀ L h' m → News h₀ L h' [(D, baObj b')] → Q (.ref D) { s with heap := h' }) : wpS (model prog w) A (call (.type "bytearray") []) Q s := by
  refine call_ba hg fun h' e1 e2 => h h' _ #[] rfl ?_ ?_
  · exact (F.push _).change e2 (fun e => absurd F.ns.lt (e ▸ Nat.lt_irrefl _)) (next_is_new F)
  · intro p hp
    cases hp with
    | head => exact ⟨e1, fun e => absurd F.ns.lt (e ▸ Nat.lt_irrefl _), next_is_new F⟩
    | tail _ hp => cases hp
theorem bytes_1 {E : Value → Shared → Prop} {h₀ : Heap} {L D : Addr} {b : Array UInt8} {os : List Int} (N : News h₀ L s.heap [(D, baObj b)]) (hb : KBw.bInts b = os) (hz : os.length ≤ 16777216)
    (h : ∀ t k, Q (.bytes b t) { s with toks := k }) : wpAny (model prog w) A (call (.type "bytes") [.ref D]) Q E s :=
  call_bytes_ba (N (D, baObj b) (.head _)).1 (by rw [sizeLine_eq, ← KBw.ints_length b, hb]; exact hz) h
end
end Mine
end

section
open PySem PySem.W PyProof.Rows
set_option maxRecDepth 100000
namespace Mine
section
variable {A : Around} {s : Shared} {prog : Program} {w : World} {env : Env} {E : Value → Shared → Prop} {Q : Value → Shared → Prop}
theorem no_zero {x : Array UInt8} {xs : List Int} (hx : KBw.bInts x = xs) (hn : ∀ k ∈ xs, 1 ≤ k) : x.contains (0 : UInt8) = false := by
  subst hx
  cases h : x.contains (0 : UInt8) with
  | false => rfl
  | true =>
    have h1 : (0 : UInt8) ∈ x := by simpa using h
    have h2 := hn 0 (List.mem_map.mpr ⟨0, by simpa using h1, rfl⟩)
    omega
theorem zero_in_bytes {x : Array UInt8} {xs : List Int} {t u : Tok} (hx : KBw.bInts x = xs) (hn : ∀ k ∈ xs, 1 ≤ k) (h : Q (.bool false) s) :
    wpAny (model prog w) A (compareOp .In (.int 0 t) (.bytes x u)) Q E s := by
  show wpAny _ _ (contains (.bytes x u) (.int 0 t) >>= fun b => pure (Value.bool b)) _ _ _
  refine wpAny_bind (wpAny_contains_slot (typeIs_bytes _ _ _) FB.slot_bytes_contains (wpAny_call_entry FB.slot_bytes_contains (typeIs_bytes _ _ _) FB.entry_bytes_contains ?_ (FB.args_bytes_contains_2 _ _)))
  unfold Builtin.«bytes.__contains__»
  refine wpAny_bind (wpAny_of_eq (a := (Value.bytes x u, [Value.int 0 t])) rfl ?_)
  refine wpAny_bind ?_
  unfold Builtin.Bytes.containsIn
  refine wpAny_bind (wpAny_of_eq (a := Except.ok 0) rfl ?_)
  refine wpAny_bind (any_buffer_bytes ?_)
  refine bm_if_false (by decide) ?_
  have e : x.contains ((0 : Int).toNat.toUInt8) = false := no_zero hx hn
  refine wpAny_pure ?_
  rw [e]
  exact wpAny_pure ⟨_, rfl, wpAny_truthy_bool (wpAny_pure h)⟩
end

/-- what decode gives back, upon a row without a nought -/
def decL : List Int → List Int
  | [] => []
  | c :: r =>
    if (r.length : Int) < c - 1 then r ++ [c]
    else if h : (r.drop (c - 1).toNat) = [] then r
    else r.take (c - 1).toNat ++ (if c < 255 then [0] else []) ++ decL (r.drop (c - 1).toNat)
termination_by l => l.length
decreasing_by
  simp only [List.length_drop, List.length_cons]
  omega
end Mine
end

section
open PySem PySem.W PyProof.Rows
namespace Mine
/-- a state reached: the frame's names ps, the ledger led -/
def St (s : Shared) (base : Heap) (L : Addr) (ps : List (Str × Value)) (led : List (Addr × Obj)) (s' : Shared) : Prop :=
  ∃ h tk u, s' = { s with heap := h, toks := tk } ∧ Fr base L h (kstB u ps) ∧ News base L h led
theorem St.mk {s : Shared} {base : Heap} {L : Addr} {ps : List (Str × Value)} {led news : List (Addr × Obj)} {h : Heap} {tk : Nat} {m : Str → Option Value} (F : Fr base L h m) (N : News base L h news) (hl : ∀ p ∈ led, p ∈ news) (hp : ∀ p ∈ ps, m p.1 = some p.2) :
    St s base L ps led { s with heap := h, toks := tk } :=
  ⟨h, tk, m, rfl, by
    have e : kstB m ps = m := funext fun z => kstB_eq hp fun _ => rfl
    rw [e]; exact F, fun p hp => N p (hl p hp)⟩

theorem decL_nil : decL [] = [] := by rw [decL]
theorem decL_over {c : Int} {r : List Int} (h : (r.length : Int) < c - 1) : decL (c :: r) = r ++ [c] := by rw [decL]; simp only [h, if_true]
theorem decL_end {c : Int} {r : List Int} (h : (r.length : Int) = c - 1) : decL (c :: r) = r := by
  rw [decL]
  have h1 : ¬ (r.length : Int) < c - 1 := by omega
  have h2 : r.drop (c - 1).toNat = [] := by rw [List.drop_eq_nil_iff]; omega
  simp only [h1, if_false, h2, dif_pos]
theorem decL_more {c : Int} {r : List Int} (hc : 1 ≤ c) (h : c - 1 < (r.length : Int)) : decL (c :: r) = r.take (c - 1).toNat ++ (if c < 255 then [0] else []) ++ decL (r.drop (c - 1).toNat) := by
  rw [decL]
  have h1 : ¬ (r.length : Int) < c - 1 := by omega
  have h2 : ¬ r.drop (c - 1).toNat = [] := by rw [List.drop_eq_nil_iff]; omega
  simp only [h1, if_false, h2, dif_neg, not_false_eq_true]

/-- one turn of decode's loop -/
theorem dec_cons {ks : List Int} {i : Int} (h0 : 0 ≤ i) (h1 : i < ks.length) : ks.drop i.toNat = ks.getD i.toNat 0 :: ks.drop (i + 1).toNat := by
  have h : i.toNat < ks.length := by omega
  have e : (i + 1).toNat = i.toNat + 1 := by omega
  rw [e, List.drop_eq_getElem_cons h, List.getD_eq_getElem?_getD, List.getElem?_eq_getElem h]
  rfl
theorem dec_copy {ks : List Int} {i c : Int} (h0 : 0 ≤ i) (h1 : i < ks.length) (hc : 1 ≤ c) :
    (ks.drop (clipAt ks.length (i + 1))).take (clipAt ks.length (i + 1 + c - 1) - clipAt ks.length (i + 1)) = (ks.drop (i + 1).toNat).take (c - 1).toNat := by
  have e1 : clipAt ks.length (i + 1) = (i + 1).toNat := by
    have := clipAt_nat ks.length (i + 1).toNat
    rw [show (((i + 1).toNat : Nat) : Int) = i + 1 from by omega] at this
    rw [this]; omega
  have e2 : clipAt ks.length (i + 1 + c - 1) = min (i + 1 + c - 1).toNat ks.length := by
    have := clipAt_nat ks.length (i + 1 + c - 1).toNat
    rw [show (((i + 1 + c - 1).toNat : Nat) : Int) = i + 1 + c - 1 from by omega] at this
    exact this
  rw [e1, e2]
  rw [List.take_eq_take_iff]
  rw [List.length_drop]
  omega
theorem dec_A {ks os : List Int} {i c : Int} (h0 : 0 ≤ i) (h1 : i < ks.length) (hc : 1 ≤ c) (hdr : ks.drop i.toNat = c :: ks.drop (i + 1).toNat) (hdec : os ++ decL (ks.drop i.toNat) = decL ks) (h : (ks.length : Int) < i + 1 + c - 1) :
    os ++ (ks.drop (i + 1).toNat).take (c - 1).toNat ++ [c] = decL ks := by
  have hl : ((ks.drop (i + 1).toNat).length : Int) < c - 1 := by rw [List.length_drop]; omega
  rw [← hdec, hdr, decL_over hl, List.take_of_length_le (by omega), List.append_assoc]
theorem dec_C {ks os : List Int} {i c : Int} (h0 : 0 ≤ i) (h1 : i < ks.length) (hc : 1 ≤ c) (hdr : ks.drop i.toNat = c :: ks.drop (i + 1).toNat) (hdec : os ++ decL (ks.drop i.toNat) = decL ks) (h : i + 1 + c - 1 = (ks.length : Int)) :
    os ++ (ks.drop (i + 1).toNat).take (c - 1).toNat = decL ks := by
  have hl : ((ks.drop (i + 1).toNat).length : Int) = c - 1 := by rw [List.length_drop]; omega
  rw [← hdec, hdr, decL_end hl, List.take_of_length_le (by omega)]
theorem dec_B {ks os : List Int} {i c : Int} (h0 : 0 ≤ i) (h1 : i < ks.length) (hc : 1 ≤ c) (hdr : ks.drop i.toNat = c :: ks.drop (i + 1).toNat) (hdec : os ++ decL (ks.drop i.toNat) = decL ks) (h : i + 1 + c - 1 < (ks.length : Int)) :
    os ++ (ks.drop (i + 1).toNat).take (c - 1).toNat ++ (if c < 255 then [0] else []) ++ decL (ks.drop (i + 1 + c - 1).toNat) = decL ks := by
  have hl : c - 1 < ((ks.drop (i + 1).toNat).length : Int) := by rw [List.length_drop]; omega
  have e : (ks.drop (i + 1).toNat).drop (c - 1).toNat = ks.drop (i + 1 + c - 1).toNat := by
    rw [List.drop_drop]
    congr 1
    omega
  rw [← hdec, hdr, decL_more hc hl, e]
  simp only [List.append_assoc]
theorem decL_length (ks : List Int) : (decL ks).length ≤ ks.length := by
  induction h : ks.length using Nat.strongRecOn generalizing ks with
  | ind n ih =>
    cases ks with
    | nil => rw [decL_nil]; simp
    | cons c r =>
      subst h
      rw [decL]
      split
      · simp
      · split
        · simp
        · have := ih (r.drop (c - 1).toNat).length (by rw [List.length_drop, List.length_cons]; omega) _ rfl
          simp only [List.length_append, List.length_take, List.length_cons]
          rw [List.length_drop] at this
          split <;> simp only [List.length_cons, List.length_nil] <;> omega
theorem wpS_operate {M : Model} {A : Around} {s : Shared} {vs : List Value} {m : Sem Value} {Q : Value → Shared → Prop} (h : wpS M A m Q s) : wpS M A (operate vs m) Q s := fun Γ p hΓ hc => by
  rw [Sem.wp_operate]; exact h Γ p hΓ hc
theorem sub_pos {ks : List Int} (hn : ∀ k ∈ ks, 1 ≤ k) (a n : Nat) : ∀ k ∈ (ks.drop a).take n, 1 ≤ k := fun k hk => hn k (List.mem_of_mem_drop (List.mem_of_mem_take hk))
end Mine
end

section
open PySem PySem.W PyProof.Rows
set_option maxRecDepth 100000
namespace Mine
section
variable {M : Model} {A : Around} {s : Shared} {prog : Program} {w : World} {env : Env}
theorem wpS_For {target iter body pos} {Q : Flow → Shared → Prop}
    (h : wpAny M A (eval iter env) (fun v s₁ => wpAny M A (pyIter v) (fun it s₂ => codeS M A (.forLoop target it body [] env) Q s₂) (fun _ _ => False) s₁) (fun _ _ => False) s)
    (hs : ∀ x, foldedSetIterable iter env x = pure x := by intro _; rfl) : wpS M A (exec (.For target iter body [] pos) env) Q s := by
  rw [exec_For]
  refine wpS_bind (wpS_standAt (wpS_bind (wpS_mono (wpS_of_any h) fun v s₁ h₁ => ?_)))
  rw [hs]
  refine wpS_bind (wpS_pure (wpS_bind (wpS_standAt (wpS_bind (wpS_holding (wpS_mono (wpS_of_any h₁) fun it s₂ h₂ => ?_))))))
  exact wpS_runOwn h₂ trivial
theorem forBytes {x px body} {Q : Flow → Shared → Prop} {I : Addr} {b : Array UInt8} {tb : Tok} {ks : List Int} (P : Nat → Shared → Prop) (hb : KBw.bInts b = ks) (hh : A.handled = none)
    (hIt : ∀ i s', P i s' → KBw.IsBytesIter s'.heap I b tb i)
    (turn : ∀ i k tok s' h', P i s' → ks[i]? = some k → 0 ≤ k → k < 256 → KBw.IsBytesIter h' I b tb (i + 1) → Heap.SameBut I s'.heap h' →
      wpAny (model prog w) A (bindName env x (.int k tok)) (fun _ s₂ => wpS (model prog w) A (execs body env) (fun f s₃ => match f with
            | .ret v => Q (.ret v) s₃
            | .brk => Q .next s₃
            | _ => P (i + 1) s₃) s₂) (fun _ _ => False) { s' with heap := h', toks := s'.toks + 1 })
    (done : ∀ s' h', P ks.length s' → Heap.ExtBut I s'.heap h' → Q .next { s' with heap := h' }) (h0 : P 0 s) :
    codeS (model prog w) A (.forLoop (.Name x px) (.ref I) body [] env) Q s := by
  refine wpS_forLoop (fun n s' => ∃ i, P i s' ∧ i ≤ ks.length ∧ n = ks.length - i) ?_ ks.length ⟨0, h0, Nat.zero_le _, rfl⟩
  rintro n s' ⟨i, hP, hi, rfl⟩
  have hsz : b.size = ks.length := by rw [← hb, KBw.ints_length]
  by_cases hlt : i < ks.length
  · obtain ⟨c, hx⟩ : ∃ c, b[i]? = some c := ⟨b[i], by simp [hsz, hlt]⟩
    refine KBw.next_item (hIt i s' hP) hx fun h' hit' hs' => ?_
    have hk : ks[i]? = some (c.toNat : Int) := by rw [← hb]; exact KBw.ints_get hx
    have hr := KBw.ints_in (b := b) (k := (c.toNat : Int)) (by rw [hb]; exact List.mem_of_getElem? hk)
    refine wpAny_mono (turn i _ _ s' h' hP hk hr.1 hr.2 hit' hs') (fun _ s₂ h₂ => wpS_mono h₂ fun f s₃ h₃ => ?_) fun _ _ x => x
    cases f with
    | next => exact ⟨_, by omega, i + 1, h₃, hlt, rfl⟩
    | cont => exact ⟨_, by omega, i + 1, h₃, hlt, rfl⟩
    | brk => exact h₃
    | ret v => exact h₃
  · have hi' : i = ks.length := by omega
    subst hi'
    exact KBw.next_end hh (hIt _ s' hP) (by simp [hsz]) fun h' he => done s' h' hP he

variable {Q : Value → Shared → Prop}
/-- a ledger of the bytearray and one thing more -/
theorem news_two {h₀ h h' : Heap} {L D I : Addr} {o o' oi : Obj} (hne : I ≠ D) (N : News h₀ L h [(D, o), (I, oi)]) (hs : Heap.SameBut D h h') (e : h'.get? D = some o') : News h₀ L h' [(D, o'), (I, oi)] := by
  have z := N (D, o) (.head _)
  have y := N (I, oi) (.tail _ (.head _))
  refine List.forall_mem_cons.mpr ⟨⟨e, z.2⟩, List.forall_mem_cons.mpr ⟨⟨(hs.2 I hne).trans y.1, y.2⟩, List.forall_mem_nil _⟩⟩
theorem append_2 {h₀ : Heap} {L D I : Addr} {m : Str → Option Value} {oi : Obj} {b : Array UInt8} {os : List Int} {n : Int} {t : Tok} (hg : A.guards = some []) (hne : I ≠ D) (F : Fr h₀ L s.heap m) (N : News h₀ L s.heap [(D, baObj b), (I, oi)]) (hb : KBw.bInts b = os)
    (h0 : 0 ≤ n) (h1 : n < 256) (hz : os.length < 16777216)
    (h : ∀ h' b', KBw.bInts b' = os ++ [n] → Fr h₀ L h' m → News h₀ L h' [(D, baObj b'), (I, oi)] → Q .none { s with heap := h' }) : wpS (model prog w) A (call (.builtin "bytearray.append") [.ref D, .int n t]) Q s := by
  have z := N (D, baObj b) (.head _)
  have hsz : b.size < sizeLine := by rw [sizeLine_eq, ← KBw.ints_length b, hb]; exact hz
  exact call_append hg z.1 h0 h1 hsz fun h' e1 e2 => h h' _ (ints_push hb h0 h1) (F.change e2 z.2.1 z.2.2) (news_two hne N e2 e1)
theorem iadd_2 {h₀ : Heap} {L D I : Addr} {m : Str → Option Value} {oi : Obj} {b x : Array UInt8} {os xs : List Int} {t : Tok} (hg : A.guards = some []) (hne : I ≠ D) (F : Fr h₀ L s.heap m) (N : News h₀ L s.heap [(D, baObj b), (I, oi)]) (hb : KBw.bInts b = os) (hx : KBw.bInts x = xs)
    (hz : os.length + xs.length ≤ 16777216)
    (h : ∀ h' b', KBw.bInts b' = os ++ xs → Fr h₀ L h' m → News h₀ L h' [(D, baObj b'), (I, oi)] → Q (.ref D) { s with heap := h' }) : wpS (model prog w) A (inplaceOp .Add (.ref D) (.bytes x t)) Q s := by
  have z := N (D, baObj b) (.head _)
  have hsz : b.size + x.size ≤ sizeLine := by rw [sizeLine_eq, ← KBw.ints_length b, ← KBw.ints_length x, hb, hx]; exact hz
  exact inplace_ba hg z.1 hsz fun h' e1 e2 => h h' _ (KBw.ints_app hb hx) (F.change e2 z.2.1 z.2.2) (news_two hne N e2 e1)
/-- the iterator steps on -/
theorem step_two {h₀ h h' : Heap} {L D I : Addr} {m : Str → Option Value} {o oi : Obj} {b : Array UInt8} {tb : Tok} {i : Nat} (hne : I ≠ D) (F : Fr h₀ L h m) (N : News h₀ L h [(D, o), (I, oi)]) (hs : Heap.SameBut I h h') (hit : KBw.IsBytesIter h' I b tb i) :
    ∃ oi', Fr h₀ L h' m ∧ News h₀ L h' [(D, o), (I, oi')] ∧ oi'.cls = .type "bytes_iterator" ∧ oi'.data = .fields #[.bytes b tb, .int i 0] := by
  obtain ⟨oi', e, hc, hd⟩ := hit
  have z := N (D, o) (.head _)
  have y := N (I, oi) (.tail _ (.head _))
  exact ⟨oi', F.change hs y.2.1 y.2.2, List.forall_mem_cons.mpr ⟨⟨(hs.2 D (Ne.symm hne)).trans z.1, z.2⟩, List.forall_mem_cons.mpr ⟨⟨e, y.2⟩, List.forall_mem_nil _⟩⟩, hc, hd⟩
theorem end_two {h₀ h h' : Heap} {L D I : Addr} {m : Str → Option Value} {o oi : Obj} (hne : I ≠ D) (F : Fr h₀ L h m) (N : News h₀ L h [(D, o), (I, oi)]) (hs : Heap.ExtBut I h h') : Fr h₀ L h' m ∧ News h₀ L h' [(D, o)] := by
  have z := N (D, o) (.head _)
  have y := N (I, oi) (.tail _ (.head _))
  refine ⟨?_, List.forall_mem_cons.mpr ⟨⟨hs D _ (Ne.symm hne) z.1, z.2⟩, List.forall_mem_nil _⟩⟩
  obtain ⟨oL, a1, a2, hL, a3⟩ := F.ns
  refine ⟨⟨oL, a1, a2, hs L _ (Ne.symm y.2.1) hL, a3⟩, fun b o e => hs b o ?_ (F.keep b o e), F.above⟩
  rintro rfl
  rw [y.2.2] at e
  cases e
end
end Mine
end

section
open PySem PySem.W PyProof.Rows
namespace Mine
/-- encode's loop, upon plain lists -/
def encFlush (p : List Int × List Int) : List Int × List Int := if p.2.length = 254 then (p.1 ++ 255 :: p.2, []) else p
def encPut (q : List Int × List Int) (x : Int) : List Int × List Int := if x = 0 then (q.1 ++ ((q.2.length : Int) + 1) :: q.2, []) else (q.1, q.2 ++ [x])
def encStep (p : List Int × List Int) (x : Int) : List Int × List Int := encPut (encFlush p) x
def encFin (last : Int) (p : List Int × List Int) : List Int := if last < (p.2.length : Int) + 1 then p.1 ++ ((p.2.length : Int) + 1) :: p.2 else p.1 ++ last :: p.2.dropLast
def encL (ts : List Int) : List Int := encFin (ts.getLastD 0) (ts.foldl encStep ([], []))

def run (ts : List Int) (st i : Int) : List Int := (ts.drop st.toNat).take (i - st).toNat
theorem run_length {ts : List Int} {st i : Int} (h0 : 0 ≤ st) (h1 : st ≤ i) (h2 : i ≤ ts.length) : ((run ts st i).length : Int) = i - st := by
  unfold run
  rw [List.length_take, List.length_drop]
  omega
theorem run_nil (ts : List Int) (i : Int) : run ts i i = [] := by
  unfold run
  rw [Int.sub_self]
  rfl
theorem run_push {ts : List Int} {st x : Int} {i : Nat} (h0 : 0 ≤ st) (h1 : st ≤ i) (hx : ts[i]? = some x) : run ts st i ++ [x] = run ts st ((i : Int) + 1) := by
  unfold run
  have e1 : ((i : Int) + 1 - st).toNat = ((i : Int) - st).toNat + 1 := by omega
  rw [e1, List.take_add_one, List.getElem?_drop]
  have e2 : st.toNat + ((i : Int) - st).toNat = i := by omega
  rw [e2, hx]
  rfl
theorem run_clip {ts : List Int} {st i : Int} (h0 : 0 ≤ st) (h1 : st ≤ i) (h2 : i ≤ ts.length) : (ts.drop (clipAt ts.length st)).take (clipAt ts.length i - clipAt ts.length st) = run ts st i := by
  unfold run
  have e1 : clipAt ts.length st = st.toNat := clipAt_in h0 (by omega)
  have e2 : clipAt ts.length i = i.toNat := clipAt_in (by omega) h2
  rw [e1, e2]
  congr 1
  omega

def EncInv (ts : List Int) (i : Nat) (os : List Int) (st : Int) : Prop := 0 ≤ st ∧ st ≤ i ∧ i ≤ ts.length ∧ (i : Int) - st ≤ 254 ∧ (ts.take i).foldl encStep ([], []) = (os, run ts st i) ∧ (os.length : Int) + ((i : Int) - st) ≤ 2 * i
def EncMid (ts : List Int) (i : Nat) (os : List Int) (st : Int) : Prop := 0 ≤ st ∧ st ≤ i ∧ i < ts.length ∧ (i : Int) - st ≤ 253 ∧ encFlush ((ts.take i).foldl encStep ([], [])) = (os, run ts st i) ∧ (os.length : Int) + ((i : Int) - st) ≤ 2 * i + 1
theorem enc_start (ts : List Int) : EncInv ts 0 [] 0 := ⟨by omega, by omega, Nat.zero_le _, by omega, rfl, by simp⟩
theorem enc_flush {ts os : List Int} {i : Nat} {st : Int} (h : EncInv ts i os st) (hi : i < ts.length) (e : (i : Int) - st = 254) : EncMid ts i (os ++ [255] ++ run ts st i) i := by
  obtain ⟨h0, h1, h2, h3, h4, h5⟩ := h
  have hl := run_length h0 h1 (by omega : (i : Int) ≤ ts.length)
  refine ⟨by omega, by omega, hi, by omega, ?_, ?_⟩
  · rw [h4, run_nil]
    unfold encFlush
    rw [if_pos (by show (run ts st i).length = 254; omega)]
    simp
  · simp only [List.length_append, List.length_cons, List.length_nil]
    omega
theorem enc_stay {ts os : List Int} {i : Nat} {st : Int} (h : EncInv ts i os st) (hi : i < ts.length) (e : (i : Int) - st ≠ 254) : EncMid ts i os st := by
  obtain ⟨h0, h1, h2, h3, h4, h5⟩ := h
  have hl := run_length h0 h1 (by omega : (i : Int) ≤ ts.length)
  refine ⟨h0, h1, hi, by omega, ?_, by omega⟩
  rw [h4]
  unfold encFlush
  rw [if_neg (by show ¬ (run ts st i).length = 254; omega)]
theorem enc_next {ts : List Int} {i : Nat} {x : Int} (hx : ts[i]? = some x) : (ts.take (i + 1)).foldl encStep ([], []) = encPut (encFlush ((ts.take i).foldl encStep ([], []))) x := by
  rw [List.take_add_one, hx, Option.toList_some, List.foldl_append]
  rfl
theorem enc_zero {ts os : List Int} {i : Nat} {st x : Int} (h : EncMid ts i os st) (hx : ts[i]? = some x) (e : x = 0) : EncInv ts (i + 1) (os ++ [(i : Int) - st + 1] ++ run ts st i) ((i : Int) + 1) := by
  obtain ⟨h0, h1, h2, h3, h4, h5⟩ := h
  have hl := run_length h0 h1 (by omega : (i : Int) ≤ ts.length)
  refine ⟨by omega, by omega, h2, by omega, ?_, ?_⟩
  · rw [enc_next hx, h4, show ((i + 1 : Nat) : Int) = (i : Int) + 1 from by omega, run_nil]
    unfold encPut
    rw [if_pos e, ← hl]
    simp
  · simp only [List.length_append, List.length_cons, List.length_nil]
    omega
theorem enc_put {ts os : List Int} {i : Nat} {st x : Int} (h : EncMid ts i os st) (hx : ts[i]? = some x) (e : x ≠ 0) : EncInv ts (i + 1) os st := by
  obtain ⟨h0, h1, h2, h3, h4, h5⟩ := h
  refine ⟨h0, by omega, h2, by omega, ?_, by omega⟩
  rw [enc_next hx, h4, show ((i + 1 : Nat) : Int) = (i : Int) + 1 from by omega, ← run_push h0 h1 hx]
  unfold encPut
  rw [if_neg e]
theorem enc_low {ts os : List Int} {st last : Int} (h : EncInv ts ts.length os st) (hlast : ts.getLastD 0 = last) (e : last < (ts.length : Int) - st + 1) : os ++ [(ts.length : Int) - st + 1] ++ run ts st ts.length = encL ts := by
  obtain ⟨h0, h1, h2, h3, h4, h5⟩ := h
  have hl := run_length h0 h1 (Int.le_refl _)
  rw [List.take_length] at h4
  unfold encL encFin
  rw [h4, hlast]
  dsimp only
  rw [hl, if_pos e]
  simp
theorem enc_high {ts os : List Int} {st last : Int} (h : EncInv ts ts.length os st) (hlast : ts.getLastD 0 = last) (e : ¬ last < (ts.length : Int) - st + 1) : os ++ [last] ++ run ts st ((ts.length : Int) - 1) = encL ts := by
  obtain ⟨h0, h1, h2, h3, h4, h5⟩ := h
  have hl := run_length h0 h1 (Int.le_refl _)
  rw [List.take_length] at h4
  unfold encL encFin
  rw [h4, hlast]
  dsimp only
  rw [hl, if_neg e]
  have e2 : run ts st ((ts.length : Int) - 1) = (run ts st ts.length).dropLast := by
    rw [List.dropLast_eq_take]
    unfold run
    rw [List.take_take, List.length_take, List.length_drop]
    congr 1
    omega
  rw [e2]
  simp
end Mine
end

section
open PySem PySem.W PyProof.Rows
set_option maxRecDepth 100000
namespace Mine
/-- a wrapper that the walker does not look into -/
def Cut (P : Prop) : Prop := P
theorem Cut.mk {P : Prop} (h : P) : Cut P := h
theorem Cut.out {P : Prop} (h : Cut P) : P := h
theorem run_clipN {ts : List Int} {st : Int} {i : Nat} (h0 : 0 ≤ st) (h1 : st ≤ i) (h2 : i ≤ ts.length) : (ts.drop (clipAt ts.length st)).take (min i ts.length - clipAt ts.length st) = run ts st i := by
  have e := run_clip h0 h1 (by omega : (i : Int) ≤ ts.length)
  rwa [clipAt_nat] at e
theorem run_clipP {ts : List Int} {st : Int} (h0 : 0 ≤ st) (h1 : st ≤ ts.length) (h2 : 0 < ts.length) : (ts.drop (clipAt ts.length st)).take (clipAt ts.length ((ts.length : Int) - 1) - clipAt ts.length st) = run ts st ((ts.length : Int) - 1) := by
  unfold run
  have e1 : clipAt ts.length st = st.toNat := clipAt_in h0 h1
  have e2 : clipAt ts.length ((ts.length : Int) - 1) = ((ts.length : Int) - 1).toNat := clipAt_in (by omega) (by omega)
  rw [e1, e2]
  congr 1
  omega
theorem last_getD {ts : List Int} (h : 0 < ts.length) : ts.getD ((-1 : Int) + ts.length).toNat 0 = ts.getLastD 0 := by
  have e : ((-1 : Int) + ts.length).toNat = ts.length - 1 := by omega
  rw [e, List.getLastD_eq_getLast?, List.getLast?_eq_getElem?, List.getD_eq_getElem?_getD]
section
variable {A : Around} {s : Shared} {prog : Program} {w : World} {env : Env} {E : Value → Shared → Prop} {Q : Value → Shared → Prop}
theorem item_outB {value slice : PySem.Expr} {b : Array UInt8} {t u : Tok} (hA : A.handled = none) (hb : KBw.bInts b = [])
    (hE : ∀ h' tk e, Heap.NewExc s.heap h' e "IndexError" → E (.ref e) { s with heap := h', toks := tk })
    (hs : subscripted slice false (.bytes b t) (.int (-1) u) = operate [.bytes b t, .int (-1) u] (getItem (.bytes b t) (.int (-1) u)) := by with_unfolding_all rfl) :
    wpAny (model prog w) A (subscriptTail value slice (.bytes b t) (.int (-1) u)) Q E s := by
  have hsz : b.size = 0 := by rw [← KBw.ints_length, hb]; rfl
  have hbe : b = #[] := Array.eq_empty_of_size_eq_zero hsz
  subst hbe
  refine tail_any (typeIs_bytes _ _ _) FB.slot_bytes_getitem.lookup ?_ hs
  unfold getItem
  refine wpAny_holding ?_
  refine wpAny_bind (wpAny_sequenceKey (typeIs_bytes _ _ _) (by decide) ?_)
  refine wpAny_bind (wpAny_callSpecial?_slot (name := Str.ofString "__getitem__") (typeIs_bytes _ _ _) FB.slot_bytes_getitem (wpAny_call_entry FB.slot_bytes_getitem (typeIs_bytes _ _ _) FB.entry_bytes_getitem ?_ (FB.args_bytes_getitem_2 _ _)))
  unfold Builtin.«bytes.__getitem__»
  refine wpAny_bind (wpAny_of_eq (a := (Value.bytes #[] t, [Value.int (-1) u])) rfl ?_)
  refine wpAny_bind (wpAny_of_eq (a := #[]) rfl ?_)
  refine wpAny_bind ?_
  unfold Builtin.Bytes.subscript?
  refine wpAny_bind (wpAny_specialOf (T := "int") (typeIs_int _ _ _) int_index ?_)
  refine bm_if_false rfl ?_
  refine wpAny_bind (wpAny_of_eq (a := (-1 : Int)) rfl ?_)
  refine bm_if_false (by decide) ?_
  refine wpAny_pure ?_
  first
    | exact wpAny_bind (wpAny_rule (by exact_raiseError plainExc_IndexError hA hE))
    | exact wpAny_bind (wpAny_rule (wpAny_bind (by exact_raiseError plainExc_IndexError hA hE)))
end
end Mine
end

section
open PySem PySem.W PyProof.Rows
set_option maxRecDepth 100000
namespace Mine
section
variable {A A₀ : Around} {s : Shared} {prog : Program} {w : World} {env : Env} {R : Flow → Shared → Prop}
/-- the call of a def that raises and catches: the caller's frame itself is on the ledger -/
theorem codeS_defH {K : Frag} {L : Addr} {h₀ : Heap} {m mg mb : Str → Option Value} {p : Program} {loose : List Str} {mean : ExcName → Option Value} {name qual : Str} {params : Arguments} {body : List Stmt} {scope : Scope} {dV kV doc pm cdv ct oc : Value} {an od : Option Addr} {osl : Array (Option Value)} {f : Addr} {args : Args} {binds : List (Str × Value)} {cn : Str} {cs : Scope} {a : Addr} {ccd : Value}
    (F : Fr h₀ L s.heap m) (X₀ : K.In h₀) (T : Top p loose mean mg mb h₀) (hck : cs.kind = .function)
    (ho : K.lookup f = some ⟨oc, od, .func (fnOf name qual params body scope dV kV doc pm an cdv ct), osl⟩) (hcd : codeIn K cdv qual = true) (hroom : A.depth < recursionLimit)
    (hbind : BindsTo s (fnOf name qual params body scope dV kV doc pm an cdv ct) args binds) (hloc : ∀ y ∈ binds, scope.names.lookup y.1 = some .local)
    (h : ∀ L' h₁ oL, TI.Caller h₀ L m oL → TI.Frs [envOf cn cs L a ccd] [(L, oL)] → Fr (hideAll s.heap [L]) L' h₁ (fun y => binds.reverse.lookup y) → News (hideAll s.heap [L]) L' h₁ [(L, oL)] → K.In (hideAll s.heap [L]) → Top p loose mean mg mb (hideAll s.heap [L]) →
      wpS (model prog w) (A.deeper (envOf qual scope L' f cdv)) (execs body (envOf qual scope L' f cdv))
        (fun fl s' => R (.ret (match fl with | .ret v => v | _ => .none)) s') { s with heap := h₁, toks := s.toks + binds.length })
    (hco : scope.isCoroutine = false) (hgen : scope.isGenerator = false) (hk : scope.kind = .function)
    (hcell : ∀ x ∈ scope.names, x.2 ≠ .cell) : codeS (model prog w) A (.call (.ref f) args) R s := by
  have hLn : ∀ b o, h₀.get? b = some o → b ∉ [L] := fun b o e hm => by
    rw [List.mem_singleton.mp hm] at e
    exact absurd (Heap.lt_size e) (Nat.not_lt.mpr F.above)
  have st : h₀.StaysIn (hideAll s.heap [L]) := fun b o e => hideAll_get _ (F.keep b o e) (hLn b o e)
  obtain ⟨oL, es, ep, hL, hLd, hLk, hLf⟩ := F.ns
  have hLt := Heap.lt_size hL
  have hkind : (envOf cn cs L a ccd).scope.kind ≠ .module := by
    show cs.kind ≠ .module
    rw [hck]; decide
  refine codeS_call_function (fd := fnOf name qual params body scope dV kV doc pm an cdv ct) hroom (X₀.keeps F.keep _ _ ho) rfl hco hgen rfl (codeRec_of (X₀.keeps F.keep) hcd) (hbind _ _ _ _ ?_)
  refine wpAny_newFunctionEnv hcell hloc (fun h₁ hns₁ hsb₁ => ⟨(T.nolimit.keeps F.keep).fresh _ hsb₁, codeS_func ?_⟩) hk
  have keep1 : ∀ b o, s.heap.get? b = some o → h₁.get? b = some o := fun b o e => hsb₁.extBut b o (Nat.ne_of_lt (Heap.lt_size e)) (Heap.get?_push_of_some _ e)
  refine h s.heap.objs.size h₁ oL ⟨fun h' sl e => ⟨_, es, ep, e, hLd, hLk, hLf⟩, ⟨es, ep, hLd⟩, F.above⟩ ⟨hkind, rfl, ⟨es, ep, hLd⟩, trivial⟩ ⟨hns₁, fun b o e => keep1 b o (of_hideAll _ e), Nat.le_of_eq (hideAll_size _ _)⟩
    (List.forall_mem_cons.mpr ⟨⟨keep1 _ _ hL, Nat.ne_of_lt hLt, hideAll_none _ (List.mem_singleton.mpr rfl)⟩, List.forall_mem_nil _⟩) (X₀.keeps st) (T.keeps st)
theorem ba_2 {Q : Value → Shared → Prop} {h₀ : Heap} {L I : Addr} {oi : Obj} {m : Str → Option Value} (hg : A.guards = some []) (F : Fr h₀ L s.heap m) (N : News h₀ L s.heap [(I, oi)])
    (h : ∀ h' D b', KBw.bInts b' = [] → I < D → Fr h₀ L h' m → News h₀ L h' [(D, baObj b'), (I, oi)] → Q (.ref D) { s with heap := h' }) : wpS (model prog w) A (call (.type "bytearray") []) Q s := by
  have y := N (I, oi) (.head _)
  have hlt := Heap.lt_size y.1
  refine call_ba hg fun h' e1 e2 => h h' _ #[] rfl hlt ?_ ?_
  · exact (F.push _).change e2 (fun e => absurd F.ns.lt (e ▸ Nat.lt_irrefl _)) (next_is_new F)
  · refine List.forall_mem_cons.mpr ⟨⟨e1, fun e => absurd F.ns.lt (e ▸ Nat.lt_irrefl _), next_is_new F⟩, List.forall_mem_cons.mpr ⟨⟨(e2.2 I (Nat.ne_of_lt hlt)).trans (Heap.get?_push_of_some _ y.1), y.2⟩, List.forall_mem_nil _⟩⟩
theorem bytes_2 {Q : Value → Shared → Prop} {E : Value → Shared → Prop} {h₀ : Heap} {L D : Addr} {b : Array UInt8} {os : List Int} {rest : List (Addr × Obj)} (N : News h₀ L s.heap ((D, baObj b) :: rest)) (hb : KBw.bInts b = os) (hz : os.length ≤ 16777216)
    (h : ∀ t k, Q (.bytes b t) { s with toks := k }) : wpAny (model prog w) A (call (.type "bytes") [.ref D]) Q E s :=
  call_bytes_ba (N (D, baObj b) (.head _)).1 (by rw [sizeLine_eq, ← KBw.ints_length b, hb]; exact hz) h
/-- the iterator of an empty bytes goes -/
theorem ext_two {h₀ h h' : Heap} {L D I : Addr} {m : Str → Option Value} {o oi : Obj} (F : Fr h₀ L h m) (N : News h₀ L h [(D, o), (I, oi)]) (hs : Heap.ExtBut h.objs.size h h') : Fr h₀ L h' m ∧ News h₀ L h' [(D, o), (I, oi)] := by
  have z := N (D, o) (.head _)
  have y := N (I, oi) (.tail _ (.head _))
  have kp : ∀ b o, h.get? b = some o → h'.get? b = some o := fun b o e => hs b o (Nat.ne_of_lt (Heap.lt_size e)) e
  exact ⟨F.keptAll kp, N.grown kp⟩
/-- back in the caller -/
theorem back_H {h₀ : Heap} {L L' : Addr} {m m' : Str → Option Value} {h h' : Heap} {oL : Obj} {sl : Array (Option Value)} {news : List (Addr × Obj)} (C : TI.Caller h₀ L m oL) (F' : Fr (hideAll h [L]) L' h' m') (N' : News (hideAll h [L]) L' h' news) (hm : (L, { oL with slots := sl }) ∈ news) (F : Fr h₀ L h m) :
    Fr h₀ L h' m ∧ ∀ b o, b ≠ L → h.get? b = some o → h'.get? b = some o := by
  have kp : ∀ b o, b ≠ L → h.get? b = some o → h'.get? b = some o := fun b o hb e => F'.keep b o (hideAll_get _ e fun hm => hb (List.mem_singleton.mp hm))
  refine ⟨⟨C.ns _ sl (N' _ hm).1, fun b o e => kp b o (fun eb => ?_) (F.keep b o e), C.above⟩, kp⟩
  rw [eb] at e
  exact absurd (Heap.lt_size e) (Nat.not_lt.mpr C.above)
end
end Mine
end

section
open PySem PySem.W PyProof.Rows
set_option maxRecDepth 100000
namespace Mine
/-- the places of the noughts -/
def zerosFrom : Nat → List Int → List Int
  | _, [] => []
  | i, x :: r => if x = 0 then (i : Int) :: zerosFrom (i + 1) r else zerosFrom (i + 1) r
theorem zeros_snoc : ∀ (ts : List Int) (x : Int) (i : Nat), zerosFrom i (ts ++ [x]) = zerosFrom i ts ++ (if x = 0 then [((i + ts.length : Nat) : Int)] else [])
  | [], x, i => by simp [zerosFrom]
  | y :: r, x, i => by
    simp only [List.cons_append, zerosFrom, zeros_snoc r x (i + 1), List.length_cons]
    rw [show i + 1 + r.length = i + (r.length + 1) from by omega]
    split <;> simp
theorem zeros_length : ∀ (ts : List Int) (i : Nat), (zerosFrom i ts).length ≤ ts.length
  | [], _ => by simp [zerosFrom]
  | y :: r, i => by
    have := zeros_length r (i + 1)
    simp only [zerosFrom]
    split
    · simp only [List.length_cons]; omega
    · simp only [List.length_cons]; omega
section
variable {prog : Program} {w : World} {A : Around} {E : Value → Shared → Prop} {s : Shared} {env : Env} {Q : Value → Shared → Prop}
theorem eval_local {x : Str} {p : Pos} {m : Str → Option Value} {v : Value} (hk : env.scope.kind = .function) (hl : env.kindOf x = some .local) (hn : s.heap.Ns env.locals m) (hv : m x = some v) (hd : (x == ("__debug__" : Str)) = false) (h : Q v s) :
    wpAny (model prog w) A (eval (.Name x p) env) Q E s := by
  rw [eval_Name (hd := hd)]
  exact wpAny_bind (wpAny_standAt (wpAny_loadName_local hk hl hn hv h))
theorem enum_tail {x x₂ : Str} {p1 px px₂ tp p7 p8 p9 pos : Pos} {tk k8} {iter : Expr} {scope : Scope} {cl : List (Str × Addr)} {e it l : Addr} {vs : List Value} {ts : List Int}
    (hh : A.handled = none) (hcell : ∀ y ∈ scope.names, y.2 ≠ .cell) (hkind : scope.kind = .function) (hx : scope.names.lookup x = some .local) (hx₂ : scope.names.lookup x₂ = some .local) (hxx : x ≠ x₂)
    (hxd : (x == ("__debug__" : Str)) = false) (hxd₂ : (x₂ == ("__debug__" : Str)) = false)
    (he : IsEnum s.heap e it 0 .none) (hit : s.heap.IsListIter it l 0) (hl : s.heap.IsList l vs.toArray) (hi : IntsAre vs ts) (hsz : ts.length ≤ 16777216)
    (hei : e ≠ it) (hle : l ≠ e) (hli : l ≠ it)
    (hQ : ∀ D n h' tk' ys, (∀ b o, b ≠ e → b ≠ it → s.heap.get? b = some o → h'.get? b = some o) → s.heap.objs.size ≤ D → h'.get? D = some { cls := .type "list", data := .seq ys.toArray n } → IntsAre ys (zerosFrom 0 ts) → Q (.ref D) { s with heap := h', toks := tk' }) :
    wpAny (model prog w) A (pyIter (.ref e)) (fun it s₂ => wpAny (model prog w) A (newList []) (fun acc s₃ =>
      wpAny (model prog w) A (newFunctionEnv scope env.globals cl [] env.qual none .none (some env)) (fun cenv s₄ =>
        codeAny (model prog w) A (.compStart (.ListComp (.Name x p1) [⟨.Tuple [.Name x px, .Name x₂ px₂] tk tp, iter, [.Compare (.Name x₂ p7) [.Eq] [.Constant (.int 0) k8 p8] p9], 0⟩] scope pos) 0 it acc { cenv with scope := relabel scope env }) (compPost (model prog w) A E none Q acc cenv.locals) s₄) E s₃) E s₂) E s := by
  refine wpAny_pyIter_enum he ?_
  refine wpAny_newObj_type (wpAny_newFunctionEnv hcell (by intro y hy; simp at hy) (fun h₁ hns₁ hsb₁ => ?_) hkind)
  dsimp only at hns₁ hsb₁ ⊢
  generalize hH2 : s.heap.push { cls := .type "list", dict := none, data := .seq ([] : List Value).toArray } = H2 at hns₁ hsb₁ ⊢
  have hC : H2.objs.size = s.heap.objs.size + 1 := by rw [← hH2, Heap.size_push]
  have hDC : s.heap.objs.size ≠ H2.objs.size := by rw [hC]; exact Nat.ne_of_lt (Nat.lt_succ_self _)
  have below : ∀ b, b < s.heap.objs.size → b ≠ H2.objs.size ∧ b ≠ s.heap.objs.size := fun b hb => ⟨by rw [hC]; exact Nat.ne_of_lt (Nat.lt_succ_of_lt hb), Nat.ne_of_lt hb⟩
  have old : ∀ b o, s.heap.get? b = some o → h₁.get? b = some o := fun b o e => hsb₁.extBut b o (below b (Heap.lt_size e)).1 (Heap.get?_push_of_some _ (hH2 ▸ Heap.get?_push_of_some _ e))
  have hacc : h₁.get? s.heap.objs.size = some { cls := .type "list", data := .seq ([] : List Value).toArray 0 } := hsb₁.extBut _ _ hDC (Heap.get?_push_of_some _ (hH2 ▸ Heap.get?_push_size _ rfl))
  have hiL : it < s.heap.objs.size := by obtain ⟨_, x, _⟩ := hit; exact Heap.lt_size x
  have heL : e < s.heap.objs.size := Heap.lt_size he
  have hlL : l < s.heap.objs.size := by obtain ⟨_, x, _⟩ := hl; exact Heap.lt_size x
  have hlen : vs.length = ts.length := hi.length
  have he1 : IsEnum h₁ e it ((0 : Nat) : Int) .none := old _ _ he
  have hit1 : h₁.IsListIter it l 0 := by obtain ⟨o, x, y⟩ := hit; exact ⟨o, old _ _ x, y⟩
  have hxk : Env.kindOf (compEnvC scope cl H2.objs.size env) x = some .local := lookup_relabel_local hx
  have hxk₂ : Env.kindOf (compEnvC scope cl H2.objs.size env) x₂ = some .local := lookup_relabel_local hx₂
  have hck : (compEnvC scope cl H2.objs.size env).scope.kind = .function := hkind
  have hp : ((compEnvC scope cl H2.objs.size env).scope.kind == .class || ((compEnvC scope cl H2.objs.size env).scope.kind == .module && (compEnvC scope cl H2.objs.size env).locals != (compEnvC scope cl H2.objs.size env).globals)) = false := by rw [hck]; rfl
  have loop : ∀ s₃ : Shared, s₃ = { s with heap := h₁, toks := s.toks + ([] : List (Str × Value)).length } →
      codeAny (model prog w) A (.compLoop (.ListComp (.Name x p1) [⟨.Tuple [.Name x px, .Name x₂ px₂] tk tp, iter, [.Compare (.Name x₂ p7) [.Eq] [.Constant (.int 0) k8 p8] p9], 0⟩] scope pos) 0 (.ref e) (.ref s.heap.objs.size) (compEnvC scope cl H2.objs.size env))
        (compPost (model prog w) A E none Q (.ref s.heap.objs.size) H2.objs.size) s₃ := by
    rintro s₃ rfl
    refine kct_loop (fun k s' => ∃ h tk i ys m' old n, s' = { s with heap := h, toks := tk } ∧ IsEnum h e it ((i : Nat) : Int) old ∧ h.IsListIter it l i ∧ (∀ b o, b ≠ e → b ≠ it → s.heap.get? b = some o → h.get? b = some o) ∧
      h.Ns H2.objs.size m' ∧ h.get? s.heap.objs.size = some { cls := .type "list", data := .seq (ys : List Value).toArray n } ∧ IntsAre ys (zerosFrom 0 (ts.take i)) ∧ i ≤ ts.length ∧ k = ts.length + 1 - i) ?_ (ts.length + 1)
      ⟨h₁, _, 0, [], _, .none, 0, rfl, he1, hit1, fun b o _ _ x => old b o x, hns₁, hacc, .nil, Nat.zero_le _, rfl⟩
    rintro k s' ⟨h, tk', i, ys, m', oldv, n, rfl, he', hit', hk', hn', hD', hys, hile, rfl⟩
    have hl' : h.IsList l vs.toArray := by obtain ⟨o, x, y⟩ := hl; exact ⟨o, hk' _ _ hle hli x, y⟩
    cases hv : vs.toArray[i]? with
    | none =>
      have hin : i = ts.length := by
        have : vs.length ≤ i := by simpa using hv
        omega
      subst hin
      refine wpAny_pyNext_enum_end hh he' hit' hl' hv fun h₂ hx₂' => ?_
      have hC' : H2.objs.size ≠ it := Ne.symm (below it hiL).1
      have hD2 : s.heap.objs.size ≠ it := Ne.symm (below it hiL).2
      refine ⟨m', hn'.extBut hx₂' hC', fun h₃ hs₃ => ?_⟩
      rw [List.take_length] at hys
      refine hQ _ n h₃ _ ys (fun b o hbe hbi x => hs₃.extBut b o (below b (Heap.lt_size x)).1 (hx₂' b o hbi (hk' b o hbe hbi x))) (Nat.le_refl _) (hs₃.extBut _ _ hDC (hx₂' _ _ hD2 hD')) hys
    | some v =>
      have hv' : vs[i]? = some v := by simpa using hv
      obtain ⟨z, tz, rfl, hz⟩ := IntsAre.at hi i v hv'
      have hlt : i < ts.length := (List.getElem?_eq_some_iff.mp hz).1
      have heH : e < h.objs.size := Heap.lt_size he'
      have hiH : it < h.objs.size := by obtain ⟨_, x, _⟩ := hit'; exact Heap.lt_size x
      have hCH : H2.objs.size < h.objs.size := hn'.lt
      have hDH : s.heap.objs.size < h.objs.size := Heap.lt_size hD'
      refine wpAny_pyNext_enum_item he' hit' hl' hv hei fun h₂ heo hit₂ ht₂ hz₂ hk₂ => ?_
      refine wpAny_letOwnedTupleGo_enum heo fun h₃ he₃ hs₃ => ?_
      replace hs₃ : Heap.SameBut e h₂ h₃ := hs₃
      have ht₃ : h₃.IsTuple h.objs.size #[.int i tk', .int z tz] := ⟨_, (hs₃.2 _ (Nat.ne_of_gt heH)).trans ht₂, rfl, _, rfl⟩
      have hz₃ : h₃.objs.size = h.objs.size + 1 := hs₃.1.trans hz₂
      refine wpAny_assign_Tuple hh ht₃ rfl rfl fun h₄ hx₄ => ?_
      replace hx₄ : Heap.ExtBut h₃.objs.size h₃ h₄ := hx₄
      have old₄ : ∀ b o, b < h.objs.size → h₃.get? b = some o → h₄.get? b = some o := fun b o hb x => hx₄ b o (by rw [hz₃]; exact Nat.ne_of_lt (Nat.lt_succ_of_lt hb)) x
      have hCe : H2.objs.size ≠ e := Ne.symm (below e heL).1
      have hCi : H2.objs.size ≠ it := Ne.symm (below it hiL).1
      have hDe : s.heap.objs.size ≠ e := Ne.symm (below e heL).2
      have hDi : s.heap.objs.size ≠ it := Ne.symm (below it hiL).2
      have hn₄ : h₄.Ns H2.objs.size m' := (hn'.at fun o x => hk₂ _ o hCe hCi x).sameBut hs₃ hCe |>.at fun o x => old₄ _ o hCH x
      show wpAny _ A (do holding [.int z tz] (assign (.Name x px) _ (.int i tk')); do holding [] (assign (.Name x₂ px₂) _ (.int z tz)); pure ()) _ _ _
      refine wpAny_bind (wpAny_holding (wpAny_assign_Name (wpAny_storeName_local hxk hn₄ (fun h₅ hn₅ hs₅ => ?_) hp)))
      replace hs₅ : Heap.SameBut H2.objs.size h₄ h₅ := hs₅
      refine wpAny_bind (wpAny_holding (wpAny_assign_Name (wpAny_storeName_local hxk₂ hn₅ (fun h₆ hn₆ hs₆ => wpAny_pure ?_) hp)))
      replace hs₆ : Heap.SameBut H2.objs.size h₅ h₆ := hs₆
      have up : ∀ b o, b ≠ H2.objs.size → b < h.objs.size → h₃.get? b = some o → h₆.get? b = some o := fun b o hbC hb x => hs₆.extBut b o hbC (hs₅.extBut b o hbC (old₄ b o hb x))
      have he₆ : IsEnum h₆ e it (((i + 1 : Nat) : Nat) : Int) (.int z tz) := by
        rw [show ((i + 1 : Nat) : Int) = (i : Int) + 1 from by omega]
        exact up e _ (Ne.symm hCe) heH he₃
      have hit₆ : h₆.IsListIter it l (i + 1) := by
        obtain ⟨o, x, y⟩ := hit₂
        exact ⟨o, up it _ (Ne.symm hCi) hiH ((hs₃.2 it (Ne.symm hei)).trans x), y⟩
      have keep₆ : ∀ b o, b ≠ e → b ≠ it → b ≠ H2.objs.size → h.get? b = some o → h₆.get? b = some o := fun b o hbe hbi hbC x => up b o hbC (Heap.lt_size x) ((hs₃.2 b hbe).trans (hk₂ b o hbe hbi x))
      have hkk : ∀ b o, b ≠ e → b ≠ it → s.heap.get? b = some o → h₆.get? b = some o := fun b o hbe hbi x => keep₆ b o hbe hbi (below b (Heap.lt_size x)).1 (hk' b o hbe hbi x)
      have hD₆ := keep₆ _ _ hDe hDi hDC hD'
      refine wpAny_isTrue_Compare1 (eval_local (v := .int z tz) hck hxk₂ hn₆ (by simp) hxd₂ ?_)
      refine wpAny_Constant_int ?_
      refine PyProof.Rows.eq_int (wpAny_truthy_bool ?_)
      have hsn := zeros_snoc (ts.take i) z 0
      have htk : ts.take i ++ [z] = ts.take (i + 1) := by rw [List.take_add_one, hz]; rfl
      rw [htk] at hsn
      have hlt' : (ts.take i).length = i := by rw [List.length_take]; omega
      by_cases hz0 : z = 0
      · subst hz0
        rw [if_pos (by decide)]
        refine eval_local (v := .int i tk') hck hxk hn₆ (by simp [hxx]) hxd ?_
        have hyl : ys.length ≤ i := by
          rw [hys.length]
          have := zeros_length (ts.take i) 0
          omega
        refine append_at (hsz := by rw [List.size_toArray, sizeLine_eq]; omega) hD₆ fun h₇ hs₇ hD₇ => ?_
        refine ⟨_, ?_, h₇, _, i + 1, ys ++ [.int i tk'], _, _, n + 1, rfl, hs₇.extBut _ _ (Ne.symm hDe) he₆, ?_, fun b o hbe hbi x => hs₇.extBut b o (below b (Heap.lt_size x)).2 (hkk b o hbe hbi x), hn₆.sameBut hs₇ (Ne.symm hDC), ?_, ?_, hlt, rfl⟩
        · omega
        · obtain ⟨o, x, y⟩ := hit₆
          exact ⟨o, hs₇.extBut _ _ (Ne.symm hDi) x, y⟩
        · rw [hD₇]
          simp
        · rw [hsn, if_pos rfl, hlt', Nat.zero_add]
          exact hys.append (.cons _ _ .nil)
      · rw [if_neg (by simpa using hz0)]
        refine ⟨_, ?_, h₆, _, i + 1, ys, _, _, _, rfl, he₆, hit₆, hkk, hn₆, hD₆, ?_, hlt, rfl⟩
        · omega
        · rw [hsn, if_neg hz0, List.append_nil]
          exact hys
  exact codeAny_compStart_list (loop _ rfl) (wpAny_pyIter_enum he1 (loop _ rfl))
end
end Mine
end

section
open PySem PySem.W PyProof.Rows
set_option maxRecDepth 100000
namespace Mine
section
variable {A : Around} {s : Shared} {prog : Program} {w : World} {env : Env} {E : Value → Shared → Prop} {Q : Value → Shared → Prop}
theorem list_fill : fillsNumberSlot (.type "list") "add" = pure false :=
  PySem.fillsNumberSlot_seq (id := "list.__add__") (r := none) (by rw [typeLookup_type, builtinLookup_eq_fast]; kernel_rfl) (by decide +kernel) (by rw [typeLookup_type, builtinLookup_eq_fast]; kernel_rfl) rfl
theorem list_slot_iadd : Slot "list" "__iadd__" "list.__iadd__" :=
  .of (owner := "list") (n := "__iadd__") (by rw [typeLookup_type, builtinLookup_eq_fast]; kernel_rfl) (by decide +kernel) (by decide +kernel) (by decide +kernel)
    (by first | exact .inl (by decide +kernel) | exact .inr (by decide +kernel)) (by rw [isSubtype_type]; kernel_rfl)
theorem list_seq_iadd : isSeqSlot (some (.builtin "list.__iadd__")) = true := by decide +kernel
theorem list_args_iadd (self x : Value) : argsOk "list.__iadd__" ⟨[self, x], []⟩ := by first | exact rfl | decide +kernel | kernel_rfl
theorem inplace_list {D b : Addr} {its its2 : Array Value} {n n2 : Nat} (hD : s.heap.get? D = some (listOf its n)) (hb : s.heap.get? b = some (listOf its2 n2)) (hz : its.size + its2.size ≤ 16777216)
    (h : ∀ h' n', Heap.SameBut D s.heap h' → h'.get? D = some (listOf (its ++ its2) n') → Q (.ref D) { s with heap := h' }) : wpAny (model prog w) A (inplaceOp .Add (.ref D) (.ref b)) Q E s := by
  have hTD : s.TypeIs (.ref D) "list" := ⟨_, hD, rfl⟩
  have hTb : s.TypeIs (.ref b) "list" := ⟨_, hb, rfl⟩
  unfold inplaceOp
  refine wpAny_holding ?_
  have hfi : fillsInplaceSlot (.type "list") "add" (Operator.Add == .Add) = pure false := by
    unfold fillsInplaceSlot
    show (typeLookup (.type "list") (dunderI "add") >>= fun fi => pure (fi.isSome && !isSeqSlot fi)) = pure false
    rw [show dunderI "add" = ("__iadd__" : Str) from by decide +kernel, list_slot_iadd.lookup]
    show (pure (true && !isSeqSlot (some (.builtin "list.__iadd__"))) : Sem Bool) = _
    rw [list_seq_iadd]; rfl
  have hsi : seqSlot? (.type "list") (dunderI "add") = pure (some (.builtin "list.__iadd__")) := by
    rw [show dunderI "add" = ("__iadd__" : Str) from by decide +kernel]
    exact PySem.seqSlot_of list_slot_iadd.lookup list_seq_iadd
  refine wpAny_bind (wpAny_typeOf hTD (wpAny_bind (wpAny_of_eq hfi ?_)))
  refine bm_if_false rfl ?_
  refine wpAny_bind (wpAny_binaryOp1_none (nm := "add") hTD hTb list_fill ?_)
  refine wpAny_bind (wpAny_of_eq hsi ?_)
  refine wpAny_bind (wpAny_rule ?_)
  have hd : ¬(!its.isEmpty && Builtin.List.listTooLong (its.size + its2.size)) = true := extend_door (by rw [sizeLine_eq]; exact hz)
  refine call_meets list_slot_iadd hTD F.entry_list_iadd (list_args_iadd _ _) (AutoSeq1.list___iadd___list_list_0 D its n b its2 n2 hd (by rw [sizeLine_eq]; omega) (by rw [sizeLine_eq]; omega)) ⟨hD, hb, ?_⟩
  have ho' : (s.heap.update D (Obj.mapSeq fun x => x ++ its2)).get? D = some (listOf (its ++ its2) (if (its ++ its2).size == its.size then n else n + 1)) := by
    rw [Heap.get?_update_self _ hD (by rw [mapSeq_app]; rfl), mapSeq_app]
  exact h _ _ (Heap.SameBut.update ..) ho'
/-- front += ..: the ledger that is kept is named -/
theorem iadd_L {h₀ : Heap} {L D b : Addr} {m : Str → Option Value} {news : List (Addr × Obj)} {vs ws : List Value} {xs ys : List Int} {n n2 : Nat} (keepL : List (Addr × Obj)) (F : Fr h₀ L s.heap m) (N : News h₀ L s.heap news)
    (hD : (D, listOf vs.toArray n) ∈ news) (hb : (b, listOf ws.toArray n2) ∈ news) (hv : IntsAre vs xs) (hw : IntsAre ws ys) (hk : ∀ p ∈ keepL, p ∈ news ∧ @Ne Nat p.1 D) (hz : xs.length + ys.length ≤ 16777216)
    (h : ∀ h' n' us, IntsAre us (xs ++ ys) → Fr h₀ L h' m → News h₀ L h' ((D, listOf us.toArray n') :: keepL) → Q (.ref D) { s with heap := h' }) : wpAny (model prog w) A (inplaceOp .Add (.ref D) (.ref b)) Q E s := by
  have z := N _ hD
  have hl1 := hv.length
  have hl2 := hw.length
  refine inplace_list z.1 (N _ hb).1 (by rw [List.size_toArray, List.size_toArray, hl1, hl2]; exact hz) fun h' n' hs e => ?_
  have e2 : vs.toArray ++ ws.toArray = (vs ++ ws).toArray := by simp
  rw [e2] at e
  refine h h' n' (vs ++ ws) (hv.append hw) (F.change hs z.2.1 z.2.2) (List.forall_mem_cons.mpr ⟨⟨e, z.2⟩, fun p hp => ?_⟩)
  have y := N p (hk p hp).1
  exact ⟨(hs.2 p.1 (hk p hp).2).trans y.1, y.2⟩
end
end Mine
end

section
open PySem PySem.W PyProof.Rows
set_option maxRecDepth 100000
namespace Mine
section
variable {A : Around} {s : Shared} {prog : Program} {w : World} {env : Env}
theorem forList {x px body} {Q : Flow → Shared → Prop} {I l : Addr} {items : Array Value} (P : Nat → Shared → Prop) (hh : A.handled = none)
    (hIt : ∀ i s', P i s' → s'.heap.IsListIter I l i ∧ s'.heap.IsList l items)
    (turn : ∀ i v s' h', P i s' → items[i]? = some v → h'.IsListIter I l (i + 1) → Heap.SameBut I s'.heap h' →
      wpAny (model prog w) A (bindName env x v) (fun _ s₂ => wpS (model prog w) A (execs body env) (fun f s₃ => match f with
            | .ret v => Q (.ret v) s₃
            | .brk => Q .next s₃
            | _ => P (i + 1) s₃) s₂) (fun _ _ => False) { s' with heap := h' })
    (done : ∀ s' h', P items.size s' → Heap.ExtBut I s'.heap h' → Q .next { s' with heap := h' }) (h0 : P 0 s) :
    codeS (model prog w) A (.forLoop (.Name x px) (.ref I) body [] env) Q s := by
  refine wpS_forLoop (fun n s' => ∃ i, P i s' ∧ i ≤ items.size ∧ n = items.size - i) ?_ items.size ⟨0, h0, Nat.zero_le _, rfl⟩
  rintro n s' ⟨i, hP, hi, rfl⟩
  obtain ⟨hit, hl⟩ := hIt i s' hP
  by_cases hlt : i < items.size
  · obtain ⟨v, hv⟩ : ∃ v, items[i]? = some v := ⟨items[i], by simp [hlt]⟩
    refine wpAny_pyNext_list_item hit hl hv fun h' hit' hs' => ?_
    refine wpAny_mono (turn i v s' h' hP hv hit' hs') (fun _ s₂ h₂ => wpS_mono h₂ fun f s₃ h₃ => ?_) fun _ _ x => x
    cases f with
    | next => exact ⟨_, by omega, i + 1, h₃, hlt, rfl⟩
    | cont => exact ⟨_, by omega, i + 1, h₃, hlt, rfl⟩
    | brk => exact h₃
    | ret v => exact h₃
  · have hi' : i = items.size := by omega
    subst hi'
    exact wpAny_pyNext_list_end hh hit hl (by simp) fun h' he => done s' h' hP he
end

/-- the gap ahead of a nought, in parts -/
def flushL (g : List Int) : List Int := if h : 254 ≤ g.length then 255 :: g.take 254 ++ flushL (g.drop 254) else ((g.length : Int) + 1) :: g
termination_by g.length
decreasing_by rw [List.length_drop]; omega
def finL (g : List Int) : List Int × List Int := if h : 254 < g.length then (255 :: g.take 254 ++ (finL (g.drop 254)).1, (finL (g.drop 254)).2) else ([], g)
termination_by g.length
decreasing_by all_goals (rw [List.length_drop]; omega)
def partsGo : List Int → List Int → List Int × List Int
  | g, [] => finL g
  | g, x :: t => if x = 0 then (flushL g ++ (partsGo [] t).1, (partsGo [] t).2) else partsGo (g ++ [x]) t
def partsL (ts : List Int) : List Int × List Int := partsGo [] ts

theorem flushL_big {g : List Int} (h : 254 ≤ g.length) : flushL g = 255 :: g.take 254 ++ flushL (g.drop 254) := by rw [flushL, dif_pos h]
theorem flushL_small {g : List Int} (h : g.length < 254) : flushL g = ((g.length : Int) + 1) :: g := by rw [flushL, dif_neg (by omega)]
theorem finL_big {g : List Int} (h : 254 < g.length) : finL g = (255 :: g.take 254 ++ (finL (g.drop 254)).1, (finL (g.drop 254)).2) := by rw [finL, dif_pos h]
theorem finL_small {g : List Int} (h : g.length ≤ 254) : finL g = ([], g) := by rw [finL, dif_neg (by omega)]
theorem partsGo_gap : ∀ (g g₀ t : List Int), (∀ x ∈ g, x ≠ 0) → partsGo g₀ (g ++ t) = partsGo (g₀ ++ g) t
  | [], g₀, t, _ => by simp
  | x :: g, g₀, t, h => by
    rw [List.cons_append, partsGo, if_neg (h x List.mem_cons_self), partsGo_gap g (g₀ ++ [x]) t fun y hy => h y (List.mem_cons_of_mem _ hy)]
    simp
theorem partsGo_zero {g t : List Int} (h : ∀ x ∈ g, x ≠ 0) : partsGo [] (g ++ 0 :: t) = (flushL g ++ (partsGo [] t).1, (partsGo [] t).2) := by
  rw [partsGo_gap g [] _ h, List.nil_append, partsGo, if_pos rfl]
theorem partsGo_end {g : List Int} (h : ∀ x ∈ g, x ≠ 0) : partsGo [] g = finL g := by
  have := partsGo_gap g [] [] h
  rw [List.append_nil, List.nil_append] at this
  rw [this, partsGo]
theorem zeros_cons : ∀ {r : List Int} {k : Nat} {p : Int} {q : List Int}, zerosFrom k r = p :: q → ∃ g t, r = g ++ 0 :: t ∧ (∀ x ∈ g, x ≠ 0) ∧ p = ((k + g.length : Nat) : Int) ∧ q = zerosFrom (k + g.length + 1) t
  | [], _, _, _, h => by simp [zerosFrom] at h
  | x :: r, k, p, q, h => by
    rw [zerosFrom] at h
    by_cases hx : x = 0
    · rw [if_pos hx] at h
      injection h with h1 h2
      refine ⟨[], r, by rw [hx]; rfl, by simp, by simp [← h1], by simp [← h2]⟩
    · rw [if_neg hx] at h
      obtain ⟨g, t, rfl, hg, rfl, rfl⟩ := zeros_cons h
      refine ⟨x :: g, t, rfl, fun y hy => ?_, by simp only [List.length_cons]; congr 1; omega, by simp only [List.length_cons]; congr 1; omega⟩
      rcases List.mem_cons.mp hy with rfl | hy
      · exact hx
      · exact hg y hy
theorem zeros_nil : ∀ {r : List Int} {k : Nat}, zerosFrom k r = [] → ∀ x ∈ r, x ≠ 0
  | [], _, _, x, hx => by cases hx
  | y :: r, k, h, x, hx => by
    rw [zerosFrom] at h
    by_cases hy : y = 0
    · rw [if_pos hy] at h; cases h
    · rw [if_neg hy] at h
      rcases List.mem_cons.mp hx with rfl | hx
      · exact hy
      · exact zeros_nil h x hx
theorem flushL_ge (g : List Int) : g.length ≤ (flushL g).length := by
  induction h : g.length using Nat.strongRecOn generalizing g with
  | ind n ih =>
    subst h
    by_cases hb : 254 ≤ g.length
    · rw [flushL_big hb]
      have := ih (g.drop 254).length (by rw [List.length_drop]; omega) _ rfl
      simp only [List.length_append, List.length_cons, List.length_take]
      rw [List.length_drop] at this
      omega
    · rw [flushL_small (by omega)]
      simp only [List.length_cons]
      omega
theorem flushL_length (g : List Int) : (flushL g).length ≤ 2 * g.length + 1 := by
  induction h : g.length using Nat.strongRecOn generalizing g with
  | ind n ih =>
    subst h
    by_cases hb : 254 ≤ g.length
    · rw [flushL_big hb]
      have := ih (g.drop 254).length (by rw [List.length_drop]; omega) _ rfl
      simp only [List.length_append, List.length_cons, List.length_take]
      rw [List.length_drop] at this
      omega
    · rw [flushL_small (by omega)]
      simp only [List.length_cons]
      omega
end Mine
namespace Mine
/-- the state of _law_parts between two noughts -/
def PartsInv (ts : List Int) (i : Nat) (fs : List Int) (st : Int) : Prop :=
  0 ≤ st ∧ st ≤ ts.length ∧ zerosFrom st.toNat (ts.drop st.toNat) = (zerosFrom 0 ts).drop i ∧ (fs ++ (partsGo [] (ts.drop st.toNat)).1, (partsGo [] (ts.drop st.toNat)).2) = partsL ts ∧ (fs.length : Int) ≤ 2 * st
theorem parts_start (ts : List Int) : PartsInv ts 0 [] 0 := ⟨by omega, by omega, by simp, by simp [partsL], by simp⟩
/-- the next nought: the gap ahead of it -/
theorem parts_gap {ts fs : List Int} {i : Nat} {st p : Int} (h : PartsInv ts i fs st) (hp : (zerosFrom 0 ts)[i]? = some p) :
    ∃ g, (ts.drop st.toNat).take (p - st).toNat = g ∧ st ≤ p ∧ p < ts.length ∧ (g.length : Int) = p - st ∧ PartsInv ts (i + 1) (fs ++ flushL g) (p + 1) := by
  obtain ⟨h0, h1, h2, h3, h4⟩ := h
  have hi : i < (zerosFrom 0 ts).length := (List.getElem?_eq_some_iff.mp hp).1
  have hd : (zerosFrom 0 ts).drop i = p :: (zerosFrom 0 ts).drop (i + 1) := by
    rw [List.drop_eq_getElem_cons hi]
    have := (List.getElem?_eq_some_iff.mp hp).2
    rw [this]
  rw [hd] at h2
  obtain ⟨g, t, hr, hg, hpe, hq⟩ := zeros_cons h2
  have hlen := congrArg List.length hr
  rw [List.length_drop, List.length_append, List.length_cons] at hlen
  have hpst : (p - st).toNat = g.length := by omega
  have hdrop : ts.drop (p + 1).toNat = t := by
    have e : (p + 1).toNat = st.toNat + (g.length + 1) := by omega
    rw [e, ← List.drop_drop, hr, ← List.drop_drop, List.drop_left]
    rfl
  refine ⟨g, ?_, by omega, by omega, by omega, by omega, by omega, ?_, ?_, ?_⟩
  · rw [hpst, hr, List.take_left]
  · rw [hdrop, hq]
    congr 1
    omega
  · rw [hdrop, ← h3, hr, partsGo_zero hg]
    simp
  · have := flushL_length g
    rw [List.length_append]
    omega
theorem parts_end {ts fs : List Int} {st : Int} (h : PartsInv ts (zerosFrom 0 ts).length fs st) : (fs ++ (finL (ts.drop st.toNat)).1, (finL (ts.drop st.toNat)).2) = partsL ts := by
  obtain ⟨h0, h1, h2, h3, h4⟩ := h
  rw [List.drop_length] at h2
  rw [← h3, partsGo_end (zeros_nil h2)]
end Mine
end

section
open PySem PySem.W PySem.Calls PyProof.Rows
set_option maxRecDepth 100000
namespace Mine
section
variable {A : Around} {s : Shared} {prog : Program} {w : World} {E : Value → Shared → Prop}
theorem ints_setLast : ∀ {vs : List Value} {xs : List Int} {c : Int} {u : Tok}, IntsAre vs xs → 0 < xs.length → IntsAre (vs.set (vs.length - 1) (.int c u)) (xs.take (xs.length - 1) ++ [c])
  | _, _, _, _, .nil, h => absurd h (by decide)
  | _, _, c, u, .cons _ _ (ns := []) (vs := vs) hr, _ => by
    cases hr
    exact .cons _ _ .nil
  | _, _, c, u, .cons _ _ (ns := y :: ys) (vs := vs) hr, _ => by
    obtain ⟨t', vs', rfl, _⟩ := IntsAre.cons_inv hr
    have ih := ints_setLast (c := c) (u := u) hr (Nat.succ_pos _)
    exact .cons _ _ ih
/-- row[-1] = c -/
theorem set_last {Q : Unit → Shared → Prop} {h₀ : Heap} {L D : Addr} {m : Str → Option Value} {vs : List Value} {xs : List Int} {n : Nat} {c : Int} {t u : Tok} (F : Fr h₀ L s.heap m) (N : News h₀ L s.heap [(D, listOf vs.toArray n)])
    (hv : IntsAre vs xs) (hx : 0 < xs.length)
    (h : ∀ h' us, IntsAre us (xs.take (xs.length - 1) ++ [c]) → Fr h₀ L h' m → News h₀ L h' [(D, listOf us.toArray n)] → Q () { s with heap := h' }) : wpAny (model prog w) A (setItem (.ref D) (.int (-1) t) (.int c u)) Q E s := by
  have z := N _ (.head _)
  have hl := hv.length
  refine ki_setBack z.1 (by decide) (by rw [List.size_toArray]; omega) (by decide) (h _ _ (ints_setLast (c := c) (u := u) hv hx) (F.change (Heap.SameBut.update ..) z.2.1 z.2.2) (ki_turn (pre := []) (post := []) _ N ?_ ?_ ?_ ?_))
  · exact fun _ hp => nomatch hp
  · exact fun _ hp => nomatch hp
  · show vs.toArray.setIfInBounds (-1 + (vs.toArray.size : Int)).toNat (.int c u) = _
    have e : (-1 + (vs.toArray.size : Int)).toNat = vs.length - 1 := by rw [List.size_toArray]; omega
    rw [e]
    simp
  · simp
end
end Mine
end

section
open PySem PySem.W PySem.Calls PyProof.Rows
set_option maxRecDepth 100000
namespace Mine
section
variable {A : Around} {s : Shared} {prog : Program} {w : World} {E : Value → Shared → Prop}
/-- what the place i of the new list holds -/
def ByteAt (b : Array UInt8) (i : Nat) (v : Value) : Prop := ∃ c u, b[i]? = some c ∧ v = .int (c.toNat : Int) u
theorem bytes_len : typeLookup (.type "bytes") "__len__" = pure (some (.builtin "bytes.__len__")) := by rw [typeLookup_type, builtinLookup_eq_fast]; kernel_rfl
theorem extend_bytes {R : Result → Shared → Prop} (hh : A.handled = none) (x : Array UInt8) (t : Tok) (S : Addr) (res : Value) (c₀ : Nat) (hS : s.heap.get? S = some { cls := .type "list", data := .seq #[] c₀ })
    (hR : ∀ h' tk acc' c', (∀ b o, b ≠ S → s.heap.get? b = some o → h'.get? b = some o) → h'.get? S = some { cls := .type "list", dict := none, data := .seq acc' c', slots := #[] } →
      ItemsOf (ByteAt x) acc' x.size → R (.ok (.ret res)) { s with heap := h', toks := tk }) (hn : x.size ≤ sizeLine) :
    wpAny (model prog w) A.in1 (Builtin.List.listExtendWith (.ref S) (.bytes x t) res)
      (fun fin s' => match fin with | .done f => R (.ok f) s' | .again c' => c'.quiet = true ∧ codeAny (model prog w) A c' R s') (fun e s' => R (.error e) s') s := by
  have hSI : S ≠ s.heap.objs.size := Nat.ne_of_lt (Heap.lt_size hS)
  have hSf : S ∉ [s.heap.objs.size] := fun hm => hSI (List.mem_singleton.mp hm)
  unfold Builtin.List.listExtendWith
  refine wpAny_bind (wpAny_typeOf (T := "bytes") (v := .bytes x t) rfl ?_)
  have h1 : Builtin.List.listSameRef (.ref S) (.bytes x t) = false := rfl
  have h2 : (Value.type "bytes" == Value.type "list") = false := by decide
  have h3 : (Value.type "bytes" == Value.type "tuple") = false := by decide
  simp only [h1, h2, h3, Bool.or_false, Bool.false_eq_true, if_false]
  refine wpAny_bind (KBw.pyIter_bytes ?_)
  refine wpAny_bind (wpAny_holding ?_)
  unfold Builtin.List.listLengthHint
  refine wpAny_bind (wpAny_specialOf (T := "bytes") (v := .bytes x t) rfl bytes_len ?_)
  wp_delta
  refine wpAny_bind (wpAny_isInstance (T := "bytes") (v := .bytes x t) (b := true) rfl (by rw [isSubtype_type]; kernel_rfl) ?_)
  show wpAny _ _ (typeOf (Value.bytes x t) >>= _) _ _ _
  refine wpAny_bind (wpAny_typeOf (T := "bytes") (v := .bytes x t) rfl ?_)
  refine wpAny_pure ?_
  rw [if_neg (by decide)]
  refine wpAny_pure ⟨plainId_quiet F.plain_extend_loop _, codeAny_extend_loopS (KBw.walks (A := A.in1) hh s.heap.objs.size x t).toS hn _ hSf _ x.size 0 _ _ _ rfl (Nat.zero_le _) ⟨_, Heap.get?_push_size _ rfl, rfl, rfl⟩ (Heap.get?_push_of_some _ hS) (ItemsOf.nil _) fun s' acc' c' hm hS' hacc => ?_⟩
  rw [Moved.eq_with hm]
  refine hR s'.heap s'.toks acc' c' (fun b ob hb e => hm.heap b ob (fun hmem => ?_) (Heap.get?_push_of_some _ e)) hS' hacc
  rcases List.mem_cons.mp hmem with e' | hmem
  · exact hb e'
  · exact absurd (Heap.lt_size e) (by rw [List.mem_singleton.mp hmem]; exact Nat.lt_irrefl _)
theorem list_init_bytes {R : Result → Shared → Prop} (hh : A.handled = none) (x : Array UInt8) (t : Tok) (S : Addr) (hS : s.heap.get? S = some { cls := .type "list", data := .seq #[] })
    (hR : ∀ h' tk acc' c', (∀ b o, b ≠ S → s.heap.get? b = some o → h'.get? b = some o) → h'.get? S = some { cls := .type "list", dict := none, data := .seq acc' c', slots := #[] } →
      ItemsOf (ByteAt x) acc' x.size → R (.ok (.ret .none)) { s with heap := h', toks := tk }) (hn : x.size ≤ sizeLine) :
    wpAny (model prog w) A.in1 (Builtin.«list.__init__» ⟨[.ref S, .bytes x t], []⟩)
      (fun fin s' => match fin with | .done f => R (.ok f) s' | .again c' => c'.quiet = true ∧ codeAny (model prog w) A c' R s') (fun e s' => R (.error e) s') s := by
  show wpAny _ _ (do let old ← Builtin.List.listItems (.ref S); Builtin.List.listUpdate (.ref S) (fun _ => #[]); letGo old.toList.reverse; Builtin.List.listExtendWith (.ref S) (.bytes x t) .none) _ _ s
  refine wpAny_bind ?_
  unfold Builtin.List.listItems
  refine wpAny_bind (wpAny_seqItems hS rfl (wpAny_pure ?_))
  show wpAny _ _ (updateSeq S (fun _ => #[]) >>= fun _ => letGo (#[] : Array Value).toList.reverse >>= fun _ => Builtin.List.listExtendWith (.ref S) (.bytes x t) .none) _ _ s
  refine wpAny_bind (wpAny_updateSeq hS rfl ?_)
  have hS₂ := Heap.get?_update_self (Obj.mapSeq (fun _ => (#[] : Array Value))) hS rfl
  have oth : ∀ b o, b ≠ S → s.heap.get? b = some o → (s.heap.update S (Obj.mapSeq (fun _ => (#[] : Array Value)))).get? b = some o :=
    fun b o hb e => (Heap.get?_update_other _ _ (Ne.symm hb)).trans e
  refine wpAny_bind (wpAny_letGo ?_)
  refine extend_bytes (hn := hn) hh x t S .none _ hS₂ fun h' tk acc' c' hk hS' hacc => ?_
  exact hR h' tk acc' c' (fun b o hb e => hk b o hb (oth b o hb e)) hS' hacc
theorem call_list_bytes {Q : Value → Shared → Prop} (hh : A.handled = none) (x : Array UInt8) (t : Tok)
    (hQ : ∀ h' tk acc' c', (∀ b o, s.heap.get? b = some o → h'.get? b = some o) →
      h'.get? s.heap.objs.size = some { cls := .type "list", dict := none, data := .seq acc' c', slots := #[] } → ItemsOf (ByteAt x) acc' x.size → Q (.ref s.heap.objs.size) { s with heap := h', toks := tk }) (hn : x.size ≤ sizeLine) :
    wpAny (model prog w) A (call (.type "list") [.bytes x t]) Q E s := by
  refine callType_codes (Q₁ := fun obj s₁ => obj = .ref s.heap.objs.size ∧ s₁ = { s with heap := s.heap.push { cls := .type "list", data := .seq #[] } }) F.called_list (F.typeCall_list_1 _) F.entry_list_init
    (code_list_new _ ⟨rfl, rfl⟩) fun obj s₁ h₁ => ?_
  obtain ⟨rfl, rfl⟩ := h₁
  have hS : (s.heap.push { cls := .type "list", data := .seq #[] }).get? s.heap.objs.size = some { cls := .type "list", data := .seq #[] } := Heap.get?_push_size _ rfl
  refine ⟨⟨_, hS, rfl⟩, F.args_list_init_2 _ _, list_init_bytes (A := A.in1) (hn := hn) hh x t _ hS fun h' tk acc' c' hk hS' hacc => ?_⟩
  exact ⟨rfl, hQ h' tk acc' c' (fun b o e => hk b o (Nat.ne_of_lt (Heap.lt_size e)) (Heap.get?_push_of_some _ e)) hS' hacc⟩
theorem ints_of_get : ∀ (vs : List Value) (ks : List Int), vs.length = ks.length → (∀ (i : Nat) (v : Value), vs[i]? = some v → ∃ k t, ks[i]? = some k ∧ v = Value.int k t) → IntsAre vs ks
  | [], [], _, _ => .nil
  | [], _ :: _, h, _ => nomatch h
  | _ :: _, [], h, _ => nomatch h
  | v :: vs, k :: ks, hl, h => by
    obtain ⟨k', t, e, rfl⟩ := h 0 v rfl
    cases e
    exact .cons _ _ (ints_of_get vs ks (Nat.succ.inj hl) fun i v e => h (i + 1) v e)
/-- list(b) upon a ledger -/
theorem list_bytes_K {Q : Value → Shared → Prop} {h₀ : Heap} {L : Addr} {m : Str → Option Value} {news : List (Addr × Obj)} {x : Array UInt8} {t : Tok} {ks : List Int} (hh : A.handled = none) (F : Fr h₀ L s.heap m) (N : News h₀ L s.heap news) (hb : KBw.bInts x = ks) (hz : ks.length ≤ 16777216)
    (hQ : ∀ D h' tk us n, IntsAre us ks → Fr h₀ L h' m → News h₀ L h' ((D, listOf us.toArray n) :: news) → (∀ p ∈ news, @LT.lt Nat _ p.1 D) → (∀ b o, s.heap.get? b = some o → h'.get? b = some o) → @Eq Nat D s.heap.objs.size → Q (.ref D) { s with heap := h', toks := tk }) :
    wpAny (model prog w) A (call (.type "list") [.bytes x t]) Q E s := by
  have hsz : x.size = ks.length := by rw [← hb, KBw.ints_length]
  refine call_list_bytes hh x t (fun h' tk acc' c' hk hS' hacc => ?_) (by rw [sizeLine_eq, hsz]; exact hz)
  have hn : h₀.get? s.heap.objs.size = none := next_is_new F
  refine hQ s.heap.objs.size h' tk acc'.toList c' ?_ (F.keptAll hk) (List.forall_mem_cons.mpr ⟨⟨?_, fun e => absurd F.ns.lt (e ▸ Nat.lt_irrefl _), hn⟩, N.grown hk⟩) (fun p hp => Heap.lt_size (N p hp).1) hk rfl
  · refine ints_of_get _ _ (by simp [hacc.1, hsz]) fun i v hv => ?_
    obtain ⟨c, u, hc, rfl⟩ := hacc.2 i v (by simpa using hv)
    exact ⟨_, u, by rw [← hb]; exact KBw.ints_get hc, rfl⟩
  · exact hS'
end
end Mine
end

section
open PySem PySem.W PyProof.Rows
namespace Mine
/-- all in 1..255 -/
def Oct (ks : List Int) : Prop := ∀ x ∈ ks, 1 ≤ x ∧ x ≤ 255
theorem Oct.append {a b : List Int} (ha : Oct a) (hb : Oct b) : Oct (a ++ b) := fun x hx => (List.mem_append.mp hx).elim (ha x) (hb x)
theorem Oct.take {a : List Int} (ha : Oct a) (n : Nat) : Oct (a.take n) := fun x hx => ha x (List.mem_of_mem_take hx)
theorem Oct.drop {a : List Int} (ha : Oct a) (n : Nat) : Oct (a.drop n) := fun x hx => ha x (List.mem_of_mem_drop hx)
theorem Oct.one {a : Int} (h1 : 1 ≤ a) (h2 : a ≤ 255) : Oct [a] := fun x hx => by rw [List.mem_singleton.mp hx]; exact ⟨h1, h2⟩
theorem Oct.cons {a : Int} {l : List Int} (h1 : 1 ≤ a) (h2 : a ≤ 255) (hl : Oct l) : Oct (a :: l) := fun x hx => by
  rcases List.mem_cons.mp hx with rfl | hx
  · exact ⟨h1, h2⟩
  · exact hl x hx
theorem Oct.ne {ks : List Int} (h : Oct ks) : ∀ x ∈ ks, x ≠ 0 := fun x hx => by have := h x hx; omega
theorem Oct.nil : Oct [] := fun _ h => nomatch h

/-- a text is a gap and a nought and a text, or a gap -/
theorem split_zero : ∀ ts : List Int, (∀ x ∈ ts, x ≠ 0) ∨ ∃ g t, ts = g ++ 0 :: t ∧ ∀ x ∈ g, x ≠ 0
  | [] => .inl fun _ h => nomatch h
  | x :: ts => by
    by_cases hx : x = 0
    · exact .inr ⟨[], ts, by rw [hx]; rfl, fun _ h => nomatch h⟩
    · rcases split_zero ts with h | ⟨g, t, rfl, hg⟩
      · exact .inl (List.forall_mem_cons.mpr ⟨hx, h⟩)
      · exact .inr ⟨x :: g, t, rfl, List.forall_mem_cons.mpr ⟨hx, hg⟩⟩

theorem dec_part {c : Int} {g x : List Int} (hc : c = (g.length : Int) + 1) (hx : x ≠ []) : decL (c :: (g ++ x)) = g ++ (if c < 255 then [0] else []) ++ decL x := by
  have hxl : 0 < x.length := List.length_pos_iff.mpr hx
  rw [decL_more (by omega) (by rw [List.length_append]; omega)]
  have e : (c - 1).toNat = g.length := by omega
  rw [e, List.take_left, List.drop_left]
theorem dec_flush (g : List Int) (x : List Int) (hx : x ≠ []) : decL (flushL g ++ x) = g ++ 0 :: decL x := by
  induction h : g.length using Nat.strongRecOn generalizing g with
  | ind n ih =>
    subst h
    by_cases hb : 254 ≤ g.length
    · have hl : (g.take 254).length = 254 := by rw [List.length_take]; omega
      rw [flushL_big hb, List.cons_append, List.cons_append, List.append_assoc, dec_part (by rw [hl]; rfl) (by simp [hx]), if_neg (by decide), List.append_nil, ih (g.drop 254).length (by rw [List.length_drop]; omega) _ rfl, ← List.append_assoc, List.take_append_drop]
    · rw [flushL_small (by omega), List.cons_append, dec_part rfl hx, if_pos (by omega), List.append_assoc]
      rfl
theorem dec_fin (g : List Int) : ∃ p, g = p ++ (finL g).2 ∧ (finL g).2.length ≤ 254 ∧ ((finL g).2 = [] → g = []) ∧ ∀ x, x ≠ [] → decL ((finL g).1 ++ x) = p ++ decL x := by
  induction h : g.length using Nat.strongRecOn generalizing g with
  | ind n ih =>
    subst h
    by_cases hb : 254 < g.length
    · have hl : (g.take 254).length = 254 := by rw [List.length_take]; omega
      obtain ⟨p, h1, h2, h3, h4⟩ := ih (g.drop 254).length (by rw [List.length_drop]; omega) _ rfl
      rw [finL_big hb]
      refine ⟨g.take 254 ++ p, ?_, h2, fun e => ?_, fun x hx => ?_⟩
      · rw [List.append_assoc]
        dsimp only
        rw [← h1, List.take_append_drop]
      · have e2 := congrArg List.length (h3 e)
        rw [List.length_drop, List.length_nil] at e2
        omega
      · dsimp only
        rw [List.cons_append, List.cons_append, List.append_assoc, dec_part (by rw [hl]; rfl) (by simp [hx]), if_neg (by decide), List.append_nil, h4 x hx, List.append_assoc]
    · rw [finL_small (by omega)]
      exact ⟨[], rfl, by dsimp only; omega, fun e => e, fun x _ => rfl⟩
/-- the reader upon the front and any row behind it -/
theorem dec_parts (ts : List Int) : ∃ p, ts = p ++ (partsL ts).2 ∧ (partsL ts).2.length ≤ 254 ∧ ((partsL ts).2 = [] → ts.getLastD 0 = 0) ∧ (∀ x ∈ (partsL ts).2, x ≠ 0) ∧ ∀ x, x ≠ [] → decL ((partsL ts).1 ++ x) = p ++ decL x := by
  induction h : ts.length using Nat.strongRecOn generalizing ts with
  | ind n ih =>
    subst h
    rcases split_zero ts with hn | ⟨g, t, rfl, hg⟩
    · unfold partsL
      rw [partsGo_end hn]
      obtain ⟨p, h1, h2, h3, h4⟩ := dec_fin ts
      refine ⟨p, h1, h2, fun e => by rw [h3 e]; rfl, fun x hx => hn x ?_, h4⟩
      rw [h1]
      exact List.mem_append_right _ hx
    · obtain ⟨p, h1, h2, h3, h4, h5⟩ := ih t.length (by rw [List.length_append, List.length_cons]; omega) t rfl
      unfold partsL at *
      rw [partsGo_zero hg]
      refine ⟨g ++ 0 :: p, ?_, h2, fun e => ?_, h4, fun x hx => ?_⟩
      · rw [List.append_assoc, List.cons_append]
        dsimp only
        rw [← h1]
      · have := h3 e
        rw [List.getLastD_eq_getLast?] at this ⊢
        rw [List.getLast?_append, List.getLast?_cons]
        simp only [Option.some_or, Option.getD_some]
        exact this
      · dsimp only
        rw [List.append_assoc, dec_flush _ _ (by simp [hx]), h5 x hx, List.append_assoc]
        rfl
/-- the front is a row without a nought -/
theorem oct_flush (g : List Int) (hg : Oct g) : Oct (flushL g) := by
  induction h : g.length using Nat.strongRecOn generalizing g with
  | ind n ih =>
    subst h
    by_cases hb : 254 ≤ g.length
    · rw [flushL_big hb]
      exact (Oct.cons (by decide) (by decide) (hg.take _)).append (ih (g.drop 254).length (by rw [List.length_drop]; omega) _ (hg.drop _) rfl)
    · rw [flushL_small (by omega)]
      exact Oct.cons (by omega) (by omega) hg
theorem oct_fin (g : List Int) (hg : Oct g) : Oct (finL g).1 ∧ (finL g).1.length ≤ 2 * g.length := by
  induction h : g.length using Nat.strongRecOn generalizing g with
  | ind n ih =>
    subst h
    by_cases hb : 254 < g.length
    · rw [finL_big hb]
      obtain ⟨h1, h2⟩ := ih (g.drop 254).length (by rw [List.length_drop]; omega) _ (hg.drop _) rfl
      refine ⟨(Oct.cons (by decide) (by decide) (hg.take _)).append h1, ?_⟩
      simp only [List.length_append, List.length_cons, List.length_take]
      rw [List.length_drop] at h2
      omega
    · rw [finL_small (by omega)]
      exact ⟨Oct.nil, Nat.zero_le _⟩
/-- all in 0..255 -/
def Byt (ts : List Int) : Prop := ∀ x ∈ ts, 0 ≤ x ∧ x ≤ 255
theorem Byt.oct {ts : List Int} (h : Byt ts) (hn : ∀ x ∈ ts, x ≠ 0) : Oct ts := fun x hx => by have := h x hx; have := hn x hx; omega
theorem oct_parts (ts : List Int) (ht : Byt ts) : Oct (partsL ts).1 ∧ (partsL ts).1.length ≤ 2 * ts.length := by
  induction h : ts.length using Nat.strongRecOn generalizing ts with
  | ind n ih =>
    subst h
    rcases split_zero ts with hn | ⟨g, t, rfl, hg⟩
    · unfold partsL
      rw [partsGo_end hn]
      exact oct_fin ts (ht.oct hn)
    · obtain ⟨h1, h2⟩ := ih t.length (by rw [List.length_append, List.length_cons]; omega) t (fun x hx => ht x (List.mem_append_right _ (List.mem_cons_of_mem _ hx))) rfl
      unfold partsL at *
      rw [partsGo_zero hg]
      have h3 := flushL_length g
      refine ⟨(oct_flush g (Byt.oct (fun x hx => ht x (List.mem_append_left _ hx)) hg)).append h1, ?_⟩
      simp only [List.length_append, List.length_cons]
      omega
theorem dec_byt (ks : List Int) (hk : Oct ks) : Byt (decL ks) := by
  induction h : ks.length using Nat.strongRecOn generalizing ks with
  | ind n ih =>
    subst h
    cases ks with
    | nil => rw [decL_nil]; exact fun _ h => nomatch h
    | cons c r =>
      have hc := hk c List.mem_cons_self
      have hr : Oct r := fun x hx => hk x (List.mem_cons_of_mem _ hx)
      have ob : ∀ {l : List Int}, Oct l → Byt l := fun hl x hx => by have := hl x hx; omega
      rw [decL]
      split
      · exact ob (hr.append (Oct.one hc.1 hc.2))
      · split
        · exact ob hr
        · intro x hx
          rcases List.mem_append.mp hx with hx | hx
          · rcases List.mem_append.mp hx with hx | hx
            · exact ob (hr.take _) x hx
            · split at hx
              · rw [List.mem_singleton.mp hx]; decide
              · cases hx
          · exact ih (r.drop (c - 1).toNat).length (by rw [List.length_drop, List.length_cons]; omega) _ (hr.drop _) rfl x hx

/-- the rows of a text -/
def row0 (ts : List Int) : List Int := (partsL ts).1 ++ ((((partsL ts).2.length : Int) + 1) :: (partsL ts).2)
def rowLow (ts : List Int) : List Int := (partsL ts).1 ++ ((partsL ts).2.getLastD 0 :: (partsL ts).2.dropLast)
def IsRow (ts x : List Int) : Prop :=
  x = row0 ts ∨ (x = row0 ts ++ [1] ∧ (partsL ts).2.length = 254) ∨ (x = rowLow ts ∧ 0 < (partsL ts).2.length ∧ ((partsL ts).2.length : Int) < (partsL ts).2.getLastD 0) ∨ (x = [] ∧ ts = [])
theorem last_eq {l : List Int} (h : 0 < l.length) : l.dropLast ++ [l.getLastD 0] = l := by
  have hne : l ≠ [] := List.length_pos_iff.mp h
  rw [List.getLastD_eq_getLast?, List.getLast?_eq_some_getLast hne, Option.getD_some, List.dropLast_concat_getLast hne]
/-- each row of a text is read as the text -/
theorem row_read {ts x : List Int} (h : IsRow ts x) : decL x = ts := by
  obtain ⟨p, h1, h2, h3, h4, h5⟩ := dec_parts ts
  rcases h with rfl | ⟨rfl, hz⟩ | ⟨rfl, hp, hl⟩ | ⟨rfl, rfl⟩
  · unfold row0
    rw [h5 _ (by simp), decL_end (by omega), ← h1]
  · unfold row0
    rw [List.append_assoc, h5 _ (by simp), List.cons_append, dec_part rfl (by simp), if_neg (by omega), List.append_nil, decL_end (by simp), List.append_nil, ← h1]
  · unfold rowLow
    rw [h5 _ (by simp), decL_over (by rw [List.length_dropLast]; omega), last_eq hp, ← h1]
  · exact decL_nil
theorem row_oct {ts x : List Int} (ht : Byt ts) (h : IsRow ts x) : Oct x ∧ x.length ≤ 2 * ts.length + 256 := by
  obtain ⟨p, h1, h2, h3, h4, h5⟩ := dec_parts ts
  obtain ⟨o1, o2⟩ := oct_parts ts ht
  have o3 : Oct (partsL ts).2 := Byt.oct (fun x hx => ht x (by rw [h1]; exact List.mem_append_right _ hx)) h4
  rcases h with rfl | ⟨rfl, hz⟩ | ⟨rfl, hp, hl⟩ | ⟨rfl, rfl⟩
  · unfold row0
    exact ⟨o1.append (Oct.cons (by omega) (by omega) o3), by rw [List.length_append, List.length_cons]; omega⟩
  · unfold row0
    exact ⟨(o1.append (Oct.cons (by omega) (by omega) o3)).append (Oct.one (by decide) (by decide)), by simp only [List.length_append, List.length_cons, List.length_nil]; omega⟩
  · unfold rowLow
    have hm : (partsL ts).2.getLastD 0 ∈ (partsL ts).2 := by
      have e := last_eq hp
      rw [← e]
      simp
    have hb := o3 _ hm
    refine ⟨o1.append (Oct.cons hb.1 hb.2 (fun x hx => o3 x ((List.dropLast_sublist _).subset hx))), ?_⟩
    rw [List.length_append, List.length_cons, List.length_dropLast]; omega
  · exact ⟨Oct.nil, by simp⟩

theorem parts_gap0 {g t : List Int} (hg : ∀ x ∈ g, x ≠ 0) : partsL (g ++ 0 :: t) = (flushL g ++ (partsL t).1, (partsL t).2) := partsGo_zero hg
theorem parts_full {g t : List Int} (hg : ∀ x ∈ g, x ≠ 0) (hl : g.length = 254) (ht : t ≠ []) : partsL (g ++ t) = (255 :: g ++ (partsL t).1, (partsL t).2) := by
  rcases split_zero t with hn | ⟨g', t', rfl, hg'⟩
  · have htl : 0 < t.length := List.length_pos_iff.mpr ht
    unfold partsL
    rw [partsGo_end hn, partsGo_end (fun x hx => (List.mem_append.mp hx).elim (hg x) (hn x)), finL_big (by rw [List.length_append]; omega), ← hl, List.take_left, List.drop_left]
  · rw [parts_gap0 hg', ← List.append_assoc, parts_gap0 (fun x hx => (List.mem_append.mp hx).elim (hg x) (hg' x)), flushL_big (by rw [List.length_append]; omega), ← hl, List.take_left, List.drop_left]
    simp
theorem parts_plain {g : List Int} (hg : ∀ x ∈ g, x ≠ 0) (hl : g.length ≤ 254) : partsL g = ([], g) := by
  unfold partsL
  rw [partsGo_end hg, finL_small hl]
/-- a row is kept when the same is laid ahead of it -/
theorem row_ahead {ts t x q : List Int} (e : partsL ts = (q ++ (partsL t).1, (partsL t).2)) (h : IsRow t x) (hx : x ≠ []) : IsRow ts (q ++ x) := by
  unfold IsRow row0 rowLow at *
  rw [e]
  dsimp only
  rcases h with rfl | ⟨rfl, hz⟩ | ⟨rfl, hp, hl⟩ | ⟨rfl, rfl⟩
  · exact .inl (by simp)
  · exact .inr (.inl ⟨by simp, hz⟩)
  · exact .inr (.inr (.inl ⟨by simp, hp, hl⟩))
  · exact absurd rfl hx
/-- the drawn row is one of the rows of its own text -/
theorem row_own (ks : List Int) (hk : Oct ks) : IsRow (decL ks) ks := by
  induction h : ks.length using Nat.strongRecOn generalizing ks with
  | ind n ih =>
    subst h
    cases ks with
    | nil => exact .inr (.inr (.inr ⟨rfl, decL_nil⟩))
    | cons c r =>
      have hc := hk c List.mem_cons_self
      have hr : Oct r := fun x hx => hk x (List.mem_cons_of_mem _ hx)
      by_cases h1 : (r.length : Int) < c - 1
      · rw [decL_over h1]
        have e := parts_plain (g := r ++ [c]) (hr.append (Oct.one hc.1 hc.2)).ne (by rw [List.length_append, List.length_singleton]; omega)
        refine .inr (.inr (.inl ?_))
        unfold rowLow
        rw [e]
        simp only [List.nil_append, List.getLastD_concat, List.dropLast_concat, List.length_append, List.length_singleton, true_and]
        omega
      · by_cases h2 : (r.length : Int) = c - 1
        · rw [decL_end h2]
          refine .inl ?_
          unfold row0
          rw [parts_plain hr.ne (by omega)]
          dsimp only
          rw [List.nil_append]
          congr 1
          omega
        · have h3 : c - 1 < (r.length : Int) := by omega
          have hl : (r.take (c - 1).toNat).length = (c - 1).toNat := by rw [List.length_take]; omega
          have hne : r.drop (c - 1).toNat ≠ [] := by
            intro e
            have := congrArg List.length e
            rw [List.length_drop, List.length_nil] at this
            omega
          have hi := ih (r.drop (c - 1).toNat).length (by rw [List.length_drop, List.length_cons]; omega) _ (hr.drop _) rfl
          have hg := (hr.take (c - 1).toNat).ne
          have er := List.take_append_drop (c - 1).toNat r
          rw [decL_more hc.1 h3]
          generalize r.take (c - 1).toNat = g at *
          generalize r.drop (c - 1).toNat = x at *
          subst er
          by_cases h4 : c < 255
          · rw [if_pos h4, List.append_assoc, List.singleton_append]
            refine row_ahead (q := c :: g) (t := decL x) ?_ hi hne
            rw [parts_gap0 hg, flushL_small (by omega)]
            have e : (g.length : Int) + 1 = c := by omega
            rw [e]
          · rw [if_neg h4, List.append_nil]
            have ec : c = 255 := by omega
            subst ec
            have hl' : g.length = 254 := hl
            by_cases ht : decL x = []
            · rw [ht] at hi ⊢
              rw [List.append_nil]
              have e := parts_plain hg (by omega)
              have ex : x = [1] := by
                have e0 := parts_plain (g := []) (fun _ h => nomatch h) (by decide)
                unfold IsRow row0 rowLow at hi
                rw [e0] at hi
                rcases hi with rfl | ⟨rfl, hz⟩ | ⟨rfl, hp, _⟩ | ⟨rfl, _⟩
                · rfl
                · exact absurd hz (by decide)
                · exact absurd hp (by decide)
                · exact absurd rfl hne
              subst ex
              refine .inr (.inl ?_)
              unfold row0
              rw [e]
              dsimp only
              rw [hl']
              exact ⟨rfl, rfl⟩
            · exact row_ahead (q := 255 :: g) (t := decL x) (parts_full hg hl' ht) hi hne

theorem enc_gap : ∀ (g os r : List Int), (∀ x ∈ g, x ≠ 0) → r.length ≤ 254 → g.foldl encStep (os, r) = (os ++ (finL (r ++ g)).1, (finL (r ++ g)).2)
  | [], os, r, _, hr => by
    rw [List.append_nil, finL_small hr]
    simp
  | x :: g, os, r, hg, hr => by
    have hx := hg x List.mem_cons_self
    have hg' : ∀ y ∈ g, y ≠ 0 := fun y hy => hg y (List.mem_cons_of_mem _ hy)
    rw [List.foldl_cons]
    by_cases hl : r.length = 254
    · have e : encStep (os, r) x = (os ++ 255 :: r, [x]) := by
        unfold encStep encFlush encPut
        simp only [hl, if_true, hx, if_false, List.nil_append]
      rw [e, enc_gap g _ [x] hg' (by rw [List.length_singleton]; decide), finL_big (g := r ++ x :: g) (by rw [List.length_append, List.length_cons]; omega), ← hl, List.take_left, List.drop_left]
      simp
    · have e : encStep (os, r) x = (os, r ++ [x]) := by
        unfold encStep encFlush encPut
        simp only [hl, hx, if_false]
      rw [e, enc_gap g _ _ hg' (by rw [List.length_append, List.length_singleton]; omega), List.append_assoc]
      rfl
theorem enc_flushed (g os : List Int) : encStep (os ++ (finL g).1, (finL g).2) 0 = (os ++ flushL g, []) := by
  induction h : g.length using Nat.strongRecOn generalizing g os with
  | ind n ih =>
    subst h
    by_cases h1 : 254 < g.length
    · have hi := ih (g.drop 254).length (by rw [List.length_drop]; omega) (g.drop 254) (os ++ 255 :: g.take 254) rfl
      rw [finL_big h1, flushL_big (by omega)]
      dsimp only
      rw [← List.append_assoc, hi, List.append_assoc]
    · rw [finL_small (by omega)]
      by_cases h2 : g.length = 254
      · rw [flushL_big (by omega), ← h2, List.take_length, List.drop_length, flushL_small (by decide)]
        unfold encStep encFlush encPut
        simp [h2]
      · rw [flushL_small (by omega)]
        unfold encStep encFlush encPut
        simp [h2]
theorem enc_fold (ts os : List Int) : ts.foldl encStep (os, []) = (os ++ (partsL ts).1, (partsL ts).2) := by
  induction h : ts.length using Nat.strongRecOn generalizing ts os with
  | ind n ih =>
    subst h
    rcases split_zero ts with hn | ⟨g, t, rfl, hg⟩
    · unfold partsL
      rw [partsGo_end hn, enc_gap ts os [] hn (by decide), List.nil_append]
    · rw [parts_gap0 hg, List.foldl_append, List.foldl_cons, enc_gap g os [] hg (by decide), List.nil_append, enc_flushed, ih t.length (by rw [List.length_append, List.length_cons]; omega) t _ rfl, List.append_assoc]
/-- the writer writes the shortest row -/
theorem enc_least (ts : List Int) : encL ts = if 0 < (partsL ts).2.length ∧ ((partsL ts).2.length : Int) < (partsL ts).2.getLastD 0 then rowLow ts else row0 ts := by
  obtain ⟨p, h1, h2, h3, h4, h5⟩ := dec_parts ts
  unfold encL
  rw [enc_fold, List.nil_append]
  unfold encFin rowLow row0
  dsimp only
  by_cases hp : 0 < (partsL ts).2.length
  · have el : ts.getLastD 0 = (partsL ts).2.getLastD 0 := by
      have e := last_eq hp
      have h1' : ts = p ++ (partsL ts).2.dropLast ++ [(partsL ts).2.getLastD 0] := by rw [List.append_assoc, e]; exact h1
      have h6 := congrArg (fun l => List.getLastD l 0) h1'
      rwa [List.getLastD_concat] at h6
    rw [el]
    by_cases hq : ((partsL ts).2.length : Int) < (partsL ts).2.getLastD 0
    · rw [if_neg (by omega), if_pos ⟨hp, hq⟩]
    · rw [if_pos (by omega), if_neg (fun h => hq h.2)]
  · have e : (partsL ts).2 = [] := List.eq_nil_of_length_eq_zero (by omega)
    rw [h3 e, if_pos (by omega), if_neg (fun h => hp h.1)]
theorem encL_nil : encL [] = [1] := rfl
end Mine
end

section
open PySem PySem.W PySem.Calls PyProof.Rows
set_option maxRecDepth 100000
namespace Mine
section
variable {M : Model} {A : Around} {s : Shared} {env : Env}
theorem wpS_group4 {a b c d : Stmt} {rest : List Stmt} {Q : Flow → Shared → Prop} (I : Shared → Prop)
    (h : wpS M A (execs [a, b, c, d] env) (fun f s' => match f with | .next => I s' | f => Q f s') s) (hr : ∀ s', I s' → wpS M A (execs rest env) Q s') : wpS M A (execs (a :: b :: c :: d :: rest) env) Q s := by
  have g : ∀ (pre : List Stmt) Γ p s, Γ.In A → Clean Γ → Sem.wp M Γ (execs pre env) (fun f _ s' => match f with | .next => I s' | f => Q f s') (fun _ _ _ => False) p s → Sem.wp M Γ (execs (pre ++ rest) env) (fun f _ s' => Q f s') (fun _ _ _ => False) p s := by
    intro pre Γ
    induction pre with
    | nil => exact fun p s hΓ hc h => hr s h Γ p hΓ hc
    | cons x pre ih =>
      intro p s hΓ hc h'
      rw [List.cons_append, execs_cons, Sem.wp_bind']
      rw [execs_cons, Sem.wp_bind'] at h'
      refine Sem.wp_mono _ _ _ (fun f p' s' h'' => ?_) (fun _ _ _ h => h) p s h'
      cases f <;> first | exact h'' | exact ih p' s' hΓ hc h''
  exact fun Γ p hΓ hc => g [a, b, c, d] Γ p s hΓ hc (h Γ p hΓ hc)
theorem wpS_Compare1 {l op r pos} {Q : Value → Shared → Prop}
    (h : wpS M A (eval l env) (fun a s₁ => wpAny M A (eval r env) (fun b s₂ => wpAny M A (compareOp op a b) Q (fun _ _ => False) s₂) (fun _ _ => False) s₁) s)
    (hm : behindInMarks op r = false := by with_unfolding_all rfl) : wpS M A (eval (.Compare l [op] [r] pos) env) Q s := by
  rw [eval_Compare1, markedBehindIn_of_false hm]
  exact wpS_bind (wpS_mono h fun a s₁ h₁ => wpS_bind (wpS_holding (wpS_mono (wpS_of_any h₁) fun b s₂ h₂ => wpS_bind (wpS_standAt (wpS_operate (wpS_of_any h₂))))))
theorem wpS_isTrue_Compare1 {l op r pos whole} {Q : Bool → Shared → Prop}
    (h : wpS M A (eval l env) (fun a s₁ => wpAny M A (eval r env) (fun b s₂ => wpAny M A (compareOp op a b) (fun c s₃ => wpAny M A (truthy c) Q (fun _ _ => False) s₃) (fun _ _ => False) s₂) (fun _ _ => False) s₁) s)
    (hm : behindInMarks op r = false := by with_unfolding_all rfl) : wpS M A (isTrue (.Compare l [op] [r] pos) env whole) Q s := by
  rw [isTrue_Compare1, markedBehindIn_of_false hm]
  exact wpS_bind (wpS_mono h fun a s₁ h₁ => wpS_bind (wpS_holding (wpS_mono (wpS_of_any h₁) fun b s₂ h₂ => wpS_bind (wpS_standAt (wpS_bind (wpS_operate (wpS_mono (wpS_of_any h₂) fun c s₃ h₃ => wpS_holding (wpS_of_any h₃))))))))
end
/-- the list of the rows: each place a list of ints upon the ledger -/
inductive RowsAre (tl : List (Addr × Obj)) : List Value → List (List Int) → Prop
  | nil : RowsAre tl [] []
  | cons {a : Addr} {vs : List Value} {n : Nat} {xs : List Int} {rv : List Value} {rs : List (List Int)} : (a, listOf vs.toArray n) ∈ tl → IntsAre vs xs → RowsAre tl rv rs → RowsAre tl (.ref a :: rv) (xs :: rs)
theorem RowsAre.get {tl : List (Addr × Obj)} {rv : List Value} {rs : List (List Int)} (h : RowsAre tl rv rs) {v : Value} (hv : v ∈ rv) : ∃ a vs n xs, v = .ref a ∧ (a, listOf vs.toArray n) ∈ tl ∧ IntsAre vs xs ∧ xs ∈ rs := by
  induction h with
  | nil => cases hv
  | cons h1 h2 _ ih =>
    rcases List.mem_cons.mp hv with rfl | hv
    · exact ⟨_, _, _, _, rfl, h1, h2, List.mem_cons_self⟩
    · obtain ⟨a, vs, n, xs, e1, e2, e3, e4⟩ := ih hv
      exact ⟨a, vs, n, xs, e1, e2, e3, List.mem_cons_of_mem _ e4⟩
section
variable {A : Around} {s : Shared} {prog : Program} {w : World} {E : Value → Shared → Prop}
theorem rows_any {h₀ : Heap} {L R : Addr} {tl : List (Addr × Obj)} {rv : List Value} {rs : List (List Int)} {ys : List Value} {ks : List Int} (N : News h₀ L s.heap tl) (hr : RowsAre tl rv rs)
    (hR : s.heap.IsList R ys.toArray) (hy : IntsAre ys ks) (hu : A.units + 80 < cLine) (hk : ks ∈ rs) :
    ∃ e : Value → Bool, (∀ y ∈ rv, SeqAt.EqAt A.in1 s y (.ref R) (e y)) ∧ rv.any e = true := by
  have hu' : A.in1.units + 64 < cLine := by rw [units_in1]; omega
  have key : ∀ y ∈ rv, ∃ b : Bool, SeqAt.EqAt A.in1 s y (.ref R) b := by
    intro y hy'
    obtain ⟨a, vs, n, xs, rfl, hm, hi, _⟩ := hr.get hy'
    exact ⟨_, keq_ints (A := A) ⟨_, (N _ hm).1, rfl, _, rfl⟩ hi hR hy hu'⟩
  obtain ⟨y0, hy0, hb0⟩ : ∃ y ∈ rv, SeqAt.EqAt A.in1 s y (.ref R) true := by
    clear key
    induction hr with
    | nil => cases hk
    | cons h1 h2 _ ih =>
      rcases List.mem_cons.mp hk with rfl | hk
      · refine ⟨_, List.mem_cons_self, ?_⟩
        have := keq_ints (A := A) ⟨_, (N _ h1).1, rfl, _, rfl⟩ h2 hR hy hu'
        rwa [decide_eq_true rfl] at this
      · obtain ⟨y, e1, e2⟩ := ih hk
        exact ⟨y, List.mem_cons_of_mem _ e1, e2⟩
  classical
  refine ⟨fun y => if h : SeqAt.EqAt A.in1 s y (.ref R) true then true else false, fun y hy' => ?_, ?_⟩
  · dsimp only
    by_cases h : SeqAt.EqAt A.in1 s y (.ref R) true
    · rw [dif_pos h]; exact h
    · rw [dif_neg h]
      obtain ⟨b, hb⟩ := key y hy'
      cases b
      · exact hb
      · exact absurd hb h
  · rw [List.any_eq_true]
    exact ⟨y0, hy0, by rw [dif_pos hb0]⟩
/-- row not in rows -/
theorem not_in_rows {Q : Value → Shared → Prop} {h₀ : Heap} {L R RO : Addr} {tl : List (Addr × Obj)} {rv : List Value} {rs : List (List Int)} {ys : List Value} {ks : List Int} (hr : RowsAre tl rv rs) (N : News h₀ L s.heap tl)
    (hRO : s.heap.IsList RO rv.toArray) (hk : ks ∈ rs) (hy : IntsAre ys ks) (hR : s.heap.IsList R ys.toArray) (hu : A.units + 80 < cLine) (h : Q (.bool false) s) :
    wpAny (model prog w) A (compareOp .NotIn (.ref R) (.ref RO)) Q E s := by
  obtain ⟨e, he, ha⟩ := rows_any N hr hR hy hu hk
  refine SeqAt.notIn_listAt e hRO (fun y hy' => he y (by simpa using hy')) ?_
  rw [List.any_toArray, ha]
  exact h
end
theorem St.mkT {s : Shared} {base : Heap} {L : Addr} {ps : List (Str × Value)} {led news : List (Addr × Obj)} {h : Heap} {tk : Nat} {m : Str → Option Value} (F : Fr base L h m) (N : News base L h news) (hl : ∀ p ∈ led, p ∈ news) (hp : ∀ p ∈ ps, m p.1 = some p.2) :
    St s base L ps (led ++ news) { s with heap := h, toks := tk } :=
  St.mk F N (fun p hp => (List.mem_append.mp hp).elim (hl p) id) hp
/-- the iterator steps on, upon any ledger -/
theorem step_led {h₀ h h' : Heap} {L I : Addr} {m : Str → Option Value} {oi oi' : Obj} {led : List (Addr × Obj)} (F : Fr h₀ L h m) (N : News h₀ L h ((I, oi) :: led)) (hne : ∀ p ∈ led, p.1 ≠ I) (hs : Heap.SameBut I h h') (e : h'.get? I = some oi') :
    Fr h₀ L h' m ∧ News h₀ L h' ((I, oi') :: led) := by
  have y := N _ (.head _)
  exact ⟨F.change hs y.2.1 y.2.2, List.forall_mem_cons.mpr ⟨⟨e, y.2⟩, fun p hp => ⟨(hs.2 _ (hne p hp)).trans (N p (.tail _ hp)).1, (N p (.tail _ hp)).2⟩⟩⟩
theorem end_led {h₀ h h' : Heap} {L I : Addr} {m : Str → Option Value} {oi : Obj} {led : List (Addr × Obj)} (F : Fr h₀ L h m) (N : News h₀ L h ((I, oi) :: led)) (hne : ∀ p ∈ led, p.1 ≠ I) (hs : Heap.ExtBut I h h') :
    Fr h₀ L h' m ∧ News h₀ L h' led := by
  have y := N _ (.head _)
  refine ⟨?_, fun p hp => ⟨hs _ _ (hne p hp) (N p (.tail _ hp)).1, (N p (.tail _ hp)).2⟩⟩
  obtain ⟨oL, a1, a2, hL, a3⟩ := F.ns
  refine ⟨⟨oL, a1, a2, hs L _ (Ne.symm y.2.1) hL, a3⟩, fun b o e => hs b o ?_ (F.keep b o e), F.above⟩
  rintro rfl
  rw [y.2.2] at e
  cases e
/-- the rows as they are laid -/
def rowsL (ts : List Int) : List (List Int) :=
  [row0 ts] ++ (if (partsL ts).2.length = 254 then [row0 ts ++ [1]] else []) ++ (if 0 < (partsL ts).2.length ∧ ((partsL ts).2.length : Int) < (partsL ts).2.getLastD 0 then [rowLow ts] else []) ++ (if ts = [] then [[]] else [])
theorem rowsL_mem {ts x : List Int} : x ∈ rowsL ts ↔ IsRow ts x := by
  unfold rowsL IsRow
  simp only [List.mem_append, List.mem_singleton]
  constructor
  · rintro (((h | h) | h) | h)
    · exact .inl h
    · split at h
      · exact .inr (.inl ⟨List.mem_singleton.mp h, by assumption⟩)
      · cases h
    · split at h
      · exact .inr (.inr (.inl ⟨List.mem_singleton.mp h, by assumption⟩))
      · cases h
    · split at h
      · exact .inr (.inr (.inr ⟨List.mem_singleton.mp h, by assumption⟩))
      · cases h
  · rintro (h | ⟨rfl, h⟩ | ⟨rfl, h⟩ | ⟨rfl, h⟩)
    · exact .inl (.inl (.inl h))
    · exact .inl (.inl (.inr (by rw [if_pos h]; exact List.mem_singleton.mpr rfl)))
    · exact .inl (.inr (by rw [if_pos h]; exact List.mem_singleton.mpr rfl))
    · exact .inr (by rw [if_pos h]; exact List.mem_singleton.mpr rfl)
theorem ne_new {h : Heap} {a b : Addr} {o : Obj} (ha : h.get? a = some o) (hb : h.get? b = none) : @Ne Nat a b := by
  rintro rfl
  rw [ha] at hb
  cases hb
theorem new_at {base h h' : Heap} {L a : Addr} {m : Str → Option Value} {o : Obj} (F : Fr base L h m) (hn : h.get? a = none) (e : h'.get? a = some o) : h'.get? a = some o ∧ a ≠ L ∧ base.get? a = none := by
  refine ⟨e, ?_, ?_⟩
  · rintro rfl
    obtain ⟨oL, _, _, hL, _⟩ := F.ns
    rw [hn] at hL
    cases hL
  · cases hb : base.get? a with
    | none => rfl
    | some o' => rw [F.keep _ _ hb] at hn; cases hn
theorem news_more {h₀ h : Heap} {L a : Addr} {o : Obj} {led : List (Addr × Obj)} (e : h.get? a = some o ∧ a ≠ L ∧ h₀.get? a = none) (N : News h₀ L h led) : News h₀ L h ((a, o) :: led) := List.forall_mem_cons.mpr ⟨e, N⟩
theorem St.mkU {s : Shared} {base : Heap} {L : Addr} {ps : List (Str × Value)} {led news : List (Addr × Obj)} {h : Heap} {tk : Nat} {m : Str → Option Value} (F : Fr base L h m) (N : News base L h news) (hp : ∀ p ∈ ps, m p.1 = some p.2) (hl : ∀ p ∈ led, p ∈ news) :
    St s base L ps (led ++ news) { s with heap := h, toks := tk } := St.mkT F N hl hp
theorem getD_last (rs : List Int) : rs.getD (-1 + (rs.length : Int)).toNat 0 = rs.getLastD 0 := by
  cases rs with
  | nil => rfl
  | cons x r => exact last_getD (Nat.succ_pos _)
theorem row0_eq {ts fs rs : List Int} (hf : (partsL ts).1 = fs) (hr : (partsL ts).2 = rs) : fs ++ [(rs.length : Int) + 1] ++ rs = row0 ts := by
  unfold row0
  rw [hf, hr, List.append_assoc]
  rfl
theorem rowLow_eq {ts fs rs : List Int} (hf : (partsL ts).1 = fs) (hr : (partsL ts).2 = rs) : fs ++ [rs.getD (-1 + (rs.length : Int)).toNat 0] ++ rs.take (rs.length - 1) = rowLow ts := by
  unfold rowLow
  rw [hf, hr, getD_last, List.append_assoc, List.dropLast_eq_take]
  rfl
theorem rowsL_eq {ts rs : List Int} (hr : (partsL ts).2 = rs) : rowsL ts =
    [row0 ts] ++ (if (rs.length : Int) = 254 then [row0 ts ++ [1]] else []) ++ (if 0 < (rs.length : Int) ∧ (rs.length : Int) < rs.getD (-1 + (rs.length : Int)).toNat 0 then [rowLow ts] else []) ++ (if decide (ts = []) = true then [[]] else []) := by
  unfold rowsL
  rw [hr, getD_last]
  simp only [decide_eq_true_eq, Int.natCast_pos]
  congr 3
  by_cases h : rs.length = 254
  · rw [if_pos h, if_pos (by omega)]
  · rw [if_neg h, if_neg (by omega)]
theorem encL_eq {ts rs : List Int} (hr : (partsL ts).2 = rs) : encL ts = if 0 < (rs.length : Int) ∧ (rs.length : Int) < rs.getD (-1 + (rs.length : Int)).toNat 0 then rowLow ts else row0 ts := by
  rw [enc_least, hr, getD_last]
  simp only [Int.natCast_pos]
theorem enc_isRow (ts : List Int) : IsRow ts (encL ts) := by
  rw [enc_least]
  split
  · exact .inr (.inr (.inl ⟨rfl, by assumption⟩))
  · exact .inl rfl
end Mine
end

section
open PySem PySem.W PyProof.Rows
namespace Mine
local macro_rules | `(tactic| walk_at "compareOp In int bytes") => `(tactic| (k_here; (with_reducible show wpAny _ _ (compareOp CmpOp.In (Value.int 0 _) (Value.bytes _ _)) _ _ _); refine zero_in_bytes (by assumption) (sub_pos (by assumption) _ _) ?_))
local macro_rules | `(tactic| walk_at "call type:bytes") => `(tactic| (k_here; (with_reducible show wpAny _ _ (call (Value.type "bytes") [Value.ref _]) _ _ _); (with_reducible rename News _ _ _ [(_, baObj _)] => baN); (refine bytes_1 baN (by assumption) (by omega) ?_); intro _ _))
local macro_rules | `(tactic| walk_at "getMethod ref") => `(tactic| (k_here; (with_reducible show wpAny _ _ (getMethod (Value.ref _) (Str.ofString "append") _) _ _ _); (with_reducible rename News _ _ _ ((_, baObj _) :: _) => baN); refine getMethod_ba (baN _ (List.Mem.head _)).1 ?_))
local macro_rules | `(tactic| walk_at "subscriptTail") => `(tactic| (k_here; (with_reducible show wpAny _ _ (subscriptTail _ _ (Value.bytes _ _) (Value.int (-1) _)) _ _ _); (with_unfolding_all refine' item_outB ?k0 ?k1 ?_ ?k6; (case k0 => rfl); (case k1 => assumption); (case k6 => with_unfolding_all rfl); k_whole); intro h' tk' e' x'))
local macro_rules | `(tactic| walk_at "call type:bytes") => `(tactic| (k_here; (with_reducible show wpAny _ _ (call (Value.type "bytes") [Value.ref _]) _ _ _); (with_reducible rename News _ _ _ ((_, baObj _) :: _) => baN); (refine bytes_2 baN (by assumption) (by decide) ?_); intro _ _))
local macro_rules | `(tactic| walk_at "call type:enumerate") => `(tactic| (refine call_enumerate_list (by is_list) ?_; intro h' hE hI hS hK))
local macro_rules | `(tactic| walk_at "callWith type:enumerate") => `(tactic| (refine callWith_type1 ?_))
local macro_rules | `(tactic| walk_at "compareOp NotIn ref ref") => `(tactic| (k_here; (with_reducible show wpAny _ _ (compareOp CmpOp.NotIn (Value.ref _) (Value.ref _)) _ _ _); (refine not_in_rows (by assumption) (by assumption) (by assumption) (by assumption) (by assumption) (by assumption) (by (rw [units_deeper, units_caller]; decide)) ?_)))
local macro_rules | `(tactic| walk_at "subscriptTail BinOp") => `(tactic| (k_here; k_dflt (refine kba_turn (value' := PySem.Expr.Name (PySem.Str.ofString "row") ⟨0, 0, 0, 0⟩) (fun _ => rfl) ?_)))
local macro_rules | `(tactic| walk_at "setItem ref int") => `(tactic| (k_here; (with_reducible show wpAny _ _ (setItem (Value.ref _) (Value.int (-1) _) (Value.int _ _)) _ _ _); (refine set_last (by assumption) (by assumption) (by assumption) (by assumption) ?_); intro h' us hus F' N'))


set_option maxRecDepth 100000 in
set_option maxHeartbeats 8000000 in
theorem decode_S {w : World} {mean : ExcName → Option Value} {mg mb : Str → Option Value} {b : Array UInt8} {tb : Tok} {ks : List Int}
    {dp un : Nat} {cn : Str} {cs : Scope} {a : Addr} {ccd : Value} {cl : List (Str × Addr)} {outer : List Env} {A₀ : Around} {base h₀ : Heap} {L : Addr} {m : Str → Option Value} {s : Shared} {Q : Value → Shared → Prop}
    (B : Below A₀ base outer h₀) (F : Fr h₀ L s.heap m) (X : (hd.heap_39 w.params).In h₀) (T : Top hd.view_39 (looseW hd.view_39 []) mean mg mb h₀) (hk : cs.kind = .function)
    (hb : KBw.bInts b = ks) (hn : ∀ k ∈ ks, 1 ≤ k) (hz : ks.length ≤ 3000) (hdp : dp + 1 < recursionLimit) (hun : un + 8 < cLine)
    (hret : ∀ (b' : Array UInt8) (t : Tok) (h' : Heap) (tk' : Nat), (∀ b o, s.heap.get? b = some o → h'.get? b = some o) → KBw.bInts b' = decL ks → Q (.bytes b' t) { s with heap := h', toks := tk' }) :
      wpS (model PySem.Challenge.rw_md0005_01.row.prog w) (ktrTop dp un (some []) cn cs L a ccd cl outer) (call (.ref 41) [.bytes b tb]) Q s := by
  w_top off
  revert X
  k_fill
  intro X
  refine wpS_call ?_
  k_dflt (refine' codeS_def ?k1 ?k2 ?k3 ?k5 ?kA ?kF ?kK ?k6 ?k7 ?k8 ?k9 ?kB ?_ ?c2 ?c3 ?c4 ?c5; (case kA => exact rfl); (case kF => exact rfl); (case kK => assumption); (case k1 => k_asm); (case k2 => k_asm); (case k3 => k_asm); (case k5 => k_asm); (case k6 => k_is); (case k7 => k_is); (case k8 => ktr_room); (case k9 => exact BindsTo.of_eq rfl); (case c5 => decide); (case kB => exact locs rfl); (case c2 => exact rfl); (case c3 => exact rfl); (case c4 => exact rfl); k_whole)
  intro L' h' F' B' X' T'
  (try dsimp only)
  (try k_lift B')
  have N' : News s.heap L' h' [] := News.nil
  clear F B X T
  -- if isinstance(in_bytes, str)
  refine wpS_execs_cons (wpS_of_any ?_)
  (try k_fold)
  k_steps
  clear qk ek
  -- in_bytes_mv = in_bytes
  refine wpS_execs_cons (wpS_of_any ?_)
  (try k_fold)
  k_steps
  clear qk ek
  -- out_bytes = bytearray()
  refine wpS_execs_cons (wpS_Assign_Name rfl (wpS_Call ?_))
  (try k_fold)
  k_steps
  clear qk ek
  refine callWithS_type0 (ba_1 rfl (by assumption) ?_)
  intro h2 D b2 hb2 F2 N2
  (try k_fold)
  k_steps
  clear qk ek
  -- idx = 0
  refine wpS_execs_cons (wpS_of_any ?_)
  (try k_fold)
  k_steps
  clear qk ek
  -- if len(in_bytes_mv) > 0
  refine wpS_cut (fun s' => ∃ b9, St s s.heap L' [(Str.ofString "out_bytes", .ref D)] [(D, baObj b9)] s' ∧ KBw.bInts b9 = decL ks) ?_ ?_
  · refine wpS_If (wpS_of_any ?_)
    (try k_fold)
    k_steps
    · clear qk ek
      refine wpS_execs_cons (wpS_While (fun n s' => ∃ b9 os i ti, St s s.heap L' [(Str.ofString "in_bytes_mv", .bytes b tb), (Str.ofString "out_bytes", .ref D), (Str.ofString "idx", .int i ti)] [(D, baObj b9)] s' ∧ KBw.bInts b9 = os ∧
          0 ≤ i ∧ i < ks.length ∧ os ++ decL (ks.drop i.toNat) = decL ks ∧ (os.length : Int) ≤ i ∧ n = ks.length - i.toNat) ?_ ks.length ?_)
      · rintro n s' ⟨b9, os, i, ti, ⟨h9, tk9, u9, rfl, F9, N9⟩, hb9, h0, h1, hdec, hos, rfl⟩
        dsimp only [kstB] at F9
        have hdr := dec_cons h0 h1
        have hc1 : 1 ≤ ks.getD i.toNat 0 := by
          rw [List.getD_eq_getElem?_getD, List.getElem?_eq_getElem (by omega)]
          exact hn _ (List.getElem_mem _)
        refine wpS_of_any ?_
        (try k_fold)
        k_steps
        clear qk ek
        -- length = in_bytes_mv[idx]
        refine wpS_execs_cons (wpS_of_any ?_)
        (try k_fold)
        k_steps
        clear qk ek
        -- if length == 0
        refine wpS_execs_cons (wpS_of_any ?_)
        (try k_fold)
        k_steps
        clear qk ek
        -- idx += 1
        refine wpS_execs_cons (wpS_of_any ?_)
        (try k_fold)
        k_steps
        clear qk ek
        -- end = idx + length - 1
        refine wpS_execs_cons (wpS_of_any ?_)
        (try k_fold)
        k_steps
        clear qk ek
        -- copy_mv = in_bytes_mv[idx:end]
        refine wpS_execs_cons (wpS_of_any ?_)
        (try k_fold)
        k_steps
        clear qk ek
        -- if 0 in copy_mv
        refine wpS_execs_cons (wpS_of_any ?_)
        (try k_fold)
        k_steps
        clear qk ek
        -- out_bytes += copy_mv
        refine wpS_execs_cons (wpS_AugAssign_Name ?_)
        (try k_fold)
        k_steps
        clear qk ek
        (rename KBw.bInts (KBy.picked _ _ _) = _ => hcp)
        replace hcp := hcp.trans (dec_copy h0 h1 hc1)
        have hcl : ((ks.drop (i + 1).toNat).take (ks.getD i.toNat 0 - 1).toNat).length ≤ 3000 := by rw [List.length_take, List.length_drop]; omega
        have hcl2 : (((ks.drop (i + 1).toNat).take (ks.getD i.toNat 0 - 1).toNat).length : Int) ≤ ks.getD i.toNat 0 - 1 := by rw [List.length_take]; omega
        refine wpS_operate (iadd_1 rfl (by assumption) (by assumption) hb9 hcp (by omega) ?_)
        intro h3 b3 hb3 F3 N3
        (try k_fold)
        k_steps
        clear qk ek
        -- idx = end
        refine wpS_execs_cons (wpS_of_any ?_)
        (try k_fold)
        k_steps
        clear qk ek
        -- if idx > len(in_bytes_mv)
        refine wpS_execs_cons (wpS_If (wpS_of_any ?_))
        (try k_fold)
        k_steps
        all_goals clear qk ek
        · refine wpS_execs_cons (wpS_Expr (wpS_Method ?_))
          (try k_fold)
          k_steps
          clear qk ek
          refine callWithS_meth1 (wpS_of_any ?_)
          (try k_fold)
          k_steps
          clear qk ek
          refine append_1 rfl (by assumption) (by assumption) hb3 (by omega) (by omega) (by rw [List.length_append]; omega) ?_
          intro h4 b4 hb4 F4 N4
          refine ⟨rfl, ?_⟩
          dsimp only
          refine wpS_execs_cons (wpS_of_any ?_)
          (try k_fold)
          k_steps
          clear qk ek
          refine wpS_execs_nil ⟨b4, St.mk F4 N4 (by kst_in) (by kst_all), hb4.trans (dec_A h0 h1 hc1 hdr hdec (by assumption))⟩
        · refine wpS_execs_cons (wpS_If (wpS_of_any ?_))
          (try k_fold)
          k_steps
          all_goals clear qk ek
          · refine wpS_execs_cons (wpS_If (wpS_of_any ?_))
            (try k_fold)
            k_steps
            all_goals clear qk ek
            · refine wpS_execs_cons (wpS_Expr (wpS_Method ?_))
              (try k_fold)
              k_steps
              clear qk ek
              refine callWithS_meth1 (wpS_of_any ?_)
              (try k_fold)
              k_steps
              clear qk ek
              refine append_1 rfl (by assumption) (by assumption) hb3 (by omega) (by omega) (by rw [List.length_append]; omega) ?_
              intro h4 b4 hb4 F4 N4
              refine ⟨rfl, ?_⟩
              dsimp only
              repeat (refine wpS_execs_nil ?_; dsimp only)
              refine ⟨_, ?_, b4, _, i + 1 + ks.getD i.toNat 0 - 1, _, St.mk F4 N4 (by kst_in) (by kst_all), hb4, by omega, by assumption, ?_, ?_, rfl⟩
              · omega
              · have hB := dec_B h0 h1 hc1 hdr hdec (by assumption)
                rw [if_pos (by assumption)] at hB
                exact hB
              · simp only [List.length_append, List.length_cons, List.length_nil]
                omega
            · repeat (refine wpS_execs_nil ?_; dsimp only)
              refine ⟨_, ?_, b3, _, i + 1 + ks.getD i.toNat 0 - 1, _, St.mk (by assumption) (by assumption) (by kst_in) (by kst_all), hb3, by omega, by assumption, ?_, ?_, rfl⟩
              · omega
              · have hB := dec_B h0 h1 hc1 hdr hdec (by assumption)
                rw [if_neg (by assumption), List.append_nil] at hB
                exact hB
              · simp only [List.length_append]
                omega
          · refine wpS_execs_cons (wpS_of_any ?_)
            (try k_fold)
            k_steps
            clear qk ek
            refine wpS_execs_nil ⟨b3, St.mk (by assumption) (by assumption) (by kst_in) (by kst_all), hb3.trans (dec_C h0 h1 hc1 hdr hdec (by omega))⟩
      · exact ⟨b2, [], 0, _, St.mk (by assumption) (by assumption) (by kst_in) (by kst_all), hb2, by omega, by assumption, rfl, Int.le_refl _, rfl⟩
    · clear qk ek
      have e : ks = [] := List.eq_nil_of_length_eq_zero (by omega)
      refine wpS_execs_nil ⟨b2, St.mk (by assumption) (by assumption) (by kst_in) (by kst_all), ?_⟩
      rw [hb2, e, decL_nil]
  · rintro s' ⟨b9, ⟨h9, tk9, u9, rfl, F9, N9⟩, hb9⟩
    dsimp only [kstB] at F9
    have hl := decL_length ks
    refine wpS_execs_cons (wpS_of_any ?_)
    (try k_fold)
    k_steps
    exact hret b9 _ _ _ (Fr.keep (by assumption)) hb9


set_option maxRecDepth 100000 in
set_option maxHeartbeats 8000000 in
theorem encode_S {w : World} {mean : ExcName → Option Value} {mg mb : Str → Option Value} {b : Array UInt8} {tb : Tok} {ks : List Int}
    {dp un : Nat} {cn : Str} {cs : Scope} {a : Addr} {ccd : Value} {cl : List (Str × Addr)} {outer : List Env} {A₀ : Around} {base h₀ : Heap} {L : Addr} {m : Str → Option Value} {s : Shared} {Q : Value → Shared → Prop}
    (B : Below A₀ base outer h₀) (F : Fr h₀ L s.heap m) (X : (hd.heap_39 w.params).In h₀) (T : Top hd.view_39 (looseW hd.view_39 []) mean mg mb h₀) (hk : cs.kind = .function)
    (hb : KBw.bInts b = ks) (hne : 0 < ks.length) (hz : ks.length ≤ 3000) (hdp : dp + 1 < recursionLimit) (hun : un + 8 < cLine)
    (hret : ∀ (b' : Array UInt8) (t : Tok) (h' : Heap) (tk' : Nat), (∀ b o, s.heap.get? b = some o → h'.get? b = some o) → KBw.bInts b' = encL ks → Q (.bytes b' t) { s with heap := h', toks := tk' }) :
      wpS (model PySem.Challenge.rw_md0005_01.row.prog w) (ktrTop dp un (some []) cn cs L a ccd cl outer) (call (.ref 34) [.bytes b tb]) Q s := by
  w_top off
  revert X
  k_fill
  intro X
  refine wpS_call ?_
  k_dflt (refine' codeS_def ?k1 ?k2 ?k3 ?k5 ?kA ?kF ?kK ?k6 ?k7 ?k8 ?k9 ?kB ?_ ?c2 ?c3 ?c4 ?c5; (case kA => exact rfl); (case kF => exact rfl); (case kK => assumption); (case k1 => k_asm); (case k2 => k_asm); (case k3 => k_asm); (case k5 => k_asm); (case k6 => k_is); (case k7 => k_is); (case k8 => ktr_room); (case k9 => exact BindsTo.of_eq rfl); (case c5 => decide); (case kB => exact locs rfl); (case c2 => exact rfl); (case c3 => exact rfl); (case c4 => exact rfl); k_whole)
  intro L' h' F' B' X' T'
  (try dsimp only)
  (try k_lift B')
  have N' : News s.heap L' h' [] := News.nil
  clear F B X T
  -- if isinstance(in_bytes, str)
  refine wpS_execs_cons (wpS_of_any ?_)
  (try k_fold)
  k_steps
  try clear qk ek
  -- in_bytes_mv = in_bytes
  refine wpS_execs_cons (wpS_of_any ?_)
  (try k_fold)
  k_steps
  try clear qk ek
  -- out_bytes = bytearray()
  refine wpS_execs_cons (wpS_Assign_Name rfl (wpS_Call ?_))
  (try k_fold)
  k_steps
  try clear qk ek
  refine callWithS_type0 (ba_1 rfl (by assumption) ?_)
  intro h2 D b2 hb2 F2 N2
  (try k_fold)
  k_steps
  try clear qk ek
  -- idx = 0
  refine wpS_execs_cons (wpS_of_any ?_)
  (try k_fold)
  k_steps
  try clear qk ek
  -- search_start_idx = 0
  refine wpS_execs_cons (wpS_of_any ?_)
  (try k_fold)
  k_steps
  try clear qk ek
  -- for in_char in in_bytes_mv
  refine wpS_cut (fun s' => ∃ b9 os st t1 t2, St s s.heap L' [(Str.ofString "in_bytes_mv", .bytes b tb), (Str.ofString "out_bytes", .ref D), (Str.ofString "idx", .int ks.length t1), (Str.ofString "search_start_idx", .int st t2)] [(D, baObj b9)] s' ∧
      KBw.bInts b9 = os ∧ EncInv ks ks.length os st) ?_ ?_
  · refine wpS_For ?_
    (try k_fold)
    k_steps
    try clear qk ek
    rename_i h5 F5 N5
    refine KBw.pyIter_bytes ?_
    have hDI : h5.objs.size ≠ D := fun e => absurd (Heap.lt_size (N5 _ (List.Mem.head _)).1) (by rw [e]; exact Nat.lt_irrefl _)
    refine forBytes (tb := tb) (fun i s' => ∃ b9 os st t1 t2 oi, St s s.heap L' [(Str.ofString "in_bytes_mv", .bytes b tb), (Str.ofString "out_bytes", .ref D), (Str.ofString "idx", .int (i : Nat) t1), (Str.ofString "search_start_idx", .int st t2)] [(D, baObj b9), (h5.objs.size, oi)] s' ∧
      oi.cls = .type "bytes_iterator" ∧ oi.data = .fields #[.bytes b tb, .int (i : Nat) 0] ∧ KBw.bInts b9 = os ∧ EncInv ks i os st) hb rfl ?_ ?_ ?_ ?_
    · rintro i s' ⟨b9, os, st, t1, t2, oi, ⟨h9, tk9, u9, rfl, F9, N9⟩, hc, hd, hb9, hinv⟩
      exact ⟨oi, (N9 _ (.tail _ (.head _))).1, hc, hd⟩
    · rintro i k tok s' h' ⟨b9, os, st, t1, t2, oi, ⟨h9, tk9, u9, rfl, F9, N9⟩, hc, hd, hb9, hinv⟩ hki hk0 hk1 hit hsb
      obtain ⟨oi', F6, N6, hc', hd'⟩ := step_two hDI F9 N9 hsb hit
      clear F9 N9 hit hsb hc hd oi F5 N5
      dsimp only [kstB] at F6
      have hi : i < ks.length := (List.getElem?_eq_some_iff.mp hki).1
      (try k_fold)
      k_steps
      try clear qk ek
      -- if idx - search_start_idx == 254
      refine wpS_cut (fun s' => ∃ b9 os st t2, St s s.heap L' [(Str.ofString "in_char", .int k tok), (Str.ofString "in_bytes_mv", .bytes b tb), (Str.ofString "out_bytes", .ref D), (Str.ofString "idx", .int (i : Nat) t1), (Str.ofString "search_start_idx", .int st t2)] [(D, baObj b9), (h5.objs.size, oi')] s' ∧
        KBw.bInts b9 = os ∧ EncMid ks i os st) ?_ ?_
      · obtain ⟨q0, q1, q2, q3, q4, q5⟩ := id hinv
        have hrl := run_length q0 q1 (by omega : (i : Int) ≤ ks.length)
        refine wpS_If (wpS_of_any ?_)
        (try k_fold)
        k_steps
        all_goals try clear qk ek
        · -- out_bytes.append(255)
          refine wpS_execs_cons (wpS_Expr (wpS_Method ?_))
          (try k_fold)
          k_steps
          try clear qk ek
          refine callWithS_meth1 (wpS_of_any ?_)
          (try k_fold)
          k_steps
          try clear qk ek
          refine append_2 rfl hDI (by assumption) (by assumption) hb9 (by omega) (by omega) (by omega) ?_
          intro h4 b4 hb4 F4 N4
          refine ⟨rfl, ?_⟩
          dsimp only
          -- out_bytes += in_bytes_mv[search_start_idx:idx]
          refine wpS_execs_cons (wpS_AugAssign_Name ?_)
          (try k_fold)
          k_steps
          try clear qk ek
          (rename KBw.bInts (KBy.picked _ _ _) = _ => hcp)
          replace hcp := hcp.trans (run_clipN q0 q1 (by omega))
          refine wpS_operate (iadd_2 rfl hDI (by assumption) (by assumption) hb4 hcp (by simp only [List.length_append, List.length_cons, List.length_nil]; omega) ?_)
          intro h3 b3 hb3 F3 N3
          (try k_fold)
          k_steps
          try clear qk ek
          -- search_start_idx = idx
          refine wpS_execs_cons (wpS_of_any ?_)
          (try k_fold)
          k_steps
          try clear qk ek
          repeat (refine wpS_execs_nil ?_; dsimp only)
          exact ⟨b3, _, _, _, St.mk (by assumption) (by assumption) (by kst_in) (by kst_all), hb3, enc_flush hinv hi (by omega)⟩
        · repeat (refine wpS_execs_nil ?_; dsimp only)
          exact ⟨b9, _, _, _, St.mk (by assumption) (by assumption) (by kst_in) (by kst_all), hb9, enc_stay hinv hi (by omega)⟩
      · clear hinv hb9
        rintro s' ⟨b8, os8, st8, t8, ⟨h8, tk8, u8, rfl, F8, N8⟩, hb8, hmid⟩
        dsimp only [kstB] at F8
        -- if in_char == 0
        refine wpS_cut (fun s' => ∃ b9 os st t2, St s s.heap L' [(Str.ofString "in_bytes_mv", .bytes b tb), (Str.ofString "out_bytes", .ref D), (Str.ofString "idx", .int (i : Nat) t1), (Str.ofString "search_start_idx", .int st t2)] [(D, baObj b9), (h5.objs.size, oi')] s' ∧
          KBw.bInts b9 = os ∧ EncInv ks (i + 1) os st) ?_ ?_
        · obtain ⟨q0, q1, q2, q3, q4, q5⟩ := id hmid
          have hrl := run_length q0 q1 (by omega : (i : Int) ≤ ks.length)
          refine wpS_If (wpS_of_any ?_)
          (try k_fold)
          k_steps
          all_goals try clear qk ek
          · refine wpS_execs_cons (wpS_Expr (wpS_Method ?_))
            (try k_fold)
            k_steps
            try clear qk ek
            refine callWithS_meth1 (wpS_of_any ?_)
            (try k_fold)
            k_steps
            try clear qk ek
            refine append_2 rfl hDI (by assumption) (by assumption) hb8 (by omega) (by omega) (by omega) ?_
            intro h4 b4 hb4 F4 N4
            refine ⟨rfl, ?_⟩
            dsimp only
            refine wpS_execs_cons (wpS_AugAssign_Name ?_)
            (try k_fold)
            k_steps
            try clear qk ek
            (rename KBw.bInts (KBy.picked _ _ _) = _ => hcp)
            replace hcp := hcp.trans (run_clipN q0 q1 (by omega))
            refine wpS_operate (iadd_2 rfl hDI (by assumption) (by assumption) hb4 hcp (by simp only [List.length_append, List.length_cons, List.length_nil]; omega) ?_)
            intro h3 b3 hb3 F3 N3
            (try k_fold)
            k_steps
            try clear qk ek
            refine wpS_execs_cons (wpS_of_any ?_)
            (try k_fold)
            k_steps
            try clear qk ek
            repeat (refine wpS_execs_nil ?_; dsimp only)
            exact ⟨b3, _, _, _, St.mk (by assumption) (by assumption) (by kst_in) (by kst_all), hb3, enc_zero hmid hki (by assumption)⟩
          · repeat (refine wpS_execs_nil ?_; dsimp only)
            exact ⟨b8, _, _, _, St.mk (by assumption) (by assumption) (by kst_in) (by kst_all), hb8, enc_put hmid hki (by assumption)⟩
        · clear hmid hb8
          rintro s' ⟨b7, os7, st7, t7, ⟨h7, tk7, u7, rfl, F7, N7⟩, hb7, hinv⟩
          dsimp only [kstB] at F7
          -- idx += 1
          refine wpS_execs_cons (wpS_of_any ?_)
          (try k_fold)
          k_steps
          try clear qk ek
          repeat (refine wpS_execs_nil ?_; dsimp only)
          exact ⟨b7, os7, st7, _, _, oi', St.mk (by assumption) (by assumption) (by kst_in) (by kst_all), hc', hd', hb7, hinv⟩
    · rintro s' h' ⟨b9, os, st, t1, t2, oi, ⟨h9, tk9, u9, rfl, F9, N9⟩, hc, hd, hb9, hinv⟩ hext
      obtain ⟨F6, N6⟩ := end_two hDI F9 N9 hext
      exact ⟨b9, os, st, t1, t2, ⟨_, _, _, rfl, F6, N6⟩, hb9, hinv⟩
    · refine ⟨b2, [], 0, _, _, _, St.mk (news := [(D, baObj b2), (h5.objs.size, _)]) (F5.push _) (List.forall_mem_cons.mpr ⟨⟨Heap.get?_push_of_some _ (N5 _ (.head _)).1, (N5 _ (.head _)).2⟩, List.forall_mem_cons.mpr ⟨⟨Heap.get?_push_size _ rfl, fun e => absurd F5.ns.lt (e ▸ Nat.lt_irrefl _), next_is_new F5⟩, List.forall_mem_nil _⟩⟩) (fun p hp => hp) (by kst_all), rfl, rfl, hb2, enc_start ks⟩
  · rintro s' ⟨b9, os, st, t1, t2, ⟨h9, tk9, u9, rfl, F9, N9⟩, hb9, hinv⟩
    dsimp only [kstB] at F9
    -- try: final_byte_value = in_bytes_mv[-1]
    refine wpS_cut (fun s' => Cut (∃ t3, St s s.heap L' [(Str.ofString "in_bytes_mv", .bytes b tb), (Str.ofString "out_bytes", .ref D), (Str.ofString "idx", .int ks.length t1), (Str.ofString "search_start_idx", .int st t2), (Str.ofString "final_byte_value", .int (ks.getLastD 0) t3)] [(D, baObj b9)] s')) ?_ ?_
    · clear hinv hb9
      refine wpS_of_any ?_
      (try k_fold)
      k_steps
      refine Cut.mk ?_
      rw [← last_getD hne]
      exact ⟨_, St.mk (by assumption) (by assumption) (by kst_in) (by kst_all)⟩
    · rintro s' ⟨t3, ⟨h8, tk8, u8, rfl, F8, N8⟩⟩
      dsimp only [kstB] at F8
      obtain ⟨q0, q1, q2, q3, q4, q5⟩ := id hinv
      have hrl := run_length q0 q1 (Int.le_refl _)
      have hlast : 0 ≤ ks.getLastD 0 ∧ ks.getLastD 0 < 256 := by
        rw [← last_getD hne]
        exact KBw.getD_in (fun k hk => by rw [← hb] at hk; exact KBw.ints_in hk)
      clear F9 N9
      -- length_value = idx - search_start_idx + 1
      refine wpS_execs_cons (wpS_of_any ?_)
      (try k_fold)
      k_steps
      try clear qk ek
      -- if final_byte_value < length_value
      refine wpS_cut (fun s' => ∃ b9, St s s.heap L' [(Str.ofString "out_bytes", .ref D)] [(D, baObj b9)] s' ∧ KBw.bInts b9 = encL ks ∧ (encL ks).length ≤ 16000) ?_ ?_
      · refine wpS_If (wpS_of_any ?_)
        (try k_fold)
        k_steps
        all_goals try clear qk ek
        · refine wpS_execs_cons (wpS_Expr (wpS_Method ?_))
          (try k_fold)
          k_steps
          try clear qk ek
          refine callWithS_meth1 (wpS_of_any ?_)
          (try k_fold)
          k_steps
          try clear qk ek
          refine append_1 rfl (by assumption) (by assumption) hb9 (by omega) (by omega) (by omega) ?_
          intro h4 b4 hb4 F4 N4
          refine ⟨rfl, ?_⟩
          dsimp only
          refine wpS_execs_cons (wpS_AugAssign_Name ?_)
          (try k_fold)
          k_steps
          try clear qk ek
          (rename KBw.bInts (KBy.picked _ _ _) = _ => hcp)
          replace hcp := hcp.trans (run_clipN q0 q1 (Nat.le_refl _))
          refine wpS_operate (iadd_1 rfl (by assumption) (by assumption) hb4 hcp (by simp only [List.length_append, List.length_cons, List.length_nil]; omega) ?_)
          intro h3 b3 hb3 F3 N3
          (try k_fold)
          k_steps
          try clear qk ek
          repeat (refine wpS_execs_nil ?_; dsimp only)
          have hE := enc_low hinv rfl (by assumption)
          refine ⟨b3, St.mk (by assumption) (by assumption) (by kst_in) (by kst_all), hb3.trans hE, ?_⟩
          rw [← hE]
          simp only [List.length_append, List.length_cons, List.length_nil]
          omega
        · refine wpS_execs_cons (wpS_Expr (wpS_Method ?_))
          (try k_fold)
          k_steps
          try clear qk ek
          refine callWithS_meth1 (wpS_of_any ?_)
          (try k_fold)
          k_steps
          try clear qk ek
          refine append_1 rfl (by assumption) (by assumption) hb9 (by omega) (by omega) (by omega) ?_
          intro h4 b4 hb4 F4 N4
          refine ⟨rfl, ?_⟩
          dsimp only
          refine wpS_execs_cons (wpS_AugAssign_Name ?_)
          (try k_fold)
          k_steps
          try clear qk ek
          (rename KBw.bInts (KBy.picked _ _ _) = _ => hcp)
          replace hcp := hcp.trans (run_clipP q0 q1 hne)
          have hrp : (run ks st ((ks.length : Int) - 1)).length ≤ 3000 := by unfold run; rw [List.length_take, List.length_drop]; omega
          refine wpS_operate (iadd_1 rfl (by assumption) (by assumption) hb4 hcp (by simp only [List.length_append, List.length_cons, List.length_nil]; omega) ?_)
          intro h3 b3 hb3 F3 N3
          (try k_fold)
          k_steps
          try clear qk ek
          repeat (refine wpS_execs_nil ?_; dsimp only)
          have hE := enc_high hinv rfl (by assumption)
          refine ⟨b3, St.mk (by assumption) (by assumption) (by kst_in) (by kst_all), hb3.trans hE, ?_⟩
          rw [← hE]
          simp only [List.length_append, List.length_cons, List.length_nil]
          omega
      · rintro s' ⟨b7, ⟨h7, tk7, u7, rfl, F7, N7⟩, hb7, hl7⟩
        dsimp only [kstB] at F7
        refine wpS_execs_cons (wpS_of_any ?_)
        (try k_fold)
        k_steps
        exact hret b7 _ _ _ (Fr.keep (by assumption)) hb7


set_option maxRecDepth 100000 in
set_option maxHeartbeats 8000000 in
theorem encode_nil {w : World} {mean : ExcName → Option Value} {mg mb : Str → Option Value} {b : Array UInt8} {tb : Tok}
    {dp un : Nat} {cn : Str} {cs : Scope} {a : Addr} {ccd : Value} {h₀ : Heap} {L : Addr} {m : Str → Option Value} {s : Shared} {Q : Value → Shared → Prop}
    (F : Fr h₀ L s.heap m) (X : (hd.heap_39 w.params).In h₀) (T : Top hd.view_39 (looseW hd.view_39 []) mean mg mb h₀) (hk : cs.kind = .function)
    (hb : KBw.bInts b = []) (hdp : dp + 1 < recursionLimit) (hun : un + 8 < cLine)
    (hret : ∀ (b' : Array UInt8) (t : Tok) (h' : Heap) (tk' : Nat), Fr h₀ L h' m → (∀ b o, b ≠ L → s.heap.get? b = some o → h'.get? b = some o) → KBw.bInts b' = [1] → Q (.bytes b' t) { s with heap := h', toks := tk' }) :
      wpS (model PySem.Challenge.rw_md0005_01.row.prog w) (ktrTop dp un (some []) cn cs L a ccd [] []) (call (.ref 34) [.bytes b tb]) Q s := by
  w_top off
  revert X
  k_fill
  intro X
  refine wpS_call ?_
  k_dflt (refine' codeS_defH (cn := cn) (cs := cs) (a := a) (ccd := ccd) ?k2 ?k3 ?k5 ?kK ?k6 ?k7 ?k8 ?k9 ?kB ?_ ?c2 ?c3 ?c4 ?c5; (case kK => assumption); (case k2 => k_asm); (case k3 => k_asm); (case k5 => k_asm); (case k6 => k_is); (case k7 => k_is); (case k8 => ktr_room); (case k9 => exact BindsTo.of_eq rfl); (case c5 => decide); (case kB => exact locs rfl); (case c2 => exact rfl); (case c3 => exact rfl); (case c4 => exact rfl); k_whole)
  intro L' h' oL C' Fs' F' N' X' T'
  (try dsimp only)
  have hret' : ∀ (b' : Array UInt8) (t : Tok) (h' : Heap) (tk' : Nat) (m' : Str → Option Value) (news : List (Addr × Obj)) (sl : Array (Option Value)), Fr (hideAll s.heap [L]) L' h' m' → News (hideAll s.heap [L]) L' h' news → (L, { oL with slots := sl }) ∈ news → KBw.bInts b' = [1] → Q (.bytes b' t) { s with heap := h', toks := tk' } := by
    intro b' t h' tk' m' news sl F'' N'' hm hb'
    obtain ⟨x1, x2⟩ := back_H C' F'' N'' hm F
    exact hret b' t h' tk' x1 x2 hb'
  clear hret F X T
  generalize hideAll s.heap [L] = base' at *
  -- if isinstance(in_bytes, str)
  refine wpS_execs_cons (wpS_of_any ?_)
  (try k_fold)
  k_steps
  try clear qk ek
  -- in_bytes_mv = in_bytes
  refine wpS_execs_cons (wpS_of_any ?_)
  (try k_fold)
  k_steps
  try clear qk ek
  -- out_bytes = bytearray()
  refine wpS_execs_cons (wpS_Assign_Name rfl (wpS_Call ?_))
  (try k_fold)
  k_steps
  try clear qk ek
  refine callWithS_type0 (ba_2 rfl (by assumption) (by assumption) ?_)
  intro h2 D b2 hb2 hLD F2 N2
  have hDL : L ≠ D := Nat.ne_of_lt hLD
  (try k_fold)
  k_steps
  try clear qk ek
  -- idx = 0
  refine wpS_execs_cons (wpS_of_any ?_)
  (try k_fold)
  k_steps
  try clear qk ek
  -- search_start_idx = 0
  refine wpS_execs_cons (wpS_of_any ?_)
  (try k_fold)
  k_steps
  try clear qk ek
  -- for in_char in in_bytes_mv
  refine wpS_cut (fun s' => ∃ t1 t2, St s base' L' [(Str.ofString "in_bytes_mv", .bytes b tb), (Str.ofString "out_bytes", .ref D), (Str.ofString "idx", .int 0 t1), (Str.ofString "search_start_idx", .int 0 t2)] [(D, baObj b2), (L, oL)] s') ?_ ?_
  · refine wpS_For ?_
    (try k_fold)
    k_steps
    try clear qk ek
    rename_i h5 F5 N5
    refine KBw.pyIter_bytes ?_
    refine forBytes (tb := tb) (fun i s' => i = 0 ∧ s' = _) hb rfl ?_ ?_ ?_ ⟨rfl, rfl⟩
    · rintro i s' ⟨rfl, rfl⟩
      exact ⟨_, Heap.get?_push_size _ rfl, rfl, rfl⟩
    · rintro i k tok s' h' _ hki
      simp at hki
    · rintro s' h' ⟨_, rfl⟩ hext
      have hext' : Heap.ExtBut h5.objs.size h5 h' := fun b o hb e => hext b o hb (Heap.get?_push_of_some _ e)
      obtain ⟨F6, N6⟩ := ext_two F5 N5 hext'
      exact ⟨_, _, St.mk F6 N6 (fun p hp => hp) (by kst_all)⟩
  · rintro s' ⟨t1, t2, ⟨h9, tk9, u9, rfl, F9, N9⟩⟩
    dsimp only [kstB] at F9
    -- try: final_byte_value = in_bytes_mv[-1]
    refine wpS_cut (fun s' => Cut (∃ t3 sl, St s base' L' [(Str.ofString "in_bytes_mv", .bytes b tb), (Str.ofString "out_bytes", .ref D), (Str.ofString "idx", .int 0 t1), (Str.ofString "search_start_idx", .int 0 t2), (Str.ofString "final_byte_value", .int 0 t3)] [(D, baObj b2), (L, { oL with slots := sl })] s')) ?_ ?_
    · refine wpS_of_any ?_
      (try k_fold)
      k_steps
      (rename Heap.NewExc _ _ _ _ => hx)
      refine TLg.noted_new1 (new := [(D, baObj b2)]) (by rfl) Fs' hx F9 N9 ⟨(Ne.symm hDL), trivial⟩ ?_
      clear hx
      intro h' sl' tiF' tiH'
      (try simp only [List.nil_append, List.cons_append] at tiH')
      have tiHH' := TT.HeldNA.held tiH'
      k_steps
      exact Cut.mk ⟨_, _, St.mk (by assumption) (by assumption) (fun p hp => hp) (by kst_all)⟩
    · rintro s' ⟨t3, sl, ⟨h8, tk8, u8, rfl, F8, N8⟩⟩
      dsimp only [kstB] at F8
      clear F9 N9
      -- length_value = idx - search_start_idx + 1
      refine wpS_execs_cons (wpS_of_any ?_)
      (try k_fold)
      k_steps
      try clear qk ek
      -- if final_byte_value < length_value
      refine wpS_execs_cons (wpS_If (wpS_of_any ?_))
      (try k_fold)
      k_steps
      all_goals try clear qk ek
      refine wpS_execs_cons (wpS_Expr (wpS_Method ?_))
      (try k_fold)
      k_steps
      try clear qk ek
      refine callWithS_meth1 (wpS_of_any ?_)
      (try k_fold)
      k_steps
      try clear qk ek
      refine append_2 rfl hDL (by assumption) (by assumption) hb2 (by decide) (by decide) (by decide) ?_
      intro h4 b4 hb4 F4 N4
      refine ⟨rfl, ?_⟩
      dsimp only
      refine wpS_execs_cons (wpS_AugAssign_Name ?_)
      (try k_fold)
      k_steps
      try clear qk ek
      (rename KBw.bInts (KBy.picked _ _ _) = _ => hcp)
      have hcp' : KBw.bInts (KBy.picked b (some 0) (some 0)) = [] := by
        rw [KBc.ints_picked hb]; rfl
      refine wpS_operate (iadd_2 rfl hDL (by assumption) (by assumption) hb4 hcp' (by decide) ?_)
      intro h3 b3 hb3 F3 N3
      (try k_fold)
      k_steps
      try clear qk ek
      repeat (refine wpS_execs_nil ?_; dsimp only)
      have hb3' : KBw.bInts b3 = [1] := hb3
      clear hb3 hb4
      -- return bytes(out_bytes)
      refine wpS_execs_cons (wpS_of_any ?_)
      (try k_fold)
      k_steps
      exact hret' b3 _ _ _ _ _ sl (by assumption) (by assumption) (List.Mem.tail _ (List.Mem.head _)) hb3'

set_option maxRecDepth 100000 in
set_option maxHeartbeats 8000000 in
theorem parts_S {w : World} {mean : ExcName → Option Value} {mg mb : Str → Option Value} {l : Addr} {vs : List Value} {ts : List Int}
    {dp un : Nat} {cn : Str} {cs : Scope} {a : Addr} {ccd : Value} {cl : List (Str × Addr)} {outer : List Env} {A₀ : Around} {base h₀ : Heap} {L : Addr} {m : Str → Option Value} {s : Shared} {Q : Value → Shared → Prop}
    (B : Below A₀ base outer h₀) (F : Fr h₀ L s.heap m) (X : (hd.heap_39 w.params).In h₀) (T : Top hd.view_39 (looseW hd.view_39 []) mean mg mb h₀) (hk : cs.kind = .function)
    (hl : s.heap.IsList l vs.toArray) (hi : IntsAre vs ts) (hz : ts.length ≤ 3000) (hdp : dp + 1 < recursionLimit) (hun : un + 8 < cLine)
    (hret : ∀ (Tu Fa Ra : Addr) (h' : Heap) (tk' : Nat) (vf vr : List Value) (nf nr : Nat), (∀ b o, s.heap.get? b = some o → h'.get? b = some o) → h'.get? Tu = some { cls := .type "tuple", data := .seq #[.ref Fa, .ref Ra] } → h'.get? Fa = some (listOf vf.toArray nf) → h'.get? Ra = some (listOf vr.toArray nr) →
      s.heap.get? Fa = none → s.heap.get? Ra = none → s.heap.get? Tu = none → @LT.lt Nat _ Fa Ra → @LT.lt Nat _ Ra Tu → IntsAre vf (partsL ts).1 → IntsAre vr (partsL ts).2 → Q (.ref Tu) { s with heap := h', toks := tk' }) :
      wpS (model PySem.Challenge.rw_md0005_01.row.prog w) (ktrTop dp un (some []) cn cs L a ccd cl outer) (call (.ref 46) [.ref l]) Q s := by
  w_top off
  revert X
  k_fill
  intro X
  refine wpS_call ?_
  k_dflt (refine' codeS_def ?k1 ?k2 ?k3 ?k5 ?kA ?kF ?kK ?k6 ?k7 ?k8 ?k9 ?kB ?_ ?c2 ?c3 ?c4 ?c5; (case kA => exact rfl); (case kF => exact rfl); (case kK => assumption); (case k1 => k_asm); (case k2 => k_asm); (case k3 => k_asm); (case k5 => k_asm); (case k6 => k_is); (case k7 => k_is); (case k8 => ktr_room); (case k9 => exact BindsTo.of_eq rfl); (case c5 => decide); (case kB => exact locs rfl); (case c2 => exact rfl); (case c3 => exact rfl); (case c4 => exact rfl); k_whole)
  intro L' h' F' B' X' T'
  (try dsimp only)
  (try k_lift B')
  have N' : News s.heap L' h' [] := News.nil
  clear F B X T
  -- front = []
  refine wpS_execs_cons (wpS_of_any ?_)
  (try k_fold)
  k_steps
  try clear qk ek
  -- start = 0
  refine wpS_execs_cons (wpS_of_any ?_)
  (try k_fold)
  k_steps
  try clear qk ek
  rename_i Fa h3 l1 h4 h5 F5 N5
  have hFa : @LT.lt Nat _ l s.heap.objs.size := by obtain ⟨_, x, _⟩ := hl; exact Heap.lt_size x
  have hs5 : @LE.le Nat _ s.heap.objs.size h5.objs.size := Nat.le_of_lt (Nat.lt_of_le_of_lt F5.above F5.ns.lt)
  have hFa5 : @LT.lt Nat _ Fa h5.objs.size := Heap.lt_size (N5 _ (.head _)).1
  -- for nought in [..]
  refine wpS_cut (fun s' => Cut <| ∃ vf fs st t2 n, St s s.heap L' [(Str.ofString "row", .ref l), (Str.ofString "front", .ref Fa), (Str.ofString "start", .int st t2)] [(Fa, listOf vf.toArray n)] s' ∧ IntsAre vf fs ∧ PartsInv ts (zerosFrom 0 ts).length fs st) ?_ ?_
  · refine wpS_For ?_
    rw [eval_ListComp]
    refine wpAny_comprehension_free (use := none) rfl (fun _ => rfl) (cl := []) rfl rfl (by decide) ?_
    refine wpAny_mono (Q := fun x s₁ => Cut (∃ h1 tk1, s₁ = { s with heap := h1, toks := tk1 } ∧ x = .ref (h5.objs.size + 1) ∧ IsEnum h1 (h5.objs.size + 1) h5.objs.size 0 .none ∧ h1.IsListIter h5.objs.size l 0 ∧ (∀ b o, h5.get? b = some o → h1.get? b = some o))) (E := fun _ _ => False) ?_ ?_ (fun _ _ x => x)
    · show wpAny _ _ (eval (Expr.Call _ _ _ _) _) _ _ _
      (try k_fold)
      k_steps
      exact Cut.mk ⟨_, _, rfl, rfl, by assumption, by assumption, by assumption⟩
    · intro x s₁ hc
      obtain ⟨h1, tk1, rfl, rfl, hE1, hI1, hk1⟩ := Cut.out hc
      have hl1 : h1.IsList l vs.toArray := by obtain ⟨o, x, y⟩ := hl; exact ⟨o, hk1 _ _ (F5.keep _ _ x), y⟩
      refine enum_tail rfl (by decide) rfl rfl rfl (by decide) (by decide) (by decide) hE1 hI1 hl1 hi (by omega) (Nat.succ_ne_self _) (Nat.ne_of_lt (by omega)) (Nat.ne_of_lt (by omega)) ?_
      intro D nD h2 tk2 ys hkeep hDge hDobj hys
      have hDge' : @LE.le Nat _ h1.objs.size D := hDge
      have h15 : @LT.lt Nat _ (h5.objs.size + 1) h1.objs.size := Heap.lt_size hE1
      have keep2 : ∀ b o, h5.get? b = some o → h2.get? b = some o := fun b o e => hkeep b o (Nat.ne_of_lt (Nat.lt_succ_of_lt (Heap.lt_size e))) (Nat.ne_of_lt (Heap.lt_size e)) (hk1 b o e)
      have F6 := F5.keptAll keep2
      have hDL : D ≠ L' := by
        have : @LT.lt Nat _ L' h5.objs.size := F5.ns.lt
        exact Nat.ne_of_gt (by omega)
      have hD0 : s.heap.get? D = none := Heap.get?_none_of_le (by omega)
      have N6 : News s.heap L' h2 [(Fa, listOf #[] 0), (D, listOf ys.toArray nD)] := List.forall_mem_cons.mpr ⟨⟨keep2 _ _ (N5 _ (.head _)).1, (N5 _ (.head _)).2⟩, List.forall_mem_cons.mpr ⟨⟨hDobj, hDL, hD0⟩, List.forall_mem_nil _⟩⟩
      have hFaD : @LT.lt Nat _ Fa D := by omega
      clear hc hE1 hI1 hk1 hl1 hkeep keep2 F5 N5
      refine wpAny_pyIter_list ⟨_, hDobj, rfl, _, rfl⟩ ?_
      have hDI : @LT.lt Nat _ D h2.objs.size := Heap.lt_size hDobj
      have hFI : Fa ≠ h2.objs.size := Nat.ne_of_lt (Nat.lt_trans hFaD hDI)
      refine forList (items := ys.toArray) (l := D) (fun i s' => ∃ vf fs st t2 n oi, St s s.heap L' [(Str.ofString "row", .ref l), (Str.ofString "front", .ref Fa), (Str.ofString "start", .int st t2)] [(Fa, listOf vf.toArray n), (D, listOf ys.toArray nD), (h2.objs.size, oi)] s' ∧
        oi.cls = .type "list_iterator" ∧ oi.data = .fields #[.ref D, .int (i : Nat) 0] ∧ IntsAre vf fs ∧ PartsInv ts i fs st) rfl ?_ ?_ ?_ ?_
      · rintro i s' ⟨vf, fs, st, t2, n, oi, ⟨h9, tk9, u9, rfl, F9, N9⟩, hc, hd, hvf, hinv⟩
        exact ⟨⟨oi, (N9 _ (.tail _ (.tail _ (.head _)))).1, hc, hd⟩, ⟨_, (N9 _ (.tail _ (.head _))).1, rfl, _, rfl⟩⟩
      · rintro i v s' h' ⟨vf, fs, st, t2, n, oi, ⟨h9, tk9, u9, rfl, F9, N9⟩, hc, hd, hvf, hinv⟩ hv hit hsb
        have hv' : ys[i]? = some v := by simpa using hv
        obtain ⟨p, tp, rfl, hp⟩ := IntsAre.at hys i v hv'
        obtain ⟨oi', hoi', hc', hd'⟩ := hit
        have y := N9 _ (.tail _ (.tail _ (.head _)))
        have F7 := F9.change hsb y.2.1 y.2.2
        have N7 : News s.heap L' h' [(Fa, listOf vf.toArray n), (D, listOf ys.toArray nD), (h2.objs.size, oi')] :=
          List.forall_mem_cons.mpr ⟨⟨(hsb.2 _ hFI).trans (N9 _ (.head _)).1, (N9 _ (.head _)).2⟩, List.forall_mem_cons.mpr ⟨⟨(hsb.2 _ (Nat.ne_of_lt hDI)).trans (N9 _ (.tail _ (.head _))).1, (N9 _ (.tail _ (.head _))).2⟩, List.forall_mem_cons.mpr ⟨⟨hoi', y.2⟩, List.forall_mem_nil _⟩⟩⟩
        clear F9 N9 hsb y hoi' hc hd oi F6 N6 hDobj hv hv'
        dsimp only [kstB] at F7
        obtain ⟨g, hg, hg1, hg2, hg3, hg4⟩ := parts_gap hinv hp
        obtain ⟨q0, q1, _, _, q4⟩ := hinv
        (try k_fold)
        k_steps
        try clear qk ek
        -- gap = row[start:nought]
        refine wpS_cut (fun s' => Cut (∃ G gv ng, St s s.heap L' [(Str.ofString "gap", .ref G), (Str.ofString "nought", .int p tp), (Str.ofString "row", .ref l), (Str.ofString "front", .ref Fa), (Str.ofString "start", .int st t2)] [(G, listOf gv.toArray ng), (Fa, listOf vf.toArray n), (D, listOf ys.toArray nD), (h2.objs.size, oi')] s' ∧
          IntsAre gv g ∧ @LT.lt Nat _ h2.objs.size G)) ?_ ?_
        · refine wpS_of_any ?_
          (try k_fold)
          k_steps
          (rename IntsAre _ (List.take _ (List.drop _ _)) => hgI)
          have eg : List.take (min p.toNat ts.length - st.toNat) (List.drop st.toNat ts) = g := by
            rw [← hg]
            congr 1
            omega
          rw [eg] at hgI
          exact Cut.mk ⟨_, _, _, St.mk (by assumption) (by assumption) (by kst_in) (by kst_all), hgI, by omega⟩
        · try clear F7 N7
          rintro s' ⟨G, gv, ng, ⟨h8, tk8, u8, rfl, F8, N8⟩, hgv, hIG⟩
          dsimp only [kstB] at F8
          -- while len(gap) >= 254
          refine wpS_cut (fun s' => Cut <| ∃ G gv ng vf n fs' g', St s s.heap L' [(Str.ofString "gap", .ref G), (Str.ofString "nought", .int p tp), (Str.ofString "row", .ref l), (Str.ofString "front", .ref Fa)] [(G, listOf gv.toArray ng), (Fa, listOf vf.toArray n), (D, listOf ys.toArray nD), (h2.objs.size, oi')] s' ∧
            IntsAre gv g' ∧ @LT.lt Nat _ h2.objs.size G ∧ IntsAre vf fs' ∧ fs' ++ flushL g' = fs ++ flushL g ∧ g'.length < 254) ?_ ?_
          · refine wpS_While (fun k s' => ∃ G gv ng vf n fs' g', St s s.heap L' [(Str.ofString "gap", .ref G), (Str.ofString "nought", .int p tp), (Str.ofString "row", .ref l), (Str.ofString "front", .ref Fa)] [(G, listOf gv.toArray ng), (Fa, listOf vf.toArray n), (D, listOf ys.toArray nD), (h2.objs.size, oi')] s' ∧
              IntsAre gv g' ∧ @LT.lt Nat _ h2.objs.size G ∧ IntsAre vf fs' ∧ fs' ++ flushL g' = fs ++ flushL g ∧ k = g'.length) ?_ g.length ?_
            · clear F8 N8 hgv hIG hvf
              rintro k s' ⟨G, gv, ng, vf, n, fs', g', ⟨h8, tk8, u8, rfl, F8, N8⟩, hgv, hIG, hvf, hfl, rfl⟩
              dsimp only [kstB] at F8
              have hbnd : fs'.length + g'.length ≤ 12000 := by
                have e1 := congrArg List.length hfl
                have e2 := flushL_length g
                have e3 : g'.length ≤ (flushL g').length := flushL_ge g'
                rw [List.length_append, List.length_append] at e1
                omega
              have hgl := hgv.length
              refine wpS_of_any ?_
              (try k_fold)
              k_steps
              all_goals try clear qk ek
              · -- front += [255] + gap[:254]
                refine wpS_execs_cons (wpS_AugAssign_Name ?_)
                (try k_fold)
                k_steps
                try clear qk ek
                refine wpS_operate (wpS_of_any (iadd_L [(G, listOf gv.toArray ng), (D, listOf ys.toArray nD), (h2.objs.size, oi')] (by assumption) (by assumption) (by k_mem) (by k_mem) hvf (by assumption)
                  (List.forall_mem_cons.mpr ⟨⟨by k_mem, by k_ne⟩, List.forall_mem_cons.mpr ⟨⟨by k_mem, by k_ne⟩, List.forall_mem_cons.mpr ⟨⟨by k_mem, by k_ne⟩, List.forall_mem_nil _⟩⟩⟩) (by simp only [List.length_append, List.length_cons, List.length_nil]; omega) ?_))
                intro h3 n3 us hus F3 N3
                (try k_fold)
                k_steps
                try clear qk ek
                -- gap = gap[254:]
                refine wpS_execs_cons (wpS_of_any ?_)
                (try k_fold)
                k_steps
                try clear qk ek
                refine wpS_execs_nil ?_
                dsimp only
                refine ⟨_, ?_, _, _, _, us, n3, _, g'.drop 254, St.mk (by assumption) (by assumption) (by kst_in) (by kst_all), by assumption, by omega, hus, ?_, rfl⟩
                · rw [List.length_drop]; omega
                · rw [← hfl, flushL_big (g := g') (by omega)]
                  simp
              · exact Cut.mk ⟨G, gv, ng, vf, n, fs', g', St.mk (by assumption) (by assumption) (fun p hp => hp) (by kst_all), hgv, hIG, hvf, hfl, by omega⟩
            · exact ⟨G, gv, ng, vf, n, fs, g, St.mk F8 N8 (fun p hp => hp) (by kst_all), hgv, hIG, hvf, rfl, rfl⟩
          · clear F8 N8 hgv hIG hvf
            rintro s' ⟨G, gv, ng, vf, n, fs', g', ⟨h8, tk8, u8, rfl, F8, N8⟩, hgv, hIG, hvf, hfl, hsm⟩
            dsimp only [kstB] at F8
            have hbnd : fs'.length + g'.length ≤ 12000 := by
              have e1 := congrArg List.length hfl
              have e2 := flushL_length g
              have e3 : g'.length ≤ (flushL g').length := flushL_ge g'
              rw [List.length_append, List.length_append] at e1
              omega
            have hgl := hgv.length
            -- front += [len(gap) + 1] + gap
            refine wpS_execs_cons (wpS_AugAssign_Name ?_)
            (try k_fold)
            k_steps
            try clear qk ek
            refine wpS_operate (wpS_of_any (iadd_L [(D, listOf ys.toArray nD), (h2.objs.size, oi')] (by assumption) (by assumption) (by k_mem) (by k_mem) hvf (by assumption)
              (List.forall_mem_cons.mpr ⟨⟨by k_mem, by k_ne⟩, List.forall_mem_cons.mpr ⟨⟨by k_mem, by k_ne⟩, List.forall_mem_nil _⟩⟩) (by simp only [List.length_append, List.length_cons, List.length_nil]; omega) ?_))
            intro h3 n3 us hus F3 N3
            (try k_fold)
            k_steps
            try clear qk ek
            -- start = nought + 1
            refine wpS_execs_cons (wpS_of_any ?_)
            (try k_fold)
            k_steps
            try clear qk ek
            refine wpS_execs_nil ?_
            dsimp only
            have eF : fs' ++ ([(g'.length : Int) + 1] ++ g') = fs ++ flushL g := by
              rw [← hfl, flushL_small hsm]
              rfl
            rw [eF] at hus
            exact ⟨us, _, _, _, n3, oi', St.mk (by assumption) (by assumption) (by kst_in) (by kst_all), hc', hd', hus, hg4⟩
      · rintro s' h' ⟨vf, fs, st, t2, n, oi, ⟨h9, tk9, u9, rfl, F9, N9⟩, hc, hd, hvf, hinv⟩ hext
        have z := N9 _ (.head _)
        have y := N9 _ (.tail _ (.tail _ (.head _)))
        have F10 : Fr s.heap L' h' (kstB u9 [(Str.ofString "row", .ref l), (Str.ofString "front", .ref Fa), (Str.ofString "start", .int st t2)]) := by
          obtain ⟨oL, a1, a2, hL, a3⟩ := F9.ns
          refine ⟨⟨oL, a1, a2, hext L' _ (Ne.symm y.2.1) hL, a3⟩, fun b o e => hext b o ?_ (F9.keep b o e), F9.above⟩
          rintro rfl
          rw [y.2.2] at e
          cases e
        have eN : ys.toArray.size = (zerosFrom 0 ts).length := by rw [List.size_toArray, hys.length]
        rw [eN] at hinv
        exact Cut.mk ⟨vf, fs, st, t2, n, ⟨_, _, _, rfl, F10, List.forall_mem_cons.mpr ⟨⟨hext _ _ hFI z.1, z.2⟩, List.forall_mem_nil _⟩⟩, hvf, hinv⟩
      · refine ⟨[], [], 0, _, 0, _, St.mk (news := [(Fa, listOf #[] 0), (D, listOf ys.toArray nD), (h2.objs.size, _)]) (F6.push _) (List.forall_mem_cons.mpr ⟨⟨Heap.get?_push_of_some _ (N6 _ (.head _)).1, (N6 _ (.head _)).2⟩, List.forall_mem_cons.mpr ⟨⟨Heap.get?_push_of_some _ (N6 _ (.tail _ (.head _))).1, (N6 _ (.tail _ (.head _))).2⟩,
          List.forall_mem_cons.mpr ⟨⟨Heap.get?_push_size _ rfl, fun e => absurd F6.ns.lt (e ▸ Nat.lt_irrefl _), next_is_new F6⟩, List.forall_mem_nil _⟩⟩⟩) (fun p hp => hp) (by kst_all), rfl, rfl, .nil, parts_start ts⟩
  · try clear F5 N5
    rintro s' ⟨vf, fs, st, t2, n, ⟨h9, tk9, u9, rfl, F9, N9⟩, hvf, hinv⟩
    dsimp only [kstB] at F9
    obtain ⟨q0, q1, _, _, q4⟩ := id hinv
    have hend := parts_end hinv
    -- rest = row[start:]
    refine wpS_execs_cons (wpS_of_any ?_)
    (try k_fold)
    k_steps
    try clear qk ek
    -- while len(rest) > 254
    refine wpS_cut (fun s' => Cut <| ∃ G gv ng vf n fs' g', St s s.heap L' [(Str.ofString "rest", .ref G), (Str.ofString "front", .ref Fa)] [(G, listOf gv.toArray ng), (Fa, listOf vf.toArray n)] s' ∧
      IntsAre gv g' ∧ @LT.lt Nat _ Fa G ∧ IntsAre vf fs' ∧ (fs' ++ (finL g').1, (finL g').2) = partsL ts ∧ g'.length ≤ 254) ?_ ?_
    · refine wpS_While (fun k s' => ∃ G gv ng vf n fs' g', St s s.heap L' [(Str.ofString "rest", .ref G), (Str.ofString "front", .ref Fa)] [(G, listOf gv.toArray ng), (Fa, listOf vf.toArray n)] s' ∧
        IntsAre gv g' ∧ @LT.lt Nat _ Fa G ∧ IntsAre vf fs' ∧ (fs' ++ (finL g').1, (finL g').2) = partsL ts ∧ fs'.length + 2 * g'.length ≤ 12000 ∧ k = g'.length) ?_ (ts.drop st.toNat).length ?_
      · rintro k s' ⟨G, gv, ng, vf, n, fs', g', ⟨h8, tk8, u8, rfl, F8, N8⟩, hgv, hIG, hvf, hfl, hbnd, rfl⟩
        dsimp only [kstB] at F8
        have hgl := hgv.length
        refine wpS_of_any ?_
        (try k_fold)
        k_steps
        all_goals try clear qk ek
        · -- front += [255] + rest[:254]
          refine wpS_execs_cons (wpS_AugAssign_Name ?_)
          (try k_fold)
          k_steps
          try clear qk ek
          refine wpS_operate (wpS_of_any (iadd_L [(G, listOf gv.toArray ng)] (by assumption) (by assumption) (by k_mem) (by k_mem) hvf (by assumption)
            (List.forall_mem_cons.mpr ⟨⟨by k_mem, by k_ne⟩, List.forall_mem_nil _⟩) (by simp only [List.length_append, List.length_cons, List.length_nil]; omega) ?_))
          intro h3 n3 us hus F3 N3
          (try k_fold)
          k_steps
          try clear qk ek
          -- rest = rest[254:]
          refine wpS_execs_cons (wpS_of_any ?_)
          (try k_fold)
          k_steps
          try clear qk ek
          refine wpS_execs_nil ?_
          dsimp only
          refine ⟨_, ?_, _, _, _, us, n3, _, g'.drop 254, St.mk (by assumption) (by assumption) (by kst_in) (by kst_all), by assumption, by omega, hus, ?_, ?_, rfl⟩
          · rw [List.length_drop]; omega
          · rw [← hfl, finL_big (g := g') (by omega)]
            simp
          · simp only [List.length_append, List.length_cons, List.length_nil, List.length_drop, List.length_take]
            omega
        · exact Cut.mk ⟨G, gv, ng, vf, n, fs', g', St.mk (by assumption) (by assumption) (fun p hp => hp) (by kst_all), hgv, hIG, hvf, hfl, by omega⟩
      · refine ⟨_, _, _, vf, n, fs, _, St.mk (by assumption) (by assumption) (fun p hp => hp) (by kst_all), by assumption, by omega, hvf, hend, ?_, rfl⟩
        rw [List.length_drop]
        omega
    · rintro s' ⟨G, gv, ng, vf, n, fs', g', ⟨h8, tk8, u8, rfl, F8, N8⟩, hgv, hIG, hvf, hfl, hsm⟩
      dsimp only [kstB] at F8
      rw [finL_small hsm, List.append_nil] at hfl
      -- return (front, rest)
      refine wpS_execs_cons (wpS_of_any ?_)
      (try k_fold)
      k_steps
      rename_i Tu h10 F10 N10 l10
      rw [show partsL ts = (fs', g') from hfl.symm] at hret
      have z1 := N10 _ (.head _)
      have z2 := N10 _ (.tail _ (.head _))
      have z3 := N10 _ (.tail _ (.tail _ (.head _)))
      exact hret Tu Fa G h10 _ vf gv n ng F10.keep z1.1 z3.1 z2.1 z3.2.2 z2.2.2 z1.2.2 hIG l10.1 hvf hgv

open PySem.Calls
theorem Oct.getD {ks : List Int} (h : Oct ks) {i : Nat} (hi : i < ks.length) : 1 ≤ ks.getD i 0 ∧ ks.getD i 0 ≤ 255 := by
  rw [List.getD_eq_getElem?_getD, List.getElem?_eq_getElem hi]; exact h _ (List.getElem_mem hi)
theorem oct_first (ns : List Int) : Oct (List.map (fun k' => k'.fmod 255 + 1) ns) := by
  intro x hx
  obtain ⟨k, _, rfl⟩ := List.mem_map.mp hx
  have h1 := Int.fmod_nonneg_of_pos k (b := 255) (by decide)
  have h2 := Int.fmod_lt_of_pos k (b := 255) (by decide)
  omega
theorem kind_pos (ns : List Int) (h : 0 < ((ns ++ [0]).getD (Int.toNat 0) 0).fmod 8) : 0 < ns.length := by
  cases ns with
  | nil => exact absurd h (by decide)
  | cons _ _ => exact Nat.succ_pos _
theorem Oct.rep {a : List Int} (ha : Oct a) (n : Nat) : Oct (List.replicate n a).flatten := fun x hx => by
  obtain ⟨l, hl, hx⟩ := List.mem_flatten.mp hx
  rw [(List.mem_replicate.mp hl).2] at hx
  exact ha x hx
theorem wpS_If_cut {M : Model} {A : Around} {s : Shared} {env : Env} {test body orelse pos} {Q : Flow → Shared → Prop} (P : Prop)
    (h : wpS M A (isTrue test env (eval test env)) (fun b s' => Cut (∃ tk, s' = { s with toks := tk } ∧ (b = true → P))) s)
    (ht : P → ∀ tk, wpS M A (execs body env) Q { s with toks := tk }) (he : ∀ tk, wpS M A (execs orelse env) Q { s with toks := tk }) : wpS M A (exec (.If test body orelse pos) env) Q s := by
  refine wpS_If (wpS_mono h fun b s' hc => ?_)
  obtain ⟨tk, rfl, hp⟩ := Cut.out hc
  cases b
  · exact he tk
  · exact ht (hp rfl) tk
theorem wpS_Assign_Tuple {M : Model} {A : Around} {s : Shared} {env : Env} {elts k tpos value pos} {Q : Flow → Shared → Prop}
    (h : wpS M A (eval value env) (fun v s₁ => wpAny M A (assign (.Tuple elts k tpos) env v) (fun _ => Q .next) (fun _ _ => False) s₁) s)
    (hs : swapsWithSole [.Tuple elts k tpos] value pos.line env = pure false := by rfl)
    (hw : swappedStores [.Tuple elts k tpos] value env = pure none := by rfl) :
    wpS M A (exec (.Assign [.Tuple elts k tpos] value pos) env) Q s := by
  rw [exec_Assign]
  refine wpS_bind (wpS_standAt ?_)
  rw [hs]
  refine wpS_bind (wpS_pure ?_)
  rw [if_neg (by decide)]
  refine wpS_bind (wpS_mono h (fun v s₁ h₁ => ?_))
  rw [hw]
  refine wpS_bind (wpS_pure ?_)
  show wpS M A (do assignAll v [assign (.Tuple elts k tpos) env]; pure .next) Q s₁
  exact wpS_bind (wpS_mono (wpS_of_any h₁) (fun _ _ x => wpS_pure x))
theorem func_at {K : Frag} {h : Heap} {f : Addr} {name qual : Str} {params : Arguments} {body : List Stmt} {scope : Scope} {dV kV doc pm cdv ct oc : Value} {an od : Option Addr} {osl : Array (Option Value)}
    (X : K.In h) (ho : K.lookup f = some ⟨oc, od, .func (fnOf name qual params body scope dV kV doc pm an cdv ct), osl⟩) : ∃ o, h.get? f = some o ∧ ∃ fd, o.data = .func fd := ⟨_, X _ _ ho, _, rfl⟩
/-- the call of the law from the top -/
theorem codeS_top {prog : Program} {w : World} {A : Around} {R : Flow → Shared → Prop} {s : Shared} {name : Str} {params : Arguments} {body : List Stmt} {scope : Scope}
    {dV kV pm cd doc : Value} {a : Addr} {o : Obj} {args : Args} {binds : List (Str × Value)}
    (hroom : A.depth < recursionLimit) (ho : s.heap.get? a = some o) (hdata : o.data = .func { docDef name params body scope pm cd doc with defaults := dV, kwdefaults := kV }) (hlim : s.heap.NoLimit) (hcd : s.heap.CodeRec cd name)
    (hbind : BindsTo s { docDef name params body scope pm cd doc with defaults := dV, kwdefaults := kV } args binds)
    (hloc : ∀ x ∈ binds, scope.names.lookup x.1 = some .local)
    (h : ∀ h₁, Fr s.heap s.heap.objs.size h₁ (fun x => binds.reverse.lookup x) →
      wpS (model prog w) (A.deeper (envOf name scope s.heap.objs.size a cd)) (execs body (envOf name scope s.heap.objs.size a cd))
        (fun f s' => R (.ret (match f with | .ret v => v | _ => .none)) s')
        { s with heap := h₁, toks := s.toks + binds.length })
    (hco : scope.isCoroutine = false := by rfl) (hgen : scope.isGenerator = false := by rfl) (hk : scope.kind = .function := by rfl)
    (hcell : ∀ x ∈ scope.names, x.2 ≠ .cell := by decide) :
    codeS (model prog w) A (.call (.ref a) args) R s := by
  refine codeS_call_function (fd := { docDef name params body scope pm cd doc with defaults := dV, kwdefaults := kV }) hroom ho hdata hco hgen rfl hcd (hbind _ _ _ _ ?_)
  refine wpAny_newFunctionEnv hcell hloc (fun h₁ hns₁ hsb₁ => ⟨hlim.fresh _ hsb₁, codeS_func ?_⟩) hk
  refine h h₁ ⟨hns₁, fun b o e => ?_, Nat.le_refl _⟩
  exact hsb₁.extBut b o (Nat.ne_of_lt (Heap.lt_size e)) (Heap.get?_push_of_some _ e)

set_option maxRecDepth 100000 in
set_option maxHeartbeats 8000000 in
theorem law_holds : PySem.Challenge.rw_md0005_01.Holds := hd (by
  w_top off
  k_fill
  intro w s₀ s₁ mg mb G Y fa o pm cd doc dV kV ho hd hcd hD hmg hg args vals as hpre hlay hrd hwl hlo
  have KX := kIn_of Y
  have X := (Ground.X G).1
  have V := (Ground.X G).2
  refine Ground.open G ?_
  intro T B D TE TW
  try (refine guard_noD D (by decide +kernel) ?_; clear D)
  clear hmg
  wrow_args hpre hlay hrd hwl hlo
  refine wpS_call ?_
  have K0 := below_caller s₁.heap
  have he := Dflts.none hD rfl; subst he
  refine codeS_top (by decide) ho hd (Top.nolimit T) hcd (BindsTo.of_eq rfl) (locs rfl) fun h₁ F => ?_
  w_binds F
  have N0 := (News.nil : News _ _ _ []).at F
  clear hd G X V B TE TW hD hcd Y
  rename_i w5 _ _ _ _ _ _ l0 v0 _ hl0 _ _ _ hi0 _ hlen0 _
  -- numbers = script[:20]
  refine wpS_execs_cons (wpS_of_any ?_)
  (try k_fold)
  k_steps
  try clear qk ek
  -- row = [..]
  refine wpS_execs_cons (wpS_of_any ?_)
  (try k_fold)
  k_steps
  try clear qk ek
  -- kind
  refine wpS_cut (fun s' => Cut <| ∃ R ys n rs k t, St s₁ s₁.heap s₁.heap.objs.size [(Str.ofString "row", .ref R), (Str.ofString "kind", .int k t)] [(R, listOf ys.toArray n)] s' ∧ IntsAre ys rs ∧ Oct rs ∧ rs.length ≤ 20 ∧ (0 < k → 0 < rs.length)) ?_ ?_
  · refine wpS_of_any ?_
    (try k_fold)
    k_steps
    rename IntsAre _ (List.map _ _) => hIr
    refine Cut.mk ⟨_, _, _, _, _, _, St.mk (by assumption) (by assumption) (by kst_in) (by kst_all), hIr, oct_first _, ?_, ?_⟩
    · rw [List.length_map, List.length_take]; omega
    · intro hk; rw [List.length_map]; exact kind_pos _ hk
  · repeat (rename Fr _ _ _ _ => Fz; clear Fz)
    repeat (rename News _ _ _ _ => Nz; clear Nz)
    repeat (rename Reads _ _ _ _ => Nz; clear Nz)
    repeat (rename Well _ _ _ _ => Nz; clear Nz)
    repeat (rename ReadsAll _ _ _ _ => Nz; clear Nz)
    repeat (rename IntsAre _ _ => Nz; clear Nz)
    rintro s' ⟨R, ys, n, rs, k, t, ⟨h2, tk2, u2, rfl, F2, N2⟩, hys, hoct, hrl, hkp⟩
    dsimp only [kstB] at F2
    -- if kind > 0
    refine wpS_cut (fun s' => Cut <| ∃ R ys n ks, St s₁ s₁.heap s₁.heap.objs.size [(Str.ofString "row", .ref R)] [(R, listOf ys.toArray n)] s' ∧ IntsAre ys ks ∧ Oct ks ∧ ks.length ≤ 800) ?_ ?_
    · refine wpS_If (wpS_of_any ?_)
      (try k_fold)
      k_steps
      all_goals try clear qk ek
      · -- at = 0
        refine wpS_execs_cons (wpS_of_any ?_)
        (try k_fold)
        k_steps
        try clear qk ek
        -- while
        have hrp : 0 < rs.length := hkp (by omega)
        refine wpS_cut (fun s' => Cut <| ∃ at' t', St s₁ s₁.heap s₁.heap.objs.size [(Str.ofString "row", .ref R), (Str.ofString "kind", .int k t), (Str.ofString "at", .int at' t')] [(R, listOf ys.toArray n)] s' ∧ 0 ≤ at' ∧ at' < rs.length) ?_ ?_
        · refine wpS_While (fun j s' => ∃ at' t', St s₁ s₁.heap s₁.heap.objs.size [(Str.ofString "row", .ref R), (Str.ofString "kind", .int k t), (Str.ofString "at", .int at' t')] [(R, listOf ys.toArray n)] s' ∧ 0 ≤ at' ∧ at' < rs.length ∧ j = (rs.length - at').toNat) ?_ rs.length ?_
          · repeat (rename Fr _ _ _ _ => Fz; clear Fz)
            repeat (rename News _ _ _ _ => Nz; clear Nz)
            rintro j s' ⟨at', t', ⟨h3, tk3, u3, rfl, F3, N3⟩, ha0, ha1, rfl⟩
            dsimp only [kstB] at F3
            have hat := hoct.getD (i := at'.toNat) (by omega)
            refine wpS_of_any ?_
            (try k_fold)
            k_steps
            all_goals try clear qk ek
            · refine wpS_execs_cons (wpS_of_any ?_)
              (try k_fold)
              k_steps
              try clear qk ek
              refine wpS_execs_nil ?_
              dsimp only
              refine ⟨_, ?_, _, _, St.mk (by assumption) (by assumption) (by kst_in) (by kst_all), ?_, ?_, rfl⟩ <;> omega
            · exact Cut.mk ⟨_, _, St.mk (by assumption) (by assumption) (by kst_in) (by kst_all), ha0, ha1⟩
          · exact ⟨_, _, St.mk (by assumption) (by assumption) (by kst_in) (by kst_all), by omega, by omega, by omega⟩
        · repeat (rename Fr _ _ _ _ => Fz; clear Fz)
          repeat (rename News _ _ _ _ => Nz; clear Nz)
          rintro s' ⟨at', t', ⟨h3, tk3, u3, rfl, F3, N3⟩, ha0, ha1⟩
          dsimp only [kstB] at F3
          have hat := hoct.getD (i := at'.toNat) (by omega)
          -- size = row[at] - 1
          refine wpS_execs_cons (wpS_of_any ?_)
          (try k_fold)
          k_steps
          try clear qk ek
          generalize hsz : rs.getD at'.toNat 0 - 1 = sz at *
          -- row = (row + row[-1:] * size)[:at + size + 1]
          refine wpS_cut (fun s' => Cut <| ∃ R ys n ks ts, St s₁ s₁.heap s₁.heap.objs.size [(Str.ofString "row", .ref R), (Str.ofString "kind", .int k t), (Str.ofString "size", .int sz ts)] [(R, listOf ys.toArray n)] s' ∧ IntsAre ys ks ∧ Oct ks ∧ ks.length ≤ 300 ∧ 0 < ks.length) ?_ ?_
          · refine wpS_of_any ?_
            (try k_fold)
            k_steps
            rename_i _ _ _ _ _ hdl _ _ _ _ _ _ _ n1 _ _ _ he3 _
            have hn1 : n1 = sz.toNat := by
              have e := he3 (by omega)
              rw [hdl, show rs.length - (rs.length - 1) = 1 by omega] at e
              omega
            clear he3
            k_steps
            rename IntsAre _ (List.take _ (_ ++ _)) => hIr
            refine Cut.mk ⟨_, _, _, _, _, St.mk (by assumption) (by assumption) (by kst_in) (by kst_all), hIr, (hoct.append ((hoct.drop _).rep _)).take _, ?_, ?_⟩
            · rw [List.length_take, List.length_append]; omega
            · rw [List.length_take, List.length_append]; omega
          · repeat (rename Fr _ _ _ _ => Fz; clear Fz)
            repeat (rename News _ _ _ _ => Nz; clear Nz)
            clear hys hoct hkp hrl
            rintro s' ⟨R, ys, n, ks, ts, ⟨h3, tk3, u3, rfl, F3, N3⟩, hys, hoct, hrl, hkp⟩
            dsimp only [kstB] at F3
            -- if kind == 2 and size > 0
            refine wpS_cut (fun s' => Cut <| ∃ R ys n ks, St s₁ s₁.heap s₁.heap.objs.size [(Str.ofString "row", .ref R), (Str.ofString "kind", .int k t)] [(R, listOf ys.toArray n)] s' ∧ IntsAre ys ks ∧ Oct ks ∧ ks.length ≤ 700) ?_ ?_
            · refine wpS_If_cut (0 < sz) ?_ ?_ ?_
              · refine wpS_of_any ?_
                (try k_fold)
                k_steps
                all_goals exact Cut.mk ⟨_, rfl, fun hb => by first | trivial | assumption | cases hb⟩
              · intro hp tk9
                dsimp only
                refine wpS_execs_cons (wpS_of_any ?_)
                (try k_fold)
                k_steps
                try clear qk ek
                repeat (refine wpS_execs_nil ?_)
                rename IntsAre _ (List.take _ _ ++ _) => hIr
                exact Cut.mk ⟨_, _, _, _, St.mk (by assumption) (by assumption) (by kst_in) (by kst_all), hIr, (hoct.take _).append (Oct.one (by omega) (by omega)), by rw [List.length_append, List.length_take, List.length_singleton]; omega⟩
              · intro tk9
                dsimp only
                refine wpS_execs_cons (wpS_If_cut (0 < sz) ?_ ?_ ?_)
                · refine wpS_of_any ?_
                  (try k_fold)
                  k_steps
                  all_goals exact Cut.mk ⟨_, rfl, fun hb => by first | trivial | assumption | cases hb⟩
                · intro hp tk9
                  dsimp only
                  refine wpS_execs_cons (wpS_of_any ?_)
                  (try k_fold)
                  k_steps
                  try clear qk ek
                  repeat (refine wpS_execs_nil ?_)
                  rename IntsAre _ (List.take _ _ ++ _) => hIr
                  exact Cut.mk ⟨_, _, _, _, St.mk (by assumption) (by assumption) (by kst_in) (by kst_all), hIr, (hoct.take _).append (Oct.one (by omega) (by omega)), by rw [List.length_append, List.length_take, List.length_singleton]; omega⟩
                · intro tk9
                  dsimp only
                  refine wpS_execs_cons (wpS_If_cut True ?_ ?_ ?_)
                  · refine wpS_of_any ?_
                    (try k_fold)
                    k_steps
                    all_goals exact Cut.mk ⟨_, rfl, fun hb => by first | trivial | assumption | cases hb⟩
                  · intro _ tk9
                    dsimp only
                    refine wpS_execs_cons (wpS_AugAssign_Name ?_)
                    (try k_fold)
                    k_steps
                    try clear qk ek
                    refine wpS_operate (wpS_of_any (iadd_L [] (by assumption) (by assumption) (by k_mem) (by k_mem) hys (by assumption) (List.forall_mem_nil _) (by simp only [List.length_append, List.length_cons, List.length_nil]; omega) ?_))
                    intro h4 n4 us hus F4 N4
                    (try k_fold)
                    k_steps
                    try clear qk ek
                    repeat (refine wpS_execs_nil ?_)
                    exact Cut.mk ⟨_, _, _, _, St.mk (by assumption) (by assumption) (by kst_in) (by kst_all), hus, hoct.append ((Oct.one (by omega) (by omega)).append ((hoct.drop _).rep _)), by simp only [List.length_append, List.length_cons, List.length_nil]; omega⟩
                  · intro tk9
                    dsimp only
                    refine wpS_execs_cons (wpS_If_cut True ?_ ?_ ?_)
                    · refine wpS_of_any ?_
                      (try k_fold)
                      k_steps
                      all_goals exact Cut.mk ⟨_, rfl, fun hb => by first | trivial | assumption | cases hb⟩
                    · intro _ tk9
                      dsimp only
                      refine wpS_execs_cons (wpS_AugAssign_Name ?_)
                      (try k_fold)
                      k_steps
                      try clear qk ek
                      refine wpS_operate (wpS_of_any (iadd_L [] (by assumption) (by assumption) (by k_mem) (by k_mem) hys (by assumption) (List.forall_mem_nil _) (by simp only [List.length_append, List.length_cons, List.length_nil]; omega) ?_))
                      intro h4 n4 us hus F4 N4
                      (try k_fold)
                      k_steps
                      try clear qk ek
                      repeat (refine wpS_execs_nil ?_)
                      exact Cut.mk ⟨_, _, _, _, St.mk (by assumption) (by assumption) (by kst_in) (by kst_all), hus, hoct.append ((Oct.one (by omega) (by omega)).append ((hoct.drop _).rep _)), by simp only [List.length_append, List.length_cons, List.length_nil]; omega⟩
                    · intro tk9
                      dsimp only
                      repeat (refine wpS_execs_nil ?_)
                      exact Cut.mk ⟨_, _, _, _, St.mk (by assumption) (by assumption) (by kst_in) (by kst_all), hys, hoct, by omega⟩
            · repeat (rename Fr _ _ _ _ => Fz; clear Fz)
              repeat (rename News _ _ _ _ => Nz; clear Nz)
              clear hys hoct hkp hrl
              rintro s' ⟨R, ys, n, ks, ⟨h3, tk3, u3, rfl, F3, N3⟩, hys, hoct, hrl⟩
              dsimp only [kstB] at F3
              refine wpS_execs_cons (wpS_If_cut True ?_ ?_ ?_)
              · refine wpS_of_any ?_
                (try k_fold)
                k_steps
                all_goals exact Cut.mk ⟨_, rfl, fun hb => by first | trivial | assumption | cases hb⟩
              · intro _ tk9
                dsimp only
                refine wpS_execs_cons (wpS_of_any ?_)
                (try k_fold)
                k_steps
                try clear qk ek
                repeat (refine wpS_execs_nil ?_)
                rename News _ _ _ [(_, listOf (Array.push _ _) _)] => Na
                simp only [List.push_toArray] at Na
                exact Cut.mk ⟨_, _, _, _, St.mk (by assumption) Na (by kst_in) (by kst_all), hys.append (IntsAre.cons 1 _ .nil), hoct.append (Oct.one (by omega) (by omega)), by rw [List.length_append, List.length_singleton]; omega⟩
              · intro tk9
                dsimp only
                repeat (refine wpS_execs_nil ?_)
                exact Cut.mk ⟨_, _, _, _, St.mk (by assumption) (by assumption) (by kst_in) (by kst_all), hys, hoct, by omega⟩
      · refine wpS_execs_nil ?_
        exact Cut.mk ⟨_, _, _, _, St.mk (by assumption) (by assumption) (by kst_in) (by kst_all), hys, hoct, by omega⟩
    · clear hys hoct hkp hrl
      repeat (rename Fr _ _ _ _ => Fz; clear Fz)
      repeat (rename News _ _ _ _ => Nz; clear Nz)
      rintro s' ⟨R, ys, n, ks, ⟨h2, tk2, u2, rfl, F2, N2⟩, hys, hoct, hkl⟩
      dsimp only [kstB] at F2
      have hin : KBa.In ks := fun x hx => ⟨by have := hoct x hx; omega, by have := hoct x hx; omega⟩
      -- text = list(decode(bytes(row)))
      refine wpS_cut (fun s' => Cut <| ∃ R ys n D us nd, St s₁ s₁.heap s₁.heap.objs.size [(Str.ofString "row", .ref R), (Str.ofString "text", .ref D)] [(R, listOf ys.toArray n), (D, listOf us.toArray nd)] s' ∧ IntsAre ys ks ∧ IntsAre us (decL ks) ∧ @LT.lt Nat _ R D) ?_ ?_
      · refine wpS_Assign_Name rfl (wpS_Call ?_)
        (try k_fold)
        k_steps
        try clear qk ek
        refine callWithS_type1 (wpS_Call ?_)
        (try k_fold)
        k_steps
        try clear qk ek
        obtain ⟨od, hod, fd, hfd⟩ : ∃ o, s₁.heap.get? 41 = some o ∧ ∃ fd, o.data = .func fd := by
          k_dflt (refine' func_at ?k1 ?k2; (case k1 => exact KX); (case k2 => k_is))
        refine callWithS_def1 hfd (wpS_of_any ?_)
        (try k_fold)
        k_steps
        try clear qk ek
        rename_i h3 t3 k3 F3 N3 _ _
        refine decode_S (ks := ks) (outer := []) K0 F3 KX T rfl (KBa.ints_make hin) (fun k hk => (hoct k hk).1) (by omega) (by decide) (by decide) ?_
        intro b4 t4 h4 tk4 keep4 hb4
        dsimp only at keep4
        have F4 := F3.keptAll keep4
        have N4 := N3.grown keep4
        refine wpS_of_any (list_bytes_K rfl F4 N4 hb4 (by have := decL_length ks; omega) ?_)
        intro D h5 tk5 us nd hus F5 N5 hlt5 _ _
        clear F3 N3 F4 N4 F2 N2
        (try k_fold)
        k_steps
        exact Cut.mk ⟨_, _, _, _, _, _, St.mk (by assumption) (by assumption) (by kst_in) (by kst_all), hys, hus, hlt5 _ (.head _)⟩
      · clear F2 N2 hys
        rintro s' ⟨R, ys, n, D, us, nd, ⟨h2, tk2, u2, rfl, F2, N2⟩, hys, hus, hRD⟩
        dsimp only [kstB] at F2
        have htl : (decL ks).length ≤ 800 := by have := decL_length ks; omega
        generalize hts : decL ks = ts at *
        -- front, rest = _law_parts(text)
        refine wpS_cut (fun s' => Cut <| ∃ Fa Ra vf vr nf nr, St s₁ s₁.heap s₁.heap.objs.size [(Str.ofString "row", .ref R), (Str.ofString "text", .ref D), (Str.ofString "front", .ref Fa), (Str.ofString "rest", .ref Ra)]
          [(R, listOf ys.toArray n), (D, listOf us.toArray nd), (Fa, listOf vf.toArray nf), (Ra, listOf vr.toArray nr)] s' ∧ IntsAre vf (partsL ts).1 ∧ IntsAre vr (partsL ts).2 ∧ @Ne Nat R Fa ∧ @Ne Nat R Ra ∧ @Ne Nat D Fa ∧ @Ne Nat D Ra ∧ @LT.lt Nat _ Fa Ra) ?_ ?_
        · refine wpS_Assign_Tuple (wpS_Call ?_)
          (try k_fold)
          k_steps
          try clear qk ek
          obtain ⟨od, hod, fd, hfd⟩ : ∃ o, s₁.heap.get? 46 = some o ∧ ∃ fd, o.data = .func fd := by
            k_dflt (refine' func_at ?k1 ?k2; (case k1 => exact KX); (case k2 => k_is))
          refine callWithS_def1 hfd (wpS_of_any ?_)
          (try k_fold)
          k_steps
          try clear qk ek
          refine parts_S (vs := us) (ts := ts) (outer := []) K0 F2 KX T rfl ⟨_, (N2 _ (.tail _ (.head _))).1, rfl, _, rfl⟩ hus (by omega) (by decide) (by decide) ?_
          intro Tu Fa Ra h3 tk3 vf vr nf nr keep3 hTu hFa hRa nFa nRa nTu hlt1 hlt2 hvf hvr
          dsimp only at keep3 nFa nRa nTu
          have F3 := F2.keptAll keep3
          have N3 := News.grown N2 keep3
          have hn1 : @Ne Nat R Fa := ne_new (N2 _ (.head _)).1 nFa
          have hn2 : @Ne Nat R Ra := ne_new (N2 _ (.head _)).1 nRa
          have hn3 : @Ne Nat D Fa := ne_new (N2 _ (.tail _ (.head _))).1 nFa
          have hn4 : @Ne Nat D Ra := ne_new (N2 _ (.tail _ (.head _))).1 nRa
          have N4 : News s₁.heap s₁.heap.objs.size h3 [(Tu, { cls := .type "tuple", data := .seq #[.ref Fa, .ref Ra] }), (Fa, listOf vf.toArray nf), (Ra, listOf vr.toArray nr), (R, listOf ys.toArray n), (D, listOf us.toArray nd)] :=
            List.forall_mem_cons.mpr ⟨new_at F2 nTu hTu, List.forall_mem_cons.mpr ⟨new_at F2 nFa hFa, List.forall_mem_cons.mpr ⟨new_at F2 nRa hRa, N3⟩⟩⟩
          clear F2 N2 N3 keep3
          (try k_fold)
          k_steps
          exact Cut.mk ⟨_, _, _, _, _, _, St.mk (by assumption) (by assumption) (by kst_in) (by kst_all), hvf, hvr, hn1, hn2, hn3, hn4, hlt1⟩
        · clear F2 N2
          rintro s' ⟨Fa, Ra, vf, vr, nf, nr, ⟨h2, tk2, u2, rfl, F2, N2⟩, hvf, hvr, hn1, hn2, hn3, hn4, hlt1⟩
          dsimp only [kstB] at F2
          have hbt : Byt ts := hts ▸ dec_byt ks hoct
          have hrl : (partsL ts).2.length ≤ 254 := by obtain ⟨_, _, h, _⟩ := dec_parts ts; exact h
          have hfl : (partsL ts).1.length ≤ 1600 := by have := (oct_parts ts hbt).2; omega
          generalize hfs : (partsL ts).1 = fs at *
          generalize hrs : (partsL ts).2 = rs at *
          have e0 := row0_eq hfs hrs
          have e1 := rowLow_eq hfs hrs
          have eR := rowsL_eq hrs
          have eE := encL_eq hrs
          -- size = len(rest)
          refine wpS_execs_cons (wpS_of_any ?_)
          (try k_fold)
          k_steps
          try clear qk ek
          -- rows = [front + [size + 1] + rest]
          refine wpS_execs_cons (wpS_of_any ?_)
          (try k_fold)
          k_steps
          all_goals try clear qk ek
          refine wpS_group4 (fun s' => Cut <| ∃ RO rv nr Le lv nl tl, St s₁ s₁.heap s₁.heap.objs.size [(Str.ofString "row", .ref R), (Str.ofString "text", .ref D), (Str.ofString "rows", .ref RO), (Str.ofString "least", .ref Le)]
            ([(R, listOf ys.toArray n), (D, listOf us.toArray nd), (RO, listOf rv.toArray nr), (Le, listOf lv.toArray nl)] ++ tl) s' ∧ IntsAre lv (encL ts) ∧ RowsAre tl rv (rowsL ts)) ?_ ?_
          · -- if size == 254
            refine wpS_execs_cons (wpS_of_any ?_)
            (try k_fold)
            k_steps
            all_goals try clear qk ek
            -- least = rows[0]
            all_goals refine wpS_execs_cons (wpS_of_any ?_)
            all_goals (try k_fold)
            all_goals k_steps
            all_goals try clear qk ek
            -- if size > 0 and rest[-1] > size
            all_goals refine wpS_execs_cons (wpS_of_any ?_)
            all_goals (try k_fold)
            all_goals k_steps
            all_goals try clear qk ek
            -- if text == []
            all_goals refine wpS_execs_cons (wpS_of_any ?_)
            all_goals (try k_fold)
            all_goals k_steps
            all_goals try clear qk ek
            all_goals refine wpS_execs_nil ?_
            all_goals dsimp only
            all_goals (rename Fr _ _ _ _ => Fe; rename News _ _ _ _ => Ne)
            all_goals (try simp only [List.push_toArray, List.cons_append, List.nil_append] at Ne)
            all_goals refine Cut.mk ⟨_, _, _, _, _, _, _, St.mkU Fe Ne (by kst_all) (by kst_in), ?_, ?_⟩
            all_goals first
              | rw [if_pos (show 0 < (rs.length : Int) ∧ (rs.length : Int) < rs.getD (-1 + (rs.length : Int)).toNat 0 by omega)] at eR eE
              | rw [if_neg (show ¬ (0 < (rs.length : Int) ∧ (rs.length : Int) < rs.getD (-1 + (rs.length : Int)).toNat 0) by omega)] at eR eE
            all_goals first
              | (rw [if_pos (show (rs.length : Int) = 254 by assumption)] at eR)
              | (rw [if_neg (show ¬ (rs.length : Int) = 254 by assumption)] at eR)
            all_goals first
              | (rw [if_pos (show decide (ts = []) = true by assumption)] at eR)
              | (rw [if_neg (show ¬ decide (ts = []) = true from by (rename decide (ts = []) = false => hd0); rw [hd0]; decide)] at eR)
            all_goals simp only [List.cons_append, List.nil_append, List.append_nil] at eR
            all_goals first
              | (rw [eE, ← e1]; assumption)
              | (rw [eE, ← e0]; assumption)
              | (rw [eR]; repeat (first | exact RowsAre.nil | refine RowsAre.cons (by k_mem) (by first | exact IntsAre.nil | (rw [← e0]; assumption) | (rw [← e1]; assumption)) ?_))
          · repeat (rename Fr _ _ _ _ => Fz; clear Fz)
            repeat (rename News _ _ _ _ => Nz; clear Nz)
            clear hvf hvr
            rintro s' ⟨RO, rv, nr, Le, lv, nl, tl, ⟨h2, tk2, u2, rfl, F2, N2⟩, hlv, hrv⟩
            dsimp only [kstB] at F2
            have Ntl : News s₁.heap s₁.heap.objs.size h2 tl := fun p hp => N2 p (List.mem_append_right _ hp)
            have hRl : h2.IsList R ys.toArray := ⟨_, (N2 _ (.head _)).1, rfl, _, rfl⟩
            have hROl : h2.IsList RO rv.toArray := ⟨_, (N2 _ (.tail _ (.tail _ (.head _)))).1, rfl, _, rfl⟩
            have hks : ks ∈ rowsL ts := by subst hts; exact rowsL_mem.mpr (row_own ks hoct)
            simp only [List.cons_append, List.nil_append] at N2
            -- if row not in rows
            refine wpS_execs_cons (wpS_of_any ?_)
            (try k_fold)
            k_steps
            try clear qk ek
            -- for one in rows
            have htb : KBa.In ts := fun x hx => ⟨by have := hbt x hx; omega, by have := hbt x hx; omega⟩
            refine wpS_cut (fun s' => Cut <| St s₁ s₁.heap s₁.heap.objs.size [(Str.ofString "text", .ref D), (Str.ofString "least", .ref Le)] [(D, listOf us.toArray nd), (Le, listOf lv.toArray nl)] s') ?_ ?_
            · refine wpS_For ?_
              (try k_fold)
              k_steps
              refine wpAny_pyIter_list hROl ?_
              have hne : ∀ p ∈ ([(R, listOf ys.toArray n), (D, listOf us.toArray nd), (RO, listOf rv.toArray nr), (Le, listOf lv.toArray nl)] ++ tl : List (Addr × Obj)), p.1 ≠ h2.objs.size := fun p hp => Nat.ne_of_lt (Heap.lt_size (N2 p hp).1)
              refine forList (items := rv.toArray) (l := RO) (fun i s' => ∃ oi, St s₁ s₁.heap s₁.heap.objs.size [(Str.ofString "text", .ref D), (Str.ofString "least", .ref Le)] ((h2.objs.size, oi) :: ([(R, listOf ys.toArray n), (D, listOf us.toArray nd), (RO, listOf rv.toArray nr), (Le, listOf lv.toArray nl)] ++ tl)) s' ∧
                oi.cls = .type "list_iterator" ∧ oi.data = .fields #[.ref RO, .int (i : Nat) 0]) rfl ?_ ?_ ?_ ?_
              · rintro i s' ⟨oi, ⟨h9, tk9, u9, rfl, F9, N9⟩, hc, hd⟩
                exact ⟨⟨oi, (N9 _ (.head _)).1, hc, hd⟩, ⟨_, (N9 _ (.tail _ (.tail _ (.tail _ (.head _))))).1, rfl, _, rfl⟩⟩
              · rintro i v s' h' ⟨oi, ⟨h9, tk9, u9, rfl, F9, N9⟩, hc, hd⟩ hv hit hsb
                have hv' : v ∈ rv := by
                  have e : rv[i]? = some v := by simpa using hv
                  exact List.mem_of_getElem? e
                obtain ⟨a, vs, na, xs, rfl, hm, hi, hx⟩ := hrv.get hv'
                have hir := rowsL_mem.mp hx
                obtain ⟨hxo, hxl⟩ := row_oct hbt hir
                have hxd := row_read hir
                have hxin : KBa.In xs := fun x hx => ⟨by have := hxo x hx; omega, by have := hxo x hx; omega⟩
                obtain ⟨oi', hoi', hc', hd'⟩ := hit
                obtain ⟨F7, N7⟩ := step_led F9 N9 hne hsb hoi'
                have N8 := news_more (N7 _ (.tail _ (List.mem_append_right _ hm))) N7
                clear F9 N9 hsb hoi' hc hd oi F2 N2 Ntl hRl hROl hv hv' hir hx N7
                dsimp only [kstB] at F7
                simp only [List.cons_append, List.nil_append] at N8
                (try k_fold)
                k_steps
                try clear qk ek
                -- if list(decode(bytes(one))) != text
                refine wpS_execs_cons (wpS_If (wpS_isTrue_Compare1 (wpS_Call ?_)))
                (try k_fold)
                k_steps
                try clear qk ek
                refine callWithS_type1 (wpS_Call ?_)
                (try k_fold)
                k_steps
                try clear qk ek
                obtain ⟨od, hod, fd, hfd⟩ : ∃ o, s₁.heap.get? 41 = some o ∧ ∃ fd, o.data = .func fd := by
                  k_dflt (refine' func_at ?k1 ?k2; (case k1 => exact KX); (case k2 => k_is))
                refine callWithS_def1 hfd (wpS_of_any ?_)
                (try k_fold)
                k_steps
                try clear qk ek
                rename_i h3 t3 k3 F3 N3 _ _
                refine decode_S (ks := xs) (outer := []) K0 F3 KX T rfl (KBa.ints_make hxin) (fun k hk => (hxo k hk).1) (by omega) (by decide) (by decide) ?_
                intro b4 t4 h4 tk4 keep4 hb4
                dsimp only at keep4
                have F4 := F3.keptAll keep4
                have N4 := News.grown N3 keep4
                rw [hxd] at hb4
                refine wpS_of_any (list_bytes_K rfl F4 N4 hb4 (by omega) ?_)
                intro D5 h5 tk5 us5 nd5 hus5 F5 N5 hlt5 _ _
                clear F3 N3 F4 N4 keep4
                have hD5 : h5.IsList D5 us5.toArray := ⟨_, (N5 _ (.head _)).1, rfl, _, rfl⟩
                have hD6 : h5.IsList D us.toArray := ⟨_, (N5 _ (.tail _ (.tail _ (.tail _ (.tail _ (.head _)))))).1, rfl, _, rfl⟩
                (try k_fold)
                k_steps
                try clear qk ek
                repeat (refine wpS_execs_nil ?_; dsimp only)
                rename Fr _ _ _ _ => F6
                rename News _ _ _ ((_, _) :: (_, _) :: _) => N6
                exact ⟨oi', St.mk F6 N6 (fun p hp => .tail _ (.tail _ hp)) (by kst_all), hc', hd'⟩
              · rintro s' h' ⟨oi, ⟨h9, tk9, u9, rfl, F9, N9⟩, hc, hd⟩ hext
                obtain ⟨F6, N6⟩ := end_led F9 N9 hne hext
                exact Cut.mk ⟨_, _, _, rfl, F6, fun p hp => N6 p (by
                  rcases List.mem_cons.mp hp with rfl | hp
                  · exact .tail _ (.head _)
                  · rw [List.mem_singleton.mp hp]; exact .tail _ (.tail _ (.tail _ (.head _))))⟩
              · rename Fr _ _ _ _ => Fq
                refine ⟨_, St.mk (news := ((h2.objs.size, _) :: ([(R, listOf ys.toArray n), (D, listOf us.toArray nd), (RO, listOf rv.toArray nr), (Le, listOf lv.toArray nl)] ++ tl))) (Fq.push _) (news_more ⟨Heap.get?_push_size _ rfl, fun e => absurd Fq.ns.lt (e ▸ Nat.lt_irrefl _), next_is_new Fq⟩ (fun p hp => ⟨Heap.get?_push_of_some _ (N2 p hp).1, (N2 p hp).2⟩)) (fun p hp => hp) (by kst_all), rfl, rfl⟩
            · repeat (rename Fr _ _ _ _ => Fz; clear Fz)
              repeat (rename News _ _ _ _ => Nz; clear Nz)
              clear hrv hks hys
              rintro s' ⟨h2, tk2, u2, rfl, F2, N2⟩
              dsimp only [kstB] at F2
              -- return list(encode(bytes(text))) == least
              refine wpS_execs_cons (wpS_Return (wpS_Compare1 (wpS_Call ?_)))
              (try k_fold)
              k_steps
              try clear qk ek
              refine callWithS_type1 (wpS_Call ?_)
              (try k_fold)
              k_steps
              try clear qk ek
              obtain ⟨od, hod, fd, hfd⟩ : ∃ o, s₁.heap.get? 34 = some o ∧ ∃ fd, o.data = .func fd := by
                k_dflt (refine' func_at ?k1 ?k2; (case k1 => exact KX); (case k2 => k_is))
              refine callWithS_def1 hfd (wpS_of_any ?_)
              (try k_fold)
              k_steps
              try clear qk ek
              rename_i h3 t3 k3 F3 N3 _ _
              have hel : (encL ts).length ≤ 16777216 := by
                have := (row_oct hbt (enc_isRow ts)).2
                omega
              by_cases hn : ts = []
              · refine encode_nil F3 KX T rfl (by rw [KBa.ints_make htb, hn]) (by decide) (by decide) ?_
                intro b4 t4 h4 tk4 F4 keep4 hb4
                dsimp only at keep4
                have N4 : News s₁.heap s₁.heap.objs.size h4 [(D, listOf us.toArray nd), (Le, listOf lv.toArray nl)] := fun p hp => ⟨keep4 _ _ (N3 p hp).2.1 (N3 p hp).1, (N3 p hp).2⟩
                have hb5 : KBw.bInts b4 = encL ts := by rw [hb4, hn, encL_nil]
                refine wpS_of_any (list_bytes_K rfl F4 N4 hb5 hel ?_)
                intro D5 h5 tk5 us5 nd5 hus5 F5 N5 hlt5 _ _
                clear F3 N3 F4 N4 keep4 F2 N2
                (try k_fold)
                k_steps
                refine GoodW.toG (goodW_bool F5 hg (raisesW_false ?_) ?_)
                · wrow_none_raised
                · kc_post
              · refine encode_S (ks := ts) (outer := []) K0 F3 KX T rfl (KBa.ints_make htb) (List.length_pos_iff.mpr hn) (by omega) (by decide) (by decide) ?_
                intro b4 t4 h4 tk4 keep4 hb5
                dsimp only at keep4
                have F4 := F3.keptAll keep4
                have N4 := News.grown N3 keep4
                refine wpS_of_any (list_bytes_K rfl F4 N4 hb5 hel ?_)
                intro D5 h5 tk5 us5 nd5 hus5 F5 N5 hlt5 _ _
                clear F3 N3 F4 N4 keep4 F2 N2
                (try k_fold)
                k_steps
                refine GoodW.toG (goodW_bool F5 hg (raisesW_false ?_) ?_)
                · wrow_none_raised
                · kc_post)
end Mine
end

theorem PySem.Challenge.cw_md0005_01_holds : PySem.Challenge.rw_md0005_01.Holds :=
  Mine.law_holds
