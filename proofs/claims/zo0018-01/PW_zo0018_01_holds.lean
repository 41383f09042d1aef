import PyProof.Rows.All
import Wide.All
import OpenK.AllK
import Wide.FinOn
import PySem.Challenge.RW_zo0018_01
set_option Elab.async false
section
open PySem PySem.W PyProof.Rows PySem.Calls PySem.Spec
set_option maxRecDepth 100000
namespace Mine
/-- no code that a look at the stack would take for a holder of a bytearray -/
noncomputable def notDec : Code → Bool
  | .builtin id _ => !(Builtin.Bytes.decodersThatHold.contains id)
  | _ => true
noncomputable def Clean (l : List (Code × Pos)) : Prop := ∀ x ∈ l, notDec x.1 = true
noncomputable def wpG {α : Type} (M : Model) (A : Around) (t : Sem α) (Q : α → Shared → Prop) (E : Value → Shared → Prop) (s : Shared) : Prop :=
  ∀ Γ p, Γ.In A → notDec Γ.code = true → Clean Γ.below → Sem.wp M Γ t (fun a _ s' => Q a s') (fun e _ s' => E e s') p s
noncomputable def codeG (M : Model) (A : Around) (c : Code) (R : Result → Shared → Prop) (s : Shared) : Prop :=
  ∀ Γ p, Γ.code = c → Γ.Below A → Clean Γ.below → wpCode M Γ R p s
section
variable {α β : Type} {M : Model} {A : Around} {E : Value → Shared → Prop} {s : Shared}
theorem wpG_any {t : Sem α} {Q : α → Shared → Prop} (h : wpAny M A t Q E s) : wpG M A t Q E s := fun Γ p hΓ _ _ => h Γ p hΓ
theorem codeG_any {c : Code} {R : Result → Shared → Prop} (h : codeAny M A c R s) : codeG M A c R s := fun Γ p hc hΓ _ => h Γ p hc hΓ
theorem wpG_pure {a : α} {Q : α → Shared → Prop} (h : Q a s) : wpG M A (pure a) Q E s := wpG_any (wpAny_pure h)
theorem wpG_mono {t : Sem α} {Q Q' : α → Shared → Prop} {E' : Value → Shared → Prop} (h : wpG M A t Q E s)
    (hQ : ∀ a s, Q a s → Q' a s) (hE : ∀ e s, E e s → E' e s) : wpG M A t Q' E' s :=
  fun Γ p hΓ h1 h2 => Sem.wp_mono M Γ t (fun a _ s => hQ a s) (fun e _ s => hE e s) p s (h Γ p hΓ h1 h2)
theorem wpG_bind {m : Sem α} {f : α → Sem β} {Q : β → Shared → Prop} (h : wpG M A m (fun a s' => wpG M A (f a) Q E s') E s) : wpG M A (m >>= f) Q E s :=
  fun Γ p hΓ h1 h2 => by
  rw [Sem.wp_bind']
  exact Sem.wp_mono M Γ m (fun a p' s' h' => h' Γ p' hΓ h1 h2) (fun _ _ _ h' => h') p s (h Γ p hΓ h1 h2)
theorem wpG_after {m : Sem α} {f : α → Sem β} {Q : β → Shared → Prop} (h : wpAny M A m (fun a s' => wpG M A (f a) Q E s') E s) : wpG M A (m >>= f) Q E s := wpG_bind (wpG_any h)
theorem wpG_holding {vs : List Value} {m : Sem α} {Q : α → Shared → Prop} (h : wpG M A m Q E s) : wpG M A (holding vs m) Q E s :=
  fun Γ p hΓ h1 h2 => by rw [Sem.wp_holding]; exact h Γ p hΓ h1 h2
theorem wpG_keep {vs : List Value} {m : Sem α} {Q : α → Shared → Prop} (h : wpG M A m Q E s) : wpG M A (m.keep vs) Q E s :=
  fun Γ p hΓ h1 h2 => by rw [Sem.wp_keep]; exact h Γ p hΓ h1 h2
theorem wpG_onRaise {m : Sem α} {k : Value → Sem Unit} {Q : α → Shared → Prop}
    (h : wpG M A m Q (fun e s' => wpG M A (k e) (fun _ s'' => E e s'') E s') s) : wpG M A (m.onRaise k) Q E s := fun Γ p hΓ h1 h2 => by
  rw [Sem.wp_onRaise]
  exact Sem.wp_mono M Γ m (fun _ _ _ h' => h') (fun e p' s' h' => h' Γ p' hΓ h1 h2) p s (h Γ p hΓ h1 h2)
theorem clean_push {Γ : PySem.Ctx} {p : Pos} (h1 : notDec Γ.code = true) (h2 : Clean Γ.below) : Clean ((Γ.code, p) :: Γ.below) := by
  intro x hx
  rcases List.mem_cons.mp hx with e | e
  · rw [e]; exact h1
  · exact h2 x e
theorem wpG_runValue {c : Code} {Q : Value → Shared → Prop}
    (hc : codeG M A c (fun r s' => match r with | .ok (.ret v) => Q v s' | .ok _ => False | .error e => E e s') s) :
    wpG M A (runValue c) Q E s := fun Γ p hΓ h1 h2 => by
  rw [Sem.wp_runValue]
  exact hc _ p rfl (hΓ.enter c none p (by intro x; cases x)) (clean_push h1 h2)
theorem wpG_call {f : Value} {pos : List Value} {kw : List (Str × Value)} {Q : Value → Shared → Prop}
    (hc : codeG M A (.call f ⟨pos, kw⟩) (fun r s' => match r with | .ok (.ret v) => Q v s' | .ok _ => False | .error e => E e s') s) :
    wpG M A (call f pos kw) Q E s := wpG_runValue hc
theorem codeG_tree {c : Code} {R : Result → Shared → Prop} (hn : notDec c = true)
    (h : wpG M (A.under c) (M.den c) (fun fin s' => match fin with | .done f => R (.ok f) s' | .again c' => c'.quiet = true ∧ codeG M A c' R s')
      (fun e s' => R (.error e) s') s) : codeG M A c R s := fun Γ p hc hΓ h2 => by
  rw [wpCode_iff_wp, hc]
  refine Sem.wp_mono M Γ _ (fun fin p' s' h' => ?_) (fun _ _ _ h' => h') p s (h Γ p (hc ▸ hΓ.in) (by rw [hc]; exact hn) h2)
  cases fin with
  | done f => exact h'
  | again c' => exact ⟨h'.1, h'.2 (Γ.goto c') p' rfl (hΓ.goto c') h2⟩
theorem codeG_mono {c : Code} {R R' : Result → Shared → Prop} (h : codeG M A c R s) (hR : ∀ r s, R r s → R' r s) : codeG M A c R' s :=
  fun Γ p hc hΓ h2 => wpCode_mono hR (h Γ p hc hΓ h2)
theorem clean_any {f : Code × Pos → Bool} (hf : ∀ c p, c.isGuard = false → notDec c = true → f (c, p) = false) : ∀ {l : List (Code × Pos)}, Clean l → guardsOf l = [] → l.any f = false := by
  intro l
  induction l with
  | nil => intros; rfl
  | cons x l ih =>
    intro c1 c2
    obtain ⟨c, q⟩ := x
    rw [guardsOf_cons] at c2
    obtain ⟨c4, c5⟩ := List.append_eq_nil_iff.mp c2
    have c6 : c.isGuard = false := by
      cases e : c.isGuard with
      | false => rfl
      | true => simp [Code.guards, e] at c4
    rw [List.any_cons, ih (fun y hy => c1 y (List.mem_cons_of_mem _ hy)) c5, Bool.or_false]
    exact hf c q c6 (c1 _ List.mem_cons_self)
/-- the look that this file is about -/
theorem wpG_exported {a : Addr} {Q : Bool → Shared → Prop} (hg : A.guards = some []) (h : Q false s) :
    wpG M A (Builtin.Bytes.exported (.ref a)) Q E s := fun Γ p hΓ h1 h2 => by
  unfold Builtin.Bytes.exported
  rw [Sem.wp_bind']
  unfold stack
  rw [Sem.wp_stack, show (Sem.pure ((Γ.code, p) :: Γ.below) : Sem (List (Code × Pos))) = Pure.pure ((Γ.code, p) :: Γ.below) from rfl, Sem.wp_pure', Sem.wp_pure']
  have hc := clean_push (p := p) h1 h2
  have hgu : guardsOf ((Γ.code, p) :: Γ.below) = [] := by rw [guardsOf_cons]; exact hΓ.2.2.2.1 [] hg
  generalize ((Γ.code, p) :: Γ.below) = l at hc hgu
  refine Eq.mpr (congrArg (fun b => Q b s) (clean_any (fun c p hc hn => ?_) hc hgu)) h
  cases c
  case builtin id args =>
    obtain ⟨pos, kw⟩ := args
    have hg' : guardIds.contains id = false := hc
    have hd' : Builtin.Bytes.decodersThatHold.contains id = false := by
      have h9 : (!Builtin.Bytes.decodersThatHold.contains id) = true := hn
      simpa using h9
    have ne : ∀ s, guardIds.contains s = true → id ≠ s := fun s hs e => Bool.noConfusion ((e ▸ hs : guardIds.contains id = true).symm.trans hg')
    have n1 := ne "bytearray.__contains__" (by decide)
    have n2 := ne "bytearray.__mod__" (by decide)
    have n3 := ne "bytearray.__rmod__" (by decide)
    have n4 := ne "_struct.pack_into.held" (by decide)
    have n5 := ne "bytearray.find.held" (by decide)
    delta PySem.Builtin.Bytes.exported.match_1
    dsimp only
    repeat (first | refine (dif_neg n1).trans ?_ | refine (dif_neg n2).trans ?_ | refine (dif_neg n3).trans ?_ | refine (dif_neg n4).trans ?_ | refine (dif_neg n5).trans ?_)
    cases pos with
    | nil => rfl
    | cons v r =>
      show (Builtin.Bytes.sameRef v (Value.ref a) && Builtin.Bytes.decodersThatHold.contains id) = false
      rw [hd', Bool.and_false]
  all_goals rfl
end
end Mine
end
section
open PySem PySem.W PyProof.Rows PySem.Calls PySem.Spec
set_option maxRecDepth 100000
namespace Mine
section
variable {prog : Program} {w : World} {A : Around} {E : Value → Shared → Prop} {s : Shared} {R : Result → Shared → Prop}
theorem codeG_func {body : List Stmt} {env : Env}
    (h : wpG (model prog w) (A.deeper env) (execs body env) (fun f s' => R (.ok (.ret (match f with | .ret v => v | _ => .none))) s')
      (fun e s' => wpAny (model prog w) (A.deeper env) (leaving env e) (fun _ s'' => R (.error e) s'') (fun e' s'' => R (.error e') s'') s') s) :
    codeG (model prog w) A (.func body env) R s := by
  refine codeG_tree rfl ?_
  show wpG _ (A.deeper env) (do point; match ← (execs body env).onRaise (leaving env) with | .ret v => ret v | _ => ret .none) _ _ s
  refine wpG_bind (wpG_any (wpAny_point (?_ : wpG _ _ _ _ _ _)))
  refine wpG_bind (wpG_onRaise (wpG_mono h (fun f s' h' => ?_) fun _ _ h' => wpG_any h'))
  cases f <;> exact wpG_pure h'
theorem codeG_function {a : Addr} {args : Args} {o : Obj} {fd : FuncData} {body : List Stmt} (hroom : A.depth < recursionLimit)
    (ho : s.heap.get? a = some o) (hd' : o.data = .func fd) (hco : fd.scope.isCoroutine = false) (hgen : fd.scope.isGenerator = false) (hbody : fd.body = .stmts body) (hcd : s.heap.CodeRec fd.code fd.qualname)
    (h : wpAny (model prog w) A.in1 (bindArgs fd args) (fun binds s₁ =>
      wpAny (model prog w) A.in1 (newFunctionEnv fd.scope fd.globals fd.closure binds (fd.qualname ++ ".<locals>.") (some a) fd.code none fd.builtins)
        (fun env s₂ => s₂.heap.NoLimit ∧ codeG (model prog w) A (.func body env) R s₂) (fun e s' => R (.error e) s') s₁) (fun e s' => R (.error e) s') s) :
    codeG (model prog w) A (.call (.ref a) args) R s := by
  refine codeG_tree rfl ?_
  show wpG _ A.in1 (callAny (.ref a) args) _ _ s
  simp only [callAny]
  refine wpG_bind (wpG_any (wpAny_load ho ?_))
  obtain ⟨c, oc, vs, tq, hc, hoc, hdc, hq⟩ := hcd
  simp only [hd', callFunction, hco, hgen, hbody, hc]
  rw [hc] at h
  refine wpG_bind (m := field (.ref c) 1) (wpG_any (wpAny_field hoc hdc hq (wpG_bind (wpG_pure ?_))))
  refine wpG_bind (wpG_any (wpAny_mono h (fun binds s₁ h₁ => wpG_bind (wpG_any (wpAny_mono h₁ (fun env s₂ h₂ => wpG_bind (wpG_any (wpAny_enterFrame h₂.1 hroom
    (wpG_pure (And.intro rfl h₂.2))))) fun _ _ h' => h'))) fun _ _ h' => h'))
theorem wp_execs {M : Model} {Γ : PySem.Ctx} {env : Env} {Q : Flow → Pos → Shared → Prop} {E : Value → Pos → Shared → Prop} {b : List Stmt} : ∀ {a : List Stmt} {p : Pos} {s : Shared},
    Sem.wp M Γ (execs a env) (fun f p' s' => match f with | .next => Sem.wp M Γ (execs b env) Q E p' s' | f => Q f p' s') E p s → Sem.wp M Γ (execs (a ++ b) env) Q E p s := by
  intro a
  induction a with
  | nil =>
    intro p s h
    change Sem.wp M Γ (Pure.pure Flow.next) _ _ p s at h
    rw [Sem.wp_pure'] at h
    exact h
  | cons x a ih =>
    intro p s h
    change Sem.wp M Γ (exec x env >>= fun f => match f with | .next => execs a env | f => pure f) _ _ p s at h
    change Sem.wp M Γ (exec x env >>= fun f => match f with | .next => execs (a ++ b) env | f => pure f) _ _ p s
    rw [Sem.wp_bind'] at h ⊢
    refine Sem.wp_mono M Γ _ (fun f p' s' g => ?_) (fun _ _ _ x => x) p s h
    cases f with
    | next => exact ih g
    | _ =>
      rw [Sem.wp_pure'] at g ⊢
      exact g
theorem wpG_execs {a b : List Stmt} {env : Env} {Q : Flow → Shared → Prop}
    (h : wpG (model prog w) A (execs a env) (fun f s' => match f with | .next => wpG (model prog w) A (execs b env) Q E s' | f => Q f s') E s) :
    wpG (model prog w) A (execs (a ++ b) env) Q E s := fun Γ p h0 h1 h2 => by
  refine wp_execs (Sem.wp_mono _ Γ _ (fun f p' s' g => ?_) (fun _ _ _ x => x) p s (h Γ p h0 h1 h2))
  cases f with
  | next => exact g Γ p' h0 h1 h2
  | _ => exact g
theorem wpG_execs_cons {x : Stmt} {b : List Stmt} {env : Env} {Q : Flow → Shared → Prop}
    (h : wpG (model prog w) A (exec x env) (fun f s' => match f with | .next => wpG (model prog w) A (execs b env) Q E s' | f => Q f s') E s) :
    wpG (model prog w) A (execs (x :: b) env) Q E s := by
  show wpG (model prog w) A (exec x env >>= fun f => match f with | .next => execs b env | f => pure f) Q E s
  refine wpG_bind (wpG_mono h (fun f s' g => ?_) fun _ _ x => x)
  cases f with
  | next => exact g
  | _ => exact wpG_pure g
theorem wpG_Assign {x : Str} {pos' pos : Pos} {value : Expr} {env : Env} {Q : Flow → Shared → Prop}
    (h : wpG (model prog w) A (eval value env) (fun v s₁ => wpG (model prog w) A (storeName env x v) (fun _ => Q .next) E s₁) E s)
    (hs : swapsWith value (some (.Name x pos')) pos.line env = pure false := by rfl) :
    wpG (model prog w) A (exec (.Assign [.Name x pos'] value pos) env) Q E s := fun Γ p hΓ h1 h2 => by
  simp only [exec_Assign_Name env x pos' value pos hs, Sem.wp_bind', Sem.wp_cmd_standAt, Sem.wp_bindName, Sem.wp_pure']
  exact Sem.wp_mono _ Γ _ (fun v _ s₁ h₁ => h₁ Γ _ hΓ h1 h2) (fun _ _ _ h' => h') _ _ (h Γ _ hΓ h1 h2)
theorem callWithG_function {pos : Pos} {a : Addr} {o : Obj} {fd : FuncData} {args : List (Bool × Sem Value)} {Q : Value → Shared → Prop}
    (h : wpG (model prog w) A (evalArgs (.ref a) true args []) (fun x s₁ => (s₁.heap.get? a = some o ∧ o.data = .func fd) ∧ wpG (model prog w) A (call (.ref a) x.pos x.kw) Q E s₁) E s) :
    wpG (model prog w) A (callWith pos (.ref a) [] args []) Q E s := by
  unfold callWith
  refine wpG_bind (wpG_holding (wpG_mono h (fun x s₁ h₁ => wpG_bind (wpG_any (wpAny_standAt (?_ : wpG _ _ _ _ _ _)))) fun _ _ x => x))
  have tail : ∀ {t : Sem Value}, wpG (model prog w) A t Q E s₁ → wpG (model prog w) A (t >>= fun r => holding [r] point >>= fun _ => pure r) Q E s₁ :=
    fun ht => wpG_bind (wpG_mono ht (fun r s₂ hr => wpG_bind (wpG_any (wpAny_holding (wpAny_point (wpG_pure hr))))) fun _ _ x => x)
  cases hs : args.any (·.1) <;> simp only [List.any_nil, Bool.or_false] <;>
    refine wpG_bind (m := keeperOf (.ref a)) (wpG_any ?_) <;> unfold keeperOf <;>
    refine wpAny_bind (wpAny_load h₁.1.1 ?_) <;> rw [h₁.1.2] <;> refine wpAny_pure ?_
  · dsimp only
    split <;> first
      | exact tail h₁.2
      | exact tail (by unfold callMarked; exact wpG_keep h₁.2)
  · first
      | exact tail (by unfold callMarked; exact wpG_keep h₁.2)
      | exact tail h₁.2
theorem callWithG_type {pos : Pos} {T : String} {args : List (Bool × Sem Value)} {Q : Value → Shared → Prop} (hplain : args.any (·.1) = false)
    (h : wpG (model prog w) A (evalArgs (.type T) true args []) (fun a s₁ => wpG (model prog w) A (call (.type T) a.pos a.kw) Q E s₁) E s) :
    wpG (model prog w) A (callWith pos (.type T) [] args []) Q E s := by
  unfold callWith
  refine wpG_bind (wpG_holding (wpG_mono h (fun x s₁ h₁ => wpG_bind (wpG_any (wpAny_standAt (?_ : wpG _ _ _ _ _ _)))) fun _ _ x => x))
  simp only [hplain, List.any_nil, Bool.or_false]
  refine wpG_bind (wpG_pure ?_)
  exact wpG_bind (wpG_mono h₁ (fun r s₂ hr => wpG_bind (wpG_any (wpAny_holding (wpAny_point (wpG_pure hr))))) fun _ _ x => x)
end
end Mine
end
section
open PySem PySem.W PyProof.Rows PySem.Calls PySem.Spec
set_option maxRecDepth 100000
namespace Mine
/-- a pointwise walk of the caller's tree ends the thread -/
theorem endsP {prog : Program} {w : World} {t : Sem Fin} {s : Shared} {R : Result → Shared → Prop} (hreg : s.asleep)
    (h : wpG (model prog w) callerA t (fun fin s' => ∃ f, fin = .done f ∧ (R (.ok f) s' ∧ leftWithCleanup s'.gens = false)) (fun e s' => R (.error e) s' ∧ leftWithCleanup s'.gens = false) s) :
    ∃ n r s' s'', runN (denote table) prog w n s ⟨t, .builtin "claim.caller" {}, default, []⟩ = .halted (outcomeOf r) s' ∧
      schedN (denote table) prog w n (.single s ⟨t, .builtin "claim.caller" {}, default, []⟩) = .halted (outcomeOf r) s' ∧ s'.forget = s''.forget ∧ R r s'' := by
  have h0 := h ⟨.builtin "claim.caller" {}, none, none, [], none⟩ default caller_in (by decide +kernel) (fun x hx => by cases hx)
  obtain ⟨n, r, s₁, s₂, a, b, c, d⟩ := wp_halts_full (M := model prog w) (R := R) hreg (Sem.wp_mono _ _ _ (fun fin p' s' h' => by
    obtain ⟨f, rfl, hf⟩ := h'
    exact hf) (fun _ _ _ h' => h') _ _ h0)
  exact ⟨n, r, s₂, s₁, b, a, c, d⟩
end Mine
end
section
open PySem PySem.W PyProof.Rows PySem.Calls
set_option maxRecDepth 100000
namespace Mine
/-- the walk that the pointwise head asks for: `wpG` where the library's heads ask for `wpAny` -/
noncomputable def WalkP (q : Program) (loose : List Str) (XP : (Str → Option Value) → Heap → Prop) (YP : World → Heap → Prop) (r : RowW) (d : DefRec) (kwd : List (Str × Expr)) : Prop :=
  ∀ (w : World) (s₀ s₁ : Shared) (mg mb : Str → Option Value), Ground q loose r.records XP w s₀ mg mb s₁.heap → YP w s₁.heap → ∀ (a : Addr) (o : Obj) (pm cd doc dV kV : Value), s₁.heap.get? a = some o →
    o.data = .func { docDef d.name d.params d.body d.scope pm cd doc with defaults := dV, kwdefaults := kV } → s₁.heap.CodeRec cd d.name → Dflts mg s₁.heap d.params kwd dV kV → mg d.name = some (.ref a) → s₁.gens = #[] →
    ∀ (args : List WData) (vals : List Value) (as : List Addr), r.claim.pre args = true → WData.layableAll args = true → ReadsAllW r.records (classAt s₀.heap) s₁.heap vals args as → WellAll w.params s₁.heap vals args → (∀ a ∈ as, (a == sysModules) = false) →
      wpG (model r.prog w) callerA (PySem.call (.ref a) vals) (fun v s' => GoodWG r.claim (classAt s₀.heap) (ExcName.means s₀.heap) args s₁ (.ok (.ret v)) s')
        (fun e s' => GoodWG r.claim (classAt s₀.heap) (ExcName.means s₀.heap) args s₁ (.error e) s') s₁
theorem holds_mine {r : OpenRow} {q : Program} {loose : List Str} {Xt : Shared → Bool} {XP : (Str → Option Value) → Heap → Prop} {α : Type} {Yf : Shared → α} {Ya : World → α} {YP : World → Heap → Prop} {d : DefRec} {kwd : List (Str × Expr)} {N : Nat}
    (left : LeftO r.prog q loose Xt Yf Ya N) (hY : ∀ w s, Yf s = Ya w → YP w s.heap) (hYk : ∀ w h h', YP w h → (∀ b o, h.get? b = some o → h'.get? b = some o) → YP w h')
    (hX : ∀ s, Xt s = true → XP (s.heap.nsMap mainGlobals) s.heap) (hXk : ∀ mg h h', XP mg h → (∀ b o, h.get? b = some o → h'.get? b = some o) → XP mg h')
    (hdef : defOf q r.name = some (d, kwd)) (hp : r.prog.theDef r.name = some (d.params, d.body, d.scope)) (hk : kwWritten? d.params.kwonlyargs d.params.kw_defaults = some kwd) (hRf : ∀ s, Xt s = true → RecFacts r.records s.heap) (hwr : (!r.writes || r.records.isEmpty) = true)
    (k1 : r.wellSaid = true) (ok : (chainsOk q && opensWell r.prog && (frees r.toRowW && r.within.isEmpty)) = true) (hb : r.prog.bare) (hw : r.toRowW.promised)
    (call : WalkP q loose XP YP r.toRowW d kwd) : r.Holds := by
  have ok1 := Bool.and_eq_true_iff.mp ok
  have ok2 := Bool.and_eq_true_iff.mp ok1.1
  have ok3 := Bool.and_eq_true_iff.mp ok1.2
  obtain ⟨hsame, hu, ha, hap, hm⟩ := frees_parts ok3.1
  have hwi : r.toRowW.claim.within = [] := List.isEmpty_iff.mp ok3.2
  have hi := ident_freeW hu ha hap
  refine ⟨k1, hw, ⟨hb, ok2.2, by show r.makers.map _ = []; rw [hm]; rfl⟩, hw.witness, fun w => ?_⟩
  have L0 := left.behind (XP := fun mg h => XP mg h ∧ RecFacts r.records h) (fun s hs => ⟨hX s hs, hRf s hs⟩) ok2.1 w
  refine ⟨L0.1, fun s' hs' => ?_⟩
  obtain ⟨s₀, hf, hg0, s, hT, hz, hgens, hg, G00, y⟩ := L0.2 s' hs'
  have G0 : Ground q loose [] XP w s (s.heap.nsMap mainGlobals) (s.heap.nsMap builtinsNs) s.heap := ⟨G00.T, G00.B, G00.D, G00.TE, G00.TD, G00.W, G00.X.1, G00.cls, G00.has, G00.apart, G00.once, G00.K⟩
  have RF := G00.X.2
  have hgn : s.gens = #[] := Array.eq_empty_of_size_eq_zero (beq_iff_eq.mp hgens)
  have G : Ground q loose r.records XP w s _ _ s.heap := RF.ground G0
  refine ⟨s₀, hf, hg0, s, hT, fun n hn => ?_, RF.1, RF.2.1, fun args hpre hlay ord hord => ?_⟩
  · obtain rfl : n = r.name := by split at hn <;> simp_all
    exact pinned_of_view hg G0 hdef hp hk
  obtain ⟨⟨vs, s₁⟩, hlaid⟩ := Option.isSome_iff_exists.mp (layAllW_isSome (P := w.params) (ord := ord) G.has args r.args s (pre_splitW hpre).1)
  have keeps := layAllW_keeps _ _ _ hlaid
  have hal := layAllW_rest _ _ _ hlaid
  obtain ⟨as, hrd, hin, hold⟩ := reads_layAllW hord _ _ _ hlaid hlay s₁.heap (fun _ _ e => e)
  have L : Laid r.records w s s₁ args vs as := ⟨⟨ord, hord, hlaid⟩, hrd, hin, hold, keeps, hal.1.trans hgn, hal.2.2.1⟩
  have G₁ := G.keeps hXk keeps
  obtain ⟨a, o, pm, cd, doc, dV, kV, h1, h2, h3, h4, h5⟩ := G₁.fn hdef
  have W := call w s s₁ _ _ G₁ (hYk _ _ _ (hY w s y) keeps) a o pm cd doc dV kV h2 h3 h4 h5 (defOf_name hdef ▸ h1) L.gens args vs as hpre hlay L.reads L.well (L.low G.low)
  have T : wpG (model r.prog w) callerA (do match ← nsGet mainNs r.name with
      | some f => do ret (← PySem.call f vs)
      | none => unsupported "claim.caller:no-such-global") (fun fin s' => ∃ f, fin = .done f ∧ (GoodWG r.claim (classAt s.heap) (ExcName.means s.heap) args s₁ (.ok f) s' ∧ leftWithCleanup s'.gens = false))
      (fun e s' => GoodWG r.claim (classAt s.heap) (ExcName.means s.heap) args s₁ (.error e) s' ∧ leftWithCleanup s'.gens = false) s₁ := by
    refine wpG_after (wpAny_nsGet G₁.T.g ?_)
    rw [h1]
    refine wpG_bind (wpG_mono W (fun v s' g => wpG_pure ⟨_, rfl, g, leftWithCleanup_false_of_bare (g.laid (c := r.claim) hsame hwi hi L).2.2⟩) fun e s' g => ⟨g, leftWithCleanup_false_of_bare (g.laid (c := r.claim) hsame hwi hi L).2.2⟩)
  obtain ⟨k, res, s₂, s₃, hrun, hsched, hfo, hgood⟩ := endsP (Shared.asleep_of_life hal.2.2.2 hz) T
  have z := hgood.laid (c := r.claim) hsame hwi hi L
  obtain ⟨eh, _, _, eo, _⟩ := Shared.forget_eq hfo
  have hcase := z.1.congr eh
  have hlife : s₂.heap.life = s.heap.life := (runN_life _ _ _ hrun).trans hal.2.2.2
  refine ⟨vs, s₁, hlaid, k, _, s₂, hsched, ?_, (fun _ i x hx => by rw [hgn] at hx; simp at hx), (fun q => ?_), by rw [hlife], Shared.rest_eq (eo.trans z.2.1)⟩
  · rcases hcase with ⟨v, rfl, d1, d2, d3, d4, d5⟩ | ⟨e, ob, cls, rfl, d1, d2, d3, d4, d5⟩
    · exact .inl ⟨v, rfl, d1, d2, d3, fun b o y _ => d4 b o y, d5⟩
    · exact .inr ⟨e, ob, cls, rfl, d1, d2, d3, d4, fun b o y _ => d5 b o y⟩
  · rw [eh]
    exact ⟨namesKept_of hT hg r.keeps keeps hgood.2.1.old, noTable hwr q⟩
end Mine
end
section
open PySem PySem.W PyProof.Rows
set_option maxRecDepth 100000
set_option maxHeartbeats 8000000
namespace Mine
local macro_rules
  | `(tactic| refine PySem.W.holds_open $xs*) => `(tactic| refine Mine.holds_mine $xs*)
open_top hd for PySem.Challenge.rw_zo0018_01
end Mine
end
section
open PySem PySem.W PyProof.Rows
set_option maxRecDepth 100000
namespace Mine

/-- where a walk stands: the caller's frame, the ledger, the written part -/
structure Here (w : World) (A : Around) (h : Heap) (h₀ : Heap) (L : Addr) (m : Str → Option Value) (news : List (Addr × Obj)) : Prop where
  F : Fr h₀ L h m
  X : (hd.heap_39 w.params).In h₀
  N : News h₀ L h news
  C : ∃ (A₀ : Around) (base : Heap) (env : Env) (outer : List Env) (mean : ExcName → Option Value) (mg mb : Str → Option Value) (loose : List Str),
    Below A₀ base outer h₀ ∧ Top topProg loose mean mg mb h₀ ∧ A.frames = some (env :: outer) ∧ env.frame = some L ∧ env.scope.kind = .function

end Mine
end
section
open PySem PySem.W
set_option maxRecDepth 100000
namespace Mine
open PySem.Sre (M)

noncomputable def rxCode : Array Nat := #[14, 8, 1, 2, 4294967295, 1, 1, 46, 0, 16, 46, 24, 9, 1, 4294967295, 13, 4, 8, 0, 0, 1, 6, 5, 1]

noncomputable def rxF (s : Nat) (first : Bool) : Sre.Frame := { wait := .nextStart, pc := 9, pos := s, outermost := first }

/-- the machine at a start place -/
noncomputable def rxS (x : Array Nat) (s : Nat) (first : Bool) (seen : Sre.Seen) : M :=
  { code := rxCode, text := x, lim := x.size, start := s, lastStart := x.size, pc := 9, pos := s, handed := s, outermost := first, marks := #[], frames := [rxF s first], weight := 1, seen := seen }
/-- .. with the dot taken -/
noncomputable def rxD (x : Array Nat) (s : Nat) (first : Bool) (seen : Sre.Seen) : M :=
  { code := rxCode, text := x, lim := x.size, start := s, lastStart := x.size, pc := 11, pos := s + 1, handed := s, outermost := first, marks := #[], frames := [rxF s first], weight := 1, seen := seen }
/-- .. having said no at some place -/
noncomputable def rxN (x : Array Nat) (s pc pos : Nat) (first : Bool) (seen : Sre.Seen) : M :=
  { code := rxCode, text := x, lim := x.size, start := s, lastStart := x.size, pc := pc, pos := pos, handed := s, outermost := first, marks := #[], frames := [rxF s first], weight := 1, seen := seen, answer := some false }

theorem rx_lit_end {x : Array Nat} {s : Nat} {first : Bool} {seen : Sre.Seen} (h : x.size ≤ s) : (rxS x s first seen).step = rxN x s 9 s first (seen.add 16) := by
  show (if s ≥ x.size then _ else _) = _
  rw [if_pos h]; rfl
theorem rx_lit_no {x : Array Nat} {s : Nat} {first : Bool} {seen : Sre.Seen} (h : s < x.size) (hc : x.getD s 0 ≠ 46) : (rxS x s first seen).step = rxN x s 9 s first (seen.add 16) := by
  have e : Sre.accepts rxCode 9 (x.getD s 0) (seen.add 16) = .ok (false, seen.add 16) := by
    show Except.ok (x.getD s 0 == 46, seen.add 16) = _
    rw [show (x.getD s 0 == 46) = false from by simpa using hc]
  show (if s ≥ x.size then _ else _) = _
  rw [if_neg (by omega)]
  split
  · rename_i h1; cases h1.symm.trans e
  · rename_i h1; cases h1.symm.trans e; rfl
  · rename_i h1; cases h1.symm.trans e
theorem rx_lit_yes {x : Array Nat} {s : Nat} {first : Bool} {seen : Sre.Seen} (h : s < x.size) (hc : x.getD s 0 = 46) : (rxS x s first seen).step = rxD x s first (seen.add 16) := by
  have e : Sre.accepts rxCode 9 (x.getD s 0) (seen.add 16) = .ok (true, seen.add 16) := by
    show Except.ok (x.getD s 0 == 46, seen.add 16) = _
    rw [show (x.getD s 0 == 46) = true from by simpa using hc]
  show (if s ≥ x.size then _ else _) = _
  rw [if_neg (by omega)]
  split
  · rename_i h1; cases h1.symm.trans e
  · rename_i h1; cases h1.symm.trans e
  · rename_i h1; cases h1.symm.trans e; rfl

theorem rx_rep_end {x : Array Nat} {s : Nat} {first : Bool} {seen : Sre.Seen} (h : x.size ≤ s + 1) : (rxD x s first seen).step = rxN x s 11 (s + 1) first (seen.add 24) := by
  show (if ((1 : Nat) : Int) > ((x.size : Int) - ((s + 1 : Nat) : Int)) then _ else _) = _
  rw [if_pos (by omega)]; rfl

theorem rx_run_no {x : Array Nat} {p n : Nat} {seen : Sre.Seen} (hc : Sre.isDigit (x.getD p 0) = false) : ∃ seen', Sre.run rxCode x 15 (n + 1) p 0 seen = .ok (0, seen') := by
  have e : ∃ seen', Sre.accepts rxCode 15 (x.getD p 0) seen = .ok (false, seen') := by
    refine ⟨((seen.add 8).add 55).add 0, ?_⟩
    show (do if ← Sre.category 0 (x.getD p 0) then pure (true, (seen.add 8).add 55) else Sre.inSet rxCode (x.getD p 0) 23 19 true ((seen.add 8).add 55)) = _
    rw [show Sre.category 0 (x.getD p 0) = .ok (Sre.isDigit (x.getD p 0)) from by show Except.ok (Sre.isDigit (x.getD p 0) != false) = _; simp, hc]
    rfl
  obtain ⟨seen', e⟩ := e
  refine ⟨seen', ?_⟩
  show (do let r ← Sre.accepts rxCode 15 (x.getD p 0) seen; match r with | (yes, seen) => if yes then Sre.run rxCode x 15 n (p + 1) 1 seen else pure (0, seen)) = _
  rw [e]; rfl

theorem rx_rep_no {x : Array Nat} {s : Nat} {first : Bool} {seen : Sre.Seen} (h : s + 1 < x.size) (hc : Sre.isDigit (x.getD (s + 1) 0) = false) : ∃ seen', (rxD x s first seen).step = rxN x s 11 (s + 1) first seen' := by
  obtain ⟨n, hn⟩ : ∃ n, min 4294967295 ((x.size : Int) - ((s + 1 : Nat) : Int)).toNat = n + 1 := ⟨min 4294967295 ((x.size : Int) - ((s + 1 : Nat) : Int)).toNat - 1, by omega⟩
  obtain ⟨seen', e⟩ := rx_run_no (n := n) (seen := (seen.add 24).add 13) hc
  rw [← hn] at e
  refine ⟨seen', ?_⟩
  show (if ((1 : Nat) : Int) > ((x.size : Int) - ((s + 1 : Nat) : Int)) then _ else _) = _
  rw [if_neg (by omega)]
  split
  · rename_i h1; cases h1.symm.trans e
  · rename_i h1; cases h1.symm.trans e; rfl

theorem rx_next {x : Array Nat} {s pc pos : Nat} {first : Bool} {seen : Sre.Seen} (h : s < x.size) : (rxN x s pc pos first seen).step = rxS x (s + 1) false seen := by
  show (if s < x.size then _ else _) = _
  rw [if_pos h]; rfl
theorem rx_over {x : Array Nat} {s pc pos : Nat} {first : Bool} {seen : Sre.Seen} (h : x.size ≤ s) : (rxN x s pc pos first seen).step.step.outcome = some .failed := by
  have e : (rxN x s pc pos first seen).step = { (rxN x s 9 s first seen) with frames := [], weight := 0 } := by
    show (if s < x.size then _ else _) = _
    rw [if_neg (by omega)]; rfl
  rw [e]; rfl

/-- n steps -/
noncomputable def steps : Nat → M → M
  | 0, m => m
  | n + 1, m => steps n m.step
theorem steps_add (a b : Nat) (m : M) : steps (a + b) m = steps b (steps a m) := by
  induction a generalizing m with
  | zero => rw [Nat.zero_add]; rfl
  | succ a ih => rw [Nat.succ_add]; exact ih m.step

/-- no digit right behind a dot -/
noncomputable def noDD (x : Array Nat) : Prop := ∀ i, i + 1 < x.size → x.getD i 0 = 46 → Sre.isDigit (x.getD (i + 1) 0) = false

theorem rx_turn {x : Array Nat} (hx : noDD x) {s : Nat} {first : Bool} {seen : Sre.Seen} (h : s < x.size) : ∃ k seen', k ≤ 3 ∧ steps k (rxS x s first seen) = rxS x (s + 1) false seen' := by
  by_cases hc : x.getD s 0 = 46
  · by_cases hl : s + 1 < x.size
    · obtain ⟨seen', e⟩ := rx_rep_no (first := first) (seen := seen.add 16) hl (hx s hl hc)
      exact ⟨3, seen', by omega, by show (rxS x s first seen).step.step.step = _; rw [rx_lit_yes h hc, e, rx_next h]⟩
    · exact ⟨3, _, by omega, by show (rxS x s first seen).step.step.step = _; rw [rx_lit_yes h hc, rx_rep_end (by omega), rx_next h]⟩
  · exact ⟨2, _, by omega, by show (rxS x s first seen).step.step = _; rw [rx_lit_no h hc, rx_next h]⟩

theorem rx_fails {x : Array Nat} (hx : noDD x) : ∀ (d s : Nat) (first : Bool) (seen : Sre.Seen), s + d = x.size → ∃ k, k ≤ 3 * d + 3 ∧ (steps k (rxS x s first seen)).outcome = some .failed
  | 0, s, first, seen, h => ⟨3, by omega, by show (rxS x s first seen).step.step.step.outcome = _; rw [rx_lit_end (by omega)]; exact rx_over (by omega)⟩
  | d + 1, s, first, seen, h => by
    obtain ⟨k, seen', hk, e⟩ := rx_turn hx (first := first) (seen := seen) (show s < x.size by omega)
    obtain ⟨k', hk', e'⟩ := rx_fails hx d (s + 1) false seen' (by lia)
    exact ⟨k + k', by lia, by rw [steps_add, e]; exact e'⟩

theorem step_done {m : M} (h : m.outcome.isSome = true) : m.step = m := by
  unfold M.step; rw [if_pos h]
theorem steps_done {m : M} (h : m.outcome.isSome = true) : ∀ n, steps n m = m
  | 0 => rfl
  | n + 1 => by show steps n m.step = m; rw [step_done h]; exact steps_done h n
theorem runFor_eq : ∀ (n : Nat) (m : M), m.runFor n = steps n m
  | 0, m => rfl
  | n + 1, m => by
    show (if m.outcome.isSome = true then m else M.runFor n m.step) = _
    by_cases h : m.outcome.isSome = true
    · rw [if_pos h, steps_done h]
    · rw [if_neg h]; exact runFor_eq n m.step

section
variable {w : World} {A : Around} {s : Shared} {E : Value → Shared → Prop}
theorem reDrive_ok {m' : M} (ho : m'.outcome.isSome = true) {Q : M → Shared → Prop} (hQ : Q m' s) : ∀ (turns k : Nat) (m : M), steps k m = m' → k < 4 * turns →
    wpAny (model Challenge.rw_zo0018_01.row.prog w) A (Builtin.Re.reDrive turns m) Q E s
  | 0, k, m, h, hk => by omega
  | t + 1, k, m, h, hk => by
    show wpAny _ _ (if (m.runFor 4).outcome.isSome = true then pure (m.runFor 4) else do rule "sre.turn"; Builtin.Re.reDrive t (m.runFor 4)) _ _ _
    rw [runFor_eq]
    by_cases hd : (steps 4 m).outcome.isSome = true
    · rw [if_pos hd]
      have : steps 4 m = m' := by
        by_cases hk4 : k ≤ 4
        · obtain ⟨j, e4⟩ : ∃ j, 4 = k + j := ⟨4 - k, by omega⟩
          rw [e4, steps_add, h, steps_done ho]
        · obtain ⟨j, rfl⟩ : ∃ j, k = 4 + j := ⟨k - 4, by omega⟩
          rw [steps_add, steps_done hd] at h; exact h
      rw [this]; exact wpAny_pure hQ
    · rw [if_neg hd]
      have hk4 : 4 < k := by
        apply Nat.lt_of_not_le; intro hle
        obtain ⟨j, e⟩ : ∃ j, 4 = k + j := ⟨4 - k, by omega⟩
        apply hd; rw [e, steps_add, h, steps_done ho]; exact ho
      obtain ⟨j, rfl⟩ : ∃ j, k = 4 + j := ⟨k - 4, by omega⟩
      exact wpAny_bind (wpAny_rule (reDrive_ok ho hQ t j _ (by rw [← steps_add]; exact h) (by omega)))

theorem rules_ok {f : Nat → PUnit → Sem (ForInStep PUnit)} (hf : ∀ i u, (∃ t, f i u = (do rule t; pure (.yield ⟨⟩))) ∨ f i u = pure (.yield ⟨⟩)) {Q : PUnit → Shared → Prop} (h : Q ⟨⟩ s) :
    ∀ l : List Nat, wpAny (model Challenge.rw_zo0018_01.row.prog w) A (forIn l ⟨⟩ f) Q E s
  | [] => by rw [List.forIn_nil]; exact wpAny_pure h
  | i :: l => by
    rw [List.forIn_cons]
    rcases hf i ⟨⟩ with ⟨t, e⟩ | e
    · rw [e]; exact wpAny_bind (wpAny_bind (wpAny_rule (wpAny_pure (rules_ok hf h l))))
    · rw [e]; exact wpAny_bind (wpAny_pure (rules_ok hf h l))

theorem reRun_ok {m m' : M} {k : Nat} (h : steps k m = m') (hk : k < 1000000) {b : Bool} (ho : m'.outcome = some (if b then .matched else .failed)) {Q : Option M → Shared → Prop} (hQ : Q (if b then some m' else none) s) :
    wpAny (model Challenge.rw_zo0018_01.row.prog w) A (Builtin.Re.reRunToEnd m) Q E s := by
  unfold Builtin.Re.reRunToEnd
  refine wpAny_bind (reDrive_ok (m' := m') (by rw [ho]; rfl) ?_ (2 ^ 64) k m h (by omega))
  refine wpAny_bind (rules_ok (fun i u => ?_) ?_ _)
  · by_cases hs : m'.seen.has i = true
    · exact .inl ⟨_, by rw [if_pos hs]⟩
    · exact .inr (by rw [if_neg hs])
  · rw [ho]
    cases b
    · exact wpAny_pure hQ
    · exact wpAny_pure hQ
end

theorem rx_search_none {x : Array Nat} (hx : noDD x) : ∃ k m', k ≤ 3 * x.size + 3 ∧ steps k (Sre.forSearch rxCode x 0 0 x.size false) = m' ∧ m'.outcome = some .failed := by
  by_cases hs : x.size < 2
  · refine ⟨1, _, by lia, rfl, ?_⟩
    have e : Sre.forSearch rxCode x 0 0 x.size false = { (rxN x 0 9 0 true ({} : Sre.Seen)) with lastStart := 0, frames := [], weight := 0, seen := ({} : Sre.Seen).add 14 } := by
      show (if (decide (0 > x.size) || decide (x.size - 0 < 2)) = true then _ else _) = _
      rw [if_pos (by simp; omega)]; rfl
    rw [e]; rfl
  · have e : Sre.forSearch rxCode x 0 0 x.size false = rxS x 0 true (({} : Sre.Seen).add 14) := by
      show (if (decide (0 > x.size) || decide (x.size - 0 < 2)) = true then _ else _) = _
      rw [if_neg (by simp; omega)]; rfl
    rw [e]
    obtain ⟨k, hk, e'⟩ := rx_fails hx x.size 0 true (({} : Sre.Seen).add 14) (by lia)
    exact ⟨k, _, hk, rfl, e'⟩

/-- a match in the air -/
noncomputable def rxM (x : Array Nat) (s : Nat) (first : Bool) (seen : Sre.Seen) : M :=
  { code := rxCode, text := x, lim := x.size, start := s, lastStart := x.size, pc := 21, pos := s + 2, handed := s + 2, outermost := first, marks := #[],
    frames := [{ wait := .giveBack, pc := 11, pos := s + 2, outermost := first, count := 1 }, rxF s first], weight := 2, seen := seen }

theorem rx_run_yes {x : Array Nat} {p : Nat} {seen : Sre.Seen} (hc : Sre.isDigit (x.getD p 0) = true) : ∃ seen', Sre.run rxCode x 15 1 p 0 seen = .ok (1, seen') := by
  have e : ∃ seen', Sre.accepts rxCode 15 (x.getD p 0) seen = .ok (true, seen') := by
    refine ⟨((seen.add 8).add 55), ?_⟩
    show (do if ← Sre.category 0 (x.getD p 0) then pure (true, (seen.add 8).add 55) else Sre.inSet rxCode (x.getD p 0) 23 19 true ((seen.add 8).add 55)) = _
    rw [show Sre.category 0 (x.getD p 0) = .ok (Sre.isDigit (x.getD p 0)) from by show Except.ok (Sre.isDigit (x.getD p 0) != false) = _; simp, hc]
    rfl
  obtain ⟨seen', e⟩ := e
  refine ⟨seen', ?_⟩
  show (do let r ← Sre.accepts rxCode 15 (x.getD p 0) seen; match r with | (yes, seen) => if yes then Sre.run rxCode x 15 0 (p + 1) 1 seen else pure (0, seen)) = _
  rw [e]; rfl

theorem rx_rep_yes {x : Array Nat} {s : Nat} {first : Bool} {seen : Sre.Seen} (h : s + 2 = x.size) (hc : Sre.isDigit (x.getD (s + 1) 0) = true) : ∃ seen', (rxD x s first seen).step = rxM x s first seen' := by
  have hn : min 4294967295 ((x.size : Int) - ((s + 1 : Nat) : Int)).toNat = 1 := by omega
  obtain ⟨seen', e⟩ := rx_run_yes (seen := (seen.add 24).add 13) hc
  have e : Sre.run rxCode x 15 (min 4294967295 ((x.size : Int) - ((s + 1 : Nat) : Int)).toNat) (s + 1) 0 ((seen.add 24).add 13) = .ok (1, seen') := by rw [hn]; exact e
  refine ⟨seen', ?_⟩
  show (if ((1 : Nat) : Int) > ((x.size : Int) - ((s + 1 : Nat) : Int)) then _ else _) = _
  rw [if_neg (by omega)]
  split
  · rename_i h1; cases h1.symm.trans e
  · rename_i h1; cases h1.symm.trans e; rfl

theorem rx_at {x : Array Nat} {s : Nat} {first : Bool} {seen : Sre.Seen} (h : s + 2 = x.size) : ∃ m' : M, (rxM x s first seen).step = m' ∧ m'.step.step.step.step.outcome = some .matched ∧ m'.step.step.step.step.lastindex = -1 ∧ m'.step.step.step.step.lastmark = -1 := by
  have e : M.isAt { (rxM x s first seen) with seen := seen.add 6 } 5 = .ok true := by
    show Except.ok (s + 2 == x.size || _) = _
    rw [h]; simp
  refine ⟨_, rfl, ?_⟩
  have e2 : (rxM x s first seen).step = { (rxM x s first ((seen.add 6).add 48)) with pc := 23 } := by
    show (match M.isAt { (rxM x s first seen) with seen := seen.add 6 } 5 with
      | .error why => M.stick { (rxM x s first seen) with seen := seen.add 6 } why
      | .ok yes => if yes = true then { (rxM x s first ((seen.add 6).add 48)) with pc := 23 } else M.say (rxM x s first ((seen.add 6).add 48)) false) = _
    rw [e]; rfl
  rw [e2]
  cases first <;> exact ⟨rfl, rfl, rfl⟩

theorem rx_skip {x : Array Nat} {n : Nat} (hx : ∀ i, i < n → i + 1 < x.size → x.getD i 0 = 46 → Sre.isDigit (x.getD (i + 1) 0) = false) :
    ∀ (d s : Nat) (first : Bool) (seen : Sre.Seen), s + d = n → n < x.size → ∃ k first' seen', k ≤ 3 * d ∧ steps k (rxS x s first seen) = rxS x n first' seen'
  | 0, s, first, seen, h, _ => ⟨0, first, seen, by omega, by rw [show s = n from by omega]; rfl⟩
  | d + 1, s, first, seen, h, hn => by
    have hs : s < x.size := by omega
    have turn : ∃ k seen', k ≤ 3 ∧ steps k (rxS x s first seen) = rxS x (s + 1) false seen' := by
      by_cases hc : x.getD s 0 = 46
      · by_cases hl : s + 1 < x.size
        · obtain ⟨seen', e⟩ := rx_rep_no (first := first) (seen := seen.add 16) hl (hx s (by omega) hl hc)
          exact ⟨3, seen', by omega, by show (rxS x s first seen).step.step.step = _; rw [rx_lit_yes hs hc, e, rx_next hs]⟩
        · exact ⟨3, _, by omega, by show (rxS x s first seen).step.step.step = _; rw [rx_lit_yes hs hc, rx_rep_end (by omega), rx_next hs]⟩
      · exact ⟨2, _, by omega, by show (rxS x s first seen).step.step = _; rw [rx_lit_no hs hc, rx_next hs]⟩
    obtain ⟨k, seen', hk, e⟩ := turn
    obtain ⟨k', f', seen'', hk', e'⟩ := rx_skip hx d (s + 1) false seen' (by omega) hn
    exact ⟨k + k', f', seen'', by omega, by rw [steps_add, e]; exact e'⟩

/-- the text ends in a dot and one digit, and has no other such place -/
theorem rx_search_some {x : Array Nat} {n : Nat} (hn : n + 2 = x.size) (h1 : x.getD n 0 = 46) (h2 : Sre.isDigit (x.getD (n + 1) 0) = true)
    (hx : ∀ i, i < n → i + 1 < x.size → x.getD i 0 = 46 → Sre.isDigit (x.getD (i + 1) 0) = false) :
    ∃ k m', k ≤ 3 * x.size + 10 ∧ steps k (Sre.forSearch rxCode x 0 0 x.size false) = m' ∧ m'.outcome = some .matched ∧ m'.lastindex = -1 ∧ m'.lastmark = -1 := by
  have e : Sre.forSearch rxCode x 0 0 x.size false = rxS x 0 true (({} : Sre.Seen).add 14) := by
    show (if (decide (0 > x.size) || decide (x.size - 0 < 2)) = true then _ else _) = _
    rw [if_neg (by simp; omega)]; rfl
  rw [e]
  obtain ⟨k, f', seen', hk, e'⟩ := rx_skip hx n 0 true (({} : Sre.Seen).add 14) (by omega) (by omega)
  obtain ⟨seen'', e2⟩ := rx_rep_yes (first := f') (seen := seen'.add 16) hn h2
  obtain ⟨m', e3, h4, h5, h6⟩ := rx_at (first := f') (seen := seen'') hn
  refine ⟨k + 7, _, by omega, rfl, ?_⟩
  rw [steps_add, e']
  show (rxS x n f' seen').step.step.step.step.step.step.step.outcome = _ ∧ (rxS x n f' seen').step.step.step.step.step.step.step.lastindex = _ ∧ (rxS x n f' seen').step.step.step.step.step.step.step.lastmark = _
  rw [rx_lit_yes (by omega) h1, e2, e3]
  exact ⟨h4, h5, h6⟩
end Mine
end
section
open PySem PySem.W PyProof.Rows
set_option maxRecDepth 100000
namespace Mine
section
variable {prog : Program} {w : World} {A : Around} {s : Shared} {E : Value → Shared → Prop}
theorem call_slot {T : String} {name : Str} {id : String} {B : Builtin} {self : Value} {rest : List Value} {Q : Value → Shared → Prop} (slot : Slot T name id) (hT : s.TypeIs self T)
    (entry : entryFor table id = some B) (args : argsOk id ⟨self :: rest, []⟩) (h : wpAny (model prog w) A.in1 (B ⟨self :: rest, []⟩) (fun fin s' => ∃ v, fin = .done (.ret v) ∧ Q v s') E s) :
    wpAny (model prog w) A (call (.builtin id) (self :: rest)) Q E s :=
  call_meetsIn slot hT entry args (S := fun A' R s' => wpAny (model prog w) A'.in1 (B ⟨self :: rest, []⟩) (fun fin s'' => ∃ v, fin = .done (.ret v) ∧ R (.ok (.ret v)) s'') (fun e s'' => R (.error e) s'') s')
    (fun A' R s' hs => wpAny_mono hs (fun fin s'' h' => by obtain ⟨v, rfl, hv⟩ := h'; exact hv) fun _ _ x => x)
    (wpAny_mono h (fun fin s'' h' => by obtain ⟨v, rfl, hv⟩ := h'; exact ⟨v, rfl, hv⟩) fun _ _ x => x)
end

theorem pa_pat : PlainAttrs "re.Pattern" :=
  ⟨⟨"object.__getattribute__", by rw [typeLookup_type, builtinLookup_eq_fast]; kernel_rfl, by decide +kernel⟩, by rw [typeLookup_type, builtinLookup_eq_fast]; kernel_rfl⟩
theorem slot_search : Slot "re.Pattern" "search" "re.Pattern.search" :=
  .of (owner := "re.Pattern") (n := "search") (by rw [typeLookup_type, builtinLookup_eq_fast]; kernel_rfl) (by decide +kernel) (by decide +kernel) (by decide +kernel)
    (by first | exact .inl (by decide +kernel) | exact .inr (by decide +kernel)) (by rw [isSubtype_type]; kernel_rfl)
theorem type_search : typeOf (.builtin "re.Pattern.search") = pure (.type "method_descriptor") := by show builtinType _ = _; rw [builtinType_eq_fast]; kernel_rfl
theorem entry_search : entryFor table "re.Pattern.search" = some Builtin.«re.Pattern.search» := entryFor_of_tree (by kernel_rfl)
theorem args_search (a b : Value) : argsOk "re.Pattern.search" ⟨[a, b], []⟩ := by
  unfold argsOk; rw [signature?_of (id := "re.Pattern.search") (n := ['h', 'c', 'r', 'a', 'e', 's']) (o := "nrettaP.er".toList) (by kernel_rfl) (by kernel_rfl : Manifest.owners.lookup _ = some Manifest.sig_re_Pattern)]; kernel_rfl
theorem no_bool_match : typeLookup (.type "re.Match") "__bool__" = pure none := by rw [typeLookup_type, builtinLookup_eq_fast]; kernel_rfl
theorem no_len_match : typeLookup (.type "re.Match") "__len__" = pure none := by rw [typeLookup_type, builtinLookup_eq_fast]; kernel_rfl

theorem k36 (P : Params) : (hd.heap_39 P).lookup 36 = some ⟨.type "re.Pattern", none, .fields #[.str (Str.ofString "\\.\\d+$") 285, .int 256 312, .int 0 0, .none, .none, .ref 35, .int 0 0], #[]⟩ := by kernel_rfl
noncomputable def rxT (x : Str) (t : Tok) : Builtin.Re.ReTarget := { pattern := .ref 36, string := .str x t, code := rxCode, text := x.cps, kind := 0, groups := 0, pos := 0, lim := x.cps.size }
theorem target_peek0 (P : Params) (S : Setting) (x : Str) (t : Tok) : peek (hd.heap_39 P) S (Builtin.Re.reTarget "re.Pattern.search" "search" ⟨[.ref 36, .str x t], []⟩) =
    some ({ pattern := .ref 36, string := .str x t, code := rxCode, text := x.cps, kind := 0, groups := 0, pos := min (0 : Int).toNat x.cps.size, lim := min ((2 : Int) ^ 63 - 1).toNat x.cps.size } : Builtin.Re.ReTarget) := by kernel_rfl
theorem target_peek (P : Params) (S : Setting) (x : Str) (t : Tok) (hx : x.length ≤ 1000) : peek (hd.heap_39 P) S (Builtin.Re.reTarget "re.Pattern.search" "search" ⟨[.ref 36, .str x t], []⟩) = some (rxT x t) := by
  have h0 : min (0 : Int).toNat x.cps.size = 0 := by lia
  have h1 : min ((2 : Int) ^ 63 - 1).toNat x.cps.size = x.cps.size := by
    have : x.cps.size ≤ 1000 := hx
    lia
  rw [target_peek0, h0, h1]; rfl

section
variable {w : World} {A : Around} {s : Shared} {E : Value → Shared → Prop}
theorem search_none {x : Str} {t : Tok} {Q : Value → Shared → Prop} (X : (hd.heap_39 w.params).In s.heap) (hx : x.length ≤ 1000) (hdd : noDD x.cps) (hQ : Q .none s) :
    wpAny (model Challenge.rw_zo0018_01.row.prog w) A (call (.builtin "re.Pattern.search") [.ref 36, .str x t]) Q E s := by
  have hs : x.cps.size ≤ 1000 := hx
  refine call_slot slot_search ⟨_, X _ _ (k36 _), rfl⟩ entry_search (args_search _ _) ?_
  refine wpAny_bind ((Looks.of_peek X (target_peek w.params _ x t hx)).here ?_)
  obtain ⟨k, m', hk, e1, e2⟩ := rx_search_none hdd
  exact wpAny_bind (reRun_ok (b := false) e1 (by omega) e2 (wpAny_pure ⟨_, rfl, hQ⟩))

theorem search_some {x : Str} {t : Tok} {n : Nat} {Q : Value → Shared → Prop} (X : (hd.heap_39 w.params).In s.heap) (hx : x.length ≤ 1000)
    (hn : n + 2 = x.cps.size) (h1 : x.cps.getD n 0 = 46) (h2 : Sre.isDigit (x.cps.getD (n + 1) 0) = true)
    (hdd : ∀ i, i < n → i + 1 < x.cps.size → x.cps.getD i 0 = 46 → Sre.isDigit (x.cps.getD (i + 1) 0) = false)
    (hQ : ∀ a h', (∀ b o, s.heap.get? b = some o → h'.get? b = some o) → (∃ o, h'.get? a = some o ∧ o.cls = .type "re.Match") → Q (.ref a) { s with heap := h' }) :
    wpAny (model Challenge.rw_zo0018_01.row.prog w) A (call (.builtin "re.Pattern.search") [.ref 36, .str x t]) Q E s := by
  have hs : x.cps.size ≤ 1000 := hx
  refine call_slot slot_search ⟨_, X _ _ (k36 _), rfl⟩ entry_search (args_search _ _) ?_
  refine wpAny_bind ((Looks.of_peek X (target_peek w.params _ x t hx)).here ?_)
  obtain ⟨k, m', hk, e1, e2, e3, e4⟩ := rx_search_some hn h1 h2 hdd
  refine wpAny_bind (reRun_ok (b := true) e1 (by omega) e2 ?_)
  refine wpAny_bind ?_
  show wpAny _ _ (do newFields "re.Match" [.str x t, .ref 36, rawInt (0 : Nat), rawInt x.cps.size, rawInt m'.lastindex, ← newTuple (rawInt m'.start :: rawInt m'.handed :: [])]) _ _ _
  refine wpAny_bind (wpAny_newObj_type ?_)
  refine wpAny_newObj_type ?_
  refine wpAny_pure ⟨_, rfl, hQ _ _ (fun b o e => Heap.get?_push_of_some _ (Heap.get?_push_of_some _ e)) ⟨_, Heap.get?_push_size _ rfl, rfl⟩⟩

theorem truthy_match {a : Addr} {Q : Bool → Shared → Prop} (ho : ∃ o, s.heap.get? a = some o ∧ o.cls = .type "re.Match") (hQ : Q true s) :
    wpAny (model Challenge.rw_zo0018_01.row.prog w) A (truthy (.ref a)) Q E s := by
  have hT : s.TypeIs (.ref a) "re.Match" := ho
  unfold truthy
  refine wpAny_bind ?_
  refine wpAny_callSpecial?_none hT no_bool_match ?_
  refine wpAny_bind (wpAny_specialOf hT no_len_match ?_)
  exact wpAny_pure hQ
end
end Mine
end
section
open PySem PySem.W PyProof.Rows PySem.Calls PySem.Spec
set_option maxRecDepth 100000
namespace Mine

/-- where a call may be made -/
structure Cx (w : World) (A : Around) (h : Heap) : Prop where
  X : (hd.heap_39 w.params).In h
  T : ∃ (loose : List Str) (mean : ExcName → Option Value) (mg mb : Str → Option Value), Top topProg loose mean mg mb h
  B : ∃ (base : Heap) (outer : List Env), Below A base outer h
  hh : A.handled = none

noncomputable def Keep (h h' : Heap) : Prop := ∀ b o, h.get? b = some o → h'.get? b = some o

theorem Cx.push {w : World} {A : Around} {h h₀ base : Heap} {outer : List Env} {L : Addr} {m mg mb : Str → Option Value} {loose : List Str} {mean : ExcName → Option Value} {env : Env}
    (B : Below A base outer h₀) (F : Fr h₀ L h m) (X : (hd.heap_39 w.params).In h₀) (T : Top topProg loose mean mg mb h₀) (hh : A.handled = none) (hf : env.frame = some L) (hk : env.scope.kind = .function) : Cx w (A.deeper env) h :=
  ⟨X.keeps F.keep, ⟨_, _, _, _, T.keeps F.keep⟩, ⟨_, _, pushX B F hf hk⟩, hh⟩

section
variable {w : World} {A : Around} {s : Shared} {R : Result → Shared → Prop} {name qual : Str} {params : Arguments} {body : List Stmt} {scope : Scope} {cl : List (Str × Addr)} {dV kV doc pm cdv ct oc : Value} {an od : Option Addr} {osl : Array (Option Value)} {f : Addr} {args : Args} {binds : List (Str × Value)}

theorem enter0 (C : Cx w A s.heap)
    (ho : (hd.heap_39 w.params).lookup f = some ⟨oc, od, .func (fnOf name qual params body scope dV kV doc pm an cdv ct), osl⟩) (hcd : codeIn (hd.heap_39 w.params) cdv qual = true) (hroom : A.depth < recursionLimit)
    (hbind : BindsTo s (fnOf name qual params body scope dV kV doc pm an cdv ct) args binds) (hloc : ∀ y ∈ binds, scope.names.lookup y.1 = some .local)
    (h : ∀ L' h₁ base outer loose mean mg mb, Below A base outer s.heap → (hd.heap_39 w.params).In s.heap → Top topProg loose mean mg mb s.heap → Fr s.heap L' h₁ (fun y => binds.reverse.lookup y) → News s.heap L' h₁ [] →
      wpAny (model Challenge.rw_zo0018_01.row.prog w) (A.deeper (envOf qual scope L' f cdv)) (execs body (envOf qual scope L' f cdv))
        (fun fl s' => R (.ok (.ret (match fl with | .ret v => v | _ => .none))) s')
        (fun e s' => wpAny (model Challenge.rw_zo0018_01.row.prog w) (A.deeper (envOf qual scope L' f cdv)) (leaving (envOf qual scope L' f cdv) e) (fun _ s'' => R (.error e) s'') (fun e' s'' => R (.error e') s'') s')
        { s with heap := h₁, toks := s.toks + binds.length })
    (hco : scope.isCoroutine = false) (hgen : scope.isGenerator = false) (hk : scope.kind = .function)
    (hcell : ∀ x ∈ scope.names, x.2 ≠ .cell) : codeAny (model Challenge.rw_zo0018_01.row.prog w) A (.call (.ref f) args) R s := by
  obtain ⟨X, ⟨loose, mean, mg, mb, T⟩, ⟨base, outer, B⟩, hh⟩ := C
  refine codeAny_call_def (fd := fnX name qual params body scope [] dV kV doc pm an cdv ct) (body := body) (binds := binds) hroom (X _ _ ho) rfl T.nolimit (codeRec_of X hcd) rfl hbind hcell hloc (fun h₁ hns hk₁ => ?_) hco hgen hk
  exact h s.heap.objs.size h₁ base outer loose mean mg mb B X T ⟨hns, hk₁, Nat.le_refl _⟩ News.nil

theorem enterC (C : Cx w A s.heap)
    (ho : (hd.heap_39 w.params).lookup f = some ⟨oc, od, .func (fnX name qual params body scope [] dV kV doc pm an cdv ct), osl⟩) (hcd : codeIn (hd.heap_39 w.params) cdv qual = true) (hroom : A.depth < recursionLimit)
    (hbind : BindsTo s (fnX name qual params body scope [] dV kV doc pm an cdv ct) args binds) (hkind : (binds.all fun y => scope.names.lookup y.1 == some .local || scope.names.lookup y.1 == some .cell) = true)
    (hnd : ((cellsFrom 0 scope.names []).map (·.1)).Nodup)
    (h : ∀ L' h₁ tk cells base outer loose mean mg mb, Below A base outer s.heap → (hd.heap_39 w.params).In s.heap → Top topProg loose mean mg mb s.heap → Fr s.heap L' h₁ (bindL (envOfC qual scope L' f cdv).kindOf binds fun _ => none) → News s.heap L' h₁ cells →
      CellsAre (bindC (envOfC qual scope L' f cdv).kindOf binds fun _ => none) (cellsFrom (L' + 1) scope.names []) cells →
      wpAny (model Challenge.rw_zo0018_01.row.prog w) (A.deeper (envOfC qual scope L' f cdv)) (execs body (envOfC qual scope L' f cdv))
        (fun fl s' => R (.ok (.ret (match fl with | .ret v => v | _ => .none))) s')
        (fun e s' => wpAny (model Challenge.rw_zo0018_01.row.prog w) (A.deeper (envOfC qual scope L' f cdv)) (leaving (envOfC qual scope L' f cdv) e) (fun _ s'' => R (.error e) s'') (fun e' s'' => R (.error e') s'') s')
        { s with heap := h₁, toks := tk })
    (hco : scope.isCoroutine = false) (hgen : scope.isGenerator = false) (hk : scope.kind = .function) : codeAny (model Challenge.rw_zo0018_01.row.prog w) A (.call (.ref f) args) R s := by
  obtain ⟨X, ⟨loose, mean, mg, mb, T⟩, ⟨base, outer, B⟩, hh⟩ := C
  refine codeAny_call_function hroom (X _ _ ho) rfl hco hgen rfl (codeRec_of X hcd) (hbind _ _ _ _ ?_)
  refine wpAny_newFunctionEnv_cells hk (kindsX hkind _) fun env' he s' x => ?_
  subst he
  refine ⟨T.nolimit.keeps x.toInCall.keep, codeAny_func ?_⟩
  obtain ⟨h₁, tk, rfl, _⟩ := x.done
  have hk₁ := x.toInCall.keep
  obtain ⟨cells, NC, Y⟩ := Cl.news (h₀ := s.heap) (Nat.le_refl _) fun n c hm => ⟨x.cell n c (lookup_of_mem_nodup (cellsFrom_names scope.names 0 (s.heap.objs.size + 1) [] [] rfl ▸ hnd) hm), x.above n c hm⟩
  exact h s.heap.objs.size h₁ tk cells base outer loose mean mg mb B X T ⟨x.toInCall.ns, hk₁, Nat.le_refl _⟩ NC Y
end
theorem dlt {d n k : Nat} (h : d < n) (hk : n + 1 ≤ k) : d + 1 < k := by omega
theorem ult {d n k : Nat} (h : d < n) (hk : n + 3 ≤ k) : d + 3 < k := by omega
theorem grab {α : Type} {M : Model} {A : Around} {t : Sem α} {Q : α → Shared → Prop} {E : Value → Shared → Prop} {s : Shared} {h₀ : Heap} {L : Addr} {m : Str → Option Value} {news : List (Addr × Obj)}
    (F : Fr h₀ L s.heap m) (N : News h₀ L s.heap news) (h : Fr h₀ L s.heap m → News h₀ L s.heap news → wpAny M A t Q E s) : wpAny M A t Q E s := h F N
theorem range_size (n : Nat) : Builtin.Range.rangeSize 0 (n : Int) 1 = (n : Int) := by
  unfold Builtin.Range.rangeSize
  rw [if_pos (by omega)]
  by_cases h : (0 : Int) < n
  · rw [if_pos h, Int.ediv_one]; lia
  · rw [if_neg h]; omega
theorem range_small (n : Nat) (h : n ≤ 1000) : Builtin.Range.small 0 (n : Int) 1 = true := small_one (by lia) (by omega) (by omega) (by omega)
end Mine
end
section
open PySem PySem.W PyProof.Rows PySem.Calls
set_option maxRecDepth 100000
namespace Mine
/-- small words for addresses that are not alike: omega's proofs are a thousand times larger -/
theorem nS {a b : Nat} (h : a ≠ b) : a + 1 ≠ b + 1 := fun e => h (Nat.succ.inj e)
theorem nL {a b : Nat} (h : a ≤ b) : a ≠ b + 1 := Nat.ne_of_lt (Nat.lt_succ_of_le h)
theorem nR {a b : Nat} (h : a ≤ b) : b + 1 ≠ a := Nat.ne_of_gt (Nat.lt_succ_of_le h)
theorem leS {a b : Nat} (h : a ≤ b) : a ≤ b + 1 := Nat.le_succ_of_le h
theorem leD {a b d : Nat} (h : b < d) (ha : a ≤ b) : a ≤ d := Nat.le_trans ha (Nat.le_of_lt h)
theorem nD {a b d : Nat} (h : b < d) (ha : a ≤ b) : a ≠ d := Nat.ne_of_lt (Nat.lt_of_le_of_lt ha h)
theorem nE {a b d : Nat} (h : b < d) (ha : a ≤ b) : d ≠ a := Nat.ne_of_gt (Nat.lt_of_le_of_lt ha h)
theorem n6 {k a b : Nat} (h : 66 < b) (ha : b ≤ a) (hk : k ≤ 66) : k ≠ a := Nat.ne_of_lt (Nat.lt_of_le_of_lt hk (Nat.lt_of_lt_of_le h ha))
theorem n7 {k a b : Nat} (h : 66 < b) (ha : b ≤ a) (hk : k ≤ 66) : a ≠ k := Nat.ne_of_gt (Nat.lt_of_le_of_lt hk (Nat.lt_of_lt_of_le h ha))
end Mine
end
namespace Mine
section
open PySem PySem.W PyProof.Rows PySem.Calls
local macro_rules | `(tactic| k_ne) => `(tactic| (refine neN ?_; (try dsimp only); first
  | (with_reducible first | refine n6 (by assumption) ?_ (by decide) | refine n7 (by assumption) ?_ (by decide) | refine nD (by assumption) ?_ | refine nE (by assumption) ?_ | refine nD (And.left (by assumption)) ?_ | refine nE (And.left (by assumption)) ?_ | ((repeat refine nS ?_); first | refine nL ?_ | refine nR ?_)); (with_reducible repeat (first | exact Nat.le_refl _ | refine leS ?_ | refine leD (by assumption) ?_ | refine leD (And.left (by assumption)) ?_)); done
  | omega))
section
open PySem PySem.W PyProof.Rows PySem.Calls PySem.Spec
set_option maxRecDepth 100000
theorem ba_mro : mroOf (.type "bytearray") = pure [.type "bytearray", .type "object"] := by rw [mroOf_type]; kernel_rfl
theorem ba_lookup_new : typeLookup (.type "bytearray") "__new__" = pure (some (.builtin "bytearray.__new__")) := by rw [typeLookup_type, builtinLookup_eq_fast]; kernel_rfl
theorem ba_slot_init : Slot "bytearray" "__init__" "bytearray.__init__" :=
  .of (owner := "bytearray") (n := "__init__") (by rw [typeLookup_type, builtinLookup_eq_fast]; kernel_rfl) (by decide +kernel) (by decide +kernel) (by decide +kernel)
    (by first | exact .inl (by decide +kernel) | exact .inr (by decide +kernel)) (by rw [isSubtype_type]; kernel_rfl)
theorem ba_sub : isSubtype (.type "bytearray") (.type "bytearray") = pure true := by rw [isSubtype_type]; kernel_rfl
theorem ba_called : TypeCalled "bytearray" "bytearray.__new__" "bytearray.__init__" :=
  ⟨by decide +kernel, by decide +kernel, ⟨_, _, ba_mro⟩, madeBy_type ba_mro ba_lookup_new (by decide +kernel), by decide +kernel, ba_sub, ba_slot_init⟩
theorem ba_typeCall (a : Value) : checkTypeCall "bytearray" ⟨[a], []⟩ = pure () := by kernel_rfl
theorem ba_newCall (a : Value) : checkBuiltinCall "bytearray.__new__" ⟨[.type "bytearray", a], []⟩ = pure () := by kernel_rfl
theorem ba_plain_new : plainId "bytearray.__new__" = true := by decide +kernel
theorem ba_entry_new : entryFor table "bytearray.__new__" = some Builtin.«list.__new__» := entryFor_alias (id' := "list.__new__") (by kernel_rfl) (by decide +kernel) (by decide +kernel) (by kernel_rfl)
theorem ba_entry_init : entryFor table "bytearray.__init__" = some Builtin.«bytearray.__init__» := by first | exact entryFor_of_fast (by kernel_rfl) | exact entryFor_of_tree (by kernel_rfl)
set_option maxRecDepth 1000000 in
set_option maxHeartbeats 4000000 in
theorem ba_owner : ("bytearray.__new__".splitOn ".__new__").headD "" = "bytearray" := by simp +decide [String.splitOn, String.splitOnAux]
theorem ba_bind (v : Value) : Builtin.Bytes.bindOptional "bytearray.__init__" "bytearray" ["source", "encoding", "errors"] [v] [] = pure [some v, none, none] := by kernel_rfl
theorem ba_release : typeLookup (.type "bytearray") "__release_buffer__" = pure (some (.builtin "bytearray.__release_buffer__")) := by rw [typeLookup_type, builtinLookup_eq_fast]; kernel_rfl
theorem ba_int_index : typeLookup (.type "int") "__index__" = pure (some (.builtin "int.__index__")) := by rw [typeLookup_type, builtinLookup_eq_fast]; kernel_rfl
section
variable {prog : Program} {w : World} {A : Around} {E : Value → Shared → Prop} {s : Shared} {R : Result → Shared → Prop}
theorem ba_new (a : Value) {Q₁ : Value → Shared → Prop}
    (h : Q₁ (.ref s.heap.objs.size) { s with heap := s.heap.push { cls := .type "bytearray", data := .bytearray #[] } }) :
    codeAny (model prog w) A (.call (.builtin "bytearray.__new__") ⟨[.type "bytearray", a], []⟩) (wants Q₁ E) s := by
  refine codeAny_of_tree ?_
  show wpAny _ A.in1 (do checkBuiltinCall "bytearray.__new__" ⟨[.type "bytearray", a], []⟩; again (.builtin "bytearray.__new__" ⟨[.type "bytearray", a], []⟩)) _ _ s
  refine wpAny_bind (wpAny_of_eq (ba_newCall a) (wpAny_pure ⟨plainId_quiet ba_plain_new _, codeAny_builtin_stack ba_entry_new rfl fun p st => ?_⟩))
  rw [Around.under_plainId ba_plain_new _]
  have hsub := ba_sub
  have hown := ba_owner
  obtain ⟨hp, g, d, tk, os⟩ := s
  simp only [hown]
  wp_walk
  exact h
end
end
section
open PySem PySem.W PyProof.Rows PySem.Calls PySem.Spec
set_option maxRecDepth 100000
theorem ba_args (a b : Value) : argsOk "bytearray.__init__" ⟨[a, b], []⟩ := by
  unfold argsOk; rw [signature?_of (id := "bytearray.__init__") (n := "__tini__".toList) (o := "yarraetyb".toList) (by kernel_rfl) (by kernel_rfl : Manifest.owners.lookup _ = some Manifest.sig_bytearray)]; kernel_rfl
theorem ba_plain_init : plainId "bytearray.__init__" = true := by decide +kernel
theorem ba_ends : ("bytearray.__release_buffer__".endsWith ("." ++ "__release_buffer__")) = true := by decide +kernel
theorem ba_drop : ("bytearray.__release_buffer__".dropRight ("__release_buffer__".length + 1)) = "bytearray" := by decide +kernel
noncomputable def baObj (b : Array UInt8) : Obj := { cls := .type "bytearray", data := .bytearray b }
section
variable {prog : Program} {w : World} {A : Around} {E : Value → Shared → Prop} {s : Shared} {R : Result → Shared → Prop}
theorem bmG_false {α : Type} {M : Model} {c : Bool} {a b : Sem α} {Q : α → Shared → Prop} (hc : c = false) (h : wpG M A b Q E s) : wpG M A (if c = true then a else b) Q E s := by
  subst hc
  exact h
theorem bmG_true {α : Type} {M : Model} {c : Bool} {a b : Sem α} {Q : α → Shared → Prop} (hc : c = true) (h : wpG M A a Q E s) : wpG M A (if c = true then a else b) Q E s := by
  subst hc
  exact h
theorem wr_ok {S : Addr} {b : Array UInt8} {f : Array UInt8 → Array UInt8} {Q : Unit → Shared → Prop} (hS : s.heap.get? S = some (baObj b)) (hz : (f b).size ≤ sizeLine)
    (h : Q () { s with heap := s.heap.update S (Obj.mapBytearray f) }) : wpAny (model prog w) A (Builtin.Bytes.write (.ref S) f) Q E s := by
  show wpAny _ _ (updateBytearray S f) _ _ _
  unfold updateBytearray
  refine wpAny_bind (wpAny_load hS ?_)
  show wpAny _ _ (update S (Obj.mapBytearray f) >>= fun _ => lookBehind S) _ _ _
  refine wpAny_bind (wpAny_update hS ?_)
  have hS₂ : (s.heap.update S (Obj.mapBytearray f)).get? S = some (baObj (f b)) := Heap.get?_update_self (Obj.mapBytearray f) hS rfl
  refine wpAny_lookBehind hS₂ ?_ h
  show (if (f b).size > sizeLine then some "bytearray:memory" else none) = none
  rw [if_neg]
  omega
theorem ba_init {S : Addr} {n : Nat} {t : Tok} {Q : Fin → Shared → Prop} (hg : A.guards = some []) (hS : s.heap.get? S = some (baObj #[])) (hn : n ≤ 1000) (h0 : 0 < n)
    (h : Q (.done (.ret .none)) { s with heap := (s.heap.update S (Obj.mapBytearray fun _ => #[])).update S (Obj.mapBytearray fun _ => Array.replicate n 0) }) :
    wpG (model prog w) A (Builtin.«bytearray.__init__» ⟨[.ref S, .int (n : Int) t], []⟩) Q E s := by
  have hT : s.TypeIs (.ref S) "bytearray" := ⟨_, hS, rfl⟩
  unfold Builtin.«bytearray.__init__»
  refine wpG_after ?_
  unfold Builtin.Bytes.ownRelease
  refine wpAny_bind ?_
  unfold Builtin.Bytes.slotIsOwn
  refine wpAny_bind (wpAny_specialOf hT ba_release ?_)
  dsimp only
  rw [ba_ends]
  refine bm_if_false rfl ?_
  rw [ba_drop]
  refine wpAny_isInstance hT ba_sub ?_
  refine wpAny_pure ?_
  refine bmG_false rfl ?_
  refine wpG_after (wpAny_of_eq (ba_bind _) ?_)
  refine wpG_after (wpAny_of_eq (a := ()) rfl ?_)
  refine wpG_after (wpAny_of_eq (a := ()) rfl ?_)
  refine wpG_bind ?_
  unfold orM
  refine wpG_bind (wpG_exported hg ?_)
  refine wpG_any ?_
  show wpAny _ _ (Builtin.Bytes.exportsOf (.ref S) >>= _) _ _ _
  refine wpAny_bind ?_
  unfold Builtin.Bytes.exportsOf
  refine wpAny_bind (wpAny_load hS ?_)
  refine wpAny_pure (wpAny_pure ?_)
  refine bmG_false (by decide) ?_
  refine wpG_after (wr_ok hS (Nat.zero_le _) ?_)
  have hS₁ : (s.heap.update S (Obj.mapBytearray fun _ => #[])).get? S = some (baObj #[]) := Heap.get?_update_self (Obj.mapBytearray fun _ => #[]) hS rfl
  refine wpG_any ?_
  dsimp only
  have e1 : asStr? (.int (n : Int) t) = pure none := rfl
  rw [e1]
  simp only [pure_bind]
  simp only [Option.isSome_none, Bool.false_eq_true, if_false, pure_bind]
  have e0 : specialOf (.int (n : Int) t) (Str.ofString "__index__") = pure (some (.builtin "int.__index__")) := ba_int_index
  rw [e0]
  have e2 : (asIndex (.int (n : Int) t)).attempt = pure (.ok (n : Int)) := rfl
  have e3 : Builtin.Bytes.fitsIndex (n : Int) = true := by
    unfold Builtin.Bytes.fitsIndex
    rw [Bool.and_eq_true, decide_eq_true_eq, decide_eq_true_eq]
    constructor <;> omega
  have e4 : Builtin.Bytes.tooLong (n : Int).toNat = false := by
    unfold Builtin.Bytes.tooLong
    rw [decide_eq_false_iff_not]
    show ¬ ((n : Int).toNat > sizeLine)
    unfold sizeLine
    omega
  have e5 : ¬ ((n : Int) < 0) := by omega
  have e6 : ((n : Int) == 2 ^ 63 - 1) = false := by rw [beq_eq_false_iff_ne]; omega
  have e7 : ((n : Int) > 0) := by omega
  simp only [Option.isSome_some, if_true, e2, pure_bind, e3, Bool.not_true, Bool.false_eq_true, if_false, e5, e6, e4, e7]
  refine wpAny_bind (wpAny_rule ?_)
  refine wpAny_bind (wr_ok hS₁ (by rw [Array.size_replicate]; unfold sizeLine; omega) ?_)
  refine wpAny_bind (wpAny_pure ?_)
  exact wpAny_pure h
end
end
section
open PySem PySem.W PyProof.Rows PySem.Calls PySem.Spec
set_option maxRecDepth 100000
section
variable {prog : Program} {w : World} {A : Around} {E : Value → Shared → Prop} {s : Shared} {R : Result → Shared → Prop}
theorem codeG_builtin {id : String} {args : Args} {b : Builtin} (hb : entryFor table id = some b) (hn : notDec (.builtin id args) = true)
    (h : wpG (model prog w) (A.under (.builtin id args)) (b args)
      (fun fin s' => match fin with | .done f => R (.ok f) s' | .again c' => c'.quiet = true ∧ codeG (model prog w) A c' R s') (fun e s' => R (.error e) s') s) :
    codeG (model prog w) A (.builtin id args) R s := by
  refine codeG_tree hn ?_
  show wpG _ _ (match entryFor table id with | some b => b args | none => unsupported ((withoutEnding? id "#data").getD id)) _ _ s
  rw [hb]; exact h
theorem ba_call {n : Nat} {t : Tok} {Q : Value → Shared → Prop} (hg : A.guards = some []) (hn : n ≤ 1000) (h0 : 0 < n)
    (hQ : ∀ h', (∀ b o, s.heap.get? b = some o → h'.get? b = some o) → s.heap.objs.size < h'.objs.size → h'.get? s.heap.objs.size = some (baObj (Array.replicate n 0)) → Q (.ref s.heap.objs.size) { s with heap := h' }) :
    wpG (model prog w) A (call (.type "bytearray") [.int (n : Int) t]) Q E s := by
  have hmro := ba_mro
  have hmade := ba_called.made
  have hsub := ba_sub
  have h1 := ba_called.notType
  have h2 := ba_called.canCreate
  refine wpG_call (codeG_tree rfl ?_)
  show wpG _ _ (callAny (.type "bytearray") _) _ _ _
  refine wpG_pure ⟨Code.quiet_builtin _ (by decide +kernel), codeG_builtin F.entry_type_call (by kernel_rfl) ?_⟩
  rw [Around.under_plain (weight_type_call_type "bytearray" _ []) rfl]
  unfold Builtin.«type.__call__»
  simp only [h1, Bool.false_eq_true, if_false, h2, ba_typeCall, hmro, hmade, pure_bind, List.isEmpty_cons]
  refine wpG_bind (wpG_holding (wpG_any (wpAny_call (codeAny_mono (ba_new (Q₁ := fun v s' => v = .ref s.heap.objs.size ∧ s' = { s with heap := s.heap.push { cls := .type "bytearray", data := .bytearray #[] } }) (E := fun _ _ => False) _ ⟨rfl, rfl⟩) fun r s' hr => ?_))))
  cases r with
  | error e => exact hr.elim
  | ok fl =>
    cases fl with
    | ret obj =>
      obtain ⟨rfl, rfl⟩ := hr
      dsimp only
      have hS : (s.heap.push { cls := .type "bytearray", data := .bytearray #[] }).get? s.heap.objs.size = some (baObj #[]) := Heap.get?_push_size _ rfl
      have hT : ({ s with heap := s.heap.push { cls := .type "bytearray", data := .bytearray #[] } } : Shared).TypeIs (.ref s.heap.objs.size) "bytearray" := ⟨_, hS, rfl⟩
      refine wpG_after (wpAny_isInstance hT ba_sub ?_)
      refine bmG_false rfl ?_
      refine wpG_bind (wpG_holding ?_)
      simp only [callSpecial?]
      refine wpG_after (wpAny_specialOf hT ba_slot_init.lookup ?_)
      simp only [ba_slot_init.bind]
      refine wpG_holding ?_
      simp only [pure_bind]
      refine wpG_bind (wpG_call (codeG_tree rfl ?_))
      show wpG _ _ (callAny (.builtin "bytearray.__init__") ⟨[.ref s.heap.objs.size, .int (n : Int) t], []⟩) _ _ _
      simp only [callAny]
      refine wpG_after (ba_slot_init.check _ _ _ _ _ _ _ _ hT (ba_args _ _) ?_)
      refine wpG_pure ⟨plainId_quiet ba_plain_init _, codeG_builtin ba_entry_init (by kernel_rfl) ?_⟩
      rw [Around.under_plainId ba_plain_init _]
      refine ba_init hg hS hn h0 ?_
      dsimp only
      refine wpG_pure ?_
      dsimp only
      refine bmG_false rfl ?_
      refine wpG_pure ?_
      dsimp only
      have hS₁ : ((s.heap.push { cls := .type "bytearray", data := .bytearray #[] }).update s.heap.objs.size (Obj.mapBytearray fun _ => #[])).get? s.heap.objs.size = some (baObj #[]) := Heap.get?_update_self (Obj.mapBytearray fun _ => #[]) hS rfl
      have hS₂ : (((s.heap.push { cls := .type "bytearray", data := .bytearray #[] }).update s.heap.objs.size (Obj.mapBytearray fun _ => #[])).update s.heap.objs.size (Obj.mapBytearray fun _ => Array.replicate n 0)).get? s.heap.objs.size = some (baObj (Array.replicate n 0)) := Heap.get?_update_self (Obj.mapBytearray fun _ => Array.replicate n 0) hS₁ rfl
      refine hQ _ (fun b o e => ?_) (Heap.lt_size hS₂) hS₂
      have hb : b ≠ s.heap.objs.size := Nat.ne_of_lt (Heap.lt_size e)
      exact (Heap.get?_update_other _ _ (Ne.symm hb)).trans ((Heap.get?_update_other _ _ (Ne.symm hb)).trans (Heap.get?_push_of_some _ e))
    | _ => exact hr.elim
end
end
section
open PySem PySem.W PyProof.Rows PySem.Calls PySem.Spec
set_option maxRecDepth 100000
theorem ba_no_bytes : typeLookup (.type "bytearray") "__bytes__" = pure none := by rw [typeLookup_type, builtinLookup_eq_fast]; kernel_rfl
theorem ba_no_index : typeLookup (.type "bytearray") "__index__" = pure none := by rw [typeLookup_type, builtinLookup_eq_fast]; kernel_rfl
theorem ba_buffer : typeLookup (.type "bytearray") "__buffer__" = pure (some (.builtin "bytearray.__buffer__")) := by rw [typeLookup_type, builtinLookup_eq_fast]; kernel_rfl
theorem ba_buf_ends : ("bytearray.__buffer__".endsWith ("." ++ "__buffer__")) = true := by decide +kernel
theorem ba_buf_drop : ("bytearray.__buffer__".dropRight ("__buffer__".length + 1)) = "bytearray" := by decide +kernel
theorem ba_slot_setitem : Slot "bytearray" "__setitem__" "bytearray.__setitem__" :=
  .of (owner := "bytearray") (n := "__setitem__") (by rw [typeLookup_type, builtinLookup_eq_fast]; kernel_rfl) (by decide +kernel) (by decide +kernel) (by decide +kernel)
    (by first | exact .inl (by decide +kernel) | exact .inr (by decide +kernel)) (by rw [isSubtype_type]; kernel_rfl)
theorem ba_entry_setitem : entryFor table "bytearray.__setitem__" = some Builtin.«bytearray.__setitem__» := by first | exact entryFor_of_fast (by kernel_rfl) | exact entryFor_of_tree (by kernel_rfl)
theorem ba_args_setitem (a b c : Value) : argsOk "bytearray.__setitem__" ⟨[a, b, c], []⟩ := by
  unfold argsOk; rw [signature?_of (id := "bytearray.__setitem__") (n := "__metites__".toList) (o := "yarraetyb".toList) (by kernel_rfl) (by kernel_rfl : Manifest.owners.lookup _ = some Manifest.sig_bytearray)]; kernel_rfl
section
variable {prog : Program} {w : World} {A : Around} {E : Value → Shared → Prop} {s : Shared} {R : Result → Shared → Prop}
theorem ba_setitem {S : Addr} {b : Array UInt8} {k v : Int} {t t' : Tok} {Q : Unit → Shared → Prop} (hS : s.heap.get? S = some (baObj b)) (hz : b.size ≤ 1000) (h0 : 0 ≤ k) (hk : k < b.size) (hv : 0 ≤ v ∧ v < 256)
    (h : Q () { s with heap := s.heap.update S (Obj.mapBytearray (·.setIfInBounds k.toNat v.toNat.toUInt8)) }) :
    wpAny (model prog w) A (setItem (.ref S) (.int k t) (.int v t')) Q E s := by
  have hT : s.TypeIs (.ref S) "bytearray" := ⟨_, hS, rfl⟩
  unfold setItem
  refine wpAny_holding ?_
  refine wpAny_bind (wpAny_sequenceKey hT (by decide) ?_)
  refine wpAny_bind (wpAny_callSpecial?_slot (name := Str.ofString "__setitem__") hT ba_slot_setitem
    (wpAny_call_entry ba_slot_setitem hT ba_entry_setitem ?_ (ba_args_setitem _ _ _)))
  unfold Builtin.«bytearray.__setitem__»
  have e0 : specialOf (.int k t) (Str.ofString "__index__") = pure (some (.builtin "int.__index__")) := ba_int_index
  have e2 : asIndex (.int k t) = pure k := rfl
  have e3 : Builtin.Bytes.fitsIndex k = true := by
    unfold Builtin.Bytes.fitsIndex
    rw [Bool.and_eq_true, decide_eq_true_eq, decide_eq_true_eq]
    constructor <;> omega
  have e4 : Builtin.Bytes.byteValue (.int v t') = pure v.toNat.toUInt8 := by
    unfold Builtin.Bytes.byteValue
    have : asIndex (.int v t') = pure v := rfl
    rw [this]
    have hh : (decide (v < 0) || decide (v ≥ 256)) = false := by simp only [Bool.or_eq_false_iff, decide_eq_false_iff_not]; omega
    simp only [pure_bind, hh, Bool.false_eq_true, if_false]
  simp only [Builtin.Bytes.subscript?, e0, e2, e3, e4, pure_bind, List.isEmpty_nil, Bool.not_true, Bool.false_eq_true, if_false, Option.isNone_some]
  refine wpAny_bind ?_
  unfold Builtin.Bytes.payload Builtin.Bytes.payload?
  refine wpAny_bind (wpAny_bind (wpAny_load hS ?_))
  refine wpAny_pure (wpAny_pure ?_)
  have e5 : seqIndex? k b.size = some k.toNat := by
    unfold seqIndex?
    have hneg : ¬ (k < 0) := by omega
    simp [hneg, h0, hk]
  rw [e5]
  dsimp only
  refine wpAny_bind (wr_ok hS (by rw [Array.size_setIfInBounds]; unfold sizeLine; omega) ?_)
  first
    | exact wpAny_pure ⟨.none, rfl, wpAny_pure h⟩
    | exact wpAny_bind (wpAny_pure (wpAny_pure ⟨.none, rfl, wpAny_pure h⟩))
theorem ba_bytes {S : Addr} {b : Array UInt8} {Q : Value → Shared → Prop} (hS : s.heap.get? S = some (baObj b)) (hz : b.size ≤ 1000)
    (h : ∀ t k, Q (.bytes b t) { s with toks := k }) :
    wpAny (model prog w) A (call (.type "bytes") [.ref S]) Q E s := by
  have hT : s.TypeIs (.ref S) "bytearray" := ⟨_, hS, rfl⟩
  refine callType_codes (Q₁ := fun obj s₁ => s₁.TypeIs obj "bytes" ∧ Q obj s₁) F.bm_called (F.bm_typeCall _) F.entry_object_init ?_ fun obj s₁ h₁ =>
    ⟨h₁.1, F.args_object_init_2 obj _, object_init_meets F.bm_called.init.lookup F.bm_called.made (by decide) prog w A.in1 _ s₁ ⟨h₁.1, rfl, h₁.2⟩⟩
  refine codeAny_of_tree ?_
  show wpAny _ _ (do checkBuiltinCall "bytes.__new__" ⟨[.type "bytes", .ref S], []⟩; again (.builtin "bytes.__new__" ⟨[.type "bytes", .ref S], []⟩)) _ _ s
  refine wpAny_bind (wpAny_of_eq (F.bm_newCall _) (wpAny_pure ⟨plainId_quiet F.bm_plain _, codeAny_builtin F.bm_entry ?_⟩))
  rw [Around.under_plainId F.bm_plain _]
  unfold Builtin.«bytes.__new__»
  refine wpAny_bind (wpAny_of_eq (a := true) rfl ?_)
  refine bm_if_false rfl ?_
  refine wpAny_bind (wpAny_of_eq F.bm_sub ?_)
  refine bm_if_false rfl ?_
  refine wpAny_bind (wpAny_of_eq (F.bm_bind _) ?_)
  refine wpAny_bind (wpAny_of_eq (a := ()) rfl ?_)
  refine wpAny_bind (wpAny_of_eq (a := ()) rfl ?_)
  refine bm_if_false rfl ?_
  refine wpAny_bind (wpAny_specialOf hT ba_no_bytes ?_)
  refine wpAny_bind (wpAny_bind ?_)
  show wpAny _ _ (load S >>= _) _ _ _
  refine wpAny_bind (wpAny_load hS ?_)
  refine wpAny_pure (wpAny_pure ?_)
  refine bm_if_false rfl ?_
  refine wpAny_bind (wpAny_specialOf hT ba_no_index ?_)
  refine bm_if_true rfl ?_
  show wpAny _ _ (Builtin.Bytes.buffer? "bytes.__new__" (.ref S) true >>= _) _ _ _
  refine wpAny_bind ?_
  unfold Builtin.Bytes.buffer?
  refine wpAny_bind (wpAny_specialOf hT ba_buffer ?_)
  dsimp only
  refine wpAny_bind ?_
  unfold Builtin.Bytes.slotIsOwn
  refine wpAny_bind (wpAny_specialOf hT ba_buffer ?_)
  dsimp only
  rw [ba_buf_ends]
  refine bm_if_false rfl ?_
  rw [ba_buf_drop]
  refine wpAny_isInstance hT ba_sub ?_
  refine bm_if_false rfl ?_
  refine wpAny_bind (wpAny_specialOf hT ba_buffer ?_)
  refine wpAny_bind ?_
  unfold Builtin.Bytes.ownRelease
  refine wpAny_bind ?_
  unfold Builtin.Bytes.slotIsOwn
  refine wpAny_bind (wpAny_specialOf hT ba_release ?_)
  dsimp only
  rw [ba_ends]
  refine bm_if_false rfl ?_
  rw [ba_drop]
  refine wpAny_isInstance hT ba_sub ?_
  refine wpAny_pure ?_
  refine bm_if_false rfl ?_
  refine wpAny_bind ?_
  unfold Builtin.Bytes.payload Builtin.Bytes.payload?
  refine wpAny_bind (wpAny_bind (wpAny_load hS ?_))
  refine wpAny_pure (wpAny_pure (wpAny_pure ?_))
  dsimp only
  refine wpAny_bind (wpAny_rule ?_)
  refine wpAny_bind (wpAny_mkBytes ?_ (by unfold sizeLine; omega))
  show wpAny _ _ (if (Value.type "bytes" == Value.type "bytes") = true then _ else _) _ _ _
  refine bm_if_true (by decide) ?_
  first
    | exact wpAny_pure ⟨PySem.W.typeIs_bytes _ _ _, h _ _⟩
    | exact wpAny_bind (wpAny_pure (wpAny_pure ⟨PySem.W.typeIs_bytes _ _ _, h _ _⟩))
end
end
section
open PySem PySem.W PyProof.Rows PySem.Calls PySem.Spec
set_option maxRecDepth 100000
section
variable {prog : Program} {w : World} {A : Around} {E : Value → Shared → Prop} {s : Shared}
theorem codeG_call_def {R : Result → Shared → Prop} {a : Addr} {o : Obj} {fd : FuncData} {body : List Stmt} {args : Args} {binds : List (Str × Value)}
    (hroom : A.depth < recursionLimit) (ho : s.heap.get? a = some o) (hdata : o.data = .func fd) (hlim : s.heap.NoLimit) (hcd : s.heap.CodeRec fd.code fd.qualname)
    (hbody : fd.body = .stmts body) (hbind : BindsTo s fd args binds)
    (hcell : ∀ x ∈ fd.scope.names, x.2 ≠ .cell) (hloc : ∀ x ∈ binds, fd.scope.names.lookup x.1 = some .local)
    (h : ∀ h₀, h₀.Ns s.heap.objs.size (fun x => binds.reverse.lookup x) → (∀ b o, s.heap.get? b = some o → h₀.get? b = some o) →
      wpG (model prog w) (A.deeper (callEnv fd s.heap.objs.size a)) (execs body (callEnv fd s.heap.objs.size a)) (fun f s' => R (.ok (.ret (match f with | .ret v => v | _ => .none))) s')
        (fun e s' => wpAny (model prog w) (A.deeper (callEnv fd s.heap.objs.size a)) (leaving (callEnv fd s.heap.objs.size a) e) (fun _ s'' => R (.error e) s'') (fun e' s'' => R (.error e') s'') s')
        { s with heap := h₀, toks := s.toks + binds.length })
    (hco : fd.scope.isCoroutine = false := by rfl) (hgen : fd.scope.isGenerator = false := by rfl) (hk : fd.scope.kind = .function := by rfl) :
    codeG (model prog w) A (.call (.ref a) args) R s := by
  refine codeG_function hroom ho hdata hco hgen hbody hcd (hbind _ _ _ _ ?_)
  refine wpAny_newFunctionEnv hcell hloc (fun h₀ hns₀ hsb₀ => ⟨hlim.fresh _ hsb₀, codeG_func (h h₀ hns₀ fun b o e => ?_)⟩) hk
  exact hsb₀.extBut b o (Nat.ne_of_lt (Heap.lt_size e)) (Heap.get?_push_of_some _ e)
end
section
variable {w : World} {A : Around} {s : Shared} {R : Result → Shared → Prop} {name qual : Str} {params : Arguments} {body : List Stmt} {scope : Scope} {cl : List (Str × Addr)} {dV kV doc pm cdv ct oc : Value} {an od : Option Addr} {osl : Array (Option Value)} {f : Addr} {args : Args} {binds : List (Str × Value)}

theorem enterG (C : Cx w A s.heap)
    (ho : (hd.heap_39 w.params).lookup f = some ⟨oc, od, .func (fnOf name qual params body scope dV kV doc pm an cdv ct), osl⟩) (hcd : codeIn (hd.heap_39 w.params) cdv qual = true) (hroom : A.depth < recursionLimit)
    (hbind : BindsTo s (fnOf name qual params body scope dV kV doc pm an cdv ct) args binds) (hloc : ∀ y ∈ binds, scope.names.lookup y.1 = some .local)
    (h : ∀ L' h₁ base outer loose mean mg mb, Below A base outer s.heap → (hd.heap_39 w.params).In s.heap → Top topProg loose mean mg mb s.heap → Fr s.heap L' h₁ (fun y => binds.reverse.lookup y) → News s.heap L' h₁ [] →
      wpG (model Challenge.rw_zo0018_01.row.prog w) (A.deeper (envOf qual scope L' f cdv)) (execs body (envOf qual scope L' f cdv))
        (fun fl s' => R (.ok (.ret (match fl with | .ret v => v | _ => .none))) s')
        (fun e s' => wpAny (model Challenge.rw_zo0018_01.row.prog w) (A.deeper (envOf qual scope L' f cdv)) (leaving (envOf qual scope L' f cdv) e) (fun _ s'' => R (.error e) s'') (fun e' s'' => R (.error e') s'') s')
        { s with heap := h₁, toks := s.toks + binds.length })
    (hco : scope.isCoroutine = false) (hgen : scope.isGenerator = false) (hk : scope.kind = .function)
    (hcell : ∀ x ∈ scope.names, x.2 ≠ .cell) : codeG (model Challenge.rw_zo0018_01.row.prog w) A (.call (.ref f) args) R s := by
  obtain ⟨X, ⟨loose, mean, mg, mb, T⟩, ⟨base, outer, B⟩, hh⟩ := C
  refine codeG_call_def (fd := fnX name qual params body scope [] dV kV doc pm an cdv ct) (body := body) (binds := binds) hroom (X _ _ ho) rfl T.nolimit (codeRec_of X hcd) rfl hbind hcell hloc (fun h₁ hns hk₁ => ?_) hco hgen hk
  exact h s.heap.objs.size h₁ base outer loose mean mg mb B X T ⟨hns, hk₁, Nat.le_refl _⟩ News.nil

theorem enterGC (C : Cx w A s.heap)
    (ho : (hd.heap_39 w.params).lookup f = some ⟨oc, od, .func (fnX name qual params body scope [] dV kV doc pm an cdv ct), osl⟩) (hcd : codeIn (hd.heap_39 w.params) cdv qual = true) (hroom : A.depth < recursionLimit)
    (hbind : BindsTo s (fnX name qual params body scope [] dV kV doc pm an cdv ct) args binds) (hkind : (binds.all fun y => scope.names.lookup y.1 == some .local || scope.names.lookup y.1 == some .cell) = true)
    (hnd : ((cellsFrom 0 scope.names []).map (·.1)).Nodup)
    (h : ∀ L' h₁ tk cells base outer loose mean mg mb, Below A base outer s.heap → (hd.heap_39 w.params).In s.heap → Top topProg loose mean mg mb s.heap → Fr s.heap L' h₁ (bindL (envOfC qual scope L' f cdv).kindOf binds fun _ => none) → News s.heap L' h₁ cells →
      CellsAre (bindC (envOfC qual scope L' f cdv).kindOf binds fun _ => none) (cellsFrom (L' + 1) scope.names []) cells →
      wpG (model Challenge.rw_zo0018_01.row.prog w) (A.deeper (envOfC qual scope L' f cdv)) (execs body (envOfC qual scope L' f cdv))
        (fun fl s' => R (.ok (.ret (match fl with | .ret v => v | _ => .none))) s')
        (fun e s' => wpAny (model Challenge.rw_zo0018_01.row.prog w) (A.deeper (envOfC qual scope L' f cdv)) (leaving (envOfC qual scope L' f cdv) e) (fun _ s'' => R (.error e) s'') (fun e' s'' => R (.error e') s'') s')
        { s with heap := h₁, toks := tk })
    (hco : scope.isCoroutine = false) (hgen : scope.isGenerator = false) (hk : scope.kind = .function) : codeG (model Challenge.rw_zo0018_01.row.prog w) A (.call (.ref f) args) R s := by
  obtain ⟨X, ⟨loose, mean, mg, mb, T⟩, ⟨base, outer, B⟩, hh⟩ := C
  refine codeG_function hroom (X _ _ ho) rfl hco hgen rfl (codeRec_of X hcd) (hbind _ _ _ _ ?_)
  refine wpAny_newFunctionEnv_cells hk (kindsX hkind _) fun env' he s' x => ?_
  subst he
  refine ⟨T.nolimit.keeps x.toInCall.keep, codeG_func ?_⟩
  obtain ⟨h₁, tk, rfl, _⟩ := x.done
  have hk₁ := x.toInCall.keep
  obtain ⟨cells, NC, Y⟩ := Cl.news (h₀ := s.heap) (Nat.le_refl _) fun n c hm => ⟨x.cell n c (lookup_of_mem_nodup (cellsFrom_names scope.names 0 (s.heap.objs.size + 1) [] [] rfl ▸ hnd) hm), x.above n c hm⟩
  exact h s.heap.objs.size h₁ tk cells base outer loose mean mg mb B X T ⟨x.toInCall.ns, hk₁, Nat.le_refl _⟩ NC Y
end
end
section
open PySem PySem.W PyProof.Rows PySem.Calls PySem.Spec
set_option maxRecDepth 100000
section
variable {prog : Program} {w : World} {A : Around} {E : Value → Shared → Prop} {s : Shared} {env : Env} {h₀ : Heap} {target : Expr} {body : List Stmt} {Q : Flow → Shared → Prop}

/-- the end of a turn -/
noncomputable def TEnd (h₀ : Heap) (L : Addr) (J : (Str → Option Value) → List (Addr × Obj) → Prop) (own : List (Addr × Obj)) (adr : List Addr) (s₁ : Shared) (f : Flow) (s₂ : Shared) : Prop :=
  f = .next ∧ InvEndN h₀ L J own adr s₁ s₂

theorem tend {L : Addr} {J : (Str → Option Value) → List (Addr × Obj) → Prop} {own : List (Addr × Obj)} {adr : List Addr} {s₁ : Shared} {h' : Heap} {tk : Nat} {m' : Str → Option Value} (pre nx : List (Addr × Obj))
    (F : Fr h₀ L h' m') (N : News h₀ L h' (pre ++ (nx ++ own))) (ha : nx.map (·.1) = adr) (hJ : J m' nx) : TEnd h₀ L J own adr s₁ .next { s₁ with heap := h', toks := tk } :=
  ⟨rfl, h', tk, m', _, nx, rfl, F, N, fun p hp => List.mem_append_right _ (List.mem_append_left _ hp), fun p hp => List.mem_append_right _ (List.mem_append_right _ hp), ha, hJ⟩
theorem loop_T {I : Addr} {fp wr : List Addr} {n : Nat} {P : Nat → Value → Prop} {St : Nat → Heap → Prop} {m₀ : Str → Option Value} {news : List (Addr × Obj)} (J : Nat → (Str → Option Value) → List (Addr × Obj) → Prop)
    (hgo : ∀ i (s' : Shared) v (Q' : Unit → Shared → Prop), St i s'.heap → Q' () s' → wpAny (model prog w) A (letOwnedTupleGo target (.ref I) v) Q' E s')
    (W : Walks prog w A I fp wr n P St) (hLf : env.locals ∉ fp) (hwr : ∀ b ∈ wr, h₀.get? b = none) (hnw : ∀ p ∈ news, p.1 ∉ wr) (hfp : ∀ q ∈ news, q.1 ∉ fp) (hst : St 0 s.heap) (F : Fr h₀ env.locals s.heap m₀) (N : News h₀ env.locals s.heap news) (hj : J 0 m₀ news)
    (turn : ∀ i v m₁ news₁ s₁ own, i < n → P i v → news₁.map (·.1) = news.map (·.1) → OwnOff own (news.map (·.1)) → J i m₁ news₁ → Fr h₀ env.locals s₁.heap m₁ → News h₀ env.locals s₁.heap (news₁ ++ own) →
      wpAny (model prog w) A (assign target env v) (fun _ s₃ => wpAny (model prog w) A (execs body env) (TEnd h₀ env.locals (J (i + 1)) own (news.map (·.1)) s₁) E s₃) E s₁)
    (done : ∀ m₁ news₁ h tk, J n m₁ news₁ → Fr h₀ env.locals h m₁ → News h₀ env.locals h news₁ → Q .next { s with heap := h, toks := tk }) :
    LoopAtT prog w A h₀ env target body Q E (.ref I) s := by
  let J' : Nat → (Str → Option Value) → List (Addr × Obj) → Prop := fun i m₁ news₁ => news₁.map (·.1) = news.map (·.1) ∧ J i m₁ news₁
  refine ⟨I, fp, wr, n, P, St, m₀, news, J', rfl, W, hLf, hwr, hnw, hst, F, N, hgo, ⟨rfl, hj⟩, ?_, ?_⟩
  · rintro i v m₁ news₁ s₁ own hin hP ⟨hadr, hJ⟩ hoff hown _ _ _ F₁ N₁
    have hsep : OwnOff own (news.map (·.1)) := by
      intro p hp b hb e
      obtain ⟨q, hq, rfl⟩ := List.mem_map.mp hb
      exact hfp q hq (e ▸ hown p hp)
    have N₂ : News h₀ env.locals s₁.heap (news₁ ++ own) := fun p hp => N₁ p ((List.mem_append.mp hp).elim (fun h => List.mem_append.mpr (.inr h)) fun h => List.mem_append.mpr (.inl h))
    refine wpAny_mono (turn i v m₁ news₁ s₁ own hin hP hadr hsep hJ F₁ N₂) (fun _ s₃ h₃ => wpAny_mono h₃ (fun f s₂ p => ?_) fun _ _ e => e) fun _ _ e => e
    obtain ⟨hf, h', tk, m', news', nx, e, F', N', hn, ho, ha, hm⟩ := p
    refine ⟨hf, h', tk, m', nx, e, F', fun p hp => N' p ((List.mem_append.mp hp).elim (ho p) (hn p)), fun p hp hq => ?_, ha, hm⟩
    have h1 : p.1 ∈ nx.map (·.1) := List.mem_map.mpr ⟨p, hp, rfl⟩
    rw [ha, ← hadr] at h1
    obtain ⟨q, hq1, hq2⟩ := List.mem_map.mp h1
    exact hoff q hq1 (by rw [hq2]; exact hq)
  · rintro h' tk m' news' F' N' _ ⟨_, hJ⟩
    exact done m' news' h' tk hJ F' N'

theorem range_T {r : Addr} {a₀ b₀ : Int} {t₀ u₀ v₀ : Tok} {n : Nat} {m₀ : Str → Option Value} {news : List (Addr × Obj)} (J : Nat → (Str → Option Value) → List (Addr × Obj) → Prop)
    (hgo : ∀ I v, letOwnedTupleGo target (.ref I) v = pure ())
    (hh : A.handled = none) (hr : IsRange s.heap r a₀ b₀ 1 t₀ u₀ v₀) (hsmall : Builtin.Range.small a₀ b₀ 1 = true) (hn : Builtin.Range.rangeSize a₀ b₀ 1 = (n : Int)) (F : Fr h₀ env.locals s.heap m₀) (N : News h₀ env.locals s.heap news) (hj : J 0 m₀ news)
    (turn : ∀ i t m₁ news₁ s₁ own, i < n → news₁.map (·.1) = news.map (·.1) → OwnOff own (news.map (·.1)) → J i m₁ news₁ → Fr h₀ env.locals s₁.heap m₁ → News h₀ env.locals s₁.heap (news₁ ++ own) →
      wpAny (model prog w) A (assign target env (.int (a₀ + (i : Int)) t)) (fun _ s₃ => wpAny (model prog w) A (execs body env) (TEnd h₀ env.locals (J (i + 1)) own (news.map (·.1)) s₁) E s₃) E s₁)
    (done : ∀ m₁ news₁ h tk, J n m₁ news₁ → Fr h₀ env.locals h m₁ → News h₀ env.locals h news₁ → Q .next { s with heap := h, toks := tk }) :
    wpAny (model prog w) A (pyIter (.ref r)) (fun it s₂ => LoopAtT prog w A h₀ env target body Q E it s₂) E s := by
  refine wpAny_pyIter_range hr hsmall ?_
  have W : Walks prog w A s.heap.objs.size [s.heap.objs.size] [s.heap.objs.size] n (fun i v => i < n ∧ ∃ t, v = .int (a₀ + i * 1) t)
      (fun i h => IsRangeIter h s.heap.objs.size (a₀ + (i : Nat) * 1) ((n : Int) - (i : Nat)) 1) := (Walks.range hh _ a₀ 1 n).bound
  refine loop_T J (fun i s' v Q' _ hq => by rw [hgo]; exact wpAny_pure hq) W ?_ ?_ ?_ ?_ (by show IsRangeIter _ _ _ _ _; rw [hn]; simpa using Heap.get?_push_size _ rfl) (F.push _) (fun p hp => ⟨Heap.get?_push_of_some _ (N p hp).1, (N p hp).2⟩) hj ?_ ?_
  · intro hm
    exact absurd F.ns.lt ((List.mem_singleton.mp hm) ▸ Nat.lt_irrefl _)
  · intro b hb
    rw [List.mem_singleton.mp hb]
    exact next_is_new F
  · intro p hp hI
    exact absurd (Heap.lt_size (N p hp).1) ((List.mem_singleton.mp hI) ▸ Nat.lt_irrefl _)
  · intro p hp hI
    exact absurd (Heap.lt_size (N p hp).1) ((List.mem_singleton.mp hI) ▸ Nat.lt_irrefl _)
  · rintro i v m₁ nx s₁ own hi ⟨_, t, rfl⟩ ha ho hJ F₁ N₁
    rw [Int.mul_one]
    exact turn i t m₁ nx s₁ own hi ha ho hJ F₁ N₁
  · exact done
end

section
open LCg
variable {prog : Program} {w : World} {A : Around} {s : Shared} {h₀ : Heap} {L : Addr} {m : Str → Option Value} {env : Env} {elt : Expr} {x : Str} {scope : Scope} {cl : List (Str × Addr)} {S : List (Addr × Obj) → Prop} {P : Nat → Value → Prop} {Fin : List Value → List (Addr × Obj) → Prop}
/-- a comprehension of any length -/
theorem comp_ind {n : Nat} {news : List (Addr × Obj)} (J : Nat → List Value → Prop) (h0 : J 0 [])
    (step : ∀ k i ys, i + (k + 1) = n → J i ys → (∀ y, J (i + 1) (ys ++ [y]) → CompRest prog w A h₀ L m env elt x scope cl s S P Fin k (i + 1) (ys ++ [y]) news) → CompRest prog w A h₀ L m env elt x scope cl s S P Fin (k + 1) i ys news)
    (fin : ∀ ys, J n ys → Fin ys news) : CompRest prog w A h₀ L m env elt x scope cl s S P Fin n 0 [] news := by
  suffices H : ∀ k i ys, i + k = n → J i ys → CompRest prog w A h₀ L m env elt x scope cl s S P Fin k i ys news from H n 0 [] (Nat.zero_add n) h0
  intro k
  induction k with
  | zero => intro i ys e hJ; rw [Nat.add_zero] at e; subst e; exact CompRest.zero (fin ys hJ)
  | succ k ih => intro i ys e hJ; exact step k i ys e hJ fun y hy => ih (i + 1) (ys ++ [y]) (by lia) hy
end
end
section
open PySem PySem.W PyProof.Rows PySem.Calls PySem.Spec
set_option maxRecDepth 100000
section
variable {prog : Program} {w : World} {A : Around} {E : Value → Shared → Prop} {s : Shared} {env : Env} {h₀ : Heap} {target : Expr} {body : List Stmt} {Q : Flow → Shared → Prop}
/-- a for over a range of any step -/
theorem range_TS {r : Addr} {a₀ b₀ c₀ : Int} {t₀ u₀ v₀ : Tok} {n : Nat} {m₀ : Str → Option Value} {news : List (Addr × Obj)} (J : Nat → (Str → Option Value) → List (Addr × Obj) → Prop)
    (hgo : ∀ I v, letOwnedTupleGo target (.ref I) v = pure ())
    (hh : A.handled = none) (hr : IsRange s.heap r a₀ b₀ c₀ t₀ u₀ v₀) (hsmall : Builtin.Range.small a₀ b₀ c₀ = true) (hn : Builtin.Range.rangeSize a₀ b₀ c₀ = (n : Int)) (F : Fr h₀ env.locals s.heap m₀) (N : News h₀ env.locals s.heap news) (hj : J 0 m₀ news)
    (turn : ∀ i t m₁ news₁ s₁ own, i < n → news₁.map (·.1) = news.map (·.1) → OwnOff own (news.map (·.1)) → J i m₁ news₁ → Fr h₀ env.locals s₁.heap m₁ → News h₀ env.locals s₁.heap (news₁ ++ own) →
      wpAny (model prog w) A (assign target env (.int (a₀ + (i : Int) * c₀) t)) (fun _ s₃ => wpAny (model prog w) A (execs body env) (TEnd h₀ env.locals (J (i + 1)) own (news.map (·.1)) s₁) E s₃) E s₁)
    (done : ∀ m₁ news₁ h tk, J n m₁ news₁ → Fr h₀ env.locals h m₁ → News h₀ env.locals h news₁ → Q .next { s with heap := h, toks := tk }) :
    wpAny (model prog w) A (pyIter (.ref r)) (fun it s₂ => LoopAtT prog w A h₀ env target body Q E it s₂) E s := by
  refine wpAny_pyIter_range hr hsmall ?_
  have W : Walks prog w A s.heap.objs.size [s.heap.objs.size] [s.heap.objs.size] n (fun i v => i < n ∧ ∃ t, v = .int (a₀ + i * c₀) t)
      (fun i h => IsRangeIter h s.heap.objs.size (a₀ + (i : Nat) * c₀) ((n : Int) - (i : Nat)) c₀) := (Walks.range hh _ a₀ c₀ n).bound
  refine loop_T J (fun i s' v Q' _ hq => by rw [hgo]; exact wpAny_pure hq) W ?_ ?_ ?_ ?_ (by show IsRangeIter _ _ _ _ _; rw [hn]; simpa using Heap.get?_push_size _ rfl) (F.push _) (fun p hp => ⟨Heap.get?_push_of_some _ (N p hp).1, (N p hp).2⟩) hj ?_ ?_
  · intro hm
    exact absurd F.ns.lt ((List.mem_singleton.mp hm) ▸ Nat.lt_irrefl _)
  · intro b hb
    rw [List.mem_singleton.mp hb]
    exact next_is_new F
  · intro p hp hI
    exact absurd (Heap.lt_size (N p hp).1) ((List.mem_singleton.mp hI) ▸ Nat.lt_irrefl _)
  · intro p hp hI
    exact absurd (Heap.lt_size (N p hp).1) ((List.mem_singleton.mp hI) ▸ Nat.lt_irrefl _)
  · rintro i v m₁ nx s₁ own hi ⟨_, t, rfl⟩ ha ho hJ F₁ N₁
    exact turn i t m₁ nx s₁ own hi ha ho hJ F₁ N₁
  · exact done
end
end
section
open PySem PySem.W PyProof.Rows PySem.Calls PySem.Spec
set_option maxRecDepth 100000
section
variable {prog : Program} {w : World} {A : Around} {E : Value → Shared → Prop} {s : Shared} {env : Env}
theorem CallG {id : Str} {p : Pos} {args : List Expr} {pos : Pos} {Q : Value → Shared → Prop}
    (h : wpAny (model prog w) A (eval (.Name id p) env) (fun f s₁ => wpG (model prog w) A (callWith pos f [] (backTo pos (starEach args env)) []) Q E s₁) E s) :
    wpG (model prog w) A (eval (.Call (.Name id p) args [] pos) env) Q E s := by
  show wpG (model prog w) A (do callWith pos (← eval (.Name id p) env) [] (backTo pos (starEach args env)) (backToKw pos (keywordEach [] env))) Q E s
  exact wpG_after h
theorem evalArgs1 {f : Value} {x : Sem Value} {rest : List (Bool × Sem Value)} {Q : Args → Shared → Prop}
    (h : wpAny (model prog w) A (spliced ((false, x) :: rest)) (fun vs s₁ => Q ⟨vs, []⟩ s₁) E s) : wpAny (model prog w) A (evalArgs f true ((false, x) :: rest) []) Q E s :=
  evalArgs_kw (hall := rfl) (wpAny_mono h (fun vs s₁ h₁ => wpAny_pure h₁) fun _ _ x => x)
theorem callTypeG {pos : Pos} {T : String} {e : Expr} {rest : List Expr} {Q : Value → Shared → Prop} (hplain : (backTo pos (starEach (e :: rest) env)).any (·.1) = false)
    (h : wpAny (model prog w) A (spliced (backTo pos (starEach (e :: rest) env))) (fun vs s₁ => wpG (model prog w) A (call (.type T) vs) Q E s₁) E s)
    (he : starEach (e :: rest) env = (false, eval e env) :: starEach rest env := by rfl) :
    wpG (model prog w) A (callWith pos (.type T) [] (backTo pos (starEach (e :: rest) env)) []) Q E s := by
  refine callWithG_type hplain (wpG_any ?_)
  rw [he] at h ⊢
  exact evalArgs1 h
theorem callDefG {pos : Pos} {a : Addr} {o : Obj} {fd : FuncData} {e : Expr} {rest : List Expr} {Q : Value → Shared → Prop} (hd : o.data = .func fd)
    (h : wpAny (model prog w) A (spliced (backTo pos (starEach (e :: rest) env))) (fun vs s₁ => s₁.heap.get? a = some o ∧ wpG (model prog w) A (call (.ref a) vs) Q E s₁) E s)
    (he : starEach (e :: rest) env = (false, eval e env) :: starEach rest env := by rfl) :
    wpG (model prog w) A (callWith pos (.ref a) [] (backTo pos (starEach (e :: rest) env)) []) Q E s := by
  refine callWithG_function (o := o) (fd := fd) (wpG_any ?_)
  rw [he] at h ⊢
  exact evalArgs1 (wpAny_mono h (fun vs s₁ g => ⟨⟨g.1, hd⟩, g.2⟩) fun _ _ x => x)
theorem storeG {x : Str} {v : Value} {Q : Unit → Shared → Prop} (h : wpAny (model prog w) A (storeName env x v) Q E s) : wpG (model prog w) A (storeName env x v) Q E s := wpG_any h
end
section
variable {prog : Program} {w : World} {A : Around} {E : Value → Shared → Prop} {s : Shared} {h₀ : Heap} {L : Addr} {m : Str → Option Value} {news news' : List (Addr × Obj)}
theorem ba_callK {n : Nat} {t : Tok} {Q : Value → Shared → Prop} (hg : A.guards = some []) (hn : n ≤ 1000) (h0 : 0 < n) (F : Fr h₀ L s.heap m) (N : News h₀ L s.heap news)
    (hQ : ∀ h' S, Fr h₀ L h' m → News h₀ L h' ((S, baObj (Array.replicate n 0)) :: news) → Q (.ref S) { s with heap := h' }) :
    wpG (model prog w) A (call (.type "bytearray") [.int (n : Int) t]) Q E s := by
  refine ba_call hg hn h0 fun h' k _ g => hQ h' _ (F.keeps k) fun p hp => ?_
  rcases List.mem_cons.mp hp with rfl | hp
  · exact ⟨g, Ne.symm (Nat.ne_of_lt F.ns.lt), next_is_new F⟩
  · have z := N p hp
    exact ⟨k _ _ z.1, z.2⟩
theorem ba_setK {S : Addr} {b : Array UInt8} {k v : Int} {t t' : Tok} {Q : Unit → Shared → Prop} (F : Fr h₀ L s.heap m) (N : News h₀ L s.heap news) (U : Upd S (baObj b) (baObj (b.setIfInBounds k.toNat v.toNat.toUInt8)) news news')
    (hz : b.size ≤ 1000) (h0 : 0 ≤ k) (hk : k < b.size) (hv : 0 ≤ v ∧ v < 256)
    (h : ∀ h', Fr h₀ L h' m → News h₀ L h' news' → Q () { s with heap := h' }) :
    wpAny (model prog w) A (setItem (.ref S) (.int k t) (.int v t')) Q E s := by
  obtain ⟨pre, post, rfl, rfl, a, b'⟩ := U.split
  have z := N (S, baObj b) (List.mem_append.mpr (.inr (.head _)))
  refine ba_setitem z.1 hz h0 hk hv (h _ ?_ ?_)
  · exact F.change ⟨Heap.size_update .., fun c hc => Heap.get?_update_other _ _ (Ne.symm hc)⟩ z.2.1 z.2.2
  · exact news_set N a b' ⟨Heap.size_update .., fun c hc => Heap.get?_update_other _ _ (Ne.symm hc)⟩ (Heap.get?_update_self (Obj.mapBytearray (·.setIfInBounds k.toNat v.toNat.toUInt8)) z.1 rfl)
end
end
section
open PySem PySem.W PyProof.Rows PySem.Calls PySem.Spec
set_option maxRecDepth 100000
section
variable {prog : Program} {w : World} {A : Around} {E : Value → Shared → Prop} {s : Shared} {value slice : PySem.Expr} {b : Array UInt8} {t u : Tok} {i : Int} {Q : Value → Shared → Prop}
theorem byt_item (hz : b.size ≤ 1000) (h0 : 0 ≤ i) (h1 : i < b.size) (h : Q (.int ((b.getD i.toNat 0).toNat : Int) s.toks) { s with toks := s.toks + 1 })
    (hs : subscripted slice false (.bytes b t) (.int i u) = operate [.bytes b t, .int i u] (getItem (.bytes b t) (.int i u)) := by with_unfolding_all rfl)
    (ht : ∀ r, letTemporaryGo value (.bytes b t) r = pure () := by intro _; with_unfolding_all rfl) :
    wpAny (model prog w) A (subscriptTail value slice (.bytes b t) (.int i u)) Q E s := by
  have e : b = b.toList.toArray := by simp
  have g : wpAny (model prog w) A (getItem (.bytes b t) (.int i u)) Q E s := by
    have hl : b.toList.length = b.size := by simp
    have := getItem_bytes (prog := prog) (w := w) (A := A) (E := E) (s := s) (t := t) (u := u) (l := b.toList) (i := i) (Q := Q) (by omega) h0 (by omega) (by
      have e2 : b.toList.getD i.toNat 0 = b.getD i.toNat 0 := by
        rw [List.getD_eq_getElem?_getD, Array.getD_eq_getD_getElem?]; simp
      rw [e2]; exact h)
    rw [← e] at this
    exact this
  exact tail_of_ItemOn ⟨"bytes", _, FB.slot_bytes_getitem.lookup, typeIs_bytes _ _ _, g⟩ hs ht
end
theorem u8_lt (x : UInt8) : (0 : Int) ≤ (x.toNat : Int) ∧ (x.toNat : Int) < 256 := ⟨by omega, by have := x.toNat_lt; omega⟩
theorem u8_back (x : UInt8) : ((x.toNat : Int)).toNat.toUInt8 = x := by simp
end
section
open PySem PySem.W PyProof.Rows PySem.Calls
set_option maxRecDepth 100000
open LCg
section
variable {prog : Program} {w : World} {A : Around} {E : Value → Shared → Prop} {s : Shared} {R : Result → Shared → Prop}
/-- the loop of a list comprehension, its step spelt out -/
theorem compLoopG {elt target iter : Expr} {ifs : List Expr} {scope : Scope} {pos : Pos} {it acc : Value} {env : Env} (I : Nat → Shared → Prop)
    (turn : ∀ n s, I n s → wpAny (model prog w) A (pyNext it) (fun r s₁ => match r with
      | none => R (.ok .next) s₁
      | some v => wpAny (model prog w) A (letOwnedTupleGo target it v) (fun _ s₀ => wpAny (model prog w) A (assign target env v) (fun _ s₂ =>
          wpAny (model prog w) A (forIn ifs true fun c r => if r = true then do let ok ← isTrue c env (eval c env); pure (ForInStep.yield ok) else pure (ForInStep.yield r)) (fun ok s₃ =>
            if ok = true then wpAny (model prog w) A (eval elt env) (fun x s₄ =>
              wpAny (model prog w) A (call (.builtin "list.append") [acc, x]) (fun _ s₅ => ∃ m, m < n ∧ I m s₅) (notedBy (model prog w) A env fun e s' => R (.error e) s') s₄) (notedBy (model prog w) A env fun e s' => R (.error e) s') s₃
            else ∃ m, m < n ∧ I m s₃) (notedBy (model prog w) A env fun e s' => R (.error e) s') s₂) (notedBy (model prog w) A env fun e s' => R (.error e) s') s₀) (notedBy (model prog w) A env fun e s' => R (.error e) s') s₁) (notedBy (model prog w) A env fun e s' => R (.error e) s') s)
    (n : Nat) (h : I n s) :
    codeAny (model prog w) A (.compLoop (.ListComp elt [⟨target, iter, ifs, 0⟩] scope pos) 0 it acc env) R s := by
  refine codeAny_loop rfl I (fun n s hI => ?_) n h
  show wpAny _ A ((compTurn (.ListComp elt [⟨target, iter, ifs, 0⟩] scope pos) 0 it acc env).onRaise (fun x => do noteFrame x env; theTreesLotGoes x)) _ _ s
  refine wpAny_noted ?_
  rw [compTurn_list]
  refine wpAny_bind (wpAny_standAt (wpAny_bind (wpAny_mono (turn n s hI) (fun r s₁ h₁ => ?_) fun _ _ h' => h')))
  cases r with
  | none => exact wpAny_pure h₁
  | some v =>
    refine wpAny_bind (wpAny_mono h₁ (fun _ s₀ h₀ => ?_) fun _ _ h' => h')
    refine wpAny_bind (wpAny_mono h₀ (fun _ s₂ h₂ => wpAny_bind (wpAny_mono h₂ (fun ok s₃ h₃ => ?_) fun _ _ h' => h')) fun _ _ h' => h')
    cases ok with
    | false => exact wpAny_pure ⟨rfl, h₃⟩
    | true =>
      exact wpAny_bind (wpAny_bind (wpAny_mono h₃ (fun x s₄ h₄ => wpAny_bind (wpAny_mono h₄ (fun _ s₅ h₅ => wpAny_pure (wpAny_pure ⟨rfl, h₅⟩)) fun _ _ h' => h')) fun _ _ h' => h'))
end

section
variable {prog : Program} {w : World} {A : Around} {E : Value → Shared → Prop} {s : Shared} {h₀ : Heap} {L : Addr} {m : Str → Option Value} {env : Env}
/-- the end of an element: what stood stands, and a word of the value -/
noncomputable def KEnd (s : Shared) (Jn : Value → Prop) (y : Value) (s₃ : Shared) : Prop := ∃ h' tk', s₃ = { s with heap := h', toks := tk' } ∧ (∀ b o, s.heap.get? b = some o → h'.get? b = some o) ∧ Jn y

/-- how the source of a comprehension steps: the next item, and its names bound in the comprehension's own frame -/
structure Steps (prog : Program) (w : World) (A : Around) (target : Expr) (scope : Scope) (cl : List (Str × Addr)) (env : Env) (I : Addr) (fp wr : List Addr) (n : Nat) (B : Nat → (Str → Option Value) → Prop) (St : Nat → Heap → Prop) : Prop where
  sub : ∀ b ∈ wr, b ∈ fp
  mem : I ∈ fp
  frame : ∀ i h h', St i h → (∀ b ∈ fp, ∀ o, h.get? b = some o → h'.get? b = some o) → St i h'
  adv : ∀ C, C ∉ fp → ∀ i (s : Shared) (K Z : Shared → Prop) (E : Value → Shared → Prop) m', i < n → St i s.heap → s.heap.Ns C m' →
    (∀ h' tk m₂, B i m₂ → St (i + 1) h' → h'.Ns C m₂ → (∀ b o, b ≠ C → b ∉ wr → s.heap.get? b = some o → h'.get? b = some o) → K { s with heap := h', toks := tk }) →
    wpAny (model prog w) A (pyNext (.ref I)) (fun r s₁ => match r with
      | none => Z s₁
      | some v => wpAny (model prog w) A (letOwnedTupleGo target (.ref I) v) (fun _ s₀ => wpAny (model prog w) A (assign target (compEnvC scope cl C env) v) (fun _ s₂ => K s₂) E s₀) E s₁) E s
  done : ∀ (s : Shared) (Q : Option Value → Shared → Prop) (E : Value → Shared → Prop), St n s.heap →
    (∀ h' tk, (∀ b o, b ∉ wr → s.heap.get? b = some o → h'.get? b = some o) → Q none { s with heap := h', toks := tk }) → wpAny (model prog w) A (pyNext (.ref I)) Q E s
  self : ∀ i (s : Shared) (Q : Value → Shared → Prop) (E : Value → Shared → Prop), St i s.heap → Q (.ref I) s → wpAny (model prog w) A (pyIter (.ref I)) Q E s

theorem block_G {elt target iter : Expr} {ifs : List Expr} {scope : Scope} {cl : List (Str × Addr)} {pos : Pos} {s₂ : Shared} {I : Addr} {fp wr : List Addr} {n : Nat} {B : Nat → (Str → Option Value) → Prop} {St : Nat → Heap → Prop} {news : List (Addr × Obj)}
    {RR : Value → Addr → Result → Shared → Prop}
    (W : Steps prog w A target scope cl env I fp wr n B St) (hsz : n ≤ sizeLine) (hcell : ∀ y ∈ scope.names, y.2 ≠ .cell) (hkind : scope.kind = .function)
    (hst : St 0 s₂.heap) (hfp : ∀ b ∈ fp, b < s₂.heap.objs.size)
    (F : Fr h₀ L s₂.heap m) (N : News h₀ L s₂.heap news) (hLw : L ∉ wr) (hw₀ : ∀ b ∈ wr, h₀.get? b = none) (off : ∀ p ∈ news, p.1 ∉ wr)
    (J : Nat → List Value → Prop) (h0 : J 0 [])
    (step : ∀ i ys C D oC m₂ h tk (E' : Value → Shared → Prop), i < n → J i ys → B i m₂ → NsObj oC m₂ → Fr h₀ L h m → News h₀ L h ((C, oC) :: (D, lst ys) :: news) →
      wpAny (model prog w) A (forIn ifs true fun c r => if r = true then do let ok ← isTrue c (compEnvC scope cl C env) (eval c (compEnvC scope cl C env)); pure (ForInStep.yield ok) else pure (ForInStep.yield r)) (fun ok s₃ =>
        if ok = true then wpAny (model prog w) A (eval elt (compEnvC scope cl C env)) (KEnd { s₂ with heap := h, toks := tk } (fun y => J (i + 1) (ys ++ [y]))) E' s₃
        else KEnd { s₂ with heap := h, toks := tk } (fun _ => J (i + 1) ys) Value.none s₃) E' { s₂ with heap := h, toks := tk })
    (hRR : ∀ D C h tk m' ys, Fr h₀ L h m → News h₀ L h ((D, lst ys) :: news) → h.Ns C m' → h₀.get? C = none → C ≠ L → C ≠ D → (∀ p ∈ news, p.1 ≠ C ∧ @LT.lt Nat _ p.1 D) → J n ys → RR (.ref D) C (.ok .next) { s₂ with heap := h, toks := tk }) :
    wpAny (model prog w) A (newList []) (fun acc s₃ => wpAny (model prog w) A (newFunctionEnv scope env.globals cl [] env.qual none .none (some env)) (fun cenv s₄ =>
      codeAny (model prog w) A (.compStart (.ListComp elt [⟨target, iter, ifs, 0⟩] scope pos) 0 (.ref I) acc { cenv with scope := relabel scope env }) (RR acc cenv.locals) s₄) E s₃) E s₂ := by
  refine wpAny_newObj_type (wpAny_newFunctionEnv hcell (by intro y hy; simp at hy) (fun h₁ hns₁ hsb₁ => ?_) hkind)
  dsimp only at hns₁ hsb₁ ⊢
  generalize hH2 : s₂.heap.push { cls := .type "list", dict := none, data := .seq ([] : List Value).toArray } = H2 at hns₁ hsb₁ ⊢
  have hC : H2.objs.size = s₂.heap.objs.size + 1 := by rw [← hH2, Heap.size_push]
  have hDC : s₂.heap.objs.size ≠ H2.objs.size := by rw [hC]; exact Nat.ne_of_lt (Nat.lt_succ_self _)
  have below : ∀ b, b < s₂.heap.objs.size → b ≠ H2.objs.size ∧ b ≠ s₂.heap.objs.size := fun b hb => ⟨by rw [hC]; exact Nat.ne_of_lt (Nat.lt_succ_of_lt hb), Nat.ne_of_lt hb⟩
  have hDf : s₂.heap.objs.size ∉ fp := fun hm => Nat.lt_irrefl _ (hfp _ hm)
  have hCf : H2.objs.size ∉ fp := fun hm => by have := hfp _ hm; rw [hC] at this; exact Nat.lt_irrefl _ (Nat.lt_of_succ_lt this)
  have hDw : s₂.heap.objs.size ∉ wr := fun hm => hDf (W.sub _ hm)
  have hCw : H2.objs.size ∉ wr := fun hm => hCf (W.sub _ hm)
  have old : ∀ b o, s₂.heap.get? b = some o → h₁.get? b = some o := fun b o e => hsb₁.extBut b o (below b (Heap.lt_size e)).1 (Heap.get?_push_of_some _ (hH2 ▸ Heap.get?_push_of_some _ e))
  have hacc : h₁.get? s₂.heap.objs.size = some (lst []) := hsb₁.extBut _ _ hDC (Heap.get?_push_of_some _ (hH2 ▸ Heap.get?_push_size _ rfl))
  have hst₁ : St 0 h₁ := W.frame _ _ _ hst fun b _ o e => old b o e
  have fresh : ∀ a, s₂.heap.objs.size ≤ a → s₂.heap.get? a = none := fun a ha => by
    cases e : s₂.heap.get? a with
    | none => rfl
    | some o' => exact absurd (Heap.lt_size e) (Nat.not_lt.mpr ha)
  have fresh₀ : ∀ a, s₂.heap.objs.size ≤ a → h₀.get? a = none := fun a ha => by
    cases e : h₀.get? a with
    | none => rfl
    | some o' => have := F.keep a o' e; rw [fresh a ha] at this; cases this
  have hD₀ : h₀.get? s₂.heap.objs.size = none := fresh₀ _ (Nat.le_refl _)
  have hC₀ : h₀.get? H2.objs.size = none := fresh₀ _ (by rw [hC]; exact Nat.le_succ _)
  have hLlt : L < s₂.heap.objs.size := F.ns.lt
  have hDL : s₂.heap.objs.size ≠ L := Ne.symm (below L hLlt).2
  have hCL : H2.objs.size ≠ L := Ne.symm (below L hLlt).1
  have offC : ∀ p ∈ news, p.1 ≠ H2.objs.size ∧ @LT.lt Nat _ p.1 s₂.heap.objs.size := fun p hp => ⟨(below _ (Heap.lt_size (N p hp).1)).1, Heap.lt_size (N p hp).1⟩
  have loop : ∀ s₃ : Shared, s₃ = { s₂ with heap := h₁, toks := s₂.toks + ([] : List (Str × Value)).length } →
      codeAny (model prog w) A (.compLoop (.ListComp elt [⟨target, iter, ifs, 0⟩] scope pos) 0 (.ref I) (.ref s₂.heap.objs.size) (compEnvC scope cl H2.objs.size env))
        (RR (.ref s₂.heap.objs.size) H2.objs.size) s₃ := by
    rintro s₃ rfl
    refine compLoopG
      (fun k s' => ∃ h' tk i ys m', s' = { s₂ with heap := h', toks := tk } ∧ i ≤ n ∧ k = n + 1 - i ∧ ys.length ≤ i ∧ St i h' ∧ Fr h₀ L h' m ∧ h'.Ns H2.objs.size m' ∧ News h₀ L h' ((s₂.heap.objs.size, lst ys) :: news) ∧ J i ys) ?_ (n + 1)
      ⟨h₁, _, 0, [], _, rfl, Nat.zero_le _, rfl, Nat.le_refl _, hst₁, F.keeps old, hns₁, fun p hp => ?_, h0⟩
    · rintro k s' ⟨h', tk, i, ys, m', rfl, hi, rfl, hyl, hst', F', hn', N', hJ⟩
      by_cases hlt : i < n
      · refine W.adv _ hCf i _ _ _ _ _ hlt hst' hn' fun h₃ tk₃ m₂ hB hst₃ hn₃ hk₃ => ?_
        obtain ⟨oC, heC, hoC⟩ := ns_obj hn₃
        have keep3 : ∀ b o, h₀.get? b = some o → h₃.get? b = some o := fun b o e => hk₃ b o (fun q => by rw [q, hC₀] at e; cases e) (fun q => by rw [hw₀ b q] at e; cases e) (F'.keep b o e)
        have F₃ : Fr h₀ L h₃ m := ⟨F'.ns.at' fun o e => hk₃ _ o (Ne.symm hCL) hLw e, keep3, F'.above⟩
        have N₃ : News h₀ L h₃ ((s₂.heap.objs.size, lst ys) :: news) := fun p hp => by
          have z := N' p hp
          refine ⟨hk₃ _ _ ?_ ?_ z.1, z.2⟩
          · rcases List.mem_cons.mp hp with rfl | hp
            · exact hDC
            · exact (offC p hp).1
          · rcases List.mem_cons.mp hp with rfl | hp
            · exact hDw
            · exact off p hp
        have N₃' : News h₀ L h₃ ((H2.objs.size, oC) :: (s₂.heap.objs.size, lst ys) :: news) := fun p hp => by
          rcases List.mem_cons.mp hp with rfl | hp
          · exact ⟨heC, hCL, hC₀⟩
          · exact N₃ p hp
        refine wpAny_mono (step i ys _ _ oC m₂ h₃ _ _ hlt hJ hB hoC F₃ N₃') (fun ok s₄ h₄ => ?_) fun _ _ e => e
        cases ok with
        | false =>
          simp only [Bool.false_eq_true, if_false] at h₄ ⊢
          obtain ⟨h₄, tk₄, rfl, k₄, hJ₄⟩ := h₄
          exact ⟨n + 1 - (i + 1), by omega, h₄, tk₄, i + 1, ys, _, rfl, hlt, rfl, by omega, W.frame _ _ _ hst₃ fun b _ o e => k₄ b o e, F₃.keeps k₄, hn₃.at' fun o e => k₄ _ o e, N₃.grown k₄, hJ₄⟩
        | true =>
          simp only [if_true] at h₄ ⊢
          refine wpAny_mono h₄ (fun y s₅ h₅ => ?_) fun _ _ e => e
          obtain ⟨h₅, tk₅, rfl, k₅, hJ₅⟩ := h₅
          have N₅ := N₃.grown k₅
          refine append_at (hsz := by show ys.toArray.size ≤ sizeLine; rw [List.size_toArray]; exact Nat.le_trans hyl (Nat.le_trans (Nat.le_of_lt hlt) hsz)) (N₅ _ List.mem_cons_self).1 fun h₆ hs₆ hD₆ => ?_
          refine ⟨n + 1 - (i + 1), by omega, h₆, tk₅, i + 1, ys ++ [y], _, rfl, hlt, rfl, by rw [List.length_append, List.length_singleton]; omega,
            W.frame _ _ _ hst₃ fun b hb o e => hs₆.extBut b o (fun q => hDf (q ▸ hb)) (k₅ b o e), (F₃.keeps k₅).change hs₆ hDL hD₀, (hn₃.at' fun o e => k₅ _ o e).sameBut hs₆ (Ne.symm hDC), fun p hp => ?_, hJ₅⟩
          rcases List.mem_cons.mp hp with rfl | hp
          · exact ⟨hD₆.trans (congrArg some (lst_snoc ys y)), hDL, hD₀⟩
          · have z := N₅ p (List.mem_cons_of_mem _ hp)
            exact ⟨hs₆.extBut _ _ (Nat.ne_of_lt (offC p hp).2) z.1, z.2⟩
      · obtain rfl : i = n := Nat.le_antisymm hi (Nat.not_lt.mp hlt)
        refine W.done _ _ _ hst' fun h₃ tk₃ hk₃ => ?_
        refine hRR _ _ h₃ tk₃ m' ys ⟨F'.ns.at' fun o e => hk₃ _ o hLw e, fun b o e => hk₃ b o (fun q => by rw [hw₀ b q] at e; cases e) (F'.keep b o e), F'.above⟩ (fun p hp => ?_) (hn'.at' fun o e => hk₃ _ o hCw e) hC₀ hCL (Ne.symm hDC) offC hJ
        have z := N' p hp
        refine ⟨hk₃ _ _ ?_ z.1, z.2⟩
        rcases List.mem_cons.mp hp with rfl | hp
        · exact hDw
        · exact off p hp
    · rcases List.mem_cons.mp hp with rfl | hp
      · exact ⟨hacc, hDL, hD₀⟩
      · exact ⟨old _ _ (N p hp).1, (N p hp).2⟩
  exact codeAny_compStart_list (loop _ rfl) (W.self 0 _ _ _ hst₁ (loop _ rfl))
end
end
section
open PySem PySem.W PyProof.Rows PySem.Calls
set_option maxRecDepth 100000
open LCg
section
variable {prog : Program} {w : World} {A : Around} {E : Value → Shared → Prop} {s : Shared} {h₀ : Heap} {L : Addr} {m : Str → Option Value} {env : Env}
theorem Steps.name {x : Str} {px : Pos} {scope : Scope} {cl : List (Str × Addr)} {I : Addr} {fp wr : List Addr} {n : Nat} {P : Nat → Value → Prop} {St : Nat → Heap → Prop}
    (W : Walks prog w A I fp wr n P St) (hI : I ∈ fp) (hx : scope.names.lookup x = some .local) (hkind : scope.kind = .function) :
    Steps prog w A (.Name x px) scope cl env I fp wr n (fun i m₂ => ∃ v, P i v ∧ m₂ x = some v) St where
  sub := W.sub
  mem := hI
  frame := W.frame
  adv := fun C hC i s K Z E m' hi hst hn hK => by
    refine W.item i _ _ _ hi hst fun v h₂ tk₂ hPv hst₂ hk₂ => ?_
    refine wpAny_pure ?_
    refine wpAny_assign_Name (wpAny_storeName_local (lookup_relabel_local hx) (hn.at' fun o e => hk₂ _ o (fun q => hC (W.sub _ q)) e) (fun h₃ hn₃ hs₃ => ?_) (by simp [compEnvC, relabel, hkind]))
    exact hK h₃ _ _ ⟨v, hPv, by simp⟩ (W.frame _ _ _ hst₂ fun b hb o e => hs₃.extBut b o (fun q => hC (by have q' : b = C := q; exact q' ▸ hb)) e) hn₃ fun b o hb hw e => hs₃.extBut b o hb (hk₂ b o hw e)
  done := W.done
  self := W.self

theorem Steps.pair {x y : Str} {px py pt : Pos} {k : Nat} {scope : Scope} {cl : List (Str × Addr)} {I : Addr} {fp wr : List Addr} {n : Nat} {Pt : Nat → Array Value → Prop} {P : Nat → Value → Value → Prop} {St : Nat → Heap → Prop} {Mid : Nat → Addr → Heap → Prop}
    (W : WalksT prog w A I fp wr n Pt St Mid) (hP : ∀ i vals, Pt i vals → ∃ a b, vals = #[a, b] ∧ P i a b) (hh : A.handled = none) (hI : I ∈ fp)
    (hx : scope.names.lookup x = some .local) (hy : scope.names.lookup y = some .local) (hxy : x ≠ y) (hkind : scope.kind = .function) :
    Steps prog w A (.Tuple [.Name x px, .Name y py] k pt) scope cl env I fp wr n (fun i m₂ => ∃ a b, P i a b ∧ m₂ x = some a ∧ m₂ y = some b) St where
  sub := W.sub
  mem := hI
  frame := W.frame
  adv := fun C hC i s K Z E m' hi hst hn hK => by
    refine W.item i _ _ _ hi hst fun T vals h₂ tk₂ hPt hT hIs hMid hk₂ => ?_
    obtain ⟨a, b, rfl, hab⟩ := hP i vals hPt
    refine W.go _ _ _ i T _ _ _ hMid fun h₃ hst₃ hk₃ => ?_
    have hTw := W.apart i T _ hMid
    have hIs₃ : h₃.IsTuple T #[a, b] := by
      obtain ⟨o, e, r⟩ := hIs
      exact ⟨o, hk₃ _ _ hTw e, r⟩
    have hCw : C ∉ wr := fun q => hC (W.sub _ q)
    have hn₃ : h₃.Ns C m' := hn.at' fun o e => hk₃ _ o hCw (hk₂ _ o hCw e)
    refine wpAny_assign_Tuple hh hIs₃ rfl rfl fun h₄ hx₄ => ?_
    have hCl : C ≠ h₃.objs.size := Nat.ne_of_lt hn₃.lt
    have hn₄ : h₄.Ns C m' := hn₃.at' fun o e => hx₄ _ o hCl e
    show wpAny _ _ (assignInOrder [assign (.Name x px) _, assign (.Name y py) _] [a, b]) _ _ _
    refine wpAny_assignInOrder_more (wpAny_assign_Name (wpAny_storeName_local (lookup_relabel_local hx) hn₄ (fun h₅ hn₅ hs₅ => ?_) (by simp [compEnvC, relabel, hkind])))
    refine wpAny_assignInOrder_more (wpAny_assign_Name (wpAny_storeName_local (lookup_relabel_local hy) hn₅ (fun h₆ hn₆ hs₆ => ?_) (by simp [compEnvC, relabel, hkind])))
    refine wpAny_assignInOrder_none ?_
    have up : ∀ b o, b ≠ C → h₃.get? b = some o → h₆.get? b = some o := fun b o hb e => hs₆.extBut b o hb (hs₅.extBut b o hb (hx₄ b o (Nat.ne_of_lt (Heap.lt_size e)) e))
    refine hK h₆ _ _ ⟨a, b, hab, by simp [hxy], by simp⟩ (W.frame _ _ _ hst₃ fun b hb o e => up b o (fun q => hC (q ▸ hb)) e) hn₆ fun b o hb hw e => up b o hb (hk₃ b o hw (hk₂ b o hw e))
  done := W.done
  self := W.self

/-- the source of a comprehension, and what its turns and its end are to show -/
noncomputable def GSrc (prog : Program) (w : World) (A : Around) (E : Value → Shared → Prop) (h₀ : Heap) (L : Addr) (m : Str → Option Value) (env : Env) (elt target : Expr) (ifs : List Expr) (scope : Scope) (cl : List (Str × Addr)) (Fin : List (Addr × Obj) → List Value → Addr → Shared → Prop) (xv : Value) (s₁ : Shared) : Prop :=
  wpAny (model prog w) A (pyIter xv) (fun it s₂ => ∃ (I : Addr) (fp wr : List Addr) (n : Nat) (B : Nat → (Str → Option Value) → Prop) (St : Nat → Heap → Prop) (news : List (Addr × Obj)) (J : Nat → List Value → Prop),
    it = .ref I ∧ Steps prog w A target scope cl env I fp wr n B St ∧ n ≤ sizeLine ∧ St 0 s₂.heap ∧ (∀ b ∈ fp, b < s₂.heap.objs.size) ∧ Fr h₀ L s₂.heap m ∧ News h₀ L s₂.heap news ∧ L ∉ wr ∧ (∀ b ∈ wr, h₀.get? b = none) ∧ (∀ p ∈ news, p.1 ∉ wr) ∧ J 0 [] ∧
    (∀ i ys C D oC m₂ h tk (E' : Value → Shared → Prop), i < n → J i ys → B i m₂ → NsObj oC m₂ → Fr h₀ L h m → News h₀ L h ((C, oC) :: (D, lst ys) :: news) →
      wpAny (model prog w) A (forIn ifs true fun c r => if r = true then do let ok ← isTrue c (compEnvC scope cl C env) (eval c (compEnvC scope cl C env)); pure (ForInStep.yield ok) else pure (ForInStep.yield r)) (fun ok s₃ =>
        if ok = true then wpAny (model prog w) A (eval elt (compEnvC scope cl C env)) (KEnd { s₂ with heap := h, toks := tk } (fun y => J (i + 1) (ys ++ [y]))) E' s₃
        else KEnd { s₂ with heap := h, toks := tk } (fun _ => J (i + 1) ys) Value.none s₃) E' { s₂ with heap := h, toks := tk }) ∧
    (∀ D h tk ys, Fr h₀ L h m → News h₀ L h ((D, lst ys) :: news) → (∀ p ∈ news, @LT.lt Nat _ p.1 D) → J n ys → Fin news ys D { s₂ with heap := h, toks := tk })) E s₁

theorem ListComp_G {elt target iter : Expr} {ifs : List Expr} {scope : Scope} {cl : List (Str × Addr)} {pos : Pos} {Q : Value → Shared → Prop} (_F₀ : Fr h₀ L s.heap m)
    (hclos : closureFor scope env = pure cl) (hcell : ∀ y ∈ scope.names, y.2 ≠ .cell) (hkind : scope.kind = .function)
    (hnames : ∀ y ∈ scope.names, y.2 = .local → scope.names.lookup y.1 = some .local)
    (h : wpAny (model prog w) A (eval iter env) (GSrc prog w A E h₀ L m env elt target ifs scope cl (fun _ _ D s' => Q (.ref D) s')) E s)
    (hs : ∀ x, foldedSetIterable iter env x = pure x := by intro _; rfl) :
    wpAny (model prog w) A (eval (.ListComp elt [⟨target, iter, ifs, 0⟩] scope pos) env) Q E s := by
  rw [eval_ListComp]
  refine wpAny_comprehension_free (use := none) rfl hs hclos hkind hnames (wpAny_mono h (fun xv s₁ h₁ => wpAny_mono h₁ (fun it s₂ h₂ => ?_) fun _ _ e => e) fun _ _ e => e)
  obtain ⟨I, fp, wr, n, B, St, news, J, rfl, W, hsz, hst, hfp, F, N, hLw, hw₀, off, h0, step, fin⟩ := h₂
  refine block_G W hsz hcell hkind hst hfp F N hLw hw₀ off J h0 step ?_
  intro D C h tk m' ys F' N' hn hC₀ hCL hCD offC hJ
  refine ⟨m', hn, fun h'' hs'' => fin D h'' tk ys (F'.change hs'' hCL hC₀) (fun p hp => ?_) ?_ hJ⟩
  · refine ⟨hs''.extBut _ _ ?_ (N' p hp).1, (N' p hp).2⟩
    rcases List.mem_cons.mp hp with rfl | hp
    · exact Ne.symm hCD
    · exact (offC p hp).1
  · exact fun p hp => (offC p hp).2

theorem AssignComp_L {elt target iter : Expr} {ifs : List Expr} {y : Str} {py : Pos} {scope : Scope} {cl : List (Str × Addr)} {pos spos : Pos} {Q : Flow → Shared → Prop} (_F₀ : Fr h₀ L s.heap m) (hLe : env.locals = L)
    (hsw : swapsWith (.ListComp elt [⟨target, iter, ifs, 0⟩] scope pos) (some (.Name y py)) spos.line env = pure true)
    (hclos : closureFor scope env = pure cl) (hcell : ∀ z ∈ scope.names, z.2 ≠ .cell) (hkind : scope.kind = .function)
    (hnames : ∀ z ∈ scope.names, z.2 = .local → scope.names.lookup z.1 = some .local)
    (hy : env.kindOf y = some .local) (hp : (env.scope.kind == .class || (env.scope.kind == .module && env.locals != env.globals)) = false)
    (h : wpAny (model prog w) A (eval iter env) (GSrc prog w A E h₀ L m env elt target ifs scope cl (fun news ys D s' => ∀ h tk, Fr h₀ L h (fun z => if z = y then some (.ref D) else m z) → News h₀ L h ((D, lst ys) :: news) → Q .next { s' with heap := h, toks := tk })) E s)
    (hs : ∀ x, foldedSetIterable iter env x = pure x := by intro _; rfl) :
    wpAny (model prog w) A (exec (.Assign [.Name y py] (.ListComp elt [⟨target, iter, ifs, 0⟩] scope pos) spos) env) Q E s := by
  subst hLe
  rw [exec_Assign_Name_used _ _ _ _ hsw]
  refine wpAny_bind (wpAny_standAt (wpAny_bind ?_))
  show wpAny _ A (do let _ ← comprehension (.ListComp elt [⟨target, iter, ifs, 0⟩] scope pos) scope env _ (newList []) false (eval iter env) (some (assign (.Name y py) env))) _ _ s
  refine wpAny_bind (wpAny_mono (wpAny_comprehension_free (use := some (assign (.Name y py) env)) (Q := fun _ s' => Q .next s') rfl hs hclos hkind hnames
    (wpAny_mono h (fun xv s₁ h₁ => wpAny_mono h₁ (fun it s₂ h₂ => ?_) fun _ _ e => e) fun _ _ e => e)) (fun _ s' hq => wpAny_pure (wpAny_pure hq)) fun _ _ e => e)
  obtain ⟨I, fp, wr, n, B, St, news, J, rfl, W, hsz, hst, hfp, F, N, hLw, hw₀, off, h0, step, fin⟩ := h₂
  refine block_G W hsz hcell hkind hst hfp F N hLw hw₀ off J h0 step ?_
  intro D C h' tk m' ys F' N' hn hC₀ hCL hCD offC hJ
  show wpAny _ A (assign (.Name y py) env (.ref D)) _ _ _
  refine wpAny_assign_Name (wpAny_storeName_local hy F'.ns (fun h₂ hn₂ hs₂ => ?_) hp)
  have hL₀ : h₀.get? env.locals = none := Heap.get?_none_of_le F'.above
  have F₂ : Fr h₀ env.locals h₂ (fun z => if z = y then some (.ref D) else m z) := ⟨hn₂, fun b o e => hs₂.extBut b o (fun q => by rw [q, hL₀] at e; cases e) (F'.keep b o e), F'.above⟩
  refine ⟨m', hn.sameBut hs₂ hCL, fun h'' hs'' => fin D h' tk ys F' N' (fun p hp => (offC p hp).2) hJ h'' _ (F₂.change hs'' hCL hC₀) (fun p hp => ?_)⟩
  have z : h₂.get? p.1 = some p.2 := hs₂.extBut _ _ (N' p hp).2.1 (N' p hp).1
  refine ⟨hs''.extBut _ _ ?_ z, (N' p hp).2⟩
  rcases List.mem_cons.mp hp with rfl | hp
  · exact Ne.symm hCD
  · exact (offC p hp).1

end
open LCg
section
variable {prog : Program} {w : World} {A : Around} {E : Value → Shared → Prop} {s₁ : Shared} {h₀ : Heap} {L : Addr} {m : Str → Option Value} {env : Env}
theorem GSrc.list {elt : Expr} {ifs : List Expr} {x : Str} {px : Pos} {scope : Scope} {cl : List (Str × Addr)} {Fin : List (Addr × Obj) → List Value → Addr → Shared → Prop} {ax : Addr} {its : Array Value} {news : List (Addr × Obj)}
    (hx : scope.names.lookup x = some .local) (hkind : scope.kind = .function)
    (hh : A.handled = none) (F : Fr h₀ L s₁.heap m) (N : News h₀ L s₁.heap news) (hl : s₁.heap.IsList ax its) (hsz : its.size ≤ sizeLine) (J : Nat → List Value → Prop) (h0 : J 0 [])
    (step : ∀ g i ys v C D oC m₂ h tk (E' : Value → Shared → Prop), its[i]? = some v → J i ys → m₂ x = some v → NsObj oC m₂ → Fr h₀ L h m → News h₀ L h ((C, oC) :: (D, lst ys) :: news) →
      wpAny (model prog w) A (forIn ifs true fun c r => if r = true then do let ok ← isTrue c (compEnvC scope cl C env) (eval c (compEnvC scope cl C env)); pure (ForInStep.yield ok) else pure (ForInStep.yield r)) (fun ok s₃ =>
        if ok = true then wpAny (model prog w) A (eval elt (compEnvC scope cl C env)) (KEnd { { s₁ with heap := g } with heap := h, toks := tk } (fun y => J (i + 1) (ys ++ [y]))) E' s₃
        else KEnd { { s₁ with heap := g } with heap := h, toks := tk } (fun _ => J (i + 1) ys) Value.none s₃) E' { { s₁ with heap := g } with heap := h, toks := tk })
    (fin : ∀ g D h tk ys, Fr h₀ L h m → News h₀ L h ((D, lst ys) :: news) → (∀ p ∈ news, @LT.lt Nat _ p.1 D) → J its.size ys → Fin news ys D { { s₁ with heap := g } with heap := h, toks := tk }) :
    GSrc prog w A E h₀ L m env elt (.Name x px) ifs scope cl Fin (.ref ax) s₁ := by
  have hlt : ax < s₁.heap.objs.size := by obtain ⟨_, e, _⟩ := hl; exact Heap.lt_size e
  unfold GSrc
  refine wpAny_pyIter_list hl ?_
  have up : ∀ b o, s₁.heap.get? b = some o → (s₁.heap.push { cls := .type "list_iterator", data := .fields #[.ref ax, .int 0 0] }).get? b = some o := fun b o e => Heap.get?_push_of_some _ e
  refine ⟨_, _, _, _, _, _, news, J, rfl, Steps.name (Walks.list hh s₁.heap.objs.size ax (Nat.ne_of_lt hlt) its) (by simp) hx hkind, hsz, ⟨⟨_, Heap.get?_push_size _ rfl, rfl, rfl⟩, hl.push _⟩, fun b hb => ?_, F.keeps up, N.grown up, fun q => ?_, fun b hb => ?_, fun p hp q => ?_, h0, ?_, ?_⟩
  · show b < (s₁.heap.push _).objs.size
    rw [Heap.size_push]
    rcases List.mem_cons.mp hb with rfl | hb
    · exact Nat.lt_succ_self _
    · rw [List.mem_singleton.mp hb]; exact Nat.lt_succ_of_lt hlt
  · exact absurd F.ns.lt ((List.mem_singleton.mp q) ▸ Nat.lt_irrefl _)
  · rw [List.mem_singleton.mp hb]; exact next_is_new F
  · exact absurd (Heap.lt_size (N p hp).1) ((List.mem_singleton.mp q) ▸ Nat.lt_irrefl _)
  · intro i ys C D oC m₂ h tk E' hi hJ hB hC F' N'
    obtain ⟨v, hv, hm⟩ := hB
    exact step _ i ys v C D oC m₂ h tk E' hv hJ hm hC F' N'
  · intro D h tk ys F' N' o hJ
    exact fin _ D h tk ys F' N' o hJ

theorem GSrc.range {elt : Expr} {ifs : List Expr} {x : Str} {px : Pos} {scope : Scope} {cl : List (Str × Addr)} {Fin : List (Addr × Obj) → List Value → Addr → Shared → Prop} {r : Addr} {a b c : Int} {t u v : Tok} {n : Nat} {news : List (Addr × Obj)}
    (hx : scope.names.lookup x = some .local) (hkind : scope.kind = .function)
    (hh : A.handled = none) (F : Fr h₀ L s₁.heap m) (N : News h₀ L s₁.heap news) (hr : IsRange s₁.heap r a b c t u v) (hsm : Builtin.Range.small a b c = true) (hn : Builtin.Range.rangeSize a b c = (n : Int)) (hsz : n ≤ sizeLine) (J : Nat → List Value → Prop) (h0 : J 0 [])
    (step : ∀ g i ys t C D oC m₂ h tk (E' : Value → Shared → Prop), i < n → J i ys → m₂ x = some (.int (a + (i : Int) * c) t) → NsObj oC m₂ → Fr h₀ L h m → News h₀ L h ((C, oC) :: (D, lst ys) :: news) →
      wpAny (model prog w) A (forIn ifs true fun c r => if r = true then do let ok ← isTrue c (compEnvC scope cl C env) (eval c (compEnvC scope cl C env)); pure (ForInStep.yield ok) else pure (ForInStep.yield r)) (fun ok s₃ =>
        if ok = true then wpAny (model prog w) A (eval elt (compEnvC scope cl C env)) (KEnd { { s₁ with heap := g } with heap := h, toks := tk } (fun y => J (i + 1) (ys ++ [y]))) E' s₃
        else KEnd { { s₁ with heap := g } with heap := h, toks := tk } (fun _ => J (i + 1) ys) Value.none s₃) E' { { s₁ with heap := g } with heap := h, toks := tk })
    (fin : ∀ g D h tk ys, Fr h₀ L h m → News h₀ L h ((D, lst ys) :: news) → (∀ p ∈ news, @LT.lt Nat _ p.1 D) → J n ys → Fin news ys D { { s₁ with heap := g } with heap := h, toks := tk }) :
    GSrc prog w A E h₀ L m env elt (.Name x px) ifs scope cl Fin (.ref r) s₁ := by
  unfold GSrc
  refine wpAny_pyIter_range hr hsm ?_
  refine ⟨_, _, _, _, _, _, news, J, rfl, Steps.name (Walks.range hh s₁.heap.objs.size a c n).bound (by simp) hx hkind, hsz, by show IsRangeIter _ _ _ _ _; rw [hn]; simpa using Heap.get?_push_size _ rfl, fun b hb => ?_, F.keeps fun _ _ e => Heap.get?_push_of_some _ e, N.grown fun _ _ e => Heap.get?_push_of_some _ e, fun q => ?_, fun b hb => ?_, fun p hp q => ?_, h0, ?_, ?_⟩
  · rw [List.mem_singleton.mp hb]
    show s₁.heap.objs.size < (s₁.heap.push _).objs.size
    rw [Heap.size_push]; exact Nat.lt_succ_self _
  · exact absurd F.ns.lt ((List.mem_singleton.mp q) ▸ Nat.lt_irrefl _)
  · rw [List.mem_singleton.mp hb]; exact next_is_new F
  · exact absurd (Heap.lt_size (N p hp).1) ((List.mem_singleton.mp q) ▸ Nat.lt_irrefl _)
  · intro i ys C D oC m₂ h tk E' hi hJ hB hC F' N'
    obtain ⟨v, ⟨_, t', rfl⟩, hm⟩ := hB
    exact step _ i ys t' C D oC m₂ h tk E' hi hJ hm hC F' N'
  · intro D h tk ys F' N' o hJ
    exact fin _ D h tk ys F' N' o hJ
end
end
section
open PySem PySem.W PyProof.Rows PySem.Calls PySem.Spec
set_option maxRecDepth 100000
theorem lookup2 {y a c : Str} {u v : Value} : List.lookup y [(a, u), (c, v)] = if y = a then some u else if y = c then some v else none := by
  simp only [List.lookup]
  by_cases h : y = a
  · simp [h]
  · by_cases h' : y = c
    · subst h'; simp [beq_eq_false_iff_ne.mpr h, h]
    · simp [beq_eq_false_iff_ne.mpr h, beq_eq_false_iff_ne.mpr h', h, h']
theorem range_sizeS {b : Array UInt8} {n k : Nat} (hb : b.size = n * k) (hk : 0 < k) : Builtin.Range.rangeSize 0 (b.size : Int) (k : Int) = (n : Int) := by
  unfold Builtin.Range.rangeSize
  rw [if_pos (by omega)]
  by_cases h : n = 0
  · subst h; rw [hb]; simp
  · have h1 : 0 < n * k := Nat.mul_pos (Nat.pos_of_ne_zero h) hk
    rw [if_pos (by omega), hb]
    have e : (((n * k : Nat) : Int) - 0 - 1) / (k : Int) = (n : Int) - 1 := by
      rw [show (((n * k : Nat) : Int) - 0 - 1) = ((k : Int) - 1) + ((n : Int) - 1) * (k : Int) from by push_cast; rw [Int.sub_mul]; lia]
      rw [Int.add_mul_ediv_right _ _ (by omega), Int.ediv_eq_zero_of_lt (by omega) (by omega)]; lia
    rw [e]; lia
theorem range_smallS {b : Array UInt8} {n k : Nat} (hb : b.size = n * k) (hk : 0 < k) (hk8 : k ≤ 8) (hs : b.size ≤ 1000) : Builtin.Range.small 0 (b.size : Int) (k : Int) = true := by
  have hn : n ≤ n * k := Nat.le_mul_of_pos_right _ hk
  unfold Builtin.Range.small
  rw [range_sizeS hb hk]
  simp only [Builtin.Range.rangeFitsLong, Bool.and_eq_true, Bool.or_eq_true, decide_eq_true_eq, beq_iff_eq]
  rw [if_pos (by omega)]
  simp only [decide_eq_true_eq, Bool.and_eq_true]
  omega
section
variable {prog : Program} {w : World} {A : Around} {E : Value → Shared → Prop} {s : Shared} {value slice : PySem.Expr} {b : Array UInt8} {t tl tu : Tok} {h₀ : Heap} {L : Addr} {m : Str → Option Value} {news : List (Addr × Obj)} {x y : Int} {Q : Value → Shared → Prop}
theorem picked_cut (b : Array UInt8) {lo hi : Nat} (h1 : lo ≤ hi) (h2 : hi ≤ b.size) : KBy.picked b (some (lo : Int)) (some (hi : Int)) = b.extract lo hi := by
  rw [KBc.picked_eq]
  simp only [Option.elim, clipAt_nat]
  rw [Nat.min_eq_left (Nat.le_trans h1 h2), Nat.min_eq_left h2]
  apply Array.ext'
  simp [Array.toList_extract]
theorem byt_cut {lo hi : Nat} (hF : Fr h₀ L s.heap m) (hN : News h₀ L s.heap news) (hx : x = (lo : Int)) (hy : y = (hi : Int)) (h1 : lo ≤ hi) (h2 : hi ≤ b.size) (hz : b.size ≤ 1000)
    (h : ∀ h' t' k, Fr h₀ L h' m → News h₀ L h' news → (∀ b o, s.heap.get? b = some o → h'.get? b = some o) → Q (.bytes (b.extract lo hi) t') { s with heap := h', toks := k })
    (hs : subscripted slice false (.bytes b t) (.ref s.heap.objs.size) = operate [.ref s.heap.objs.size, .bytes b t] (getItem (.bytes b t) (.ref s.heap.objs.size)) := by with_unfolding_all rfl)
    (ht : ∀ r, letTemporaryGo value (.bytes b t) r = pure () := by intro _; with_unfolding_all rfl) :
    wpAny (model prog w) A (subscriptTail value slice (.bytes b t) (.ref s.heap.objs.size)) Q E { s with heap := s.heap.push { cls := .type "slice", data := .fields #[.int x tl, .int y tu, .none] } } := by
  subst hx hy
  refine tail_of_ItemOn ⟨"bytes", _, FB.slot_bytes_getitem.lookup, typeIs_bytes _ _ _, getItem_meets (typeIs_bytes _ _ _) (by decide) FB.slot_bytes_getitem FB.entry_bytes_getitem (FB.args_bytes_getitem_2 _ _) (KBc.meets_slice2 b t _ (.int _ _) (.int _ _))
    ⟨Heap.IsSliceOf.new _ _ _ _, Nat.le_trans (KBc.size_picked_le b _ _) (by unfold sizeLine; omega), fun t' k => ?_⟩⟩ hs ht
  rw [picked_cut b h1 h2]
  exact h _ _ _ (hF.push _) (News.pushKeep hN _) (fun _ _ e => Heap.get?_push_of_some _ e)
end
end
section
open PySem PySem.W PyProof.Rows PySem.Calls PySem.Spec
set_option maxRecDepth 100000
open LCg
section
variable {prog : Program} {w : World} {A : Around} {E : Value → Shared → Prop} {s : Shared} {env : Env} {h₀ : Heap} {target : Expr} {body : List Stmt} {Q : Flow → Shared → Prop}
/-- a for over a list that the turns leave alone -/
theorem list_T {ax : Addr} {its : Array Value} {m₀ : Str → Option Value} {news : List (Addr × Obj)} (J : Nat → (Str → Option Value) → List (Addr × Obj) → Prop)
    (hgo : ∀ I v, letOwnedTupleGo target (.ref I) v = pure ())
    (hh : A.handled = none) (hl : s.heap.IsList ax its) (hax : ∀ p ∈ news, p.1 ≠ ax) (hL : env.locals ≠ ax) (F : Fr h₀ env.locals s.heap m₀) (N : News h₀ env.locals s.heap news) (hj : J 0 m₀ news)
    (turn : ∀ i v m₁ news₁ s₁ own, its[i]? = some v → news₁.map (·.1) = news.map (·.1) → OwnOff own (news.map (·.1)) → J i m₁ news₁ → Fr h₀ env.locals s₁.heap m₁ → News h₀ env.locals s₁.heap (news₁ ++ own) →
      wpAny (model prog w) A (assign target env v) (fun _ s₃ => wpAny (model prog w) A (execs body env) (TEnd h₀ env.locals (J (i + 1)) own (news.map (·.1)) s₁) E s₃) E s₁)
    (done : ∀ m₁ news₁ h tk, J its.size m₁ news₁ → Fr h₀ env.locals h m₁ → News h₀ env.locals h news₁ → Q .next { s with heap := h, toks := tk }) :
    wpAny (model prog w) A (pyIter (.ref ax)) (fun it s₂ => LoopAtT prog w A h₀ env target body Q E it s₂) E s := by
  have hlt : ax < s.heap.objs.size := by obtain ⟨_, e, _⟩ := hl; exact Heap.lt_size e
  refine wpAny_pyIter_list hl ?_
  refine loop_T J (fun i s' v Q' _ hq => by rw [hgo]; exact wpAny_pure hq) (Walks.list hh s.heap.objs.size ax (Nat.ne_of_lt hlt) its) ?_ ?_ ?_ ?_ ⟨⟨_, Heap.get?_push_size _ rfl, rfl, rfl⟩, hl.push _⟩ (F.push _) (fun p hp => ⟨Heap.get?_push_of_some _ (N p hp).1, (N p hp).2⟩) hj ?_ ?_
  · intro hm
    rcases List.mem_cons.mp hm with e | e
    · exact absurd F.ns.lt (e ▸ Nat.lt_irrefl _)
    · exact hL (List.mem_singleton.mp e)
  · intro b hb
    rw [List.mem_singleton.mp hb]
    exact next_is_new F
  · intro p hp hI
    exact absurd (Heap.lt_size (N p hp).1) ((List.mem_singleton.mp hI) ▸ Nat.lt_irrefl _)
  · intro p hp hI
    rcases List.mem_cons.mp hI with e | e
    · exact absurd (Heap.lt_size (N p hp).1) (e ▸ Nat.lt_irrefl _)
    · exact hax p hp (List.mem_singleton.mp e)
  · intro i v m₁ nx s₁ own hi hv ha ho hJ F₁ N₁
    exact turn i v m₁ nx s₁ own hv ha ho hJ F₁ N₁
  · exact done
end
section
variable {prog : Program} {w : World} {A : Around} {E : Value → Shared → Prop} {s₁ : Shared} {h₀ : Heap} {L : Addr} {m : Str → Option Value} {env : Env}
theorem GSrc.bytes {elt : Expr} {ifs : List Expr} {x : Str} {px : Pos} {scope : Scope} {cl : List (Str × Addr)} {Fin : List (Addr × Obj) → List Value → Addr → Shared → Prop} {b : Array UInt8} {t : Tok} {news : List (Addr × Obj)}
    (hx : scope.names.lookup x = some .local) (hkind : scope.kind = .function)
    (hh : A.handled = none) (F : Fr h₀ L s₁.heap m) (N : News h₀ L s₁.heap news) (hsz : b.size ≤ sizeLine) (J : Nat → List Value → Prop) (h0 : J 0 [])
    (step : ∀ g i ys c u C D oC m₂ h tk (E' : Value → Shared → Prop), b[i]? = some c → J i ys → m₂ x = some (.int (c.toNat : Int) u) → NsObj oC m₂ → Fr h₀ L h m → News h₀ L h ((C, oC) :: (D, lst ys) :: news) →
      wpAny (model prog w) A (forIn ifs true fun c r => if r = true then do let ok ← isTrue c (compEnvC scope cl C env) (eval c (compEnvC scope cl C env)); pure (ForInStep.yield ok) else pure (ForInStep.yield r)) (fun ok s₃ =>
        if ok = true then wpAny (model prog w) A (eval elt (compEnvC scope cl C env)) (KEnd { { s₁ with heap := g } with heap := h, toks := tk } (fun y => J (i + 1) (ys ++ [y]))) E' s₃
        else KEnd { { s₁ with heap := g } with heap := h, toks := tk } (fun _ => J (i + 1) ys) Value.none s₃) E' { { s₁ with heap := g } with heap := h, toks := tk })
    (fin : ∀ g D h tk ys, Fr h₀ L h m → News h₀ L h ((D, lst ys) :: news) → (∀ p ∈ news, @LT.lt Nat _ p.1 D) → J b.size ys → Fin news ys D { { s₁ with heap := g } with heap := h, toks := tk }) :
    GSrc prog w A E h₀ L m env elt (.Name x px) ifs scope cl Fin (.bytes b t) s₁ := by
  unfold GSrc
  refine KBw.pyIter_bytes ?_
  have up : ∀ b' o, s₁.heap.get? b' = some o → (s₁.heap.push { cls := .type "bytes_iterator", data := .fields #[.bytes b t, .int 0 0] }).get? b' = some o := fun b o e => Heap.get?_push_of_some _ e
  refine ⟨_, _, _, _, _, _, news, J, rfl, Steps.name (KBw.walks hh s₁.heap.objs.size b t) (by simp) hx hkind, hsz, ⟨_, Heap.get?_push_size _ rfl, rfl, rfl⟩, fun b hb => ?_, F.keeps up, N.grown up, fun q => ?_, fun b hb => ?_, fun p hp q => ?_, h0, ?_, ?_⟩
  · show b < (s₁.heap.push _).objs.size
    rw [Heap.size_push, List.mem_singleton.mp hb]
    exact Nat.lt_succ_self _
  · exact absurd F.ns.lt ((List.mem_singleton.mp q) ▸ Nat.lt_irrefl _)
  · rw [List.mem_singleton.mp hb]; exact next_is_new F
  · exact absurd (Heap.lt_size (N p hp).1) ((List.mem_singleton.mp q) ▸ Nat.lt_irrefl _)
  · intro i ys C D oC m₂ h tk E' hi hJ hB hC F' N'
    obtain ⟨v, ⟨c, u, hc, rfl⟩, hm⟩ := hB
    exact step _ i ys c u C D oC m₂ h tk E' hc hJ hm hC F' N'
  · intro D h tk ys F' N' o hJ
    exact fin _ D h tk ys F' N' o hJ
end
section
variable {h₀ : Heap} {L : Addr} {m : Str → Option Value} {h h' : Heap} {news : List (Addr × Obj)} {l : Addr} {o : Obj}
/-- a made object that a contract hands over -/
theorem News.made (F : Fr h₀ L h m) (N : News h₀ L h' news) (hn : h.get? l = none) (hg : h'.get? l = some o) : News h₀ L h' ((l, o) :: news) := fun p hp => by
  rcases List.mem_cons.mp hp with rfl | hp
  · refine ⟨hg, ?_, ?_⟩
    · rintro rfl
      obtain ⟨o', e, _⟩ := ns_obj F.ns
      rw [hn] at e; cases e
    · cases e : h₀.get? l with
      | none => rfl
      | some o' => rw [F.keep l o' e] at hn; cases hn
  · exact N p hp
theorem News.madeOff (N : News h₀ L h news) (hn : h.get? l = none) : ∀ p ∈ news, p.1 ≠ l := fun p hp q => by
  have := (N p hp).1; rw [q, hn] at this; cases this
end
section
variable {prog : Program} {w : World} {A : Around} {E : Value → Shared → Prop} {s : Shared}
theorem execs_consA {x : Stmt} {b : List Stmt} {env : Env} {Q : Flow → Shared → Prop}
    (h : wpAny (model prog w) A (exec x env) (fun f s' => match f with | .next => wpAny (model prog w) A (execs b env) Q E s' | f => Q f s') E s) :
    wpAny (model prog w) A (execs (x :: b) env) Q E s := by
  show wpAny (model prog w) A (exec x env >>= fun f => match f with | .next => execs b env | f => pure f) Q E s
  refine wpAny_bind (wpAny_mono h (fun f s' g => ?_) fun _ _ x => x)
  cases f with
  | next => exact g
  | _ => exact wpAny_pure g
end
end
section
open PySem PySem.W PyProof.Rows PySem.Calls PySem.Spec
set_option maxRecDepth 100000
theorem by_len : typeLookup (.type "bytes") "__len__" = pure (some (.builtin "bytes.__len__")) := by rw [typeLookup_type, builtinLookup_eq_fast]; kernel_rfl
theorem by_sub : isSubtype (.type "bytes") (.type "bytes") = pure true := by rw [isSubtype_type]; kernel_rfl
section
variable {prog : Program} {w : World} {A : Around} {E : Value → Shared → Prop} {s : Shared} {R : Result → Shared → Prop}
noncomputable def OctAt (b : Array UInt8) (i : Nat) (v : Value) : Prop := ∃ c u, b[i]? = some c ∧ v = .int (c.toNat : Int) u
theorem extend_bytes (hh : A.handled = none) (b : Array UInt8) (t : Tok) (S : Addr) (res : Value) (c₀ : Nat) (hS : s.heap.get? S = some { cls := .type "list", data := .seq #[] c₀ })
    (hR : ∀ h' tk acc' c', (∀ b o, b ≠ S → s.heap.get? b = some o → h'.get? b = some o) → h'.get? S = some { cls := .type "list", dict := none, data := .seq acc' c', slots := #[] } →
      ItemsOf (OctAt b) acc' b.size → R (.ok (.ret res)) { s with heap := h', toks := tk }) (hn : b.size ≤ sizeLine) :
    wpAny (model prog w) A.in1 (Builtin.List.listExtendWith (.ref S) (.bytes b t) res)
      (fun fin s' => match fin with | .done f => R (.ok f) s' | .again c' => c'.quiet = true ∧ codeAny (model prog w) A c' R s') (fun e s' => R (.error e) s') s := by
  have hSI : S ≠ s.heap.objs.size := Nat.ne_of_lt (Heap.lt_size hS)
  have hSf : S ∉ [s.heap.objs.size] := fun hm => hSI (List.mem_singleton.mp hm)
  unfold Builtin.List.listExtendWith
  refine wpAny_bind (wpAny_typeOf (T := "bytes") (v := .bytes b t) rfl ?_)
  have h1 : Builtin.List.listSameRef (.ref S) (.bytes b t) = false := rfl
  have h2 : (Value.type "bytes" == Value.type "list") = false := by decide
  have h3 : (Value.type "bytes" == Value.type "tuple") = false := by decide
  simp only [h1, h2, h3, Bool.or_false, Bool.false_eq_true, if_false]
  refine wpAny_bind (KBw.pyIter_bytes ?_)
  refine wpAny_bind (wpAny_holding ?_)
  unfold Builtin.List.listLengthHint
  refine wpAny_bind (wpAny_specialOf (T := "bytes") (v := .bytes b t) rfl by_len ?_)
  wp_delta
  refine wpAny_bind (wpAny_isInstance (T := "bytes") (v := .bytes b t) (b := true) rfl by_sub ?_)
  show wpAny _ _ (typeOf (Value.bytes b t) >>= _) _ _ _
  refine wpAny_bind (wpAny_typeOf (T := "bytes") (v := .bytes b t) rfl ?_)
  refine wpAny_pure ?_
  rw [if_neg (by decide)]
  refine wpAny_pure ⟨plainId_quiet F.plain_extend_loop _, codeAny_extend_loopS (P := OctAt b) (KBw.walks (A := A.in1) hh s.heap.objs.size b t).toS hn _ hSf _ b.size 0 _ _ _ rfl (Nat.zero_le _) ⟨_, Heap.get?_push_size _ rfl, rfl, rfl⟩ (Heap.get?_push_of_some _ hS) (ItemsOf.nil _) fun s' acc' c' hm hS' hacc => ?_⟩
  rw [Moved.eq_with hm]
  refine hR s'.heap s'.toks acc' c' (fun b ob hb e => hm.heap b ob (fun hmem => ?_) (Heap.get?_push_of_some _ e)) hS' hacc
  rcases List.mem_cons.mp hmem with e' | hmem
  · exact hb e'
  · exact absurd (Heap.lt_size e) (by rw [List.mem_singleton.mp hmem]; exact Nat.lt_irrefl _)

theorem call_list_bytes {Q : Value → Shared → Prop} (hh : A.handled = none) (b : Array UInt8) (t : Tok)
    (hQ : ∀ h' tk acc' c', (∀ b o, s.heap.get? b = some o → h'.get? b = some o) →
      h'.get? s.heap.objs.size = some { cls := .type "list", dict := none, data := .seq acc' c', slots := #[] } → ItemsOf (OctAt b) acc' b.size → Q (.ref s.heap.objs.size) { s with heap := h', toks := tk }) (hn : b.size ≤ sizeLine) :
    wpAny (model prog w) A (call (.type "list") [.bytes b t]) Q E s := by
  refine callType_codes (Q₁ := fun obj s₁ => obj = .ref s.heap.objs.size ∧ s₁ = { s with heap := s.heap.push { cls := .type "list", data := .seq #[] } }) F.called_list (F.typeCall_list_1 _) F.entry_list_init
    (code_list_new _ ⟨rfl, rfl⟩) fun obj s₁ h₁ => ?_
  obtain ⟨rfl, rfl⟩ := h₁
  have hS : (s.heap.push { cls := .type "list", data := .seq #[] }).get? s.heap.objs.size = some { cls := .type "list", data := .seq #[] } := Heap.get?_push_size _ rfl
  refine ⟨⟨_, hS, rfl⟩, F.args_list_init_2 _ _, ?_⟩
  show wpAny _ _ (do let old ← Builtin.List.listItems (.ref s.heap.objs.size); Builtin.List.listUpdate (.ref s.heap.objs.size) (fun _ => #[]); letGo old.toList.reverse; Builtin.List.listExtendWith (.ref s.heap.objs.size) (.bytes b t) .none) _ _ _
  refine wpAny_bind ?_
  unfold Builtin.List.listItems
  refine wpAny_bind (wpAny_seqItems hS rfl (wpAny_pure ?_))
  show wpAny _ _ (updateSeq s.heap.objs.size (fun _ => #[]) >>= fun _ => letGo (#[] : Array Value).toList.reverse >>= fun _ => Builtin.List.listExtendWith (.ref s.heap.objs.size) (.bytes b t) .none) _ _ _
  refine wpAny_bind (wpAny_updateSeq hS rfl ?_)
  have hS₂ := Heap.get?_update_self (Obj.mapSeq (fun _ => (#[] : Array Value))) hS rfl
  have oth : ∀ b o, b ≠ s.heap.objs.size → (s.heap.push { cls := .type "list", data := .seq #[] }).get? b = some o → ((s.heap.push { cls := .type "list", data := .seq #[] }).update s.heap.objs.size (Obj.mapSeq (fun _ => (#[] : Array Value)))).get? b = some o :=
    fun b o hb e => (Heap.get?_update_other _ _ (Ne.symm hb)).trans e
  refine wpAny_bind (wpAny_letGo ?_)
  refine extend_bytes (A := A.in1) (hn := hn) hh b t s.heap.objs.size .none _ hS₂ fun h' tk acc' c' hk hS' hacc => ?_
  exact ⟨rfl, hQ h' tk acc' c' (fun b o e => hk b o (Nat.ne_of_lt (Heap.lt_size e)) (oth b o (Nat.ne_of_lt (Heap.lt_size e)) (Heap.get?_push_of_some _ e))) hS' hacc⟩
/-- the ints of a bytes -/
noncomputable def octs (b : Array UInt8) : List Int := b.toList.map fun c => (c.toNat : Int)
theorem octs_length (b : Array UInt8) : (octs b).length = b.size := by simp [octs]
theorem items_ints {b : Array UInt8} {acc : Array Value} (h : ItemsOf (OctAt b) acc b.size) : IntsAre acc.toList (octs b) := by
  obtain ⟨h1, h2⟩ := h
  have key : ∀ (l : List Value) (m : List UInt8), l.length = m.length → (∀ (j : Nat) v, l[j]? = some v → ∃ c u, m[j]? = some c ∧ v = Value.int ((c : UInt8).toNat : Int) u) → IntsAre l (m.map fun c => (c.toNat : Int)) := by
    intro l
    induction l with
    | nil => intro m hl _; cases m with
      | nil => exact .nil
      | cons _ _ => simp at hl
    | cons v l ih =>
      intro m hl hv
      cases m with
      | nil => simp at hl
      | cons c m =>
        obtain ⟨c', u, hc, rfl⟩ := hv 0 v rfl
        simp at hc; subst hc
        exact .cons _ _ (ih m (by simpa using hl) fun j w hw => hv (j + 1) w (by simpa using hw))
  refine key acc.toList b.toList (by simpa using h1) fun j v hv => ?_
  obtain ⟨c, u, hc, e⟩ := h2 j v (by simpa using hv)
  exact ⟨c, u, by simpa using hc, e⟩
theorem list_bytesK {h₀ : Heap} {L : Addr} {m : Str → Option Value} {news : List (Addr × Obj)} {Q : Value → Shared → Prop} (hh : A.handled = none) (F : Fr h₀ L s.heap m) (N : News h₀ L s.heap news) {b : Array UInt8} {t : Tok} (hn : b.size ≤ sizeLine)
    (hQ : ∀ D h' tk vs c, Fr h₀ L h' m → News h₀ L h' ((D, PySem.W.listOf (vs : List Value).toArray c) :: news) → IntsAre vs (octs b) → (∀ p ∈ news, p.1 ≠ D) → Q (.ref D) { s with heap := h', toks := tk }) :
    wpAny (model prog w) A (call (.type "list") [.bytes b t]) Q E s := by
  refine call_list_bytes hh b t (fun h' tk acc c hk hS hacc => ?_) hn
  refine hQ _ h' tk acc.toList c (F.keeps hk) (fun p hp => ?_) (items_ints hacc) (fun p hp => Nat.ne_of_lt (Heap.lt_size (N p hp).1))
  rcases List.mem_cons.mp hp with rfl | hp
  · exact ⟨hS, Ne.symm (Nat.ne_of_lt F.ns.lt), next_is_new F⟩
  · have z := N p hp
    exact ⟨hk _ _ z.1, z.2⟩
end
section
variable {prog : Program} {w : World} {A : Around} {E : Value → Shared → Prop} {s : Shared}
theorem len_L {l : Addr} {vs : List Value} {n : Nat} {Q : Value → Shared → Prop} (hl : s.heap.IsList l vs.toArray) (e : vs.length = n) (hn : n ≤ 1000) (h : Q (.int (n : Int) (s.toks + 1)) { s with toks := s.toks + 1 + 1 }) :
    wpAny (model prog w) A (call (.builtin "len") [.ref l]) Q E s := by
  subst e
  exact len_list hl (by rw [List.size_toArray]; omega) (by rw [List.size_toArray]; exact h)
end
end
section
open PySem PySem.W PyProof.Rows PySem.Calls PySem.Spec
set_option maxRecDepth 100000
/-- a heap with one object taken out -/
noncomputable def without (h : Heap) (D : Addr) : Heap := h.update D (fun o => { o with data := .freed })
theorem without_size (h : Heap) (D : Addr) : (without h D).objs.size = h.objs.size := Heap.size_update ..
theorem without_other {h : Heap} {D b : Addr} (hb : b ≠ D) : (without h D).get? b = h.get? b := Heap.get?_update_other _ _ (Ne.symm hb)
theorem without_self (h : Heap) (D : Addr) : (without h D).get? D = none := by
  unfold without Heap.update Heap.get?
  by_cases hD : D < h.objs.size
  · simp [hD, Array.getElem_modify]
  · simp [hD]
theorem without_keep {h : Heap} {D : Addr} : ∀ b o, (without h D).get? b = some o → h.get? b = some o := fun b o e => by
  by_cases hb : b = D
  · subst hb; rw [without_self] at e; cases e
  · rw [without_other hb] at e; exact e
section
variable {w : World} {A : Around} {s : Shared} {R : Result → Shared → Prop} {name qual : Str} {params : Arguments} {body : List Stmt} {scope : Scope} {dV kV doc pm cdv ct oc : Value} {an od : Option Addr} {osl : Array (Option Value)} {f : Addr} {args : Args} {binds : List (Str × Value)}
theorem enterE {h₀ : Heap} {news : List (Addr × Obj)} (C : Cx w A h₀) (hk₀ : ∀ b o, h₀.get? b = some o → s.heap.get? b = some o) (hz : h₀.objs.size = s.heap.objs.size) (hn₀ : ∀ p ∈ news, s.heap.get? p.1 = some p.2 ∧ h₀.get? p.1 = none)
    (ho : (hd.heap_39 w.params).lookup f = some ⟨oc, od, .func (fnOf name qual params body scope dV kV doc pm an cdv ct), osl⟩) (hcd : codeIn (hd.heap_39 w.params) cdv qual = true) (hroom : A.depth < recursionLimit)
    (hbind : BindsTo s (fnOf name qual params body scope dV kV doc pm an cdv ct) args binds) (hloc : ∀ y ∈ binds, scope.names.lookup y.1 = some .local)
    (h : ∀ L' h₁ base outer loose mean mg mb, Below A base outer h₀ → (hd.heap_39 w.params).In h₀ → Top topProg loose mean mg mb h₀ → Fr h₀ L' h₁ (fun y => binds.reverse.lookup y) → News h₀ L' h₁ news → (∀ b o, s.heap.get? b = some o → h₁.get? b = some o) → s.heap.objs.size ≤ L' →
      wpAny (model Challenge.rw_zo0018_01.row.prog w) (A.deeper (envOf qual scope L' f cdv)) (execs body (envOf qual scope L' f cdv))
        (fun fl s' => R (.ok (.ret (match fl with | .ret v => v | _ => .none))) s')
        (fun e s' => wpAny (model Challenge.rw_zo0018_01.row.prog w) (A.deeper (envOf qual scope L' f cdv)) (leaving (envOf qual scope L' f cdv) e) (fun _ s'' => R (.error e) s'') (fun e' s'' => R (.error e') s'') s')
        { s with heap := h₁, toks := s.toks + binds.length })
    (hco : scope.isCoroutine = false) (hgen : scope.isGenerator = false) (hk : scope.kind = .function)
    (hcell : ∀ x ∈ scope.names, x.2 ≠ .cell) : codeAny (model Challenge.rw_zo0018_01.row.prog w) A (.call (.ref f) args) R s := by
  obtain ⟨X, ⟨loose, mean, mg, mb, T⟩, ⟨base, outer, B⟩, hh⟩ := C
  have X' := X.keeps hk₀
  refine codeAny_call_def (fd := fnX name qual params body scope [] dV kV doc pm an cdv ct) (body := body) (binds := binds) hroom (X' _ _ ho) rfl (T.keeps hk₀).nolimit (codeRec_of X' hcd) rfl hbind hcell hloc (fun h₁ hns hk₁ => ?_) hco hgen hk
  refine h s.heap.objs.size h₁ base outer loose mean mg mb B X T ⟨hns, fun b o e => hk₁ b o (hk₀ b o e), Nat.le_of_eq hz⟩ (fun p hp => ?_) hk₁ (Nat.le_refl _)
  have z := hn₀ p hp
  exact ⟨hk₁ _ _ z.1, Nat.ne_of_lt (Heap.lt_size z.1), z.2⟩
end
section
variable {h₀ h h' : Heap} {L D : Addr} {m : Str → Option Value} {o o' : Obj} {pre post : List (Addr × Obj)}
theorem Fr.ext (F : Fr h₀ L h m) (hs : ∀ b x, b ≠ D → h.get? b = some x → h'.get? b = some x) (hL : D ≠ L) (hD : h₀.get? D = none) : Fr h₀ L h' m :=
  ⟨F.ns.at' fun x e => hs _ x (Ne.symm hL) e, fun b x e => hs b x (fun q => by rw [q, hD] at e; cases e) (F.keep b x e), F.above⟩
theorem news_ext {news news' : List (Addr × Obj)} (N : News h₀ L h news) (U : Upd D o o' news news') (hs : ∀ b x, b ≠ D → h.get? b = some x → h'.get? b = some x) (ho : h'.get? D = some o') : News h₀ L h' news' := by
  obtain ⟨pre, post, rfl, rfl, h1, h2⟩ := U.split
  intro p hp
  rcases List.mem_append.mp hp with hp | hp
  · have z := N p (List.mem_append.mpr (.inl hp))
    exact ⟨hs _ _ (h1 p hp) z.1, z.2⟩
  · rcases List.mem_cons.mp hp with rfl | hp
    · exact ⟨ho, (N (D, o) (List.mem_append.mpr (.inr (.head _)))).2⟩
    · have z := N p (List.mem_append.mpr (.inr (.tail _ hp)))
      exact ⟨hs _ _ (h2 p hp) z.1, z.2⟩
theorem fr_without (F : Fr h₀ L h m) (hL : D ≠ L) (hD : h₀.get? D = none) : Fr h₀ L (without h D) m :=
  Fr.ext F (fun b x hb e => by rw [without_other hb]; exact e) hL hD
end
end
section
open PySem PySem.W PyProof.Rows PySem.Calls
set_option maxRecDepth 100000
set_option maxHeartbeats 8000000

theorem add_ok {w : World} {A : Around} {s : Shared} {Q E : Value → Shared → Prop}
   {a b : Int} {t1 t2 : Tok}
   (C : Cx w A s.heap) (hdp : A.depth < 960) (hu : A.units < 8900)
   (h : ∀ t h' tk', Keep s.heap h' → Q (.int (a + b) t) { s with heap := h', toks := tk' }) :
   wpAny (model Challenge.rw_zo0018_01.row.prog w) A (call (.ref 78) [.int a t1, .int b t2]) Q E s := by
  have KX := C.X
  have hh := C.hh
  revert KX; k_fill; intro KX
  obtain ⟨hd0, dp0, fr0, gd0, un0⟩ := A
  obtain rfl : hd0 = none := hh
  dsimp only at hdp hu
  refine wpAny_call ?_
  w_on
  k_dflt (refine' enter0 ?k1 ?k6 ?k7 ?k8 ?k9 ?kB ?_ ?c2 ?c3 ?c4 ?c5; (case k1 => exact C); (case k6 => k_is); (case k7 => k_is); (case k8 => (simp only [recursionLimit]; omega)); (case k9 => first | exact BindsTo.of_eq rfl | fail "no rule for these arguments"); (case c5 => decide); (case kB => exact locs rfl); (case c2 => exact rfl); (case c3 => exact rfl); (case c4 => exact rfl); k_whole; intro L' h' bse outer loose mean mg mb B' X' T' F' N'; clear C KX; (try dsimp only); (try k_fold))
  repeat' (first | (k_unfold; (try dsimp only)) | (k_end; wrow_close) | (dsimp only; walk1) | (walk1) | (k_end; dsimp only; k_unfold; (try dsimp only)))
  exact h _ _ _ (Fr.keep (by k_asm))
theorem mod_ok {w : World} {A : Around} {s : Shared} {Q E : Value → Shared → Prop}
   {a b : Int} {t1 t2 : Tok}
   (C : Cx w A s.heap) (hdp : A.depth < 960) (hu : A.units < 8900)
   (hb : 2 ≤ b ∧ b ≤ 4)
   (h : ∀ t h' tk', Keep s.heap h' → Q (.int (a.fmod b) t) { s with heap := h', toks := tk' }) :
   wpAny (model Challenge.rw_zo0018_01.row.prog w) A (call (.ref 85) [.int a t1, .int b t2]) Q E s := by
  have KX := C.X
  have hh := C.hh
  revert KX; k_fill; intro KX
  obtain ⟨hd0, dp0, fr0, gd0, un0⟩ := A
  obtain rfl : hd0 = none := hh
  dsimp only at hdp hu
  refine wpAny_call ?_
  w_on
  k_dflt (refine' enter0 ?k1 ?k6 ?k7 ?k8 ?k9 ?kB ?_ ?c2 ?c3 ?c4 ?c5; (case k1 => exact C); (case k6 => k_is); (case k7 => k_is); (case k8 => (simp only [recursionLimit]; omega)); (case k9 => first | exact BindsTo.of_eq rfl | fail "no rule for these arguments"); (case c5 => decide); (case kB => exact locs rfl); (case c2 => exact rfl); (case c3 => exact rfl); (case c4 => exact rfl); k_whole; intro L' h' bse outer loose mean mg mb B' X' T' F' N'; clear C KX; (try dsimp only); (try k_fold))
  repeat' (first | (k_unfold; (try dsimp only)) | (k_end; wrow_close) | (dsimp only; walk1) | (walk1) | (k_end; dsimp only; k_unfold; (try dsimp only)))
  exact h _ _ _ (Fr.keep (by k_asm))
theorem getitem_ok {w : World} {A : Around} {s : Shared} {Q E : Value → Shared → Prop}
   {l : Addr} {vs : List Value} {ns : List Int} {k : Int} {t1 : Tok}
   (C : Cx w A s.heap) (hdp : A.depth < 960) (hu : A.units < 8900)
   (hl : s.heap.IsList l vs.toArray) (hi : IntsAre vs ns) (h0 : 0 ≤ k) (h1 : k < (ns.length : Int)) (h2 : ns.length ≤ 1000)
   (h : ∀ t h' tk', Keep s.heap h' → Q (.int (ns.getD k.toNat 0) t) { s with heap := h', toks := tk' }) :
   wpAny (model Challenge.rw_zo0018_01.row.prog w) A (call (.ref 92) [.ref l, .int k t1]) Q E s := by
  have KX := C.X
  have hh := C.hh
  revert KX; k_fill; intro KX
  obtain ⟨hd0, dp0, fr0, gd0, un0⟩ := A
  obtain rfl : hd0 = none := hh
  dsimp only at hdp hu
  refine wpAny_call ?_
  w_on
  k_dflt (refine' enter0 ?k1 ?k6 ?k7 ?k8 ?k9 ?kB ?_ ?c2 ?c3 ?c4 ?c5; (case k1 => exact C); (case k6 => k_is); (case k7 => k_is); (case k8 => (simp only [recursionLimit]; omega)); (case k9 => first | exact BindsTo.of_eq rfl | fail "no rule for these arguments"); (case c5 => decide); (case kB => exact locs rfl); (case c2 => exact rfl); (case c3 => exact rfl); (case c4 => exact rfl); k_whole; intro L' h' bse outer loose mean mg mb B' X' T' F' N'; clear C KX; (try dsimp only); (try k_fold))
  repeat' (first | (k_unfold; (try dsimp only)) | (k_end; wrow_close) | (dsimp only; walk1) | (walk1) | (k_end; dsimp only; k_unfold; (try dsimp only)))
  exact h _ _ _ (Fr.keep (by k_asm))
theorem set_obj {h : Heap} {D : Addr} {vs : List Value} {c k : Nat} {x : Value} (z : h.get? D = some (PySem.W.listOf vs.toArray c)) : ∃ c', (h.update D (Obj.mapSeq (·.setIfInBounds k x))).get? D = some (PySem.W.listOf (vs.set k x).toArray c') := by
  have e : vs.toArray.setIfInBounds k x = (vs.set k x).toArray := by
    apply Array.toList_inj.mp; simp
  rw [← e]
  exact ⟨_, Heap.get?_update_self (Obj.mapSeq (·.setIfInBounds k x)) z rfl⟩
theorem setitem_ok {w : World} {A : Around} {s : Shared} {Q E : Value → Shared → Prop}
   {h₀ : Heap} {D : Addr} {vs : List Value} {c : Nat} {k v : Int} {t1 t2 : Tok}
   (C : Cx w A h₀) (hk₀ : ∀ b o, h₀.get? b = some o → s.heap.get? b = some o) (hz₀ : h₀.objs.size = s.heap.objs.size) (hdp : A.depth < 960) (hu : A.units < 8900)
   (hn₀ : ∀ p ∈ [(D, PySem.W.listOf vs.toArray c)], s.heap.get? p.1 = some p.2 ∧ h₀.get? p.1 = none)
   (h0 : 0 ≤ k) (h1 : k < (vs.length : Int)) (h2 : vs.length ≤ 1000)
   (h : ∀ h' tk' t, (∀ b x, b ≠ D → s.heap.get? b = some x → h'.get? b = some x) → (∃ c', h'.get? D = some (PySem.W.listOf (vs.set k.toNat (.int v t)).toArray c')) → Q .none { s with heap := h', toks := tk' }) :
   wpAny (model Challenge.rw_zo0018_01.row.prog w) A (call (.ref 99) [.ref D, .int k t1, .int v t2]) Q E s := by
  have KX := C.X.keeps hk₀
  have hh := C.hh
  revert KX; k_fill; intro KX
  obtain ⟨hd0, dp0, fr0, gd0, un0⟩ := A
  obtain rfl : hd0 = none := hh
  dsimp only at hdp hu
  refine wpAny_call ?_
  w_on
  k_dflt (refine' enterE ?k1 ?kS ?kZ ?kN ?k6 ?k7 ?k8 ?k9 ?kB ?_ ?c2 ?c3 ?c4 ?c5; (case k1 => exact C); (case kS => exact hk₀); (case kZ => exact hz₀); (case kN => exact hn₀); (case k6 => k_is); (case k7 => k_is); (case k8 => (simp only [recursionLimit]; omega)); (case k9 => first | exact BindsTo.of_eq rfl | fail "no rule for these arguments"); (case c5 => decide); (case kB => exact locs rfl); (case c2 => exact rfl); (case c3 => exact rfl); (case c4 => exact rfl); k_whole; intro L' h' bse outer loose mean mg mb B' X' T' F' N' K' S'; clear C KX; (try dsimp only); (try k_fold))
  repeat' (first | (k_unfold; (try dsimp only)) | (k_end; wrow_close) | (dsimp only; walk1) | (walk1) | (k_end; dsimp only; k_unfold; (try dsimp only)))
  have z := (N' _ List.mem_cons_self).1
  refine ki_setAt z h0 (by omega) (by rw [List.size_toArray]; exact h1) ?_
  dsimp only
  repeat' (first | (k_unfold; (try dsimp only)) | (k_end; wrow_close) | (dsimp only; walk1) | (walk1) | (k_end; dsimp only; k_unfold; (try dsimp only)))
  refine h _ _ t2 (fun b x hb e => (Heap.get?_update_other _ _ (Ne.symm hb)).trans (K' b x e)) ?_
  exact set_obj z
theorem ints_set {v : Int} {t : Tok} : ∀ {vs : List Value} {ns : List Int}, IntsAre vs ns → ∀ k : Nat, IntsAre (vs.set k (.int v t)) (ns.set k v)
  | _, _, .nil, _ => .nil
  | _, _, .cons _ _ h, 0 => .cons _ _ h
  | _, _, .cons _ _ h, k + 1 => .cons _ _ (ints_set h k)
theorem setitem_at {w : World} {A : Around} {s : Shared} {Q E : Value → Shared → Prop}
   {h₀ : Heap} {L D : Addr} {m mg mb : Str → Option Value} {env : Env} {base : Heap} {outer : List Env} {loose : List Str} {mean : ExcName → Option Value} {news : List (Addr × Obj)} {vs : List Value} {ns : List Int} {c : Nat} {k v : Int} {t1 t2 : Tok}
   (B : Below A base outer h₀) (F : Fr h₀ L s.heap m) (N : News h₀ L s.heap news) (X : (hd.heap_39 w.params).In h₀) (T : Top topProg loose mean mg mb h₀) (hh : A.handled = none) (hf : env.frame = some L) (hke : env.scope.kind = .function)
   (hdp : A.depth + 1 < 960) (hu : A.units + 3 < 8900) (hm : (D, PySem.W.listOf vs.toArray c) ∈ news) {nf : Obj → List (Addr × Obj)} (U : ∀ o', Upd D (PySem.W.listOf vs.toArray c) o' news (nf o'))
   (hi : IntsAre vs ns) (h0 : 0 ≤ k) (h1 : k < (ns.length : Int)) (h2 : ns.length ≤ 1000)
   (h : ∀ h' tk' vs' c', Fr h₀ L h' m → News h₀ L h' (nf (PySem.W.listOf vs'.toArray c')) → IntsAre vs' (ns.set k.toNat v) → Q .none { s with heap := h', toks := tk' }) :
   wpAny (model Challenge.rw_zo0018_01.row.prog w) (A.deeper env) (call (.ref 99) [.ref D, .int k t1, .int v t2]) Q E s := by
  have z := N _ hm
  have F0 := fr_without F z.2.1 z.2.2
  have hvl : vs.length = ns.length := hi.length
  refine setitem_ok (h₀ := without s.heap D) (vs := vs) (c := c) (Cx.push B F0 X T hh hf hke) without_keep (without_size _ _) hdp hu (fun p hp => ?_) h0 (by rw [hvl]; exact h1) (by rw [hvl]; exact h2) ?_
  · rcases List.mem_cons.mp hp with rfl | hp
    · exact ⟨z.1, without_self _ _⟩
    · cases hp
  · intro h' tk' t hs hg
    obtain ⟨c', hg⟩ := hg
    exact h h' tk' _ c' (Fr.ext F hs z.2.1 z.2.2) (news_ext N (U _) hs hg) (ints_set hi _)
end
section
open PySem PySem.W PyProof.Rows PySem.Calls PySem.Spec
set_option maxRecDepth 100000
set_option maxHeartbeats 4000000
/-- the def that stands in a def's body -/
noncomputable def nestIn : List Stmt → Option (Arguments × List Stmt × Scope)
  | [] => none
  | .FunctionDef _ params body _ _ _ scope _ _ _ :: _ => some (params, body, scope)
  | _ :: r => nestIn r
noncomputable def nestOf (K : Frag) (a : Addr) : Option (Arguments × List Stmt × Scope) := match K.lookup a with
  | some ⟨_, _, .func fd, _⟩ => match fd.body with
    | .stmts b => nestIn b
    | _ => none
  | _ => none
section
variable {w : World} {A : Around} {s : Shared} {R : Result → Shared → Prop} {name qual : Str} {params : Arguments} {body : List Stmt} {scope : Scope} {cl : List (Str × Addr)} {dV kV doc pm cdv ct oc ctv : Value} {an od : Option Addr} {osl : Array (Option Value)} {f c' : Addr} {args : Args} {binds : List (Str × Value)}
/-- a def made in the call, its closure in the ledger -/
theorem enterN {h₀ : Heap} {news : List (Addr × Obj)} (C : Cx w A h₀) (hk₀ : ∀ b o, h₀.get? b = some o → s.heap.get? b = some o) (hz : h₀.objs.size = s.heap.objs.size) (hn₀ : ∀ p ∈ news, s.heap.get? p.1 = some p.2 ∧ h₀.get? p.1 = none)
    (ho : (f, fnMade name qual params body scope cl doc pm c' ctv) ∈ news) (hcd : s.heap.CodeRec (.ref c') qual) (hroom : A.depth < recursionLimit)
    (hbind : BindsTo s (fnX name qual params body scope cl .none .none doc pm none (.ref c') ctv) args binds) (hloc : ∀ y ∈ binds, scope.names.lookup y.1 = some .local)
    (h : ∀ L' h₁ base outer loose mean mg mb, Below A base outer h₀ → (hd.heap_39 w.params).In h₀ → Top topProg loose mean mg mb h₀ → Fr h₀ L' h₁ (fun y => binds.reverse.lookup y) → News h₀ L' h₁ news → (∀ b o, s.heap.get? b = some o → h₁.get? b = some o) → s.heap.objs.size ≤ L' →
      wpAny (model Challenge.rw_zo0018_01.row.prog w) (A.deeper (envX qual scope L' f (.ref c') cl)) (execs body (envX qual scope L' f (.ref c') cl))
        (fun fl s' => R (.ok (.ret (match fl with | .ret v => v | _ => .none))) s')
        (fun e s' => wpAny (model Challenge.rw_zo0018_01.row.prog w) (A.deeper (envX qual scope L' f (.ref c') cl)) (leaving (envX qual scope L' f (.ref c') cl) e) (fun _ s'' => R (.error e) s'') (fun e' s'' => R (.error e') s'') s')
        { s with heap := h₁, toks := s.toks + binds.length })
    (hco : scope.isCoroutine = false) (hgen : scope.isGenerator = false) (hk : scope.kind = .function)
    (hcell : ∀ x ∈ scope.names, x.2 ≠ .cell) : codeAny (model Challenge.rw_zo0018_01.row.prog w) A (.call (.ref f) args) R s := by
  obtain ⟨X, ⟨loose, mean, mg, mb, T⟩, ⟨base, outer, B⟩, hh⟩ := C
  refine codeAny_call_def (fd := fnX name qual params body scope cl .none .none doc pm none (.ref c') ctv) (body := body) (binds := binds) hroom (hn₀ _ ho).1 rfl (T.keeps hk₀).nolimit hcd rfl hbind hcell hloc (fun h₁ hns hk₁ => ?_) hco hgen hk
  refine h s.heap.objs.size h₁ base outer loose mean mg mb B X T ⟨hns, fun b o e => hk₁ b o (hk₀ b o e), Nat.le_of_eq hz⟩ (fun p hp => ?_) hk₁ (Nat.le_refl _)
  have z := hn₀ p hp
  exact ⟨hk₁ _ _ z.1, Nat.ne_of_lt (Heap.lt_size z.1), z.2⟩

/-- a def of the top with cells, over a heap with some objects out -/
theorem enterCE {h₀ : Heap} {news : List (Addr × Obj)} (C : Cx w A h₀) (hk₀ : ∀ b o, h₀.get? b = some o → s.heap.get? b = some o) (hz : h₀.objs.size = s.heap.objs.size) (hn₀ : ∀ p ∈ news, s.heap.get? p.1 = some p.2 ∧ h₀.get? p.1 = none)
    (ho : (hd.heap_39 w.params).lookup f = some ⟨oc, od, .func (fnX name qual params body scope [] dV kV doc pm an cdv ct), osl⟩) (hcd : codeIn (hd.heap_39 w.params) cdv qual = true) (hroom : A.depth < recursionLimit)
    (hbind : BindsTo s (fnX name qual params body scope [] dV kV doc pm an cdv ct) args binds) (hkind : (binds.all fun y => scope.names.lookup y.1 == some .local || scope.names.lookup y.1 == some .cell) = true)
    (hnd : ((cellsFrom 0 scope.names []).map (·.1)).Nodup)
    (h : ∀ L' h₁ tk cells base outer loose mean mg mb, Below A base outer h₀ → (hd.heap_39 w.params).In h₀ → Top topProg loose mean mg mb h₀ → Fr h₀ L' h₁ (bindL (envOfC qual scope L' f cdv).kindOf binds fun _ => none) → News h₀ L' h₁ (cells ++ news) →
      CellsAre (bindC (envOfC qual scope L' f cdv).kindOf binds fun _ => none) (cellsFrom (L' + 1) scope.names []) cells → (∀ b o, s.heap.get? b = some o → h₁.get? b = some o) → s.heap.objs.size ≤ L' →
      wpAny (model Challenge.rw_zo0018_01.row.prog w) (A.deeper (envOfC qual scope L' f cdv)) (execs body (envOfC qual scope L' f cdv))
        (fun fl s' => R (.ok (.ret (match fl with | .ret v => v | _ => .none))) s')
        (fun e s' => wpAny (model Challenge.rw_zo0018_01.row.prog w) (A.deeper (envOfC qual scope L' f cdv)) (leaving (envOfC qual scope L' f cdv) e) (fun _ s'' => R (.error e) s'') (fun e' s'' => R (.error e') s'') s')
        { s with heap := h₁, toks := tk })
    (hco : scope.isCoroutine = false) (hgen : scope.isGenerator = false) (hk : scope.kind = .function) : codeAny (model Challenge.rw_zo0018_01.row.prog w) A (.call (.ref f) args) R s := by
  obtain ⟨X, ⟨loose, mean, mg, mb, T⟩, ⟨base, outer, B⟩, hh⟩ := C
  have X' := X.keeps hk₀
  refine codeAny_call_function hroom (X' _ _ ho) rfl hco hgen rfl (codeRec_of X' hcd) (hbind _ _ _ _ ?_)
  refine wpAny_newFunctionEnv_cells hk (kindsX hkind _) fun env' he s' x => ?_
  subst he
  refine ⟨(T.keeps hk₀).nolimit.keeps x.toInCall.keep, codeAny_func ?_⟩
  obtain ⟨h₁, tk, rfl, _⟩ := x.done
  have hk₁ := x.toInCall.keep
  obtain ⟨cells, NC, Y⟩ := Cl.news (h₀ := h₀) (L := s.heap.objs.size) (Nat.le_of_eq hz) fun n c hm => ⟨x.cell n c (lookup_of_mem_nodup (cellsFrom_names scope.names 0 (s.heap.objs.size + 1) [] [] rfl ▸ hnd) hm), x.above n c hm⟩
  refine h s.heap.objs.size h₁ tk cells base outer loose mean mg mb B X T ⟨x.toInCall.ns, fun b o e => hk₁ b o (hk₀ b o e), Nat.le_of_eq hz⟩ (fun p hp => ?_) Y hk₁ (Nat.le_refl _)
  rcases List.mem_append.mp hp with hp | hp
  · exact NC p hp
  · have z := hn₀ p hp
    exact ⟨hk₁ _ _ z.1, Nat.ne_of_lt (Heap.lt_size z.1), z.2⟩
end
section
variable {h₀ h : Heap} {L : Addr} {m : Str → Option Value} {as : List Addr}
theorem fr_hide (F : Fr h₀ L h m) (has : ∀ a ∈ as, a ≠ L ∧ h₀.get? a = none) : Fr h₀ L (hideAll h as) m :=
  ⟨F.ns.at' fun o e => hideAll_get _ e (fun q => (has _ q).1 rfl), fun b o e => hideAll_get _ (F.keep b o e) (fun q => by rw [(has b q).2] at e; cases e), F.above⟩
theorem hide_none {b : Addr} (hb : b ∈ as) : (hideAll h as).get? b = none := hideAll_none _ hb
theorem keep_hidden {h' : Heap} {news : List (Addr × Obj)} (F : Fr (hideAll h as) L h' m) (N : News (hideAll h as) L h' news) (hn : ∀ a ∈ as, ∃ o, (a, o) ∈ news ∧ h.get? a = some o) : ∀ b o, h.get? b = some o → h'.get? b = some o := fun b o e => by
  by_cases hb : b ∈ as
  · obtain ⟨o', hm, e'⟩ := hn b hb
    rw [e] at e'; cases e'
    exact (N _ hm).1
  · exact F.keep b o (hideAll_get _ e hb)
end
end
section
open PySem PySem.W PyProof.Rows PySem.Calls PySem.Spec
set_option maxRecDepth 100000
section
variable {w : World} {A : Around} {s : Shared} {R : Result → Shared → Prop} {name qual : Str} {params : Arguments} {body : List Stmt} {scope : Scope} {dV kV doc pm cdv ct oc : Value} {an od : Option Addr} {osl : Array (Option Value)} {f : Addr} {args : Args} {binds : List (Str × Value)}
/-- the pointwise twin of enterCE -/
theorem enterGCE {h₀ : Heap} {news : List (Addr × Obj)} (C : Cx w A h₀) (hk₀ : ∀ b o, h₀.get? b = some o → s.heap.get? b = some o) (hz : h₀.objs.size = s.heap.objs.size) (hn₀ : ∀ p ∈ news, s.heap.get? p.1 = some p.2 ∧ h₀.get? p.1 = none)
    (ho : (hd.heap_39 w.params).lookup f = some ⟨oc, od, .func (fnX name qual params body scope [] dV kV doc pm an cdv ct), osl⟩) (hcd : codeIn (hd.heap_39 w.params) cdv qual = true) (hroom : A.depth < recursionLimit)
    (hbind : BindsTo s (fnX name qual params body scope [] dV kV doc pm an cdv ct) args binds) (hkind : (binds.all fun y => scope.names.lookup y.1 == some .local || scope.names.lookup y.1 == some .cell) = true)
    (hnd : ((cellsFrom 0 scope.names []).map (·.1)).Nodup)
    (h : ∀ L' h₁ tk cells base outer loose mean mg mb, Below A base outer h₀ → (hd.heap_39 w.params).In h₀ → Top topProg loose mean mg mb h₀ → Fr h₀ L' h₁ (bindL (envOfC qual scope L' f cdv).kindOf binds fun _ => none) → News h₀ L' h₁ (cells ++ news) →
      CellsAre (bindC (envOfC qual scope L' f cdv).kindOf binds fun _ => none) (cellsFrom (L' + 1) scope.names []) cells → (∀ b o, s.heap.get? b = some o → h₁.get? b = some o) → s.heap.objs.size ≤ L' →
      wpG (model Challenge.rw_zo0018_01.row.prog w) (A.deeper (envOfC qual scope L' f cdv)) (execs body (envOfC qual scope L' f cdv))
        (fun fl s' => R (.ok (.ret (match fl with | .ret v => v | _ => .none))) s')
        (fun e s' => wpAny (model Challenge.rw_zo0018_01.row.prog w) (A.deeper (envOfC qual scope L' f cdv)) (leaving (envOfC qual scope L' f cdv) e) (fun _ s'' => R (.error e) s'') (fun e' s'' => R (.error e') s'') s')
        { s with heap := h₁, toks := tk })
    (hco : scope.isCoroutine = false) (hgen : scope.isGenerator = false) (hk : scope.kind = .function) : codeG (model Challenge.rw_zo0018_01.row.prog w) A (.call (.ref f) args) R s := by
  obtain ⟨X, ⟨loose, mean, mg, mb, T⟩, ⟨base, outer, B⟩, hh⟩ := C
  have X' := X.keeps hk₀
  refine codeG_function hroom (X' _ _ ho) rfl hco hgen rfl (codeRec_of X' hcd) (hbind _ _ _ _ ?_)
  refine wpAny_newFunctionEnv_cells hk (kindsX hkind _) fun env' he s' x => ?_
  subst he
  refine ⟨(T.keeps hk₀).nolimit.keeps x.toInCall.keep, codeG_func ?_⟩
  obtain ⟨h₁, tk, rfl, _⟩ := x.done
  have hk₁ := x.toInCall.keep
  obtain ⟨cells, NC, Y⟩ := Cl.news (h₀ := h₀) (L := s.heap.objs.size) (Nat.le_of_eq hz) fun n c hm => ⟨x.cell n c (lookup_of_mem_nodup (cellsFrom_names scope.names 0 (s.heap.objs.size + 1) [] [] rfl ▸ hnd) hm), x.above n c hm⟩
  refine h s.heap.objs.size h₁ tk cells base outer loose mean mg mb B X T ⟨x.toInCall.ns, fun b o e => hk₁ b o (hk₀ b o e), Nat.le_of_eq hz⟩ (fun p hp => ?_) Y hk₁ (Nat.le_refl _)
  rcases List.mem_append.mp hp with hp | hp
  · exact NC p hp
  · have z := hn₀ p hp
    exact ⟨hk₁ _ _ z.1, Nat.ne_of_lt (Heap.lt_size z.1), z.2⟩
end
section
variable {prog : Program} {w : World} {A : Around} {E : Value → Shared → Prop} {s : Shared} {h₀ : Heap} {L : Addr} {m : Str → Option Value} {news : List (Addr × Obj)}
/-- enumerate over a list that the call has made -/
theorem enum_K {α : Type} {K : ItemKind α} {as : List α} {l : Addr} {vs : List Value} {Q : Value → Shared → Prop} (hh : A.handled = none) (hl : s.heap.IsList l vs.toArray) (hi : AreOf K vs as) (hL : L ≠ l) (hl₀ : ∀ q ∈ news, q.1 ≠ l)
    (F : Fr h₀ L s.heap m) (N : News h₀ L s.heap news)
    (h : ∀ h' e, Fr h₀ L h' m → News h₀ L h' news → PairSrcL prog w A E h₀ L K as (.ref e) { s with heap := h' } m news → Q (.ref e) { s with heap := h' }) :
    wpAny (model prog w) A (call (.type "enumerate") [.ref l]) Q E s := by
  obtain ⟨ol, hol, _⟩ := id hl
  have hlt : l < s.heap.objs.size := Heap.lt_size hol
  have hLs : L < s.heap.objs.size := F.ns.lt
  have hab : h₀.objs.size ≤ L := F.above
  refine call_enumerate_list hl fun h' he hit hsz hk => ?_
  have F' : Fr h₀ L h' m := F.keeps hk
  have N' : News h₀ L h' news := N.grown hk
  refine h h' _ F' N' fun env hLe => ?_
  subst hLe
  refine enumSrc (Draws.list (A := A.in1) hh s.heap.objs.size l (Nat.ne_of_lt hlt) vs.toArray) he ⟨hit, hl.at fun o e => hk l o e⟩ (Nat.succ_ne_self _) ?_ (by simp) ?_
    (Heap.get?_none_of_le (Nat.le_trans hab (Nat.le_of_lt (Nat.lt_succ_of_lt hLs)))) (Heap.get?_none_of_le (Nat.le_trans hab (Nat.le_of_lt hLs))) ?_ (by simp [hi.length]) (fun i x hx => hi.get i x (by simpa using hx)) F' N'
  · intro hm
    rcases List.mem_cons.mp hm with e | hm
    · exact Nat.succ_ne_self _ e
    · exact Nat.ne_of_gt (Nat.lt_succ_of_lt hlt) (List.mem_singleton.mp hm)
  · intro hm
    rcases List.mem_cons.mp hm with e | hm
    · exact Nat.ne_of_lt (Nat.lt_succ_of_lt hLs) e
    · rcases List.mem_cons.mp hm with e | hm
      · exact Nat.ne_of_lt hLs e
      · exact hL (List.mem_singleton.mp hm)
  · intro b hb q hq e
    have hq2 := Heap.lt_size (N q hq).1
    rcases List.mem_cons.mp hb with e1 | hb
    · rw [← e, e1] at hq2; exact Nat.lt_irrefl _ (Nat.lt_of_succ_lt hq2)
    · rcases List.mem_cons.mp hb with e1 | hb
      · rw [← e, e1] at hq2; exact Nat.lt_irrefl _ hq2
      · exact hl₀ q hq (e.symm.trans (List.mem_singleton.mp hb))
end
end
section
open PySem PySem.W PyProof.Rows PySem.Calls PySem.Spec
set_option maxRecDepth 100000
section
variable {prog : Program} {w : World} {A : Around} {E : Value → Shared → Prop} {s : Shared} {h₀ : Heap} {L : Addr} {m : Str → Option Value} {news : List (Addr × Obj)} {value slice : Expr}
theorem sl_upto {l : Addr} {vs : List Value} {x : Int} {a : Nat} {t : Tok} {Q : Value → Shared → Prop} (F : Fr h₀ L s.heap m) (N : News h₀ L s.heap news) (hl : s.heap.IsList l vs.toArray) (hx : x = (a : Int)) (hz : vs.length ≤ 1000)
    (h : ∀ h' D, Fr h₀ L h' m → News h₀ L h' ((D, PySem.W.listOf (vs.take a).toArray 0) :: news) → (∀ q ∈ news, @LT.lt Nat _ q.1 D) → Q (.ref D) { s with heap := h' })
    (hs : subscripted slice false (.ref l) (.ref s.heap.objs.size) = operate [.ref s.heap.objs.size, .ref l] (getItem (.ref l) (.ref s.heap.objs.size)) := by with_unfolding_all rfl)
    (ht : ∀ r, letTemporaryGo value (.ref l) r = pure () := by intro _; with_unfolding_all rfl) :
    wpAny (model prog w) A (subscriptTail value slice (.ref l) (.ref s.heap.objs.size)) Q E { s with heap := s.heap.push { cls := .type "slice", data := .fields #[.none, .int x t, .none] } } := by
  subst hx
  refine slice_list F N hl .none (.int _ _) (fun h' F' N' => ?_) hs ht (by rw [List.size_toArray]; unfold sizeLine; omega)
  refine h h' _ F' (fun p hp => ?_) fun q hq => ?_
  · rw [slicePick_upto'] at N'
    exact N' p hp
  · have := Heap.lt_size (N q hq).1
    exact Nat.lt_succ_of_lt this
theorem sl_from {l : Addr} {vs : List Value} {x : Int} {a : Nat} {t : Tok} {Q : Value → Shared → Prop} (F : Fr h₀ L s.heap m) (N : News h₀ L s.heap news) (hl : s.heap.IsList l vs.toArray) (hx : x = (a : Int)) (hz : vs.length ≤ 1000)
    (h : ∀ h' D, Fr h₀ L h' m → News h₀ L h' ((D, PySem.W.listOf (vs.drop a).toArray 0) :: news) → (∀ q ∈ news, @LT.lt Nat _ q.1 D) → Q (.ref D) { s with heap := h' })
    (hs : subscripted slice false (.ref l) (.ref s.heap.objs.size) = operate [.ref s.heap.objs.size, .ref l] (getItem (.ref l) (.ref s.heap.objs.size)) := by with_unfolding_all rfl)
    (ht : ∀ r, letTemporaryGo value (.ref l) r = pure () := by intro _; with_unfolding_all rfl) :
    wpAny (model prog w) A (subscriptTail value slice (.ref l) (.ref s.heap.objs.size)) Q E { s with heap := s.heap.push { cls := .type "slice", data := .fields #[.int x t, .none, .none] } } := by
  subst hx
  refine slice_list F N hl (.int _ _) .none (fun h' F' N' => ?_) hs ht (by rw [List.size_toArray]; unfold sizeLine; omega)
  refine h h' _ F' (fun p hp => ?_) fun q hq => ?_
  · rw [slicePick_from'] at N'
    exact N' p hp
  · have := Heap.lt_size (N q hq).1
    exact Nat.lt_succ_of_lt this
end
theorem ints_take : ∀ {vs : List Value} {ns : List Int}, IntsAre vs ns → ∀ k : Nat, IntsAre (vs.take k) (ns.take k)
  | _, _, _, 0 => by simp only [List.take_zero]; exact .nil
  | _, _, .nil, k + 1 => .nil
  | _, _, .cons a t h, k + 1 => .cons a t (ints_take h k)
theorem ints_drop : ∀ {vs : List Value} {ns : List Int}, IntsAre vs ns → ∀ k : Nat, IntsAre (vs.drop k) (ns.drop k)
  | _, _, h, 0 => h
  | _, _, .nil, k + 1 => .nil
  | _, _, .cons a t h, k + 1 => ints_drop h k
end
section
open PySem PySem.W PyProof.Rows PySem.Calls
set_option maxRecDepth 100000
set_option maxHeartbeats 8000000

/-- figures to the base 2 ^ nn, the lowest first -/
noncomputable def sumD (ds : List Int) (nn : Nat) : Nat → Nat → Int
  | _, 0 => 0
  | L, k + 1 => ds.getD L 0 + 2 ^ nn * sumD ds nn (L + 1) k
theorem sumD_add (ds : List Int) (nn : Nat) : ∀ (a b L : Nat), sumD ds nn L (a + b) = sumD ds nn L a + 2 ^ (nn * a) * sumD ds nn (L + a) b
  | 0, b, L => by simp [sumD]
  | a + 1, b, L => by
    rw [show a + 1 + b = (a + b) + 1 from by lia, sumD, sumD, sumD_add ds nn a b (L + 1), show L + 1 + a = L + (a + 1) from by lia, Nat.mul_succ, Nat.add_comm (nn * a) nn, Int.pow_add, Int.mul_add, ← Int.mul_assoc, Int.add_assoc]
theorem sumD_bound {ds : List Int} {nn : Nat} (h : ∀ i, 0 ≤ ds.getD i 0 ∧ ds.getD i 0 < 2 ^ nn) : ∀ k L, 0 ≤ sumD ds nn L k ∧ sumD ds nn L k < 2 ^ (nn * k)
  | 0, L => by simp [sumD]
  | k + 1, L => by
    obtain ⟨h1, h2⟩ := h L
    obtain ⟨h3, h4⟩ := sumD_bound h k (L + 1)
    rw [sumD, Nat.mul_succ, Nat.add_comm (nn * k) nn, Int.pow_add]
    have hp : (0 : Int) < 2 ^ nn := Int.pow_pos (by decide)
    have h5 : 0 ≤ 2 ^ nn * sumD ds nn (L + 1) k := Int.mul_nonneg (Int.le_of_lt hp) h3
    have h6 : 2 ^ nn * (sumD ds nn (L + 1) k + 1) ≤ 2 ^ nn * (2 : Int) ^ (nn * k) := Int.mul_le_mul_of_nonneg_left (by omega) (Int.le_of_lt hp)
    rw [Int.mul_add, Int.mul_one] at h6
    constructor <;> omega
theorem hide_step {h h' : Heap} {as : List Addr} {L : Addr} {m : Str → Option Value} (F : Fr (hideAll h as) L h' m) : ∀ b o, (hideAll h as).get? b = some o → (hideAll h' as).get? b = some o := fun b o e =>
  hideAll_get _ (F.keep b o e) fun q => by rw [hide_none q] at e; cases e
theorem codeRec_keep {h h' : Heap} {v : Value} {q : Str} (k : ∀ b o, h.get? b = some o → h'.get? b = some o) (x : h.CodeRec v q) : h'.CodeRec v q := by
  obtain ⟨c, o, vs, t, e1, e2, e3⟩ := x
  exact ⟨c, o, vs, t, e1, k _ _ e2, e3⟩
theorem mem4 {a b c d : Addr} {oa ob oc od : Obj} {p : Addr × Obj} (hp : p ∈ [(a, oa), (b, ob), (c, oc), (d, od)]) : p.1 ∈ [a, b, c, d] := by
  have := List.mem_map_of_mem (f := Prod.fst) hp
  exact this
/-- what is so of the inner def's objects, out of the heap's rest -/
structure InD (w : World) (h : Heap) (f cI cN cD : Addr) (pr : Arguments) (bd : List Stmt) (sc : Scope) (qual : Str) (cl : List (Str × Addr)) (doc pm : Value) (c' : Addr) (ctv : Value) (oI oN oD : Obj) : Prop where
  fn : h.get? f = some (fnMade (Str.ofString "inner") qual pr bd sc cl doc pm c' ctv)
  gI : h.get? cI = some oI
  gN : h.get? cN = some oN
  gD : h.get? cD = some oD
  cr : (hideAll h [f, cI, cN, cD]).CodeRec (.ref c') qual
theorem InD.led {w : World} {h : Heap} {f cI cN cD : Addr} {pr : Arguments} {bd : List Stmt} {sc : Scope} {qual : Str} {cl : List (Str × Addr)} {doc pm : Value} {c' : Addr} {ctv : Value} {oI oN oD : Obj} (I : InD w h f cI cN cD pr bd sc qual cl doc pm c' ctv oI oN oD) :
    ∀ p ∈ [(f, fnMade (Str.ofString "inner") qual pr bd sc cl doc pm c' ctv), (cI, oI), (cN, oN), (cD, oD)], h.get? p.1 = some p.2 ∧ (hideAll h [f, cI, cN, cD]).get? p.1 = none := by
  intro p hp
  refine ⟨?_, hide_none (mem4 hp)⟩
  rcases List.mem_cons.mp hp with rfl | hp
  · exact I.fn
  rcases List.mem_cons.mp hp with rfl | hp
  · exact I.gI
  rcases List.mem_cons.mp hp with rfl | hp
  · exact I.gN
  rcases List.mem_cons.mp hp with rfl | hp
  · exact I.gD
  · cases hp
structure D2I (w : World) (pr : Arguments) (bd : List Stmt) (sc : Scope) (qual : Str) (f cD cI cN c' l : Addr) (oD oI oN : Obj) (doc pm ctv : Value) (vs : List Value) (ds : List Int) (nn : Nat) (b : Nat) : Prop where
  go : ∀ (k : Nat) {A : Around} {s : Shared} {Q E : Value → Shared → Prop} {L : Nat} {t1 t2 : Tok}, k ≤ b → 1 ≤ k → L + k ≤ ds.length → Cx w A (hideAll s.heap [f, cI, cN, cD]) → A.depth + b < 900 → A.units + 3 * b < 8000 →
     InD w s.heap f cI cN cD pr bd sc qual [(Str.ofString "n", cN), (Str.ofString "inner", cI), (Str.ofString "digits", cD)] doc pm c' ctv oI oN oD → (hideAll s.heap [f, cI, cN, cD]).IsList l vs.toArray →
     (∀ t h' tk', Keep s.heap h' → Q (.int (sumD ds nn L k) t) { s with heap := h', toks := tk' }) →
     wpAny (model Challenge.rw_zo0018_01.row.prog w) A (call (.ref f) [.int (L : Int) t1, .int ((L + k : Nat) : Int) t2]) Q E s
theorem bits_le {x : Int} {k : Nat} (h0 : 0 ≤ x) (h : x < 2 ^ k) : Builtin.Int.intBits x ≤ k := by
  unfold Builtin.Int.intBits
  by_cases hx : x = 0
  · subst hx; simp
  · rw [if_neg (by simpa using hx)]
    have h1 : x.natAbs < 2 ^ k := by
      have e : (x.natAbs : Int) = x := Int.natAbs_of_nonneg h0
      have : (x.natAbs : Int) < ((2 ^ k : Nat) : Int) := by rw [e]; push_cast; exact h
      exact Int.ofNat_lt.mp this
    have := (Nat.log2_lt (n := x.natAbs) (k := k) (by lia)).mpr h1
    omega
/-- a closure's call keeps what stood -/
structure KeepBy (h h₀ : Heap) (news : List (Addr × Obj)) : Prop where
  go : ∀ L h' m, Fr h₀ L h' m → News h₀ L h' news → Keep h h'
theorem D2I.call {w : World} {pr : Arguments} {bd : List Stmt} {sc : Scope} {qual : Str} {f cD cI cN c' l : Addr} {oD oI oN : Obj} {doc pm ctv : Value} {vs : List Value} {ds : List Int} {nn : Nat} {b : Nat}
    (ih : D2I w pr bd sc qual f cD cI cN c' l oD oI oN doc pm ctv vs ds nn b) {A : Around} {s : Shared} {Q E : Value → Shared → Prop} {h₀ base : Heap} {outer : List Env} {L0 : Addr} {m mg mb : Str → Option Value} {loose : List Str} {mean : ExcName → Option Value} {env : Env} {L k : Nat} {x y : Int} {t1 t2 : Tok} {pre post : List (Addr × Obj)}
    (B : Below A base outer h₀) (F : Fr h₀ L0 s.heap m) (N : News h₀ L0 s.heap (pre ++ (f, fnMade (Str.ofString "inner") qual pr bd sc [(Str.ofString "n", cN), (Str.ofString "inner", cI), (Str.ofString "digits", cD)] doc pm c' ctv) :: (cI, oI) :: (cN, oN) :: (cD, oD) :: post)) (X : (hd.heap_39 w.params).In h₀) (T : Top topProg loose mean mg mb h₀) (hh : A.handled = none) (hf : env.frame = some L0) (hke : env.scope.kind = .function)
    (hcr : ∃ h₁ : Heap, h₁.CodeRec (.ref c') qual ∧ ∀ a o, h₁.get? a = some o → s.heap.get? a = some o ∧ a ∉ [f, cI, cN, cD]) (hl : h₀.IsList l vs.toArray) (hdp : A.depth + 1 + b < 900) (hu : A.units + 3 + 3 * b < 8000) (hx : x = (L : Int)) (hy : y = ((L + k : Nat) : Int)) (hk : k ≤ b) (hk1 : 1 ≤ k) (hL : L + k ≤ ds.length)
    (h : ∀ t h' tk', Fr h₀ L0 h' m → News h₀ L0 h' (pre ++ (f, fnMade (Str.ofString "inner") qual pr bd sc [(Str.ofString "n", cN), (Str.ofString "inner", cI), (Str.ofString "digits", cD)] doc pm c' ctv) :: (cI, oI) :: (cN, oN) :: (cD, oD) :: post) → Keep s.heap h' → Q (.int (sumD ds nn L k) t) { s with heap := h', toks := tk' }) :
    wpAny (model Challenge.rw_zo0018_01.row.prog w) (A.deeper env) (call (.ref f) [.int x t1, .int y t2]) Q E s := by
  subst hx hy
  have m1 : ∀ {a o}, (a, o) ∈ [(f, fnMade (Str.ofString "inner") qual pr bd sc [(Str.ofString "n", cN), (Str.ofString "inner", cI), (Str.ofString "digits", cD)] doc pm c' ctv), (cI, oI), (cN, oN), (cD, oD)] → s.heap.get? a = some o ∧ a ≠ L0 ∧ h₀.get? a = none := fun {a o} hm => N (a, o) (List.mem_append_right _ (by
    simp only [List.mem_cons, List.not_mem_nil, or_false] at hm ⊢
    rcases hm with h | h | h | h
    · exact .inl h
    · exact .inr (.inl h)
    · exact .inr (.inr (.inl h))
    · exact .inr (.inr (.inr (.inl h)))))
  have z0 := m1 (a := f) (.head _)
  have z1 := m1 (a := cI) (.tail _ (.head _))
  have z2 := m1 (a := cN) (.tail _ (.tail _ (.head _)))
  have z3 := m1 (a := cD) (.tail _ (.tail _ (.tail _ (.head _))))
  have hid : ∀ a ∈ [f, cI, cN, cD], a ≠ L0 ∧ h₀.get? a = none := by
    intro a ha
    rcases List.mem_cons.mp ha with rfl | ha
    · exact z0.2
    rcases List.mem_cons.mp ha with rfl | ha
    · exact z1.2
    rcases List.mem_cons.mp ha with rfl | ha
    · exact z2.2
    rcases List.mem_cons.mp ha with rfl | ha
    · exact z3.2
    · cases ha
  have st : ∀ a o, h₀.get? a = some o → (hideAll s.heap [f, cI, cN, cD]).get? a = some o := fun a o e => hideAll_get _ (F.keep a o e) fun q => by rw [(hid a q).2] at e; cases e
  obtain ⟨hc1, hc2, hc3⟩ := hcr
  refine ih.go k hk hk1 hL (Cx.push B (fr_hide F hid) X T hh hf hke) hdp hu ⟨z0.1, z1.1, z2.1, z3.1, codeRec_keep (fun a o e => hideAll_get _ (hc3 a o e).1 (hc3 a o e).2) hc2⟩ (hl.at fun o e => st _ o e) fun t h' tk' hK => ?_
  exact h t h' tk' (F.keeps hK) (N.grown hK) hK
theorem hid4 {w : World} {h : Heap} {f cI cN cD : Addr} {pr : Arguments} {bd : List Stmt} {sc : Scope} {qual : Str} {cl : List (Str × Addr)} {doc pm : Value} {c' : Addr} {ctv : Value} {oI oN oD : Obj} (I : InD w h f cI cN cD pr bd sc qual cl doc pm c' ctv oI oN oD) :
    ∀ a ∈ [f, cI, cN, cD], ∃ o, (a, o) ∈ [(f, fnMade (Str.ofString "inner") qual pr bd sc cl doc pm c' ctv), (cI, oI), (cN, oN), (cD, oD)] ∧ h.get? a = some o := by
  intro a ha
  rcases List.mem_cons.mp ha with rfl | ha
  · exact ⟨_, .head _, I.fn⟩
  rcases List.mem_cons.mp ha with rfl | ha
  · exact ⟨_, .tail _ (.head _), I.gI⟩
  rcases List.mem_cons.mp ha with rfl | ha
  · exact ⟨_, .tail _ (.tail _ (.head _)), I.gN⟩
  rcases List.mem_cons.mp ha with rfl | ha
  · exact ⟨_, .tail _ (.tail _ (.tail _ (.head _))), I.gD⟩
  · cases ha
/-- a half of the way -/
structure Half (L k a b n c : Nat) : Prop where
  s1 : a + (k - a) = k
  a1 : 1 ≤ a
  r1 : 1 ≤ k - a
  ab : a ≤ b
  rb : k - a ≤ b
  an : L + a ≤ n
  rn : L + a + (k - a) ≤ n
  ac : a ≤ c
  rc : k - a ≤ c
  m2 : ((L : Int) + ((L + k : Nat) : Int)) / 2 = ((L + a : Nat) : Int)
theorem Half.of {L k a b n c : Nat} (ha : a = k / 2) (hk : 2 ≤ k) (hb : k ≤ b + 1) (hn : L + k ≤ n) (hc : n ≤ c) : Half L k a b n c := by
  have s1 : a + (k - a) = k := by omega
  have a1 : 1 ≤ a := by omega
  have r1 : 1 ≤ k - a := by omega
  have rn : L + a + (k - a) ≤ n := by rw [Nat.add_assoc, s1]; exact hn
  have rc : L + k ≤ c := Nat.le_trans hn hc
  have kc : k ≤ c := Nat.le_trans (Nat.le_add_left k L) rc
  exact ⟨s1, a1, r1, by omega, by omega, Nat.le_trans (Nat.le_add_right _ _) rn, rn, Nat.le_trans (s1 ▸ Nat.le_add_right a (k - a)) kc, Nat.le_trans (Nat.sub_le k a) kc, by omega⟩
theorem d3 {d b N : Nat} (h : d + (b + 1) < N) : d + 1 + b < N := by rw [Nat.add_assoc, Nat.add_comm 1 b]; exact h
theorem u3 {d b N : Nat} (h : d + 3 * (b + 1) < N) : d + 3 + 3 * b < N := by rw [Nat.add_assoc, Nat.add_comm 3]; exact h
theorem d2i_step {w : World} {pr : Arguments} {bd : List Stmt} {sc : Scope} (hp : nestOf (hd.heap_39 w.params) 71 = some (pr, bd, sc)) {qual : Str} {f cD cI cN c' l : Addr} {oD oI oN : Obj} {doc pm ctv : Value} {vs : List Value} {ds : List Int} {nn : Nat} {tn : Tok}
   (hdD : oD.data = .cell (some (.ref l))) (hdI : oI.data = .cell (some (.ref f))) (hdN : oN.data = .cell (some (.int (nn : Int) tn))) (hi : IntsAre vs ds) (hds : ∀ i, 0 ≤ ds.getD i 0 ∧ ds.getD i 0 < 2 ^ nn) (hnn : 1 ≤ nn ∧ nn ≤ 8) (hlen : ds.length ≤ 30)
   {b : Nat} (ih : D2I w pr bd sc qual f cD cI cN c' l oD oI oN doc pm ctv vs ds nn b) : D2I w pr bd sc qual f cD cI cN c' l oD oI oN doc pm ctv vs ds nn (b + 1) := by
  with_unfolding_all (change some (_, _, _) = some (pr, bd, sc) at hp)
  injection hp with hp
  injection hp with h1 h2
  injection h2 with h2 h3
  subst h1 h2 h3
  refine ⟨?_⟩
  intro k A s Q E L t1 t2 hb h1 hL C hdp hu I hl h
  have hk₀ : ∀ a o, (hideAll s.heap [f, cI, cN, cD]).get? a = some o → s.heap.get? a = some o := fun a o e => of_hideAll _ e
  have hz₀ := hideAll_size [f, cI, cN, cD] s.heap
  have hn₀ := I.led
  have hcd := codeRec_keep hk₀ I.cr
  have hcr := I.cr
  have hkp : KeepBy s.heap (hideAll s.heap [f, cI, cN, cD]) _ := ⟨fun L0 h' m F N => keep_hidden F N (hid4 I)⟩
  have hnh : ∀ a o, (hideAll s.heap [f, cI, cN, cD]).get? a = some o → a ∉ [f, cI, cN, cD] := fun a o e q => by rw [hide_none q] at e; cases e
  clear I
  generalize hideAll s.heap [f, cI, cN, cD] = h₀ at *
  have hh := C.hh
  obtain ⟨hd0, dp0, fr0, gd0, un0⟩ := A
  obtain rfl : hd0 = none := hh
  dsimp only at hdp hu
  refine wpAny_call ?_
  w_on
  k_dflt (refine' enterN ?k1 ?kS ?kZ ?kN ?k6 ?k7 ?k8 ?k9 ?kB ?_ ?c2 ?c3 ?c4 ?c5; (case k1 => exact C); (case kS => exact hk₀); (case kZ => exact hz₀); (case kN => exact hn₀); (case k6 => exact List.mem_cons_self); (case k7 => exact hcd); (case k8 => (simp only [recursionLimit]; omega)); (case k9 => first | exact BindsTo.of_eq rfl | fail "no rule for these arguments"); (case c5 => decide); (case kB => exact locs rfl); (case c2 => exact rfl); (case c3 => exact rfl); (case c4 => exact rfl); k_whole; intro L' h' bse outer loose mean mg mb B' X' T' F' N' K' S'; clear C; (try dsimp only); (try k_fold))
  clear hn₀ hk₀ hz₀ hcd
  have hcode : CodeHd h₀ 70 66 := codeHd_of_K X' (by kernel_rfl)
  repeat' (first | (k_unfold; (try dsimp only)) | (k_end; wrow_close) | ((fail_if_success (with_reducible show wpAny _ _ (call (Value.ref _) _) _ _ _)); dsimp only; walk1) | ((fail_if_success (with_reducible show wpAny _ _ (call (Value.ref _) _) _ _ _)); walk1) | (k_end; dsimp only; k_unfold; (try dsimp only)))
  · have ek : k = 1 := by omega
    subst ek
    rename Fr _ _ _ _ => F9
    rename News _ _ _ _ => N9
    have e : sumD ds nn L 1 = ds.getD (L : Int).toNat 0 := by rw [show (L : Int).toNat = L from by lia]; simp [sumD]
    rw [← e]
    exact h _ _ _ (hkp.go _ _ _ F9 N9)
  · rename Fr _ _ _ _ => F9
    rename News _ _ _ _ => N9
    obtain ⟨a, ha⟩ : ∃ a, a = k / 2 := ⟨_, rfl⟩
    have hk2 : 2 ≤ k := by omega
    have H : Half L k a b ds.length 30 := Half.of ha hk2 hb hL hlen
    have e1 : ((L : Int) + ((L + k : Nat) : Int)).fdiv (2 ^ Int.toNat 1) = ((L + a : Nat) : Int) := by
      rw [show (2 : Int) ^ Int.toNat 1 = 2 from rfl, Int.fdiv_eq_ediv_of_nonneg _ (by decide)]; exact H.m2
    have e2 : (((L : Int) + ((L + k : Nat) : Int)).fdiv (2 ^ Int.toNat 1) - (L : Int)) * (nn : Int) = ((a * nn : Nat) : Int) := by
      rw [e1]; push_cast; congr 1; lia
    have e4 : ((L + k : Nat) : Int) = ((L + a + (k - a) : Nat) : Int) := by congr 1; rw [Nat.add_assoc, H.s1]
    refine D2I.call ih (pre := []) (post := []) (L := L + a) (k := k - a) B' F9 N9 X' T' rfl rfl rfl ⟨h₀, hcr, fun b o e => ⟨F9.keep b o e, hnh b o e⟩⟩ hl (by show dp0 + 1 + b < 900; exact d3 hdp) (by show un0 + 3 + 3 * b < 8000; exact u3 hu) e1 e4 H.rb H.r1 H.rn ?_
    intro t3 h3 tk3 F3 N3 K3
    clear F9 N9
    dsimp only [List.nil_append] at N3
    dsimp only
    repeat' (first | (k_unfold; (try dsimp only)) | (k_end; wrow_close) | ((fail_if_success (with_reducible show wpAny _ _ (binaryOp Operator.LShift _ _) _ _ _)); dsimp only; walk1) | ((fail_if_success (with_reducible show wpAny _ _ (binaryOp Operator.LShift _ _) _ _ _)); walk1) | (k_end; dsimp only; k_unfold; (try dsimp only)))
    rw [e2]
    have hb0 := sumD_bound hds (k - a) (L + a)
    have hb1 := bits_le hb0.1 hb0.2
    have hb2 : nn * (k - a) ≤ 8 * 30 := Nat.mul_le_mul hnn.2 H.rc
    have hb3 : a * nn ≤ 30 * 8 := Nat.mul_le_mul H.ac hnn.2
    refine lshift_int (by omega) (by omega) ?_
    clear hb0 hb1 hb2 hb3
    repeat' (first | (k_unfold; (try dsimp only)) | (k_end; wrow_close) | ((fail_if_success (with_reducible show wpAny _ _ (call (Value.ref _) _) _ _ _)); dsimp only; walk1) | ((fail_if_success (with_reducible show wpAny _ _ (call (Value.ref _) _) _ _ _)); walk1) | (k_end; dsimp only; k_unfold; (try dsimp only)))
    refine D2I.call ih (pre := []) (post := []) (L := L) (k := a) B' F3 N3 X' T' rfl rfl rfl ⟨h₀, hcr, fun b o e => ⟨F3.keep b o e, hnh b o e⟩⟩ hl (by show dp0 + 1 + b < 900; exact d3 hdp) (by show un0 + 3 + 3 * b < 8000; exact u3 hu) rfl e1 H.ab H.a1 H.an ?_
    intro t4 h4 tk4 F4 N4 K4
    dsimp only [List.nil_append] at N4
    dsimp only
    repeat' (first | (k_unfold; (try dsimp only)) | (k_end; wrow_close) | (dsimp only; walk1) | (walk1) | (k_end; dsimp only; k_unfold; (try dsimp only)))
    have e3 : sumD ds nn (L + a) (k - a) * 2 ^ ((a * nn : Nat) : Int).toNat + sumD ds nn L a = sumD ds nn L k := by
      have := sumD_add ds nn a (k - a) L
      rw [H.s1] at this
      rw [this, Int.toNat_natCast, Nat.mul_comm a nn, Int.mul_comm (sumD ds nn (L + a) (k - a)), Int.add_comm]
    rw [e3]
    exact h _ _ _ (hkp.go _ _ _ F4 N4)
theorem d2i_all {w : World} {pr : Arguments} {bd : List Stmt} {sc : Scope} (hp : nestOf (hd.heap_39 w.params) 71 = some (pr, bd, sc)) {qual : Str} {f cD cI cN c' l : Addr} {oD oI oN : Obj} {doc pm ctv : Value} {vs : List Value} {ds : List Int} {nn : Nat} {tn : Tok}
   (hdD : oD.data = .cell (some (.ref l))) (hdI : oI.data = .cell (some (.ref f))) (hdN : oN.data = .cell (some (.int (nn : Int) tn))) (hi : IntsAre vs ds) (hds : ∀ i, 0 ≤ ds.getD i 0 ∧ ds.getD i 0 < 2 ^ nn) (hnn : 1 ≤ nn ∧ nn ≤ 8) (hlen : ds.length ≤ 30) :
   ∀ b, D2I w pr bd sc qual f cD cI cN c' l oD oI oN doc pm ctv vs ds nn b
  | 0 => ⟨fun k _ _ _ _ _ _ _ hk h1 => by omega⟩
  | b + 1 => d2i_step hp hdD hdI hdN hi hds hnn hlen (d2i_all hp hdD hdI hdN hi hds hnn hlen b)
end
section
open PySem PySem.W PyProof.Rows PySem.Calls
set_option maxRecDepth 100000
set_option maxHeartbeats 8000000

theorem fold_reps (v : Value) : ∀ (m : Nat) (acc : Array Value), List.foldl (fun (x1 x2 : Array Value) => x1 ++ x2) acc (List.replicate m #[v]) = acc ++ (List.replicate m v).toArray
  | 0, acc => by simp
  | m + 1, acc => by
    rw [List.replicate_succ, List.foldl_cons, fold_reps v m, List.replicate_succ]
    apply Array.toList_inj.mp
    simp
theorem ints_reps (t : Tok) : ∀ m, IntsAre (List.replicate m (.int 0 t)) (List.replicate m 0)
  | 0 => .nil
  | m + 1 => .cons _ _ (ints_reps t m)
section
variable {prog : Program} {w : World} {A : Around} {E : Value → Shared → Prop} {s : Shared} {h₀ : Heap} {L : Addr} {m : Str → Option Value} {news : List (Addr × Obj)}
theorem mul_zeros {l : Addr} {c n : Nat} {x : Int} {u t : Tok} {Q : Value → Shared → Prop} (F : Fr h₀ L s.heap m) (N : News h₀ L s.heap news)
    (hl : s.heap.get? l = some (PySem.W.listOf #[.int 0 t] c)) (hx : x = (n : Int)) (hn : n ≤ 1000)
    (h : ∀ h' D vs c', Fr h₀ L h' m → News h₀ L h' ((D, PySem.W.listOf (vs : List Value).toArray c') :: news) → IntsAre vs (List.replicate n 0) → (∀ q ∈ news, q.1 < D) → Q (.ref D) { s with heap := h' }) :
    wpAny (model prog w) A (binaryOp .Mult (.ref l) (.int x u)) Q E s := by
  subst hx
  refine mul_list F N hl (by omega) (by omega) (by show 1 * ((n : Int)).toNat ≤ 2 ^ 24; omega) fun h' F' N' => ?_
  refine h h' s.heap.objs.size (List.replicate n (.int 0 t)) 0 F' (fun p hp => ?_) (ints_reps t n) (fun q hq => Heap.lt_size (N q hq).1)
  rcases List.mem_cons.mp hp with rfl | hp
  · have z := N' _ List.mem_cons_self
    refine ⟨z.1.trans ?_, z.2⟩
    dsimp only
    rw [if_neg (by simp), show ((n : Int)).toNat = n from by omega, fold_reps]
    simp
  · exact N' p (List.mem_cons_of_mem _ hp)
end
/-- the figures of x, k of them, put from L on -/
noncomputable def putD (nn x L : Nat) (ns : List Int) : Nat → List Int
  | 0 => ns
  | k + 1 => (putD nn x L ns k).set (L + k) (((x / 2 ^ (nn * k)) % 2 ^ nn : Nat) : Int)
theorem putD_length (nn x L : Nat) (ns : List Int) : ∀ k, (putD nn x L ns k).length = ns.length
  | 0 => rfl
  | k + 1 => by rw [putD, List.length_set, putD_length nn x L ns k]
theorem putD_split (nn x L : Nat) (ns : List Int) (a : Nat) : ∀ b, putD nn x L ns (a + b) = putD nn (x / 2 ^ (nn * a)) (L + a) (putD nn x L ns a) b
  | 0 => rfl
  | b + 1 => by
    rw [show a + (b + 1) = (a + b) + 1 from by omega, putD, putD, putD_split nn x L ns a b, Nat.div_div_eq_div_mul, ← Nat.pow_add, ← Nat.mul_add, Nat.add_assoc]
theorem putD_low (nn x L : Nat) (ns : List Int) (a : Nat) : ∀ k, k ≤ a → putD nn (x % 2 ^ (nn * a)) L ns k = putD nn x L ns k
  | 0, _ => rfl
  | k + 1, hk => by
    rw [putD, putD, putD_low nn x L ns a k (by omega)]
    congr 2
    have e : 2 ^ (nn * a) = 2 ^ (nn * k) * (2 ^ nn * 2 ^ (nn * (a - k - 1))) := by
      rw [← Nat.pow_add, ← Nat.pow_add]; congr 1
      rw [show a = k + (1 + (a - k - 1)) from by omega, Nat.mul_add, Nat.mul_add, show k + (1 + (a - k - 1)) - k - 1 = a - k - 1 from by omega]; omega
    rw [e, Nat.mod_mul_right_div_self, Nat.mod_mod_of_dvd _ ⟨_, rfl⟩]
theorem upper_bit (x s i : Nat) : (x / 2 ^ s * 2 ^ s).testBit i = (decide (s ≤ i) && x.testBit i) := by
  rw [Nat.testBit_mul_two_pow, Nat.testBit_div_two_pow]
  by_cases h : s ≤ i
  · rw [Nat.sub_add_cancel h]
  · simp [h]
theorem upper_or (x s : Nat) : x ||| (x / 2 ^ s * 2 ^ s) = x := by
  apply Nat.eq_of_testBit_eq
  intro i
  rw [Nat.testBit_or, upper_bit]
  cases x.testBit i <;> simp
theorem upper_and (x s : Nat) : x &&& (x / 2 ^ s * 2 ^ s) = x / 2 ^ s * 2 ^ s := by
  apply Nat.eq_of_testBit_eq
  intro i
  rw [Nat.testBit_and, upper_bit]
  cases x.testBit i <;> simp
theorem and_nat (a b : Nat) : Builtin.bitAnd (a : Int) (b : Int) = ((a &&& b : Nat) : Int) := by
  unfold Builtin.bitAnd
  simp
theorem or_nat (a b : Nat) : Builtin.bitOr (a : Int) (b : Int) = ((a ||| b : Nat) : Int) := by
  have na : ∀ c : Nat, decide ((0 : Int) ≤ -(c : Int) - 1) = false := fun c => decide_eq_false (by omega)
  have nb : ∀ c : Nat, (Builtin.bitNot (-(c : Int) - 1)).toNat = c := fun c => by unfold Builtin.bitNot; omega
  show Builtin.bitNot (Builtin.bitAnd (-(a : Int) - 1) (-(b : Int) - 1)) = _
  unfold Builtin.bitAnd
  rw [na a, na b]
  show Builtin.bitNot (Builtin.bitNot (((Builtin.bitNot (-(a : Int) - 1)).toNat ||| (Builtin.bitNot (-(b : Int) - 1)).toNat : Nat) : Int)) = _
  rw [nb, nb]
  unfold Builtin.bitNot
  omega
theorem low_xor (x s : Nat) : Builtin.bitXor (x : Int) ((x / 2 ^ s * 2 ^ s : Nat) : Int) = ((x % 2 ^ s : Nat) : Int) := by
  unfold Builtin.bitXor
  rw [or_nat, and_nat, upper_or, upper_and]
  have := Nat.div_add_mod x (2 ^ s)
  rw [Nat.mul_comm] at this
  omega
end
section
open PySem PySem.W PyProof.Rows PySem.Calls
set_option maxRecDepth 100000
set_option maxHeartbeats 8000000

structure InI (w : World) (h : Heap) (f cI cN cC D : Addr) (pr : Arguments) (bd : List Stmt) (sc : Scope) (qual : Str) (cl : List (Str × Addr)) (doc pm : Value) (c' : Addr) (ctv : Value) (oI oN oC oD : Obj) : Prop where
  fn : h.get? f = some (fnMade (Str.ofString "inner") qual pr bd sc cl doc pm c' ctv)
  gI : h.get? cI = some oI
  gN : h.get? cN = some oN
  gC : h.get? cC = some oC
  gD : h.get? D = some oD
  cr : (hideAll h [f, cI, cN, cC, D]).CodeRec (.ref c') qual
  nf : f ≠ D
  nI : cI ≠ D
  nN : cN ≠ D
  nC : cC ≠ D
noncomputable abbrev ledI (f cI cN cC D : Addr) (oF oI oN oC oD : Obj) : List (Addr × Obj) := [(f, oF), (cI, oI), (cN, oN), (cC, oC), (D, oD)]
theorem led_all {f cI cN cC D : Addr} {oF oI oN oC oD : Obj} {P : Addr × Obj → Prop} (h1 : P (f, oF)) (h2 : P (cI, oI)) (h3 : P (cN, oN)) (h4 : P (cC, oC)) (h5 : P (D, oD)) : ∀ p ∈ ledI f cI cN cC D oF oI oN oC oD, P p := by
  intro p hp
  rcases List.mem_cons.mp hp with rfl | hp
  · exact h1
  rcases List.mem_cons.mp hp with rfl | hp
  · exact h2
  rcases List.mem_cons.mp hp with rfl | hp
  · exact h3
  rcases List.mem_cons.mp hp with rfl | hp
  · exact h4
  rcases List.mem_cons.mp hp with rfl | hp
  · exact h5
  · cases hp
theorem adr_all {f cI cN cC D : Addr} {P : Addr → Prop} (h1 : P f) (h2 : P cI) (h3 : P cN) (h4 : P cC) (h5 : P D) : ∀ a ∈ [f, cI, cN, cC, D], P a := by
  intro a ha
  rcases List.mem_cons.mp ha with rfl | ha
  · exact h1
  rcases List.mem_cons.mp ha with rfl | ha
  · exact h2
  rcases List.mem_cons.mp ha with rfl | ha
  · exact h3
  rcases List.mem_cons.mp ha with rfl | ha
  · exact h4
  rcases List.mem_cons.mp ha with rfl | ha
  · exact h5
  · cases ha
theorem mem5 {f cI cN cC D : Addr} {oF oI oN oC oD : Obj} {p : Addr × Obj} (hp : p ∈ ledI f cI cN cC D oF oI oN oC oD) : p.1 ∈ [f, cI, cN, cC, D] := by
  have := List.mem_map_of_mem (f := Prod.fst) hp
  exact this
/-- what stood stands, but the list -/
structure KeepBut (h h₀ : Heap) (f cI cN cC D : Addr) (oF oI oN oC : Obj) : Prop where
  go : ∀ L h' m o', Fr h₀ L h' m → News h₀ L h' (ledI f cI cN cC D oF oI oN oC o') → ∀ b o, b ≠ D → h.get? b = some o → h'.get? b = some o
noncomputable abbrev cloI (cN cI cC : Addr) : List (Str × Addr) := [(Str.ofString "n", cN), (Str.ofString "inner", cI), (Str.ofString "a_digits", cC)]
structure I2D (w : World) (pr : Arguments) (bd : List Stmt) (sc : Scope) (qual : Str) (f cI cN cC c' D : Addr) (oI oN oC : Obj) (doc pm ctv : Value) (nn : Nat) (b : Nat) : Prop where
  go : ∀ (k : Nat) {A : Around} {s : Shared} {Q E : Value → Shared → Prop} {x L c : Nat} {vs : List Value} {ns : List Int} {t0 t1 t2 : Tok}, k ≤ b → 1 ≤ k → L + k ≤ ns.length → ns.length ≤ 300 → x < 2 ^ (nn * k) → Cx w A (hideAll s.heap [f, cI, cN, cC, D]) → A.depth + b < 950 → A.units + 3 * b < 8500 →
     InI w s.heap f cI cN cC D pr bd sc qual [(Str.ofString "n", cN), (Str.ofString "inner", cI), (Str.ofString "a_digits", cC)] doc pm c' ctv oI oN oC (PySem.W.listOf vs.toArray c) → IntsAre vs ns →
     (∀ h' tk' vs' c', (∀ b o, b ≠ D → s.heap.get? b = some o → h'.get? b = some o) → h'.get? D = some (PySem.W.listOf (vs' : List Value).toArray c') → IntsAre vs' (putD nn x L ns k) → Q .none { s with heap := h', toks := tk' }) →
     wpAny (model Challenge.rw_zo0018_01.row.prog w) A (call (.ref f) [.int (x : Int) t0, .int (L : Int) t1, .int ((L + k : Nat) : Int) t2]) Q E s
theorem lst_setK {prog : Program} {w : World} {A : Around} {E : Value → Shared → Prop} {s : Shared} {h₀ : Heap} {L : Addr} {m : Str → Option Value} {news : List (Addr × Obj)} {D : Addr} {vs : List Value} {ns : List Int} {c : Nat} {k v : Int} {t t' : Tok} {Q : Unit → Shared → Prop} {nf : Obj → List (Addr × Obj)}
    (F : Fr h₀ L s.heap m) (N : News h₀ L s.heap news) (hm : (D, PySem.W.listOf vs.toArray c) ∈ news) (U : ∀ o', Upd D (PySem.W.listOf vs.toArray c) o' news (nf o')) (hi : IntsAre vs ns) (h0 : 0 ≤ k) (h1 : k < (ns.length : Int)) (h2 : ns.length ≤ 1000)
    (h : ∀ h' vs' c', Fr h₀ L h' m → News h₀ L h' (nf (PySem.W.listOf (vs' : List Value).toArray c')) → IntsAre vs' (ns.set k.toNat v) → Q () { s with heap := h' }) :
    wpAny (model prog w) A (setItem (.ref D) (.int k t) (.int v t')) Q E s := by
  have z := N _ hm
  have hvl : vs.length = ns.length := hi.length
  refine ki_setAt z.1 h0 (by omega) (by rw [List.size_toArray, hvl]; exact h1) ?_
  obtain ⟨c', hg⟩ := set_obj (k := k.toNat) (x := .int v t') z.1
  have hs : ∀ b x, b ≠ D → s.heap.get? b = some x → (s.heap.update D (Obj.mapSeq (·.setIfInBounds k.toNat (.int v t')))).get? b = some x := fun b x hb e => (Heap.get?_update_other _ _ (Ne.symm hb)).trans e
  exact h _ _ c' (Fr.ext F hs z.2.1 z.2.2) (news_ext N (U _) hs hg) (ints_set hi _)
theorem I2D.call {w : World} {pr : Arguments} {bd : List Stmt} {sc : Scope} {qual : Str} {f cI cN cC c' D : Addr} {oI oN oC : Obj} {doc pm ctv : Value} {nn b : Nat}
    (ih : I2D w pr bd sc qual f cI cN cC c' D oI oN oC doc pm ctv nn b) {A : Around} {s : Shared} {Q E : Value → Shared → Prop} {h₀ base : Heap} {outer : List Env} {L0 : Addr} {m mg mb : Str → Option Value} {loose : List Str} {mean : ExcName → Option Value} {env : Env} {x L k c : Nat} {xi li ri : Int} {vs : List Value} {ns : List Int} {t0 t1 t2 : Tok} {post : List (Addr × Obj)}
    (B : Below A base outer h₀) (F : Fr h₀ L0 s.heap m) (N : News h₀ L0 s.heap (ledI f cI cN cC D (fnMade (Str.ofString "inner") qual pr bd sc [(Str.ofString "n", cN), (Str.ofString "inner", cI), (Str.ofString "a_digits", cC)] doc pm c' ctv) oI oN oC (PySem.W.listOf vs.toArray c) ++ post)) (X : (hd.heap_39 w.params).In h₀) (T : Top topProg loose mean mg mb h₀) (hh : A.handled = none) (hf : env.frame = some L0) (hke : env.scope.kind = .function)
    (hcr : ∃ h₁ : Heap, h₁.CodeRec (.ref c') qual ∧ ∀ a o, h₁.get? a = some o → s.heap.get? a = some o ∧ a ∉ [f, cI, cN, cC, D]) (ne : f ≠ D ∧ cI ≠ D ∧ cN ≠ D ∧ cC ≠ D) (np : ∀ p ∈ post, p.1 ≠ D) (hi : IntsAre vs ns) (hdp : A.depth + 1 + b < 950) (hu : A.units + 3 + 3 * b < 8500) (hx : xi = (x : Int)) (hL' : li = (L : Int)) (hR : ri = ((L + k : Nat) : Int)) (hk : k ≤ b) (hk1 : 1 ≤ k) (hL : L + k ≤ ns.length) (hn : ns.length ≤ 300) (hxk : x < 2 ^ (nn * k))
    (h : ∀ h' tk' vs' c2, Fr h₀ L0 h' m → News h₀ L0 h' (ledI f cI cN cC D (fnMade (Str.ofString "inner") qual pr bd sc [(Str.ofString "n", cN), (Str.ofString "inner", cI), (Str.ofString "a_digits", cC)] doc pm c' ctv) oI oN oC (PySem.W.listOf (vs' : List Value).toArray c2) ++ post) → IntsAre vs' (putD nn x L ns k) → (∀ b o, b ≠ D → s.heap.get? b = some o → h'.get? b = some o) → Q .none { s with heap := h', toks := tk' }) :
    wpAny (model Challenge.rw_zo0018_01.row.prog w) (A.deeper env) (call (.ref f) [.int xi t0, .int li t1, .int ri t2]) Q E s := by
  subst hx hL' hR
  have N5 : News h₀ L0 s.heap (ledI f cI cN cC D _ oI oN oC _) := fun p hp => N p (List.mem_append_left _ hp)
  have z0 := N5 _ (.head _)
  have z1 := N5 _ (.tail _ (.head _))
  have z2 := N5 _ (.tail _ (.tail _ (.head _)))
  have z3 := N5 _ (.tail _ (.tail _ (.tail _ (.head _))))
  have z4 := N5 _ (.tail _ (.tail _ (.tail _ (.tail _ (.head _)))))
  have hid : ∀ a ∈ [f, cI, cN, cC, D], a ≠ L0 ∧ h₀.get? a = none := adr_all z0.2 z1.2 z2.2 z3.2 z4.2
  obtain ⟨hc1, hc2, hc3⟩ := hcr
  refine ih.go k hk hk1 hL hn hxk (Cx.push B (fr_hide F hid) X T hh hf hke) hdp hu ⟨z0.1, z1.1, z2.1, z3.1, z4.1, codeRec_keep (fun a o e => hideAll_get _ (hc3 a o e).1 (hc3 a o e).2) hc2, ne.1, ne.2.1, ne.2.2.1, ne.2.2.2⟩ hi fun h' tk' vs' c2 hs hg hi' => ?_
  refine h h' tk' vs' c2 (Fr.ext F hs z4.2.1 z4.2.2) ?_ hi' hs
  exact news_ext N (.tail ne.1 (.tail ne.2.1 (.tail ne.2.2.1 (.tail ne.2.2.2 (.head np))))) hs hg
theorem i2d_step {w : World} {pr : Arguments} {bd : List Stmt} {sc : Scope} (hp : nestOf (hd.heap_39 w.params) 64 = some (pr, bd, sc)) {qual : Str} {f cI cN cC c' D : Addr} {oI oN oC : Obj} {doc pm ctv : Value} {nn : Nat} {tn : Tok}
   (hdC : oC.data = .cell (some (.ref D))) (hdI : oI.data = .cell (some (.ref f))) (hdN : oN.data = .cell (some (.int (nn : Int) tn))) (hnn : 1 ≤ nn ∧ nn ≤ 2)
   {b : Nat} (ih : I2D w pr bd sc qual f cI cN cC c' D oI oN oC doc pm ctv nn b) : I2D w pr bd sc qual f cI cN cC c' D oI oN oC doc pm ctv nn (b + 1) := by
  with_unfolding_all (change some (_, _, _) = some (pr, bd, sc) at hp)
  injection hp with hp
  injection hp with h1 h2
  injection h2 with h2 h3
  subst h1 h2 h3
  refine ⟨?_⟩
  intro k A s Q E x L c vs ns t0 t1 t2 hb h1 hL hn hxk C hdp hu I hi h
  have hk₀ : ∀ a o, (hideAll s.heap [f, cI, cN, cC, D]).get? a = some o → s.heap.get? a = some o := fun a o e => of_hideAll _ e
  have hz₀ := hideAll_size [f, cI, cN, cC, D] s.heap
  have hn₀ : ∀ p ∈ ledI f cI cN cC D _ oI oN oC _, s.heap.get? p.1 = some p.2 ∧ (hideAll s.heap [f, cI, cN, cC, D]).get? p.1 = none := fun p hp => ⟨led_all (P := fun p => s.heap.get? p.1 = some p.2) I.fn I.gI I.gN I.gC I.gD p hp, hide_none (mem5 hp)⟩
  have hcd := codeRec_keep hk₀ I.cr
  have hcr := I.cr
  have hne : f ≠ D ∧ cI ≠ D ∧ cN ≠ D ∧ cC ≠ D := ⟨I.nf, I.nI, I.nN, I.nC⟩
  have hkp : KeepBut s.heap (hideAll s.heap [f, cI, cN, cC, D]) f cI cN cC D _ oI oN oC := ⟨fun L0 h' m o' F N b o hb e => by
    by_cases hm : b ∈ [f, cI, cN, cC, D]
    · refine adr_all (P := fun b => b ≠ D → s.heap.get? b = some o → h'.get? b = some o) ?_ ?_ ?_ ?_ ?_ b hm hb e
      · intro _ e; rw [I.fn] at e; cases e; exact (N _ (.head _)).1
      · intro _ e; rw [I.gI] at e; cases e; exact (N _ (.tail _ (.head _))).1
      · intro _ e; rw [I.gN] at e; cases e; exact (N _ (.tail _ (.tail _ (.head _)))).1
      · intro _ e; rw [I.gC] at e; cases e; exact (N _ (.tail _ (.tail _ (.tail _ (.head _))))).1
      · intro q; exact absurd rfl q
    · exact F.keep b o (hideAll_get _ e hm)⟩
  have hnh : ∀ a o, (hideAll s.heap [f, cI, cN, cC, D]).get? a = some o → a ∉ [f, cI, cN, cC, D] := fun a o e q => by rw [hide_none q] at e; cases e
  clear I
  generalize hideAll s.heap [f, cI, cN, cC, D] = h₀ at *
  have hh := C.hh
  obtain ⟨hd0, dp0, fr0, gd0, un0⟩ := A
  obtain rfl : hd0 = none := hh
  dsimp only at hdp hu
  refine wpAny_call ?_
  w_on
  k_dflt (refine' enterN ?k1 ?kS ?kZ ?kN ?k6 ?k7 ?k8 ?k9 ?kB ?_ ?c2 ?c3 ?c4 ?c5; (case k1 => exact C); (case kS => exact hk₀); (case kZ => exact hz₀); (case kN => exact hn₀); (case k6 => exact List.mem_cons_self); (case k7 => exact hcd); (case k8 => (simp only [recursionLimit]; omega)); (case k9 => first | exact BindsTo.of_eq rfl | fail "no rule for these arguments"); (case c5 => decide); (case kB => exact locs rfl); (case c2 => exact rfl); (case c3 => exact rfl); (case c4 => exact rfl); k_whole; intro L' h' bse outer loose mean mg mb B' X' T' F' N' K' S'; clear C; (try dsimp only); (try k_fold))
  clear hn₀ hk₀ hz₀ hcd
  have hcode : CodeHd h₀ 63 59 := codeHd_of_K X' (by kernel_rfl)
  have hvl : vs.length = ns.length := hi.length
  repeat' (first | (k_unfold; (try dsimp only)) | (k_end; wrow_close) | ((fail_if_success (with_reducible show wpAny _ _ (binaryOp Operator.RShift _ _) _ _ _)); dsimp only; walk1) | ((fail_if_success (with_reducible show wpAny _ _ (binaryOp Operator.RShift _ _) _ _ _)); walk1) | (k_end; dsimp only; k_unfold; (try dsimp only)))
  · have ek : k = 1 := by omega
    subst ek
    rename Fr _ _ _ _ => F9
    rename News _ _ _ _ => N9
    refine lst_setK F9 N9 (.tail _ (.tail _ (.tail _ (.tail _ (.head _))))) (nf := fun o' => ledI f cI cN cC D _ oI oN oC o') (fun o' => .tail hne.1 (.tail hne.2.1 (.tail hne.2.2.1 (.tail hne.2.2.2 (.head (fun _ h => nomatch h)))))) hi (by omega) (by omega) (by omega) ?_
    intro h5 vs5 c5 F5 N5 hv5
    dsimp only
    repeat' (first | (k_unfold; (try dsimp only)) | (k_end; wrow_close) | (dsimp only; walk1) | (walk1) | (k_end; dsimp only; k_unfold; (try dsimp only)))
    refine h _ _ vs5 c5 (hkp.go _ _ _ _ F5 N5) (N5 _ (.tail _ (.tail _ (.tail _ (.tail _ (.head _)))))).1 ?_
    have e : putD nn x L ns 1 = ns.set (L : Int).toNat (x : Int) := by
      have e7 : x % 2 ^ nn = x := Nat.mod_eq_of_lt (by rw [Nat.mul_one] at hxk; exact hxk)
      simp [putD, e7]
    rw [e]
    exact hv5
  · obtain ⟨a, ha⟩ : ∃ a, a = k / 2 := ⟨_, rfl⟩
    have hk2 : 2 ≤ k := by omega
    have H : Half L k a b ns.length 300 := Half.of ha hk2 hb hL hn
    have e1 : ((L : Int) + ((L + k : Nat) : Int)).fdiv (2 ^ Int.toNat 1) = ((L + a : Nat) : Int) := by
      rw [show (2 : Int) ^ Int.toNat 1 = 2 from rfl, Int.fdiv_eq_ediv_of_nonneg _ (by decide)]; exact H.m2
    refine rshift_int (by omega) ?_
    rw [e1]
    have e2 : (((L + a : Nat) : Int) - (L : Int)) * (nn : Int) = ((nn * a : Nat) : Int) := by
      rw [Int.natCast_mul, Int.mul_comm]; congr 1; omega
    obtain ⟨sh, hsh⟩ : ∃ sh, nn * a = sh := ⟨_, rfl⟩
    rw [hsh] at e2
    have e5 : (x : Int).fdiv (2 ^ ((sh : Nat) : Int).toNat) = ((x / 2 ^ sh : Nat) : Int) := by
      rw [Int.toNat_natCast, Int.fdiv_eq_ediv_of_nonneg _ (Int.le_of_lt (Int.pow_pos (by decide)))]
      push_cast; rfl
    have e6 : ((x / 2 ^ sh : Nat) : Int) * 2 ^ ((sh : Nat) : Int).toNat = ((x / 2 ^ sh * 2 ^ sh : Nat) : Int) := by
      rw [Int.toNat_natCast]; push_cast; rfl
    have hx2 : x / 2 ^ sh < 2 ^ (nn * (k - a)) := by
      rw [Nat.div_lt_iff_lt_mul (Nat.pow_pos (by decide)), ← Nat.pow_add, ← hsh, ← Nat.mul_add, Nat.add_comm (k - a) a, H.s1]; exact hxk
    have hx1 : x % 2 ^ sh < 2 ^ (nn * a) := by rw [hsh]; exact Nat.mod_lt _ (Nat.pow_pos (by decide))
    have hsk : nn * (k - a) ≤ 2 * 300 := Nat.mul_le_mul hnn.2 H.rc
    have hsl : sh ≤ 2 * 300 := by rw [← hsh]; exact Nat.mul_le_mul hnn.2 H.ac
    have hbt : Builtin.Int.intBits ((x / 2 ^ sh : Nat) : Int) ≤ nn * (k - a) := bits_le (Int.natCast_nonneg _) (by have := Int.ofNat_lt.mpr hx2; push_cast at this ⊢; exact this)
    repeat' (first | (k_unfold; (try dsimp only)) | (k_end; wrow_close) | ((fail_if_success (with_reducible show wpAny _ _ (binaryOp Operator.RShift _ _) _ _ _)); dsimp only; walk1) | ((fail_if_success (with_reducible show wpAny _ _ (binaryOp Operator.RShift _ _) _ _ _)); walk1) | (k_end; dsimp only; k_unfold; (try dsimp only)))
    rw [e2]
    refine rshift_int (by omega) ?_
    rw [e5]
    repeat' (first | (k_unfold; (try dsimp only)) | (k_end; wrow_close) | ((fail_if_success (with_reducible show wpAny _ _ (binaryOp Operator.LShift _ _) _ _ _)); dsimp only; walk1) | ((fail_if_success (with_reducible show wpAny _ _ (binaryOp Operator.LShift _ _) _ _ _)); walk1) | (k_end; dsimp only; k_unfold; (try dsimp only)))
    rw [e2]
    refine lshift_int (by omega) (by omega) ?_
    rw [e6]
    repeat' (first | (k_unfold; (try dsimp only)) | (k_end; wrow_close) | ((fail_if_success (with_reducible show wpAny _ _ (binaryOp Operator.BitXor _ _) _ _ _)); dsimp only; walk1) | ((fail_if_success (with_reducible show wpAny _ _ (binaryOp Operator.BitXor _ _) _ _ _)); walk1) | (k_end; dsimp only; k_unfold; (try dsimp only)))
    refine xor_int ?_
    rw [low_xor]
    clear hbt hsk hsl
    repeat' (first | (k_unfold; (try dsimp only)) | (k_end; wrow_close) | ((fail_if_success (with_reducible show wpAny _ _ (call (Value.ref _) _) _ _ _)); dsimp only; walk1) | ((fail_if_success (with_reducible show wpAny _ _ (call (Value.ref _) _) _ _ _)); walk1) | (k_end; dsimp only; k_unfold; (try dsimp only)))
    rename Fr _ _ _ _ => F9
    rename News _ _ _ _ => N9
    refine I2D.call ih (post := []) (x := x % 2 ^ sh) (L := L) (k := a) B' F9 (by rw [List.append_nil]; exact N9) X' T' rfl rfl rfl ⟨h₀, hcr, fun b o e => ⟨F9.keep b o e, hnh b o e⟩⟩ hne (fun _ h => nomatch h) hi (by show dp0 + 1 + b < 950; exact d3 hdp) (by show un0 + 3 + 3 * b < 8500; exact u3 hu) rfl rfl rfl H.ab H.a1 H.an hn hx1 ?_
    intro h6 tk6 vs6 c6 F6 N6 hv6 ks6
    rw [List.append_nil] at N6
    clear F9 N9
    dsimp only
    repeat' (first | (k_unfold; (try dsimp only)) | (k_end; wrow_close) | ((fail_if_success (with_reducible show wpAny _ _ (call (Value.ref _) _) _ _ _)); dsimp only; walk1) | ((fail_if_success (with_reducible show wpAny _ _ (call (Value.ref _) _) _ _ _)); walk1) | (k_end; dsimp only; k_unfold; (try dsimp only)))
    have hl6 : (putD nn (x % 2 ^ sh) L ns a).length = ns.length := putD_length ..
    refine I2D.call ih (post := []) (x := x / 2 ^ sh) (L := L + a) (k := k - a) B' F6 (by rw [List.append_nil]; exact N6) X' T' rfl rfl rfl ⟨h₀, hcr, fun b o e => ⟨F6.keep b o e, hnh b o e⟩⟩ hne (fun _ h => nomatch h) hv6 (by show dp0 + 1 + b < 950; exact d3 hdp) (by show un0 + 3 + 3 * b < 8500; exact u3 hu) rfl rfl (by congr 1; rw [Nat.add_assoc, H.s1]) H.rb H.r1 (by rw [hl6]; exact H.rn) (by rw [hl6]; exact hn) hx2 ?_
    intro h7 tk7 vs7 c7 F7 N7 hv7 ks7
    rw [List.append_nil] at N7
    dsimp only
    repeat' (first | (k_unfold; (try dsimp only)) | (k_end; wrow_close) | (dsimp only; walk1) | (walk1) | (k_end; dsimp only; k_unfold; (try dsimp only)))
    refine h _ _ vs7 c7 (hkp.go _ _ _ _ F7 N7) (N7 _ (.tail _ (.tail _ (.tail _ (.tail _ (.head _)))))).1 ?_
    have e8 : putD nn x L ns k = putD nn (x / 2 ^ sh) (L + a) (putD nn (x % 2 ^ sh) L ns a) (k - a) := by
      have := putD_split nn x L ns a (k - a)
      rw [H.s1] at this
      rw [this, ← putD_low nn x L ns a a (Nat.le_refl _), hsh]
    rw [e8]
    exact hv7
theorem i2d_all {w : World} {pr : Arguments} {bd : List Stmt} {sc : Scope} (hp : nestOf (hd.heap_39 w.params) 64 = some (pr, bd, sc)) {qual : Str} {f cI cN cC c' D : Addr} {oI oN oC : Obj} {doc pm ctv : Value} {nn : Nat} {tn : Tok}
   (hdC : oC.data = .cell (some (.ref D))) (hdI : oI.data = .cell (some (.ref f))) (hdN : oN.data = .cell (some (.int (nn : Int) tn))) (hnn : 1 ≤ nn ∧ nn ≤ 2) :
   ∀ b, I2D w pr bd sc qual f cI cN cC c' D oI oN oC doc pm ctv nn b
  | 0 => ⟨fun k _ _ _ _ _ _ _ _ _ _ _ _ hk h1 => by omega⟩
  | b + 1 => i2d_step hp hdC hdI hdN hnn (i2d_all hp hdC hdI hdN hnn b)
end
section
open PySem PySem.W PyProof.Rows PySem.Calls
set_option maxRecDepth 100000
set_option maxHeartbeats 8000000

/-- how many figures _int2digits makes -/
noncomputable def manyD (nn a : Nat) : Nat := (Builtin.Int.intBits (a : Int) + nn - 1) / nn
theorem manyD_fit {nn a : Nat} (hnn : 1 ≤ nn ∧ nn ≤ 2) (ha : 0 < a) : a < 2 ^ (nn * manyD nn a) := by
  have h1 : a < 2 ^ (Builtin.Int.intBits (a : Int)) := by
    unfold Builtin.Int.intBits
    rw [if_neg (by simp; omega)]
    exact Nat.lt_log2_self
  refine Nat.lt_of_lt_of_le h1 (Nat.pow_le_pow_right (by decide) ?_)
  unfold manyD
  rcases (show nn = 1 ∨ nn = 2 by omega) with rfl | rfl <;> lia
theorem manyD_le {nn a : Nat} (hnn : 1 ≤ nn ∧ nn ≤ 2) {k : Nat} (hk : a < 2 ^ k) : manyD nn a ≤ k := by
  have h1 : Builtin.Int.intBits (a : Int) ≤ k := bits_le (Int.natCast_nonneg _) (by have := Int.ofNat_lt.mpr hk; push_cast at this; exact this)
  unfold manyD
  rcases (show nn = 1 ∨ nn = 2 by lia) with rfl | rfl <;> lia
theorem manyD_pos {nn a : Nat} (hnn : 1 ≤ nn ∧ nn ≤ 2) (ha : 0 < a) : 1 ≤ manyD nn a := by
  have h1 : 1 ≤ Builtin.Int.intBits (a : Int) := by
    unfold Builtin.Int.intBits
    rw [if_neg (by simp; omega)]
    lia
  unfold manyD
  rcases (show nn = 1 ∨ nn = 2 by omega) with rfl | rfl <;> lia
theorem news_nest8 {h₀ h : Heap} {L : Addr} {p0 p1 p2 p3 p4 p5 p6 p7 : Addr × Obj} (N : News h₀ L h [p0, p1, p2, p3, p4, p5, p6, p7]) : News h₀ L h ([p0, p4, p6, p5, p2] ++ [p1, p7]) := fun p hp => N p (by
  simp only [List.cons_append, List.nil_append, List.mem_cons, List.not_mem_nil, or_false] at hp ⊢
  rcases hp with h | h | h | h | h | h | h <;> simp [h])
theorem i2d_ok {w : World} {A : Around} {s : Shared} {Q E : Value → Shared → Prop}
   {h₀ : Heap} {a nn : Nat} {t1 t2 : Tok}
   (C : Cx w A h₀) (hk₀ : ∀ b o, h₀.get? b = some o → s.heap.get? b = some o) (hz₀ : h₀.objs.size = s.heap.objs.size) (hdp : A.depth < 700) (hu : A.units < 6000)
   (hn₀ : ∀ p ∈ [(59, tabObj #[])], s.heap.get? p.1 = some p.2 ∧ h₀.get? p.1 = none) (hall : ∀ b o, b ≠ 59 → s.heap.get? b = some o → h₀.get? b = some o)
   (ha : 0 < a ∧ a < 2 ^ 200) (hnn : 1 ≤ nn ∧ nn ≤ 2)
   (h : ∀ l vs c h' tk', (∀ b o, b ≠ 59 → s.heap.get? b = some o → h'.get? b = some o) → GrownAt 59 h' → s.heap.get? l = none → h'.get? l = some (PySem.W.listOf (vs : List Value).toArray c) → IntsAre vs (putD nn a 0 (List.replicate (manyD nn a) 0) (manyD nn a)) → Q (.ref l) { s with heap := h', toks := tk' }) :
   wpAny (model Challenge.rw_zo0018_01.row.prog w) A (call (.ref 64) [.int (a : Int) t1, .int (nn : Int) t2]) Q E s := by
  have hlt : 59 < s.heap.objs.size := Heap.lt_size (hn₀ _ List.mem_cons_self).1
  obtain ⟨m, hmd⟩ : ∃ m, manyD nn a = m := ⟨_, rfl⟩
  have hm1 : m ≤ 200 := hmd ▸ manyD_le hnn ha.2
  have hm0 : 1 ≤ m := hmd ▸ manyD_pos hnn ha.1
  have hfit : a < 2 ^ (nn * m) := hmd ▸ manyD_fit hnn ha.1
  have hm : ((Builtin.Int.intBits (a : Int) : Int) + (nn : Int) - 1).fdiv (nn : Int) = (m : Int) := by
    rw [Int.fdiv_eq_ediv_of_nonneg _ (by lia), ← hmd]
    unfold manyD
    rcases (show nn = 1 ∨ nn = 2 by lia) with rfl | rfl <;> lia
  rw [hmd] at h
  have KX := C.X.keeps hk₀
  have hh := C.hh
  revert KX; k_fill; intro KX
  obtain ⟨hd0, dp0, fr0, gd0, un0⟩ := A
  obtain rfl : hd0 = none := hh
  dsimp only at hdp hu
  refine wpAny_call ?_
  w_on
  k_dflt (refine' enterCE ?k1 ?kS ?kZ ?kN ?k6 ?k7 ?k8 ?k9 ?kB ?kD ?_ ?c2 ?c3 ?c4; (case k1 => exact C); (case kS => exact hk₀); (case kZ => exact hz₀); (case kN => exact hn₀); (case k6 => k_is); (case k7 => k_is); (case k8 => (simp only [recursionLimit]; omega)); (case k9 => first | exact BindsTo.of_eq rfl | fail "no rule for these arguments"); (case kB => exact rfl); (case kD => decide +kernel); (case c2 => exact rfl); (case c3 => exact rfl); (case c4 => exact rfl); k_whole; intro L' h' tk' cells' bse outer loose mean mg mb B' X' T' F' N' Y' K' S'; clear C KX; k_cells Y'; (try simp only [List.cons_append, List.nil_append] at N'); (try dsimp only); (try k_fold))
  have hlt' : 59 < L' := Nat.lt_of_lt_of_le hlt S'
  have hcode : CodeHd h₀ 63 59 := codeHd_of_K X' (by kernel_rfl)
  repeat' (first | (k_unfold; (try dsimp only)) | (k_end; wrow_close) | ((fail_if_success (with_reducible show wpAny _ _ (binaryOp Operator.Mult _ _) _ _ _)); dsimp only; (first | ((k_here; (with_reducible show wpAny _ _ (call (Value.builtin _) [Value.ref _]) _ _ _); k_dflt (refine len_L (by is_list) (by with_reducible assumption) (by omega) ?_))) | walk1)) | ((fail_if_success (with_reducible show wpAny _ _ (binaryOp Operator.Mult _ _) _ _ _)); (first | ((k_here; (with_reducible show wpAny _ _ (call (Value.builtin _) [Value.ref _]) _ _ _); k_dflt (refine len_L (by is_list) (by with_reducible assumption) (by omega) ?_))) | walk1)) | (k_end; dsimp only; k_unfold; (try dsimp only)))
  rename News _ _ _ _ => N9
  rename Fr _ _ _ _ => F9
  refine mul_zeros F9 N9 (N9 _ List.mem_cons_self).1 hm (by lia) ?_
  intro h4 D vs4 c4 F4 N4 hv4 lt4
  have hD1 := ltN (lt4 _ (.head _))
  have hv4l : vs4.length = m := by rw [hv4.length]; simp
  clear F9 N9 lt4
  dsimp only at hD1
  dsimp only
  repeat' (first | (k_unfold; (try dsimp only)) | (k_end; wrow_close) | ((fail_if_success (with_reducible show wpAny _ _ (call (Value.ref _) _) _ _ _)); dsimp only; (first | ((k_here; (with_reducible show wpAny _ _ (call (Value.builtin _) [Value.ref _]) _ _ _); k_dflt (refine len_L (by is_list) (by with_reducible assumption) (by omega) ?_))) | walk1)) | ((fail_if_success (with_reducible show wpAny _ _ (call (Value.ref _) _) _ _ _)); (first | ((k_here; (with_reducible show wpAny _ _ (call (Value.builtin _) [Value.ref _]) _ _ _); k_dflt (refine len_L (by is_list) (by with_reducible assumption) (by omega) ?_))) | walk1)) | (k_end; dsimp only; k_unfold; (try dsimp only)))
  all_goals first
    | (exfalso; lia)
    | skip
  rename News _ _ _ _ => NN
  rename Fr _ _ _ _ => FF
  rename_i o1 o2 o3 d1 d2 d3 l9 h9 ll h8 o8 d8 f' c' oc vs9 t9 ct dc h7 tk7 e1 e2 l1 l2 h6 o6 d6 a6
  have N8 := news_nest8 NN
  refine I2D.call (i2d_all (by with_unfolding_all rfl) d8 d6 d3 hnn m) (x := a) (L := 0) (k := m) B' FF N8 X' T' rfl rfl rfl
    ⟨hideAll h6 [f', L' + 1 + 1 + 1, L' + 1, L' + 1 + 1, D], ⟨c', oc, vs9, t9, rfl, hideAll_get _ (NN _ (.tail _ (.head _))).1 ?hc, e1, e2⟩, fun a o e => ⟨of_hideAll _ e, fun q => by rw [hide_none q] at e; cases e⟩⟩ ?ne ?np hv4 (by show dp0 + 1 + m < 950; omega) (by show un0 + 3 + 3 * m < 8500; lia) rfl rfl (by rw [Nat.zero_add]) (Nat.le_refl _) hm0 (by simp) (by simp; omega) hfit ?_
  case hc =>
    simp only [List.mem_cons, List.not_mem_nil, or_false]
    rintro (q | q | q | q | q)
    · rw [q] at l2; exact Nat.lt_irrefl _ l2
    all_goals rw [q] at l1; omega
  case ne => refine ⟨?_, ?_, ?_, ?_⟩ <;> k_ne
  case np =>
    intro p hp
    simp only [List.mem_cons, List.not_mem_nil, or_false] at hp
    rcases hp with rfl | rfl <;> k_ne
  intro h3 tk3 vs3 c3 F3 N3 hv3 K3
  dsimp only
  repeat' (first | (k_unfold; (try dsimp only)) | (k_end; wrow_close) | (dsimp only; (first | ((k_here; (with_reducible show wpAny _ _ (call (Value.builtin _) [Value.ref _]) _ _ _); k_dflt (refine len_L (by is_list) (by with_reducible assumption) (by omega) ?_))) | walk1)) | ((first | ((k_here; (with_reducible show wpAny _ _ (call (Value.builtin _) [Value.ref _]) _ _ _); k_dflt (refine len_L (by is_list) (by with_reducible assumption) (by omega) ?_))) | walk1)) | (k_end; dsimp only; k_unfold; (try dsimp only)))
  have z := N3 (D, _) (.tail _ (.tail _ (.tail _ (.tail _ (.head _)))))
  refine h D vs3 c3 _ _ (fun b o hb e => F3.keep b o (hall b o hb e)) ⟨_, (N3 (59, _) (.tail _ (.tail _ (.tail _ (.tail _ (.tail _ (.tail _ (.head _)))))))).1⟩ ?_ z.1 hv3
  cases e9 : s.heap.get? D with
  | none => rfl
  | some o9 =>
    have := Heap.lt_size e9
    exfalso
    have := ltN this
    omega
end
section
open PySem PySem.W PyProof.Rows PySem.Calls
set_option maxRecDepth 100000
set_option maxHeartbeats 8000000

theorem news_nest {h₀ h : Heap} {L : Addr} {p0 p1 p2 p3 p4 p5 : Addr × Obj} (N : News h₀ L h [p0, p1, p2, p3, p4, p5]) : News h₀ L h ([] ++ p0 :: p2 :: p3 :: p4 :: [p1, p5]) := fun p hp => N p (by
  simp only [List.nil_append, List.mem_cons, List.not_mem_nil, or_false] at hp ⊢
  rcases hp with h | h | h | h | h | h
  · exact .inl h
  · exact .inr (.inr (.inl h))
  · exact .inr (.inr (.inr (.inl h)))
  · exact .inr (.inr (.inr (.inr (.inl h))))
  · exact .inr (.inl h)
  · exact .inr (.inr (.inr (.inr (.inr h)))))
theorem d2i_ok {w : World} {A : Around} {s : Shared} {Q E : Value → Shared → Prop}
   {h₀ : Heap} {l : Addr} {vs : List Value} {ds : List Int} {nn : Nat} {t2 : Tok}
   (C : Cx w A h₀) (hk₀ : ∀ b o, h₀.get? b = some o → s.heap.get? b = some o) (hz₀ : h₀.objs.size = s.heap.objs.size) (hdp : A.depth < 800) (hu : A.units < 7000)
   (hn₀ : ∀ p ∈ [(66, tabObj #[])], s.heap.get? p.1 = some p.2 ∧ h₀.get? p.1 = none)
   (hall : ∀ b o, b ≠ 66 → s.heap.get? b = some o → h₀.get? b = some o)
   (hl : h₀.IsList l vs.toArray) (hi : IntsAre vs ds) (hlen : 1 ≤ ds.length ∧ ds.length ≤ 24) (hds : ∀ i, 0 ≤ ds.getD i 0 ∧ ds.getD i 0 < 2 ^ nn) (hnn : 1 ≤ nn ∧ nn ≤ 8)
   (h : ∀ h' tk' t, (∀ b o, b ≠ 66 → s.heap.get? b = some o → h'.get? b = some o) → GrownAt 66 h' → Q (.int (sumD ds nn 0 ds.length) t) { s with heap := h', toks := tk' }) :
   wpAny (model Challenge.rw_zo0018_01.row.prog w) A (call (.ref 71) [.ref l, .int (nn : Int) t2]) Q E s := by
  have hlt : 66 < s.heap.objs.size := Heap.lt_size (hn₀ _ List.mem_cons_self).1
  have KX := C.X.keeps hk₀
  have hh := C.hh
  revert KX; k_fill; intro KX
  obtain ⟨hd0, dp0, fr0, gd0, un0⟩ := A
  obtain rfl : hd0 = none := hh
  dsimp only at hdp hu
  refine wpAny_call ?_
  w_on
  k_dflt (refine' enterCE ?k1 ?kS ?kZ ?kN ?k6 ?k7 ?k8 ?k9 ?kB ?kD ?_ ?c2 ?c3 ?c4; (case k1 => exact C); (case kS => exact hk₀); (case kZ => exact hz₀); (case kN => exact hn₀); (case k6 => k_is); (case k7 => k_is); (case k8 => (simp only [recursionLimit]; omega)); (case k9 => first | exact BindsTo.of_eq rfl | fail "no rule for these arguments"); (case kB => exact rfl); (case kD => decide +kernel); (case c2 => exact rfl); (case c3 => exact rfl); (case c4 => exact rfl); k_whole; intro L' h' tk' cells' bse outer loose mean mg mb B' X' T' F' N' Y' K' S'; clear C KX; k_cells Y'; (try simp only [List.cons_append, List.nil_append] at N'); (try dsimp only); (try k_fold))
  have hlt' : 66 < L' := Nat.lt_of_lt_of_le hlt S'
  have hcode : CodeHd h₀ 70 66 := codeHd_of_K X' (by kernel_rfl)
  repeat' (first | (k_unfold; (try dsimp only)) | (k_end; wrow_close) | ((fail_if_success (with_reducible show wpAny _ _ (call (Value.ref _) _) _ _ _)); dsimp only; walk1) | ((fail_if_success (with_reducible show wpAny _ _ (call (Value.ref _) _) _ _ _)); walk1) | (k_end; dsimp only; k_unfold; (try dsimp only)))
  rename News _ _ _ _ => N9
  rename Fr _ _ _ _ => F9
  rename_i o1 o2 o3 d1 d2 d3 f' c' oc vs9 t9 ct dc h9 tk9 e1 e2 l1 l2 h8 o8 d8
  have N8 := news_nest N9
  refine D2I.call (d2i_all (by with_unfolding_all rfl) d3 d8 d2 hi hds hnn (by omega) ds.length) (pre := []) (L := 0) (k := ds.length) B' F9 N8 X' T' rfl rfl rfl
    ⟨hideAll h8 [f', L' + 1 + 1 + 1, L' + 1 + 1, L' + 1], ⟨c', oc, vs9, t9, rfl, hideAll_get _ (N9 _ (.tail _ (.head _))).1 ?hc, e1, e2⟩, fun a o e => ⟨of_hideAll _ e, fun q => by rw [hide_none q] at e; cases e⟩⟩ hl (by show dp0 + 1 + ds.length < 900; omega) (by show un0 + 3 + 3 * ds.length < 8000; omega) rfl (by rw [Nat.zero_add]) (Nat.le_refl _) hlen.1 (by rw [Nat.zero_add]; exact Nat.le_refl _) ?_
  case hc =>
    simp only [List.mem_cons, List.not_mem_nil, or_false]
    rintro (q | q | q | q)
    · rw [q] at l2; exact Nat.lt_irrefl _ l2
    · rw [q] at l1; exact Nat.lt_irrefl _ l1.1
    · rw [q] at l1; exact Nat.lt_irrefl _ l1.2.1
    · rw [q] at l1; exact Nat.lt_irrefl _ l1.2.2.1
  intro t3 h3 tk3 F3 N3 K3
  dsimp only
  repeat' (first | (k_unfold; (try dsimp only)) | (k_end; wrow_close) | (dsimp only; walk1) | (walk1) | (k_end; dsimp only; k_unfold; (try dsimp only)))
  exact h _ _ _ (fun b o hb e => F3.keep b o (hall b o hb e)) ⟨_, (N3 (66, _) (.tail _ (.tail _ (.tail _ (.tail _ (.tail _ (.head _))))))).1⟩
end
section
open PySem PySem.W PyProof.Rows PySem.Calls
set_option maxRecDepth 100000
set_option maxHeartbeats 8000000

noncomputable def mvSet (base : Int) (l : List Int) (p : Nat) : List Int := l.set p (Int.fmod (l.getD p 0 + l.getD (p + 1) 0) base)
noncomputable def mvIn (base : Int) (n : Nat) (l : List Int) : Nat → List Int
  | 0 => l
  | j + 1 => mvSet base (mvIn base n l j) (n - 2 - j)
noncomputable def mvOut (base : Int) (n : Nat) (l : List Int) : Nat → List Int
  | 0 => l
  | f + 1 => mvIn base n (mvOut base n l f) (n - 1 - f)
theorem mvIn_length (base : Int) (n : Nat) (l : List Int) : ∀ j, (mvIn base n l j).length = l.length
  | 0 => rfl
  | j + 1 => by rw [mvIn, mvSet, List.length_set, mvIn_length base n l j]
theorem mvOut_length (base : Int) (n : Nat) (l : List Int) : ∀ f, (mvOut base n l f).length = l.length
  | 0 => rfl
  | f + 1 => by rw [mvOut, mvIn_length, mvOut_length base n l f]
noncomputable def Oct (l : List Int) : Prop := ∀ x ∈ l, 0 ≤ x ∧ x < 256
theorem mvSet_oct {base : Int} (hb : 2 ≤ base ∧ base ≤ 4) {l : List Int} (h : Oct l) (p : Nat) : Oct (mvSet base l p) := by
  intro x hx
  rcases List.mem_or_eq_of_mem_set hx with h' | h'
  · exact h x h'
  · have h1 := Int.fmod_nonneg_of_pos (l.getD p 0 + l.getD (p + 1) 0) (show 0 < base by omega)
    have h2 := Int.fmod_lt_of_pos (l.getD p 0 + l.getD (p + 1) 0) (show 0 < base by omega)
    omega
theorem mvIn_oct {base : Int} (hb : 2 ≤ base ∧ base ≤ 4) (n : Nat) {l : List Int} (h : Oct l) : ∀ j, Oct (mvIn base n l j)
  | 0 => h
  | j + 1 => mvSet_oct hb (mvIn_oct hb n h j) _
theorem mvOut_oct {base : Int} (hb : 2 ≤ base ∧ base ≤ 4) (n : Nat) {l : List Int} (h : Oct l) : ∀ j, Oct (mvOut base n l j)
  | 0 => h
  | j + 1 => mvIn_oct hb n (mvOut_oct hb n h j) _
theorem octs_oct (b : Array UInt8) : Oct (octs b) := by
  intro x hx
  obtain ⟨c, _, rfl⟩ := List.mem_map.mp hx
  exact u8_lt c
noncomputable def movedF (b : Array UInt8) (base : Int) : Array UInt8 := ((mvOut base b.size (octs b) (b.size - 1)).map fun n => n.toNat.toUInt8).toArray
noncomputable def movM (D : Addr) (b : Array UInt8) (base : Int) (t1 t2 : Tok) (vf vp : Option Value) : Str → Option Value := fun y =>
  if y = Str.ofString "place" then vp else if y = Str.ofString "first" then vf else if y = Str.ofString "row" then some (.ref D) else if y = Str.ofString "base" then some (.int base t2) else if y = Str.ofString "figures" then some (.bytes b t1) else none
theorem down_size {n f : Nat} (hf : f + 1 < n) : Builtin.Range.rangeSize ((n : Int) - 2) ((f : Int) - 1) (-1) = ((n - 1 - f : Nat) : Int) := by
  unfold Builtin.Range.rangeSize
  rw [if_neg (by omega), if_pos (by omega)]
  rw [show (-(-1 : Int)) = 1 from rfl, Int.ediv_one]
  omega
theorem down_small {n f : Nat} (hf : f + 1 < n) (hn : n ≤ 1000) : Builtin.Range.small ((n : Int) - 2) ((f : Int) - 1) (-1) = true := by
  unfold Builtin.Range.small
  rw [down_size hf]
  simp only [Builtin.Range.rangeFitsLong, Bool.and_eq_true, Bool.or_eq_true, decide_eq_true_eq, beq_iff_eq]
  rw [if_neg (by omega)]
  simp only [decide_eq_true_eq, Bool.and_eq_true]
  omega
theorem off3 {S : Addr} {o : Obj} {own own2 : List (Addr × Obj)} {rest : List (Addr × Obj)} (h1 : OwnOff own (List.map (fun x => x.1) [(S, o)])) (h2 : OwnOff own2 (List.map (fun x => x.1) ((S, o) :: rest))) : ∀ p ∈ own ++ own2, p.1 ≠ S := by
  intro p hp
  rcases List.mem_append.mp hp with hp | hp
  · exact h1 p hp S (by simp)
  · exact h2 p hp S (by simp)
theorem moved_ok {w : World} {A : Around} {s : Shared} {Q E : Value → Shared → Prop}
   {b : Array UInt8} {base : Int} {t1 t2 : Tok}
   (C : Cx w A s.heap) (hdp : A.depth < 940) (hu : A.units < 8800)
   (hb : 3 ≤ b.size) (hb6 : b.size ≤ 6) (hbase : 2 ≤ base ∧ base ≤ 4)
   (h : ∀ t h' tk', Keep s.heap h' → Q (.bytes (movedF b base) t) { s with heap := h', toks := tk' }) :
   wpAny (model Challenge.rw_zo0018_01.row.prog w) A (call (.ref 137) [.bytes b t1, .int base t2]) Q E s := by
  have KX := C.X
  have hh := C.hh
  revert KX; k_fill; intro KX
  obtain ⟨hd0, dp0, fr0, gd0, un0⟩ := A
  obtain rfl : hd0 = none := hh
  dsimp only at hdp hu
  refine wpAny_call ?_
  w_on
  k_dflt (refine' enter0 ?k1 ?k6 ?k7 ?k8 ?k9 ?kB ?_ ?c2 ?c3 ?c4 ?c5; (case k1 => exact C); (case k6 => k_is); (case k7 => k_is); (case k8 => (simp only [recursionLimit]; omega)); (case k9 => first | exact BindsTo.of_eq rfl | fail "no rule for these arguments"); (case c5 => decide); (case kB => exact locs rfl); (case c2 => exact rfl); (case c3 => exact rfl); (case c4 => exact rfl); k_whole; intro L' h' bse outer loose mean mg mb B' X' T' F' N'; clear C KX; (try dsimp only); (try k_fold))
  refine execs_consA ?_
  repeat' (first | (k_unfold; (try dsimp only)) | (k_end; wrow_close) | ((fail_if_success (with_reducible show wpAny _ _ (PySem.execs (Stmt.For _ _ _ _ _ :: _) _) _ _ _)); dsimp only; (first | ((k_here; (with_reducible show wpAny _ _ (call (Value.ref 85) _) _ _ _); k_dflt ((with_reducible rename Fr _ _ _ _ => kF); (with_reducible rename News _ _ _ _ => kN); refine mod_ok (Cx.push (by k_asm) kF (by k_asm) (by k_asm) rfl rfl rfl) (dlt (by with_reducible assumption) (by decide)) (ult (by with_reducible assumption) (by decide)) (by with_reducible assumption) ?_; intro t' h' tk' hK'; have F' := Fr.keeps kF hK'; have N' := News.grown kN hK'; clear kF kN); (try dsimp only); (try k_fold))) | ((k_here; (with_reducible show wpAny _ _ (call (Value.ref 78) _) _ _ _); k_dflt ((with_reducible rename Fr _ _ _ _ => kF); (with_reducible rename News _ _ _ _ => kN); refine add_ok (Cx.push (by k_asm) kF (by k_asm) (by k_asm) rfl rfl rfl) (dlt (by with_reducible assumption) (by decide)) (ult (by with_reducible assumption) (by decide))  ?_; intro t' h' tk' hK'; have F' := Fr.keeps kF hK'; have N' := News.grown kN hK'; clear kF kN); (try dsimp only); (try k_fold))) | ((k_here; (with_reducible show wpAny _ _ (call (Value.ref 92) _) _ _ _); k_dflt ((with_reducible rename Fr _ _ _ _ => kF); (with_reducible rename News _ _ _ _ => kN); refine getitem_ok (Cx.push (by k_asm) kF (by k_asm) (by k_asm) rfl rfl rfl) (dlt (by with_reducible assumption) (by decide)) (ult (by with_reducible assumption) (by decide)) (by is_list) (by with_reducible assumption) (by omega) (by omega) (by omega) ?_; intro t' h' tk' hK'; have F' := Fr.keeps kF hK'; have N' := News.grown kN hK'; clear kF kN); (try dsimp only); (try k_fold))) | ((k_here; (with_reducible show wpAny _ _ (call (Value.builtin _) [Value.ref _]) _ _ _); k_dflt (refine len_L (by is_list) (by with_reducible assumption) (by lia) ?_))) | walk1)) | ((fail_if_success (with_reducible show wpAny _ _ (PySem.execs (Stmt.For _ _ _ _ _ :: _) _) _ _ _)); (first | ((k_here; (with_reducible show wpAny _ _ (call (Value.ref 85) _) _ _ _); k_dflt ((with_reducible rename Fr _ _ _ _ => kF); (with_reducible rename News _ _ _ _ => kN); refine mod_ok (Cx.push (by k_asm) kF (by k_asm) (by k_asm) rfl rfl rfl) (dlt (by with_reducible assumption) (by decide)) (ult (by with_reducible assumption) (by decide)) (by with_reducible assumption) ?_; intro t' h' tk' hK'; have F' := Fr.keeps kF hK'; have N' := News.grown kN hK'; clear kF kN); (try dsimp only); (try k_fold))) | ((k_here; (with_reducible show wpAny _ _ (call (Value.ref 78) _) _ _ _); k_dflt ((with_reducible rename Fr _ _ _ _ => kF); (with_reducible rename News _ _ _ _ => kN); refine add_ok (Cx.push (by k_asm) kF (by k_asm) (by k_asm) rfl rfl rfl) (dlt (by with_reducible assumption) (by decide)) (ult (by with_reducible assumption) (by decide))  ?_; intro t' h' tk' hK'; have F' := Fr.keeps kF hK'; have N' := News.grown kN hK'; clear kF kN); (try dsimp only); (try k_fold))) | ((k_here; (with_reducible show wpAny _ _ (call (Value.ref 92) _) _ _ _); k_dflt ((with_reducible rename Fr _ _ _ _ => kF); (with_reducible rename News _ _ _ _ => kN); refine getitem_ok (Cx.push (by k_asm) kF (by k_asm) (by k_asm) rfl rfl rfl) (dlt (by with_reducible assumption) (by decide)) (ult (by with_reducible assumption) (by decide)) (by is_list) (by with_reducible assumption) (by omega) (by omega) (by omega) ?_; intro t' h' tk' hK'; have F' := Fr.keeps kF hK'; have N' := News.grown kN hK'; clear kF kN); (try dsimp only); (try k_fold))) | ((k_here; (with_reducible show wpAny _ _ (call (Value.builtin _) [Value.ref _]) _ _ _); k_dflt (refine len_L (by is_list) (by with_reducible assumption) (by lia) ?_))) | walk1)) | (k_end; dsimp only; k_unfold; (try dsimp only)))
  refine list_bytesK (by rfl) (by k_asm) (by k_asm) (by unfold sizeLine; omega) ?_
  intro D h1 tk1 vs0 c0 F1 N1 hvs0 _
  have hv0l : vs0.length = b.size := by rw [hvs0.length, octs_length]
  repeat' (first | (k_unfold; (try dsimp only)) | (k_end; wrow_close) | ((fail_if_success (with_reducible show wpAny _ _ (PySem.execs (Stmt.For _ _ _ _ _ :: _) _) _ _ _)); dsimp only; (first | ((k_here; (with_reducible show wpAny _ _ (call (Value.ref 85) _) _ _ _); k_dflt ((with_reducible rename Fr _ _ _ _ => kF); (with_reducible rename News _ _ _ _ => kN); refine mod_ok (Cx.push (by k_asm) kF (by k_asm) (by k_asm) rfl rfl rfl) (dlt (by with_reducible assumption) (by decide)) (ult (by with_reducible assumption) (by decide)) (by with_reducible assumption) ?_; intro t' h' tk' hK'; have F' := Fr.keeps kF hK'; have N' := News.grown kN hK'; clear kF kN); (try dsimp only); (try k_fold))) | ((k_here; (with_reducible show wpAny _ _ (call (Value.ref 78) _) _ _ _); k_dflt ((with_reducible rename Fr _ _ _ _ => kF); (with_reducible rename News _ _ _ _ => kN); refine add_ok (Cx.push (by k_asm) kF (by k_asm) (by k_asm) rfl rfl rfl) (dlt (by with_reducible assumption) (by decide)) (ult (by with_reducible assumption) (by decide))  ?_; intro t' h' tk' hK'; have F' := Fr.keeps kF hK'; have N' := News.grown kN hK'; clear kF kN); (try dsimp only); (try k_fold))) | ((k_here; (with_reducible show wpAny _ _ (call (Value.ref 92) _) _ _ _); k_dflt ((with_reducible rename Fr _ _ _ _ => kF); (with_reducible rename News _ _ _ _ => kN); refine getitem_ok (Cx.push (by k_asm) kF (by k_asm) (by k_asm) rfl rfl rfl) (dlt (by with_reducible assumption) (by decide)) (ult (by with_reducible assumption) (by decide)) (by is_list) (by with_reducible assumption) (by omega) (by omega) (by omega) ?_; intro t' h' tk' hK'; have F' := Fr.keeps kF hK'; have N' := News.grown kN hK'; clear kF kN); (try dsimp only); (try k_fold))) | ((k_here; (with_reducible show wpAny _ _ (call (Value.builtin _) [Value.ref _]) _ _ _); k_dflt (refine len_L (by is_list) (by with_reducible assumption) (by lia) ?_))) | walk1)) | ((fail_if_success (with_reducible show wpAny _ _ (PySem.execs (Stmt.For _ _ _ _ _ :: _) _) _ _ _)); (first | ((k_here; (with_reducible show wpAny _ _ (call (Value.ref 85) _) _ _ _); k_dflt ((with_reducible rename Fr _ _ _ _ => kF); (with_reducible rename News _ _ _ _ => kN); refine mod_ok (Cx.push (by k_asm) kF (by k_asm) (by k_asm) rfl rfl rfl) (dlt (by with_reducible assumption) (by decide)) (ult (by with_reducible assumption) (by decide)) (by with_reducible assumption) ?_; intro t' h' tk' hK'; have F' := Fr.keeps kF hK'; have N' := News.grown kN hK'; clear kF kN); (try dsimp only); (try k_fold))) | ((k_here; (with_reducible show wpAny _ _ (call (Value.ref 78) _) _ _ _); k_dflt ((with_reducible rename Fr _ _ _ _ => kF); (with_reducible rename News _ _ _ _ => kN); refine add_ok (Cx.push (by k_asm) kF (by k_asm) (by k_asm) rfl rfl rfl) (dlt (by with_reducible assumption) (by decide)) (ult (by with_reducible assumption) (by decide))  ?_; intro t' h' tk' hK'; have F' := Fr.keeps kF hK'; have N' := News.grown kN hK'; clear kF kN); (try dsimp only); (try k_fold))) | ((k_here; (with_reducible show wpAny _ _ (call (Value.ref 92) _) _ _ _); k_dflt ((with_reducible rename Fr _ _ _ _ => kF); (with_reducible rename News _ _ _ _ => kN); refine getitem_ok (Cx.push (by k_asm) kF (by k_asm) (by k_asm) rfl rfl rfl) (dlt (by with_reducible assumption) (by decide)) (ult (by with_reducible assumption) (by decide)) (by is_list) (by with_reducible assumption) (by omega) (by omega) (by omega) ?_; intro t' h' tk' hK'; have F' := Fr.keeps kF hK'; have N' := News.grown kN hK'; clear kF kN); (try dsimp only); (try k_fold))) | ((k_here; (with_reducible show wpAny _ _ (call (Value.builtin _) [Value.ref _]) _ _ _); k_dflt (refine len_L (by is_list) (by with_reducible assumption) (by lia) ?_))) | walk1)) | (k_end; dsimp only; k_unfold; (try dsimp only)))
  refine execs_consA ?_
  (rename Fr _ _ _ _ => lF); refine For_invTF lF ?_ (by intro _; rfl)
  repeat' (first | (k_unfold; (try dsimp only)) | (k_end; wrow_close) | ((fail_if_success (with_reducible show wpAny _ _ (pyIter _) _ _ _)); dsimp only; (first | ((k_here; (with_reducible show wpAny _ _ (call (Value.ref 85) _) _ _ _); k_dflt ((with_reducible rename Fr _ _ _ _ => kF); (with_reducible rename News _ _ _ _ => kN); refine mod_ok (Cx.push (by k_asm) kF (by k_asm) (by k_asm) rfl rfl rfl) (dlt (by with_reducible assumption) (by decide)) (ult (by with_reducible assumption) (by decide)) (by with_reducible assumption) ?_; intro t' h' tk' hK'; have F' := Fr.keeps kF hK'; have N' := News.grown kN hK'; clear kF kN); (try dsimp only); (try k_fold))) | ((k_here; (with_reducible show wpAny _ _ (call (Value.ref 78) _) _ _ _); k_dflt ((with_reducible rename Fr _ _ _ _ => kF); (with_reducible rename News _ _ _ _ => kN); refine add_ok (Cx.push (by k_asm) kF (by k_asm) (by k_asm) rfl rfl rfl) (dlt (by with_reducible assumption) (by decide)) (ult (by with_reducible assumption) (by decide))  ?_; intro t' h' tk' hK'; have F' := Fr.keeps kF hK'; have N' := News.grown kN hK'; clear kF kN); (try dsimp only); (try k_fold))) | ((k_here; (with_reducible show wpAny _ _ (call (Value.ref 92) _) _ _ _); k_dflt ((with_reducible rename Fr _ _ _ _ => kF); (with_reducible rename News _ _ _ _ => kN); refine getitem_ok (Cx.push (by k_asm) kF (by k_asm) (by k_asm) rfl rfl rfl) (dlt (by with_reducible assumption) (by decide)) (ult (by with_reducible assumption) (by decide)) (by is_list) (by with_reducible assumption) (by omega) (by omega) (by omega) ?_; intro t' h' tk' hK'; have F' := Fr.keeps kF hK'; have N' := News.grown kN hK'; clear kF kN); (try dsimp only); (try k_fold))) | ((k_here; (with_reducible show wpAny _ _ (call (Value.builtin _) [Value.ref _]) _ _ _); k_dflt (refine len_L (by is_list) (by with_reducible assumption) (by lia) ?_))) | walk1)) | ((fail_if_success (with_reducible show wpAny _ _ (pyIter _) _ _ _)); (first | ((k_here; (with_reducible show wpAny _ _ (call (Value.ref 85) _) _ _ _); k_dflt ((with_reducible rename Fr _ _ _ _ => kF); (with_reducible rename News _ _ _ _ => kN); refine mod_ok (Cx.push (by k_asm) kF (by k_asm) (by k_asm) rfl rfl rfl) (dlt (by with_reducible assumption) (by decide)) (ult (by with_reducible assumption) (by decide)) (by with_reducible assumption) ?_; intro t' h' tk' hK'; have F' := Fr.keeps kF hK'; have N' := News.grown kN hK'; clear kF kN); (try dsimp only); (try k_fold))) | ((k_here; (with_reducible show wpAny _ _ (call (Value.ref 78) _) _ _ _); k_dflt ((with_reducible rename Fr _ _ _ _ => kF); (with_reducible rename News _ _ _ _ => kN); refine add_ok (Cx.push (by k_asm) kF (by k_asm) (by k_asm) rfl rfl rfl) (dlt (by with_reducible assumption) (by decide)) (ult (by with_reducible assumption) (by decide))  ?_; intro t' h' tk' hK'; have F' := Fr.keeps kF hK'; have N' := News.grown kN hK'; clear kF kN); (try dsimp only); (try k_fold))) | ((k_here; (with_reducible show wpAny _ _ (call (Value.ref 92) _) _ _ _); k_dflt ((with_reducible rename Fr _ _ _ _ => kF); (with_reducible rename News _ _ _ _ => kN); refine getitem_ok (Cx.push (by k_asm) kF (by k_asm) (by k_asm) rfl rfl rfl) (dlt (by with_reducible assumption) (by decide)) (ult (by with_reducible assumption) (by decide)) (by is_list) (by with_reducible assumption) (by omega) (by omega) (by omega) ?_; intro t' h' tk' hK'; have F' := Fr.keeps kF hK'; have N' := News.grown kN hK'; clear kF kN); (try dsimp only); (try k_fold))) | ((k_here; (with_reducible show wpAny _ _ (call (Value.builtin _) [Value.ref _]) _ _ _); k_dflt (refine len_L (by is_list) (by with_reducible assumption) (by lia) ?_))) | walk1)) | (k_end; dsimp only; k_unfold; (try dsimp only)))
  have hsz : Builtin.Range.rangeSize 0 ((b.size : Int) - 1) 1 = ((b.size - 1 : Nat) : Int) := by
    rw [show ((b.size : Int) - 1) = ((b.size - 1 : Nat) : Int) from by omega]; exact range_size _
  have hsm : Builtin.Range.small 0 ((b.size : Int) - 1) 1 = true := by
    rw [show ((b.size : Int) - 1) = ((b.size - 1 : Nat) : Int) from by omega]; exact range_small _ (by omega)
  refine range_T (n := b.size - 1) (fun f m nx => ∃ (vs : List Value) (c : Nat), nx = [(D, PySem.W.listOf vs.toArray c)] ∧ IntsAre vs (mvOut base b.size (octs b) f) ∧ ∃ vf vp, m = movM D b base t1 t2 vf vp)
    (by intro _ _; rfl) rfl (by k_asm) hsm hsz (by k_asm) (by k_asm) ⟨vs0, c0, rfl, hvs0, none, none, ?e1⟩ ?turn ?done
  case e1 =>
    funext y
    change (if y = Str.ofString "row" then some (Value.ref D) else List.lookup y [(Str.ofString "base", Value.int base t2), (Str.ofString "figures", Value.bytes b t1)]) = _
    rw [lookup2]; unfold movM
    by_cases h1 : y = Str.ofString "place"
    · subst h1; rfl
    by_cases h2 : y = Str.ofString "first"
    · subst h2; rfl
    rw [if_neg h1, if_neg h2]
  case turn =>
    rintro f t m1 nx ⟨hp1, g1, dr1, tk1, os1⟩ own hf hadr hoff ⟨vs, c, rfl, hvs, vf, vp, rfl⟩ F1 N1
    dsimp only at F1 N1
    unfold movM at F1
    have F2 : Fr s.heap L' hp1 _ := F1
    have N2 : News s.heap L' hp1 _ := N1
    clear F1 N1
    have hvl : vs.length = b.size := by rw [hvs.length, mvOut_length, octs_length]
    rw [show (0 + (f : Int)) = (f : Int) from by lia]
    repeat' (first | (k_unfold; (try dsimp only)) | (k_end; wrow_close) | ((fail_if_success (with_reducible show wpAny _ _ (PySem.exec (Stmt.For _ _ _ _ _) _) _ _ _)); dsimp only; (first | ((k_here; (with_reducible show wpAny _ _ (call (Value.ref 85) _) _ _ _); k_dflt ((with_reducible rename Fr _ _ _ _ => kF); (with_reducible rename News _ _ _ _ => kN); refine mod_ok (Cx.push (by k_asm) kF (by k_asm) (by k_asm) rfl rfl rfl) (dlt (by with_reducible assumption) (by decide)) (ult (by with_reducible assumption) (by decide)) (by with_reducible assumption) ?_; intro t' h' tk' hK'; have F' := Fr.keeps kF hK'; have N' := News.grown kN hK'; clear kF kN); (try dsimp only); (try k_fold))) | ((k_here; (with_reducible show wpAny _ _ (call (Value.ref 78) _) _ _ _); k_dflt ((with_reducible rename Fr _ _ _ _ => kF); (with_reducible rename News _ _ _ _ => kN); refine add_ok (Cx.push (by k_asm) kF (by k_asm) (by k_asm) rfl rfl rfl) (dlt (by with_reducible assumption) (by decide)) (ult (by with_reducible assumption) (by decide))  ?_; intro t' h' tk' hK'; have F' := Fr.keeps kF hK'; have N' := News.grown kN hK'; clear kF kN); (try dsimp only); (try k_fold))) | ((k_here; (with_reducible show wpAny _ _ (call (Value.ref 92) _) _ _ _); k_dflt ((with_reducible rename Fr _ _ _ _ => kF); (with_reducible rename News _ _ _ _ => kN); refine getitem_ok (Cx.push (by k_asm) kF (by k_asm) (by k_asm) rfl rfl rfl) (dlt (by with_reducible assumption) (by decide)) (ult (by with_reducible assumption) (by decide)) (by is_list) (by with_reducible assumption) (by omega) (by omega) (by omega) ?_; intro t' h' tk' hK'; have F' := Fr.keeps kF hK'; have N' := News.grown kN hK'; clear kF kN); (try dsimp only); (try k_fold))) | ((k_here; (with_reducible show wpAny _ _ (call (Value.builtin _) [Value.ref _]) _ _ _); k_dflt (refine len_L (by is_list) (by with_reducible assumption) (by lia) ?_))) | walk1)) | ((fail_if_success (with_reducible show wpAny _ _ (PySem.exec (Stmt.For _ _ _ _ _) _) _ _ _)); (first | ((k_here; (with_reducible show wpAny _ _ (call (Value.ref 85) _) _ _ _); k_dflt ((with_reducible rename Fr _ _ _ _ => kF); (with_reducible rename News _ _ _ _ => kN); refine mod_ok (Cx.push (by k_asm) kF (by k_asm) (by k_asm) rfl rfl rfl) (dlt (by with_reducible assumption) (by decide)) (ult (by with_reducible assumption) (by decide)) (by with_reducible assumption) ?_; intro t' h' tk' hK'; have F' := Fr.keeps kF hK'; have N' := News.grown kN hK'; clear kF kN); (try dsimp only); (try k_fold))) | ((k_here; (with_reducible show wpAny _ _ (call (Value.ref 78) _) _ _ _); k_dflt ((with_reducible rename Fr _ _ _ _ => kF); (with_reducible rename News _ _ _ _ => kN); refine add_ok (Cx.push (by k_asm) kF (by k_asm) (by k_asm) rfl rfl rfl) (dlt (by with_reducible assumption) (by decide)) (ult (by with_reducible assumption) (by decide))  ?_; intro t' h' tk' hK'; have F' := Fr.keeps kF hK'; have N' := News.grown kN hK'; clear kF kN); (try dsimp only); (try k_fold))) | ((k_here; (with_reducible show wpAny _ _ (call (Value.ref 92) _) _ _ _); k_dflt ((with_reducible rename Fr _ _ _ _ => kF); (with_reducible rename News _ _ _ _ => kN); refine getitem_ok (Cx.push (by k_asm) kF (by k_asm) (by k_asm) rfl rfl rfl) (dlt (by with_reducible assumption) (by decide)) (ult (by with_reducible assumption) (by decide)) (by is_list) (by with_reducible assumption) (by omega) (by omega) (by omega) ?_; intro t' h' tk' hK'; have F' := Fr.keeps kF hK'; have N' := News.grown kN hK'; clear kF kN); (try dsimp only); (try k_fold))) | ((k_here; (with_reducible show wpAny _ _ (call (Value.builtin _) [Value.ref _]) _ _ _); k_dflt (refine len_L (by is_list) (by with_reducible assumption) (by lia) ?_))) | walk1)) | (k_end; dsimp only; k_unfold; (try dsimp only)))
    (rename Fr _ _ _ _ => lF); refine For_invTF lF ?_ (by intro _; rfl)
    repeat' (first | (k_unfold; (try dsimp only)) | (k_end; wrow_close) | ((fail_if_success (with_reducible show wpAny _ _ (pyIter _) _ _ _)); dsimp only; (first | ((k_here; (with_reducible show wpAny _ _ (call (Value.ref 85) _) _ _ _); k_dflt ((with_reducible rename Fr _ _ _ _ => kF); (with_reducible rename News _ _ _ _ => kN); refine mod_ok (Cx.push (by k_asm) kF (by k_asm) (by k_asm) rfl rfl rfl) (dlt (by with_reducible assumption) (by decide)) (ult (by with_reducible assumption) (by decide)) (by with_reducible assumption) ?_; intro t' h' tk' hK'; have F' := Fr.keeps kF hK'; have N' := News.grown kN hK'; clear kF kN); (try dsimp only); (try k_fold))) | ((k_here; (with_reducible show wpAny _ _ (call (Value.ref 78) _) _ _ _); k_dflt ((with_reducible rename Fr _ _ _ _ => kF); (with_reducible rename News _ _ _ _ => kN); refine add_ok (Cx.push (by k_asm) kF (by k_asm) (by k_asm) rfl rfl rfl) (dlt (by with_reducible assumption) (by decide)) (ult (by with_reducible assumption) (by decide))  ?_; intro t' h' tk' hK'; have F' := Fr.keeps kF hK'; have N' := News.grown kN hK'; clear kF kN); (try dsimp only); (try k_fold))) | ((k_here; (with_reducible show wpAny _ _ (call (Value.ref 92) _) _ _ _); k_dflt ((with_reducible rename Fr _ _ _ _ => kF); (with_reducible rename News _ _ _ _ => kN); refine getitem_ok (Cx.push (by k_asm) kF (by k_asm) (by k_asm) rfl rfl rfl) (dlt (by with_reducible assumption) (by decide)) (ult (by with_reducible assumption) (by decide)) (by is_list) (by with_reducible assumption) (by omega) (by omega) (by omega) ?_; intro t' h' tk' hK'; have F' := Fr.keeps kF hK'; have N' := News.grown kN hK'; clear kF kN); (try dsimp only); (try k_fold))) | ((k_here; (with_reducible show wpAny _ _ (call (Value.builtin _) [Value.ref _]) _ _ _); k_dflt (refine len_L (by is_list) (by with_reducible assumption) (by lia) ?_))) | walk1)) | ((fail_if_success (with_reducible show wpAny _ _ (pyIter _) _ _ _)); (first | ((k_here; (with_reducible show wpAny _ _ (call (Value.ref 85) _) _ _ _); k_dflt ((with_reducible rename Fr _ _ _ _ => kF); (with_reducible rename News _ _ _ _ => kN); refine mod_ok (Cx.push (by k_asm) kF (by k_asm) (by k_asm) rfl rfl rfl) (dlt (by with_reducible assumption) (by decide)) (ult (by with_reducible assumption) (by decide)) (by with_reducible assumption) ?_; intro t' h' tk' hK'; have F' := Fr.keeps kF hK'; have N' := News.grown kN hK'; clear kF kN); (try dsimp only); (try k_fold))) | ((k_here; (with_reducible show wpAny _ _ (call (Value.ref 78) _) _ _ _); k_dflt ((with_reducible rename Fr _ _ _ _ => kF); (with_reducible rename News _ _ _ _ => kN); refine add_ok (Cx.push (by k_asm) kF (by k_asm) (by k_asm) rfl rfl rfl) (dlt (by with_reducible assumption) (by decide)) (ult (by with_reducible assumption) (by decide))  ?_; intro t' h' tk' hK'; have F' := Fr.keeps kF hK'; have N' := News.grown kN hK'; clear kF kN); (try dsimp only); (try k_fold))) | ((k_here; (with_reducible show wpAny _ _ (call (Value.ref 92) _) _ _ _); k_dflt ((with_reducible rename Fr _ _ _ _ => kF); (with_reducible rename News _ _ _ _ => kN); refine getitem_ok (Cx.push (by k_asm) kF (by k_asm) (by k_asm) rfl rfl rfl) (dlt (by with_reducible assumption) (by decide)) (ult (by with_reducible assumption) (by decide)) (by is_list) (by with_reducible assumption) (by omega) (by omega) (by omega) ?_; intro t' h' tk' hK'; have F' := Fr.keeps kF hK'; have N' := News.grown kN hK'; clear kF kN); (try dsimp only); (try k_fold))) | ((k_here; (with_reducible show wpAny _ _ (call (Value.builtin _) [Value.ref _]) _ _ _); k_dflt (refine len_L (by is_list) (by with_reducible assumption) (by lia) ?_))) | walk1)) | (k_end; dsimp only; k_unfold; (try dsimp only)))
    refine range_TS (n := b.size - 1 - f) (fun j m nx => ∃ (vs : List Value) (c : Nat), nx = (D, PySem.W.listOf vs.toArray c) :: own ∧ IntsAre vs (mvIn base b.size (mvOut base b.size (octs b) f) j) ∧ ∃ vp, m = movM D b base t1 t2 (some (.int (f : Int) t)) vp)
      (by intro _ _; rfl) rfl (by k_asm) (down_small (by omega) (by omega)) (down_size (by omega)) (by k_asm) (by k_asm) ⟨vs, c, rfl, hvs, vp, ?e2⟩ ?turn2 ?done2
    case e2 =>
      funext y; unfold movM
      by_cases h1 : y = Str.ofString "place"
      · subst h1; rfl
      by_cases h2 : y = Str.ofString "first"
      · subst h2; rfl
      simp only [if_neg h1, if_neg h2]
    case turn2 =>
      rintro j tj m1 nx ⟨hp1, g1, dr1, tk1, os1⟩ own2 hj hadr2 hoff2 ⟨vs, c, rfl, hvs, vp, rfl⟩ F1 N1
      dsimp only at F1 N1
      unfold movM at F1
      have F2 : Fr s.heap L' hp1 _ := F1
      have N2 : News s.heap L' hp1 _ := N1
      clear F1 N1
      have hvl : vs.length = b.size := by rw [hvs.length, mvIn_length, mvOut_length, octs_length]
      obtain ⟨p, hp⟩ : ∃ p : Nat, (b.size : Int) - 2 + (j : Int) * -1 = (p : Int) := ⟨b.size - 2 - j, by omega⟩
      have hp1 : p + 1 < b.size := by omega
      rw [hp]
      have hnl : (mvIn base b.size (mvOut base b.size (octs b) f) j).length = b.size := by rw [mvIn_length, mvOut_length, octs_length]
      repeat' (first | (k_unfold; (try dsimp only)) | (k_end; wrow_close) | ((fail_if_success (with_reducible show wpAny _ _ (call (Value.ref 99) _) _ _ _)); dsimp only; (first | ((k_here; (with_reducible show wpAny _ _ (call (Value.ref 85) _) _ _ _); k_dflt ((with_reducible rename Fr _ _ _ _ => kF); (with_reducible rename News _ _ _ _ => kN); refine mod_ok (Cx.push (by k_asm) kF (by k_asm) (by k_asm) rfl rfl rfl) (dlt (by with_reducible assumption) (by decide)) (ult (by with_reducible assumption) (by decide)) (by with_reducible assumption) ?_; intro t' h' tk' hK'; have F' := Fr.keeps kF hK'; have N' := News.grown kN hK'; clear kF kN); (try dsimp only); (try k_fold))) | ((k_here; (with_reducible show wpAny _ _ (call (Value.ref 78) _) _ _ _); k_dflt ((with_reducible rename Fr _ _ _ _ => kF); (with_reducible rename News _ _ _ _ => kN); refine add_ok (Cx.push (by k_asm) kF (by k_asm) (by k_asm) rfl rfl rfl) (dlt (by with_reducible assumption) (by decide)) (ult (by with_reducible assumption) (by decide))  ?_; intro t' h' tk' hK'; have F' := Fr.keeps kF hK'; have N' := News.grown kN hK'; clear kF kN); (try dsimp only); (try k_fold))) | ((k_here; (with_reducible show wpAny _ _ (call (Value.ref 92) _) _ _ _); k_dflt ((with_reducible rename Fr _ _ _ _ => kF); (with_reducible rename News _ _ _ _ => kN); refine getitem_ok (Cx.push (by k_asm) kF (by k_asm) (by k_asm) rfl rfl rfl) (dlt (by with_reducible assumption) (by decide)) (ult (by with_reducible assumption) (by decide)) (by is_list) (by with_reducible assumption) (by omega) (by omega) (by omega) ?_; intro t' h' tk' hK'; have F' := Fr.keeps kF hK'; have N' := News.grown kN hK'; clear kF kN); (try dsimp only); (try k_fold))) | ((k_here; (with_reducible show wpAny _ _ (call (Value.builtin _) [Value.ref _]) _ _ _); k_dflt (refine len_L (by is_list) (by with_reducible assumption) (by lia) ?_))) | walk1)) | ((fail_if_success (with_reducible show wpAny _ _ (call (Value.ref 99) _) _ _ _)); (first | ((k_here; (with_reducible show wpAny _ _ (call (Value.ref 85) _) _ _ _); k_dflt ((with_reducible rename Fr _ _ _ _ => kF); (with_reducible rename News _ _ _ _ => kN); refine mod_ok (Cx.push (by k_asm) kF (by k_asm) (by k_asm) rfl rfl rfl) (dlt (by with_reducible assumption) (by decide)) (ult (by with_reducible assumption) (by decide)) (by with_reducible assumption) ?_; intro t' h' tk' hK'; have F' := Fr.keeps kF hK'; have N' := News.grown kN hK'; clear kF kN); (try dsimp only); (try k_fold))) | ((k_here; (with_reducible show wpAny _ _ (call (Value.ref 78) _) _ _ _); k_dflt ((with_reducible rename Fr _ _ _ _ => kF); (with_reducible rename News _ _ _ _ => kN); refine add_ok (Cx.push (by k_asm) kF (by k_asm) (by k_asm) rfl rfl rfl) (dlt (by with_reducible assumption) (by decide)) (ult (by with_reducible assumption) (by decide))  ?_; intro t' h' tk' hK'; have F' := Fr.keeps kF hK'; have N' := News.grown kN hK'; clear kF kN); (try dsimp only); (try k_fold))) | ((k_here; (with_reducible show wpAny _ _ (call (Value.ref 92) _) _ _ _); k_dflt ((with_reducible rename Fr _ _ _ _ => kF); (with_reducible rename News _ _ _ _ => kN); refine getitem_ok (Cx.push (by k_asm) kF (by k_asm) (by k_asm) rfl rfl rfl) (dlt (by with_reducible assumption) (by decide)) (ult (by with_reducible assumption) (by decide)) (by is_list) (by with_reducible assumption) (by omega) (by omega) (by omega) ?_; intro t' h' tk' hK'; have F' := Fr.keeps kF hK'; have N' := News.grown kN hK'; clear kF kN); (try dsimp only); (try k_fold))) | ((k_here; (with_reducible show wpAny _ _ (call (Value.builtin _) [Value.ref _]) _ _ _); k_dflt (refine len_L (by is_list) (by with_reducible assumption) (by lia) ?_))) | walk1)) | (k_end; dsimp only; k_unfold; (try dsimp only)))
      rename News _ _ _ _ => N9
      rename Fr _ _ _ _ => F9
      refine setitem_at (by k_asm) F9 N9 (by k_asm) (by k_asm) rfl rfl rfl (dlt (by with_reducible assumption) (by decide)) (ult (by with_reducible assumption) (by decide)) List.mem_cons_self (nf := fun o' => (D, o') :: (own ++ own2)) (fun o' => .head (off3 hoff hoff2)) hvs (by omega) (by omega) (by omega) ?_
      intro h3 tk3 vs3 c3 F3 N3 hv3
      dsimp only
      repeat' (first | (k_unfold; (try dsimp only)) | (k_end; wrow_close) | (dsimp only; (first | ((k_here; (with_reducible show wpAny _ _ (call (Value.ref 85) _) _ _ _); k_dflt ((with_reducible rename Fr _ _ _ _ => kF); (with_reducible rename News _ _ _ _ => kN); refine mod_ok (Cx.push (by k_asm) kF (by k_asm) (by k_asm) rfl rfl rfl) (dlt (by with_reducible assumption) (by decide)) (ult (by with_reducible assumption) (by decide)) (by with_reducible assumption) ?_; intro t' h' tk' hK'; have F' := Fr.keeps kF hK'; have N' := News.grown kN hK'; clear kF kN); (try dsimp only); (try k_fold))) | ((k_here; (with_reducible show wpAny _ _ (call (Value.ref 78) _) _ _ _); k_dflt ((with_reducible rename Fr _ _ _ _ => kF); (with_reducible rename News _ _ _ _ => kN); refine add_ok (Cx.push (by k_asm) kF (by k_asm) (by k_asm) rfl rfl rfl) (dlt (by with_reducible assumption) (by decide)) (ult (by with_reducible assumption) (by decide))  ?_; intro t' h' tk' hK'; have F' := Fr.keeps kF hK'; have N' := News.grown kN hK'; clear kF kN); (try dsimp only); (try k_fold))) | ((k_here; (with_reducible show wpAny _ _ (call (Value.ref 92) _) _ _ _); k_dflt ((with_reducible rename Fr _ _ _ _ => kF); (with_reducible rename News _ _ _ _ => kN); refine getitem_ok (Cx.push (by k_asm) kF (by k_asm) (by k_asm) rfl rfl rfl) (dlt (by with_reducible assumption) (by decide)) (ult (by with_reducible assumption) (by decide)) (by is_list) (by with_reducible assumption) (by omega) (by omega) (by omega) ?_; intro t' h' tk' hK'; have F' := Fr.keeps kF hK'; have N' := News.grown kN hK'; clear kF kN); (try dsimp only); (try k_fold))) | ((k_here; (with_reducible show wpAny _ _ (call (Value.builtin _) [Value.ref _]) _ _ _); k_dflt (refine len_L (by is_list) (by with_reducible assumption) (by lia) ?_))) | walk1)) | ((first | ((k_here; (with_reducible show wpAny _ _ (call (Value.ref 85) _) _ _ _); k_dflt ((with_reducible rename Fr _ _ _ _ => kF); (with_reducible rename News _ _ _ _ => kN); refine mod_ok (Cx.push (by k_asm) kF (by k_asm) (by k_asm) rfl rfl rfl) (dlt (by with_reducible assumption) (by decide)) (ult (by with_reducible assumption) (by decide)) (by with_reducible assumption) ?_; intro t' h' tk' hK'; have F' := Fr.keeps kF hK'; have N' := News.grown kN hK'; clear kF kN); (try dsimp only); (try k_fold))) | ((k_here; (with_reducible show wpAny _ _ (call (Value.ref 78) _) _ _ _); k_dflt ((with_reducible rename Fr _ _ _ _ => kF); (with_reducible rename News _ _ _ _ => kN); refine add_ok (Cx.push (by k_asm) kF (by k_asm) (by k_asm) rfl rfl rfl) (dlt (by with_reducible assumption) (by decide)) (ult (by with_reducible assumption) (by decide))  ?_; intro t' h' tk' hK'; have F' := Fr.keeps kF hK'; have N' := News.grown kN hK'; clear kF kN); (try dsimp only); (try k_fold))) | ((k_here; (with_reducible show wpAny _ _ (call (Value.ref 92) _) _ _ _); k_dflt ((with_reducible rename Fr _ _ _ _ => kF); (with_reducible rename News _ _ _ _ => kN); refine getitem_ok (Cx.push (by k_asm) kF (by k_asm) (by k_asm) rfl rfl rfl) (dlt (by with_reducible assumption) (by decide)) (ult (by with_reducible assumption) (by decide)) (by is_list) (by with_reducible assumption) (by omega) (by omega) (by omega) ?_; intro t' h' tk' hK'; have F' := Fr.keeps kF hK'; have N' := News.grown kN hK'; clear kF kN); (try dsimp only); (try k_fold))) | ((k_here; (with_reducible show wpAny _ _ (call (Value.builtin _) [Value.ref _]) _ _ _); k_dflt (refine len_L (by is_list) (by with_reducible assumption) (by lia) ?_))) | walk1)) | (k_end; dsimp only; k_unfold; (try dsimp only)))
      refine tend [] (_ :: own) F3 N3 rfl ?_
      refine ⟨vs3, c3, rfl, ?_, some (.int (p : Int) tj), by funext y; unfold movM; by_cases h1 : y = Str.ofString "place" <;> simp only [h1, if_true, if_false] <;> rfl⟩
      rw [mvIn, mvSet, show b.size - 2 - j = p from by omega]
      rw [show (p : Int).toNat = p from by omega, show ((p : Int) + 1).toNat = p + 1 from by omega] at hv3
      exact hv3
    case done2 =>
      intro m1 nx h2 tk2 hJ F1 N1
      obtain ⟨vs, c, rfl, hvs, vp, rfl⟩ := hJ
      unfold movM at F1
      have F2 : Fr s.heap L' h2 _ := F1
      have N2 : News s.heap L' h2 _ := N1
      clear F1 N1
      repeat' (first | (k_unfold; (try dsimp only)) | (k_end; wrow_close) | (dsimp only; (first | ((k_here; (with_reducible show wpAny _ _ (call (Value.ref 85) _) _ _ _); k_dflt ((with_reducible rename Fr _ _ _ _ => kF); (with_reducible rename News _ _ _ _ => kN); refine mod_ok (Cx.push (by k_asm) kF (by k_asm) (by k_asm) rfl rfl rfl) (dlt (by with_reducible assumption) (by decide)) (ult (by with_reducible assumption) (by decide)) (by with_reducible assumption) ?_; intro t' h' tk' hK'; have F' := Fr.keeps kF hK'; have N' := News.grown kN hK'; clear kF kN); (try dsimp only); (try k_fold))) | ((k_here; (with_reducible show wpAny _ _ (call (Value.ref 78) _) _ _ _); k_dflt ((with_reducible rename Fr _ _ _ _ => kF); (with_reducible rename News _ _ _ _ => kN); refine add_ok (Cx.push (by k_asm) kF (by k_asm) (by k_asm) rfl rfl rfl) (dlt (by with_reducible assumption) (by decide)) (ult (by with_reducible assumption) (by decide))  ?_; intro t' h' tk' hK'; have F' := Fr.keeps kF hK'; have N' := News.grown kN hK'; clear kF kN); (try dsimp only); (try k_fold))) | ((k_here; (with_reducible show wpAny _ _ (call (Value.ref 92) _) _ _ _); k_dflt ((with_reducible rename Fr _ _ _ _ => kF); (with_reducible rename News _ _ _ _ => kN); refine getitem_ok (Cx.push (by k_asm) kF (by k_asm) (by k_asm) rfl rfl rfl) (dlt (by with_reducible assumption) (by decide)) (ult (by with_reducible assumption) (by decide)) (by is_list) (by with_reducible assumption) (by omega) (by omega) (by omega) ?_; intro t' h' tk' hK'; have F' := Fr.keeps kF hK'; have N' := News.grown kN hK'; clear kF kN); (try dsimp only); (try k_fold))) | ((k_here; (with_reducible show wpAny _ _ (call (Value.builtin _) [Value.ref _]) _ _ _); k_dflt (refine len_L (by is_list) (by with_reducible assumption) (by lia) ?_))) | walk1)) | ((first | ((k_here; (with_reducible show wpAny _ _ (call (Value.ref 85) _) _ _ _); k_dflt ((with_reducible rename Fr _ _ _ _ => kF); (with_reducible rename News _ _ _ _ => kN); refine mod_ok (Cx.push (by k_asm) kF (by k_asm) (by k_asm) rfl rfl rfl) (dlt (by with_reducible assumption) (by decide)) (ult (by with_reducible assumption) (by decide)) (by with_reducible assumption) ?_; intro t' h' tk' hK'; have F' := Fr.keeps kF hK'; have N' := News.grown kN hK'; clear kF kN); (try dsimp only); (try k_fold))) | ((k_here; (with_reducible show wpAny _ _ (call (Value.ref 78) _) _ _ _); k_dflt ((with_reducible rename Fr _ _ _ _ => kF); (with_reducible rename News _ _ _ _ => kN); refine add_ok (Cx.push (by k_asm) kF (by k_asm) (by k_asm) rfl rfl rfl) (dlt (by with_reducible assumption) (by decide)) (ult (by with_reducible assumption) (by decide))  ?_; intro t' h' tk' hK'; have F' := Fr.keeps kF hK'; have N' := News.grown kN hK'; clear kF kN); (try dsimp only); (try k_fold))) | ((k_here; (with_reducible show wpAny _ _ (call (Value.ref 92) _) _ _ _); k_dflt ((with_reducible rename Fr _ _ _ _ => kF); (with_reducible rename News _ _ _ _ => kN); refine getitem_ok (Cx.push (by k_asm) kF (by k_asm) (by k_asm) rfl rfl rfl) (dlt (by with_reducible assumption) (by decide)) (ult (by with_reducible assumption) (by decide)) (by is_list) (by with_reducible assumption) (by omega) (by omega) (by omega) ?_; intro t' h' tk' hK'; have F' := Fr.keeps kF hK'; have N' := News.grown kN hK'; clear kF kN); (try dsimp only); (try k_fold))) | ((k_here; (with_reducible show wpAny _ _ (call (Value.builtin _) [Value.ref _]) _ _ _); k_dflt (refine len_L (by is_list) (by with_reducible assumption) (by lia) ?_))) | walk1)) | (k_end; dsimp only; k_unfold; (try dsimp only)))
      refine tend [] [_] F2 N2 rfl ⟨_, _, rfl, hvs, _, _, rfl⟩
  case done =>
    intro m1 nx h2 tk2 hJ F1 N1
    obtain ⟨vs, c, rfl, hvs, vf, vp, rfl⟩ := hJ
    unfold movM at F1
    have F2 : Fr s.heap L' h2 _ := F1
    have N2 : News s.heap L' h2 _ := N1
    clear F1 N1
    have hvl : vs.length = b.size := by rw [hvs.length, mvOut_length, octs_length]
    repeat' (first | (k_unfold; (try dsimp only)) | (k_end; wrow_close) | ((fail_if_success (with_reducible show wpAny _ _ (call (Value.type _) _) _ _ _)); dsimp only; (first | ((k_here; (with_reducible show wpAny _ _ (call (Value.ref 85) _) _ _ _); k_dflt ((with_reducible rename Fr _ _ _ _ => kF); (with_reducible rename News _ _ _ _ => kN); refine mod_ok (Cx.push (by k_asm) kF (by k_asm) (by k_asm) rfl rfl rfl) (dlt (by with_reducible assumption) (by decide)) (ult (by with_reducible assumption) (by decide)) (by with_reducible assumption) ?_; intro t' h' tk' hK'; have F' := Fr.keeps kF hK'; have N' := News.grown kN hK'; clear kF kN); (try dsimp only); (try k_fold))) | ((k_here; (with_reducible show wpAny _ _ (call (Value.ref 78) _) _ _ _); k_dflt ((with_reducible rename Fr _ _ _ _ => kF); (with_reducible rename News _ _ _ _ => kN); refine add_ok (Cx.push (by k_asm) kF (by k_asm) (by k_asm) rfl rfl rfl) (dlt (by with_reducible assumption) (by decide)) (ult (by with_reducible assumption) (by decide))  ?_; intro t' h' tk' hK'; have F' := Fr.keeps kF hK'; have N' := News.grown kN hK'; clear kF kN); (try dsimp only); (try k_fold))) | ((k_here; (with_reducible show wpAny _ _ (call (Value.ref 92) _) _ _ _); k_dflt ((with_reducible rename Fr _ _ _ _ => kF); (with_reducible rename News _ _ _ _ => kN); refine getitem_ok (Cx.push (by k_asm) kF (by k_asm) (by k_asm) rfl rfl rfl) (dlt (by with_reducible assumption) (by decide)) (ult (by with_reducible assumption) (by decide)) (by is_list) (by with_reducible assumption) (by omega) (by omega) (by omega) ?_; intro t' h' tk' hK'; have F' := Fr.keeps kF hK'; have N' := News.grown kN hK'; clear kF kN); (try dsimp only); (try k_fold))) | ((k_here; (with_reducible show wpAny _ _ (call (Value.builtin _) [Value.ref _]) _ _ _); k_dflt (refine len_L (by is_list) (by with_reducible assumption) (by lia) ?_))) | walk1)) | ((fail_if_success (with_reducible show wpAny _ _ (call (Value.type _) _) _ _ _)); (first | ((k_here; (with_reducible show wpAny _ _ (call (Value.ref 85) _) _ _ _); k_dflt ((with_reducible rename Fr _ _ _ _ => kF); (with_reducible rename News _ _ _ _ => kN); refine mod_ok (Cx.push (by k_asm) kF (by k_asm) (by k_asm) rfl rfl rfl) (dlt (by with_reducible assumption) (by decide)) (ult (by with_reducible assumption) (by decide)) (by with_reducible assumption) ?_; intro t' h' tk' hK'; have F' := Fr.keeps kF hK'; have N' := News.grown kN hK'; clear kF kN); (try dsimp only); (try k_fold))) | ((k_here; (with_reducible show wpAny _ _ (call (Value.ref 78) _) _ _ _); k_dflt ((with_reducible rename Fr _ _ _ _ => kF); (with_reducible rename News _ _ _ _ => kN); refine add_ok (Cx.push (by k_asm) kF (by k_asm) (by k_asm) rfl rfl rfl) (dlt (by with_reducible assumption) (by decide)) (ult (by with_reducible assumption) (by decide))  ?_; intro t' h' tk' hK'; have F' := Fr.keeps kF hK'; have N' := News.grown kN hK'; clear kF kN); (try dsimp only); (try k_fold))) | ((k_here; (with_reducible show wpAny _ _ (call (Value.ref 92) _) _ _ _); k_dflt ((with_reducible rename Fr _ _ _ _ => kF); (with_reducible rename News _ _ _ _ => kN); refine getitem_ok (Cx.push (by k_asm) kF (by k_asm) (by k_asm) rfl rfl rfl) (dlt (by with_reducible assumption) (by decide)) (ult (by with_reducible assumption) (by decide)) (by is_list) (by with_reducible assumption) (by omega) (by omega) (by omega) ?_; intro t' h' tk' hK'; have F' := Fr.keeps kF hK'; have N' := News.grown kN hK'; clear kF kN); (try dsimp only); (try k_fold))) | ((k_here; (with_reducible show wpAny _ _ (call (Value.builtin _) [Value.ref _]) _ _ _); k_dflt (refine len_L (by is_list) (by with_reducible assumption) (by lia) ?_))) | walk1)) | (k_end; dsimp only; k_unfold; (try dsimp only)))
    refine bytes_K (ns := mvOut base b.size (octs b) (b.size - 1)) (by k_asm) (by k_asm) (by is_list) hvs (mvOut_oct hbase _ (octs_oct b) _) (by rw [hvl]; unfold sizeLine; lia) (by rfl) ?_
    intro h' t' k' F' N' _
    repeat' (first | (k_unfold; (try dsimp only)) | (k_end; wrow_close) | (dsimp only; (first | ((k_here; (with_reducible show wpAny _ _ (call (Value.ref 85) _) _ _ _); k_dflt ((with_reducible rename Fr _ _ _ _ => kF); (with_reducible rename News _ _ _ _ => kN); refine mod_ok (Cx.push (by k_asm) kF (by k_asm) (by k_asm) rfl rfl rfl) (dlt (by with_reducible assumption) (by decide)) (ult (by with_reducible assumption) (by decide)) (by with_reducible assumption) ?_; intro t' h' tk' hK'; have F' := Fr.keeps kF hK'; have N' := News.grown kN hK'; clear kF kN); (try dsimp only); (try k_fold))) | ((k_here; (with_reducible show wpAny _ _ (call (Value.ref 78) _) _ _ _); k_dflt ((with_reducible rename Fr _ _ _ _ => kF); (with_reducible rename News _ _ _ _ => kN); refine add_ok (Cx.push (by k_asm) kF (by k_asm) (by k_asm) rfl rfl rfl) (dlt (by with_reducible assumption) (by decide)) (ult (by with_reducible assumption) (by decide))  ?_; intro t' h' tk' hK'; have F' := Fr.keeps kF hK'; have N' := News.grown kN hK'; clear kF kN); (try dsimp only); (try k_fold))) | ((k_here; (with_reducible show wpAny _ _ (call (Value.ref 92) _) _ _ _); k_dflt ((with_reducible rename Fr _ _ _ _ => kF); (with_reducible rename News _ _ _ _ => kN); refine getitem_ok (Cx.push (by k_asm) kF (by k_asm) (by k_asm) rfl rfl rfl) (dlt (by with_reducible assumption) (by decide)) (ult (by with_reducible assumption) (by decide)) (by is_list) (by with_reducible assumption) (by omega) (by omega) (by omega) ?_; intro t' h' tk' hK'; have F' := Fr.keeps kF hK'; have N' := News.grown kN hK'; clear kF kN); (try dsimp only); (try k_fold))) | ((k_here; (with_reducible show wpAny _ _ (call (Value.builtin _) [Value.ref _]) _ _ _); k_dflt (refine len_L (by is_list) (by with_reducible assumption) (by lia) ?_))) | walk1)) | ((first | ((k_here; (with_reducible show wpAny _ _ (call (Value.ref 85) _) _ _ _); k_dflt ((with_reducible rename Fr _ _ _ _ => kF); (with_reducible rename News _ _ _ _ => kN); refine mod_ok (Cx.push (by k_asm) kF (by k_asm) (by k_asm) rfl rfl rfl) (dlt (by with_reducible assumption) (by decide)) (ult (by with_reducible assumption) (by decide)) (by with_reducible assumption) ?_; intro t' h' tk' hK'; have F' := Fr.keeps kF hK'; have N' := News.grown kN hK'; clear kF kN); (try dsimp only); (try k_fold))) | ((k_here; (with_reducible show wpAny _ _ (call (Value.ref 78) _) _ _ _); k_dflt ((with_reducible rename Fr _ _ _ _ => kF); (with_reducible rename News _ _ _ _ => kN); refine add_ok (Cx.push (by k_asm) kF (by k_asm) (by k_asm) rfl rfl rfl) (dlt (by with_reducible assumption) (by decide)) (ult (by with_reducible assumption) (by decide))  ?_; intro t' h' tk' hK'; have F' := Fr.keeps kF hK'; have N' := News.grown kN hK'; clear kF kN); (try dsimp only); (try k_fold))) | ((k_here; (with_reducible show wpAny _ _ (call (Value.ref 92) _) _ _ _); k_dflt ((with_reducible rename Fr _ _ _ _ => kF); (with_reducible rename News _ _ _ _ => kN); refine getitem_ok (Cx.push (by k_asm) kF (by k_asm) (by k_asm) rfl rfl rfl) (dlt (by with_reducible assumption) (by decide)) (ult (by with_reducible assumption) (by decide)) (by is_list) (by with_reducible assumption) (by omega) (by omega) (by omega) ?_; intro t' h' tk' hK'; have F' := Fr.keeps kF hK'; have N' := News.grown kN hK'; clear kF kN); (try dsimp only); (try k_fold))) | ((k_here; (with_reducible show wpAny _ _ (call (Value.builtin _) [Value.ref _]) _ _ _); k_dflt (refine len_L (by is_list) (by with_reducible assumption) (by lia) ?_))) | walk1)) | (k_end; dsimp only; k_unfold; (try dsimp only)))
    exact h _ _ _ (Fr.keep (by k_asm))
end
section
local macro_rules | `(tactic| omega) => `(tactic| first | lia | omega (config := {}))
open PySem PySem.W PyProof.Rows PySem.Calls
set_option maxRecDepth 100000
set_option maxHeartbeats 8000000

/-- the whole number, its figures, and noughts behind -/
noncomputable def wholeN (wd pl : Nat) (ds : List Int) : Nat := (sumD ds (wd * pl) 0 ds.length).toNat
noncomputable def figL (wd pl : Nat) (ds : List Int) : List Int := putD wd (wholeN wd pl ds) 0 (List.replicate (manyD wd (wholeN wd pl ds)) 0) (manyD wd (wholeN wd pl ds)) ++ List.replicate (pl * ds.length - manyD wd (wholeN wd pl ds)) 0
noncomputable def toB (l : List Int) : Array UInt8 := (l.map fun n => n.toNat.toUInt8).toArray
noncomputable def figF (wd pl : Nat) (ds : List Int) : Array UInt8 := toB (figL wd pl ds)
theorem putD_oct {nn x L : Nat} {ns : List Int} (hnn : 1 ≤ nn ∧ nn ≤ 2) (h : Oct ns) : ∀ k, Oct (putD nn x L ns k)
  | 0 => h
  | k + 1 => by
    intro y hy
    rcases List.mem_or_eq_of_mem_set hy with h' | h'
    · exact putD_oct hnn h k y h'
    · have h1 : (x / 2 ^ (nn * k)) % 2 ^ nn < 2 ^ nn := Nat.mod_lt _ (Nat.pow_pos (by decide))
      have h2 : 2 ^ nn ≤ 4 := by rcases (show nn = 1 ∨ nn = 2 by lia) with rfl | rfl <;> decide
      rw [h']
      generalize (x / 2 ^ (nn * k)) % 2 ^ nn = z at *
      omega
theorem reps_oct (k : Nat) : Oct (List.replicate k 0) := by
  intro y hy
  rw [(List.mem_replicate.mp hy).2]
  omega
theorem figL_oct {wd pl : Nat} {ds : List Int} (hw : 1 ≤ wd ∧ wd ≤ 2) : Oct (figL wd pl ds) := by
  intro y hy
  rcases List.mem_append.mp hy with h | h
  · exact putD_oct hw (reps_oct _) _ y h
  · exact reps_oct _ y h
theorem tnd {h₀ h : Heap} {L : Addr} {o1 o2 : Obj} (N : News h₀ L h [(66, o1), (59, o2)]) : News h₀ L h [(59, o2)] := fun p hp => N p (List.mem_cons_of_mem _ hp)
theorem figures_ok {w : World} {A : Around} {s : Shared} {Q E : Value → Shared → Prop}
   {h₀ : Heap} {l : Addr} {vs : List Value} {ds : List Int} {wd pl : Nat} {t1 t2 : Tok}
   (C : Cx w A h₀) (hk₀ : ∀ b o, h₀.get? b = some o → s.heap.get? b = some o) (hz₀ : h₀.objs.size = s.heap.objs.size) (hdp : A.depth < 600) (hu : A.units < 5000)
   (hn₀ : ∀ p ∈ [(66, tabObj #[]), (59, tabObj #[])], s.heap.get? p.1 = some p.2 ∧ h₀.get? p.1 = none) (hall : ∀ b o, b ≠ 66 → b ≠ 59 → s.heap.get? b = some o → h₀.get? b = some o)
   (hl : h₀.IsList l vs.toArray) (hi : IntsAre vs ds) (hlen : 1 ≤ ds.length ∧ ds.length ≤ 24) (hw : 1 ≤ wd ∧ wd ≤ 2) (hp : 1 ≤ pl) (hwp : wd * pl ≤ 8) (hds : ∀ i, 0 ≤ ds.getD i 0 ∧ ds.getD i 0 < 2 ^ (wd * pl)) (hpos : 0 < sumD ds (wd * pl) 0 ds.length)
   (h : ∀ t h' tk', (∀ b o, b ≠ 66 → b ≠ 59 → s.heap.get? b = some o → h'.get? b = some o) → GrownAt 66 h' → GrownAt 59 h' → Q (.bytes (figF wd pl ds) t) { s with heap := h', toks := tk' }) :
   wpAny (model Challenge.rw_zo0018_01.row.prog w) A (call (.ref 113) [.ref l, .int (wd : Int) t1, .int (pl : Int) t2]) Q E s := by
  have hlt : 66 < s.heap.objs.size := Heap.lt_size (hn₀ _ List.mem_cons_self).1
  have hvl : vs.length = ds.length := hi.length
  have KX := C.X.keeps hk₀
  have hh := C.hh
  revert KX; k_fill; intro KX
  obtain ⟨hd0, dp0, fr0, gd0, un0⟩ := A
  obtain rfl : hd0 = none := hh
  dsimp only at hdp hu
  refine wpAny_call ?_
  w_on
  k_dflt (refine' enterE ?k1 ?kS ?kZ ?kN ?k6 ?k7 ?k8 ?k9 ?kB ?_ ?c2 ?c3 ?c4 ?c5; (case k1 => exact C); (case kS => exact hk₀); (case kZ => exact hz₀); (case kN => exact hn₀); (case k6 => k_is); (case k7 => k_is); (case k8 => (simp only [recursionLimit]; omega)); (case k9 => first | exact BindsTo.of_eq rfl | fail "no rule for these arguments"); (case c5 => decide); (case kB => exact locs rfl); (case c2 => exact rfl); (case c3 => exact rfl); (case c4 => exact rfl); k_whole; intro L' h' bse outer loose mean mg mb B' X' T' F' N' K' S'; clear C KX; (try dsimp only); (try k_fold))
  have hlt' : 66 < L' := Nat.lt_of_lt_of_le hlt S'
  have hnn : 1 ≤ wd * pl ∧ wd * pl ≤ 8 := ⟨Nat.mul_pos hw.1 hp, hwp⟩
  have hbd := sumD_bound hds ds.length 0
  obtain ⟨a, hae⟩ : ∃ a, wholeN wd pl ds = a := ⟨_, rfl⟩
  have haz : sumD ds (wd * pl) 0 ds.length = (a : Int) := by rw [← hae]; unfold wholeN; lia
  have hale : a < 2 ^ (wd * (pl * ds.length)) := by
    rw [← Nat.mul_assoc]
    have := hbd.2
    rw [haz] at this
    have h2 : ((a : Nat) : Int) < ((2 ^ (wd * pl * ds.length) : Nat) : Int) := by push_cast; exact this
    exact Int.ofNat_lt.mp h2
  have ha2 : a < 2 ^ 200 := Nat.lt_of_lt_of_le hale (Nat.pow_le_pow_right (by decide) (by
    rw [← Nat.mul_assoc]
    exact Nat.le_trans (Nat.mul_le_mul hwp hlen.2) (by decide)))
  have ha0 : 0 < a := by lia
  obtain ⟨m, hmd⟩ : ∃ m, manyD wd a = m := ⟨_, rfl⟩
  have hml : m ≤ pl * ds.length := by
    rw [← hmd]
    unfold manyD
    have hb : Builtin.Int.intBits (a : Int) ≤ wd * (pl * ds.length) := bits_le (Int.natCast_nonneg _) (by have := Int.ofNat_lt.mpr hale; push_cast at this ⊢; exact this)
    rcases (show wd = 1 ∨ wd = 2 by lia) with rfl | rfl <;> lia
  have hpl : pl * ds.length ≤ 200 := by
    have h8 : pl ≤ 8 := Nat.le_trans (Nat.le_mul_of_pos_left pl hw.1) hwp
    exact Nat.le_trans (Nat.mul_le_mul h8 hlen.2) (by decide)
  have hres : figF wd pl ds = toB (putD wd a 0 (List.replicate m 0) m ++ List.replicate (pl * ds.length - m) 0) := by
    unfold figF figL
    rw [hae, hmd]
  have hoct : Oct (putD wd a 0 (List.replicate m 0) m ++ List.replicate (pl * ds.length - m) 0) := by
    have := figL_oct (wd := wd) (pl := pl) (ds := ds) hw
    unfold figL at this
    rw [hae, hmd] at this
    exact this
  clear hbd
  rw [hres] at h
  clear hres
  repeat' (first | (k_unfold; (try dsimp only)) | (k_end; wrow_close) | ((fail_if_success (with_reducible show wpAny _ _ (call (Value.ref 71) _) _ _ _)); dsimp only; (first | ((k_here; (with_reducible show wpAny _ _ (call (Value.builtin _) [Value.ref _]) _ _ _); k_dflt (refine len_L (by is_list) (by with_reducible assumption) (by lia) ?_))) | walk1)) | ((fail_if_success (with_reducible show wpAny _ _ (call (Value.ref 71) _) _ _ _)); (first | ((k_here; (with_reducible show wpAny _ _ (call (Value.builtin _) [Value.ref _]) _ _ _); k_dflt (refine len_L (by is_list) (by with_reducible assumption) (by lia) ?_))) | walk1)) | (k_end; dsimp only; k_unfold; (try dsimp only)))
  rename News _ _ _ _ => N9
  rename Fr _ _ _ _ => F9
  have z66 := N9 _ (.head _)
  have z59 := N9 _ (.tail _ (.head _))
  have enn : ((wd : Int) * (pl : Int)) = ((wd * pl : Nat) : Int) := by push_cast; rfl
  rw [enn]
  refine d2i_ok (h₀ := without h' 66) (Cx.push B' (fr_without F9 z66.2.1 z66.2.2) X' T' rfl rfl rfl) without_keep (without_size _ _) (by show dp0 + 1 < 800; exact dlt hdp (by decide)) (by show un0 + 3 < 7000; exact ult hu (by decide)) (fun p hp => ?_) (fun b o hb e => (without_other hb).trans e) (hl.at fun o e => ?_) hi hlen hds hnn ?_
  · rcases List.mem_cons.mp hp with rfl | hp
    · exact ⟨z66.1, without_self _ _⟩
    · cases hp
  · have : l ≠ 66 := fun q => by rw [q, z66.2.2] at e; cases e
    exact (without_other this).trans (F9.keep _ o e)
  intro h2 tk2 t3 hs2 g2
  obtain ⟨p1, g2⟩ := g2
  rw [haz]
  have F8 : Fr h₀ L' h2 _ := Fr.ext F9 hs2 z66.2.1 z66.2.2
  have N8 : News h₀ L' h2 [(59, tabObj #[]), (66, tabObj p1)] := fun p hp => by
    rcases List.mem_cons.mp hp with rfl | hp
    · exact ⟨hs2 _ _ (by decide) z59.1, z59.2⟩
    rcases List.mem_cons.mp hp with rfl | hp
    · exact ⟨g2, z66.2⟩
    · cases hp
  clear F9 N9 z66 z59 hs2
  dsimp only
  repeat' (first | (k_unfold; (try dsimp only)) | (k_end; wrow_close) | ((fail_if_success (with_reducible show wpAny _ _ (call (Value.ref 64) _) _ _ _)); dsimp only; (first | ((k_here; (with_reducible show wpAny _ _ (call (Value.builtin _) [Value.ref _]) _ _ _); k_dflt (refine len_L (by is_list) (by with_reducible assumption) (by lia) ?_))) | walk1)) | ((fail_if_success (with_reducible show wpAny _ _ (call (Value.ref 64) _) _ _ _)); (first | ((k_here; (with_reducible show wpAny _ _ (call (Value.builtin _) [Value.ref _]) _ _ _); k_dflt (refine len_L (by is_list) (by with_reducible assumption) (by lia) ?_))) | walk1)) | (k_end; dsimp only; k_unfold; (try dsimp only)))
  rename News _ _ _ _ => N9
  rename Fr _ _ _ _ => F9
  have z59 := N9 _ (.head _)
  refine i2d_ok (h₀ := without h2 59) (Cx.push B' (fr_without F9 z59.2.1 z59.2.2) X' T' rfl rfl rfl) without_keep (without_size _ _) (by show dp0 + 1 < 700; exact dlt hdp (by decide)) (by show un0 + 3 < 6000; exact ult hu (by decide)) (fun p hp => ?_) (fun b o hb e => (without_other hb).trans e) ⟨ha0, ha2⟩ hw ?_
  · rcases List.mem_cons.mp hp with rfl | hp
    · exact ⟨z59.1, without_self _ _⟩
    · cases hp
  intro l3 vs3 c3 h3 tk3 hs3 g3 hn3 hg3 hv3
  obtain ⟨p2, g3⟩ := g3
  have z66 := N9 (66, tabObj p1) (.tail _ (.head _))
  rw [hmd] at hv3
  have F8 : Fr h₀ L' h3 _ := Fr.ext F9 hs3 z59.2.1 z59.2.2
  have N8 : News h₀ L' h3 [(l3, _), (66, tabObj p1), (59, tabObj p2)] := News.made (news := [(66, tabObj p1), (59, tabObj p2)]) F9 (fun p hp => by
    rcases List.mem_cons.mp hp with rfl | hp
    · exact ⟨hs3 _ _ (show ¬ (66 : Nat) = 59 by decide) z66.1, z66.2⟩
    rcases List.mem_cons.mp hp with rfl | hp
    · exact ⟨g3, z59.2⟩
    · cases hp) hn3 hg3
  clear F9 N9 z59 z66 hs3
  have hv3l : vs3.length = m := by rw [hv3.length, putD_length]; simp
  dsimp only
  repeat' (first | (k_unfold; (try dsimp only)) | (k_end; wrow_close) | ((fail_if_success (with_reducible show wpAny _ _ (binaryOp Operator.Mult (Value.ref _) _) _ _ _)); dsimp only; (first | ((k_here; (with_reducible show wpAny _ _ (call (Value.builtin _) [Value.ref _]) _ _ _); k_dflt (refine len_L (by is_list) (by with_reducible assumption) (by lia) ?_))) | walk1)) | ((fail_if_success (with_reducible show wpAny _ _ (binaryOp Operator.Mult (Value.ref _) _) _ _ _)); (first | ((k_here; (with_reducible show wpAny _ _ (call (Value.builtin _) [Value.ref _]) _ _ _); k_dflt (refine len_L (by is_list) (by with_reducible assumption) (by lia) ?_))) | walk1)) | (k_end; dsimp only; k_unfold; (try dsimp only)))
  rename News _ _ _ _ => N9
  rename Fr _ _ _ _ => F9
  have ex : (pl : Int) * (ds.length : Int) - (m : Int) = ((pl * ds.length - m : Nat) : Int) := by
    have e0 : ((pl * ds.length : Nat) : Int) = (pl : Int) * (ds.length : Int) := by push_cast; rfl
    rw [← e0]
    exact (Int.ofNat_sub hml).symm
  refine mul_zeros F9 N9 (N9 _ (.head _)).1 ex (by omega) ?_
  intro h5 D5 vs5 c5 F5 N5 hv5 lt5
  have hv5l : vs5.length = pl * ds.length - m := by rw [hv5.length]; simp
  clear F9 N9 lt5
  dsimp only
  refine add_lists (vs := vs3) (ws := vs5) F5 N5 ⟨_, (N5 _ (.tail _ (.tail _ (.head _)))).1, rfl, _, rfl⟩ ⟨_, (N5 _ (.head _)).1, rfl, _, rfl⟩ ?_ (hsz := by rw [hv3l, hv5l]; unfold sizeLine; omega)
  intro h6 F6 N6
  clear F5 N5
  dsimp only
  repeat' (first | (k_unfold; (try dsimp only)) | (k_end; wrow_close) | ((fail_if_success (with_reducible show wpAny _ _ (call (Value.type _) _) _ _ _)); dsimp only; (first | ((k_here; (with_reducible show wpAny _ _ (call (Value.builtin _) [Value.ref _]) _ _ _); k_dflt (refine len_L (by is_list) (by with_reducible assumption) (by lia) ?_))) | walk1)) | ((fail_if_success (with_reducible show wpAny _ _ (call (Value.type _) _) _ _ _)); (first | ((k_here; (with_reducible show wpAny _ _ (call (Value.builtin _) [Value.ref _]) _ _ _); k_dflt (refine len_L (by is_list) (by with_reducible assumption) (by lia) ?_))) | walk1)) | (k_end; dsimp only; k_unfold; (try dsimp only)))
  rename News _ _ _ _ => N9
  rename Fr _ _ _ _ => F9
  refine bytes_K F9 N9 ⟨_, (N9 _ (.head _)).1, rfl, _, rfl⟩ (hv3.append hv5) hoct (by rw [List.length_append, hv3l, hv5l]; unfold sizeLine; omega) rfl ?_
  intro h7 t7 k7 F7 N7 _
  dsimp only
  repeat' (first | (k_unfold; (try dsimp only)) | (k_end; wrow_close) | (dsimp only; (first | ((k_here; (with_reducible show wpAny _ _ (call (Value.builtin _) [Value.ref _]) _ _ _); k_dflt (refine len_L (by is_list) (by with_reducible assumption) (by lia) ?_))) | walk1)) | ((first | ((k_here; (with_reducible show wpAny _ _ (call (Value.builtin _) [Value.ref _]) _ _ _); k_dflt (refine len_L (by is_list) (by with_reducible assumption) (by lia) ?_))) | walk1)) | (k_end; dsimp only; k_unfold; (try dsimp only)))
  exact h _ _ _ (fun b o h1 h2 e => F7.keep b o (hall b o h1 h2 e)) ⟨_, (N7 (66, _) (by k_mem)).1⟩ ⟨_, (N7 (59, _) (by k_mem)).1⟩
end
section
open PySem PySem.W PyProof.Rows PySem.Calls
set_option maxRecDepth 100000
set_option maxHeartbeats 8000000

noncomputable def lawM1 (D l : Addr) (vt vx : Option Value) : Str → Option Value := fun y =>
  if y = Str.ofString "x" then vx else if y = Str.ofString "turn" then vt else if y = Str.ofString "sums" then some (.ref D) else if y = Str.ofString "script" then some (.ref l) else none
theorem upd_app {D : Addr} {o o' : Obj} {l l' : List (Addr × Obj)} : ∀ {own : List (Addr × Obj)}, (∀ p ∈ own, p.1 ≠ D) → Upd D o o' l l' → Upd D o o' (own ++ l) (own ++ l')
  | [], _, h => h
  | p :: own, h1, h => .tail (h1 p (.head _)) (upd_app (fun q hq => h1 q (.tail _ hq)) h)
theorem getD_set_nn {ms : List Int} {v : Int} {j : Nat} (h : ∀ k, 0 ≤ ms.getD k 0) (hv : 0 ≤ v) (k : Nat) : 0 ≤ (ms.set j v).getD k 0 := by
  have := h k
  rw [List.getD_eq_getElem?_getD] at this ⊢
  rw [List.getElem?_set]
  split
  · split
    · exact hv
    · exact Int.le_refl _
  · exact this
noncomputable def partOf (K : Frag) (a : Addr) : Option (List Stmt × Scope) := match K.lookup a with
  | some ⟨_, _, .func fd, _⟩ => match fd.body with
    | .stmts b => some (b, fd.scope)
    | _ => none
  | _ => none
theorem st_int {prog : Program} {w : World} {A : Around} {E : Value → Shared → Prop} {s : Shared} {env : Env} {n : Str} {x y : Int} {t : Tok} {Q : Unit → Shared → Prop} (e : x = y) (h : wpAny (model prog w) A (storeName env n (.int y t)) Q E s) :
    wpAny (model prog w) A (storeName env n (.int x t)) Q E s := e ▸ h
theorem ints_snoc {L : List Int} {i : Nat} {x : Int} {t : Tok} {ys : List Value} (h : L[i]? = some x) (hJ : IntsAre ys (L.take i)) : IntsAre (ys ++ [.int x t]) (L.take (i + 1)) := by
  rw [List.take_add_one, h]
  exact hJ.append (.cons _ _ .nil)
theorem news_drop2 {h₀ h : Heap} {L : Addr} {p q : Addr × Obj} {r : List (Addr × Obj)} (N : News h₀ L h (p :: q :: r)) : News h₀ L h (p :: r) := fun x hx => by
  rcases List.mem_cons.mp hx with rfl | hx
  · exact N _ (.head _)
  · exact N _ (.tail _ (.tail _ hx))
noncomputable def numL (fr sz : Nat) : List Int := (List.range 18).map fun (st : Nat) => ((fr : Int) - 1 + (st : Int)).fmod (sz : Int)
noncomputable def lawM2 (D1 l : Addr) (vt vx : Option Value) (wd mi hg pl : Nat) (t1 t2 t3 t4 : Tok) : Str → Option Value := fun y =>
  if y = Str.ofString "places" then some (.int (pl : Int) t4) else if y = Str.ofString "high" then some (.int (hg : Int) t3) else if y = Str.ofString "mid" then some (.int (mi : Int) t2) else if y = Str.ofString "width" then some (.int (wd : Int) t1) else lawM1 D1 l vt vx y
noncomputable def lawM3 (DN D1 l : Addr) (vt vx : Option Value) (wd mi hg pl : Nat) (t1 t2 t3 t4 : Tok) : Str → Option Value := fun y =>
  if y = Str.ofString "numbers" then some (.ref DN) else lawM2 D1 l vt vx wd mi hg pl t1 t2 t3 t4 y
end
section
open PySem PySem.W PyProof.Rows PySem.Calls
set_option maxRecDepth 100000
set_option maxHeartbeats 8000000

/-- the law's numbers -/
structure Cfg (z0 z1 z2 z3 wd bs lo mi hg pl sz c0 c1 c2 fr : Nat) : Prop where
  hwd : wd = 1 + z0 % 2
  hbs : bs = 2 ^ wd
  hlo : lo = z0 / 2 % (4 / wd + 1)
  hmi : mi = 4 / wd - lo
  hhg : hg = 1 + z0 / 30 % 2
  hpl : pl = lo + mi + hg
  hsz : sz = bs ^ pl
  hc0 : c0 = z1 % sz
  hc1 : c1 = z2 % sz
  hc2 : c2 = z3 % sz
  hfr : fr = c0 - c0 % 16
noncomputable def numsL (fr sz c0 c1 c2 : Nat) : List Int := [(c0 : Int), (c1 : Int), (c2 : Int)] ++ numL fr sz
theorem numsL_length (fr sz c0 c1 c2 : Nat) : (numsL fr sz c0 c1 c2).length = 21 := by simp [numsL, numL]
section
variable {z0 z1 z2 z3 wd bs lo mi hg pl sz c0 c1 c2 fr : Nat}
theorem Cfg.wd2 (G : Cfg z0 z1 z2 z3 wd bs lo mi hg pl sz c0 c1 c2 fr) : 1 ≤ wd ∧ wd ≤ 2 := by have := G.hwd; omega
theorem Cfg.cases (G : Cfg z0 z1 z2 z3 wd bs lo mi hg pl sz c0 c1 c2 fr) : (wd = 1 ∧ bs = 2 ∧ lo + mi = 4 ∧ 1 ≤ hg ∧ hg ≤ 2) ∨ (wd = 2 ∧ bs = 4 ∧ lo + mi = 2 ∧ 1 ≤ hg ∧ hg ≤ 2) := by
  obtain ⟨hwd, hbs, hlo, hmi, hhg, hpl, hsz, hc0, hc1, hc2, hfr⟩ := G
  rcases (show wd = 1 ∨ wd = 2 by lia) with e | e
  · subst e; left; have : bs = 2 := hbs; lia
  · subst e; right; have : bs = 4 := hbs; lia
theorem Cfg.wdpl (G : Cfg z0 z1 z2 z3 wd bs lo mi hg pl sz c0 c1 c2 fr) : wd * pl ≤ 8 ∧ 3 ≤ pl ∧ pl ≤ 6 ∧ sz = 2 ^ (wd * pl) := by
  have hpl := G.hpl
  have hsz : sz = 2 ^ (wd * pl) := by rw [G.hsz, G.hbs, ← Nat.pow_mul]
  rcases G.cases with ⟨e, _⟩ | ⟨e, _⟩ <;> subst e <;> refine ⟨?_, ?_, ?_, hsz⟩ <;> lia
/-- what the law's places are to one another -/
structure Ar (lo mi hg pl : Nat) : Prop where
  e1 : pl - hg = lo + mi
  e2 : pl - (pl - hg) = hg
  e3 : pl - (pl - lo) = lo
  e4 : pl - (pl - mi) = mi
  f1 : 1 ≤ pl - hg
  f2 : 1 ≤ pl - lo
  f3 : 1 ≤ pl - mi
  h1 : pl - hg - 1 + 1 = pl - hg
  h2 : pl - lo - 1 + 1 = pl - lo
  h3 : pl - mi - 1 + 1 = pl - mi
  g1 : pl = pl - hg - 1 + 1 + hg
  g2 : pl = pl - lo - 1 + 1 + lo
  g3 : pl = pl - mi - 1 + 1 + mi
  l1 : hg ≤ pl
  l2 : lo ≤ pl
  l3 : mi ≤ pl
  k2 : lo < pl
  k3 : mi < pl
  p3 : 3 ≤ pl
  p6 : pl ≤ 6
  p8 : pl ≤ 8
  hg8 : hg ≤ 8
  lo8 : lo ≤ 8
  mi8 : mi ≤ 8
theorem Ar.p0 {lo mi hg pl : Nat} (A : Ar lo mi hg pl) : 0 < pl := Nat.lt_of_lt_of_le (by decide) A.p3
theorem Ar.big {lo mi hg pl x : Nat} (A : Ar lo mi hg pl) (h : x = 21 * pl) : x ≤ 1000 := h ▸ Nat.le_trans (Nat.mul_le_mul_left 21 A.p6) (by decide)
theorem Ar.sixteen {lo mi hg pl x : Nat} (A : Ar lo mi hg pl) (h : x ≤ 16 * pl) : x ≤ 1000 := Nat.le_trans h (Nat.le_trans (Nat.mul_le_mul_left 16 A.p6) (by decide))
theorem Ar.seven {lo mi hg pl i : Nat} (A : Ar lo mi hg pl) (h : i < pl) : i < 7 := Nat.lt_of_lt_of_le h (Nat.le_trans A.p6 (by decide))
theorem Ar.far {lo mi hg pl n : Nat} (A : Ar lo mi hg pl) (h : 6 ≤ n) : pl ≤ n := Nat.le_trans A.p6 h
theorem Cfg.ar (G : Cfg z0 z1 z2 z3 wd bs lo mi hg pl sz c0 c1 c2 fr) : Ar lo mi hg pl := by
  have hpl := G.hpl
  have p3 : 3 ≤ pl := G.wdpl.2.1
  have p6 : pl ≤ 6 := G.wdpl.2.2.1
  have h1 : 1 ≤ hg := by rw [G.hhg]; exact Nat.le_add_right _ _
  have l1 : hg ≤ pl := hpl ▸ Nat.le_add_left _ _
  have k2 : lo + 1 ≤ pl := hpl ▸ Nat.add_le_add (Nat.le_add_right lo mi) h1
  have k3 : mi + 1 ≤ pl := hpl ▸ Nat.add_le_add (Nat.le_add_left mi lo) h1
  have l2 := Nat.le_of_succ_le k2
  have l3 := Nat.le_of_succ_le k3
  have e1 : pl - hg = lo + mi := by rw [hpl, Nat.add_sub_cancel]
  have f1 : 1 ≤ pl - hg := by
    rw [e1]
    rcases G.cases with ⟨_, _, e, _⟩ | ⟨_, _, e, _⟩ <;> rw [e] <;> decide
  have f2 : 1 ≤ pl - lo := Nat.sub_pos_of_lt k2
  have f3 : 1 ≤ pl - mi := Nat.sub_pos_of_lt k3
  have p8 : pl ≤ 8 := Nat.le_trans p6 (by decide)
  have q : ∀ {x}, x ≤ pl → 1 ≤ pl - x → pl = pl - x - 1 + 1 + x := fun a b => by rw [Nat.sub_add_cancel b, Nat.sub_add_cancel a]
  exact ⟨e1, Nat.sub_sub_self l1, Nat.sub_sub_self l2, Nat.sub_sub_self l3, f1, f2, f3, Nat.sub_add_cancel f1, Nat.sub_add_cancel f2, Nat.sub_add_cancel f3, q l1 f1, q l2 f2, q l3 f3, l1, l2, l3, k2, k3, p3, p6, p8, Nat.le_trans l1 p8, Nat.le_trans l2 p8, Nat.le_trans l3 p8⟩
theorem Cfg.sz2 (G : Cfg z0 z1 z2 z3 wd bs lo mi hg pl sz c0 c1 c2 fr) : 2 ≤ sz ∧ sz ≤ 256 := by
  obtain ⟨h1, h2, h3, h4⟩ := G.wdpl
  have h5 : 1 ≤ wd * pl := Nat.mul_pos G.wd2.1 (by omega)
  rw [h4]
  exact ⟨Nat.pow_le_pow_right (n := 2) (by decide) h5, Nat.pow_le_pow_right (n := 2) (by decide) h1⟩
theorem Cfg.bound (G : Cfg z0 z1 z2 z3 wd bs lo mi hg pl sz c0 c1 c2 fr) : ∀ x ∈ numsL fr sz c0 c1 c2, 0 ≤ x ∧ x < (sz : Int) := by
  have hs := G.sz2
  have hc0 := G.hc0
  have hc1 := G.hc1
  have hc2 := G.hc2
  intro x hx
  rcases List.mem_append.mp hx with h | h
  · simp only [List.mem_cons, List.not_mem_nil, or_false] at h
    have b0 := Nat.mod_lt z1 (show 0 < sz by omega)
    have b1 := Nat.mod_lt z2 (show 0 < sz by omega)
    have b2 := Nat.mod_lt z3 (show 0 < sz by omega)
    rcases h with rfl | rfl | rfl <;> constructor <;> lia
  · obtain ⟨st, _, rfl⟩ := List.mem_map.mp h
    exact ⟨Int.fmod_nonneg_of_pos _ (by omega), Int.fmod_lt_of_pos _ (by omega)⟩
theorem Cfg.digs (G : Cfg z0 z1 z2 z3 wd bs lo mi hg pl sz c0 c1 c2 fr) : ∀ i, 0 ≤ (numsL fr sz c0 c1 c2).getD i 0 ∧ (numsL fr sz c0 c1 c2).getD i 0 < 2 ^ (wd * pl) := by
  intro i
  have h4 := G.wdpl.2.2.2
  have e : ((sz : Nat) : Int) = 2 ^ (wd * pl) := by rw [h4]; push_cast; rfl
  rw [← e, List.getD_eq_getElem?_getD]
  cases hx : (numsL fr sz c0 c1 c2)[i]? with
  | none => have := G.sz2; simp; omega
  | some x => exact G.bound x (List.mem_of_getElem? hx)
theorem sumD_pos {ds : List Int} {nn : Nat} (h : ∀ i, 0 ≤ ds.getD i 0 ∧ ds.getD i 0 < 2 ^ nn) : ∀ (k L i : Nat), i < k → 0 < ds.getD (L + i) 0 → 0 < sumD ds nn L k
  | 0, L, i, hi, _ => by lia
  | k + 1, L, i, hi, hp => by
    have hb := (sumD_bound h k (L + 1)).1
    have h2 : (0 : Int) < 2 ^ nn := Int.pow_pos (by decide)
    have h3 : 0 ≤ 2 ^ nn * sumD ds nn (L + 1) k := Int.mul_nonneg (Int.le_of_lt h2) hb
    have h0 := (h L).1
    rw [sumD]
    cases i with
    | zero => rw [Nat.add_zero] at hp; omega
    | succ i =>
      have := sumD_pos h k (L + 1) i (by omega) (by rw [show L + 1 + i = L + (i + 1) from by lia]; exact hp)
      have := Int.mul_pos h2 this
      omega
theorem Cfg.pos (G : Cfg z0 z1 z2 z3 wd bs lo mi hg pl sz c0 c1 c2 fr) : 0 < sumD (numsL fr sz c0 c1 c2) (wd * pl) 0 (numsL fr sz c0 c1 c2).length := by
  have hs := G.sz2
  have hc0 := Nat.mod_lt z1 (show 0 < sz by omega)
  have e0 := G.hc0
  have ef := G.hfr
  have g : ∀ st, st < 18 → (numsL fr sz c0 c1 c2).getD (0 + (3 + st)) 0 = ((fr : Int) - 1 + (st : Int)).fmod (sz : Int) := fun st hst => by
    rw [List.getD_eq_getElem?_getD, numsL, List.getElem?_append_right (by simp), numL, List.getElem?_map, List.getElem?_range (by simp; omega)]
    simp only [List.length_cons, List.length_nil, Option.map_some, Option.getD_some]
    congr 2
    lia
  rw [numsL_length]
  by_cases hz : fr = 0
  · refine sumD_pos G.digs 21 0 (3 + 2) (by decide) ?_
    rw [g 2 (by decide), Int.fmod_eq_emod_of_nonneg _ (by omega), Int.emod_eq_of_lt (by omega) (by omega)]
    omega
  · refine sumD_pos G.digs 21 0 (3 + 1) (by decide) ?_
    rw [g 1 (by decide), Int.fmod_eq_emod_of_nonneg _ (by omega), Int.emod_eq_of_lt (by omega) (by omega)]
    omega
/-- the octets of all numbers -/
noncomputable abbrev figO (wd pl fr sz c0 c1 c2 : Nat) : Array UInt8 := figF wd pl (numsL fr sz c0 c1 c2)
theorem Cfg.figSize (G : Cfg z0 z1 z2 z3 wd bs lo mi hg pl sz c0 c1 c2 fr) : (figO wd pl fr sz c0 c1 c2).size = 21 * pl := by
  have hbd := sumD_bound G.digs (numsL fr sz c0 c1 c2).length 0
  have hm : manyD wd (wholeN wd pl (numsL fr sz c0 c1 c2)) ≤ pl * (numsL fr sz c0 c1 c2).length := by
    have hb : Builtin.Int.intBits ((wholeN wd pl (numsL fr sz c0 c1 c2) : Nat) : Int) ≤ wd * (pl * (numsL fr sz c0 c1 c2).length) := by
      have e : ((wholeN wd pl (numsL fr sz c0 c1 c2) : Nat) : Int) = sumD (numsL fr sz c0 c1 c2) (wd * pl) 0 (numsL fr sz c0 c1 c2).length := by unfold wholeN; omega
      rw [e]
      refine bits_le hbd.1 ?_
      rw [← Nat.mul_assoc]
      exact hbd.2
    unfold manyD
    rcases (show wd = 1 ∨ wd = 2 by have := G.wd2; lia) with e | e <;> subst e <;> lia
  have e0 := numsL_length fr sz c0 c1 c2
  show (toB (figL wd pl (numsL fr sz c0 c1 c2))).size = _
  unfold toB figL
  rw [List.size_toArray, List.length_map, List.length_append, putD_length, List.length_replicate, List.length_replicate]
  rw [e0] at hm ⊢
  omega
end
end
section
open PySem PySem.W PyProof.Rows PySem.Calls
set_option maxRecDepth 100000
set_option maxHeartbeats 8000000

noncomputable def swIn (b : Array UInt8) (w o : Nat) : Nat → Array UInt8 → Array UInt8
  | 0, a => a
  | j + 1, a => (swIn b w o j a).setIfInBounds (o + w - 1 - j) (b.getD (o + j) 0)
noncomputable def swOut (b : Array UInt8) (w : Nat) : Nat → Array UInt8
  | 0 => Array.replicate b.size 0
  | i + 1 => swIn b w (i * w) w (swOut b w i)
theorem swIn_size (b : Array UInt8) (w o : Nat) (a : Array UInt8) : ∀ j, (swIn b w o j a).size = a.size
  | 0 => rfl
  | j + 1 => by rw [swIn, Array.size_setIfInBounds, swIn_size b w o a j]
theorem swOut_size (b : Array UInt8) (w : Nat) : ∀ i, (swOut b w i).size = b.size
  | 0 => by rw [swOut, Array.size_replicate]
  | i + 1 => by rw [swOut, swIn_size, swOut_size b w i]
noncomputable def swM (S : Addr) (b : Array UInt8) (k : Nat) (t1 t2 : Tok) (vi vj : Option Value) : Str → Option Value := fun y =>
  if y = Str.ofString "j" then vj else if y = Str.ofString "i" then vi else if y = Str.ofString "swapped_data" then some (.ref S) else if y = Str.ofString "width" then some (.int (k : Int) t2) else if y = Str.ofString "data" then some (.bytes b t1) else none
theorem off2 {S : Addr} {o : Obj} {own own2 : List (Addr × Obj)} {rest : List (Addr × Obj)} (h1 : OwnOff own (List.map (fun x => x.1) [(S, o)])) (h2 : OwnOff own2 (List.map (fun x => x.1) ((S, o) :: rest))) : ∀ p ∈ own ++ own2, p.1 ≠ S := by
  intro p hp
  rcases List.mem_append.mp hp with hp | hp
  · exact h1 p hp S (by simp)
  · exact h2 p hp S (by simp)
theorem swap_ok {w : World} {A : Around} {s : Shared} {Q E : Value → Shared → Prop}
   {b : Array UInt8} {n k : Nat} {t1 t2 : Tok}
   (C : Cx w A s.heap) (hdp : A.depth < 940) (hu : A.units < 8800)
   (hg : A.guards = some []) (hb : b.size = n * k) (hn : 0 < n) (hk : 0 < k) (hk8 : k ≤ 8) (hs : b.size ≤ 1000)
   (h : ∀ t h' tk', Keep s.heap h' → Q (.bytes (swOut b k n) t) { s with heap := h', toks := tk' }) :
   wpG (model Challenge.rw_zo0018_01.row.prog w) A (call (.ref 106) [.bytes b t1, .int (k : Int) t2]) Q E s := by
  have KX := C.X
  have hh := C.hh
  revert KX; k_fill; intro KX
  obtain ⟨hd0, dp0, fr0, gd0, un0⟩ := A
  obtain rfl : hd0 = none := hh
  dsimp only at hdp hu
  refine wpG_call ?_
  skip
  k_dflt (refine' enterG ?k1 ?k6 ?k7 ?k8 ?k9 ?kB ?_ ?c2 ?c3 ?c4 ?c5; (case k1 => exact C); (case k6 => k_is); (case k7 => k_is); (case k8 => (simp only [recursionLimit]; omega)); (case k9 => first | exact BindsTo.of_eq rfl | fail "no rule for these arguments"); (case c5 => decide); (case kB => exact locs rfl); (case c2 => exact rfl); (case c3 => exact rfl); (case c4 => exact rfl); k_whole; intro L' h' bse outer loose mean mg mb B' X' T' F' N'; clear C KX; (try dsimp only); (try k_fold))
  refine wpG_execs_cons ?_
  refine wpG_Assign (CallG ?_) ?_
  repeat' (first | (k_unfold; (try dsimp only)) | (k_end; wrow_close) | (dsimp only; walk1) | (walk1) | (k_end; dsimp only; k_unfold; (try dsimp only)))
  refine callTypeG (by rfl) ?_ (by rfl)
  repeat' (first | (k_unfold; (try dsimp only)) | (k_end; wrow_close) | (dsimp only; walk1) | (walk1) | (k_end; dsimp only; k_unfold; (try dsimp only)))
  refine ba_callK (n := b.size) hg hs (by rw [hb]; exact Nat.mul_pos hn hk) (by k_asm) (by k_asm) ?_
  intro h2 S F2 N2
  refine wpG_any ?_
  repeat' (first | (k_unfold; (try dsimp only)) | (k_end; wrow_close) | (dsimp only; walk1) | (walk1) | (k_end; dsimp only; k_unfold; (try dsimp only)))
  refine wpG_any ?_
  repeat' (first | (k_unfold; (try dsimp only)) | (k_end; wrow_close) | ((fail_if_success (with_reducible show wpAny _ _ (PySem.exec (Stmt.For _ _ _ _ _) _) _ _ _)); dsimp only; walk1) | ((fail_if_success (with_reducible show wpAny _ _ (PySem.exec (Stmt.For _ _ _ _ _) _) _ _ _)); walk1) | (k_end; dsimp only; k_unfold; (try dsimp only)))
  (rename Fr _ _ _ _ => lF); refine For_invTF lF ?_ (by intro _; rfl)
  repeat' (first | (k_unfold; (try dsimp only)) | (k_end; wrow_close) | ((fail_if_success (with_reducible show wpAny _ _ (pyIter _) _ _ _)); dsimp only; walk1) | ((fail_if_success (with_reducible show wpAny _ _ (pyIter _) _ _ _)); walk1) | (k_end; dsimp only; k_unfold; (try dsimp only)))
  have hsm : Builtin.Range.small 0 (b.size : Int) (k : Int) = true := range_smallS hb hk hk8 hs
  refine range_TS (n := n) (fun i m nx => nx = [(S, baObj (swOut b k i))] ∧ ∃ vi vj, m = swM S b k t1 t2 vi vj) (by intro _ _; rfl) rfl (by k_asm) hsm (range_sizeS hb hk) (by k_asm) (by k_asm) ⟨rfl, none, none, ?e1⟩ ?turn ?done
  case e1 =>
    funext y
    change (if y = Str.ofString "swapped_data" then some (Value.ref S) else List.lookup y [(Str.ofString "width", Value.int (k : Int) t2), (Str.ofString "data", Value.bytes b t1)]) = _
    rw [lookup2]; unfold swM
    by_cases h1 : y = Str.ofString "j"
    · subst h1; rfl
    by_cases h2 : y = Str.ofString "i"
    · subst h2; rfl
    rw [if_neg h1, if_neg h2]
  case turn =>
    rintro i t m1 nx ⟨hp1, g1, dr1, tk1, os1⟩ own hi hadr hoff ⟨rfl, vi, vj, rfl⟩ F1 N1
    dsimp only at F1 N1
    unfold swM at F1
    have F2 : Fr s.heap L' hp1 _ := F1
    have N2 : News s.heap L' hp1 _ := N1
    clear F1 N1
    obtain ⟨o, ho⟩ : ∃ o, i * k = o := ⟨_, rfl⟩
    have eo : 0 + (i : Int) * (k : Int) = (o : Int) := by rw [← ho]; push_cast; omega
    have hob : o + k ≤ b.size := by rw [hb, ← ho, ← Nat.succ_mul]; exact Nat.mul_le_mul_right _ hi
    rw [eo]
    repeat' (first | (k_unfold; (try dsimp only)) | (k_end; wrow_close) | ((fail_if_success (with_reducible show wpAny _ _ (PySem.exec (Stmt.For _ _ _ _ _) _) _ _ _)); dsimp only; walk1) | ((fail_if_success (with_reducible show wpAny _ _ (PySem.exec (Stmt.For _ _ _ _ _) _) _ _ _)); walk1) | (k_end; dsimp only; k_unfold; (try dsimp only)))
    (rename Fr _ _ _ _ => lF); refine For_invTF lF ?_ (by intro _; rfl)
    repeat' (first | (k_unfold; (try dsimp only)) | (k_end; wrow_close) | ((fail_if_success (with_reducible show wpAny _ _ (pyIter _) _ _ _)); dsimp only; walk1) | ((fail_if_success (with_reducible show wpAny _ _ (pyIter _) _ _ _)); walk1) | (k_end; dsimp only; k_unfold; (try dsimp only)))
    refine range_T (n := k) (fun j m nx => nx = (S, baObj (swIn b k o j (swOut b k i))) :: own ∧ ∃ vj, m = swM S b k t1 t2 (some (.int (o : Int) t)) vj) (by intro _ _; rfl) rfl (by k_asm) (range_small _ (by omega)) (range_size _) (by k_asm) (by k_asm) ⟨rfl, vj, ?e2⟩ ?turn2 ?done2
    case e2 =>
      funext y; unfold swM
      by_cases h1 : y = Str.ofString "j"
      · subst h1; rfl
      by_cases h2 : y = Str.ofString "i"
      · subst h2; rfl
      simp only [if_neg h1, if_neg h2]
    case turn2 =>
      rintro j tj m1 nx ⟨hp1, g1, dr1, tk1, os1⟩ own2 hj hadr2 hoff2 ⟨rfl, vj, rfl⟩ F1 N1
      dsimp only at F1 N1
      unfold swM at F1
      have F2 : Fr s.heap L' hp1 _ := F1
      have N2 : News s.heap L' hp1 _ := N1
      clear F1 N1
      have hsz : (swIn b k o j (swOut b k i)).size = b.size := by rw [swIn_size, swOut_size]
      repeat' (first | (k_unfold; (try dsimp only)) | (k_end; wrow_close) | (dsimp only; walk1) | (walk1) | (k_end; dsimp only; k_unfold; (try dsimp only)))
      refine byt_item hs (by omega) (by omega) ?_
      dsimp only
      repeat' (first | (k_unfold; (try dsimp only)) | (k_end; wrow_close) | ((fail_if_success (with_reducible show wpAny _ _ (setItem _ _ _) _ _ _)); dsimp only; walk1) | ((fail_if_success (with_reducible show wpAny _ _ (setItem _ _ _) _ _ _)); walk1) | (k_end; dsimp only; k_unfold; (try dsimp only)))
      refine ba_setK (b := swIn b k o j (swOut b k i)) (by k_asm) (by k_asm) (.head (off2 hoff hoff2)) (by omega) (by omega) (by omega) (u8_lt _) ?_
      intro h3 F3 N3
      dsimp only
      repeat' (first | (k_unfold; (try dsimp only)) | (k_end; wrow_close) | (dsimp only; walk1) | (walk1) | (k_end; dsimp only; k_unfold; (try dsimp only)))
      refine tend [] (_ :: own) F3 N3 rfl ?_
      refine ⟨?_, _, by funext y; unfold swM; by_cases h1 : y = Str.ofString "j" <;> simp only [h1, if_true, if_false] <;> rfl⟩
      rw [show (↑o + ↑k - 1 - (0 + ↑j) : Int).toNat = o + k - 1 - j from by omega, show (↑o + (0 + ↑j) : Int).toNat = o + j from by omega, u8_back]
      rfl
    case done2 =>
      intro m1 nx h2 tk2 hJ F1 N1
      obtain ⟨rfl, vj, rfl⟩ := hJ
      unfold swM at F1
      have F2 : Fr s.heap L' h2 _ := F1
      have N2 : News s.heap L' h2 _ := N1
      clear F1 N1
      repeat' (first | (k_unfold; (try dsimp only)) | (k_end; wrow_close) | (dsimp only; walk1) | (walk1) | (k_end; dsimp only; k_unfold; (try dsimp only)))
      refine tend [] [_] F2 N2 rfl ⟨?_, _, _, rfl⟩
      rw [← ho]; rfl
  case done =>
    intro m1 nx h2 tk2 hJ F1 N1
    obtain ⟨rfl, vi, vj, rfl⟩ := hJ
    unfold swM at F1
    have F2 : Fr s.heap L' h2 _ := F1
    have N2 : News s.heap L' h2 _ := N1
    clear F1 N1
    repeat' (first | (k_unfold; (try dsimp only)) | (k_end; wrow_close) | (dsimp only; walk1) | (walk1) | (k_end; dsimp only; k_unfold; (try dsimp only)))
    refine ba_bytes (N2 _ List.mem_cons_self).1 (by rw [swOut_size]; exact hs) ?_
    intro t k'
    exact h _ _ _ (Fr.keep (by k_asm))
end
section
open PySem PySem.W PyProof.Rows PySem.Calls
set_option maxRecDepth 100000
set_option maxHeartbeats 8000000

noncomputable def rowF (b : Array UInt8) (k i : Nat) : Array UInt8 := b.extract (i * k) (i * k + k)
noncomputable def BytsAre (vs : List Value) (bs : List (Array UInt8)) : Prop := vs.length = bs.length ∧ ∀ (i : Nat) b, bs[i]? = some b → ∃ t, vs[i]? = some (.bytes b t)
theorem BytsAre.snoc {vs : List Value} {bs : List (Array UInt8)} {b : Array UInt8} {t : Tok} (h : BytsAre vs bs) : BytsAre (vs ++ [.bytes b t]) (bs ++ [b]) := by
  refine ⟨by rw [List.length_append, List.length_append, h.1]; rfl, fun i c hc => ?_⟩
  by_cases hi : i < bs.length
  · rw [List.getElem?_append_left hi] at hc
    obtain ⟨u, hu⟩ := h.2 i c hc
    exact ⟨u, by rw [List.getElem?_append_left (by rw [h.1]; exact hi)]; exact hu⟩
  · rw [List.getElem?_append_right (Nat.not_lt.mp hi)] at hc
    have e : i - bs.length = 0 := by
      rcases Nat.eq_zero_or_pos (i - bs.length) with e | e
      · exact e
      · rw [List.getElem?_eq_none (by rw [List.length_singleton]; exact e)] at hc; cases hc
    rw [e] at hc
    injection hc with hc
    subst hc
    exact ⟨t, by rw [List.getElem?_append_right (by rw [h.1]; exact Nat.not_lt.mp hi), h.1, e]; rfl⟩
theorem rows_ok {w : World} {A : Around} {s : Shared} {Q E : Value → Shared → Prop}
   {b : Array UInt8} {n k : Nat} {t1 t2 : Tok}
   (C : Cx w A s.heap) (hdp : A.depth < 960) (hu : A.units < 8900)
   (hb : b.size = n * k) (hk : 0 < k) (hk8 : k ≤ 8) (hs : b.size ≤ 1000)
   (h : ∀ l ys h' tk', Keep s.heap h' → s.heap.get? l = none → h'.get? l = some (LCg.lst ys) → BytsAre ys ((List.range n).map (rowF b k)) → Q (.ref l) { s with heap := h', toks := tk' }) :
   wpAny (model Challenge.rw_zo0018_01.row.prog w) A (call (.ref 118) [.bytes b t1, .int (k : Int) t2]) Q E s := by
  have KX := C.X
  have hh := C.hh
  revert KX; k_fill; intro KX
  obtain ⟨hd0, dp0, fr0, gd0, un0⟩ := A
  obtain rfl : hd0 = none := hh
  dsimp only at hdp hu
  refine wpAny_call ?_
  w_on
  k_dflt (refine' enterC ?k1 ?k6 ?k7 ?k8 ?k9 ?kB ?kD ?_ ?c2 ?c3 ?c4; (case k1 => exact C); (case k6 => k_is); (case k7 => k_is); (case k8 => (simp only [recursionLimit]; omega)); (case k9 => first | exact BindsTo.of_eq rfl | fail "no rule for these arguments"); (case kB => exact rfl); (case kD => decide +kernel); (case c2 => exact rfl); (case c3 => exact rfl); (case c4 => exact rfl); k_whole; intro L' h' tk' cells' bse outer loose mean mg mb B' X' T' F' N' Y'; clear C KX; k_cells Y'; (try simp only [List.cons_append, List.nil_append] at N'); (try dsimp only); (try k_fold))
  repeat' (first | (k_unfold; (try dsimp only)) | (k_end; wrow_close) | ((fail_if_success (with_reducible show wpAny _ _ (PySem.eval (Expr.ListComp _ _ _ _) _) _ _ _)); dsimp only; walk1) | ((fail_if_success (with_reducible show wpAny _ _ (PySem.eval (Expr.ListComp _ _ _ _) _) _ _ _)); walk1) | (k_end; dsimp only; k_unfold; (try dsimp only)))
  refine ListComp_G (by k_asm) (by with_unfolding_all rfl) (by decide) (by rfl) (by decide) ?_
  repeat' (first | (k_unfold; (try dsimp only)) | (k_end; wrow_close) | (dsimp only; walk1) | (walk1) | (k_end; dsimp only; k_unfold; (try dsimp only)))
  refine GSrc.range (n := n) (by decide) (by rfl) (by rfl) (by k_asm) (by k_asm) (by k_asm) (range_smallS hb hk hk8 hs) (range_sizeS hb hk) (by unfold sizeLine; rw [hb] at hs; have : n ≤ n * k := Nat.le_mul_of_pos_right _ hk; omega)
    (fun i ys => BytsAre ys ((List.range i).map (rowF b k))) ⟨rfl, by simp⟩ ?step ?fin
  case step =>
    intro g i ys t C D oC m2 h3 tk3 E3 hi hJ hx hC F3 N3
    obtain ⟨o, ho⟩ : ∃ o, i * k = o := ⟨_, rfl⟩
    have eo : 0 + (i : Int) * (k : Int) = (o : Int) := by rw [← ho]; push_cast; omega
    have hob : o + k ≤ b.size := by rw [hb, ← ho, ← Nat.succ_mul]; exact Nat.mul_le_mul_right _ hi
    rw [eo] at hx
    repeat' (first | (k_unfold; (try dsimp only)) | (k_end; wrow_close) | (dsimp only; walk1) | (walk1) | (k_end; dsimp only; k_unfold; (try dsimp only)))
    refine byt_cut (s := ⟨_, _, _, _, _⟩) (lo := o) (hi := o + k) F3 N3 rfl (by push_cast; rfl) (by omega) hob hs ?_
    intro h4 t4 k4 F4 N4 K4
    refine ⟨_, _, rfl, K4, ?_⟩
    rw [List.range_succ, List.map_append, ← ho]
    exact hJ.snoc
  case fin =>
    intro g D h3 tk3 ys F3 N3 o3 hJ
    exact h _ _ _ _ F3.keep (N3 _ List.mem_cons_self).2.2 (N3 _ List.mem_cons_self).1 hJ
end
section
open PySem PySem.W PyProof.Rows PySem.Calls
set_option maxRecDepth 100000
set_option maxHeartbeats 8000000

noncomputable def hostF (r : Array UInt8) : Str := Txt.join (Str.ofString ".") (r.toList.map (fun c => (⟨#[97 + c.toNat]⟩ : Str)) ++ [Str.ofString "local"])
noncomputable def hostM (H : Addr) (b : Array UInt8) (k : Nat) (t1 t2 : Tok) (vr : Option Value) : Str → Option Value := fun y =>
  if y = Str.ofString "row" then vr else if y = Str.ofString "hosts" then some (.ref H) else if y = Str.ofString "places" then some (.int (k : Int) t2) else if y = Str.ofString "octets" then some (.bytes b t1) else none
theorem strs_appendM {vs ws : List Value} {xs ys : List Str} (h : StrsAre vs xs) (h' : StrsAre ws ys) : StrsAre (vs ++ ws) (xs ++ ys) := by
  induction h with
  | nil => exact h'
  | cons y t _ ih => exact .cons y t ih
theorem strsAre_length {vs : List Value} {xs : List Str} (h : StrsAre vs xs) : vs.length = xs.length := by
  induction h with
  | nil => rfl
  | cons y t _ ih => simp [ih]
theorem strsAre_values {vs : List Value} {xs : List Str} (h : StrsAre vs xs) : ∃ l : List (Str × Tok), strValues l = vs ∧ l.map (·.1) = xs := by
  induction h with
  | nil => exact ⟨[], rfl, rfl⟩
  | cons y t _ ih =>
    obtain ⟨l, h1, h2⟩ := ih
    exact ⟨(y, t) :: l, by rw [← h1]; rfl, by rw [← h2]; rfl⟩
theorem letters_len : ∀ (l : List UInt8) (a : Nat), (l.map fun c => (⟨#[97 + c.toNat]⟩ : Str)).foldl (fun a x => a + x.length + (Str.ofString ".").length) a = a + 2 * l.length
  | [], a => by simp
  | c :: l, a => by
    rw [List.map_cons, List.foldl_cons, letters_len l]
    show a + 1 + 1 + 2 * l.length = a + 2 * (l.length + 1)
    omega
theorem join_host {w : World} {A : Around} {E : Value → Shared → Prop} {s : Shared} {zs : List Value} {r : Array UInt8} {D : Addr} {t tt : Tok} {Q : Value → Shared → Prop} (hJ : StrsAre zs (r.toList.map fun c => (⟨#[97 + c.toNat]⟩ : Str))) (hr : r.size ≤ 8)
    (hl : s.heap.IsList D (zs ++ [Value.str (Str.ofString "local") tt]).toArray) (h : ∀ t' k, Q (.str (hostF r) t') { s with toks := k }) :
    wpAny (model Challenge.rw_zo0018_01.row.prog w) A (call (.builtin "str.join") [.str (Str.ofString ".") t, .ref D]) Q E s := by
  obtain ⟨l, e1, e2⟩ := strsAre_values (strs_appendM hJ (.cons (Str.ofString "local") tt .nil))
  refine SC.join (l := l) (by rw [e1]; exact hl) e2 ?_ h
  unfold JoinOk
  rw [List.foldl_toArray, List.foldl_append, letters_len]
  have e : r.toList.length = r.size := by simp
  rw [e]
  show (!Builtin.Str.tooLong (0 + 2 * r.size + 5 + 1)) = true
  unfold Builtin.Str.tooLong sizeLine
  simp only [Bool.not_eq_true', decide_eq_false_iff_not]
  omega
theorem hosts_ok {w : World} {A : Around} {s : Shared} {Q E : Value → Shared → Prop}
   {b : Array UInt8} {n k : Nat} {t1 t2 : Tok}
   (C : Cx w A s.heap) (hdp : A.depth < 940) (hu : A.units < 8800)
   (hb : b.size = n * k) (hk : 0 < k) (hk8 : k ≤ 8) (hs : b.size ≤ 1000)
   (h : ∀ l ys h' tk', Keep s.heap h' → s.heap.get? l = none → (∃ ep, h'.get? l = some (PySem.W.listOf ys.toArray ep)) → StrsAre ys ((List.range n).map (fun i => hostF (rowF b k i))) → Q (.ref l) { s with heap := h', toks := tk' }) :
   wpAny (model Challenge.rw_zo0018_01.row.prog w) A (call (.ref 123) [.bytes b t1, .int (k : Int) t2]) Q E s := by
  have KX := C.X
  have hh := C.hh
  revert KX; k_fill; intro KX
  obtain ⟨hd0, dp0, fr0, gd0, un0⟩ := A
  obtain rfl : hd0 = none := hh
  dsimp only at hdp hu
  refine wpAny_call ?_
  w_on
  k_dflt (refine' enter0 ?k1 ?k6 ?k7 ?k8 ?k9 ?kB ?_ ?c2 ?c3 ?c4 ?c5; (case k1 => exact C); (case k6 => k_is); (case k7 => k_is); (case k8 => (simp only [recursionLimit]; omega)); (case k9 => first | exact BindsTo.of_eq rfl | fail "no rule for these arguments"); (case c5 => decide); (case kB => exact locs rfl); (case c2 => exact rfl); (case c3 => exact rfl); (case c4 => exact rfl); k_whole; intro L' h' bse outer loose mean mg mb B' X' T' F' N'; clear C KX; (try dsimp only); (try k_fold))
  refine execs_consA ?_
  repeat' (first | (k_unfold; (try dsimp only)) | (k_end; wrow_close) | ((fail_if_success (with_reducible show wpAny _ _ (PySem.execs (Stmt.For _ _ _ _ _ :: _) _) _ _ _)); dsimp only; walk1) | ((fail_if_success (with_reducible show wpAny _ _ (PySem.execs (Stmt.For _ _ _ _ _ :: _) _) _ _ _)); walk1) | (k_end; dsimp only; k_unfold; (try dsimp only)))
  refine execs_consA ?_
  (rename Fr _ _ _ _ => lF); refine For_invTF lF ?_ (by intro _; rfl)
  repeat' (first | (k_unfold; (try dsimp only)) | (k_end; wrow_close) | ((fail_if_success (with_reducible show wpAny _ _ (call (Value.ref 118) _) _ _ _)); dsimp only; walk1) | ((fail_if_success (with_reducible show wpAny _ _ (call (Value.ref 118) _) _ _ _)); walk1) | (k_end; dsimp only; k_unfold; (try dsimp only)))
  refine grab (by k_asm) (by k_asm) ?_; intro kF kN
  refine rows_ok (Cx.push (by k_asm) kF (by k_asm) (by k_asm) rfl rfl rfl) (dlt (by with_reducible assumption) (by decide)) (ult (by with_reducible assumption) (by decide)) hb hk hk8 hs ?_
  intro l ys h4 tk4 hK hn hg hy
  have F4 := Fr.keeps kF hK
  have N4 := News.grown kN hK
  have O4 := News.madeOff kN hn
  have M4 := News.made kF N4 hn hg
  clear kF kN
  dsimp only
  repeat' (first | (k_unfold; (try dsimp only)) | (k_end; wrow_close) | ((fail_if_success (with_reducible show wpAny _ _ (pyIter _) _ _ _)); dsimp only; walk1) | ((fail_if_success (with_reducible show wpAny _ _ (pyIter _) _ _ _)); walk1) | (k_end; dsimp only; k_unfold; (try dsimp only)))
  rename_i H hp0 _l1 hp00 N0
  clear lF N0 hK hn
  have hyn : ys.length = n := by rw [hy.1]; simp
  refine list_T (its := ys.toArray) (fun i m nx => ∃ (vs : List Value) (ep : Nat), nx = [(H, PySem.W.listOf vs.toArray ep)] ∧ StrsAre vs ((List.range i).map fun i => hostF (rowF b k i)) ∧ ∃ vr, m = hostM H b k t1 t2 vr)
    (by intro _ _; rfl) rfl ⟨_, hg, rfl, _, rfl⟩ O4 (Ne.symm (M4 _ List.mem_cons_self).2.1) F4 N4 ⟨[], _, rfl, .nil, none, ?e1⟩ ?turn ?done
  case e1 =>
    funext y
    change (if y = Str.ofString "hosts" then some (Value.ref H) else List.lookup y [(Str.ofString "places", Value.int (k : Int) t2), (Str.ofString "octets", Value.bytes b t1)]) = _
    rw [lookup2]; unfold hostM
    by_cases h1 : y = Str.ofString "row"
    · subst h1; rfl
    rw [if_neg h1]
  case turn =>
    rintro i v m1 nx ⟨hp1, g1, dr1, tk1, os1⟩ own hv hadr hoff ⟨vs, ep, rfl, hvs, vr, rfl⟩ F1 N1
    clear F4 N4 M4
    have hv' : ys[i]? = some v := by simpa using hv
    have hi : i < n := by
      rw [← hyn]
      exact (List.getElem?_eq_some_iff.mp hv').1
    obtain ⟨tr, htr⟩ := hy.2 i (rowF b k i) (by simp [hi])
    rw [htr] at hv'
    injection hv' with hv'
    subst hv'
    obtain ⟨r, hr⟩ : ∃ r, rowF b k i = r := ⟨_, rfl⟩
    have hrs : r.size ≤ 8 := by rw [← hr]; unfold rowF; rw [Array.size_extract]; omega
    rw [hr]
    dsimp only at F1 N1
    unfold hostM at F1
    have F2 : Fr s.heap L' hp1 _ := F1
    have N2 : News s.heap L' hp1 _ := N1
    clear F1 N1
    repeat' (first | (k_unfold; (try dsimp only)) | (k_end; wrow_close) | ((fail_if_success (with_reducible show wpAny _ _ (PySem.eval (Expr.ListComp _ _ _ _) _) _ _ _)); dsimp only; walk1) | ((fail_if_success (with_reducible show wpAny _ _ (PySem.eval (Expr.ListComp _ _ _ _) _) _ _ _)); walk1) | (k_end; dsimp only; k_unfold; (try dsimp only)))
    refine ListComp_G (by k_asm) (by with_unfolding_all rfl) (by decide) (by rfl) (by decide) ?_
    repeat' (first | (k_unfold; (try dsimp only)) | (k_end; wrow_close) | (dsimp only; walk1) | (walk1) | (k_end; dsimp only; k_unfold; (try dsimp only)))
    refine GSrc.bytes (b := r) (by decide) (by rfl) (by rfl) (by k_asm) (by k_asm) (by unfold sizeLine; omega) (fun j zs => StrsAre zs ((r.toList.take j).map fun c => (⟨#[97 + c.toNat]⟩ : Str))) .nil ?step ?fin
    case step =>
      intro g j zs c u C D oC m3 h3 tk3 E3 hc hJ hx hC F3 N3
      have hc2 := u8_lt c
      repeat' (first | (k_unfold; (try dsimp only)) | (k_end; wrow_close) | (dsimp only; walk1) | (walk1) | (k_end; dsimp only; k_unfold; (try dsimp only)))
      refine ⟨_, _, rfl, fun _ _ e => e, ?_⟩
      rw [List.take_add_one, show r.toList[j]? = some c from by simpa using hc, List.map_append]
      refine strs_appendM hJ ?_
      rw [show (97 + (c.toNat : Int)).toNat = 97 + c.toNat from by omega]
      exact .cons _ _ .nil
    case fin =>
      intro g D h3 tk3 zs F3 N3 o3 hJ
      rw [List.take_of_length_le (by simp)] at hJ
      have hzl : zs.length ≤ 8 := by rw [strsAre_length hJ]; simpa using hrs
      repeat' (first | (k_unfold; (try dsimp only)) | (k_end; wrow_close) | (dsimp only; walk1) | (walk1) | (k_end; dsimp only; k_unfold; (try dsimp only)))
      rename News _ _ _ _ => N9
      rename Fr _ _ _ _ => F9
      refine join_host (by assumption) hrs ⟨_, (N9 _ List.mem_cons_self).1, rfl, _, rfl⟩ ?_
      intro t5 k5
      have hvl : vs.length = i := by rw [strsAre_length hvs]; simp
      have hin : i ≤ n * k := Nat.le_trans (Nat.le_of_lt hi) (Nat.le_mul_of_pos_right _ hk)
      repeat' (first | (k_unfold; (try dsimp only)) | (k_end; wrow_close) | (dsimp only; walk1) | (walk1) | (k_end; dsimp only; k_unfold; (try dsimp only)))
      have N8 : News s.heap L' _ ([(H, PySem.W.listOf vs.toArray ep)] ++ own) := fun p hp => N9 p (List.mem_cons_of_mem _ (List.mem_cons_of_mem _ (List.mem_cons_of_mem _ hp)))
      refine append_K (hsz := by rw [List.size_toArray, hvl]; simp only [sizeLine]; omega) F9 N8 (.head (fun p hp => hoff p hp H (by simp))) ?_
      intro h6 F6 N6
      repeat' (first | (k_unfold; (try dsimp only)) | (k_end; wrow_close) | (dsimp only; walk1) | (walk1) | (k_end; dsimp only; k_unfold; (try dsimp only)))
      simp only [List.push_toArray] at N6
      refine tend [] [_] F6 N6 rfl ?_
      refine ⟨vs ++ [_], _, rfl, ?_, some (.bytes r tr), ?_⟩
      · rw [List.range_succ, List.map_append]
        refine strs_appendM hvs ?_
        rw [← hr]
        exact .cons _ _ .nil
      · funext y; unfold hostM; by_cases h1 : y = Str.ofString "row" <;> simp only [h1, if_true, if_false] <;> rfl
  case done =>
    intro m1 nx h2 tk2 hJ F1 N1
    obtain ⟨vs, ep, rfl, hvs, vr, rfl⟩ := hJ
    unfold hostM at F1
    have F2 : Fr s.heap L' h2 _ := F1
    have N2 : News s.heap L' h2 _ := N1
    clear F1 N1
    rw [List.size_toArray, hyn] at hvs
    repeat' (first | (k_unfold; (try dsimp only)) | (k_end; wrow_close) | (dsimp only; walk1) | (walk1) | (k_end; dsimp only; k_unfold; (try dsimp only)))
    exact h _ _ _ _ F2.keep (N2 _ List.mem_cons_self).2.2 ⟨_, (N2 _ List.mem_cons_self).1⟩ hvs
end
section
open PySem PySem.W PyProof.Rows PySem.Calls
set_option maxRecDepth 100000
set_option maxHeartbeats 8000000

noncomputable def hdnB (x : Str) : Bool := if (x == Str.ofString "") = true then false else if (Txt.item x 0 == Str.ofString ".") = true then false else if (Txt.item x (-1) == Str.ofString ".") = true then false else true
theorem retB {h₀ h' : Heap} {s : Shared} {Q : Value → Shared → Prop} {tk' : Nat} {b c : Bool}
    (h : ∀ h' tk', Keep h₀ h' → Q (.bool c) { s with heap := h', toks := tk' }) (e : b = c) (F : Keep h₀ h') : Q (.bool b) { s with heap := h', toks := tk' } := by
  subst e; exact h _ _ F
theorem retS {h₀ h' : Heap} {s : Shared} {Q : Value → Shared → Prop} {tk' : Nat} {b c : Str} {t : Tok}
    (h : ∀ t h' tk', Keep h₀ h' → Q (.str c t) { s with heap := h', toks := tk' }) (e : b = c) (F : Keep h₀ h') : Q (.str b t) { s with heap := h', toks := tk' } := by
  subst e; exact h _ _ _ F
theorem hdn_ok {w : World} {A : Around} {s : Shared} {Q E : Value → Shared → Prop}
   {x : Str} {t1 : Tok} 
   (C : Cx w A s.heap) (hdp : A.depth < 980) (hu : A.units < 9000)
   (hx : x.length ≤ 1000) (hdd : noDD x.cps)
   (h : ∀ h' tk', Keep s.heap h' → Q (.bool (hdnB x)) { s with heap := h', toks := tk' }) :
   wpAny (model Challenge.rw_zo0018_01.row.prog w) A (call (.ref 43) [.str x t1]) Q E s := by
  have KX := C.X
  have hh := C.hh
  revert KX; k_fill; intro KX
  obtain ⟨hd0, dp0, fr0, gd0, un0⟩ := A
  obtain rfl : hd0 = none := hh
  dsimp only at hdp hu
  refine wpAny_call ?_
  w_on
  k_dflt (refine' enter0 ?k1 ?k6 ?k7 ?k8 ?k9 ?kB ?_ ?c2 ?c3 ?c4 ?c5; (case k1 => exact C); (case k6 => k_is); (case k7 => k_is); (case k8 => (simp only [recursionLimit]; omega)); (case k9 => first | exact BindsTo.of_eq rfl | fail "no rule for these arguments"); (case c5 => decide); (case kB => exact locs rfl); (case c2 => exact rfl); (case c3 => exact rfl); (case c4 => exact rfl); k_whole; intro L' h' bse outer loose mean mg mb B' X' T' F' N'; clear C KX; (try dsimp only); (try k_fold))
  repeat' (first | (k_unfold; (try dsimp only)) | (k_end; wrow_close) | (dsimp only; (first | ((with_reducible show wpAny _ _ (call (Value.builtin "re.Pattern.search") _) _ _ _); (k_here; k_dflt (refine search_none (Frag.In.keeps (by k_asm) (Fr.keep (by k_asm))) (by k_asm) (by k_asm) ?_))) | ((k_here; (with_reducible show wpAny _ _ (getMethod (Value.ref 36) _ _) _ _ _); k_dflt (refine getMethod_builtin (T := "re.Pattern") ⟨_, Frag.In.keeps (by k_asm) (Fr.keep (by k_asm)) _ _ (k36 _), rfl⟩ pa_pat slot_search type_search (fun a e => by cases e; exact ⟨_, Frag.In.keeps (by k_asm) (Fr.keep (by k_asm)) _ _ (k36 _), rfl⟩) ?_))) | walk1)) | ((first | ((with_reducible show wpAny _ _ (call (Value.builtin "re.Pattern.search") _) _ _ _); (k_here; k_dflt (refine search_none (Frag.In.keeps (by k_asm) (Fr.keep (by k_asm))) (by k_asm) (by k_asm) ?_))) | ((k_here; (with_reducible show wpAny _ _ (getMethod (Value.ref 36) _ _) _ _ _); k_dflt (refine getMethod_builtin (T := "re.Pattern") ⟨_, Frag.In.keeps (by k_asm) (Fr.keep (by k_asm)) _ _ (k36 _), rfl⟩ pa_pat slot_search type_search (fun a e => by cases e; exact ⟨_, Frag.In.keeps (by k_asm) (Fr.keep (by k_asm)) _ _ (k36 _), rfl⟩) ?_))) | walk1)) | (k_end; dsimp only; k_unfold; (try dsimp only)))
  all_goals refine retB h ?_ (Fr.keep (by k_asm))
  · simp_all [hdnB]
  · simp_all [hdnB]
  · simp_all [hdnB]
  · simp_all [hdnB]
noncomputable def rxEnds (x : Array Nat) : Prop := ∃ n, n + 2 = x.size ∧ x.getD n 0 = 46 ∧ Sre.isDigit (x.getD (n + 1) 0) = true ∧ ∀ i, i < n → i + 1 < x.size → x.getD i 0 = 46 → Sre.isDigit (x.getD (i + 1) 0) = false
theorem search_some' {w : World} {A : Around} {s : Shared} {E : Value → Shared → Prop} {x : Str} {t : Tok} {h₀ : Heap} {L : Addr} {m : Str → Option Value} {news : List (Addr × Obj)} {Q : Value → Shared → Prop} (X : (hd.heap_39 w.params).In h₀) (F : Fr h₀ L s.heap m) (N : News h₀ L s.heap news) (hx : x.length ≤ 1000) (hr : rxEnds x.cps)
    (hQ : ∀ a h', Fr h₀ L h' m → News h₀ L h' news → (∃ o, h'.get? a = some o ∧ o.cls = .type "re.Match") → Q (.ref a) { s with heap := h' }) :
    wpAny (model Challenge.rw_zo0018_01.row.prog w) A (call (.builtin "re.Pattern.search") [.ref 36, .str x t]) Q E s := by
  obtain ⟨n, h1, h2, h3, h4⟩ := hr
  exact search_some (X.keeps F.keep) hx h1 h2 h3 h4 fun a h' k o => hQ a h' (F.keeps k) (N.grown k) o
theorem hdn_num {w : World} {A : Around} {s : Shared} {Q E : Value → Shared → Prop}
   {x : Str} {t1 : Tok} 
   (C : Cx w A s.heap) (hdp : A.depth < 980) (hu : A.units < 9000)
   (hx : x.length ≤ 1000) (hdd : rxEnds x.cps)
   (h : ∀ h' tk', Keep s.heap h' → Q (.bool false) { s with heap := h', toks := tk' }) :
   wpAny (model Challenge.rw_zo0018_01.row.prog w) A (call (.ref 43) [.str x t1]) Q E s := by
  have KX := C.X
  have hh := C.hh
  revert KX; k_fill; intro KX
  obtain ⟨hd0, dp0, fr0, gd0, un0⟩ := A
  obtain rfl : hd0 = none := hh
  dsimp only at hdp hu
  refine wpAny_call ?_
  w_on
  k_dflt (refine' enter0 ?k1 ?k6 ?k7 ?k8 ?k9 ?kB ?_ ?c2 ?c3 ?c4 ?c5; (case k1 => exact C); (case k6 => k_is); (case k7 => k_is); (case k8 => (simp only [recursionLimit]; omega)); (case k9 => first | exact BindsTo.of_eq rfl | fail "no rule for these arguments"); (case c5 => decide); (case kB => exact locs rfl); (case c2 => exact rfl); (case c3 => exact rfl); (case c4 => exact rfl); k_whole; intro L' h' bse outer loose mean mg mb B' X' T' F' N'; clear C KX; (try dsimp only); (try k_fold))
  repeat' (first | (k_unfold; (try dsimp only)) | (k_end; wrow_close) | (dsimp only; (first | ((with_reducible show wpAny _ _ (truthy (Value.ref _)) _ _ _); (k_here; k_dflt (refine truthy_match (by k_asm) ?_))) | ((with_reducible show wpAny _ _ (call (Value.builtin "re.Pattern.search") _) _ _ _); (k_here; k_dflt (refine search_some' (by k_asm) (by k_asm) (by k_asm) (by k_asm) (by k_asm) ?_; intro a' h' F' N' O'))) | ((with_reducible show wpAny _ _ (call (Value.builtin "re.Pattern.search") _) _ _ _); (k_here; k_dflt (refine search_none (Frag.In.keeps (by k_asm) (Fr.keep (by k_asm))) (by k_asm) (by k_asm) ?_))) | ((k_here; (with_reducible show wpAny _ _ (getMethod (Value.ref 36) _ _) _ _ _); k_dflt (refine getMethod_builtin (T := "re.Pattern") ⟨_, Frag.In.keeps (by k_asm) (Fr.keep (by k_asm)) _ _ (k36 _), rfl⟩ pa_pat slot_search type_search (fun a e => by cases e; exact ⟨_, Frag.In.keeps (by k_asm) (Fr.keep (by k_asm)) _ _ (k36 _), rfl⟩) ?_))) | walk1)) | ((first | ((with_reducible show wpAny _ _ (truthy (Value.ref _)) _ _ _); (k_here; k_dflt (refine truthy_match (by k_asm) ?_))) | ((with_reducible show wpAny _ _ (call (Value.builtin "re.Pattern.search") _) _ _ _); (k_here; k_dflt (refine search_some' (by k_asm) (by k_asm) (by k_asm) (by k_asm) (by k_asm) ?_; intro a' h' F' N' O'))) | ((with_reducible show wpAny _ _ (call (Value.builtin "re.Pattern.search") _) _ _ _); (k_here; k_dflt (refine search_none (Frag.In.keeps (by k_asm) (Fr.keep (by k_asm))) (by k_asm) (by k_asm) ?_))) | ((k_here; (with_reducible show wpAny _ _ (getMethod (Value.ref 36) _ _) _ _ _); k_dflt (refine getMethod_builtin (T := "re.Pattern") ⟨_, Frag.In.keeps (by k_asm) (Fr.keep (by k_asm)) _ _ (k36 _), rfl⟩ pa_pat slot_search type_search (fun a e => by cases e; exact ⟨_, Frag.In.keeps (by k_asm) (Fr.keep (by k_asm)) _ _ (k36 _), rfl⟩) ?_))) | walk1)) | (k_end; dsimp only; k_unfold; (try dsimp only)))
  all_goals exact h _ _ (Fr.keep (by k_asm))
end
section
open PySem PySem.W PyProof.Rows PySem.Calls
set_option maxRecDepth 100000
set_option maxHeartbeats 8000000

noncomputable def dmB (x y : Str) : Bool :=
  if (Txt.lower x == Txt.lower y) = true then true else if hdnB (Txt.lower x) = false then false else
  if Txt.rfind (Txt.lower x) (Txt.lower y) = -1 then false else if Txt.rfind (Txt.lower x) (Txt.lower y) = 0 then false else
  if Txt.startswith (Txt.lower y) (Str.ofString ".") = false then false else
  if hdnB (Txt.slice (Txt.lower y) (some 1) none) = false then false else true
theorem dm_ok {w : World} {A : Around} {s : Shared} {Q E : Value → Shared → Prop}
   {x y : Str} {t1 t2 : Tok} 
   (C : Cx w A s.heap) (hdp : A.depth < 960) (hu : A.units < 8900)
   (hx : (Txt.lower x).length ≤ 1000) (hy : (Txt.lower y).length ≤ 1000) (hxl : x.length ≤ 1000) (hyl : y.length ≤ 1000) (hsl : (Txt.slice (Txt.lower y) (some 1) none).length ≤ 1000) (hdx : noDD (Txt.lower x).cps) (hdy : noDD (Txt.slice (Txt.lower y) (some 1) none).cps)
   (h : ∀ h' tk', Keep s.heap h' → Q (.bool (dmB x y)) { s with heap := h', toks := tk' }) :
   wpAny (model Challenge.rw_zo0018_01.row.prog w) A (call (.ref 50) [.str x t1, .str y t2]) Q E s := by
  have KX := C.X
  have hh := C.hh
  revert KX; k_fill; intro KX
  obtain ⟨hd0, dp0, fr0, gd0, un0⟩ := A
  obtain rfl : hd0 = none := hh
  dsimp only at hdp hu
  refine wpAny_call ?_
  w_on
  k_dflt (refine' enter0 ?k1 ?k6 ?k7 ?k8 ?k9 ?kB ?_ ?c2 ?c3 ?c4 ?c5; (case k1 => exact C); (case k6 => k_is); (case k7 => k_is); (case k8 => (simp only [recursionLimit]; omega)); (case k9 => first | exact BindsTo.of_eq rfl | fail "no rule for these arguments"); (case c5 => decide); (case kB => exact locs rfl); (case c2 => exact rfl); (case c3 => exact rfl); (case c4 => exact rfl); k_whole; intro L' h' bse outer loose mean mg mb B' X' T' F' N'; clear C KX; (try dsimp only); (try k_fold))
  repeat' (first | (k_unfold; (try dsimp only)) | (k_end; wrow_close) | (dsimp only; (first | ((k_here; (with_reducible show wpAny _ _ (call (Value.ref 43) _) _ _ _); k_dflt ((with_reducible rename Fr _ _ _ _ => kF); (with_reducible rename News _ _ _ _ => kN); refine hdn_ok (Cx.push (by k_asm) kF (by k_asm) (by k_asm) rfl rfl rfl) (dlt (by with_reducible assumption) (by decide)) (ult (by with_reducible assumption) (by decide)) (by first | k_asm | omega) (by first | k_asm | omega) ?_; intro  h' tk' hK'; have F' := Fr.keeps kF hK'; have N' := News.grown kN hK'; clear kF kN); (try dsimp only); (try k_fold))) | ((k_here; (with_reducible show wpAny _ _ (call (Value.ref 43) _) _ _ _); k_dflt ((with_reducible rename Fr _ _ _ _ => kF); (with_reducible rename News _ _ _ _ => kN); refine hdn_num (Cx.push (by k_asm) kF (by k_asm) (by k_asm) rfl rfl rfl) (dlt (by with_reducible assumption) (by decide)) (ult (by with_reducible assumption) (by decide)) (by first | k_asm | omega) (by first | k_asm | omega) ?_; intro  h' tk' hK'; have F' := Fr.keeps kF hK'; have N' := News.grown kN hK'; clear kF kN); (try dsimp only); (try k_fold))) | walk1)) | ((first | ((k_here; (with_reducible show wpAny _ _ (call (Value.ref 43) _) _ _ _); k_dflt ((with_reducible rename Fr _ _ _ _ => kF); (with_reducible rename News _ _ _ _ => kN); refine hdn_ok (Cx.push (by k_asm) kF (by k_asm) (by k_asm) rfl rfl rfl) (dlt (by with_reducible assumption) (by decide)) (ult (by with_reducible assumption) (by decide)) (by first | k_asm | omega) (by first | k_asm | omega) ?_; intro  h' tk' hK'; have F' := Fr.keeps kF hK'; have N' := News.grown kN hK'; clear kF kN); (try dsimp only); (try k_fold))) | ((k_here; (with_reducible show wpAny _ _ (call (Value.ref 43) _) _ _ _); k_dflt ((with_reducible rename Fr _ _ _ _ => kF); (with_reducible rename News _ _ _ _ => kN); refine hdn_num (Cx.push (by k_asm) kF (by k_asm) (by k_asm) rfl rfl rfl) (dlt (by with_reducible assumption) (by decide)) (ult (by with_reducible assumption) (by decide)) (by first | k_asm | omega) (by first | k_asm | omega) ?_; intro  h' tk' hK'; have F' := Fr.keeps kF hK'; have N' := News.grown kN hK'; clear kF kN); (try dsimp only); (try k_fold))) | walk1)) | (k_end; dsimp only; k_unfold; (try dsimp only)))
  all_goals refine retB h ?_ (Fr.keep (by k_asm))
  all_goals (unfold dmB; simp_all; done)
noncomputable def reachF (x : Str) : Str :=
  if 0 ≤ Txt.find x (Str.ofString ".") then
    if hdnB x = false then x else
    if 0 ≤ Txt.find (Txt.slice x (some (Txt.find x (Str.ofString ".") + 1)) none) (Str.ofString ".") then Str.ofString "." ++ Txt.slice x (some (Txt.find x (Str.ofString ".") + 1)) none else
    if (Txt.slice x (some (Txt.find x (Str.ofString ".") + 1)) none == Str.ofString "local") = true then Str.ofString "." ++ Txt.slice x (some (Txt.find x (Str.ofString ".") + 1)) none else x
  else x
theorem reach_ok {w : World} {A : Around} {s : Shared} {Q E : Value → Shared → Prop}
   {x : Str} {t1 : Tok} 
   (C : Cx w A s.heap) (hdp : A.depth < 960) (hu : A.units < 8900)
   (hx : x.length ≤ 1000) (hsl : (Txt.slice x (some (Txt.find x (Str.ofString ".") + 1)) none).length ≤ 1000) (hdd : noDD x.cps)
   (h : ∀ t h' tk', Keep s.heap h' → Q (.str (reachF x) t) { s with heap := h', toks := tk' }) :
   wpAny (model Challenge.rw_zo0018_01.row.prog w) A (call (.ref 57) [.str x t1]) Q E s := by
  have KX := C.X
  have hh := C.hh
  revert KX; k_fill; intro KX
  obtain ⟨hd0, dp0, fr0, gd0, un0⟩ := A
  obtain rfl : hd0 = none := hh
  dsimp only at hdp hu
  refine wpAny_call ?_
  w_on
  k_dflt (refine' enter0 ?k1 ?k6 ?k7 ?k8 ?k9 ?kB ?_ ?c2 ?c3 ?c4 ?c5; (case k1 => exact C); (case k6 => k_is); (case k7 => k_is); (case k8 => (simp only [recursionLimit]; omega)); (case k9 => first | exact BindsTo.of_eq rfl | fail "no rule for these arguments"); (case c5 => decide); (case kB => exact locs rfl); (case c2 => exact rfl); (case c3 => exact rfl); (case c4 => exact rfl); k_whole; intro L' h' bse outer loose mean mg mb B' X' T' F' N'; clear C KX; (try dsimp only); (try k_fold))
  repeat' (first | (k_unfold; (try dsimp only)) | (k_end; wrow_close) | (dsimp only; (first | ((k_here; (with_reducible show wpAny _ _ (call (Value.ref 43) _) _ _ _); k_dflt ((with_reducible rename Fr _ _ _ _ => kF); (with_reducible rename News _ _ _ _ => kN); refine hdn_ok (Cx.push (by k_asm) kF (by k_asm) (by k_asm) rfl rfl rfl) (dlt (by with_reducible assumption) (by decide)) (ult (by with_reducible assumption) (by decide)) (by first | k_asm | omega) (by first | k_asm | omega) ?_; intro  h' tk' hK'; have F' := Fr.keeps kF hK'; have N' := News.grown kN hK'; clear kF kN); (try dsimp only); (try k_fold))) | ((k_here; (with_reducible show wpAny _ _ (call (Value.ref 43) _) _ _ _); k_dflt ((with_reducible rename Fr _ _ _ _ => kF); (with_reducible rename News _ _ _ _ => kN); refine hdn_num (Cx.push (by k_asm) kF (by k_asm) (by k_asm) rfl rfl rfl) (dlt (by with_reducible assumption) (by decide)) (ult (by with_reducible assumption) (by decide)) (by first | k_asm | omega) (by first | k_asm | omega) ?_; intro  h' tk' hK'; have F' := Fr.keeps kF hK'; have N' := News.grown kN hK'; clear kF kN); (try dsimp only); (try k_fold))) | walk1)) | ((first | ((k_here; (with_reducible show wpAny _ _ (call (Value.ref 43) _) _ _ _); k_dflt ((with_reducible rename Fr _ _ _ _ => kF); (with_reducible rename News _ _ _ _ => kN); refine hdn_ok (Cx.push (by k_asm) kF (by k_asm) (by k_asm) rfl rfl rfl) (dlt (by with_reducible assumption) (by decide)) (ult (by with_reducible assumption) (by decide)) (by first | k_asm | omega) (by first | k_asm | omega) ?_; intro  h' tk' hK'; have F' := Fr.keeps kF hK'; have N' := News.grown kN hK'; clear kF kN); (try dsimp only); (try k_fold))) | ((k_here; (with_reducible show wpAny _ _ (call (Value.ref 43) _) _ _ _); k_dflt ((with_reducible rename Fr _ _ _ _ => kF); (with_reducible rename News _ _ _ _ => kN); refine hdn_num (Cx.push (by k_asm) kF (by k_asm) (by k_asm) rfl rfl rfl) (dlt (by with_reducible assumption) (by decide)) (ult (by with_reducible assumption) (by decide)) (by first | k_asm | omega) (by first | k_asm | omega) ?_; intro  h' tk' hK'; have F' := Fr.keeps kF hK'; have N' := News.grown kN hK'; clear kF kN); (try dsimp only); (try k_fold))) | walk1)) | (k_end; dsimp only; k_unfold; (try dsimp only)))
  all_goals (refine retS h ?_ (Fr.keep (by k_asm)); unfold reachF; (repeat' split) <;> first | rfl | (exfalso; omega) | (simp_all; done))
theorem reach_num {w : World} {A : Around} {s : Shared} {Q E : Value → Shared → Prop}
   {x : Str} {t1 : Tok} 
   (C : Cx w A s.heap) (hdp : A.depth < 960) (hu : A.units < 8900)
   (hx : x.length ≤ 1000) (hsl : (Txt.slice x (some (Txt.find x (Str.ofString ".") + 1)) none).length ≤ 1000) (hdd : rxEnds x.cps)
   (h : ∀ t h' tk', Keep s.heap h' → Q (.str x t) { s with heap := h', toks := tk' }) :
   wpAny (model Challenge.rw_zo0018_01.row.prog w) A (call (.ref 57) [.str x t1]) Q E s := by
  have KX := C.X
  have hh := C.hh
  revert KX; k_fill; intro KX
  obtain ⟨hd0, dp0, fr0, gd0, un0⟩ := A
  obtain rfl : hd0 = none := hh
  dsimp only at hdp hu
  refine wpAny_call ?_
  w_on
  k_dflt (refine' enter0 ?k1 ?k6 ?k7 ?k8 ?k9 ?kB ?_ ?c2 ?c3 ?c4 ?c5; (case k1 => exact C); (case k6 => k_is); (case k7 => k_is); (case k8 => (simp only [recursionLimit]; omega)); (case k9 => first | exact BindsTo.of_eq rfl | fail "no rule for these arguments"); (case c5 => decide); (case kB => exact locs rfl); (case c2 => exact rfl); (case c3 => exact rfl); (case c4 => exact rfl); k_whole; intro L' h' bse outer loose mean mg mb B' X' T' F' N'; clear C KX; (try dsimp only); (try k_fold))
  repeat' (first | (k_unfold; (try dsimp only)) | (k_end; wrow_close) | (dsimp only; (first | ((k_here; (with_reducible show wpAny _ _ (call (Value.ref 43) _) _ _ _); k_dflt ((with_reducible rename Fr _ _ _ _ => kF); (with_reducible rename News _ _ _ _ => kN); refine hdn_ok (Cx.push (by k_asm) kF (by k_asm) (by k_asm) rfl rfl rfl) (dlt (by with_reducible assumption) (by decide)) (ult (by with_reducible assumption) (by decide)) (by first | k_asm | omega) (by first | k_asm | omega) ?_; intro  h' tk' hK'; have F' := Fr.keeps kF hK'; have N' := News.grown kN hK'; clear kF kN); (try dsimp only); (try k_fold))) | ((k_here; (with_reducible show wpAny _ _ (call (Value.ref 43) _) _ _ _); k_dflt ((with_reducible rename Fr _ _ _ _ => kF); (with_reducible rename News _ _ _ _ => kN); refine hdn_num (Cx.push (by k_asm) kF (by k_asm) (by k_asm) rfl rfl rfl) (dlt (by with_reducible assumption) (by decide)) (ult (by with_reducible assumption) (by decide)) (by first | k_asm | omega) (by first | k_asm | omega) ?_; intro  h' tk' hK'; have F' := Fr.keeps kF hK'; have N' := News.grown kN hK'; clear kF kN); (try dsimp only); (try k_fold))) | walk1)) | ((first | ((k_here; (with_reducible show wpAny _ _ (call (Value.ref 43) _) _ _ _); k_dflt ((with_reducible rename Fr _ _ _ _ => kF); (with_reducible rename News _ _ _ _ => kN); refine hdn_ok (Cx.push (by k_asm) kF (by k_asm) (by k_asm) rfl rfl rfl) (dlt (by with_reducible assumption) (by decide)) (ult (by with_reducible assumption) (by decide)) (by first | k_asm | omega) (by first | k_asm | omega) ?_; intro  h' tk' hK'; have F' := Fr.keeps kF hK'; have N' := News.grown kN hK'; clear kF kN); (try dsimp only); (try k_fold))) | ((k_here; (with_reducible show wpAny _ _ (call (Value.ref 43) _) _ _ _); k_dflt ((with_reducible rename Fr _ _ _ _ => kF); (with_reducible rename News _ _ _ _ => kN); refine hdn_num (Cx.push (by k_asm) kF (by k_asm) (by k_asm) rfl rfl rfl) (dlt (by with_reducible assumption) (by decide)) (ult (by with_reducible assumption) (by decide)) (by first | k_asm | omega) (by first | k_asm | omega) ?_; intro  h' tk' hK'; have F' := Fr.keeps kF hK'; have N' := News.grown kN hK'; clear kF kN); (try dsimp only); (try k_fold))) | walk1)) | (k_end; dsimp only; k_unfold; (try dsimp only)))
  all_goals exact h _ _ _ (Fr.keep (by k_asm))
end
section
open PySem PySem.W PyProof.Rows PySem.Calls
set_option maxRecDepth 100000
set_option maxHeartbeats 8000000

noncomputable def domLoop (x : Str) : Nat → Str × Str
  | 0 => (Str.ofString "", x)
  | n + 1 => (reachF (domLoop x n).2, Txt.slice (reachF (domLoop x n).2) (some 1) none)
theorem dom_ok {w : World} {A : Around} {s : Shared} {Q E : Value → Shared → Prop}
   {x : Str} {t1 t2 : Tok} {n : Nat}
   (C : Cx w A s.heap) (hdp : A.depth < 940) (hu : A.units < 8800)
   (hn : n ≤ 16)
   (hg : ∀ i, i < n → (domLoop x i).2.length ≤ 1000 ∧ (Txt.slice (domLoop x i).2 (some (Txt.find (domLoop x i).2 (Str.ofString ".") + 1)) none).length ≤ 1000 ∧ noDD (domLoop x i).2.cps ∧ (reachF (domLoop x i).2).length ≤ 1000)
   (hup : (domLoop x n).1.length ≤ 1000)
   (h : ∀ t h' tk', Keep s.heap h' → Q (.str (Txt.upper (domLoop x n).1) t) { s with heap := h', toks := tk' }) :
   wpAny (model Challenge.rw_zo0018_01.row.prog w) A (call (.ref 130) [.str x t1, .int (n : Int) t2]) Q E s := by
  have KX := C.X
  have hh := C.hh
  revert KX; k_fill; intro KX
  obtain ⟨hd0, dp0, fr0, gd0, un0⟩ := A
  obtain rfl : hd0 = none := hh
  dsimp only at hdp hu
  refine wpAny_call ?_
  w_on
  k_dflt (refine' enter0 ?k1 ?k6 ?k7 ?k8 ?k9 ?kB ?_ ?c2 ?c3 ?c4 ?c5; (case k1 => exact C); (case k6 => k_is); (case k7 => k_is); (case k8 => (simp only [recursionLimit]; omega)); (case k9 => first | exact BindsTo.of_eq rfl | fail "no rule for these arguments"); (case c5 => decide); (case kB => exact locs rfl); (case c2 => exact rfl); (case c3 => exact rfl); (case c4 => exact rfl); k_whole; intro L' h' bse outer loose mean mg mb B' X' T' F' N'; clear C KX; (try dsimp only); (try k_fold))
  repeat' (first | (k_unfold; (try dsimp only)) | (k_end; wrow_close) | ((fail_if_success (with_reducible show wpAny _ _ (pyIter _) _ _ _)); dsimp only; (first | ((k_here; (with_reducible show wpAny _ _ (call (Value.ref 57) _) _ _ _); k_dflt ((with_reducible rename Fr _ _ _ _ => kF); (with_reducible rename News _ _ _ _ => kN); refine reach_ok (Cx.push (by k_asm) kF (by k_asm) (by k_asm) rfl rfl rfl) (dlt (by with_reducible assumption) (by decide)) (ult (by with_reducible assumption) (by decide)) (by first | k_asm | omega) (by first | k_asm | omega) (by first | k_asm | omega) ?_; intro t' h' tk' hK'; have F' := Fr.keeps kF hK'; have N' := News.grown kN hK'; clear kF kN); (try dsimp only); (try k_fold))) | walk1)) | ((fail_if_success (with_reducible show wpAny _ _ (pyIter _) _ _ _)); (first | ((k_here; (with_reducible show wpAny _ _ (call (Value.ref 57) _) _ _ _); k_dflt ((with_reducible rename Fr _ _ _ _ => kF); (with_reducible rename News _ _ _ _ => kN); refine reach_ok (Cx.push (by k_asm) kF (by k_asm) (by k_asm) rfl rfl rfl) (dlt (by with_reducible assumption) (by decide)) (ult (by with_reducible assumption) (by decide)) (by first | k_asm | omega) (by first | k_asm | omega) (by first | k_asm | omega) ?_; intro t' h' tk' hK'; have F' := Fr.keeps kF hK'; have N' := News.grown kN hK'; clear kF kN); (try dsimp only); (try k_fold))) | walk1)) | (k_end; dsimp only; k_unfold; (try dsimp only)))
  have hsz : Builtin.Range.rangeSize 0 (n : Int) 1 = (n : Int) := range_size n
  have hsm : Builtin.Range.small 0 (n : Int) 1 = true := range_small n (by omega)
  refine kst_range (σ := Str × Tok × Str × Tok) (n := n) (fun _ => []) (fun c => [(Str.ofString "domain", .str c.1 c.2.1), (Str.ofString "host", .str c.2.2.1 c.2.2.2)]) (fun _ => True) [] (fun pre c => (c.1, c.2.2.1) = domLoop x pre.length) (Str.ofString "", _, x, t1) rfl (by k_asm) hsm hsz (by k_asm) (by k_asm) trivial (by kst_all) rfl ?turn ?done
  case done => 
    rintro ⟨d, td, hs, th⟩ u h2 tk2 - hp F2 N2
    dsimp only [kstB] at F2 hp
    have e2 : d = (domLoop x n).1 := by rw [rangeKs_length] at hp; rw [← hp]
    rw [← e2] at hup
    repeat' (first | (k_unfold; (try dsimp only)) | (k_end; wrow_close) | (dsimp only; (first | ((k_here; (with_reducible show wpAny _ _ (call (Value.ref 57) _) _ _ _); k_dflt ((with_reducible rename Fr _ _ _ _ => kF); (with_reducible rename News _ _ _ _ => kN); refine reach_ok (Cx.push (by k_asm) kF (by k_asm) (by k_asm) rfl rfl rfl) (dlt (by with_reducible assumption) (by decide)) (ult (by with_reducible assumption) (by decide)) (by first | k_asm | omega) (by first | k_asm | omega) (by first | k_asm | omega) ?_; intro t' h' tk' hK'; have F' := Fr.keeps kF hK'; have N' := News.grown kN hK'; clear kF kN); (try dsimp only); (try k_fold))) | walk1)) | ((first | ((k_here; (with_reducible show wpAny _ _ (call (Value.ref 57) _) _ _ _); k_dflt ((with_reducible rename Fr _ _ _ _ => kF); (with_reducible rename News _ _ _ _ => kN); refine reach_ok (Cx.push (by k_asm) kF (by k_asm) (by k_asm) rfl rfl rfl) (dlt (by with_reducible assumption) (by decide)) (ult (by with_reducible assumption) (by decide)) (by first | k_asm | omega) (by first | k_asm | omega) (by first | k_asm | omega) ?_; intro t' h' tk' hK'; have F' := Fr.keeps kF hK'; have N' := News.grown kN hK'; clear kF kN); (try dsimp only); (try k_fold))) | walk1)) | (k_end; dsimp only; k_unfold; (try dsimp only)))
    subst e2
    exact h _ _ _ (Fr.keep (by k_asm))
  case turn =>
    rintro ⟨d, td, hs, th⟩ pre k t u h2 tk2 own hk hlt hoff - hp F2 N2
    dsimp only [kstB] at F2 hp
    have e2 : (domLoop x pre.length).2 = hs := by rw [← hp]
    have hq := hg pre.length hlt
    rw [e2] at hq
    obtain ⟨q1, q2, q3, q4⟩ := hq
    clear hg
    repeat' (first | (k_unfold; (try dsimp only)) | (k_end; wrow_close) | (dsimp only; (first | ((k_here; (with_reducible show wpAny _ _ (call (Value.ref 57) _) _ _ _); k_dflt ((with_reducible rename Fr _ _ _ _ => kF); (with_reducible rename News _ _ _ _ => kN); refine reach_ok (Cx.push (by k_asm) kF (by k_asm) (by k_asm) rfl rfl rfl) (dlt (by with_reducible assumption) (by decide)) (ult (by with_reducible assumption) (by decide)) (by first | k_asm | omega) (by first | k_asm | omega) (by first | k_asm | omega) ?_; intro t' h' tk' hK'; have F' := Fr.keeps kF hK'; have N' := News.grown kN hK'; clear kF kN); (try dsimp only); (try k_fold))) | walk1)) | ((first | ((k_here; (with_reducible show wpAny _ _ (call (Value.ref 57) _) _ _ _); k_dflt ((with_reducible rename Fr _ _ _ _ => kF); (with_reducible rename News _ _ _ _ => kN); refine reach_ok (Cx.push (by k_asm) kF (by k_asm) (by k_asm) rfl rfl rfl) (dlt (by with_reducible assumption) (by decide)) (ult (by with_reducible assumption) (by decide)) (by first | k_asm | omega) (by first | k_asm | omega) (by first | k_asm | omega) ?_; intro t' h' tk' hK'; have F' := Fr.keeps kF hK'; have N' := News.grown kN hK'; clear kF kN); (try dsimp only); (try k_fold))) | walk1)) | (k_end; dsimp only; k_unfold; (try dsimp only)))
    refine kst_end (reachF hs, _, Txt.slice (reachF hs) (some 1) none, _) (by k_asm) (by k_asm) (by intro p hp; exact List.mem_append_left _ hp) (by intro p hp; exact List.mem_append_right _ hp) rfl trivial (by kst_all) (by intro z h1 h2 h3; simp only [List.forall_mem_cons, List.not_mem_nil, false_implies, implies_true, and_true, ne_eq] at h2; simp [kstB, h1, h2]) ?_
    rw [List.length_append, List.length_singleton]
    show _ = (reachF (domLoop x pre.length).2, _)
    rw [e2]
end
section
open PySem PySem.W PyProof.Rows PySem.Calls
set_option maxRecDepth 100000
set_option maxHeartbeats 8000000

theorem parted_ok {w : World} {A : Around} {s : Shared} {Q E : Value → Shared → Prop}
   {l1 l2 l3 : Addr} {v1 v2 v3 : List Value} {ns ds : List Int} {hs : List Str} {d : Str} {t : Tok}
   (C : Cx w A s.heap) (hdp : A.depth < 920) (hu : A.units < 8700)
   (hl1 : s.heap.IsList l1 v1.toArray) (hi1 : IntsAre v1 ns) (hl2 : s.heap.IsList l2 v2.toArray) (hi2 : StrsAre v2 hs) (hl3 : s.heap.IsList l3 v3.toArray) (hi3 : IntsAre v3 ds)
   (hlen : ns.length = hs.length) (hlen2 : ns.length ≤ 1000) (hlen3 : ds.length ≤ 1000)
   (hd1 : d.length ≤ 1000) (hd2 : (Txt.lower d).length ≤ 1000) (hd3 : (Txt.slice (Txt.lower d) (some 1) none).length ≤ 1000) (hd4 : noDD (Txt.slice (Txt.lower d) (some 1) none).cps)
   (hg : ∀ x ∈ hs, x.length ≤ 1000 ∧ (Txt.lower x).length ≤ 1000 ∧ noDD (Txt.lower x).cps)
   (h : ∀ h' tk', Keep s.heap h' → Q (.bool ((ns.zip hs).all fun p => dmB p.2 d == decide (p.1 ∈ ds))) { s with heap := h', toks := tk' }) :
   wpAny (model Challenge.rw_zo0018_01.row.prog w) A (call (.ref 156) [.ref l1, .ref l2, .str d t, .ref l3]) Q E s := by
  have KX := C.X
  have hh := C.hh
  revert KX; k_fill; intro KX
  obtain ⟨hd0, dp0, fr0, gd0, un0⟩ := A
  obtain rfl : hd0 = none := hh
  dsimp only at hdp hu
  refine wpAny_call ?_
  w_on
  k_dflt (refine' enter0 ?k1 ?k6 ?k7 ?k8 ?k9 ?kB ?_ ?c2 ?c3 ?c4 ?c5; (case k1 => exact C); (case k6 => k_is); (case k7 => k_is); (case k8 => (simp only [recursionLimit]; omega)); (case k9 => first | exact BindsTo.of_eq rfl | fail "no rule for these arguments"); (case c5 => decide); (case kB => exact locs rfl); (case c2 => exact rfl); (case c3 => exact rfl); (case c4 => exact rfl); k_whole; intro L' h' bse outer loose mean mg mb B' X' T' F' N'; clear C KX; (try dsimp only); (try k_fold))
  repeat' (first | (k_unfold; (try dsimp only)) | (k_end; wrow_close) | ((fail_if_success (with_reducible show wpAny _ _ (pyIter _) _ _ _)); dsimp only; (first | ((k_here; (with_reducible show wpAny _ _ (call (Value.ref 50) _) _ _ _); k_dflt ((with_reducible rename Fr _ _ _ _ => kF); (with_reducible rename News _ _ _ _ => kN); refine dm_ok (Cx.push (by k_asm) kF (by k_asm) (by k_asm) rfl rfl rfl) (dlt (by with_reducible assumption) (by decide)) (ult (by with_reducible assumption) (by decide)) (by first | k_asm | omega) (by first | k_asm | omega) (by first | k_asm | omega) (by first | k_asm | omega) (by first | k_asm | omega) (by first | k_asm | omega) (by first | k_asm | omega) ?_; intro  h' tk' hK'; have F' := Fr.keeps kF hK'; have N' := News.grown kN hK'; clear kF kN); (try dsimp only); (try k_fold))) | walk1)) | ((fail_if_success (with_reducible show wpAny _ _ (pyIter _) _ _ _)); (first | ((k_here; (with_reducible show wpAny _ _ (call (Value.ref 50) _) _ _ _); k_dflt ((with_reducible rename Fr _ _ _ _ => kF); (with_reducible rename News _ _ _ _ => kN); refine dm_ok (Cx.push (by k_asm) kF (by k_asm) (by k_asm) rfl rfl rfl) (dlt (by with_reducible assumption) (by decide)) (ult (by with_reducible assumption) (by decide)) (by first | k_asm | omega) (by first | k_asm | omega) (by first | k_asm | omega) (by first | k_asm | omega) (by first | k_asm | omega) (by first | k_asm | omega) (by first | k_asm | omega) ?_; intro  h' tk' hK'; have F' := Fr.keeps kF hK'; have N' := News.grown kN hK'; clear kF kN); (try dsimp only); (try k_fold))) | walk1)) | (k_end; dsimp only; k_unfold; (try dsimp only)))
  refine Pair2_leave (pz := fun n x => dmB x d != decide (n ∈ ds)) (PairSrc2L.at (by assumption) _ rfl) (by with_unfolding_all rfl) ?g1 ?g2 ?g3
  case g1 =>
    intro i a b va vb s₁ own ha hb ka kb F1 N1
    obtain ⟨_, rfl⟩ := ItemKind.int_is ka
    obtain ⟨_, rfl⟩ := ItemKind.str_is kb
    obtain ⟨q1, q2, q3⟩ := hg b (List.mem_of_getElem? hb)
    clear hg
    have F2 : Fr s.heap L' s₁.heap _ := F1
    have N2 : News s.heap L' s₁.heap _ := N1
    obtain ⟨hp1, g1, dr1, tk1, os1⟩ := s₁
    dsimp only [bindM] at F2 N2
    clear F1 N1
    repeat' (first | (k_unfold; (try dsimp only)) | (k_end; wrow_close) | (dsimp only; (first | ((k_here; (with_reducible show wpAny _ _ (call (Value.ref 50) _) _ _ _); k_dflt ((with_reducible rename Fr _ _ _ _ => kF); (with_reducible rename News _ _ _ _ => kN); refine dm_ok (Cx.push (by k_asm) kF (by k_asm) (by k_asm) rfl rfl rfl) (dlt (by with_reducible assumption) (by decide)) (ult (by with_reducible assumption) (by decide)) (by first | k_asm | omega) (by first | k_asm | omega) (by first | k_asm | omega) (by first | k_asm | omega) (by first | k_asm | omega) (by first | k_asm | omega) (by first | k_asm | omega) ?_; intro  h' tk' hK'; have F' := Fr.keeps kF hK'; have N' := News.grown kN hK'; clear kF kN); (try dsimp only); (try k_fold))) | walk1)) | ((first | ((k_here; (with_reducible show wpAny _ _ (call (Value.ref 50) _) _ _ _); k_dflt ((with_reducible rename Fr _ _ _ _ => kF); (with_reducible rename News _ _ _ _ => kN); refine dm_ok (Cx.push (by k_asm) kF (by k_asm) (by k_asm) rfl rfl rfl) (dlt (by with_reducible assumption) (by decide)) (ult (by with_reducible assumption) (by decide)) (by first | k_asm | omega) (by first | k_asm | omega) (by first | k_asm | omega) (by first | k_asm | omega) (by first | k_asm | omega) (by first | k_asm | omega) (by first | k_asm | omega) ?_; intro  h' tk' hK'; have F' := Fr.keeps kF hK'; have N' := News.grown kN hK'; clear kF kN); (try dsimp only); (try k_fold))) | walk1)) | (k_end; dsimp only; k_unfold; (try dsimp only)))
    · congr 1
      rw [Bool.eq_iff_iff, List.any_eq_true, decide_eq_true_iff]
      exact ⟨fun ⟨y, hy, e⟩ => by rw [← beq_iff_eq.mp e]; exact hy, fun hy => ⟨a, hy, beq_self_eq_true _⟩⟩
    · exact ⟨_, _, rfl, by assumption⟩
  case g2 =>
    intro i a b va vb own h4 tk4 ha hb hp hz ka kb F1 N1
    have F2 : Fr s.heap L' h4 _ := F1
    have N2 : News s.heap L' h4 _ := N1
    clear F1 N1
    repeat' (first | (k_unfold; (try dsimp only)) | (k_end; wrow_close) | (dsimp only; (first | ((k_here; (with_reducible show wpAny _ _ (call (Value.ref 50) _) _ _ _); k_dflt ((with_reducible rename Fr _ _ _ _ => kF); (with_reducible rename News _ _ _ _ => kN); refine dm_ok (Cx.push (by k_asm) kF (by k_asm) (by k_asm) rfl rfl rfl) (dlt (by with_reducible assumption) (by decide)) (ult (by with_reducible assumption) (by decide)) (by first | k_asm | omega) (by first | k_asm | omega) (by first | k_asm | omega) (by first | k_asm | omega) (by first | k_asm | omega) (by first | k_asm | omega) (by first | k_asm | omega) ?_; intro  h' tk' hK'; have F' := Fr.keeps kF hK'; have N' := News.grown kN hK'; clear kF kN); (try dsimp only); (try k_fold))) | walk1)) | ((first | ((k_here; (with_reducible show wpAny _ _ (call (Value.ref 50) _) _ _ _); k_dflt ((with_reducible rename Fr _ _ _ _ => kF); (with_reducible rename News _ _ _ _ => kN); refine dm_ok (Cx.push (by k_asm) kF (by k_asm) (by k_asm) rfl rfl rfl) (dlt (by with_reducible assumption) (by decide)) (ult (by with_reducible assumption) (by decide)) (by first | k_asm | omega) (by first | k_asm | omega) (by first | k_asm | omega) (by first | k_asm | omega) (by first | k_asm | omega) (by first | k_asm | omega) (by first | k_asm | omega) ?_; intro  h' tk' hK'; have F' := Fr.keeps kF hK'; have N' := News.grown kN hK'; clear kF kN); (try dsimp only); (try k_fold))) | walk1)) | (k_end; dsimp only; k_unfold; (try dsimp only)))
    refine retB h ?_ (Fr.keep (by k_asm))
    have hm := List.mem_of_find?_eq_some hz
    symm
    rw [List.all_eq_false]
    exact ⟨_, hm, by simpa using hp⟩
  case g3 =>
    intro h2 tk2 vi vl F1 N1 hz
    have F2 : Fr s.heap L' h2 _ := F1
    have N2 : News s.heap L' h2 _ := N1
    clear F1 N1
    repeat' (first | (k_unfold; (try dsimp only)) | (k_end; wrow_close) | (dsimp only; (first | ((k_here; (with_reducible show wpAny _ _ (call (Value.ref 50) _) _ _ _); k_dflt ((with_reducible rename Fr _ _ _ _ => kF); (with_reducible rename News _ _ _ _ => kN); refine dm_ok (Cx.push (by k_asm) kF (by k_asm) (by k_asm) rfl rfl rfl) (dlt (by with_reducible assumption) (by decide)) (ult (by with_reducible assumption) (by decide)) (by first | k_asm | omega) (by first | k_asm | omega) (by first | k_asm | omega) (by first | k_asm | omega) (by first | k_asm | omega) (by first | k_asm | omega) (by first | k_asm | omega) ?_; intro  h' tk' hK'; have F' := Fr.keeps kF hK'; have N' := News.grown kN hK'; clear kF kN); (try dsimp only); (try k_fold))) | walk1)) | ((first | ((k_here; (with_reducible show wpAny _ _ (call (Value.ref 50) _) _ _ _); k_dflt ((with_reducible rename Fr _ _ _ _ => kF); (with_reducible rename News _ _ _ _ => kN); refine dm_ok (Cx.push (by k_asm) kF (by k_asm) (by k_asm) rfl rfl rfl) (dlt (by with_reducible assumption) (by decide)) (ult (by with_reducible assumption) (by decide)) (by first | k_asm | omega) (by first | k_asm | omega) (by first | k_asm | omega) (by first | k_asm | omega) (by first | k_asm | omega) (by first | k_asm | omega) (by first | k_asm | omega) ?_; intro  h' tk' hK'; have F' := Fr.keeps kF hK'; have N' := News.grown kN hK'; clear kF kN); (try dsimp only); (try k_fold))) | walk1)) | (k_end; dsimp only; k_unfold; (try dsimp only)))
    refine retB h ?_ (Fr.keep (by k_asm))
    symm
    rw [List.all_eq_true]
    intro p hp
    simpa using hz p hp
end
section
open PySem PySem.W PyProof.Rows PySem.Calls
set_option maxRecDepth 100000
set_option maxHeartbeats 8000000

theorem noDD_of {x : Array Nat} (h : ∀ c ∈ x, Sre.isDigit c = false) : noDD x := fun i hi _ => by
  have : x.getD (i + 1) 0 = x[i + 1] := by simp [Array.getD, hi]
  rw [this]; exact h _ (Array.getElem_mem hi)
structure DmPre (x y : Str) : Prop where
  a1 : (Txt.lower x).length ≤ 1000
  a2 : (Txt.lower y).length ≤ 1000
  a3 : x.length ≤ 1000
  a4 : y.length ≤ 1000
  a5 : (Txt.slice (Txt.lower y) (some 1) none).length ≤ 1000
  a6 : noDD (Txt.lower x).cps
  a7 : noDD (Txt.slice (Txt.lower y) (some 1) none).cps
structure RePre (x : Str) : Prop where
  a1 : x.length ≤ 1000
  a2 : (Txt.slice x (some (Txt.find x (Str.ofString ".") + 1)) none).length ≤ 1000
  a3 : noDD x.cps
structure RnPre (x : Str) : Prop where
  a1 : x.length ≤ 1000
  a2 : (Txt.slice x (some (Txt.find x (Str.ofString ".") + 1)) none).length ≤ 1000
  a3 : rxEnds x.cps
structure RuledPre (x d : Str) : Prop where
  p1 : RePre (Txt.slice (Txt.slice x none (some (-6))) (some (-3)) none)
  p2 : RnPre (Txt.slice x none (some (-6)) ++ Str.ofString ".7")
  p3 : RePre (Str.ofString "local")
  p4 : RePre (Txt.slice x none (some (-6)))
  m1 : DmPre x (Str.ofString "local")
  m2 : DmPre (Txt.slice d (some 1) none) d
  m3 : DmPre (Str.ofString "." ++ x) d
  m4 : DmPre x (Str.ofString ".")
  m5 : DmPre d (Txt.lower d)
  r1 : reachF (Txt.slice (Txt.slice x none (some (-6))) (some (-3)) none) = Txt.slice (Txt.slice x none (some (-6))) (some (-3)) none
  r3 : reachF (Str.ofString "local") = Str.ofString "local"
  r4 : reachF (Txt.slice x none (some (-6))) = Str.ofString "." ++ Txt.slice (Txt.slice x none (some (-6))) (some 2) none
  d1 : dmB x (Str.ofString "local") = false
  d2 : dmB (Txt.slice d (some 1) none) d = false
  d3 : dmB (Str.ofString "." ++ x) d = false
  d4 : dmB x (Str.ofString ".") = false
  d5 : dmB d (Txt.lower d) = true
theorem dm_ok' {w : World} {A : Around} {s : Shared} {Q E : Value → Shared → Prop} {x y : Str} {t1 t2 : Tok}
   (C : Cx w A s.heap) (hdp : A.depth < 960) (hu : A.units < 8900)
   (H : DmPre x y) (h : ∀ h' tk', Keep s.heap h' → Q (.bool (dmB x y)) { s with heap := h', toks := tk' }) :
   wpAny (model Challenge.rw_zo0018_01.row.prog w) A (call (.ref 50) [.str x t1, .str y t2]) Q E s := dm_ok C hdp hu H.a1 H.a2 H.a3 H.a4 H.a5 H.a6 H.a7 h
theorem reach_num' {w : World} {A : Around} {s : Shared} {Q E : Value → Shared → Prop} {x : Str} {t1 : Tok} 
   (C : Cx w A s.heap) (hdp : A.depth < 960) (hu : A.units < 8900)
   (H : RnPre x) (h : ∀ h' tk' t, Keep s.heap h' → Q (.str x t) { s with heap := h', toks := tk' }) :
   wpAny (model Challenge.rw_zo0018_01.row.prog w) A (call (.ref 57) [.str x t1]) Q E s := reach_num C hdp hu H.a1 H.a2 H.a3 fun t h' tk' k => h h' tk' t k
/-- with the value known -/
theorem reach_is {w : World} {A : Around} {s : Shared} {Q E : Value → Shared → Prop} {x y : Str} {t1 : Tok} 
   (C : Cx w A s.heap) (hdp : A.depth < 960) (hu : A.units < 8900)
   (H : RePre x) (e : reachF x = y) (h : ∀ t h' tk', Keep s.heap h' → Q (.str y t) { s with heap := h', toks := tk' }) :
   wpAny (model Challenge.rw_zo0018_01.row.prog w) A (call (.ref 57) [.str x t1]) Q E s := reach_ok C hdp hu H.a1 H.a2 H.a3 (e ▸ h)
theorem dm_is {w : World} {A : Around} {s : Shared} {Q E : Value → Shared → Prop} {x y : Str} {t1 t2 : Tok} {b : Bool}
   (C : Cx w A s.heap) (hdp : A.depth < 960) (hu : A.units < 8900)
   (H : DmPre x y) (e : dmB x y = b) (h : ∀ h' tk', Keep s.heap h' → Q (.bool b) { s with heap := h', toks := tk' }) :
   wpAny (model Challenge.rw_zo0018_01.row.prog w) A (call (.ref 50) [.str x t1, .str y t2]) Q E s := dm_ok' C hdp hu H (e ▸ h)
theorem ne_self {prog : Program} {w : World} {A : Around} {s : Shared} {Q E : Value → Shared → Prop} {x : Str} {t u : Tok} (h : Q (.bool false) s) : wpAny (model prog w) A (compareOp .NotEq (.str x t) (.str x u)) Q E s :=
  ne_str (by rw [show (x != x) = false from by simp]; exact h)
theorem eq_self {prog : Program} {w : World} {A : Around} {s : Shared} {Q E : Value → Shared → Prop} {x : Str} {t u : Tok} (h : Q (.bool true) s) : wpAny (model prog w) A (compareOp .Eq (.str x t) (.str x u)) Q E s :=
  eq_str (by rw [show (x == x) = true from by simp]; exact h)
theorem ruled_ok {w : World} {A : Around} {s : Shared} {Q E : Value → Shared → Prop}
   {x d : Str} {t1 t2 : Tok}
   (C : Cx w A s.heap) (hdp : A.depth < 920) (hu : A.units < 8700)
   (hx : x.length ≤ 1000) (hd : d.length ≤ 1000) (R : RuledPre x d)
   (h : ∀ h' tk', Keep s.heap h' → Q (.bool true) { s with heap := h', toks := tk' }) :
   wpAny (model Challenge.rw_zo0018_01.row.prog w) A (call (.ref 163) [.str x t1, .str d t2]) Q E s := by
  have KX := C.X
  have hh := C.hh
  revert KX; k_fill; intro KX
  obtain ⟨hd0, dp0, fr0, gd0, un0⟩ := A
  obtain rfl : hd0 = none := hh
  dsimp only at hdp hu
  refine wpAny_call ?_
  w_on
  k_dflt (refine' enter0 ?k1 ?k6 ?k7 ?k8 ?k9 ?kB ?_ ?c2 ?c3 ?c4 ?c5; (case k1 => exact C); (case k6 => k_is); (case k7 => k_is); (case k8 => (simp only [recursionLimit]; omega)); (case k9 => first | exact BindsTo.of_eq rfl | fail "no rule for these arguments"); (case c5 => decide); (case kB => exact locs rfl); (case c2 => exact rfl); (case c3 => exact rfl); (case c4 => exact rfl); k_whole; intro L' h' bse outer loose mean mg mb B' X' T' F' N'; clear C KX; (try dsimp only); (try k_fold))
  repeat' (first | (k_unfold; (try dsimp only)) | (k_end; wrow_close) | (dsimp only; (first | ((k_here; (with_reducible show wpAny _ _ (pyIter (Value.ref _)) (fun it s₂ => TurnsAt _ _ _ _ _ _ _ _ _ it s₂) _ _); ktu_seq)) | (with_reducible refine eq_self ?_) | (with_reducible refine ne_self ?_) | ((k_here; (with_reducible show wpAny _ _ (call (Value.ref 50) _) _ _ _); k_dflt ((with_reducible rename Fr _ _ _ _ => kF); (with_reducible rename News _ _ _ _ => kN); (with_reducible rename RuledPre _ _ => kR); (refine dm_is (Cx.push (by k_asm) kF (by k_asm) (by k_asm) rfl rfl rfl) (dlt (by with_reducible assumption) (by decide)) (ult (by with_reducible assumption) (by decide)) (by with_reducible first | exact kR.m1 | exact kR.m2 | exact kR.m3 | exact kR.m4 | exact kR.m5) (by with_reducible first | exact kR.d1 | exact kR.d2 | exact kR.d3 | exact kR.d4 | exact kR.d5) ?_); intro h' tk' hK'; have F' := Fr.keeps kF hK'; have N' := News.grown kN hK'; clear kF kN; (try dsimp only); (try k_fold)))) | ((k_here; (with_reducible show wpAny _ _ (call (Value.ref 57) _) _ _ _); k_dflt ((with_reducible rename Fr _ _ _ _ => kF); (with_reducible rename News _ _ _ _ => kN); (with_reducible rename RuledPre _ _ => kR); first | (refine reach_is (Cx.push (by k_asm) kF (by k_asm) (by k_asm) rfl rfl rfl) (dlt (by with_reducible assumption) (by decide)) (ult (by with_reducible assumption) (by decide)) (by with_reducible first | exact kR.p1 | exact kR.p3 | exact kR.p4) (by with_reducible first | exact kR.r1 | exact kR.r3 | exact kR.r4) ?_) | (refine reach_num (Cx.push (by k_asm) kF (by k_asm) (by k_asm) rfl rfl rfl) (dlt (by with_reducible assumption) (by decide)) (ult (by with_reducible assumption) (by decide)) (RnPre.a1 kR.p2) (RnPre.a2 kR.p2) (RnPre.a3 kR.p2) ?_)); intro t' h' tk' hK'; have F' := Fr.keeps kF hK'; have N' := News.grown kN hK'; clear kF kN; (try dsimp only); (try k_fold))) | walk1)) | ((first | ((k_here; (with_reducible show wpAny _ _ (pyIter (Value.ref _)) (fun it s₂ => TurnsAt _ _ _ _ _ _ _ _ _ it s₂) _ _); ktu_seq)) | (with_reducible refine eq_self ?_) | (with_reducible refine ne_self ?_) | ((k_here; (with_reducible show wpAny _ _ (call (Value.ref 50) _) _ _ _); k_dflt ((with_reducible rename Fr _ _ _ _ => kF); (with_reducible rename News _ _ _ _ => kN); (with_reducible rename RuledPre _ _ => kR); (refine dm_is (Cx.push (by k_asm) kF (by k_asm) (by k_asm) rfl rfl rfl) (dlt (by with_reducible assumption) (by decide)) (ult (by with_reducible assumption) (by decide)) (by with_reducible first | exact kR.m1 | exact kR.m2 | exact kR.m3 | exact kR.m4 | exact kR.m5) (by with_reducible first | exact kR.d1 | exact kR.d2 | exact kR.d3 | exact kR.d4 | exact kR.d5) ?_); intro h' tk' hK'; have F' := Fr.keeps kF hK'; have N' := News.grown kN hK'; clear kF kN; (try dsimp only); (try k_fold)))) | ((k_here; (with_reducible show wpAny _ _ (call (Value.ref 57) _) _ _ _); k_dflt ((with_reducible rename Fr _ _ _ _ => kF); (with_reducible rename News _ _ _ _ => kN); (with_reducible rename RuledPre _ _ => kR); first | (refine reach_is (Cx.push (by k_asm) kF (by k_asm) (by k_asm) rfl rfl rfl) (dlt (by with_reducible assumption) (by decide)) (ult (by with_reducible assumption) (by decide)) (by with_reducible first | exact kR.p1 | exact kR.p3 | exact kR.p4) (by with_reducible first | exact kR.r1 | exact kR.r3 | exact kR.r4) ?_) | (refine reach_num (Cx.push (by k_asm) kF (by k_asm) (by k_asm) rfl rfl rfl) (dlt (by with_reducible assumption) (by decide)) (ult (by with_reducible assumption) (by decide)) (RnPre.a1 kR.p2) (RnPre.a2 kR.p2) (RnPre.a3 kR.p2) ?_)); intro t' h' tk' hK'; have F' := Fr.keeps kF hK'; have N' := News.grown kN hK'; clear kF kN; (try dsimp only); (try k_fold))) | walk1)) | (k_end; dsimp only; k_unfold; (try dsimp only)))
  refine retB h ?_ (Fr.keep (by k_asm))
  rfl
end
section
open PySem PySem.W PyProof.Rows PySem.Calls
set_option maxRecDepth 100000
set_option maxHeartbeats 8000000

noncomputable def waysF (m : Int) : Nat → Int
  | 0 => 1
  | k + 1 => Int.fdiv (waysF m k * (m - (k : Int))) ((k : Int) + 1)
theorem ways_ok {w : World} {A : Around} {s : Shared} {Q E : Value → Shared → Prop}
   {a : Int} {t1 t2 : Tok} {n : Nat}
   (C : Cx w A s.heap) (hdp : A.depth < 940) (hu : A.units < 8800)
   (hn : n ≤ 6) (ha : -10 ≤ a ∧ a ≤ 10)
   (h : ∀ t h' tk', Keep s.heap h' → Q (.int (waysF a n) t) { s with heap := h', toks := tk' }) :
   wpAny (model Challenge.rw_zo0018_01.row.prog w) A (call (.ref 144) [.int a t1, .int (n : Int) t2]) Q E s := by
  have KX := C.X
  have hh := C.hh
  revert KX; k_fill; intro KX
  obtain ⟨hd0, dp0, fr0, gd0, un0⟩ := A
  obtain rfl : hd0 = none := hh
  dsimp only at hdp hu
  refine wpAny_call ?_
  w_on
  k_dflt (refine' enter0 ?k1 ?k6 ?k7 ?k8 ?k9 ?kB ?_ ?c2 ?c3 ?c4 ?c5; (case k1 => exact C); (case k6 => k_is); (case k7 => k_is); (case k8 => (simp only [recursionLimit]; omega)); (case k9 => first | exact BindsTo.of_eq rfl | fail "no rule for these arguments"); (case c5 => decide); (case kB => exact locs rfl); (case c2 => exact rfl); (case c3 => exact rfl); (case c4 => exact rfl); k_whole; intro L' h' bse outer loose mean mg mb B' X' T' F' N'; clear C KX; (try dsimp only); (try k_fold))
  repeat' (first | (k_unfold; (try dsimp only)) | (k_end; wrow_close) | ((fail_if_success (with_reducible show wpAny _ _ (pyIter _) _ _ _)); dsimp only; walk1) | ((fail_if_success (with_reducible show wpAny _ _ (pyIter _) _ _ _)); walk1) | (k_end; dsimp only; k_unfold; (try dsimp only)))
  have hsz : Builtin.Range.rangeSize 0 (n : Int) 1 = (n : Int) := range_size n
  have hsm : Builtin.Range.small 0 (n : Int) 1 = true := range_small n (by omega)
  refine kst_range (σ := Int × Tok) (n := n) (fun _ => []) (fun c => [(Str.ofString "ways", .int c.1 c.2)]) (fun _ => True) [] (fun pre c => c.1 = waysF a pre.length) (1, _) rfl (by k_asm) hsm hsz (by k_asm) (by k_asm) trivial (by kst_all) rfl ?turn ?done
  case done => 
    rintro ⟨v, tv⟩ u h2 tk2 - hp F2 N2
    dsimp only [kstB] at F2 hp
    rw [rangeKs_length] at hp
    repeat' (first | (k_unfold; (try dsimp only)) | (k_end; wrow_close) | (dsimp only; walk1) | (walk1) | (k_end; dsimp only; k_unfold; (try dsimp only)))
    subst hp
    exact h _ _ _ (Fr.keep (by k_asm))
  case turn =>
    rintro ⟨v, tv⟩ pre k t u h2 tk2 own hk hlt hoff - hp F2 N2
    dsimp only [kstB] at F2 hp
    repeat' (first | (k_unfold; (try dsimp only)) | (k_end; wrow_close) | (dsimp only; walk1) | (walk1) | (k_end; dsimp only; k_unfold; (try dsimp only)))
    refine kst_end (Int.fdiv (v * (a - k)) (k + 1), _) (by k_asm) (by k_asm) (by intro p hp; exact List.mem_append_left _ hp) (by intro p hp; exact List.mem_append_right _ hp) rfl trivial (by kst_all) (by intro z h1 h2 h3; simp only [List.forall_mem_cons, List.not_mem_nil, false_implies, implies_true, and_true, ne_eq] at h2; simp [h1, h2]) ?_
    rw [List.length_append, List.length_singleton]
    have e : k = (pre.length : Int) := by omega
    show _ = Int.fdiv (waysF a pre.length * (a - (pre.length : Int))) ((pre.length : Int) + 1)
    rw [← hp, e]
theorem waysF_bound : ∀ i : Fin 21, ∀ j : Fin 7, -(1000000 : Int) ≤ waysF ((i.val : Int) - 10) j.val ∧ waysF ((i.val : Int) - 10) j.val ≤ 1000000 := by decide +kernel
theorem waysF_mul {a c : Int} {n : Nat} (ha : -10 ≤ a ∧ a ≤ 10) (hn : n ≤ 6) : IntMulOk (waysF a n) c := by
  have hq := waysF_bound ⟨(a + 10).toNat, by omega⟩ ⟨n, by omega⟩
  have ea : (((a + 10).toNat : Nat) : Int) - 10 = a := by omega
  dsimp only at hq
  rw [ea] at hq
  exact IntMulOk.of_left (intBits_le_64 (by omega) (by omega))
theorem sign_or (n : Nat) : ((-1 : Int) ^ n = 1) ∨ ((-1 : Int) ^ n = -1) := by
  induction n with
  | zero => exact .inl rfl
  | succ n ih => rw [Int.pow_succ]; rcases ih with e | e <;> rw [e] <;> simp
theorem waysF_le {a : Int} {n : Nat} (ha : -10 ≤ a ∧ a ≤ 10) (hn : n ≤ 6) : -(1000000 : Int) ≤ waysF a n ∧ waysF a n ≤ 1000000 := by
  have hq := waysF_bound ⟨(a + 10).toNat, by omega⟩ ⟨n, by omega⟩
  have ea : (((a + 10).toNat : Nat) : Int) - 10 = a := by omega
  dsimp only at hq
  rw [ea] at hq
  exact hq
theorem waysF_mulR {a c : Int} {n : Nat} (ha : -10 ≤ a ∧ a ≤ 10) (hn : n ≤ 6) : IntMulOk c (waysF a n) := by
  have := waysF_le ha hn
  exact IntMulOk.of_right (intBits_le_64 (by omega) (by omega))
theorem signF_mul {a c : Int} {n k : Nat} (ha : -10 ≤ a ∧ a ≤ 10) (hn : n ≤ 6) : IntMulOk ((-1) ^ k * waysF a n) c := by
  have := waysF_le ha hn
  refine IntMulOk.of_left (intBits_le_64 ?_ ?_) <;> rcases sign_or k with e | e <;> rw [e] <;> omega
theorem ways_int {w : World} {A : Around} {s : Shared} {Q E : Value → Shared → Prop}
   {a b : Int} {t1 t2 : Tok}
   (C : Cx w A s.heap) (hdp : A.depth < 940) (hu : A.units < 8800)
   (hb : 0 ≤ b ∧ b ≤ 6) (ha : -10 ≤ a ∧ a ≤ 10)
   (h : ∀ t h' tk', Keep s.heap h' → Q (.int (waysF a b.toNat) t) { s with heap := h', toks := tk' }) :
   wpAny (model Challenge.rw_zo0018_01.row.prog w) A (call (.ref 144) [.int a t1, .int b t2]) Q E s := by
  have e : b = (b.toNat : Int) := by omega
  rw [e]
  exact ways_ok C hdp hu (by omega) ha h
end
section
open PySem PySem.W PyProof.Rows PySem.Calls PySem.Spec
set_option maxRecDepth 100000
open LCg
section
variable {prog : Program} {w : World} {A : Around} {E : Value → Shared → Prop} {s : Shared} {h₀ : Heap} {L : Addr} {m : Str → Option Value} {env : Env}

theorem newEnv_cell {scope : Scope} {cl : List (Str × Addr)} {x : Str} {Q : Env → Shared → Prop}
    (hc : ∀ n, cellsFrom n scope.names cl = (x, n) :: cl) (hp : ∀ h, pushCells h scope.names = h.push { cls := .type "cell", data := .cell none })
    (hQ : ∀ cenv, cenv.locals = s.heap.objs.size → { cenv with scope := relabel scope env } = compEnvC scope ((x, s.heap.objs.size + 1) :: cl) s.heap.objs.size env →
      Q cenv { s with heap := (s.heap.push { cls := .type "dict", data := .dict #[] }).push { cls := .type "cell", data := .cell none } }) :
    wpAny (model prog w) A (newFunctionEnv scope env.globals cl [] env.qual none .none (some env)) Q E s := by
  simp only [newFunctionEnv, Option.isSome_some, if_true]
  refine wpAny_bind (wpAny_alloc ?_)
  refine wpAny_bind (wpAny_layCells _ (fun name kind cells => by cases hkc : kind == NameKind.cell <;> simp [hkc]) _ _ _ _ ?_)
  rw [hc, hp]
  refine wpAny_bind (wpAny_pure ?_)
  refine wpAny_pure (hQ _ rfl ?_)
  show ({ scope := relabel scope env, locals := _, globals := _, cells := _, qual := _, func := _, code := _, frame := _, builtins := _ } : Env) = compEnvC _ _ _ _
  rw [show ({ s with heap := s.heap.push { cls := .type "dict", data := .dict #[] } } : Shared).heap.objs.size = s.heap.objs.size + 1 from Heap.size_push ..]
  rfl

theorem block_Z {elt iter : Expr} {x : Str} {px : Pos} {scope : Scope} {cl : List (Str × Addr)} {pos : Pos} {s₂ : Shared} {I : Addr} {n : Nat} {a : Int} {news : List (Addr × Obj)} {RR : Value → Addr → Result → Shared → Prop}
    (hh : A.handled = none) (hsz : n ≤ sizeLine) (hc : ∀ k, cellsFrom k scope.names cl = (x, k) :: cl) (hp : ∀ h, pushCells h scope.names = h.push { cls := .type "cell", data := .cell none })
    (hkind : scope.kind = .function) (hx : ∀ Z C, (compEnvC scope ((x, Z) :: cl) C env).kindOf x = some .cell) (hst : IsRangeIter s₂.heap I (a + (0 : Nat) * 1) ((n : Int) - (0 : Nat)) 1)
    (F : Fr h₀ L s₂.heap m) (N : News h₀ L s₂.heap news) (hIL : L ≠ I) (hI₀ : h₀.get? I = none) (off : ∀ p ∈ news, p.1 ≠ I) (J : Nat → List Value → Prop) (h0 : J 0 [])
    (step : ∀ i ys C Z D oI oC oZ h tk t (E' : Value → Shared → Prop), i < n → J i ys → oZ.data = .cell (some (.int (a + (i : Int)) t)) → Fr h₀ L h m → News h₀ L h ((I, oI) :: (C, oC) :: (Z, oZ) :: (D, lst ys) :: news) →
      wpAny (model prog w) A (eval elt (compEnvC scope ((x, Z) :: cl) C env)) (fun y s₃ => ∃ h' tk', s₃ = { s₂ with heap := h', toks := tk' } ∧ Fr h₀ L h' m ∧ News h₀ L h' ((I, oI) :: (C, oC) :: (Z, oZ) :: (D, lst ys) :: news) ∧ J (i + 1) (ys ++ [y])) E' { s₂ with heap := h, toks := tk })
    (hRR : ∀ D C h tk m' ys, Fr h₀ L h m → News h₀ L h ((D, lst ys) :: news) → h.Ns C m' → h₀.get? C = none → C ≠ L → C ≠ D → (∀ p ∈ news, p.1 ≠ C) → J n ys → RR (.ref D) C (.ok .next) { s₂ with heap := h, toks := tk }) :
    wpAny (model prog w) A (newList []) (fun acc s₃ => wpAny (model prog w) A (newFunctionEnv scope env.globals cl [] env.qual none .none (some env)) (fun cenv s₄ =>
      codeAny (model prog w) A (.compStart (.ListComp elt [⟨.Name x px, iter, [], 0⟩] scope pos) 0 (.ref I) acc { cenv with scope := relabel scope env }) (RR acc cenv.locals) s₄) E s₃) E s₂ := by
  refine wpAny_newObj_type (newEnv_cell hc hp fun cenv hcl hce => ?_)
  rw [hce, hcl]
  dsimp only
  generalize hH2 : s₂.heap.push { cls := .type "list", dict := none, data := .seq ([] : List Value).toArray } = H2
  generalize hH4 : (H2.push { cls := .type "dict", data := .dict #[] }).push { cls := .type "cell", data := .cell none } = H4
  have sC : H2.objs.size = s₂.heap.objs.size + 1 := by rw [← hH2, Heap.size_push]
  have hIlt : I < s₂.heap.objs.size := Heap.lt_size hst
  have up2 : ∀ b o, s₂.heap.get? b = some o → H2.get? b = some o := fun b o e => hH2 ▸ Heap.get?_push_of_some _ e
  have up4 : ∀ b o, H2.get? b = some o → H4.get? b = some o := fun b o e => hH4 ▸ Heap.get?_push_of_some _ (Heap.get?_push_of_some _ e)
  have old : ∀ b o, s₂.heap.get? b = some o → H4.get? b = some o := fun b o e => up4 b o (up2 b o e)
  have gD : H4.get? s₂.heap.objs.size = some (lst []) := up4 _ _ (hH2 ▸ Heap.get?_push_size _ rfl)
  have gC : H4.get? H2.objs.size = some { cls := .type "dict", data := .dict #[] } := by rw [← hH4]; exact Heap.get?_push_of_some _ (Heap.get?_push_size _ rfl)
  have gZ : H4.get? (H2.objs.size + 1) = some { cls := .type "cell", data := .cell none } := by
    rw [← hH4, show H2.objs.size + 1 = (H2.push { cls := .type "dict", data := .dict #[] }).objs.size from (Heap.size_push ..).symm]
    exact Heap.get?_push_size _ rfl
  generalize hD : s₂.heap.objs.size = D at *
  generalize hC : H2.objs.size = C at *
  have hLlt : @LT.lt Nat _ L D := hD ▸ F.ns.lt
  have hIlt : @LT.lt Nat _ I D := hIlt
  have fresh₀ : ∀ b, D ≤ b → h₀.get? b = none := fun b hb => by
    cases e : h₀.get? b with
    | none => rfl
    | some o => exact absurd (Nat.lt_of_lt_of_le (hD ▸ Heap.lt_size (F.keep b o e)) hb) (Nat.lt_irrefl _)
  have nlt : ∀ p ∈ news, @LT.lt Nat _ p.1 D := fun p hp => hD ▸ Heap.lt_size (N p hp).1
  have cns : ∀ h : Heap, h.get? C = some { cls := .type "dict", data := .dict #[] } → h.Ns C (fun _ => none) := fun h e => (Heap.Ns.at' (by rw [← hC]; exact Heap.Ns.new H2 (.type "dict")) fun o e' => by
    have z : (H2.push { cls := .type "dict", data := .dict #[] }).get? C = some { cls := .type "dict", data := .dict #[] } := by rw [← hC]; exact Heap.get?_push_size _ rfl
    rw [z] at e'; rw [e]; exact e')
  have W := range_walks (prog := prog) (w := w) (I := I) hh a n
  have loop : codeAny (model prog w) A (.compLoop (.ListComp elt [⟨.Name x px, iter, [], 0⟩] scope pos) 0 (.ref I) (.ref D) (compEnvC scope ((x, C + 1) :: cl) C env)) (RR (.ref D) C) { s₂ with heap := H4 } := by
    refine codeAny_compLoop_tests
      (fun k s' => ∃ h' tk i ys oZ, s' = { s₂ with heap := h', toks := tk } ∧ i ≤ n ∧ k = n + 1 - i ∧ ys.length = i ∧ IsRangeIter h' I (a + (i : Nat) * 1) ((n : Int) - (i : Nat)) 1 ∧ Fr h₀ L h' m ∧ News h₀ L h' ((C, { cls := .type "dict", data := .dict #[] }) :: (C + 1, oZ) :: (D, lst ys) :: news) ∧ (∃ v, oZ.data = .cell v) ∧ J i ys) ?_ (n + 1)
      ⟨H4, _, 0, [], { cls := .type "cell", data := .cell none }, rfl, Nat.zero_le _, rfl, rfl, old _ _ hst, F.keeps old, fun p hp => ?_, ⟨_, rfl⟩, h0⟩
    · rintro k s' ⟨h', tk, i, ys, oZ, rfl, hi, rfl, hyl, hst', F', N', ⟨vZ, hvZ⟩, hJ⟩
      have N0 : ∀ h₂ : Heap, (∀ b o, b ∉ [I] → h'.get? b = some o → h₂.get? b = some o) → News h₀ L h₂ ((C, { cls := .type "dict", data := .dict #[] }) :: (C + 1, oZ) :: (D, lst ys) :: news) := fun h₂ hk₂ => news_but N' hk₂ fun p hp => by
        rcases List.mem_cons.mp hp with rfl | hp
        · k_ne
        rcases List.mem_cons.mp hp with rfl | hp
        · k_ne
        rcases List.mem_cons.mp hp with rfl | hp
        · k_ne
        · exact off p hp
      by_cases hlt : i < n
      · refine W.item i _ _ _ hlt hst' fun v h₂ tk₂ hPv hst₂ hk₂ => ?_
        obtain ⟨t, rfl⟩ := hPv
        have N₂ := N0 h₂ hk₂
        have F₂ := fr_but F' hk₂ hIL hI₀
        have gZ₂ := (N₂ (C + 1, oZ) (List.mem_cons_of_mem _ List.mem_cons_self)).1
        refine wpAny_assign_Name (wpAny_storeName_cell (v₀ := vZ) hkind (hx _ _) (by simp [compEnvC]) ⟨oZ, gZ₂, hvZ⟩ fun h₃ hZ₃ hs₃ => ?_)
        refine wpAny_tests_nil ?_
        simp only [if_true]
        obtain ⟨oZ', gZ₃, hdZ₃⟩ := hZ₃
        have F₃ : Fr h₀ L h₃ m := F₂.change hs₃ (by k_ne) (fresh₀ _ (by omega))
        have e₃ : ∀ b o, b ≠ C + 1 → h₂.get? b = some o → h₃.get? b = some o := fun b o hb e => hs₃.extBut b o hb e
        have gI₃ : h₃.get? I = some _ := e₃ I _ (by k_ne) hst₂
        have N₃ : News h₀ L h₃ ((I, _) :: (C, { cls := .type "dict", data := .dict #[] }) :: (C + 1, oZ') :: (D, lst ys) :: news) := fun p hp => by
          rcases List.mem_cons.mp hp with rfl | hp
          · exact ⟨gI₃, Ne.symm hIL, hI₀⟩
          rcases List.mem_cons.mp hp with rfl | hp
          · have z := N₂ _ List.mem_cons_self
            exact ⟨e₃ _ _ (by k_ne) z.1, z.2⟩
          rcases List.mem_cons.mp hp with rfl | hp
          · exact ⟨gZ₃, by k_ne, fresh₀ _ (by dsimp only; omega)⟩
          · have z := N₂ p (List.mem_cons_of_mem _ (List.mem_cons_of_mem _ hp))
            refine ⟨e₃ _ _ ?_ z.1, z.2⟩
            rcases List.mem_cons.mp hp with rfl | hp
            · k_ne
            · have := nlt p hp; k_ne
        refine wpAny_mono (step i ys C (C + 1) D _ _ oZ' h₃ _ t _ hlt hJ hdZ₃ F₃ N₃) (fun y s₄ h₄ => ?_) fun _ _ e => e
        obtain ⟨h₄, tk₄, rfl, F₄, N₄, hJ₄⟩ := h₄
        have zD := (N₄ (D, lst ys) (List.mem_cons_of_mem _ (List.mem_cons_of_mem _ (List.mem_cons_of_mem _ List.mem_cons_self)))).1
        refine append_at (hsz := by show ys.toArray.size ≤ sizeLine; rw [List.size_toArray, hyl]; exact Nat.le_trans hi hsz) zD fun h₅ hs₅ hD₅ => ?_
        have e₅ : ∀ b o, b ≠ D → h₄.get? b = some o → h₅.get? b = some o := fun b o hb e => hs₅.extBut b o hb e
        refine ⟨n + 1 - (i + 1), by omega, h₅, tk₄, i + 1, ys ++ [y], oZ', rfl, hlt, rfl, by rw [List.length_append, List.length_singleton, hyl], ?_, F₄.change hs₅ (by k_ne) (fresh₀ _ (by omega)), fun p hp => ?_, ⟨_, hdZ₃⟩, hJ₄⟩
        · exact e₅ I _ (by k_ne) (N₄ _ List.mem_cons_self).1
        · rcases List.mem_cons.mp hp with rfl | hp
          · have z := N₄ _ (List.mem_cons_of_mem _ List.mem_cons_self)
            exact ⟨e₅ _ _ (by k_ne) z.1, z.2⟩
          rcases List.mem_cons.mp hp with rfl | hp
          · have z := N₄ _ (List.mem_cons_of_mem _ (List.mem_cons_of_mem _ List.mem_cons_self))
            exact ⟨e₅ _ _ (by k_ne) z.1, z.2⟩
          rcases List.mem_cons.mp hp with rfl | hp
          · exact ⟨hD₅.trans (congrArg some (lst_snoc ys y)), by k_ne, fresh₀ _ (by dsimp only; omega)⟩
          · have z := N₄ p (List.mem_cons_of_mem _ (List.mem_cons_of_mem _ (List.mem_cons_of_mem _ (List.mem_cons_of_mem _ hp))))
            have := nlt p hp
            exact ⟨e₅ _ _ (by k_ne) z.1, z.2⟩
      · obtain rfl : i = n := Nat.le_antisymm hi (Nat.not_lt.mp hlt)
        refine W.done _ _ _ hst' fun h₂ tk₂ hk₂ => ?_
        have N₂ := N0 h₂ hk₂
        refine hRR D C h₂ tk₂ _ ys (fr_but F' hk₂ hIL hI₀) (fun p hp => N₂ p (List.mem_cons_of_mem _ (List.mem_cons_of_mem _ hp))) (cns h₂ (N₂ _ List.mem_cons_self).1) (fresh₀ _ (by omega)) (by k_ne) (by k_ne) (fun p hp => ?_) hJ
        have := nlt p hp; k_ne
    · rcases List.mem_cons.mp hp with rfl | hp
      · exact ⟨gC, by k_ne, fresh₀ _ (by dsimp only; omega)⟩
      rcases List.mem_cons.mp hp with rfl | hp
      · exact ⟨gZ, by k_ne, fresh₀ _ (by dsimp only; omega)⟩
      rcases List.mem_cons.mp hp with rfl | hp
      · exact ⟨gD, by k_ne, fresh₀ _ (by dsimp only; lia)⟩
      · exact ⟨old _ _ (N p hp).1, (N p hp).2⟩
  exact codeAny_compStart_list loop (W.self 0 _ _ _ (old _ _ hst) loop)

noncomputable def ZSrc (prog : Program) (w : World) (A : Around) (h₀ : Heap) (L : Addr) (m : Str → Option Value) (env : Env) (elt : Expr) (x : Str) (scope : Scope) (cl : List (Str × Addr)) (Q : Value → Shared → Prop) (xv : Value) (s₁ : Shared) : Prop :=
  ∃ r a b t u v n news, xv = .ref r ∧ A.handled = none ∧ Fr h₀ L s₁.heap m ∧ News h₀ L s₁.heap news ∧ IsRange s₁.heap r a b 1 t u v ∧ Builtin.Range.small a b 1 = true ∧ Builtin.Range.rangeSize a b 1 = ((n : Nat) : Int) ∧ n ≤ sizeLine ∧
      ∃ J : Nat → List Value → Prop, J 0 [] ∧
        (∀ g i ys I C Z D oI oC oZ h tk t (E' : Value → Shared → Prop), i < n → J i ys → oZ.data = .cell (some (.int (a + (i : Int)) t)) → Fr h₀ L h m → News h₀ L h ((I, oI) :: (C, oC) :: (Z, oZ) :: (D, lst ys) :: news) →
          wpAny (model prog w) A (eval elt (compEnvC scope ((x, Z) :: cl) C env)) (fun y s₃ => ∃ h' tk', s₃ = { s₁ with heap := h', toks := tk' } ∧ Fr h₀ L h' m ∧ News h₀ L h' ((I, oI) :: (C, oC) :: (Z, oZ) :: (D, lst ys) :: news) ∧ J (i + 1) (ys ++ [y])) E' { { s₁ with heap := g } with heap := h, toks := tk }) ∧
        ∀ ys D h tk, J n ys → Fr h₀ L h m → News h₀ L h ((D, lst ys) :: news) → Q (.ref D) { s₁ with heap := h, toks := tk }
/-- the end of an element -/
noncomputable def ZEnd (h₀ : Heap) (L : Addr) (m : Str → Option Value) (led : List (Addr × Obj)) (s₁ : Shared) (Jn : Value → Prop) (y : Value) (s₃ : Shared) : Prop :=
  ∃ h' tk', s₃ = { s₁ with heap := h', toks := tk' } ∧ Fr h₀ L h' m ∧ News h₀ L h' led ∧ Jn y
theorem ZSrc.intro {elt : Expr} {x : Str} {scope : Scope} {cl : List (Str × Addr)} {Q : Value → Shared → Prop} {r : Addr} {a b : Int} {t u v : Tok} {n : Nat} {news : List (Addr × Obj)} {s₁ : Shared} (hh : A.handled = none) (F : Fr h₀ L s₁.heap m) (N : News h₀ L s₁.heap news)
    (hr : IsRange s₁.heap r a b 1 t u v) (hsm : Builtin.Range.small a b 1 = true) (hn : Builtin.Range.rangeSize a b 1 = ((n : Nat) : Int)) (hz : n ≤ sizeLine) (J : Nat → List Value → Prop) (h0 : J 0 [])
    (step : ∀ i ys I C Z D oI oC oZ h tk t (E' : Value → Shared → Prop), i < n → J i ys → oZ.data = .cell (some (.int (a + (i : Int)) t)) → Fr h₀ L h m → News h₀ L h ((I, oI) :: (C, oC) :: (Z, oZ) :: (D, lst ys) :: news) →
          wpAny (model prog w) A (eval elt (compEnvC scope ((x, Z) :: cl) C env)) (ZEnd h₀ L m ((I, oI) :: (C, oC) :: (Z, oZ) :: (D, lst ys) :: news) s₁ (fun y => J (i + 1) (ys ++ [y]))) E' { s₁ with heap := h, toks := tk })
    (fin : ∀ ys D h tk, J n ys → Fr h₀ L h m → News h₀ L h ((D, lst ys) :: news) → Q (.ref D) { s₁ with heap := h, toks := tk }) : ZSrc prog w A h₀ L m env elt x scope cl Q (.ref r) s₁ :=
  ⟨r, a, b, t, u, v, n, news, rfl, hh, F, N, hr, hsm, hn, hz, J, h0, fun _ => step, fin⟩

theorem ListComp_Z {elt iter : Expr} {x : Str} {px : Pos} {scope : Scope} {cl : List (Str × Addr)} {pos : Pos} {Q : Value → Shared → Prop} (_F₀ : Fr h₀ L s.heap m)
    (hclos : closureFor scope env = pure cl) (hc : ∀ k, cellsFrom k scope.names cl = (x, k) :: cl) (hp : ∀ h, pushCells h scope.names = h.push { cls := .type "cell", data := .cell none })
    (hkind : scope.kind = .function) (hx : ∀ Z C, (compEnvC scope ((x, Z) :: cl) C env).kindOf x = some .cell)
    (hnames : ∀ y ∈ scope.names, y.2 = .local → scope.names.lookup y.1 = some .local)
    (h : wpAny (model prog w) A (eval iter env) (ZSrc prog w A h₀ L m env elt x scope cl Q) E s)
    (hs : ∀ x, foldedSetIterable iter env x = pure x := by intro _; rfl) :
    wpAny (model prog w) A (eval (.ListComp elt [⟨.Name x px, iter, [], 0⟩] scope pos) env) Q E s := by
  rw [eval_ListComp]
  refine wpAny_comprehension_free (use := none) rfl hs hclos hkind hnames (wpAny_mono h (fun xv s₁ h₁ => ?_) fun _ _ e => e)
  obtain ⟨r, a, b, t, u, v, n, news, rfl, hh, F, N, hr, hsm, hn, hsz, J, h0, step, fin⟩ := h₁
  refine wpAny_pyIter_range hr hsm ?_
  refine block_Z (a := a) (n := n) hh hsz hc hp hkind hx (by show IsRangeIter _ _ _ _ _; rw [hn]; simpa using Heap.get?_push_size _ rfl)
    (F.keeps fun _ _ e => Heap.get?_push_of_some _ e) (N.grown fun _ _ e => Heap.get?_push_of_some _ e) (Nat.ne_of_lt F.ns.lt) (next_is_new F) (fun p hp => Nat.ne_of_lt (Heap.lt_size (N p hp).1)) J h0
    (fun i ys C Z D oI oC oZ h tk t E' hi hJ hZ F' N' => step _ i ys _ C Z D oI oC oZ h tk t E' hi hJ hZ F' N') ?_
  intro D C h' tk m' ys F' N' hn' hC₀ hCL hCD offC hJ
  refine ⟨m', hn', fun h'' hs'' => fin ys D h'' tk hJ (F'.change hs'' hCL hC₀) (fun p hp => ?_)⟩
  refine ⟨hs''.extBut _ _ ?_ (N' p hp).1, (N' p hp).2⟩
  rcases List.mem_cons.mp hp with rfl | hp
  · exact Ne.symm hCD
  · exact offC p hp
end
end
section
local macro_rules | `(tactic| omega) => `(tactic| first | lia | omega (config := {}))
open PySem PySem.W PyProof.Rows PySem.Calls
set_option maxRecDepth 100000
set_option maxHeartbeats 8000000

noncomputable def lackF (ks ss : List Int) (j : Nat) : Int := ss.getD j 0 - ((rangeKs 0 ks.length).map fun i => waysF i j * ks.getD i.toNat 0).sum
noncomputable def partF (ks ss : List Int) (low : Int) (i : Nat) : Int := ((rangeKs 0 (i + 1)).map fun k => (-1) ^ ((i : Int) - k).toNat * waysF (low - 1 + (i : Int) - k) ((i : Int) - k).toNat * (((List.range ss.length).map (lackF ks ss)).getD k.toNat 0)).sum
noncomputable def openF (ks ss : List Int) (low base : Int) (i : Nat) : Int := (((rangeKs (i : Int) (ss.length - i)).map fun k => (-1) ^ (k - (i : Int)).toNat * waysF k i * (((List.range ss.length).map (partF ks ss low)).getD k.toNat 0)).sum).fmod base
theorem z1 {k b : Int} (lo : b ≤ k) : 0 ≤ k - b := by omega
theorem z2 {k : Int} {n i : Nat} (hi : k < 0 + (i : Int) + ((((n : Int) - (0 + (i : Int))).toNat : Nat) : Int)) (hs : n ≤ 4) : k - (0 + (i : Int)) ≤ 1000000 := by omega
theorem z3 {i n : Nat} (h : i < n) (hs : n ≤ 4) : 0 ≤ 0 + (i : Int) ∧ 0 + (i : Int) ≤ 6 := by omega
theorem z4 {k : Int} {n i : Nat} (lo : 0 + (i : Int) ≤ k) (hi : k < 0 + (i : Int) + ((((n : Int) - (0 + (i : Int))).toNat : Nat) : Int)) (h : i < n) (hs : n ≤ 4) : -10 ≤ k ∧ k ≤ 10 := by omega
theorem z5 {i n : Nat} (h : i < n) (hs : n ≤ 4) : (0 + (i : Int)).toNat ≤ 6 := by omega
theorem z6 {k : Int} {i : Nat} (lo : 0 + (i : Int) ≤ k) : 0 ≤ k := by omega
theorem z7 {k : Int} {n i : Nat} {f : Nat → Int} (hi : k < 0 + (i : Int) + ((((n : Int) - (0 + (i : Int))).toNat : Nat) : Int)) (h : i < n) : k < (((List.range n).map f).length : Int) := by rw [List.length_map, List.length_range]; omega
theorem z8 {k : Int} {n i : Nat} (hi : k < 0 + (i : Int) + ((((n : Int) - (0 + (i : Int))).toNat : Nat) : Int)) (h : i < n) (hs : n ≤ 4) : k < 2 ^ 63 := by omega
theorem a1 {k : Int} {n : Nat} (h0 : 0 ≤ k) (h : k < 0 + ((((n : Int) - 0).toNat : Nat) : Int)) (hn : n ≤ 6) : -10 ≤ k ∧ k ≤ 10 := by omega
theorem a2 {k : Int} {n : Nat} (h : k < 0 + ((((n : Int) - 0).toNat : Nat) : Int)) : k < (n : Int) := by omega
theorem a3 {k : Int} {n : Nat} (h : k < 0 + ((((n : Int) - 0).toNat : Nat) : Int)) (hn : n ≤ 6) : k < 2 ^ 63 := by omega
theorem b1 {k : Int} {i n : Nat} (h0 : 0 ≤ k) (h : k < 0 + (((0 + (i : Int) + 1 - 0).toNat : Nat) : Int)) (hi : i < n) (hn : n ≤ 4) : 0 ≤ 0 + (i : Int) - k ∧ 0 + (i : Int) - k ≤ 6 := by omega
theorem b2 {k low : Int} {i n : Nat} (h0 : 0 ≤ k) (h : k < 0 + (((0 + (i : Int) + 1 - 0).toNat : Nat) : Int)) (hi : i < n) (hn : n ≤ 4) (hl : 0 ≤ low ∧ low ≤ 4) : -10 ≤ low - 1 + (0 + (i : Int)) - k ∧ low - 1 + (0 + (i : Int)) - k ≤ 10 := by omega
theorem b3 {k : Int} {i n : Nat} (h : k < 0 + (((0 + (i : Int) + 1 - 0).toNat : Nat) : Int)) (hi : i < n) (hn : n ≤ 4) : k < 2 ^ 63 := by omega
theorem b4 {k : Int} {i : Nat} (h : k < 0 + (((0 + (i : Int) + 1 - 0).toNat : Nat) : Int)) : 0 ≤ 0 + (i : Int) - k := by omega
theorem b5 {k : Int} {i n : Nat} {f : Nat → Int} (h : k < 0 + (((0 + (i : Int) + 1 - 0).toNat : Nat) : Int)) (hi : i < n) : k < (((List.range n).map f).length : Int) := by rw [List.length_map, List.length_range]; omega
theorem b6 {k : Int} {i n : Nat} (h0 : 0 ≤ k) (hi : i < n) (hn : n ≤ 4) : 0 + (i : Int) - k ≤ 1000000 := by omega
local macro_rules | `(tactic| mul_fits) => `(tactic| first | exact waysF_mulR (by first | exact z4 (by with_reducible assumption) (by with_reducible assumption) (by with_reducible assumption) (by with_reducible assumption) | exact a1 (by with_reducible assumption) (by with_reducible assumption) (by with_reducible assumption) | exact b2 (by with_reducible assumption) (by with_reducible assumption) (by with_reducible assumption) (by with_reducible assumption) (by with_reducible assumption)) (by omega) | exact waysF_mul (by first | exact z4 (by with_reducible assumption) (by with_reducible assumption) (by with_reducible assumption) (by with_reducible assumption) | exact a1 (by with_reducible assumption) (by with_reducible assumption) (by with_reducible assumption) | exact b2 (by with_reducible assumption) (by with_reducible assumption) (by with_reducible assumption) (by with_reducible assumption) (by with_reducible assumption)) (by omega) | exact signF_mul (by first | exact z4 (by with_reducible assumption) (by with_reducible assumption) (by with_reducible assumption) (by with_reducible assumption) | exact a1 (by with_reducible assumption) (by with_reducible assumption) (by with_reducible assumption) | exact b2 (by with_reducible assumption) (by with_reducible assumption) (by with_reducible assumption) (by with_reducible assumption) (by with_reducible assumption)) (by omega) | exact waysF_mul (by omega) (by omega) | exact waysF_mulR (by omega) (by omega) | exact signF_mul (by omega) (by omega))
theorem unknown_ok {w : World} {A : Around} {s : Shared} {Q E : Value → Shared → Prop}
   {l1 l2 : Addr} {v1 v2 : List Value} {ks ss : List Int} {low base : Int} {t1 t2 : Tok}
   (C : Cx w A s.heap) (hdp : A.depth < 920) (hu : A.units < 8700)
   (hl1 : s.heap.IsList l1 v1.toArray) (hi1 : IntsAre v1 ks) (hl2 : s.heap.IsList l2 v2.toArray) (hi2 : IntsAre v2 ss)
   (hk : ks.length ≤ 6) (hs : ss.length ≤ 4) (hlo : 0 ≤ low ∧ low ≤ 4) (hb : 2 ≤ base ∧ base ≤ 4)
   (h : ∀ l ys h' tk', Keep s.heap h' → s.heap.get? l = none → h'.get? l = some (LCg.lst ys) → IntsAre ys ((List.range ss.length).map (openF ks ss low base)) → Q (.ref l) { s with heap := h', toks := tk' }) :
   wpAny (model Challenge.rw_zo0018_01.row.prog w) A (call (.ref 149) [.ref l1, .ref l2, .int low t1, .int base t2]) Q E s := by
  have KX := C.X
  have hh := C.hh
  revert KX; k_fill; intro KX
  obtain ⟨hd0, dp0, fr0, gd0, un0⟩ := A
  obtain rfl : hd0 = none := hh
  dsimp only at hdp hu
  refine wpAny_call ?_
  w_on
  k_dflt (refine' enterC ?k1 ?k6 ?k7 ?k8 ?k9 ?kB ?kD ?_ ?c2 ?c3 ?c4; (case k1 => exact C); (case k6 => k_is); (case k7 => k_is); (case k8 => (simp only [recursionLimit]; omega)); (case k9 => first | exact BindsTo.of_eq rfl | fail "no rule for these arguments"); (case kB => exact rfl); (case kD => decide +kernel); (case c2 => exact rfl); (case c3 => exact rfl); (case c4 => exact rfl); k_whole; intro L' h' tk' cells' bse outer loose mean mg mb B' X' T' F' N' Y'; clear C KX; (try simp only [List.cons_append, List.nil_append] at N'); (try dsimp only); (try k_fold))
  obtain ⟨o1, o2, o3, o4, o5, o6, o7, o8, he, d1, d2, d3, d4, d5, d6, d7, d8⟩ := kc_eight Y'
  subst he; clear Y'
  (try simp only [List.cons_append, List.nil_append] at N')
  repeat' (first | (k_unfold; (try dsimp only)) | (k_end; wrow_close) | ((fail_if_success (with_reducible show wpAny _ _ (pyIter _) _ _ _)); dsimp only; (first | ((k_here; (with_reducible show wpAny _ _ (call (Value.ref 144) _) _ _ _); k_dflt ((with_reducible rename Fr _ _ _ _ => kF); (with_reducible rename News _ _ _ _ => kN); refine ways_int (Cx.push (by k_asm) kF (by k_asm) (by k_asm) rfl rfl rfl) (dlt (by with_reducible assumption) (by decide)) (ult (by with_reducible assumption) (by decide)) (by first | exact z3 (by with_reducible assumption) (by with_reducible assumption) | exact b1 (by with_reducible assumption) (by with_reducible assumption) (by with_reducible assumption) (by with_reducible assumption)) (by first | exact z4 (by with_reducible assumption) (by with_reducible assumption) (by with_reducible assumption) (by with_reducible assumption) | exact a1 (by with_reducible assumption) (by with_reducible assumption) (by with_reducible assumption) | exact b2 (by with_reducible assumption) (by with_reducible assumption) (by with_reducible assumption) (by with_reducible assumption) (by with_reducible assumption)) ?_; intro t' h' tk' hK'; have F' := Fr.keeps kF hK'; have N' := News.grown kN hK'; clear kF kN); (try dsimp only); (try k_fold))) | (with_reducible refine pow_int_small (by first | exact z1 (by with_reducible assumption) | exact b4 (by with_reducible assumption)) (by first | exact z2 (by with_reducible assumption) (by with_reducible assumption) | exact b6 (by with_reducible assumption) (by with_reducible assumption) (by with_reducible assumption)) (by decide) ?_) | ((k_here; (with_reducible show wpAny _ _ (subscriptTail _ _ (Value.ref _) (Value.int _ _)) _ _ _); k_dflt (refine item_anyK (by is_list) (by with_reducible assumption) (by with_reducible first | assumption | exact z6 (by with_reducible assumption)) (by with_reducible first | exact z7 (by with_reducible assumption) (by with_reducible assumption) | exact a2 (by with_reducible assumption) | exact b5 (by with_reducible assumption) (by with_reducible assumption)) (by with_reducible first | exact z8 (by with_reducible assumption) (by with_reducible assumption) (by with_reducible assumption) | exact a3 (by with_reducible assumption) (by with_reducible assumption) | exact b3 (by with_reducible assumption) (by with_reducible assumption) (by with_reducible assumption)) (fun _ => ?_)))) | walk1)) | ((fail_if_success (with_reducible show wpAny _ _ (pyIter _) _ _ _)); (first | ((k_here; (with_reducible show wpAny _ _ (call (Value.ref 144) _) _ _ _); k_dflt ((with_reducible rename Fr _ _ _ _ => kF); (with_reducible rename News _ _ _ _ => kN); refine ways_int (Cx.push (by k_asm) kF (by k_asm) (by k_asm) rfl rfl rfl) (dlt (by with_reducible assumption) (by decide)) (ult (by with_reducible assumption) (by decide)) (by first | exact z3 (by with_reducible assumption) (by with_reducible assumption) | exact b1 (by with_reducible assumption) (by with_reducible assumption) (by with_reducible assumption) (by with_reducible assumption)) (by first | exact z4 (by with_reducible assumption) (by with_reducible assumption) (by with_reducible assumption) (by with_reducible assumption) | exact a1 (by with_reducible assumption) (by with_reducible assumption) (by with_reducible assumption) | exact b2 (by with_reducible assumption) (by with_reducible assumption) (by with_reducible assumption) (by with_reducible assumption) (by with_reducible assumption)) ?_; intro t' h' tk' hK'; have F' := Fr.keeps kF hK'; have N' := News.grown kN hK'; clear kF kN); (try dsimp only); (try k_fold))) | (with_reducible refine pow_int_small (by first | exact z1 (by with_reducible assumption) | exact b4 (by with_reducible assumption)) (by first | exact z2 (by with_reducible assumption) (by with_reducible assumption) | exact b6 (by with_reducible assumption) (by with_reducible assumption) (by with_reducible assumption)) (by decide) ?_) | ((k_here; (with_reducible show wpAny _ _ (subscriptTail _ _ (Value.ref _) (Value.int _ _)) _ _ _); k_dflt (refine item_anyK (by is_list) (by with_reducible assumption) (by with_reducible first | assumption | exact z6 (by with_reducible assumption)) (by with_reducible first | exact z7 (by with_reducible assumption) (by with_reducible assumption) | exact a2 (by with_reducible assumption) | exact b5 (by with_reducible assumption) (by with_reducible assumption)) (by with_reducible first | exact z8 (by with_reducible assumption) (by with_reducible assumption) (by with_reducible assumption) | exact a3 (by with_reducible assumption) (by with_reducible assumption) | exact b3 (by with_reducible assumption) (by with_reducible assumption) (by with_reducible assumption)) (fun _ => ?_)))) | walk1)) | (k_end; dsimp only; k_unfold; (try dsimp only)))
  (rename Fr _ _ _ _ => lF); refine For_invTF lF ?_ (by intro _; rfl)
  repeat' (first | (k_unfold; (try dsimp only)) | (k_end; wrow_close) | ((fail_if_success (with_reducible show wpAny _ _ (pyIter _) _ _ _)); dsimp only; (first | ((k_here; (with_reducible show wpAny _ _ (call (Value.ref 144) _) _ _ _); k_dflt ((with_reducible rename Fr _ _ _ _ => kF); (with_reducible rename News _ _ _ _ => kN); refine ways_int (Cx.push (by k_asm) kF (by k_asm) (by k_asm) rfl rfl rfl) (dlt (by with_reducible assumption) (by decide)) (ult (by with_reducible assumption) (by decide)) (by first | exact z3 (by with_reducible assumption) (by with_reducible assumption) | exact b1 (by with_reducible assumption) (by with_reducible assumption) (by with_reducible assumption) (by with_reducible assumption)) (by first | exact z4 (by with_reducible assumption) (by with_reducible assumption) (by with_reducible assumption) (by with_reducible assumption) | exact a1 (by with_reducible assumption) (by with_reducible assumption) (by with_reducible assumption) | exact b2 (by with_reducible assumption) (by with_reducible assumption) (by with_reducible assumption) (by with_reducible assumption) (by with_reducible assumption)) ?_; intro t' h' tk' hK'; have F' := Fr.keeps kF hK'; have N' := News.grown kN hK'; clear kF kN); (try dsimp only); (try k_fold))) | (with_reducible refine pow_int_small (by first | exact z1 (by with_reducible assumption) | exact b4 (by with_reducible assumption)) (by first | exact z2 (by with_reducible assumption) (by with_reducible assumption) | exact b6 (by with_reducible assumption) (by with_reducible assumption) (by with_reducible assumption)) (by decide) ?_) | ((k_here; (with_reducible show wpAny _ _ (subscriptTail _ _ (Value.ref _) (Value.int _ _)) _ _ _); k_dflt (refine item_anyK (by is_list) (by with_reducible assumption) (by with_reducible first | assumption | exact z6 (by with_reducible assumption)) (by with_reducible first | exact z7 (by with_reducible assumption) (by with_reducible assumption) | exact a2 (by with_reducible assumption) | exact b5 (by with_reducible assumption) (by with_reducible assumption)) (by with_reducible first | exact z8 (by with_reducible assumption) (by with_reducible assumption) (by with_reducible assumption) | exact a3 (by with_reducible assumption) (by with_reducible assumption) | exact b3 (by with_reducible assumption) (by with_reducible assumption) (by with_reducible assumption)) (fun _ => ?_)))) | walk1)) | ((fail_if_success (with_reducible show wpAny _ _ (pyIter _) _ _ _)); (first | ((k_here; (with_reducible show wpAny _ _ (call (Value.ref 144) _) _ _ _); k_dflt ((with_reducible rename Fr _ _ _ _ => kF); (with_reducible rename News _ _ _ _ => kN); refine ways_int (Cx.push (by k_asm) kF (by k_asm) (by k_asm) rfl rfl rfl) (dlt (by with_reducible assumption) (by decide)) (ult (by with_reducible assumption) (by decide)) (by first | exact z3 (by with_reducible assumption) (by with_reducible assumption) | exact b1 (by with_reducible assumption) (by with_reducible assumption) (by with_reducible assumption) (by with_reducible assumption)) (by first | exact z4 (by with_reducible assumption) (by with_reducible assumption) (by with_reducible assumption) (by with_reducible assumption) | exact a1 (by with_reducible assumption) (by with_reducible assumption) (by with_reducible assumption) | exact b2 (by with_reducible assumption) (by with_reducible assumption) (by with_reducible assumption) (by with_reducible assumption) (by with_reducible assumption)) ?_; intro t' h' tk' hK'; have F' := Fr.keeps kF hK'; have N' := News.grown kN hK'; clear kF kN); (try dsimp only); (try k_fold))) | (with_reducible refine pow_int_small (by first | exact z1 (by with_reducible assumption) | exact b4 (by with_reducible assumption)) (by first | exact z2 (by with_reducible assumption) (by with_reducible assumption) | exact b6 (by with_reducible assumption) (by with_reducible assumption) (by with_reducible assumption)) (by decide) ?_) | ((k_here; (with_reducible show wpAny _ _ (subscriptTail _ _ (Value.ref _) (Value.int _ _)) _ _ _); k_dflt (refine item_anyK (by is_list) (by with_reducible assumption) (by with_reducible first | assumption | exact z6 (by with_reducible assumption)) (by with_reducible first | exact z7 (by with_reducible assumption) (by with_reducible assumption) | exact a2 (by with_reducible assumption) | exact b5 (by with_reducible assumption) (by with_reducible assumption)) (by with_reducible first | exact z8 (by with_reducible assumption) (by with_reducible assumption) (by with_reducible assumption) | exact a3 (by with_reducible assumption) (by with_reducible assumption) | exact b3 (by with_reducible assumption) (by with_reducible assumption) (by with_reducible assumption)) (fun _ => ?_)))) | walk1)) | (k_end; dsimp only; k_unfold; (try dsimp only)))
  rename_i ha om dm la hb0 ll hc ol F9 N9 dl hd0 tk9 t9 u9 v9 R9 Fa Na Ka
  refine range_T (n := ss.length) (fun i m nx => ∃ (vs : List Value) (ep : Nat) (oj : Obj), nx = [(la, PySem.W.listOf vs.toArray ep), (L' + 1 + 1 + 1 + 1 + 1 + 1 + 1 + 1, o1), (L' + 1 + 1 + 1 + 1 + 1 + 1 + 1, o2),
      (L' + 1 + 1 + 1 + 1 + 1 + 1, oj), (L' + 1 + 1 + 1 + 1 + 1, ol), (L' + 1 + 1 + 1 + 1, om), (L' + 1 + 1 + 1, o6), (L' + 1 + 1, o7), (L' + 1, o8)] ∧ IntsAre vs ((List.range i).map (lackF ks ss)) ∧ (∃ v, oj.data = .cell v) ∧ m = (bindL (envOfC _ _ L' _ _).kindOf _ fun _ => none))
    (by intro _ _; rfl) rfl (by k_asm) (range_small _ (by omega)) (range_size _) (by k_asm) (by k_asm) ⟨[], 0, o3, rfl, .nil, ⟨_, d3⟩, rfl⟩ ?turn ?done
  case turn =>
    rintro i t m1 nx ⟨hp1, g1, dr1, tk1, os1⟩ own hi hadr hoff ⟨vs, ep, oj, rfl, hvs, ⟨vj, hvj⟩, rfl⟩ F1 N1
    clear Fa Na Ka F9 N9 R9
    dsimp only at F1 N1
    have F2 : Fr s.heap L' hp1 _ := F1
    have N2 : News s.heap L' hp1 _ := N1
    clear F1 N1
    repeat' (first | (k_unfold; (try dsimp only)) | (k_end; wrow_close) | (dsimp only; (first | ((k_here; (with_reducible show wpAny _ _ (call (Value.ref 144) _) _ _ _); k_dflt ((with_reducible rename Fr _ _ _ _ => kF); (with_reducible rename News _ _ _ _ => kN); refine ways_int (Cx.push (by k_asm) kF (by k_asm) (by k_asm) rfl rfl rfl) (dlt (by with_reducible assumption) (by decide)) (ult (by with_reducible assumption) (by decide)) (by first | exact z3 (by with_reducible assumption) (by with_reducible assumption) | exact b1 (by with_reducible assumption) (by with_reducible assumption) (by with_reducible assumption) (by with_reducible assumption)) (by first | exact z4 (by with_reducible assumption) (by with_reducible assumption) (by with_reducible assumption) (by with_reducible assumption) | exact a1 (by with_reducible assumption) (by with_reducible assumption) (by with_reducible assumption) | exact b2 (by with_reducible assumption) (by with_reducible assumption) (by with_reducible assumption) (by with_reducible assumption) (by with_reducible assumption)) ?_; intro t' h' tk' hK'; have F' := Fr.keeps kF hK'; have N' := News.grown kN hK'; clear kF kN); (try dsimp only); (try k_fold))) | (with_reducible refine pow_int_small (by first | exact z1 (by with_reducible assumption) | exact b4 (by with_reducible assumption)) (by first | exact z2 (by with_reducible assumption) (by with_reducible assumption) | exact b6 (by with_reducible assumption) (by with_reducible assumption) (by with_reducible assumption)) (by decide) ?_) | ((k_here; (with_reducible show wpAny _ _ (subscriptTail _ _ (Value.ref _) (Value.int _ _)) _ _ _); k_dflt (refine item_anyK (by is_list) (by with_reducible assumption) (by with_reducible first | assumption | exact z6 (by with_reducible assumption)) (by with_reducible first | exact z7 (by with_reducible assumption) (by with_reducible assumption) | exact a2 (by with_reducible assumption) | exact b5 (by with_reducible assumption) (by with_reducible assumption)) (by with_reducible first | exact z8 (by with_reducible assumption) (by with_reducible assumption) (by with_reducible assumption) | exact a3 (by with_reducible assumption) (by with_reducible assumption) | exact b3 (by with_reducible assumption) (by with_reducible assumption) (by with_reducible assumption)) (fun _ => ?_)))) | walk1)) | ((first | ((k_here; (with_reducible show wpAny _ _ (call (Value.ref 144) _) _ _ _); k_dflt ((with_reducible rename Fr _ _ _ _ => kF); (with_reducible rename News _ _ _ _ => kN); refine ways_int (Cx.push (by k_asm) kF (by k_asm) (by k_asm) rfl rfl rfl) (dlt (by with_reducible assumption) (by decide)) (ult (by with_reducible assumption) (by decide)) (by first | exact z3 (by with_reducible assumption) (by with_reducible assumption) | exact b1 (by with_reducible assumption) (by with_reducible assumption) (by with_reducible assumption) (by with_reducible assumption)) (by first | exact z4 (by with_reducible assumption) (by with_reducible assumption) (by with_reducible assumption) (by with_reducible assumption) | exact a1 (by with_reducible assumption) (by with_reducible assumption) (by with_reducible assumption) | exact b2 (by with_reducible assumption) (by with_reducible assumption) (by with_reducible assumption) (by with_reducible assumption) (by with_reducible assumption)) ?_; intro t' h' tk' hK'; have F' := Fr.keeps kF hK'; have N' := News.grown kN hK'; clear kF kN); (try dsimp only); (try k_fold))) | (with_reducible refine pow_int_small (by first | exact z1 (by with_reducible assumption) | exact b4 (by with_reducible assumption)) (by first | exact z2 (by with_reducible assumption) (by with_reducible assumption) | exact b6 (by with_reducible assumption) (by with_reducible assumption) (by with_reducible assumption)) (by decide) ?_) | ((k_here; (with_reducible show wpAny _ _ (subscriptTail _ _ (Value.ref _) (Value.int _ _)) _ _ _); k_dflt (refine item_anyK (by is_list) (by with_reducible assumption) (by with_reducible first | assumption | exact z6 (by with_reducible assumption)) (by with_reducible first | exact z7 (by with_reducible assumption) (by with_reducible assumption) | exact a2 (by with_reducible assumption) | exact b5 (by with_reducible assumption) (by with_reducible assumption)) (by with_reducible first | exact z8 (by with_reducible assumption) (by with_reducible assumption) (by with_reducible assumption) | exact a3 (by with_reducible assumption) (by with_reducible assumption) | exact b3 (by with_reducible assumption) (by with_reducible assumption) (by with_reducible assumption)) (fun _ => ?_)))) | walk1)) | (k_end; dsimp only; k_unfold; (try dsimp only)))
    have hvl : vs.length = i := by rw [hvs.length]; simp
    refine append_K (hsz := by rw [List.size_toArray, hvl]; simp only [sizeLine]; omega) (by k_asm) (by k_asm) (by k_upd) ?_
    intro h3 F3 N3
    repeat' (first | (k_unfold; (try dsimp only)) | (k_end; wrow_close) | (dsimp only; (first | ((k_here; (with_reducible show wpAny _ _ (call (Value.ref 144) _) _ _ _); k_dflt ((with_reducible rename Fr _ _ _ _ => kF); (with_reducible rename News _ _ _ _ => kN); refine ways_int (Cx.push (by k_asm) kF (by k_asm) (by k_asm) rfl rfl rfl) (dlt (by with_reducible assumption) (by decide)) (ult (by with_reducible assumption) (by decide)) (by first | exact z3 (by with_reducible assumption) (by with_reducible assumption) | exact b1 (by with_reducible assumption) (by with_reducible assumption) (by with_reducible assumption) (by with_reducible assumption)) (by first | exact z4 (by with_reducible assumption) (by with_reducible assumption) (by with_reducible assumption) (by with_reducible assumption) | exact a1 (by with_reducible assumption) (by with_reducible assumption) (by with_reducible assumption) | exact b2 (by with_reducible assumption) (by with_reducible assumption) (by with_reducible assumption) (by with_reducible assumption) (by with_reducible assumption)) ?_; intro t' h' tk' hK'; have F' := Fr.keeps kF hK'; have N' := News.grown kN hK'; clear kF kN); (try dsimp only); (try k_fold))) | (with_reducible refine pow_int_small (by first | exact z1 (by with_reducible assumption) | exact b4 (by with_reducible assumption)) (by first | exact z2 (by with_reducible assumption) (by with_reducible assumption) | exact b6 (by with_reducible assumption) (by with_reducible assumption) (by with_reducible assumption)) (by decide) ?_) | ((k_here; (with_reducible show wpAny _ _ (subscriptTail _ _ (Value.ref _) (Value.int _ _)) _ _ _); k_dflt (refine item_anyK (by is_list) (by with_reducible assumption) (by with_reducible first | assumption | exact z6 (by with_reducible assumption)) (by with_reducible first | exact z7 (by with_reducible assumption) (by with_reducible assumption) | exact a2 (by with_reducible assumption) | exact b5 (by with_reducible assumption) (by with_reducible assumption)) (by with_reducible first | exact z8 (by with_reducible assumption) (by with_reducible assumption) (by with_reducible assumption) | exact a3 (by with_reducible assumption) (by with_reducible assumption) | exact b3 (by with_reducible assumption) (by with_reducible assumption) (by with_reducible assumption)) (fun _ => ?_)))) | walk1)) | ((first | ((k_here; (with_reducible show wpAny _ _ (call (Value.ref 144) _) _ _ _); k_dflt ((with_reducible rename Fr _ _ _ _ => kF); (with_reducible rename News _ _ _ _ => kN); refine ways_int (Cx.push (by k_asm) kF (by k_asm) (by k_asm) rfl rfl rfl) (dlt (by with_reducible assumption) (by decide)) (ult (by with_reducible assumption) (by decide)) (by first | exact z3 (by with_reducible assumption) (by with_reducible assumption) | exact b1 (by with_reducible assumption) (by with_reducible assumption) (by with_reducible assumption) (by with_reducible assumption)) (by first | exact z4 (by with_reducible assumption) (by with_reducible assumption) (by with_reducible assumption) (by with_reducible assumption) | exact a1 (by with_reducible assumption) (by with_reducible assumption) (by with_reducible assumption) | exact b2 (by with_reducible assumption) (by with_reducible assumption) (by with_reducible assumption) (by with_reducible assumption) (by with_reducible assumption)) ?_; intro t' h' tk' hK'; have F' := Fr.keeps kF hK'; have N' := News.grown kN hK'; clear kF kN); (try dsimp only); (try k_fold))) | (with_reducible refine pow_int_small (by first | exact z1 (by with_reducible assumption) | exact b4 (by with_reducible assumption)) (by first | exact z2 (by with_reducible assumption) (by with_reducible assumption) | exact b6 (by with_reducible assumption) (by with_reducible assumption) (by with_reducible assumption)) (by decide) ?_) | ((k_here; (with_reducible show wpAny _ _ (subscriptTail _ _ (Value.ref _) (Value.int _ _)) _ _ _); k_dflt (refine item_anyK (by is_list) (by with_reducible assumption) (by with_reducible first | assumption | exact z6 (by with_reducible assumption)) (by with_reducible first | exact z7 (by with_reducible assumption) (by with_reducible assumption) | exact a2 (by with_reducible assumption) | exact b5 (by with_reducible assumption) (by with_reducible assumption)) (by with_reducible first | exact z8 (by with_reducible assumption) (by with_reducible assumption) (by with_reducible assumption) | exact a3 (by with_reducible assumption) (by with_reducible assumption) | exact b3 (by with_reducible assumption) (by with_reducible assumption) (by with_reducible assumption)) (fun _ => ?_)))) | walk1)) | (k_end; dsimp only; k_unfold; (try dsimp only)))
    simp only [List.push_toArray] at N3
    refine tend [_] [_, _, _, _, _, _, _, _, _] F3 N3 rfl ?_
    refine ⟨vs ++ [_], _, _, rfl, ?_, ⟨_, by assumption⟩, rfl⟩
    rw [List.range_succ, List.map_append]
    refine hvs.append ?_
    rw [show (0 + (i : Int)).toNat = i from by omega, show ((ks.length : Int) - 0).toNat = ks.length from by omega]
    exact .cons _ _ .nil
  case done =>
    intro m1 nx h2 tk2 hJ F1 N1
    obtain ⟨vs, ep, oj, rfl, hvs, ⟨vj, hvj⟩, rfl⟩ := hJ
    clear Fa Na Ka F9 N9 R9
    have F2 : Fr s.heap L' h2 _ := F1
    have N2 : News s.heap L' h2 _ := N1
    clear F1 N1
    repeat' (first | (k_unfold; (try dsimp only)) | (k_end; wrow_close) | ((fail_if_success (with_reducible show wpAny _ _ (pyIter _) _ _ _)); dsimp only; (first | ((k_here; (with_reducible show wpAny _ _ (call (Value.ref 144) _) _ _ _); k_dflt ((with_reducible rename Fr _ _ _ _ => kF); (with_reducible rename News _ _ _ _ => kN); refine ways_int (Cx.push (by k_asm) kF (by k_asm) (by k_asm) rfl rfl rfl) (dlt (by with_reducible assumption) (by decide)) (ult (by with_reducible assumption) (by decide)) (by first | exact z3 (by with_reducible assumption) (by with_reducible assumption) | exact b1 (by with_reducible assumption) (by with_reducible assumption) (by with_reducible assumption) (by with_reducible assumption)) (by first | exact z4 (by with_reducible assumption) (by with_reducible assumption) (by with_reducible assumption) (by with_reducible assumption) | exact a1 (by with_reducible assumption) (by with_reducible assumption) (by with_reducible assumption) | exact b2 (by with_reducible assumption) (by with_reducible assumption) (by with_reducible assumption) (by with_reducible assumption) (by with_reducible assumption)) ?_; intro t' h' tk' hK'; have F' := Fr.keeps kF hK'; have N' := News.grown kN hK'; clear kF kN); (try dsimp only); (try k_fold))) | (with_reducible refine pow_int_small (by first | exact z1 (by with_reducible assumption) | exact b4 (by with_reducible assumption)) (by first | exact z2 (by with_reducible assumption) (by with_reducible assumption) | exact b6 (by with_reducible assumption) (by with_reducible assumption) (by with_reducible assumption)) (by decide) ?_) | ((k_here; (with_reducible show wpAny _ _ (subscriptTail _ _ (Value.ref _) (Value.int _ _)) _ _ _); k_dflt (refine item_anyK (by is_list) (by with_reducible assumption) (by with_reducible first | assumption | exact z6 (by with_reducible assumption)) (by with_reducible first | exact z7 (by with_reducible assumption) (by with_reducible assumption) | exact a2 (by with_reducible assumption) | exact b5 (by with_reducible assumption) (by with_reducible assumption)) (by with_reducible first | exact z8 (by with_reducible assumption) (by with_reducible assumption) (by with_reducible assumption) | exact a3 (by with_reducible assumption) (by with_reducible assumption) | exact b3 (by with_reducible assumption) (by with_reducible assumption) (by with_reducible assumption)) (fun _ => ?_)))) | walk1)) | ((fail_if_success (with_reducible show wpAny _ _ (pyIter _) _ _ _)); (first | ((k_here; (with_reducible show wpAny _ _ (call (Value.ref 144) _) _ _ _); k_dflt ((with_reducible rename Fr _ _ _ _ => kF); (with_reducible rename News _ _ _ _ => kN); refine ways_int (Cx.push (by k_asm) kF (by k_asm) (by k_asm) rfl rfl rfl) (dlt (by with_reducible assumption) (by decide)) (ult (by with_reducible assumption) (by decide)) (by first | exact z3 (by with_reducible assumption) (by with_reducible assumption) | exact b1 (by with_reducible assumption) (by with_reducible assumption) (by with_reducible assumption) (by with_reducible assumption)) (by first | exact z4 (by with_reducible assumption) (by with_reducible assumption) (by with_reducible assumption) (by with_reducible assumption) | exact a1 (by with_reducible assumption) (by with_reducible assumption) (by with_reducible assumption) | exact b2 (by with_reducible assumption) (by with_reducible assumption) (by with_reducible assumption) (by with_reducible assumption) (by with_reducible assumption)) ?_; intro t' h' tk' hK'; have F' := Fr.keeps kF hK'; have N' := News.grown kN hK'; clear kF kN); (try dsimp only); (try k_fold))) | (with_reducible refine pow_int_small (by first | exact z1 (by with_reducible assumption) | exact b4 (by with_reducible assumption)) (by first | exact z2 (by with_reducible assumption) (by with_reducible assumption) | exact b6 (by with_reducible assumption) (by with_reducible assumption) (by with_reducible assumption)) (by decide) ?_) | ((k_here; (with_reducible show wpAny _ _ (subscriptTail _ _ (Value.ref _) (Value.int _ _)) _ _ _); k_dflt (refine item_anyK (by is_list) (by with_reducible assumption) (by with_reducible first | assumption | exact z6 (by with_reducible assumption)) (by with_reducible first | exact z7 (by with_reducible assumption) (by with_reducible assumption) | exact a2 (by with_reducible assumption) | exact b5 (by with_reducible assumption) (by with_reducible assumption)) (by with_reducible first | exact z8 (by with_reducible assumption) (by with_reducible assumption) (by with_reducible assumption) | exact a3 (by with_reducible assumption) (by with_reducible assumption) | exact b3 (by with_reducible assumption) (by with_reducible assumption) (by with_reducible assumption)) (fun _ => ?_)))) | walk1)) | (k_end; dsimp only; k_unfold; (try dsimp only)))
    (rename Fr _ _ _ _ => lF); refine For_invTF lF ?_ (by intro _; rfl)
    repeat' (first | (k_unfold; (try dsimp only)) | (k_end; wrow_close) | ((fail_if_success (with_reducible show wpAny _ _ (pyIter _) _ _ _)); dsimp only; (first | ((k_here; (with_reducible show wpAny _ _ (call (Value.ref 144) _) _ _ _); k_dflt ((with_reducible rename Fr _ _ _ _ => kF); (with_reducible rename News _ _ _ _ => kN); refine ways_int (Cx.push (by k_asm) kF (by k_asm) (by k_asm) rfl rfl rfl) (dlt (by with_reducible assumption) (by decide)) (ult (by with_reducible assumption) (by decide)) (by first | exact z3 (by with_reducible assumption) (by with_reducible assumption) | exact b1 (by with_reducible assumption) (by with_reducible assumption) (by with_reducible assumption) (by with_reducible assumption)) (by first | exact z4 (by with_reducible assumption) (by with_reducible assumption) (by with_reducible assumption) (by with_reducible assumption) | exact a1 (by with_reducible assumption) (by with_reducible assumption) (by with_reducible assumption) | exact b2 (by with_reducible assumption) (by with_reducible assumption) (by with_reducible assumption) (by with_reducible assumption) (by with_reducible assumption)) ?_; intro t' h' tk' hK'; have F' := Fr.keeps kF hK'; have N' := News.grown kN hK'; clear kF kN); (try dsimp only); (try k_fold))) | (with_reducible refine pow_int_small (by first | exact z1 (by with_reducible assumption) | exact b4 (by with_reducible assumption)) (by first | exact z2 (by with_reducible assumption) (by with_reducible assumption) | exact b6 (by with_reducible assumption) (by with_reducible assumption) (by with_reducible assumption)) (by decide) ?_) | ((k_here; (with_reducible show wpAny _ _ (subscriptTail _ _ (Value.ref _) (Value.int _ _)) _ _ _); k_dflt (refine item_anyK (by is_list) (by with_reducible assumption) (by with_reducible first | assumption | exact z6 (by with_reducible assumption)) (by with_reducible first | exact z7 (by with_reducible assumption) (by with_reducible assumption) | exact a2 (by with_reducible assumption) | exact b5 (by with_reducible assumption) (by with_reducible assumption)) (by with_reducible first | exact z8 (by with_reducible assumption) (by with_reducible assumption) (by with_reducible assumption) | exact a3 (by with_reducible assumption) (by with_reducible assumption) | exact b3 (by with_reducible assumption) (by with_reducible assumption) (by with_reducible assumption)) (fun _ => ?_)))) | walk1)) | ((fail_if_success (with_reducible show wpAny _ _ (pyIter _) _ _ _)); (first | ((k_here; (with_reducible show wpAny _ _ (call (Value.ref 144) _) _ _ _); k_dflt ((with_reducible rename Fr _ _ _ _ => kF); (with_reducible rename News _ _ _ _ => kN); refine ways_int (Cx.push (by k_asm) kF (by k_asm) (by k_asm) rfl rfl rfl) (dlt (by with_reducible assumption) (by decide)) (ult (by with_reducible assumption) (by decide)) (by first | exact z3 (by with_reducible assumption) (by with_reducible assumption) | exact b1 (by with_reducible assumption) (by with_reducible assumption) (by with_reducible assumption) (by with_reducible assumption)) (by first | exact z4 (by with_reducible assumption) (by with_reducible assumption) (by with_reducible assumption) (by with_reducible assumption) | exact a1 (by with_reducible assumption) (by with_reducible assumption) (by with_reducible assumption) | exact b2 (by with_reducible assumption) (by with_reducible assumption) (by with_reducible assumption) (by with_reducible assumption) (by with_reducible assumption)) ?_; intro t' h' tk' hK'; have F' := Fr.keeps kF hK'; have N' := News.grown kN hK'; clear kF kN); (try dsimp only); (try k_fold))) | (with_reducible refine pow_int_small (by first | exact z1 (by with_reducible assumption) | exact b4 (by with_reducible assumption)) (by first | exact z2 (by with_reducible assumption) (by with_reducible assumption) | exact b6 (by with_reducible assumption) (by with_reducible assumption) (by with_reducible assumption)) (by decide) ?_) | ((k_here; (with_reducible show wpAny _ _ (subscriptTail _ _ (Value.ref _) (Value.int _ _)) _ _ _); k_dflt (refine item_anyK (by is_list) (by with_reducible assumption) (by with_reducible first | assumption | exact z6 (by with_reducible assumption)) (by with_reducible first | exact z7 (by with_reducible assumption) (by with_reducible assumption) | exact a2 (by with_reducible assumption) | exact b5 (by with_reducible assumption) (by with_reducible assumption)) (by with_reducible first | exact z8 (by with_reducible assumption) (by with_reducible assumption) (by with_reducible assumption) | exact a3 (by with_reducible assumption) (by with_reducible assumption) | exact b3 (by with_reducible assumption) (by with_reducible assumption) (by with_reducible assumption)) (fun _ => ?_)))) | walk1)) | (k_end; dsimp only; k_unfold; (try dsimp only)))
    rename_i lb hb1 ll2 hc1 op F9 N9 dp hd1 tk8 t8 u8 v8 R9 Fa Na Ka
    refine range_T (n := ss.length) (fun i m nx => ∃ (ws : List Value) (ep2 : Nat) (os : Obj), nx = [(lb, PySem.W.listOf ws.toArray ep2), (la, PySem.W.listOf vs.toArray ep), (L' + 1 + 1 + 1 + 1 + 1 + 1 + 1 + 1, os), (L' + 1 + 1 + 1 + 1 + 1 + 1 + 1, op),
      (L' + 1 + 1 + 1 + 1 + 1 + 1, oj), (L' + 1 + 1 + 1 + 1 + 1, ol), (L' + 1 + 1 + 1 + 1, om), (L' + 1 + 1 + 1, o6), (L' + 1 + 1, o7), (L' + 1, o8)] ∧ IntsAre ws ((List.range i).map (partF ks ss low)) ∧ (∃ v, os.data = .cell v) ∧ m = (bindL (envOfC _ _ L' _ _).kindOf _ fun _ => none))
      (by intro _ _; rfl) rfl (by k_asm) (range_small _ (by omega)) (range_size _) (by k_asm) (by k_asm) ⟨[], 0, o1, rfl, .nil, ⟨_, d1⟩, rfl⟩ ?turn2 ?done2
    case turn2 =>
      rintro i t m1 nx ⟨hp1, g1, dr1, tk1, os1⟩ own hi hadr hoff ⟨ws, ep2, os, rfl, hws, ⟨vj, hvs'⟩, rfl⟩ F1 N1
      clear Fa Na Ka F9 N9 R9
      dsimp only at F1 N1
      have F2 : Fr s.heap L' hp1 _ := F1
      have N2 : News s.heap L' hp1 _ := N1
      clear F1 N1
      repeat' (first | (k_unfold; (try dsimp only)) | (k_end; wrow_close) | (dsimp only; (first | ((k_here; (with_reducible show wpAny _ _ (call (Value.ref 144) _) _ _ _); k_dflt ((with_reducible rename Fr _ _ _ _ => kF); (with_reducible rename News _ _ _ _ => kN); refine ways_int (Cx.push (by k_asm) kF (by k_asm) (by k_asm) rfl rfl rfl) (dlt (by with_reducible assumption) (by decide)) (ult (by with_reducible assumption) (by decide)) (by first | exact z3 (by with_reducible assumption) (by with_reducible assumption) | exact b1 (by with_reducible assumption) (by with_reducible assumption) (by with_reducible assumption) (by with_reducible assumption)) (by first | exact z4 (by with_reducible assumption) (by with_reducible assumption) (by with_reducible assumption) (by with_reducible assumption) | exact a1 (by with_reducible assumption) (by with_reducible assumption) (by with_reducible assumption) | exact b2 (by with_reducible assumption) (by with_reducible assumption) (by with_reducible assumption) (by with_reducible assumption) (by with_reducible assumption)) ?_; intro t' h' tk' hK'; have F' := Fr.keeps kF hK'; have N' := News.grown kN hK'; clear kF kN); (try dsimp only); (try k_fold))) | (with_reducible refine pow_int_small (by first | exact z1 (by with_reducible assumption) | exact b4 (by with_reducible assumption)) (by first | exact z2 (by with_reducible assumption) (by with_reducible assumption) | exact b6 (by with_reducible assumption) (by with_reducible assumption) (by with_reducible assumption)) (by decide) ?_) | ((k_here; (with_reducible show wpAny _ _ (subscriptTail _ _ (Value.ref _) (Value.int _ _)) _ _ _); k_dflt (refine item_anyK (by is_list) (by with_reducible assumption) (by with_reducible first | assumption | exact z6 (by with_reducible assumption)) (by with_reducible first | exact z7 (by with_reducible assumption) (by with_reducible assumption) | exact a2 (by with_reducible assumption) | exact b5 (by with_reducible assumption) (by with_reducible assumption)) (by with_reducible first | exact z8 (by with_reducible assumption) (by with_reducible assumption) (by with_reducible assumption) | exact a3 (by with_reducible assumption) (by with_reducible assumption) | exact b3 (by with_reducible assumption) (by with_reducible assumption) (by with_reducible assumption)) (fun _ => ?_)))) | walk1)) | ((first | ((k_here; (with_reducible show wpAny _ _ (call (Value.ref 144) _) _ _ _); k_dflt ((with_reducible rename Fr _ _ _ _ => kF); (with_reducible rename News _ _ _ _ => kN); refine ways_int (Cx.push (by k_asm) kF (by k_asm) (by k_asm) rfl rfl rfl) (dlt (by with_reducible assumption) (by decide)) (ult (by with_reducible assumption) (by decide)) (by first | exact z3 (by with_reducible assumption) (by with_reducible assumption) | exact b1 (by with_reducible assumption) (by with_reducible assumption) (by with_reducible assumption) (by with_reducible assumption)) (by first | exact z4 (by with_reducible assumption) (by with_reducible assumption) (by with_reducible assumption) (by with_reducible assumption) | exact a1 (by with_reducible assumption) (by with_reducible assumption) (by with_reducible assumption) | exact b2 (by with_reducible assumption) (by with_reducible assumption) (by with_reducible assumption) (by with_reducible assumption) (by with_reducible assumption)) ?_; intro t' h' tk' hK'; have F' := Fr.keeps kF hK'; have N' := News.grown kN hK'; clear kF kN); (try dsimp only); (try k_fold))) | (with_reducible refine pow_int_small (by first | exact z1 (by with_reducible assumption) | exact b4 (by with_reducible assumption)) (by first | exact z2 (by with_reducible assumption) (by with_reducible assumption) | exact b6 (by with_reducible assumption) (by with_reducible assumption) (by with_reducible assumption)) (by decide) ?_) | ((k_here; (with_reducible show wpAny _ _ (subscriptTail _ _ (Value.ref _) (Value.int _ _)) _ _ _); k_dflt (refine item_anyK (by is_list) (by with_reducible assumption) (by with_reducible first | assumption | exact z6 (by with_reducible assumption)) (by with_reducible first | exact z7 (by with_reducible assumption) (by with_reducible assumption) | exact a2 (by with_reducible assumption) | exact b5 (by with_reducible assumption) (by with_reducible assumption)) (by with_reducible first | exact z8 (by with_reducible assumption) (by with_reducible assumption) (by with_reducible assumption) | exact a3 (by with_reducible assumption) (by with_reducible assumption) | exact b3 (by with_reducible assumption) (by with_reducible assumption) (by with_reducible assumption)) (fun _ => ?_)))) | walk1)) | (k_end; dsimp only; k_unfold; (try dsimp only)))
      have hvl : ws.length = i := by rw [hws.length]; simp
      refine append_K (hsz := by rw [List.size_toArray, hvl]; simp only [sizeLine]; omega) (by k_asm) (by k_asm) (by k_upd) ?_
      intro h3 F3 N3
      repeat' (first | (k_unfold; (try dsimp only)) | (k_end; wrow_close) | (dsimp only; (first | ((k_here; (with_reducible show wpAny _ _ (call (Value.ref 144) _) _ _ _); k_dflt ((with_reducible rename Fr _ _ _ _ => kF); (with_reducible rename News _ _ _ _ => kN); refine ways_int (Cx.push (by k_asm) kF (by k_asm) (by k_asm) rfl rfl rfl) (dlt (by with_reducible assumption) (by decide)) (ult (by with_reducible assumption) (by decide)) (by first | exact z3 (by with_reducible assumption) (by with_reducible assumption) | exact b1 (by with_reducible assumption) (by with_reducible assumption) (by with_reducible assumption) (by with_reducible assumption)) (by first | exact z4 (by with_reducible assumption) (by with_reducible assumption) (by with_reducible assumption) (by with_reducible assumption) | exact a1 (by with_reducible assumption) (by with_reducible assumption) (by with_reducible assumption) | exact b2 (by with_reducible assumption) (by with_reducible assumption) (by with_reducible assumption) (by with_reducible assumption) (by with_reducible assumption)) ?_; intro t' h' tk' hK'; have F' := Fr.keeps kF hK'; have N' := News.grown kN hK'; clear kF kN); (try dsimp only); (try k_fold))) | (with_reducible refine pow_int_small (by first | exact z1 (by with_reducible assumption) | exact b4 (by with_reducible assumption)) (by first | exact z2 (by with_reducible assumption) (by with_reducible assumption) | exact b6 (by with_reducible assumption) (by with_reducible assumption) (by with_reducible assumption)) (by decide) ?_) | ((k_here; (with_reducible show wpAny _ _ (subscriptTail _ _ (Value.ref _) (Value.int _ _)) _ _ _); k_dflt (refine item_anyK (by is_list) (by with_reducible assumption) (by with_reducible first | assumption | exact z6 (by with_reducible assumption)) (by with_reducible first | exact z7 (by with_reducible assumption) (by with_reducible assumption) | exact a2 (by with_reducible assumption) | exact b5 (by with_reducible assumption) (by with_reducible assumption)) (by with_reducible first | exact z8 (by with_reducible assumption) (by with_reducible assumption) (by with_reducible assumption) | exact a3 (by with_reducible assumption) (by with_reducible assumption) | exact b3 (by with_reducible assumption) (by with_reducible assumption) (by with_reducible assumption)) (fun _ => ?_)))) | walk1)) | ((first | ((k_here; (with_reducible show wpAny _ _ (call (Value.ref 144) _) _ _ _); k_dflt ((with_reducible rename Fr _ _ _ _ => kF); (with_reducible rename News _ _ _ _ => kN); refine ways_int (Cx.push (by k_asm) kF (by k_asm) (by k_asm) rfl rfl rfl) (dlt (by with_reducible assumption) (by decide)) (ult (by with_reducible assumption) (by decide)) (by first | exact z3 (by with_reducible assumption) (by with_reducible assumption) | exact b1 (by with_reducible assumption) (by with_reducible assumption) (by with_reducible assumption) (by with_reducible assumption)) (by first | exact z4 (by with_reducible assumption) (by with_reducible assumption) (by with_reducible assumption) (by with_reducible assumption) | exact a1 (by with_reducible assumption) (by with_reducible assumption) (by with_reducible assumption) | exact b2 (by with_reducible assumption) (by with_reducible assumption) (by with_reducible assumption) (by with_reducible assumption) (by with_reducible assumption)) ?_; intro t' h' tk' hK'; have F' := Fr.keeps kF hK'; have N' := News.grown kN hK'; clear kF kN); (try dsimp only); (try k_fold))) | (with_reducible refine pow_int_small (by first | exact z1 (by with_reducible assumption) | exact b4 (by with_reducible assumption)) (by first | exact z2 (by with_reducible assumption) (by with_reducible assumption) | exact b6 (by with_reducible assumption) (by with_reducible assumption) (by with_reducible assumption)) (by decide) ?_) | ((k_here; (with_reducible show wpAny _ _ (subscriptTail _ _ (Value.ref _) (Value.int _ _)) _ _ _); k_dflt (refine item_anyK (by is_list) (by with_reducible assumption) (by with_reducible first | assumption | exact z6 (by with_reducible assumption)) (by with_reducible first | exact z7 (by with_reducible assumption) (by with_reducible assumption) | exact a2 (by with_reducible assumption) | exact b5 (by with_reducible assumption) (by with_reducible assumption)) (by with_reducible first | exact z8 (by with_reducible assumption) (by with_reducible assumption) (by with_reducible assumption) | exact a3 (by with_reducible assumption) (by with_reducible assumption) | exact b3 (by with_reducible assumption) (by with_reducible assumption) (by with_reducible assumption)) (fun _ => ?_)))) | walk1)) | (k_end; dsimp only; k_unfold; (try dsimp only)))
      simp only [List.push_toArray] at N3
      refine tend [_] [_, _, _, _, _, _, _, _, _, _] F3 N3 rfl ?_
      refine ⟨ws ++ [_], _, _, rfl, ?_, ⟨_, by assumption⟩, rfl⟩
      rw [List.range_succ, List.map_append]
      refine hws.append ?_
      rw [show (0 + (i : Int) + 1 - 0).toNat = i + 1 from by omega, show (0 + (i : Int)) = i from by omega]
      exact .cons _ _ .nil
    case done2 =>
      intro m1 nx h2 tk2 hJ F1 N1
      obtain ⟨ws, ep2, os, rfl, hws, ⟨vs', hvs'⟩, rfl⟩ := hJ
      clear Fa Na Ka F9 N9 R9
      have F2 : Fr s.heap L' h2 _ := F1
      have N2 : News s.heap L' h2 _ := N1
      clear F1 N1
      repeat' (first | (k_unfold; (try dsimp only)) | (k_end; wrow_close) | (dsimp only; (first | ((k_here; (with_reducible show wpAny _ _ (call (Value.ref 144) _) _ _ _); k_dflt ((with_reducible rename Fr _ _ _ _ => kF); (with_reducible rename News _ _ _ _ => kN); refine ways_int (Cx.push (by k_asm) kF (by k_asm) (by k_asm) rfl rfl rfl) (dlt (by with_reducible assumption) (by decide)) (ult (by with_reducible assumption) (by decide)) (by first | exact z3 (by with_reducible assumption) (by with_reducible assumption) | exact b1 (by with_reducible assumption) (by with_reducible assumption) (by with_reducible assumption) (by with_reducible assumption)) (by first | exact z4 (by with_reducible assumption) (by with_reducible assumption) (by with_reducible assumption) (by with_reducible assumption) | exact a1 (by with_reducible assumption) (by with_reducible assumption) (by with_reducible assumption) | exact b2 (by with_reducible assumption) (by with_reducible assumption) (by with_reducible assumption) (by with_reducible assumption) (by with_reducible assumption)) ?_; intro t' h' tk' hK'; have F' := Fr.keeps kF hK'; have N' := News.grown kN hK'; clear kF kN); (try dsimp only); (try k_fold))) | (with_reducible refine pow_int_small (by first | exact z1 (by with_reducible assumption) | exact b4 (by with_reducible assumption)) (by first | exact z2 (by with_reducible assumption) (by with_reducible assumption) | exact b6 (by with_reducible assumption) (by with_reducible assumption) (by with_reducible assumption)) (by decide) ?_) | ((k_here; (with_reducible show wpAny _ _ (subscriptTail _ _ (Value.ref _) (Value.int _ _)) _ _ _); k_dflt (refine item_anyK (by is_list) (by with_reducible assumption) (by with_reducible first | assumption | exact z6 (by with_reducible assumption)) (by with_reducible first | exact z7 (by with_reducible assumption) (by with_reducible assumption) | exact a2 (by with_reducible assumption) | exact b5 (by with_reducible assumption) (by with_reducible assumption)) (by with_reducible first | exact z8 (by with_reducible assumption) (by with_reducible assumption) (by with_reducible assumption) | exact a3 (by with_reducible assumption) (by with_reducible assumption) | exact b3 (by with_reducible assumption) (by with_reducible assumption) (by with_reducible assumption)) (fun _ => ?_)))) | walk1)) | ((first | ((k_here; (with_reducible show wpAny _ _ (call (Value.ref 144) _) _ _ _); k_dflt ((with_reducible rename Fr _ _ _ _ => kF); (with_reducible rename News _ _ _ _ => kN); refine ways_int (Cx.push (by k_asm) kF (by k_asm) (by k_asm) rfl rfl rfl) (dlt (by with_reducible assumption) (by decide)) (ult (by with_reducible assumption) (by decide)) (by first | exact z3 (by with_reducible assumption) (by with_reducible assumption) | exact b1 (by with_reducible assumption) (by with_reducible assumption) (by with_reducible assumption) (by with_reducible assumption)) (by first | exact z4 (by with_reducible assumption) (by with_reducible assumption) (by with_reducible assumption) (by with_reducible assumption) | exact a1 (by with_reducible assumption) (by with_reducible assumption) (by with_reducible assumption) | exact b2 (by with_reducible assumption) (by with_reducible assumption) (by with_reducible assumption) (by with_reducible assumption) (by with_reducible assumption)) ?_; intro t' h' tk' hK'; have F' := Fr.keeps kF hK'; have N' := News.grown kN hK'; clear kF kN); (try dsimp only); (try k_fold))) | (with_reducible refine pow_int_small (by first | exact z1 (by with_reducible assumption) | exact b4 (by with_reducible assumption)) (by first | exact z2 (by with_reducible assumption) (by with_reducible assumption) | exact b6 (by with_reducible assumption) (by with_reducible assumption) (by with_reducible assumption)) (by decide) ?_) | ((k_here; (with_reducible show wpAny _ _ (subscriptTail _ _ (Value.ref _) (Value.int _ _)) _ _ _); k_dflt (refine item_anyK (by is_list) (by with_reducible assumption) (by with_reducible first | assumption | exact z6 (by with_reducible assumption)) (by with_reducible first | exact z7 (by with_reducible assumption) (by with_reducible assumption) | exact a2 (by with_reducible assumption) | exact b5 (by with_reducible assumption) (by with_reducible assumption)) (by with_reducible first | exact z8 (by with_reducible assumption) (by with_reducible assumption) (by with_reducible assumption) | exact a3 (by with_reducible assumption) (by with_reducible assumption) | exact b3 (by with_reducible assumption) (by with_reducible assumption) (by with_reducible assumption)) (fun _ => ?_)))) | walk1)) | (k_end; dsimp only; k_unfold; (try dsimp only)))
      refine ListComp_Z F2 (by with_unfolding_all rfl) (by intro k; rfl) (by intro h; rfl) rfl (by intro _ _; rfl) (by decide) ?_
      repeat' (first | (k_unfold; (try dsimp only)) | (k_end; wrow_close) | (dsimp only; (first | ((k_here; (with_reducible show wpAny _ _ (call (Value.ref 144) _) _ _ _); k_dflt ((with_reducible rename Fr _ _ _ _ => kF); (with_reducible rename News _ _ _ _ => kN); refine ways_int (Cx.push (by k_asm) kF (by k_asm) (by k_asm) rfl rfl rfl) (dlt (by with_reducible assumption) (by decide)) (ult (by with_reducible assumption) (by decide)) (by first | exact z3 (by with_reducible assumption) (by with_reducible assumption) | exact b1 (by with_reducible assumption) (by with_reducible assumption) (by with_reducible assumption) (by with_reducible assumption)) (by first | exact z4 (by with_reducible assumption) (by with_reducible assumption) (by with_reducible assumption) (by with_reducible assumption) | exact a1 (by with_reducible assumption) (by with_reducible assumption) (by with_reducible assumption) | exact b2 (by with_reducible assumption) (by with_reducible assumption) (by with_reducible assumption) (by with_reducible assumption) (by with_reducible assumption)) ?_; intro t' h' tk' hK'; have F' := Fr.keeps kF hK'; have N' := News.grown kN hK'; clear kF kN); (try dsimp only); (try k_fold))) | (with_reducible refine pow_int_small (by first | exact z1 (by with_reducible assumption) | exact b4 (by with_reducible assumption)) (by first | exact z2 (by with_reducible assumption) (by with_reducible assumption) | exact b6 (by with_reducible assumption) (by with_reducible assumption) (by with_reducible assumption)) (by decide) ?_) | ((k_here; (with_reducible show wpAny _ _ (subscriptTail _ _ (Value.ref _) (Value.int _ _)) _ _ _); k_dflt (refine item_anyK (by is_list) (by with_reducible assumption) (by with_reducible first | assumption | exact z6 (by with_reducible assumption)) (by with_reducible first | exact z7 (by with_reducible assumption) (by with_reducible assumption) | exact a2 (by with_reducible assumption) | exact b5 (by with_reducible assumption) (by with_reducible assumption)) (by with_reducible first | exact z8 (by with_reducible assumption) (by with_reducible assumption) (by with_reducible assumption) | exact a3 (by with_reducible assumption) (by with_reducible assumption) | exact b3 (by with_reducible assumption) (by with_reducible assumption) (by with_reducible assumption)) (fun _ => ?_)))) | walk1)) | ((first | ((k_here; (with_reducible show wpAny _ _ (call (Value.ref 144) _) _ _ _); k_dflt ((with_reducible rename Fr _ _ _ _ => kF); (with_reducible rename News _ _ _ _ => kN); refine ways_int (Cx.push (by k_asm) kF (by k_asm) (by k_asm) rfl rfl rfl) (dlt (by with_reducible assumption) (by decide)) (ult (by with_reducible assumption) (by decide)) (by first | exact z3 (by with_reducible assumption) (by with_reducible assumption) | exact b1 (by with_reducible assumption) (by with_reducible assumption) (by with_reducible assumption) (by with_reducible assumption)) (by first | exact z4 (by with_reducible assumption) (by with_reducible assumption) (by with_reducible assumption) (by with_reducible assumption) | exact a1 (by with_reducible assumption) (by with_reducible assumption) (by with_reducible assumption) | exact b2 (by with_reducible assumption) (by with_reducible assumption) (by with_reducible assumption) (by with_reducible assumption) (by with_reducible assumption)) ?_; intro t' h' tk' hK'; have F' := Fr.keeps kF hK'; have N' := News.grown kN hK'; clear kF kN); (try dsimp only); (try k_fold))) | (with_reducible refine pow_int_small (by first | exact z1 (by with_reducible assumption) | exact b4 (by with_reducible assumption)) (by first | exact z2 (by with_reducible assumption) (by with_reducible assumption) | exact b6 (by with_reducible assumption) (by with_reducible assumption) (by with_reducible assumption)) (by decide) ?_) | ((k_here; (with_reducible show wpAny _ _ (subscriptTail _ _ (Value.ref _) (Value.int _ _)) _ _ _); k_dflt (refine item_anyK (by is_list) (by with_reducible assumption) (by with_reducible first | assumption | exact z6 (by with_reducible assumption)) (by with_reducible first | exact z7 (by with_reducible assumption) (by with_reducible assumption) | exact a2 (by with_reducible assumption) | exact b5 (by with_reducible assumption) (by with_reducible assumption)) (by with_reducible first | exact z8 (by with_reducible assumption) (by with_reducible assumption) (by with_reducible assumption) | exact a3 (by with_reducible assumption) (by with_reducible assumption) | exact b3 (by with_reducible assumption) (by with_reducible assumption) (by with_reducible assumption)) (fun _ => ?_)))) | walk1)) | (k_end; dsimp only; k_unfold; (try dsimp only)))
      refine ZSrc.intro rfl (by k_asm) (by k_asm) (by k_asm) (range_small _ (by omega)) (range_size _) (by simp only [sizeLine]; omega) (fun i ys => IntsAre ys ((List.range i).map (openF ks ss low base))) .nil ?stepZ ?finZ
      case stepZ =>
        intro i ys I C Z D oI oC oZ h3 tk3 t3 E3 hi hys hoZ F3 N3
        repeat' (first | (k_unfold; (try dsimp only)) | (k_end; wrow_close) | ((fail_if_success (with_reducible show wpAny _ _ (PySem.eval (Expr.ListComp _ _ _ _) _) _ _ _)); dsimp only; (first | ((k_here; (with_reducible show wpAny _ _ (call (Value.ref 144) _) _ _ _); k_dflt ((with_reducible rename Fr _ _ _ _ => kF); (with_reducible rename News _ _ _ _ => kN); refine ways_int (Cx.push (by k_asm) kF (by k_asm) (by k_asm) rfl rfl rfl) (dlt (by with_reducible assumption) (by decide)) (ult (by with_reducible assumption) (by decide)) (by first | exact z3 (by with_reducible assumption) (by with_reducible assumption) | exact b1 (by with_reducible assumption) (by with_reducible assumption) (by with_reducible assumption) (by with_reducible assumption)) (by first | exact z4 (by with_reducible assumption) (by with_reducible assumption) (by with_reducible assumption) (by with_reducible assumption) | exact a1 (by with_reducible assumption) (by with_reducible assumption) (by with_reducible assumption) | exact b2 (by with_reducible assumption) (by with_reducible assumption) (by with_reducible assumption) (by with_reducible assumption) (by with_reducible assumption)) ?_; intro t' h' tk' hK'; have F' := Fr.keeps kF hK'; have N' := News.grown kN hK'; clear kF kN); (try dsimp only); (try k_fold))) | (with_reducible refine pow_int_small (by first | exact z1 (by with_reducible assumption) | exact b4 (by with_reducible assumption)) (by first | exact z2 (by with_reducible assumption) (by with_reducible assumption) | exact b6 (by with_reducible assumption) (by with_reducible assumption) (by with_reducible assumption)) (by decide) ?_) | ((k_here; (with_reducible show wpAny _ _ (subscriptTail _ _ (Value.ref _) (Value.int _ _)) _ _ _); k_dflt (refine item_anyK (by is_list) (by with_reducible assumption) (by with_reducible first | assumption | exact z6 (by with_reducible assumption)) (by with_reducible first | exact z7 (by with_reducible assumption) (by with_reducible assumption) | exact a2 (by with_reducible assumption) | exact b5 (by with_reducible assumption) (by with_reducible assumption)) (by with_reducible first | exact z8 (by with_reducible assumption) (by with_reducible assumption) (by with_reducible assumption) | exact a3 (by with_reducible assumption) (by with_reducible assumption) | exact b3 (by with_reducible assumption) (by with_reducible assumption) (by with_reducible assumption)) (fun _ => ?_)))) | walk1)) | ((fail_if_success (with_reducible show wpAny _ _ (PySem.eval (Expr.ListComp _ _ _ _) _) _ _ _)); (first | ((k_here; (with_reducible show wpAny _ _ (call (Value.ref 144) _) _ _ _); k_dflt ((with_reducible rename Fr _ _ _ _ => kF); (with_reducible rename News _ _ _ _ => kN); refine ways_int (Cx.push (by k_asm) kF (by k_asm) (by k_asm) rfl rfl rfl) (dlt (by with_reducible assumption) (by decide)) (ult (by with_reducible assumption) (by decide)) (by first | exact z3 (by with_reducible assumption) (by with_reducible assumption) | exact b1 (by with_reducible assumption) (by with_reducible assumption) (by with_reducible assumption) (by with_reducible assumption)) (by first | exact z4 (by with_reducible assumption) (by with_reducible assumption) (by with_reducible assumption) (by with_reducible assumption) | exact a1 (by with_reducible assumption) (by with_reducible assumption) (by with_reducible assumption) | exact b2 (by with_reducible assumption) (by with_reducible assumption) (by with_reducible assumption) (by with_reducible assumption) (by with_reducible assumption)) ?_; intro t' h' tk' hK'; have F' := Fr.keeps kF hK'; have N' := News.grown kN hK'; clear kF kN); (try dsimp only); (try k_fold))) | (with_reducible refine pow_int_small (by first | exact z1 (by with_reducible assumption) | exact b4 (by with_reducible assumption)) (by first | exact z2 (by with_reducible assumption) (by with_reducible assumption) | exact b6 (by with_reducible assumption) (by with_reducible assumption) (by with_reducible assumption)) (by decide) ?_) | ((k_here; (with_reducible show wpAny _ _ (subscriptTail _ _ (Value.ref _) (Value.int _ _)) _ _ _); k_dflt (refine item_anyK (by is_list) (by with_reducible assumption) (by with_reducible first | assumption | exact z6 (by with_reducible assumption)) (by with_reducible first | exact z7 (by with_reducible assumption) (by with_reducible assumption) | exact a2 (by with_reducible assumption) | exact b5 (by with_reducible assumption) (by with_reducible assumption)) (by with_reducible first | exact z8 (by with_reducible assumption) (by with_reducible assumption) (by with_reducible assumption) | exact a3 (by with_reducible assumption) (by with_reducible assumption) | exact b3 (by with_reducible assumption) (by with_reducible assumption) (by with_reducible assumption)) (fun _ => ?_)))) | walk1)) | (k_end; dsimp only; k_unfold; (try dsimp only)))
        refine LCg.ListComp_U (F₀ := F3) (by with_unfolding_all rfl) (by decide) (by rfl) (by decide) (by rfl) ?_
        repeat' (first | (k_unfold; (try dsimp only)) | (k_end; wrow_close) | (dsimp only; (first | ((k_here; (with_reducible show wpAny _ _ (call (Value.ref 144) _) _ _ _); k_dflt ((with_reducible rename Fr _ _ _ _ => kF); (with_reducible rename News _ _ _ _ => kN); refine ways_int (Cx.push (by k_asm) kF (by k_asm) (by k_asm) rfl rfl rfl) (dlt (by with_reducible assumption) (by decide)) (ult (by with_reducible assumption) (by decide)) (by first | exact z3 (by with_reducible assumption) (by with_reducible assumption) | exact b1 (by with_reducible assumption) (by with_reducible assumption) (by with_reducible assumption) (by with_reducible assumption)) (by first | exact z4 (by with_reducible assumption) (by with_reducible assumption) (by with_reducible assumption) (by with_reducible assumption) | exact a1 (by with_reducible assumption) (by with_reducible assumption) (by with_reducible assumption) | exact b2 (by with_reducible assumption) (by with_reducible assumption) (by with_reducible assumption) (by with_reducible assumption) (by with_reducible assumption)) ?_; intro t' h' tk' hK'; have F' := Fr.keeps kF hK'; have N' := News.grown kN hK'; clear kF kN); (try dsimp only); (try k_fold))) | (with_reducible refine pow_int_small (by first | exact z1 (by with_reducible assumption) | exact b4 (by with_reducible assumption)) (by first | exact z2 (by with_reducible assumption) (by with_reducible assumption) | exact b6 (by with_reducible assumption) (by with_reducible assumption) (by with_reducible assumption)) (by decide) ?_) | ((k_here; (with_reducible show wpAny _ _ (subscriptTail _ _ (Value.ref _) (Value.int _ _)) _ _ _); k_dflt (refine item_anyK (by is_list) (by with_reducible assumption) (by with_reducible first | assumption | exact z6 (by with_reducible assumption)) (by with_reducible first | exact z7 (by with_reducible assumption) (by with_reducible assumption) | exact a2 (by with_reducible assumption) | exact b5 (by with_reducible assumption) (by with_reducible assumption)) (by with_reducible first | exact z8 (by with_reducible assumption) (by with_reducible assumption) (by with_reducible assumption) | exact a3 (by with_reducible assumption) (by with_reducible assumption) | exact b3 (by with_reducible assumption) (by with_reducible assumption) (by with_reducible assumption)) (fun _ => ?_)))) | walk1)) | ((first | ((k_here; (with_reducible show wpAny _ _ (call (Value.ref 144) _) _ _ _); k_dflt ((with_reducible rename Fr _ _ _ _ => kF); (with_reducible rename News _ _ _ _ => kN); refine ways_int (Cx.push (by k_asm) kF (by k_asm) (by k_asm) rfl rfl rfl) (dlt (by with_reducible assumption) (by decide)) (ult (by with_reducible assumption) (by decide)) (by first | exact z3 (by with_reducible assumption) (by with_reducible assumption) | exact b1 (by with_reducible assumption) (by with_reducible assumption) (by with_reducible assumption) (by with_reducible assumption)) (by first | exact z4 (by with_reducible assumption) (by with_reducible assumption) (by with_reducible assumption) (by with_reducible assumption) | exact a1 (by with_reducible assumption) (by with_reducible assumption) (by with_reducible assumption) | exact b2 (by with_reducible assumption) (by with_reducible assumption) (by with_reducible assumption) (by with_reducible assumption) (by with_reducible assumption)) ?_; intro t' h' tk' hK'; have F' := Fr.keeps kF hK'; have N' := News.grown kN hK'; clear kF kN); (try dsimp only); (try k_fold))) | (with_reducible refine pow_int_small (by first | exact z1 (by with_reducible assumption) | exact b4 (by with_reducible assumption)) (by first | exact z2 (by with_reducible assumption) (by with_reducible assumption) | exact b6 (by with_reducible assumption) (by with_reducible assumption) (by with_reducible assumption)) (by decide) ?_) | ((k_here; (with_reducible show wpAny _ _ (subscriptTail _ _ (Value.ref _) (Value.int _ _)) _ _ _); k_dflt (refine item_anyK (by is_list) (by with_reducible assumption) (by with_reducible first | assumption | exact z6 (by with_reducible assumption)) (by with_reducible first | exact z7 (by with_reducible assumption) (by with_reducible assumption) | exact a2 (by with_reducible assumption) | exact b5 (by with_reducible assumption) (by with_reducible assumption)) (by with_reducible first | exact z8 (by with_reducible assumption) (by with_reducible assumption) (by with_reducible assumption) | exact a3 (by with_reducible assumption) (by with_reducible assumption) | exact b3 (by with_reducible assumption) (by with_reducible assumption) (by with_reducible assumption)) (fun _ => ?_)))) | walk1)) | (k_end; dsimp only; k_unfold; (try dsimp only)))
        refine ⟨_, _, rfl, by k_asm, ?_, ?_⟩
        · rename News _ _ _ _ => N9; exact fun p hp => N9 p (List.mem_cons_of_mem _ hp)
        · rw [List.range_succ, List.map_append]
          refine hys.append ?_
          rw [show (0 + (i : Int)).toNat = i from by omega, show ((ss.length : Int) - (0 + (i : Int))).toNat = ss.length - i from by omega, show 0 + (i : Int) = (i : Int) from by omega]
          exact .cons _ _ .nil
      case finZ =>
        intro ys D h3 tk3 hys F3 N3
        repeat' (first | (k_unfold; (try dsimp only)) | (k_end; wrow_close) | (dsimp only; (first | ((k_here; (with_reducible show wpAny _ _ (call (Value.ref 144) _) _ _ _); k_dflt ((with_reducible rename Fr _ _ _ _ => kF); (with_reducible rename News _ _ _ _ => kN); refine ways_int (Cx.push (by k_asm) kF (by k_asm) (by k_asm) rfl rfl rfl) (dlt (by with_reducible assumption) (by decide)) (ult (by with_reducible assumption) (by decide)) (by first | exact z3 (by with_reducible assumption) (by with_reducible assumption) | exact b1 (by with_reducible assumption) (by with_reducible assumption) (by with_reducible assumption) (by with_reducible assumption)) (by first | exact z4 (by with_reducible assumption) (by with_reducible assumption) (by with_reducible assumption) (by with_reducible assumption) | exact a1 (by with_reducible assumption) (by with_reducible assumption) (by with_reducible assumption) | exact b2 (by with_reducible assumption) (by with_reducible assumption) (by with_reducible assumption) (by with_reducible assumption) (by with_reducible assumption)) ?_; intro t' h' tk' hK'; have F' := Fr.keeps kF hK'; have N' := News.grown kN hK'; clear kF kN); (try dsimp only); (try k_fold))) | (with_reducible refine pow_int_small (by first | exact z1 (by with_reducible assumption) | exact b4 (by with_reducible assumption)) (by first | exact z2 (by with_reducible assumption) (by with_reducible assumption) | exact b6 (by with_reducible assumption) (by with_reducible assumption) (by with_reducible assumption)) (by decide) ?_) | ((k_here; (with_reducible show wpAny _ _ (subscriptTail _ _ (Value.ref _) (Value.int _ _)) _ _ _); k_dflt (refine item_anyK (by is_list) (by with_reducible assumption) (by with_reducible first | assumption | exact z6 (by with_reducible assumption)) (by with_reducible first | exact z7 (by with_reducible assumption) (by with_reducible assumption) | exact a2 (by with_reducible assumption) | exact b5 (by with_reducible assumption) (by with_reducible assumption)) (by with_reducible first | exact z8 (by with_reducible assumption) (by with_reducible assumption) (by with_reducible assumption) | exact a3 (by with_reducible assumption) (by with_reducible assumption) | exact b3 (by with_reducible assumption) (by with_reducible assumption) (by with_reducible assumption)) (fun _ => ?_)))) | walk1)) | ((first | ((k_here; (with_reducible show wpAny _ _ (call (Value.ref 144) _) _ _ _); k_dflt ((with_reducible rename Fr _ _ _ _ => kF); (with_reducible rename News _ _ _ _ => kN); refine ways_int (Cx.push (by k_asm) kF (by k_asm) (by k_asm) rfl rfl rfl) (dlt (by with_reducible assumption) (by decide)) (ult (by with_reducible assumption) (by decide)) (by first | exact z3 (by with_reducible assumption) (by with_reducible assumption) | exact b1 (by with_reducible assumption) (by with_reducible assumption) (by with_reducible assumption) (by with_reducible assumption)) (by first | exact z4 (by with_reducible assumption) (by with_reducible assumption) (by with_reducible assumption) (by with_reducible assumption) | exact a1 (by with_reducible assumption) (by with_reducible assumption) (by with_reducible assumption) | exact b2 (by with_reducible assumption) (by with_reducible assumption) (by with_reducible assumption) (by with_reducible assumption) (by with_reducible assumption)) ?_; intro t' h' tk' hK'; have F' := Fr.keeps kF hK'; have N' := News.grown kN hK'; clear kF kN); (try dsimp only); (try k_fold))) | (with_reducible refine pow_int_small (by first | exact z1 (by with_reducible assumption) | exact b4 (by with_reducible assumption)) (by first | exact z2 (by with_reducible assumption) (by with_reducible assumption) | exact b6 (by with_reducible assumption) (by with_reducible assumption) (by with_reducible assumption)) (by decide) ?_) | ((k_here; (with_reducible show wpAny _ _ (subscriptTail _ _ (Value.ref _) (Value.int _ _)) _ _ _); k_dflt (refine item_anyK (by is_list) (by with_reducible assumption) (by with_reducible first | assumption | exact z6 (by with_reducible assumption)) (by with_reducible first | exact z7 (by with_reducible assumption) (by with_reducible assumption) | exact a2 (by with_reducible assumption) | exact b5 (by with_reducible assumption) (by with_reducible assumption)) (by with_reducible first | exact z8 (by with_reducible assumption) (by with_reducible assumption) (by with_reducible assumption) | exact a3 (by with_reducible assumption) (by with_reducible assumption) | exact b3 (by with_reducible assumption) (by with_reducible assumption) (by with_reducible assumption)) (fun _ => ?_)))) | walk1)) | (k_end; dsimp only; k_unfold; (try dsimp only)))
        exact h _ _ _ _ F3.keep (N3 _ List.mem_cons_self).2.2 (N3 _ List.mem_cons_self).1 hys
end
section
open PySem PySem.W PyProof.Rows PySem.Calls
set_option maxRecDepth 100000
open LCg
section
variable {prog : Program} {w : World} {A : Around} {E : Value → Shared → Prop} {s : Shared} {h₀ : Heap} {L : Addr} {m : Str → Option Value} {env : Env}
theorem GSrc.zip {elt : Expr} {ifs : List Expr} {x y : Str} {px py pt : Pos} {k : Nat} {scope : Scope} {cl : List (Str × Addr)} {Fin : List (Addr × Obj) → List Value → Addr → Shared → Prop} {l1 l2 : Addr} {xs ys : Array Value} {news : List (Addr × Obj)}
    (hx : scope.names.lookup x = some .local) (hy : scope.names.lookup y = some .local) (hxy : x ≠ y) (hkind : scope.kind = .function)
    (hh : A.handled = none) (F : Fr h₀ L s.heap m) (N : News h₀ L s.heap news) (hl1 : s.heap.IsList l1 xs) (hl2 : s.heap.IsList l2 ys) (hsz : xs.size ≤ sizeLine) (J : Nat → List Value → Prop) (h0 : J 0 [])
    (step : ∀ g i zs va vb C D oC m₂ h tk (E' : Value → Shared → Prop), xs[i]? = some va → ys[i]? = some vb → J i zs → m₂ x = some va → m₂ y = some vb → NsObj oC m₂ → Fr h₀ L h m → News h₀ L h ((C, oC) :: (D, lst zs) :: news) →
      wpAny (model prog w) A (forIn ifs true fun c r => if r = true then do let ok ← isTrue c (compEnvC scope cl C env) (eval c (compEnvC scope cl C env)); pure (ForInStep.yield ok) else pure (ForInStep.yield r)) (fun ok s₃ =>
        if ok = true then wpAny (model prog w) A (eval elt (compEnvC scope cl C env)) (KEnd { { s with heap := g } with heap := h, toks := tk } (fun y => J (i + 1) (zs ++ [y]))) E' s₃
        else KEnd { { s with heap := g } with heap := h, toks := tk } (fun _ => J (i + 1) zs) Value.none s₃) E' { { s with heap := g } with heap := h, toks := tk })
    (fin : ∀ g D h tk zs, Fr h₀ L h m → News h₀ L h ((D, lst zs) :: news) → (∀ p ∈ news, @LT.lt Nat _ p.1 D) → J (min xs.size ys.size) zs → Fin news zs D { { s with heap := g } with heap := h, toks := tk }) :
    wpAny (model prog w) A (call (.type "zip") [.ref l1, .ref l2]) (GSrc prog w A E h₀ L m env elt (.Tuple [.Name x px, .Name y py] k pt) ifs scope cl Fin) E s := by
  have a1 : l1 < s.heap.objs.size := by obtain ⟨_, e, _⟩ := hl1; exact Heap.lt_size e
  have a2 : l2 < s.heap.objs.size := by obtain ⟨_, e, _⟩ := hl2; exact Heap.lt_size e
  have hLs : L < s.heap.objs.size := F.ns.lt
  refine call_zip_2 hl1 hl2 fun h' hz hTI hTO hit1 hit2 hs5 hk => ?_
  have F' : Fr h₀ L h' m := F.keeps hk
  have N' : News h₀ L h' news := N.grown hk
  have up : ∀ (j : Nat) (b : Addr), b < s.heap.objs.size → b ≠ s.heap.objs.size + j := fun j b hb => Nat.ne_of_lt (Nat.lt_of_lt_of_le hb (Nat.le_add_right _ j))
  have fresh : ∀ j : Nat, h₀.get? (s.heap.objs.size + j) = none := fun j => Heap.get?_none_of_le (Nat.le_trans F.above (Nat.le_trans (Nat.le_of_lt hLs) (Nat.le_add_right _ j)))
  unfold GSrc
  refine wpAny_pyIter_zip hz ?_
  refine ⟨_, _, _, _, _, _, news, J, rfl, Steps.pair (WalksT.zip2 hh _ _ _ _ _ l1 l2 (zipApart_new a1 a2) xs ys) (P := fun i a b => xs[i]? = some a ∧ ys[i]? = some b) ?_ hh (by simp) hx hy hxy hkind, Nat.le_trans (Nat.min_le_left ..) hsz, ⟨hz, hTI, ⟨_, _, hTO⟩, hit1, hit2, hl1.at fun o e => hk l1 o e, hl2.at fun o e => hk l2 o e⟩, ?_, F', N', ?_, ?_, ?_, h0, ?_, ?_⟩
  · rintro i vals ⟨a, b, ha, hb, rfl⟩
    exact ⟨a, b, rfl, ha, hb⟩
  · intro b hb
    show b < h'.objs.size
    rw [hs5]
    simp only [List.mem_cons, List.not_mem_nil, or_false] at hb
    have q : ∀ j, j < 5 → s.heap.objs.size + j < s.heap.objs.size + 5 := fun j hj => Nat.add_lt_add_left hj _
    rcases hb with rfl | rfl | rfl | rfl | rfl | rfl | rfl
    · exact q 4 (by decide)
    · exact q 2 (by decide)
    · exact q 3 (by decide)
    · exact q 0 (by decide)
    · exact q 1 (by decide)
    · exact Nat.lt_of_lt_of_le a1 (Nat.le_add_right _ _)
    · exact Nat.lt_of_lt_of_le a2 (Nat.le_add_right _ _)
  · intro hb
    simp only [List.mem_cons, List.not_mem_nil, or_false] at hb
    rcases hb with e | e | e | e
    · exact up 4 L hLs e
    · exact up 3 L hLs e
    · exact up 0 L hLs e
    · exact up 1 L hLs e
  · intro b hb
    simp only [List.mem_cons, List.not_mem_nil, or_false] at hb
    rcases hb with rfl | rfl | rfl | rfl
    · exact fresh 4
    · exact fresh 3
    · exact fresh 0
    · exact fresh 1
  · intro p hp hb
    have hlt := Heap.lt_size (N p hp).1
    simp only [List.mem_cons, List.not_mem_nil, or_false] at hb
    rcases hb with e | e | e | e
    · exact up 4 _ hlt e
    · exact up 3 _ hlt e
    · exact up 0 _ hlt e
    · exact up 1 _ hlt e
  · intro i zs C D oC m₂ h tk E' hi hJ hB hC F₂ N₂
    obtain ⟨a, b, ⟨ha, hb⟩, h1, h2⟩ := hB
    exact step _ i zs a b C D oC m₂ h tk E' ha hb hJ h1 h2 hC F₂ N₂
  · intro D h tk zs F₂ N₂ o hJ
    exact fin _ D h tk zs F₂ N₂ o hJ
end
end
section
open PySem PySem.W PyProof.Rows PySem.Calls
set_option maxRecDepth 100000
set_option maxHeartbeats 8000000

structure DomPre (x : Str) (n : Nat) : Prop where
  n16 : n ≤ 16
  g : ∀ i, i < n → (domLoop x i).2.length ≤ 1000 ∧ (Txt.slice (domLoop x i).2 (some (Txt.find (domLoop x i).2 (Str.ofString ".") + 1)) none).length ≤ 1000 ∧ noDD (domLoop x i).2.cps ∧ (reachF (domLoop x i).2).length ≤ 1000
  up : (domLoop x n).1.length ≤ 1000
noncomputable def domF (x : Str) (n : Nat) : Str := Txt.upper (domLoop x n).1
structure ParPre (hs : List Str) (d : Str) : Prop where
  d1 : d.length ≤ 1000
  d2 : (Txt.lower d).length ≤ 1000
  d3 : (Txt.slice (Txt.lower d) (some 1) none).length ≤ 1000
  d4 : noDD (Txt.slice (Txt.lower d) (some 1) none).cps
  g : ∀ x ∈ hs, x.length ≤ 1000 ∧ (Txt.lower x).length ≤ 1000 ∧ noDD (Txt.lower x).cps
noncomputable def hostsL (b : Array UInt8) (pl : Nat) : List Str := (List.range 21).map fun i => hostF (rowF b pl i)
noncomputable def dueB (fr : Nat) (n : Int) : Bool := n.fdiv 16 == (fr : Int).fdiv 16
noncomputable def dueL (fr sz : Nat) : List Int := (numL fr sz).filter (dueB fr)
noncomputable def endsL (b : Array UInt8) (pl fr sz : Nat) : List Str := (((numL fr sz).zip ((hostsL b pl).drop 3)).filter fun p => decide (p.1 ∈ dueL fr sz)).map (·.2)
noncomputable def leastN (c1 bs lo : Nat) : Nat := c1 % bs ^ lo
noncomputable def leftB (c1 bs lo : Nat) (n : Int) : Bool := n.fmod ((bs ^ lo : Nat) : Int) == ((leastN c1 bs lo : Nat) : Int)
noncomputable def leftL (fr sz c1 bs lo : Nat) : List Int := (dueL fr sz).filter (leftB c1 bs lo)
noncomputable def parOk (ns : List Int) (hs : List Str) (d : Str) (ds : List Int) : Bool := (ns.zip hs).all fun p => dmB p.2 d == decide (p.1 ∈ ds)
/-- what the two first looks ask -/
structure PlainD (bs lo hg pl sz c1 fr : Nat) (fo to : Array UInt8) : Prop where
  p1 : DomPre (hostF (rowF fo pl 0)) (pl - hg)
  q1 : ParPre ((hostsL fo pl).drop 3) (domF (hostF (rowF fo pl 0)) (pl - hg))
  r1 : parOk (numL fr sz) ((hostsL fo pl).drop 3) (domF (hostF (rowF fo pl 0)) (pl - hg)) (dueL fr sz) = true
  p2 : DomPre (hostF (rowF to pl 1)) (pl - lo)
  q2 : ParPre (endsL to pl fr sz) (domF (hostF (rowF to pl 1)) (pl - lo))
  r2 : parOk (dueL fr sz) (endsL to pl fr sz) (domF (hostF (rowF to pl 1)) (pl - lo)) (leftL fr sz c1 bs lo) = true
  len : (dueL fr sz).length = (endsL to pl fr sz).length
theorem any_mem {l : List Int} {a : Int} : (l.any fun x => x == a) = decide (a ∈ l) := by
  rw [Bool.eq_iff_iff, List.any_eq_true, decide_eq_true_iff]
  exact ⟨fun ⟨y, hy, e⟩ => by rw [← beq_iff_eq.mp e]; exact hy, fun hy => ⟨a, hy, beq_self_eq_true _⟩⟩
theorem zfilt_snoc {L : List (Int × Str)} {p : Int × Str → Bool} {i : Nat} {a : Int} {b : Str} {t : Tok} {us : List Value} (h : L[i]? = some (a, b)) (hp : p (a, b) = true) (hJ : StrsAre us (((L.take i).filter p).map (·.2))) : StrsAre (us ++ [.str b t]) (((L.take (i + 1)).filter p).map (·.2)) := by
  rw [List.take_add_one, h, List.filter_append, List.map_append]
  simp only [Option.toList_some, List.filter_cons, hp, if_true, List.filter_nil]
  exact strs_appendM hJ (.cons _ _ .nil)
theorem zfilt_skip {L : List (Int × Str)} {p : Int × Str → Bool} {i : Nat} {a : Int} {b : Str} {us : List Value} (h : L[i]? = some (a, b)) (hp : p (a, b) = false) (hJ : StrsAre us (((L.take i).filter p).map (·.2))) : StrsAre us (((L.take (i + 1)).filter p).map (·.2)) := by
  rw [List.take_add_one, h, List.filter_append, List.map_append]
  simp only [Option.toList_some, List.filter_cons, hp, Bool.false_eq_true, if_false, List.filter_nil, List.map_nil, List.append_nil]
  exact hJ
theorem strs_val {vs : List Value} {xs : List Str} (h : StrsAre vs xs) : ∀ (i : Nat) v, vs[i]? = some v → ∃ x t, xs[i]? = some x ∧ v = .str x t := by
  induction h with
  | nil => intro i x hx; simp at hx
  | cons y t _ ih =>
    intro i x hx
    cases i with
    | zero => simp at hx; subst hx; exact ⟨y, t, rfl, rfl⟩
    | succ i => exact ih i x (by simpa using hx)
theorem strs_get {vs : List Value} {xs : List Str} (h : StrsAre vs xs) : ∀ (i : Nat) x, xs[i]? = some x → ∃ t, vs[i]? = some (.str x t) := by
  induction h with
  | nil => intro i x hx; simp at hx
  | cons y t _ ih =>
    intro i x hx
    cases i with
    | zero => simp at hx; subst hx; exact ⟨t, rfl⟩
    | succ i => exact ih i x (by simpa using hx)
end
section
open PySem PySem.W PyProof.Rows PySem.Calls PySem.Spec
set_option maxRecDepth 100000
theorem bj_slot : Slot "bytes" "join" "bytes.join" :=
  .of (owner := "bytes") (n := "join") (by rw [typeLookup_type, builtinLookup_eq_fast]; kernel_rfl) (by decide +kernel) (by decide +kernel) (by decide +kernel)
    (by first | exact .inl (by decide +kernel) | exact .inr (by decide +kernel)) (by rw [isSubtype_type]; kernel_rfl)
theorem bj_type : typeOf (.builtin "bytes.join") = pure (.type "method_descriptor") := by show builtinType _ = _; rw [builtinType_eq_fast]; kernel_rfl
theorem bj_entry : entryFor table "bytes.join" = some Builtin.«bytes.join» := entryFor_of_tree (by kernel_rfl)
theorem bj_args (a b : Value) : argsOk "bytes.join" ⟨[a, b], []⟩ := by
  unfold argsOk; rw [signature?_of (id := "bytes.join") (n := ['n', 'i', 'o', 'j']) (o := ['s', 'e', 't', 'y', 'b']) (by kernel_rfl) FB.owner_bytes]; kernel_rfl
noncomputable def joinB (l : List (Array UInt8)) : Array UInt8 := l.foldl (· ++ ·) #[]
theorem bytes_at {vs : List Value} {xs : List (Array UInt8)} (h : BytsAre vs xs) : ∀ (i : Nat) (v : Value), vs[i]? = some v → ∃ b t, xs[i]? = some b ∧ v = Value.bytes b t := by
  intro i v hv
  have hi : i < xs.length := by rw [← h.1]; exact (List.getElem?_eq_some_iff.mp hv).1
  obtain ⟨t, ht⟩ := h.2 i _ (List.getElem?_eq_getElem hi)
  exact ⟨_, t, List.getElem?_eq_getElem hi, Option.some.inj (hv.symm.trans ht)⟩
theorem joinM_one {α : Sort _} (v : Value) (f : (x : Value) → α) (g : (x : Array Value) → α) : PySem.Builtin.Bytes.joinM.match_1 (fun _ => α) #[v] f g = f v := by
  rfl
theorem joinM_not {α : Sort _} (items : Array Value) (h : items.size ≠ 1) (f : (x : Value) → α) (g : (x : Array Value) → α) : PySem.Builtin.Bytes.joinM.match_1 (fun _ => α) items f g = g items := by
  delta PySem.Builtin.Bytes.joinM.match_1
  first | rw [dif_neg h] | (dsimp only; rw [dif_neg h]) | (cases items; simp at *)
section
variable {prog : Program} {w : World} {A : Around} {E : Value → Shared → Prop} {s : Shared} {Q : Value → Shared → Prop}
theorem bj_method {b : Array UInt8} {t : Tok} {pl : Sem Bool} {Q : Value × List Value → Shared → Prop} (h : Q (.builtin "bytes.join", [.bytes b t]) s) : wpAny (model prog w) A (getMethod (.bytes b t) (Str.ofString "join") pl) Q E s :=
  getMethod_builtin (typeIs_bytes _ _ _) FB.plainAttrs_bytes bj_slot bj_type (fun a h => by cases h) h
theorem bj_take {b : Array UInt8} {t : Tok} {id : String} : Builtin.Bytes.takeBufferQuiet? id (.bytes b t) 0 = pure (some (b, none)) := by
  unfold Builtin.Bytes.takeBufferQuiet? Builtin.Bytes.takeBuffer?
  have e : ((0 : Int) == Builtin.Bytes.fullReadOnly) = false := by decide +kernel
  rw [e, KBy.special_eq KBy.look_buffer, KBy.own_buffer, KBy.buffer_eq]
  kernel_rfl
theorem joined_eq (l : List (Array UInt8)) : Builtin.Bytes.joined #[] l = joinB l := by
  unfold Builtin.Bytes.joined joinB
  have key : ∀ (l : List (Array UInt8)) (k : Nat) (a : Array UInt8), (l.zipIdx k).foldl (fun out (p, i) => (if i > 0 then out ++ #[] else out) ++ p) a = l.foldl (· ++ ·) a := by
    intro l
    induction l with
    | nil => intro k a; rfl
    | cons x l ih =>
      intro k a
      rw [List.zipIdx_cons, List.foldl_cons, List.foldl_cons, ih]
      simp
  exact key l 0 #[]
theorem joinB_len : ∀ (l : List (Array UInt8)) (a : Array UInt8), (l.foldl (· ++ ·) a).size = a.size + (l.map (·.size)).sum := by
  intro l
  induction l with
  | nil => intro a; simp
  | cons x l ih => intro a; rw [List.foldl_cons, ih]; simp; omega
theorem parts_len : ∀ (l : List (Array UInt8)) (a : Nat), (l.toArray.foldl (fun n p => n + p.size) a) = a + (l.map (·.size)).sum := by
  intro l a
  rw [List.foldl_toArray]
  induction l generalizing a with
  | nil => simp
  | cons x l ih => rw [List.foldl_cons, ih]; simp; omega
theorem letGo_ok {vs keep : List Value} {Q : Unit → Shared → Prop} (h : Q () s) : wpAny (model prog w) A (Builtin.Bytes.joinLetGo (vs.map fun v => (v, none)) keep) Q E s := by
  induction vs with
  | nil => exact wpAny_pure h
  | cons v vs ih =>
    unfold Builtin.Bytes.joinLetGo
    dsimp only
    refine wpAny_bind ?_
    unfold letGo
    refine wpAny_bind (wpAny_holding (wpAny_point ?_))
    exact wpAny_pure ih
theorem bj_ok {D : Addr} {l : List (Array UInt8)} {vs : List Value} {t : Tok} (hl : s.heap.IsList D vs.toArray) (hv : BytsAre vs l) (hsz : (l.map (·.size)).sum ≤ 1000) (h : ∀ t' k, Q (.bytes (joinB l) t') { s with toks := k }) :
    wpAny (model prog w) A (call (.builtin "bytes.join") [.bytes #[] t, .ref D]) Q E s := by
  refine wpAny_call (codeAny_call_builtin bj_slot.plain bj_entry (bj_slot.check _ _ _ _ _ _ _ _ (typeIs_bytes _ _ _) (bj_args _ _) ?_))
  unfold Builtin.«bytes.join» Builtin.Bytes.joinM
  refine wpAny_bind (wpAny_of_eq (a := (Value.bytes #[] t, Value.ref D)) rfl ?_)
  have e1 : ((Value.type "list" == Value.type "list") || (Value.type "list" == Value.type "tuple")) = true := by decide
  have e2 : (Builtin.Bytes.Kind.bytes == Builtin.Bytes.Kind.bytes) = true := by decide
  have e3 : (Builtin.Bytes.Kind.bytes == Builtin.Bytes.Kind.bytearray) = false := by decide
  dsimp only
  refine wpAny_bind ?_
  unfold Builtin.Bytes.joinItems
  refine wpAny_bind (wpAny_typeOf hl.typeIs ?_)
  rw [if_pos e1]
  refine wpAny_pure ?_
  have seqs : ∀ {Q : Option (Array Value) → Shared → Prop} {E : Value → Shared → Prop}, Q (some vs.toArray) s → ∀ A, wpAny (model prog w) A (seqItems? (.ref D)) Q E s := by
    intro Q E hq A
    obtain ⟨o, ho, hc, n, hdata⟩ := hl
    unfold seqItems?
    refine wpAny_bind (wpAny_load ho ?_)
    rw [hdata]
    exact wpAny_pure hq
  refine wpAny_bind (seqs ?_ _)
  dsimp only
  refine bm_if_true e2 ?_
  by_cases h1 : vs.length = 1
  · obtain ⟨v, rfl⟩ := List.length_eq_one_iff.mp h1
    obtain ⟨b, t', hb, rfl⟩ := bytes_at hv 0 _ rfl
    rw [joinM_one]
    refine wpAny_bind (wpAny_typeOf (typeIs_bytes s b t') ?_)
    rw [if_pos (by decide)]
    refine wpAny_bind (wpAny_rule (wpAny_pure ?_))
    dsimp only
    obtain rfl : l = [b] := by
      have := hv.1
      cases l with
      | nil => simp at hb
      | cons x l => cases l with
        | nil => simp at hb; subst hb; rfl
        | cons _ _ => simp at this
    have e : joinB [b] = b := by unfold joinB; simp
    rw [e] at h
    exact h t' s.toks
  · rw [joinM_not vs.toArray (by simpa using h1)]
    refine wpAny_bind ?_
    rw [Std.Legacy.Range.forIn_eq_forIn_range']
    simp only [Std.Legacy.Range.size, Nat.sub_zero, Nat.add_sub_cancel, Nat.div_one]
    refine wpAny_forIn_list _
      (fun rest q s' => s' = s ∧ ∃ i, rest = List.range' i (vs.length - i) ∧ i ≤ vs.length ∧ q = ((l.take i).toArray, (vs.take i).map fun v => (v, none)))
      _ ?_ ?_ _ _ ⟨rfl, 0, by simp, Nat.zero_le _, by simp⟩
    · rintro x rest q s' ⟨rfl, i, hr, hi, rfl⟩
      have hlt : i < vs.length := by
        rcases Nat.lt_or_ge i vs.length with h | h
        · exact h
        · rw [Nat.sub_eq_zero_of_le h] at hr; simp at hr
      obtain ⟨rfl, hrest⟩ : x = i ∧ rest = List.range' (i + 1) (vs.length - (i + 1)) := by
        have e : vs.length - i = (vs.length - (i + 1)) + 1 := by omega
        rw [e, List.range'_succ] at hr
        injection hr with h1 h2
        exact ⟨h1, h2⟩
      refine wpAny_bind (seqs ?_ _)
      dsimp only
      refine bm_if_false ?_ ?_
      · rw [e3, Bool.false_or, List.any_eq_false]
        intro p hp
        obtain ⟨v, hv1, rfl⟩ := List.mem_map.mp hp
        obtain ⟨j, hj⟩ := List.getElem?_of_mem (List.mem_of_mem_take hv1)
        obtain ⟨b, t', _, rfl⟩ := bytes_at hv j v hj
        exact Bool.false_ne_true
      · obtain ⟨b, t', hb, hvv⟩ := bytes_at hv x _ (List.getElem?_eq_getElem hlt)
        have eg : vs.toArray.getD x Value.none = .bytes b t' := by
          rw [Array.getD_eq_getD_getElem?, List.getElem?_toArray, List.getElem?_eq_getElem hlt, hvv]; rfl
        rw [eg]
        refine wpAny_bind (wpAny_holding (wpAny_of_eq bj_take ?_))
        dsimp only
        refine wpAny_bind (seqs ?_ _)
        dsimp only
        refine bm_if_false (by simp) ?_
        refine wpAny_pure ?_
        dsimp only
        refine ⟨rfl, x + 1, hrest, hlt, ?_⟩
        rw [List.take_add_one, List.take_add_one, hb, List.getElem?_eq_getElem hlt, hvv]
        simp
    · rintro q s' ⟨rfl, i, hr, hi, rfl⟩
      have hi' : i = vs.length := by
        have := congrArg List.length hr
        simp at this
        omega
      subst hi'
      have hll : vs.length = l.length := hv.1
      rw [List.take_of_length_le (Nat.le_of_eq hll.symm), List.take_length]
      dsimp only
      refine wpAny_bind (wpAny_of_eq (a := #[]) rfl ?_)
      refine bm_if_false ?_ ?_
      · rw [show (#[] : Array UInt8).size * (l.toArray.size - 1) = 0 from Nat.zero_mul _, parts_len]
        exact KBy.tooLong_not (by omega)
      · show wpAny _ _ (mkBytes _ >>= _) _ _ _
        rw [joined_eq]
        refine wpAny_bind (wpAny_mkBytes ?_ (by unfold joinB; rw [joinB_len]; unfold sizeLine; simp only [Array.size_empty]; omega))
        refine wpAny_bind (wpAny_holding (wpAny_point ?_))
        refine wpAny_bind (letGo_ok ?_)
        exact wpAny_pure (h _ _)
end
end
section
open PySem PySem.W PyProof.Rows PySem.Calls
set_option maxRecDepth 100000
set_option maxHeartbeats 8000000

theorem News.madeOffN {h₀ h : Heap} {L l : Addr} {news : List (Addr × Obj)} (N : News h₀ L h news) (hn : h.get? l = none) : ∀ p ∈ news, @Ne Nat p.1 l := fun p hp => News.madeOff N hn p hp
noncomputable def isFn (K : Frag) (a : Addr) : Bool := match K.lookup a with
  | some ⟨_, _, .func _, _⟩ => true
  | _ => false
theorem fn_of {K : Frag} {a : Addr} (h : isFn K a = true) : ∃ o fd, K.lookup a = some o ∧ o.data = .func fd := by
  unfold isFn at h
  split at h
  · rename_i fd _ e
    exact ⟨_, fd, e, rfl⟩
  · cases h
theorem filt_snoc {p : Int → Bool} {L : List Int} {i : Nat} {a : Int} {t : Tok} {zs : List Value} (ha : L[i]? = some a) (hp : p a = true) (hJ : IntsAre zs ((L.take i).filter p)) : IntsAre (zs ++ [.int a t]) ((L.take (i + 1)).filter p) := by
  rw [List.take_add_one, ha, List.filter_append]
  simp only [Option.toList_some, List.filter_cons, hp, if_true, List.filter_nil]
  exact hJ.append (.cons _ _ .nil)
theorem filt_skip {p : Int → Bool} {L : List Int} {i : Nat} {a : Int} {zs : List Value} (ha : L[i]? = some a) (hp : p a = false) (hJ : IntsAre zs ((L.take i).filter p)) : IntsAre zs ((L.take (i + 1)).filter p) := by
  rw [List.take_add_one, ha, List.filter_append]
  simp only [Option.toList_some, List.filter_cons, hp, Bool.false_eq_true, if_false, List.filter_nil, List.append_nil]
  exact hJ
noncomputable def lawM4 (lh1 lh2 DN D1 l : Addr) (fo to : Array UInt8) (tf tt : Tok) (vt vx : Option Value) (wd mi hg pl : Nat) (t1 t2 t3 t4 : Tok) : Str → Option Value := fun y =>
  if y = Str.ofString "mirrored" then some (.ref lh2) else if y = Str.ofString "hosts" then some (.ref lh1) else if y = Str.ofString "turned" then some (.bytes to tt) else if y = Str.ofString "figures" then some (.bytes fo tf) else lawM3 DN D1 l vt vx wd mi hg pl t1 t2 t3 t4 y
noncomputable def lawM5 (DE lh1 lh2 DN D1 l : Addr) (fo to : Array UInt8) (tf tt : Tok) (vt vx : Option Value) (wd mi hg pl : Nat) (t1 t2 t3 t4 : Tok) : Str → Option Value := fun y =>
  if y = Str.ofString "ends" then some (.ref DE) else lawM4 lh1 lh2 DN D1 l fo to tf tt vt vx wd mi hg pl t1 t2 t3 t4 y
theorem bfilt_snoc {L : List (Int × Array UInt8)} {p : Int × Array UInt8 → Bool} {i : Nat} {a : Int} {b : Array UInt8} {t : Tok} {us : List Value} (h : L[i]? = some (a, b)) (hp : p (a, b) = true) (hJ : BytsAre us (((L.take i).filter p).map (·.2))) : BytsAre (us ++ [.bytes b t]) (((L.take (i + 1)).filter p).map (·.2)) := by
  rw [List.take_add_one, h, List.filter_append, List.map_append]
  simp only [Option.toList_some, List.filter_cons, hp, if_true, List.filter_nil]
  exact hJ.snoc
theorem bfilt_skip {L : List (Int × Array UInt8)} {p : Int × Array UInt8 → Bool} {i : Nat} {a : Int} {b : Array UInt8} {us : List Value} (h : L[i]? = some (a, b)) (hp : p (a, b) = false) (hJ : BytsAre us (((L.take i).filter p).map (·.2))) : BytsAre us (((L.take (i + 1)).filter p).map (·.2)) := by
  rw [List.take_add_one, h, List.filter_append, List.map_append]
  simp only [Option.toList_some, List.filter_cons, hp, Bool.false_eq_true, if_false, List.filter_nil, List.map_nil, List.append_nil]
  exact hJ
theorem bytes_drop {vs : List Value} {xs : List (Array UInt8)} (h : BytsAre vs xs) (k : Nat) : BytsAre (vs.drop k) (xs.drop k) := by
  refine ⟨by rw [List.length_drop, List.length_drop, h.1], fun i b hb => ?_⟩
  rw [List.getElem?_drop] at hb ⊢
  exact h.2 _ _ hb
noncomputable def rowsL (b : Array UInt8) (pl : Nat) : List (Array UInt8) := (List.range 21).map (rowF b pl)
noncomputable def keptL (b : Array UInt8) (pl fr sz c1 bs lo : Nat) : List (Array UInt8) := (((numL fr sz).zip ((rowsL b pl).drop 3)).filter fun p => decide (p.1 ∈ leftL fr sz c1 bs lo)).map (·.2)
noncomputable def mvB (fo : Array UInt8) (pl fr sz c1 bs lo : Nat) : Array UInt8 := joinB ((keptL fo pl fr sz c1 bs lo).map fun b => movedF b (bs : Int))
/-- what the third look asks -/
structure PlainE (bs lo mi pl sz c1 c2 fr : Nat) (fo to : Array UInt8) : Prop where
  lenK : (keptL fo pl fr sz c1 bs lo).length = (leftL fr sz c1 bs lo).length
  pos : 0 < (leftL fr sz c1 bs lo).length
  le : (leftL fr sz c1 bs lo).length ≤ 16
  p3 : DomPre (hostF (rowF to pl 2)) (pl - mi)
  szK : ∀ b ∈ keptL fo pl fr sz c1 bs lo, b.size = pl
  szM : ((keptL fo pl fr sz c1 bs lo).map fun b => movedF b (bs : Int)).map (·.size) = List.replicate (leftL fr sz c1 bs lo).length pl
theorem news_sub {h₀ h : Heap} {L : Addr} {r r' : List (Addr × Obj)} (N : News h₀ L h r) (hs : List.Sublist r' r) : News h₀ L h r' := fun x hx => N x (hs.subset hx)
noncomputable def lawM6 (mv : Array UInt8) (tm : Tok) (DW DE lh1 lh2 DN D1 l : Addr) (fo to : Array UInt8) (tf tt : Tok) (vt vx : Option Value) (wd mi hg pl : Nat) (t1 t2 t3 t4 : Tok) : Str → Option Value := fun y =>
  if y = Str.ofString "moved" then some (.bytes mv tm) else if y = Str.ofString "rows" then some (.ref DW) else lawM5 DE lh1 lh2 DN D1 l fo to tf tt vt vx wd mi hg pl t1 t2 t3 t4 y
noncomputable def knownL (fr lst bs pl : Nat) : List Int := (List.range pl).map fun i => ((((fr + lst) / bs ^ i % bs : Nat)) : Int)
noncomputable def shownL (c2 bs mi : Nat) : List Int := (List.range mi).map fun j => ((c2 / bs ^ j % bs : Nat) : Int)
theorem digit_eq0 (a b c : Nat) : (((a : Nat) : Int).fdiv ((b : Nat) : Int)).fmod ((c : Nat) : Int) = ((a / b % c : Nat) : Int) := by
  rw [Int.fdiv_eq_ediv_of_nonneg _ (by omega), Int.fmod_eq_emod_of_nonneg _ (by omega)]
  push_cast
  rfl
theorem digit_eq (a a' b c : Nat) : ((((a : Nat) : Int) + ((a' : Nat) : Int)).fdiv ((b : Nat) : Int)).fmod ((c : Nat) : Int) = (((a + a') / b % c : Nat) : Int) := by
  rw [← digit_eq0]
  push_cast
  rfl
noncomputable def openL (fr c1 c2 bs lo mi pl : Nat) : List Int := (List.range (shownL c2 bs mi).length).map (openF (knownL fr (leastN c1 bs lo) bs pl) (shownL c2 bs mi) (lo : Int) (bs : Int))
noncomputable def toldF (fr c1 c2 bs lo mi pl : Nat) : Nat → Int
  | 0 => (fr : Int) + ((leastN c1 bs lo : Nat) : Int)
  | i + 1 => toldF fr c1 c2 bs lo mi pl i + (openL fr c1 c2 bs lo mi pl).getD i 0 * ((bs ^ (lo + i) : Nat) : Int)
noncomputable def lawM7 (vi vf : Option Value) (n : Int) (td : Tok) (DS DK : Addr) (mv : Array UInt8) (tm : Tok) (DW DE lh1 lh2 DN D1 l : Addr) (fo to : Array UInt8) (tf tt : Tok) (vt vx : Option Value) (wd mi hg pl : Nat) (t1 t2 t3 t4 : Tok) : Str → Option Value := fun y =>
  if y = Str.ofString "figure" then vf else if y = Str.ofString "i" then vi else if y = Str.ofString "told" then some (.int n td) else if y = Str.ofString "shown" then some (.ref DS) else if y = Str.ofString "known" then some (.ref DK) else lawM6 mv tm DW DE lh1 lh2 DN D1 l fo to tf tt vt vx wd mi hg pl t1 t2 t3 t4 y
theorem lawM7_start {n : Int} {td : Tok} {DS DK : Addr} {mv : Array UInt8} {tm : Tok} {DW DE lh1 lh2 DN D1 l : Addr} {fo to : Array UInt8} {tf tt : Tok} {vt vx : Option Value} {wd mi hg pl : Nat} {t1 t2 t3 t4 : Tok} : (fun y => if y = Str.ofString "told" then some (Value.int n td) else if y = Str.ofString "shown" then some (Value.ref DS) else if y = Str.ofString "known" then some (Value.ref DK) else lawM6 mv tm DW DE lh1 lh2 DN D1 l fo to tf tt vt vx wd mi hg pl t1 t2 t3 t4 y) = lawM7 none none n td DS DK mv tm DW DE lh1 lh2 DN D1 l fo to tf tt vt vx wd mi hg pl t1 t2 t3 t4 := by
  funext y
  unfold lawM7
  by_cases h1 : y = Str.ofString "figure"
  · subst h1; rfl
  by_cases h2 : y = Str.ofString "i"
  · subst h2; rfl
  rw [if_neg h1, if_neg h2]
noncomputable def hostsN (n : Nat) (mv : Array UInt8) (pl : Nat) : List Str := (List.range n).map fun i => hostF (rowF mv pl i)
/-- what the third look and the rules ask -/
structure PlainG (bs lo mi pl sz c1 c2 fr : Nat) (mv to : Array UInt8) : Prop where
  q : ParPre (hostsN (leftL fr sz c1 bs lo).length mv pl) (domF (hostF (rowF to pl 2)) (pl - mi))
  r : parOk (leftL fr sz c1 bs lo) (hostsN (leftL fr sz c1 bs lo).length mv pl) (domF (hostF (rowF to pl 2)) (pl - mi)) [toldF fr c1 c2 bs lo mi pl (openL fr c1 c2 bs lo mi pl).length] = true
  x : (hostF (rowF to pl 2)).length ≤ 1000
  R : RuledPre (hostF (rowF to pl 2)) (domF (hostF (rowF to pl 2)) (pl - mi))
end
section
open PySem PySem.W PyProof.Rows PySem.Calls
set_option maxRecDepth 100000
noncomputable def dg (bs pl x : Nat) : List Nat := (List.range pl).map fun j => x / bs ^ j % bs
noncomputable def mvL (bs : Nat) (a : List Nat) : List Nat := (mvOut (bs : Int) a.length (a.map fun (c : Nat) => (c : Int)) (a.length - 1)).map (·.toNat)
noncomputable def valD (bs : Nat) (l : List Nat) : Nat := l.foldr (fun d acc => d + bs * acc) 0
noncomputable def toldV (q l s bs lo mi pl : Nat) : Int := toldF (16 * q) l s bs lo mi pl mi
noncomputable def chkU (bs lo mi hg : Nat) : Bool := (List.range (bs ^ (lo + mi + hg))).all fun n =>
  toldV (n / 16) (n % bs ^ lo) (valD bs ((mvL bs (dg bs (lo + mi + hg) n)).take mi)) bs lo mi (lo + mi + hg) == (n : Int)
theorem cU2041 : chkU 2 0 4 1 = true := by decide +kernel
theorem cU2042 : chkU 2 0 4 2 = true := by decide +kernel
theorem cU2131 : chkU 2 1 3 1 = true := by decide +kernel
theorem cU2132 : chkU 2 1 3 2 = true := by decide +kernel
theorem cU2221 : chkU 2 2 2 1 = true := by decide +kernel
theorem cU2222 : chkU 2 2 2 2 = true := by decide +kernel
theorem cU2311 : chkU 2 3 1 1 = true := by decide +kernel
theorem cU2312 : chkU 2 3 1 2 = true := by decide +kernel
theorem cU2401 : chkU 2 4 0 1 = true := by decide +kernel
theorem cU2402 : chkU 2 4 0 2 = true := by decide +kernel
theorem cU4021 : chkU 4 0 2 1 = true := by decide +kernel
theorem cU4022 : chkU 4 0 2 2 = true := by decide +kernel
theorem cU4111 : chkU 4 1 1 1 = true := by decide +kernel
theorem cU4112 : chkU 4 1 1 2 = true := by decide +kernel
theorem cU4201 : chkU 4 2 0 1 = true := by decide +kernel
theorem cU4202 : chkU 4 2 0 2 = true := by decide +kernel
theorem chk_all {bs lo mi hg : Nat} (h : (bs = 2 ∧ lo + mi = 4 ∧ 1 ≤ hg ∧ hg ≤ 2) ∨ (bs = 4 ∧ lo + mi = 2 ∧ 1 ≤ hg ∧ hg ≤ 2)) : chkU bs lo mi hg = true := by
  rcases h with ⟨rfl, e, e1, e2⟩ | ⟨rfl, e, e1, e2⟩
  · rcases (show (lo = 0 ∧ mi = 4) ∨ (lo = 1 ∧ mi = 3) ∨ (lo = 2 ∧ mi = 2) ∨ (lo = 3 ∧ mi = 1) ∨ (lo = 4 ∧ mi = 0) by omega) with ⟨rfl, rfl⟩ | ⟨rfl, rfl⟩ | ⟨rfl, rfl⟩ | ⟨rfl, rfl⟩ | ⟨rfl, rfl⟩ <;> rcases (show hg = 1 ∨ hg = 2 by omega) with rfl | rfl
    · exact cU2041
    · exact cU2042
    · exact cU2131
    · exact cU2132
    · exact cU2221
    · exact cU2222
    · exact cU2311
    · exact cU2312
    · exact cU2401
    · exact cU2402
  · rcases (show (lo = 0 ∧ mi = 2) ∨ (lo = 1 ∧ mi = 1) ∨ (lo = 2 ∧ mi = 0) by omega) with ⟨rfl, rfl⟩ | ⟨rfl, rfl⟩ | ⟨rfl, rfl⟩ <;> rcases (show hg = 1 ∨ hg = 2 by omega) with rfl | rfl
    · exact cU4021
    · exact cU4022
    · exact cU4111
    · exact cU4112
    · exact cU4201
    · exact cU4202
end
section
open PySem PySem.W PyProof.Rows PySem.Calls
set_option maxRecDepth 100000
noncomputable abbrev St (l : List Nat) : Str := ⟨l.toArray⟩
noncomputable def enc : List Nat → List Nat
  | [] => []
  | d :: r => (97 + d) :: 46 :: enc r
noncomputable def locL : List Nat := [108, 111, 99, 97, 108]
noncomputable def hostC (a : List Nat) : List Nat := enc a ++ locL
noncomputable def rowN (r : Array UInt8) : List Nat := r.toList.map (·.toNat)
noncomputable def Good (a : List Nat) : Prop := ∀ d ∈ a, d < 4
theorem dot_eq : Str.ofString "." = St [46] := by decide +kernel
theorem local_eq : Str.ofString "local" = St locL := by decide +kernel
theorem empty_eq : Str.ofString "" = St [] := by decide +kernel
theorem St_app (a b : List Nat) : St a ++ St b = St (a ++ b) := by
  show (⟨a.toArray ++ b.toArray⟩ : Str) = _
  simp
theorem St_inj {a b : List Nat} (h : St a = St b) : a = b := by
  injection h with h
  simpa using congrArg Array.toList h
theorem St_beq (a b : List Nat) : (St a == St b) = decide (a = b) := by
  rw [Bool.eq_iff_iff, beq_iff_eq, decide_eq_true_iff]
  exact ⟨St_inj, fun h => h ▸ rfl⟩
theorem St_len (a : List Nat) : (St a).length = a.length := by simp [Str.length, St]
theorem join_labels : ∀ l : List UInt8, Str.join (St [46]) (l.map (fun c => (⟨#[97 + c.toNat]⟩ : Str)) ++ [St locL]) = St (hostC (l.map (·.toNat)))
  | [] => rfl
  | c :: l => by
    have e : ∃ y r, l.map (fun c => (⟨#[97 + c.toNat]⟩ : Str)) ++ [St locL] = y :: r := by cases l <;> exact ⟨_, _, rfl⟩
    obtain ⟨y, r, e⟩ := e
    have ih := join_labels l
    rw [List.map_cons, List.cons_append, e]
    show (⟨#[97 + c.toNat]⟩ : Str) ++ St [46] ++ Str.join (St [46]) (y :: r) = _
    rw [← e, ih, show (⟨#[97 + c.toNat]⟩ : Str) = St [97 + c.toNat] from rfl, St_app, St_app]
    rfl
theorem hostF_eq (r : Array UInt8) : hostF r = St (hostC (rowN r)) := by
  unfold hostF Txt.join
  rw [StrLaws.glued_eq_join, dot_eq, local_eq, join_labels]
  rfl
theorem placed_map {l : List Nat} {f : Nat → Nat → List Nat} {g : Nat → Nat} (h : ∀ (i : Nat) c, l[i]? = some c → f i c = [g c]) : placed (St l) f = (l.map g).toArray := by
  unfold placed
  have e : ((St l).cps.mapIdx fun i c => (f i c).toArray) = (l.map fun c => #[g c]).toArray := by
    apply Array.ext_getElem?
    intro i
    simp only [Array.getElem?_mapIdx, List.getElem?_toArray, List.getElem?_map]
    cases hc : l[i]? with
    | none => rfl
    | some c => simp [h i c hc]
  rw [e]
  apply Array.toList_inj.mp
  rw [Array.toList_flatten]
  simp only [List.map_map]
  clear e h
  induction l with
  | nil => rfl
  | cons c l ih => simpa [Function.comp_def] using ih
theorem lower_map {l : List Nat} {g : Nat → Nat} (h : ∀ c ∈ l, c ≠ 0x3A3 ∧ Unicode.lowerOf c = [g c]) : Txt.lower (St l) = St (l.map g) := by
  unfold Txt.lower
  refine congrArg Str.mk (placed_map fun i c hc => ?_)
  obtain ⟨h1, h2⟩ := h c (List.mem_of_getElem? hc)
  unfold Unicode.lowerAt
  rw [show (St l).cps[i]? = some c from by simpa using hc]
  simp [h1, h2]
theorem upper_map {l : List Nat} {g : Nat → Nat} (h : ∀ c ∈ l, Unicode.upperOf c = [g c]) : Txt.upper (St l) = St (l.map g) := by
  unfold Txt.upper
  exact congrArg Str.mk (placed_map fun i c hc => h c (List.mem_of_getElem? hc))
noncomputable def okC : List Nat := [46, 97, 98, 99, 100, 108, 111]
noncomputable def upC (c : Nat) : Nat := if c = 46 then 46 else c - 32
theorem low_ok : ∀ c ∈ okC, c ≠ 0x3A3 ∧ Unicode.lowerOf c = [c] := by decide +kernel
theorem up_ok : ∀ c ∈ okC, Unicode.upperOf c = [upC c] := by decide +kernel
theorem low_up : ∀ c ∈ okC, upC c ≠ 0x3A3 ∧ Unicode.lowerOf (upC c) = [c] := by decide +kernel
theorem nodig : ∀ c ∈ okC, Sre.isDigit c = false := by decide +kernel
theorem nodigU : ∀ c ∈ okC, Sre.isDigit (upC c) = false := by decide +kernel
noncomputable def OkL (l : List Nat) : Prop := ∀ c ∈ l, c ∈ okC
theorem lower_ok {l : List Nat} (h : OkL l) : Txt.lower (St l) = St l := by
  rw [lower_map (g := id) fun c hc => low_ok c (h c hc), List.map_id]
theorem upper_ok {l : List Nat} (h : OkL l) : Txt.upper (St l) = St (l.map upC) := upper_map fun c hc => up_ok c (h c hc)
theorem lower_upper_ok {l : List Nat} (h : OkL l) : Txt.lower (St (l.map upC)) = St l := by
  have hg : ∀ c ∈ okC, (fun c => if c = 46 then 46 else c + 32) (upC c) = c := by decide
  rw [lower_map (g := fun c => if c = 46 then 46 else c + 32) fun c hc => ?_]
  · rw [List.map_map]
    congr 2
    conv => rhs; rw [← List.map_id l]
    exact List.map_congr_left fun c hc => hg c (h c hc)
  · obtain ⟨b, hb, rfl⟩ := List.mem_map.mp hc
    refine ⟨(low_up b (h b hb)).1, ?_⟩
    have e := hg b (h b hb)
    dsimp only at e ⊢
    rw [e]
    exact (low_up b (h b hb)).2
theorem noDD_ok {l : List Nat} (h : OkL l) : noDD (St l).cps := noDD_of fun c hc => nodig c (h c (by simpa using hc))
theorem noDD_okU {l : List Nat} (h : OkL l) : noDD (St (l.map upC)).cps := noDD_of fun c hc => by
  obtain ⟨b, hb, rfl⟩ := List.mem_map.mp (show c ∈ l.map upC by simpa using hc)
  exact nodigU b (h b hb)
theorem enc_ok : ∀ {a : List Nat}, Good a → OkL (enc a)
  | [], _ => fun c hc => by cases hc
  | d :: r, h => fun c hc => by
    rcases List.mem_cons.mp hc with rfl | hc
    · have := h d List.mem_cons_self
      rcases (show d = 0 ∨ d = 1 ∨ d = 2 ∨ d = 3 by lia) with rfl | rfl | rfl | rfl <;> decide
    rcases List.mem_cons.mp hc with rfl | hc
    · decide
    · exact enc_ok (fun d hd => h d (List.mem_cons_of_mem _ hd)) c hc
theorem loc_ok : OkL locL := by unfold OkL; decide
theorem hostC_ok {a : List Nat} (h : Good a) : OkL (hostC a) := fun c hc => (List.mem_append.mp hc).elim (enc_ok h c) (loc_ok c)
theorem dot_ok {l : List Nat} (h : OkL l) : OkL (46 :: l) := fun c hc => (List.mem_cons.mp hc).elim (fun e => e ▸ by decide) (h c)
theorem enc_len : ∀ a, (enc a).length = 2 * a.length
  | [] => rfl
  | d :: r => by simp only [enc, List.length_cons, enc_len r]; lia
theorem hostC_len (a : List Nat) : (hostC a).length = 2 * a.length + 5 := by rw [hostC, List.length_append, enc_len]; rfl
theorem enc_app : ∀ a b, enc (a ++ b) = enc a ++ enc b
  | [], b => rfl
  | d :: r, b => by simp only [enc, List.cons_append, enc_app r b]
theorem enc_inj : ∀ {a b : List Nat}, a.length = b.length → enc a = enc b → a = b
  | [], [], _, _ => rfl
  | [], _ :: _, h, _ => by cases h
  | _ :: _, [], h, _ => by cases h
  | d :: r, e :: q, h, he => by
    simp only [enc, List.cons.injEq, true_and] at he
    rw [show d = e from by lia, enc_inj (by simpa using h) he.2]
theorem enc_o : ∀ {a : List Nat}, Good a → ∀ j : Nat, (enc a)[j]? ≠ some 111
  | [], _, j => by simp [enc]
  | d :: r, h, j => by
    match j with
    | 0 => have := h d List.mem_cons_self; simp only [enc, List.getElem?_cons_zero, ne_eq, Option.some.injEq]; omega
    | 1 => simp [enc]
    | j + 2 => simp only [enc, List.getElem?_cons_succ]; exact enc_o (fun d hd => h d (List.mem_cons_of_mem _ hd)) j
theorem host_o {a : List Nat} (h : Good a) {j : Nat} (hj : (hostC a)[j]? = some 111) : j = 2 * a.length + 1 := by
  unfold hostC at hj
  by_cases hl : j < (enc a).length
  · rw [List.getElem?_append_left hl] at hj; exact absurd hj (enc_o h j)
  · rw [List.getElem?_append_right (by omega), enc_len] at hj
    rw [enc_len] at hl
    obtain ⟨k, hk⟩ : ∃ k, j = 2 * a.length + k := ⟨j - 2 * a.length, by omega⟩
    rw [hk, show 2 * a.length + k - 2 * a.length = k from by omega] at hj
    match k, hj with
    | 0, hj => simp [locL] at hj
    | 1, _ => omega
    | 2, hj => simp [locL] at hj
    | 3, hj => simp [locL] at hj
    | 4, hj => simp [locL] at hj
    | k + 5, hj => simp [locL] at hj
theorem host_o_at (a : List Nat) : (hostC a)[2 * a.length + 1]? = some 111 := by
  unfold hostC
  rw [List.getElem?_append_right (by rw [enc_len]; lia), enc_len, show 2 * a.length + 1 - 2 * a.length = 1 from by omega]
  rfl
end
section
open PySem PySem.W PyProof.Rows PySem.Calls
set_option maxRecDepth 100000
theorem subAt_list (x y : List Nat) (i : Nat) : Builtin.Str.subAt (St x) (St y) i = true ↔ (x.drop i).take y.length = y := by
  rw [StrLaws.subAt_eq, beq_iff_eq, St_len]
theorem at_list (x y : List Nat) (i : Nat) : StrLaws.At (St x) (St y) (St x).length i ↔ i + y.length ≤ x.length ∧ (x.drop i).take y.length = y := by
  unfold StrLaws.At
  rw [subAt_list, St_len, St_len]
theorem item_ne {l : List Nat} {i : Int} {c d : Nat} (h : ((seqIndex? i l.length).bind (l.toArray[·]?)) = some c) (hc : c ≠ d) : (Txt.item (St l) i == St [d]) = false := by
  unfold Txt.item Txt.charAt
  rw [St_len, h, show (⟨#[(some c).getD 0]⟩ : Str) = St [c] from rfl, St_beq]
  simpa using hc
theorem hdn_host {a : List Nat} (h : Good a) : hdnB (St (hostC a)) = true := by
  have hl := hostC_len a
  unfold hdnB
  rw [empty_eq, dot_eq, St_beq, decide_eq_false (by intro e; rw [e] at hl; simp at hl), if_neg (by decide)]
  have h0 : ∃ c, (hostC a)[0]? = some c ∧ c ≠ 46 := by
    cases a with
    | nil => exact ⟨108, rfl, by decide⟩
    | cons d r => exact ⟨97 + d, rfl, by lia⟩
  obtain ⟨c, hc, hn⟩ := h0
  rw [item_ne (c := c) (by rw [StrLaws.seqIndex_nonneg (by omega) (by omega)]; simpa using hc) hn, if_neg (by decide)]
  have h1 : (hostC a)[2 * a.length + 4]? = some 108 := by
    unfold hostC
    rw [List.getElem?_append_right (by rw [enc_len]; lia), enc_len, show 2 * a.length + 4 - 2 * a.length = 4 from by lia]
    rfl
  rw [item_ne (c := 108) (by rw [StrLaws.seqIndex_neg (by omega) (by omega), show (-1 + ((hostC a).length : Int)).toNat = 2 * a.length + 4 from by omega]; simpa using h1) (by decide), if_neg (by decide)]
theorem slice_from_nat (l : List Nat) {k : Nat} (hk : k ≤ l.length) : Txt.slice (St l) (some (k : Int)) none = St (l.drop k) := by
  rw [slice_from_eq (b := (l.length : Int)) (by omega) (by rw [St_len]; omega) (by rw [St_len])]
  congr 2
  rw [List.take_of_length_le]
  · simp
  · simp only [List.length_drop, St]; omega
theorem starts_dot (l : List Nat) : Txt.startswith (St (46 :: l)) (St [46]) = true := by
  unfold Txt.startswith
  rw [Bool.and_eq_true, decide_eq_true_iff, subAt_list]
  refine ⟨by simp [Str.length], by simp⟩
/-- the domain's tail of a host -/
theorem host_split : ∀ {a : List Nat} {m : Nat}, m < a.length → (hostC a).drop (2 * m + 1) = 46 :: hostC (a.drop (m + 1))
  | [], m, h => by cases h
  | d :: r, 0, _ => rfl
  | d :: r, m + 1, h => by
    rw [List.drop_succ_cons, ← host_split (a := r) (m := m) (by simpa using h), show 2 * (m + 1) + 1 = (2 * m + 1) + 1 + 1 from by lia]
    rfl
theorem drop_all {l y : List Nat} {i : Nat} (h1 : l.length = i + y.length) (h2 : (l.drop i).take y.length = y) : l.drop i = y := by
  rw [List.take_of_length_le (by rw [List.length_drop]; omega)] at h2
  exact h2
/-- where the domain stands in the host: at its end alone -/
theorem host_at {a t : List Nat} (ha : Good a) {m : Nat} (hm : a.length = m + 1 + t.length) (i : Nat) :
    StrLaws.At (St (hostC a)) (St (46 :: hostC t)) (St (hostC a)).length i ↔ i = 2 * m + 1 ∧ a.drop (m + 1) = t := by
  rw [at_list]
  have la := hostC_len a
  have lt := hostC_len t
  constructor
  · rintro ⟨h1, h2⟩
    have o : ((46 :: hostC t) : List Nat)[2 * t.length + 2]? = some 111 := by
      rw [show 2 * t.length + 2 = (2 * t.length + 1) + 1 from rfl, List.getElem?_cons_succ]; exact host_o_at t
    rw [← h2, List.getElem?_take_of_lt (by rw [List.length_cons]; omega), List.getElem?_drop] at o
    have q := host_o ha o
    have hi : i = 2 * m + 1 := by lia
    refine ⟨hi, ?_⟩
    have e := drop_all (by rw [List.length_cons]; lia) h2
    rw [hi, host_split (by omega)] at e
    injection e with _ e
    unfold hostC at e
    exact enc_inj (by rw [List.length_drop]; omega) (List.append_cancel_right e)
  · rintro ⟨rfl, h⟩
    refine ⟨by rw [List.length_cons]; lia, ?_⟩
    rw [host_split (by omega), h, List.take_of_length_le (Nat.le_refl _)]
theorem slice1 {c : Nat} (l : List Nat) : Txt.slice (St (c :: l)) (some 1) none = St l := slice_from_nat (c :: l) (k := 1) (by simp)
/-- the kernel of the law: a host is in a domain just as its last figures are the domain's -/
theorem dm_host {a t : List Nat} (ha : Good a) (ht : Good t) {m : Nat} (hm : a.length = m + 1 + t.length) :
    dmB (St (hostC a)) (St ((46 :: hostC t).map upC)) = decide (a.drop (m + 1) = t) := by
  unfold dmB
  rw [lower_ok (hostC_ok ha), lower_upper_ok (dot_ok (hostC_ok ht)), St_beq, hdn_host ha, slice1, hdn_host ht, dot_eq, starts_dot]
  have ne : hostC a ≠ 46 :: hostC t := fun e => by
    have := congrArg List.length e
    rw [List.length_cons, hostC_len, hostC_len] at this
    omega
  rw [decide_eq_false ne, if_neg (by decide), if_neg (by decide)]
  simp only [Bool.true_eq_false, if_false]
  unfold Txt.rfind
  rcases StrLaws.last_spec (St (hostC a)) (St (46 :: hostC t)) with ⟨h0, hn⟩ | ⟨i, h0, hi, -⟩
  · rw [h0]
    dsimp only
    rw [if_pos rfl, eq_comm, decide_eq_false_iff_not]
    exact fun e => hn (2 * m + 1) ((host_at ha hm _).mpr ⟨rfl, e⟩)
  · rw [h0]
    dsimp only
    obtain ⟨e, he⟩ := (host_at ha hm i).mp hi
    rw [if_neg (by omega), if_neg (by omega), decide_eq_true he]
theorem find_at {l : List Nat} {i : Nat} (h : ∀ k, k < i → l[k]? ≠ some 46) (hi : l[i]? = some 46) : Txt.find (St l) (St [46]) = (i : Int) := by
  have at1 : ∀ k, StrLaws.At (St l) (St [46]) (St l).length k ↔ l[k]? = some 46 := fun k => by
    rw [at_list, List.length_singleton, List.take_one, List.head?_drop]
    cases hk : l[k]? with
    | none => simp
    | some c =>
      have := (List.getElem?_eq_some_iff.mp hk).1
      simp; lia
  rcases find_whole (St l) (St [46]) with ⟨_, hn⟩ | ⟨j, hj, hA, hB⟩
  · exact absurd ((at1 i).mpr hi) (hn i)
  · rw [hj]
    rw [at1] at hA
    have h1 : ¬ j < i := fun q => h j q hA
    have h2 : ¬ i < j := fun q => hB i q ((at1 i).mpr hi)
    omega
theorem find_none {l : List Nat} (h : ∀ k : Nat, l[k]? ≠ some 46) : Txt.find (St l) (St [46]) = -1 := by
  rcases find_whole (St l) (St [46]) with ⟨e, _⟩ | ⟨j, hj, hA, hB⟩
  · exact e
  · rw [at_list, List.length_singleton, List.take_one, List.head?_drop] at hA
    cases hk : l[j]? with
    | none => rw [hk] at hA; simp at hA
    | some c => rw [hk] at hA; simp at hA; exact absurd (hA.2 ▸ hk) (h j)
theorem find_cons2 {c : Nat} (l : List Nat) (hc : c ≠ 46) : Txt.find (St (c :: 46 :: l)) (St [46]) = 1 :=
  find_at (i := 1) (fun k hk => by rw [show k = 0 from by lia]; simpa using hc) rfl
theorem loc_none : Txt.find (St locL) (St [46]) = -1 := find_none fun k => by
  match k with
  | 0 | 1 | 2 | 3 | 4 => simp [locL]
  | k + 5 => simp [locL]
theorem reach_host {d : Nat} {r : List Nat} (h : Good (d :: r)) : reachF (St (hostC (d :: r))) = St (46 :: hostC r) := by
  unfold reachF
  have e : hostC (d :: r) = (97 + d) :: 46 :: hostC r := rfl
  rw [dot_eq, local_eq, hdn_host h, e, find_cons2 _ (by omega)]
  have sl : Txt.slice (St ((97 + d) :: 46 :: hostC r)) (some (1 + 1)) none = St (hostC r) := slice_from_nat (l := (97 + d) :: 46 :: hostC r) (k := 2) (by simp)
  rw [if_pos (by decide), if_neg (by decide), sl, St_app, St_beq]
  cases r with
  | nil => rw [show hostC [] = locL from rfl, loc_none, if_neg (by decide), decide_eq_true rfl, if_pos rfl]; rfl
  | cons c r => rw [show hostC (c :: r) = (97 + c) :: 46 :: hostC r from rfl, find_cons2 _ (by omega), if_pos (by decide)]; rfl
theorem Good.drop {a : List Nat} (h : Good a) (n : Nat) : Good (a.drop n) := fun d hd => h d (List.mem_of_mem_drop hd)
theorem dom_loop {a : List Nat} (h : Good a) : ∀ {n : Nat}, n < a.length → domLoop (St (hostC a)) (n + 1) = (St (46 :: hostC (a.drop (n + 1))), St (hostC (a.drop (n + 1))))
  | n, hn => by
    have e2 : (domLoop (St (hostC a)) n).2 = St (hostC (a.drop n)) := by
      cases n with
      | zero => rfl
      | succ n => rw [dom_loop h (n := n) (by omega)]
    rw [domLoop, e2, ← List.getElem_cons_drop (h := hn), reach_host (by rw [List.getElem_cons_drop]; exact h.drop n), slice1]
theorem dom_loop2 {a : List Nat} (h : Good a) {n : Nat} (hn : n ≤ a.length) : (domLoop (St (hostC a)) n).2 = St (hostC (a.drop n)) := by
  cases n with
  | zero => rfl
  | succ n => rw [dom_loop h (by omega)]
theorem dom_host {a : List Nat} (h : Good a) {n : Nat} (h1 : 1 ≤ n) (hn : n ≤ a.length) : domF (St (hostC a)) n = St ((46 :: hostC (a.drop n)).map upC) := by
  obtain ⟨p, rfl⟩ : ∃ p, n = p + 1 := ⟨n - 1, by omega⟩
  unfold domF
  rw [dom_loop h (by omega), upper_ok (dot_ok (hostC_ok (h.drop _)))]
end
section
open PySem PySem.W PyProof.Rows PySem.Calls
set_option maxRecDepth 100000
theorem hdn_of {l : List Nat} {c d : Nat} (h0 : l[0]? = some c) (hc : c ≠ 46) (h1 : l[l.length - 1]? = some d) (hd : d ≠ 46) : hdnB (St l) = true := by
  have hl := (List.getElem?_eq_some_iff.mp h0).1
  unfold hdnB
  rw [empty_eq, dot_eq, St_beq, decide_eq_false (by intro e; rw [e] at hl; simp at hl), if_neg (by decide)]
  rw [item_ne (c := c) (by rw [StrLaws.seqIndex_nonneg (by omega) (by omega)]; simpa using h0) hc, if_neg (by decide)]
  rw [item_ne (c := d) (by rw [StrLaws.seqIndex_neg (by omega) (by omega), show (-1 + (l.length : Int)).toNat = l.length - 1 from by omega]; simpa using h1) hd, if_neg (by decide)]
theorem hdn_dot (l : List Nat) : hdnB (St (46 :: l)) = false := by
  unfold hdnB
  rw [empty_eq, dot_eq, St_beq, decide_eq_false (by simp), if_neg (by decide)]
  have : (Txt.item (St (46 :: l)) 0 == St [46]) = true := by
    unfold Txt.item Txt.charAt
    rw [StrLaws.seqIndex_nonneg (by omega) (by rw [St_len]; simp)]
    rw [beq_iff_eq]
    rfl
  rw [this, if_pos rfl]
theorem hdn_nil : hdnB (St []) = false := by
  unfold hdnB
  rw [empty_eq, St_beq, decide_eq_true rfl, if_pos rfl]
noncomputable def plainC : List Nat → List Nat
  | [] => []
  | [d] => [97 + d]
  | d :: e :: r => (97 + d) :: 46 :: plainC (e :: r)
theorem plain_len : ∀ (d : Nat) (r : List Nat), (plainC (d :: r)).length = 2 * r.length + 1
  | d, [] => rfl
  | d, e :: r => by simp only [plainC, List.length_cons, plain_len e r]; lia
theorem host_plain : ∀ (d : Nat) (r : List Nat), hostC (d :: r) = plainC (d :: r) ++ 46 :: locL
  | d, [] => rfl
  | d, e :: r => by
    show (97 + d) :: 46 :: hostC (e :: r) = _
    rw [host_plain e r]; rfl
theorem plain_ok {d : Nat} {r : List Nat} (h : Good (d :: r)) : OkL (plainC (d :: r)) := fun c hc => hostC_ok h c (by rw [host_plain]; exact List.mem_append_left _ hc)
theorem plain_last : ∀ (d : Nat) (r : List Nat), ∃ z, (plainC (d :: r))[2 * r.length]? = some (97 + z)
  | d, [] => ⟨d, rfl⟩
  | d, e :: r => by
    obtain ⟨z, hz⟩ := plain_last e r
    exact ⟨z, by rw [List.length_cons, show 2 * (r.length + 1) = 2 * r.length + 1 + 1 from by omega]; simpa [plainC] using hz⟩
theorem plain_first : ∀ (d : Nat) (r : List Nat), (plainC (d :: r))[0]? = some (97 + d)
  | d, [] => rfl
  | d, e :: r => rfl
theorem plain_tail : ∀ (d e : Nat) (r : List Nat), ∃ y z, (plainC (d :: e :: r)).drop (2 * r.length) = [97 + y, 46, 97 + z]
  | d, e, [] => ⟨d, e, rfl⟩
  | d, e, f :: r => by
    obtain ⟨y, z, h⟩ := plain_tail e f r
    exact ⟨y, z, by rw [List.length_cons, show 2 * (r.length + 1) = 2 * r.length + 1 + 1 from by omega]; exact h⟩
theorem slice_to (l : List Nat) {k m : Nat} (hk : l.length = m + k) (h1 : 1 ≤ k) : Txt.slice (St l) none (some (-(k : Int))) = St (l.take m) := by
  have e := StrLaws.sliceText_to_neg (x := St l) (j := -(k : Int)) (by omega) (by rw [St_len]; omega)
  refine Eq.trans e ?_
  rw [St_len, show (-(k : Int) + (l.length : Int) - 0).toNat = m from by omega]
  simp
theorem slice_tail (l : List Nat) {k m : Nat} (hk : l.length = m + k) (h1 : 1 ≤ k) : Txt.slice (St l) (some (-(k : Int))) none = St (l.drop m) := by
  have e := StrLaws.sliceText_from_neg (x := St l) (i := -(k : Int)) (by omega) (by rw [St_len]; omega)
  refine Eq.trans e ?_
  rw [St_len, show (-(k : Int) + (l.length : Int)).toNat = m from by omega]
  rw [List.take_of_length_le (by rw [List.length_drop]; show l.length - m ≤ ((l.length : Int) - (-(k : Int) + (l.length : Int))).toNat; omega)]
theorem reach_two (y z : Nat) : reachF (St [97 + y, 46, 97 + z]) = St [97 + y, 46, 97 + z] := by
  unfold reachF
  rw [dot_eq, local_eq, find_cons2 _ (by omega)]
  have sl : Txt.slice (St [97 + y, 46, 97 + z]) (some (1 + 1)) none = St [97 + z] := slice_from_nat (l := [97 + y, 46, 97 + z]) (k := 2) (by simp)
  have fn : Txt.find (St [97 + z]) (St [46]) = -1 := find_none fun k => by
    match k with
    | 0 => simp; omega
    | k + 1 => simp
  rw [if_pos (by decide), sl, fn, if_neg (show ¬ (0 : Int) ≤ -1 by decide), St_beq, decide_eq_false (by simp [locL])]
  simp
theorem reach_local : reachF (St locL) = St locL := by
  unfold reachF
  rw [dot_eq, loc_none, if_neg (by decide)]
theorem reach_plain {d e f : Nat} {r : List Nat} : reachF (St (plainC (d :: e :: f :: r))) = St [46] ++ Txt.slice (St (plainC (d :: e :: f :: r))) (some 2) none := by
  have sl : Txt.slice (St (plainC (d :: e :: f :: r))) (some 2) none = St (plainC (e :: f :: r)) := slice_from_nat (l := plainC (d :: e :: f :: r)) (k := 2) (by rw [plain_len]; simp; lia)
  obtain ⟨z, hz⟩ := plain_last d (e :: f :: r)
  have hh : hdnB (St (plainC (d :: e :: f :: r))) = true := hdn_of (plain_first d _) (by omega) (by rw [plain_len]; exact hz) (by omega)
  have sl' : Txt.slice (St ((97 + d) :: 46 :: plainC (e :: f :: r))) (some (1 + 1)) none = St (plainC (e :: f :: r)) := sl
  unfold reachF
  rw [dot_eq, hh, sl]
  rw [show plainC (d :: e :: f :: r) = (97 + d) :: 46 :: plainC (e :: f :: r) from rfl, find_cons2 _ (by omega), if_pos (by decide), if_neg (by decide), sl']
  rw [show plainC (e :: f :: r) = (97 + e) :: 46 :: plainC (f :: r) from rfl, find_cons2 _ (by omega), if_pos (by decide)]
theorem slen (l : List Nat) (h : l.length ≤ 1000) : (St l).length ≤ 1000 := by rw [St_len]; exact h
theorem dmPre_of {x y x' y' : List Nat} (hx : x.length ≤ 1000) (hy : y.length ≤ 1000) (ex : Txt.lower (St x) = St x') (ey : Txt.lower (St y) = St y') (hx' : x'.length ≤ 1000) (hy' : y'.length ≤ 1000) (ox : OkL x') (oy : OkL y') : DmPre (St x) (St y) := by
  refine ⟨?_, ?_, slen x hx, slen y hy, ?_, ?_, ?_⟩
  · rw [ex]; exact slen x' hx'
  · rw [ey]; exact slen y' hy'
  · rw [ey]; exact Nat.le_trans (Txt.slice_le _ _ _) (slen y' hy')
  · rw [ex]; exact noDD_ok ox
  · rw [ey]
    cases y' with
    | nil => exact noDD_ok (l := []) oy
    | cons c y' => rw [slice1]; exact noDD_ok fun d hd => oy d (List.mem_cons_of_mem _ hd)
theorem rePre_of {x : List Nat} (hx : x.length ≤ 1000) (ox : OkL x) : RePre (St x) := ⟨slen x hx, Nat.le_trans (Txt.slice_le _ _ _) (slen x hx), noDD_ok ox⟩
theorem map_up_len (l : List Nat) : (l.map upC).length = l.length := List.length_map _
theorem dm_false {x y : Str} {l k : List Nat} (ex : Txt.lower x = St l) (ey : Txt.lower y = St k) (hne : l ≠ k) (h : hdnB (St l) = false ∨ Txt.rfind (St l) (St k) = -1 ∨ Txt.startswith (St k) (St [46]) = false ∨ hdnB (Txt.slice (St k) (some 1) none) = false) : dmB x y = false := by
  unfold dmB
  rw [ex, ey, St_beq, decide_eq_false hne, if_neg (by decide), dot_eq]
  rcases h with h | h | h | h
  · rw [if_pos h]
  · rw [if_pos h]; split <;> rfl
  · rw [h]; simp
  · rw [h]; simp
theorem ruledPre_host {a t : List Nat} (ha : Good a) (ht : Good t) (h3 : 3 ≤ a.length) (h8 : a.length ≤ 8) (hlt : t.length < a.length) : RuledPre (St (hostC a)) (St ((46 :: hostC t).map upC)) := by
  match a, h3 with
  | d :: e :: f :: r, _ =>
    have la := hostC_len (d :: e :: f :: r)
    have lt := hostC_len t
    have lp := plain_len d (e :: f :: r)
    simp only [List.length_cons] at la lp h8 hlt
    have ep : Txt.slice (St (hostC (d :: e :: f :: r))) none (some (-6)) = St (plainC (d :: e :: f :: r)) := by
      rw [show (-6 : Int) = -((6 : Nat) : Int) from rfl, slice_to (m := (plainC (d :: e :: f :: r)).length) (k := 6) _ (by lia) (by decide), host_plain, List.take_left']
      rfl
    obtain ⟨y, z, hyz⟩ := plain_tail d e (f :: r)
    have e3 : Txt.slice (St (plainC (d :: e :: f :: r))) (some (-3)) none = St [97 + y, 46, 97 + z] := by
      rw [show (-3 : Int) = -((3 : Nat) : Int) from rfl, slice_tail (m := 2 * (f :: r).length) (k := 3) _ (by rw [plain_len]; simp only [List.length_cons]; lia) (by decide), hyz]
    have ok := hostC_ok ha
    have okp := plain_ok ha
    have okt := hostC_ok ht
    have okd := dot_ok okt
    have oky : OkL [97 + y, 46, 97 + z] := fun c hc => okp c (List.mem_of_mem_drop (hyz ▸ hc))
    have eD : (46 :: hostC t).map upC = 46 :: (hostC t).map upC := rfl
    have lwt : Txt.lower (St ((hostC t).map upC)) = St (hostC t) := lower_upper_ok okt
    have lwd : Txt.lower (St ((46 :: hostC t).map upC)) = St (46 :: hostC t) := lower_upper_ok okd
    have o1 : OkL [46] := by unfold OkL; decide
    have ne1 : hostC (d :: e :: f :: r) ≠ locL := fun q => by have := congrArg List.length q; rw [show locL.length = 5 from rfl] at this; omega
    refine ⟨?p1, ?p2, ?p3, ?p4, ?m1, ?m2, ?m3, ?m4, ?m5, ?r1, ?r3, ?r4, ?d1, ?d2, ?d3, ?d4, ?d5⟩
    case p1 => rw [ep, e3]; exact rePre_of (by simp) oky
    case p2 =>
      rw [ep, show Str.ofString ".7" = St [46, 55] from by decide +kernel, St_app]
      refine ⟨slen _ (by rw [List.length_append, lp]; simp; omega), Nat.le_trans (Txt.slice_le _ _ _) (slen _ (by rw [List.length_append, lp]; simp; omega)), ?_⟩
      refine ⟨(plainC (d :: e :: f :: r)).length, by simp, ?_, ?_, fun i hi hs _ => ?_⟩
      · simp [Array.getD_eq_getD_getElem?]
      · simp [Array.getD_eq_getD_getElem?]; decide
      · refine nodig _ ?_
        rw [Array.getD_eq_getD_getElem?]
        simp only [List.getElem?_toArray]
        by_cases hj : i + 1 < (plainC (d :: e :: f :: r)).length
        · rw [List.getElem?_append_left hj, List.getElem?_eq_getElem hj]
          exact okp _ (List.getElem_mem hj)
        · rw [List.getElem?_append_right (by omega), show i + 1 - (plainC (d :: e :: f :: r)).length = 0 from by omega]
          decide
    case p3 => rw [local_eq]; exact rePre_of (by decide) loc_ok
    case p4 => rw [ep]; exact rePre_of (by omega) okp
    case m1 => rw [local_eq]; exact dmPre_of (by omega) (by decide) (lower_ok ok) (lower_ok loc_ok) (by omega) (by decide) ok loc_ok
    case m2 => rw [eD, slice1, ← eD]; exact dmPre_of (by rw [map_up_len]; omega) (by rw [map_up_len, List.length_cons]; omega) lwt lwd (by omega) (by rw [List.length_cons]; omega) okt okd
    case m3 => rw [dot_eq, St_app]; exact dmPre_of (x' := 46 :: hostC (d :: e :: f :: r)) (by rw [List.singleton_append, List.length_cons]; omega) (by rw [map_up_len, List.length_cons]; omega) (lower_ok (dot_ok ok)) lwd (by rw [List.length_cons]; omega) (by rw [List.length_cons]; omega) (dot_ok ok) okd
    case m4 => rw [dot_eq]; exact dmPre_of (by omega) (by decide) (lower_ok ok) (lower_ok o1) (by omega) (by decide) ok o1
    case m5 => rw [lwd]; exact dmPre_of (by rw [map_up_len, List.length_cons]; omega) (by rw [List.length_cons]; omega) lwd (lower_ok okd) (by rw [List.length_cons]; omega) (by rw [List.length_cons]; omega) okd okd
    case r1 => rw [ep, e3]; exact reach_two y z
    case r3 => rw [local_eq]; exact reach_local
    case r4 => rw [ep, dot_eq]; exact reach_plain
    case d1 => rw [local_eq]; exact dm_false (lower_ok ok) (lower_ok loc_ok) ne1 (.inr (.inr (.inl (by decide +kernel))))
    case d2 =>
      rw [eD, slice1, ← eD]
      refine dm_false lwt lwd (fun q => by have := congrArg List.length q; rw [List.length_cons] at this; lia) (.inr (.inl ?_))
      unfold Txt.rfind
      rcases StrLaws.last_spec (St (hostC t)) (St (46 :: hostC t)) with ⟨h0, hn⟩ | ⟨i, h0, hi, -⟩
      · rw [h0]
      · rw [at_list, List.length_cons] at hi; lia
    case d3 => rw [dot_eq, St_app]; exact dm_false (lower_ok (dot_ok ok)) lwd (fun q => by have := congrArg List.length q; simp only [List.length_append, List.length_cons, List.length_nil] at this; omega) (.inl (hdn_dot _))
    case d4 => rw [dot_eq]; exact dm_false (lower_ok ok) (lower_ok o1) (fun q => by have := congrArg List.length q; simp only [List.length_singleton] at this; omega) (.inr (.inr (.inr (by rw [slice1]; exact hdn_nil))))
    case d5 => rw [lwd]; unfold dmB; rw [lwd, lower_ok okd]; simp
theorem domPre_host {a : List Nat} (ha : Good a) (h8 : a.length ≤ 8) {n : Nat} (hn : n ≤ a.length) : DomPre (St (hostC a)) n := by
  have lk : ∀ k, (hostC (a.drop k)).length ≤ 1000 := fun k => by rw [hostC_len, List.length_drop]; omega
  refine ⟨by omega, fun i hi => ?_, ?_⟩
  · rw [dom_loop2 ha (by omega)]
    refine ⟨slen _ (lk i), Nat.le_trans (Txt.slice_le _ _ _) (slen _ (lk i)), noDD_ok (hostC_ok (ha.drop i)), ?_⟩
    rw [← List.getElem_cons_drop (h := show i < a.length by omega), reach_host (by rw [List.getElem_cons_drop]; exact ha.drop i)]
    exact slen _ (by rw [List.length_cons, hostC_len, List.length_drop]; omega)
  · cases n with
    | zero => exact slen [] (by simp)
    | succ n =>
      rw [dom_loop ha (by omega)]
      exact slen _ (by rw [List.length_cons, hostC_len, List.length_drop]; omega)
theorem parPre_host {hs : List (List Nat)} {t : List Nat} (hh : ∀ a ∈ hs, Good a ∧ a.length ≤ 8) (ht : Good t) (h8 : t.length ≤ 8) : ParPre (hs.map fun a => St (hostC a)) (St ((46 :: hostC t).map upC)) := by
  have lt := hostC_len t
  have okd := dot_ok (hostC_ok ht)
  have lwd : Txt.lower (St ((46 :: hostC t).map upC)) = St (46 :: hostC t) := lower_upper_ok okd
  refine ⟨slen _ (by rw [map_up_len, List.length_cons]; omega), ?_, ?_, ?_, fun x hx => ?_⟩
  · rw [lwd]; exact slen _ (by rw [List.length_cons]; omega)
  · rw [lwd]; exact Nat.le_trans (Txt.slice_le _ _ _) (slen _ (by rw [List.length_cons]; omega))
  · rw [lwd, slice1]; exact noDD_ok (hostC_ok ht)
  · obtain ⟨a, ha, rfl⟩ := List.mem_map.mp hx
    obtain ⟨g, h⟩ := hh a ha
    rw [lower_ok (hostC_ok g)]
    exact ⟨slen _ (by rw [hostC_len]; omega), slen _ (by rw [hostC_len]; omega), noDD_ok (hostC_ok g)⟩
end
section
open PySem PySem.W PyProof.Rows PySem.Calls
set_option maxRecDepth 100000
/-- numbers put together, each below 2 ^ nn -/
noncomputable def sN (f : Nat → Nat) (nn : Nat) : Nat → Nat → Nat
  | _, 0 => 0
  | L, k + 1 => f L + 2 ^ nn * sN f nn (L + 1) k
theorem sumD_nat {ds : List Int} {f : Nat → Nat} (h : ∀ i, ds.getD i 0 = (f i : Int)) (nn : Nat) : ∀ k L, sumD ds nn L k = (sN f nn L k : Int)
  | 0, L => rfl
  | k + 1, L => by
    rw [sumD, sN, h, sumD_nat h nn k (L + 1)]
    push_cast
    rfl
theorem sN_div {f : Nat → Nat} {nn : Nat} (h : ∀ i, f i < 2 ^ nn) : ∀ (i k L : Nat), i ≤ k → sN f nn L k / 2 ^ (nn * i) = sN f nn (L + i) (k - i)
  | 0, k, L, _ => by simp
  | i + 1, 0, L, hk => by lia
  | i + 1, k + 1, L, hk => by
    have h2 : 0 < 2 ^ nn := Nat.pow_pos (by decide)
    rw [show nn * (i + 1) = nn + nn * i from by rw [Nat.mul_succ, Nat.add_comm], Nat.pow_add, ← Nat.div_div_eq_div_mul, sN, Nat.add_mul_div_left _ _ h2, Nat.div_eq_of_lt (h L), Nat.zero_add, sN_div h i k (L + 1) (by omega), Nat.add_sub_add_right]
    congr 1
    lia
theorem sN_mod {f : Nat → Nat} {nn : Nat} (h : ∀ i, f i < 2 ^ nn) (k L : Nat) : sN f nn L (k + 1) % 2 ^ nn = f L := by
  rw [sN, Nat.add_mul_mod_self_left, Nat.mod_eq_of_lt (h L)]
/-- a figure of the whole number is a figure of one number -/
theorem sN_fig {f : Nat → Nat} {wd pl : Nat} (h : ∀ i, f i < 2 ^ (wd * pl)) {n i r : Nat} (hi : i < n) (hr : r < pl) :
    sN f (wd * pl) 0 n / 2 ^ (wd * (i * pl + r)) % 2 ^ wd = f i / 2 ^ (wd * r) % 2 ^ wd := by
  have e1 : wd * (i * pl + r) = (wd * pl) * i + wd * r := by rw [Nat.mul_add, Nat.mul_assoc, Nat.mul_comm i pl]
  obtain ⟨k, hk⟩ : ∃ k, n - i = k + 1 := ⟨n - i - 1, by lia⟩
  rw [e1, Nat.pow_add, ← Nat.div_div_eq_div_mul, sN_div h i n 0 (by omega), hk, Nat.zero_add]
  have key : ∀ Y : Nat, Y / 2 ^ (wd * r) % 2 ^ wd = (Y % 2 ^ (wd * pl)) / 2 ^ (wd * r) % 2 ^ wd := fun Y => by
    rw [← Nat.mod_mul_right_div_self, ← Nat.mod_mul_right_div_self, Nat.mod_mod_of_dvd]
    rw [← Nat.pow_add]
    refine Nat.pow_dvd_pow 2 ?_
    rw [← Nat.mul_succ]
    exact Nat.mul_le_mul_left _ hr
  rw [key, sN_mod h]
theorem putD_get (nn x L : Nat) (ns : List Int) : ∀ k j : Nat, L + k ≤ ns.length → (putD nn x L ns k)[L + j]? = if j < k then some (((x / 2 ^ (nn * j)) % 2 ^ nn : Nat) : Int) else ns[L + j]?
  | 0, j, _ => by simp [putD]
  | k + 1, j, hk => by
    rw [putD, List.getElem?_set, putD_length]
    by_cases e : k = j
    · subst e
      rw [if_pos rfl, if_pos (by omega), if_pos (by omega)]
    · rw [if_neg (by lia), putD_get nn x L ns k j (by omega)]
      by_cases h : j < k
      · rw [if_pos h, if_pos (by omega)]
      · rw [if_neg h, if_neg (by omega)]
theorem many_bits {wd N : Nat} (hw : 1 ≤ wd ∧ wd ≤ 2) (hN : 0 < N) {j : Nat} (hj : manyD wd N ≤ j) : N / 2 ^ (wd * j) = 0 :=
  Nat.div_eq_of_lt (Nat.lt_of_lt_of_le (manyD_fit hw hN) (Nat.pow_le_pow_right (by decide) (Nat.mul_le_mul_left _ hj)))
theorem row_lt {i n r k : Nat} (hi : i < n) (hr : r < k) : i * k + r < n * k := by
  have : i * k + k ≤ n * k := by rw [← Nat.succ_mul]; exact Nat.mul_le_mul_right _ hi
  omega
theorem figL_get {wd pl : Nat} {ds : List Int} {f : Nat → Nat} (hds : ∀ i, ds.getD i 0 = (f i : Int)) (hb : ∀ i, f i < 2 ^ (wd * pl)) (hw : 1 ≤ wd ∧ wd ≤ 2) {i r : Nat} (hi : i < ds.length) (hr : r < pl) (hpos : 0 < wholeN wd pl ds) :
    (figL wd pl ds)[i * pl + r]? = some ((f i / 2 ^ (wd * r) % 2 ^ wd : Nat) : Int) := by
  have hN : wholeN wd pl ds = sN f (wd * pl) 0 ds.length := by unfold wholeN; rw [sumD_nat hds]; lia
  have hlt := row_lt hi hr
  rw [Nat.mul_comm ds.length pl] at hlt
  have hp := putD_get wd (wholeN wd pl ds) 0 (List.replicate (manyD wd (wholeN wd pl ds)) 0) (manyD wd (wholeN wd pl ds)) (i * pl + r) (by simp)
  rw [Nat.zero_add] at hp
  have hf := sN_fig hb hi hr
  rw [← hN] at hf
  have hz := @many_bits wd (wholeN wd pl ds) hw hpos (i * pl + r)
  have hle := putD_length wd (wholeN wd pl ds) 0 (List.replicate (manyD wd (wholeN wd pl ds)) 0) (manyD wd (wholeN wd pl ds))
  rw [List.length_replicate] at hle
  unfold figL
  by_cases hj : i * pl + r < manyD wd (wholeN wd pl ds)
  · rw [List.getElem?_append_left (by rw [hle]; exact hj), hp, if_pos hj, hf]
  · rw [List.getElem?_append_right (by rw [hle]; omega), hle, List.getElem?_replicate, if_pos (by omega)]
    rw [hz (by omega), Nat.zero_mod] at hf
    rw [← hf]
    rfl
theorem rowN_get (b : Array UInt8) (k i r : Nat) : (rowN (rowF b k i))[r]? = if r < k then (b[i * k + r]?).map (·.toNat) else none := by
  unfold rowN rowF
  rw [List.getElem?_map, Array.getElem?_toList, Array.getElem?_extract]
  by_cases h : r < k
  · rw [if_pos h]
    by_cases h2 : r < min (i * k + k) b.size - i * k
    · rw [if_pos h2]
    · rw [if_neg h2, Array.getElem?_eq_none (by omega)]
  · rw [if_neg h, if_neg (by omega)]
    rfl
theorem rowN_len {b : Array UInt8} {k n i : Nat} (hb : b.size = n * k) (hi : i < n) : (rowN (rowF b k i)).length = k := by
  unfold rowN rowF
  have : i * k + k ≤ n * k := by rw [← Nat.succ_mul]; exact Nat.mul_le_mul_right _ hi
  rw [List.length_map, Array.length_toList, Array.size_extract]
  omega
theorem dg_get (bs pl x r : Nat) : (dg bs pl x)[r]? = if r < pl then some (x / bs ^ r % bs) else none := by
  unfold dg
  by_cases h : r < pl
  · rw [List.getElem?_map, List.getElem?_range h, if_pos h]; rfl
  · rw [if_neg h, List.getElem?_eq_none (by simpa using h)]
theorem dg_len (bs pl x : Nat) : (dg bs pl x).length = pl := by simp [dg]
theorem dg_good {bs : Nat} (h : bs = 2 ∨ bs = 4) (pl x : Nat) : Good (dg bs pl x) := fun d hd => by
  obtain ⟨j, _, rfl⟩ := List.mem_map.mp hd
  have := Nat.mod_lt (x / bs ^ j) (show 0 < bs by omega)
  omega
theorem row_fig {wd pl : Nat} {ds : List Int} {f : Nat → Nat} (hds : ∀ i, ds.getD i 0 = (f i : Int)) (hb : ∀ i, f i < 2 ^ (wd * pl)) (hw : 1 ≤ wd ∧ wd ≤ 2) {i : Nat} (hi : i < ds.length) (hpos : 0 < wholeN wd pl ds) :
    rowN (rowF (figF wd pl ds) pl i) = dg (2 ^ wd) pl (f i) := by
  apply List.ext_getElem?
  intro r
  rw [rowN_get, dg_get]
  by_cases h : r < pl
  · rw [if_pos h, if_pos h]
    unfold figF toB
    rw [List.getElem?_toArray, List.getElem?_map, figL_get hds hb hw hi h hpos, ← Nat.pow_mul]
    simp only [Option.map_some]
    have h1 : f i / 2 ^ (wd * r) % 2 ^ wd < 2 ^ wd := Nat.mod_lt _ (Nat.pow_pos (by decide))
    have h2 : 2 ^ wd ≤ 4 := by rcases (show wd = 1 ∨ wd = 2 by lia) with rfl | rfl <;> decide
    rw [Int.toNat_natCast]
    congr 1
    show UInt8.toNat (UInt8.ofNat _) = _
    rw [UInt8.toNat_ofNat']
    omega
  · rw [if_neg h, if_neg h]
theorem swIn_get {b : Array UInt8} {w o : Nat} : ∀ (j : Nat) (a : Array UInt8) (q : Nat), j ≤ w → o + w ≤ a.size → (swIn b w o j a)[q]? = if o + w - j ≤ q ∧ q < o + w then some (b.getD (o + (o + w - 1 - q)) 0) else a[q]?
  | 0, a, q, _, _ => by rw [if_neg (by lia)]; rfl
  | j + 1, a, q, hj, ha => by
    rw [swIn, Array.getElem?_setIfInBounds, swIn_size, swIn_get j a q (by omega) ha]
    by_cases e : o + w - 1 - j = q
    · rw [if_pos e, if_pos (by omega), if_pos (by omega)]
      congr 2
      omega
    · rw [if_neg e]
      by_cases h : o + w - j ≤ q ∧ q < o + w
      · rw [if_pos h, if_pos (by omega)]
      · rw [if_neg h, if_neg (by omega)]
theorem swOut_get {b : Array UInt8} {w n : Nat} (hb : b.size = n * w) : ∀ (i : Nat), i ≤ n → ∀ i' r, i' < i → r < w → (swOut b w i)[i' * w + r]? = some (b.getD (i' * w + (w - 1 - r)) 0)
  | 0, _, i', r, h, _ => by lia
  | i + 1, hi, i', r, h, hr => by
    have hs : i * w + w ≤ (swOut b w i).size := by rw [swOut_size, hb, ← Nat.succ_mul]; exact Nat.mul_le_mul_right _ hi
    rw [swOut, swIn_get w _ _ (Nat.le_refl _) hs]
    by_cases e : i' = i
    · subst e
      rw [if_pos (by omega)]
      congr 2
      lia
    · have := row_lt (show i' < i by omega) hr
      rw [if_neg (by omega), swOut_get hb i (by omega) i' r (by omega) hr]
theorem row_sw {b : Array UInt8} {w n i : Nat} (hb : b.size = n * w) (hi : i < n) : rowN (rowF (swOut b w n) w i) = (rowN (rowF b w i)).reverse := by
  apply List.ext_getElem?
  intro r
  have hl := rowN_len hb hi
  rw [rowN_get]
  by_cases h : r < w
  · rw [if_pos h, swOut_get hb n (Nat.le_refl _) i r hi h, List.getElem?_reverse (by omega), hl, rowN_get, if_pos (by omega)]
    have := row_lt hi (show w - 1 - r < w by omega)
    rw [Array.getD_eq_getD_getElem?, Array.getElem?_eq_getElem (by omega)]
    rfl
  · rw [if_neg h, List.getElem?_eq_none (by rw [List.length_reverse]; omega)]
theorem octs_rowN (b : Array UInt8) : octs b = (rowN b).map fun (c : Nat) => (c : Int) := by
  unfold octs rowN
  rw [List.map_map]
  rfl
theorem rowN_moved {b : Array UInt8} {bs : Nat} (h : bs = 2 ∨ bs = 4) : rowN (movedF b (bs : Int)) = mvL bs (rowN b) := by
  unfold mvL
  rw [← octs_rowN, show (rowN b).length = b.size from by simp [rowN]]
  have ho := mvOut_oct (base := (bs : Int)) (by omega) b.size (octs_oct b) (b.size - 1)
  unfold movedF rowN
  rw [List.map_map]
  refine List.map_congr_left fun x hx => ?_
  have := ho x hx
  show UInt8.toNat (UInt8.ofNat _) = _
  rw [UInt8.toNat_ofNat']
  omega
theorem mvL_len (bs : Nat) (a : List Nat) : (mvL bs a).length = a.length := by
  unfold mvL
  rw [List.length_map, mvOut_length, List.length_map]
theorem moved_size (b : Array UInt8) (base : Int) : (movedF b base).size = b.size := by
  unfold movedF
  rw [List.size_toArray, List.length_map, mvOut_length, octs, List.length_map, Array.length_toList]
theorem joinB_cons (r : Array UInt8) (rs : List (Array UInt8)) : joinB (r :: rs) = r ++ joinB rs := by
  have key : ∀ (l : List (Array UInt8)) (a : Array UInt8), l.foldl (· ++ ·) a = a ++ l.foldl (· ++ ·) #[] := by
    intro l
    induction l with
    | nil => intro a; simp
    | cons x l ih => intro a; rw [List.foldl_cons, List.foldl_cons, ih, ih (#[] ++ x)]; simp
  unfold joinB
  rw [List.foldl_cons, key]
  simp
theorem row_join {k : Nat} : ∀ {rows : List (Array UInt8)} {i : Nat} {r : Array UInt8}, (∀ x ∈ rows, x.size = k) → rows[i]? = some r → rowN (rowF (joinB rows) k i) = rowN r
  | [], i, r, _, h => by simp at h
  | x :: rows, 0, r, hs, h => by
    obtain rfl : x = r := by simpa using h
    have hx := hs x List.mem_cons_self
    apply List.ext_getElem?
    intro j
    rw [rowN_get, joinB_cons, Nat.zero_mul, Nat.zero_add]
    by_cases hj : j < k
    · rw [if_pos hj, Array.getElem?_append_left (by omega)]
      unfold rowN
      rw [List.getElem?_map, Array.getElem?_toList]
    · rw [if_neg hj, List.getElem?_eq_none (by simp [rowN]; omega)]
  | x :: rows, i + 1, r, hs, h => by
    have hx := hs x List.mem_cons_self
    rw [← row_join (rows := rows) (i := i) (r := r) (fun y hy => hs y (List.mem_cons_of_mem _ hy)) (by simpa using h)]
    apply List.ext_getElem?
    intro j
    rw [rowN_get, rowN_get, joinB_cons, Array.getElem?_append_right (by rw [hx, Nat.succ_mul]; lia), hx, Nat.succ_mul, show i * k + k + j - k = i * k + j from by omega]
theorem joinB_size {k : Nat} : ∀ {rows : List (Array UInt8)}, (∀ x ∈ rows, x.size = k) → (joinB rows).size = rows.length * k
  | [], _ => by simp [joinB]
  | x :: rows, h => by
    rw [joinB_cons, Array.size_append, h x List.mem_cons_self, joinB_size fun y hy => h y (List.mem_cons_of_mem _ hy), List.length_cons, Nat.succ_mul, Nat.add_comm]
end
section
open PySem PySem.W PyProof.Rows PySem.Calls
set_option maxRecDepth 100000
theorem dg_take (bs pl x k : Nat) (hk : k ≤ pl) : (dg bs pl x).take k = dg bs k x := by
  apply List.ext_getElem?
  intro r
  rw [List.getElem?_take, dg_get, dg_get]
  by_cases h : r < k
  · rw [if_pos h, if_pos h, if_pos (by omega)]
  · rw [if_neg h, if_neg h]
theorem dg_drop (bs pl x k : Nat) : (dg bs pl x).drop k = dg bs (pl - k) (x / bs ^ k) := by
  apply List.ext_getElem?
  intro r
  rw [List.getElem?_drop, dg_get, dg_get, Nat.div_div_eq_div_mul, ← Nat.pow_add]
  by_cases h : k + r < pl
  · rw [if_pos h, if_pos (by omega)]
  · rw [if_neg h, if_neg (by omega)]
theorem dg_succ (bs m c : Nat) : dg bs (m + 1) c = (c % bs) :: dg bs m (c / bs) := by
  apply List.ext_getElem?
  intro r
  cases r with
  | zero => rw [dg_get, if_pos (by lia)]; simp
  | succ r =>
    rw [dg_get, List.getElem?_cons_succ, dg_get, Nat.div_div_eq_div_mul, ← Nat.pow_succ']
    by_cases h : r < m
    · rw [if_pos h, if_pos (by omega)]
    · rw [if_neg h, if_neg (by omega)]
theorem val_dg (bs : Nat) : ∀ m c, valD bs (dg bs m c) = c % bs ^ m
  | 0, c => by simp [dg, valD, Nat.mod_one]
  | m + 1, c => by
    rw [dg_succ, valD, List.foldr_cons]
    show c % bs + bs * valD bs (dg bs m (c / bs)) = _
    rw [val_dg bs m, Nat.pow_succ', Nat.mod_mul]
theorem dg_mod (bs : Nat) : ∀ m c, dg bs m (c % bs ^ m) = dg bs m c
  | 0, c => rfl
  | m + 1, c => by
    rw [dg_succ, dg_succ, Nat.pow_succ', Nat.mod_mul_right_mod, Nat.mod_mul_right_div_self, dg_mod bs m]
theorem dg_eq (bs m x y : Nat) : dg bs m x = dg bs m y ↔ x % bs ^ m = y % bs ^ m :=
  ⟨fun h => by rw [← val_dg, ← val_dg, h], fun h => by rw [← dg_mod bs m x, h, dg_mod]⟩
theorem zipsel {α β : Type} [DecidableEq α] (L : List α) (g : α → β) (q : α → Bool) : ((L.zip (L.map g)).filter fun p => decide (p.1 ∈ L.filter q)).map (·.2) = (L.filter q).map g := by
  have e : L.zip (L.map g) = L.map fun a => (a, g a) := by
    clear q
    induction L with
    | nil => rfl
    | cons a L ih => rw [List.map_cons, List.zip_cons_cons, ih]; rfl
  rw [e, List.filter_map, List.map_map]
  refine congrArg _ (List.filter_congr fun a ha => ?_) |>.trans rfl
  simp [ha]
theorem zipall {α β : Type} (L : List α) (g : α → β) (p : α × β → Bool) (h : ∀ a ∈ L, p (a, g a) = true) : (L.zip (L.map g)).all p = true := by
  induction L with
  | nil => rfl
  | cons a L ih =>
    rw [List.map_cons, List.zip_cons_cons, List.all_cons, h a List.mem_cons_self, ih fun b hb => h b (List.mem_cons_of_mem _ hb)]
    rfl
theorem row_back {r : Array UInt8} {l : List Nat} (h : rowN r = l) : r = (l.map UInt8.ofNat).toArray := by
  subst h
  unfold rowN
  rw [List.map_map]
  apply Array.toList_inj.mp
  conv => lhs; rw [← List.map_id r.toList]
  exact List.map_congr_left fun c _ => by simp
noncomputable def hN (bs pl : Nat) (n : Int) : Str := St (hostC (dg bs pl n.toNat))
noncomputable def hR (bs pl : Nat) (n : Int) : Str := St (hostC (dg bs pl n.toNat).reverse)
noncomputable def hM (bs pl : Nat) (n : Int) : Str := St (hostC (mvL bs (dg bs pl n.toNat)).reverse)
noncomputable def bN (bs pl : Nat) (n : Int) : Array UInt8 := ((dg bs pl n.toNat).map UInt8.ofNat).toArray
theorem Good.rev {a : List Nat} (h : Good a) : Good a.reverse := fun d hd => h d (List.mem_reverse.mp hd)
theorem range_map_getD {α β : Type} (L : List α) (d : α) (g : α → β) : (List.range L.length).map (fun i => g (L.getD i d)) = L.map g := by
  apply List.ext_getElem?
  intro i
  rw [List.getElem?_map, List.getElem?_map]
  by_cases h : i < L.length
  · rw [List.getElem?_range h, Option.map_some, List.getD_eq_getElem?_getD, List.getElem?_eq_getElem h]
    rfl
  · rw [List.getElem?_eq_none (by simpa using h), List.getElem?_eq_none (by omega)]
    rfl
theorem due32 : ∀ q < 2, (dueL (16 * q) 32).length ≤ 16 ∧ ∀ j < 16, ((16 * q + j : Nat) : Int) ∈ dueL (16 * q) 32 := by decide +kernel
theorem due64 : ∀ q < 4, (dueL (16 * q) 64).length ≤ 16 ∧ ∀ j < 16, ((16 * q + j : Nat) : Int) ∈ dueL (16 * q) 64 := by decide +kernel
theorem due256 : ∀ q < 16, (dueL (16 * q) 256).length ≤ 16 ∧ ∀ j < 16, ((16 * q + j : Nat) : Int) ∈ dueL (16 * q) 256 := by decide +kernel
section
variable {z0 z1 z2 z3 wd bs lo mi hg pl sz c0 c1 c2 fr : Nat}
theorem Cfg.bs24 (G : Cfg z0 z1 z2 z3 wd bs lo mi hg pl sz c0 c1 c2 fr) : bs = 2 ∨ bs = 4 := by rcases G.cases with h | h <;> lia
theorem Cfg.b0 (G : Cfg z0 z1 z2 z3 wd bs lo mi hg pl sz c0 c1 c2 fr) : 0 < bs := by rcases G.bs24 with h | h <;> rw [h] <;> decide
theorem Cfg.bsI (G : Cfg z0 z1 z2 z3 wd bs lo mi hg pl sz c0 c1 c2 fr) : (2 : Int) ≤ (bs : Int) ∧ (bs : Int) ≤ 4 := by rcases G.bs24 with h | h <;> rw [h] <;> decide
theorem Cfg.lm4 (G : Cfg z0 z1 z2 z3 wd bs lo mi hg pl sz c0 c1 c2 fr) : lo + mi ≤ 4 := by rcases G.cases with ⟨_, _, h, _⟩ | ⟨_, _, h, _⟩ <;> rw [h] <;> decide
theorem Cfg.lo4 (G : Cfg z0 z1 z2 z3 wd bs lo mi hg pl sz c0 c1 c2 fr) : lo ≤ 4 := Nat.le_trans (Nat.le_add_right _ _) G.lm4
theorem Cfg.mi4 (G : Cfg z0 z1 z2 z3 wd bs lo mi hg pl sz c0 c1 c2 fr) : mi ≤ 4 := Nat.le_trans (Nat.le_add_left _ _) G.lm4
theorem Cfg.lomi (G : Cfg z0 z1 z2 z3 wd bs lo mi hg pl sz c0 c1 c2 fr) : lo + mi ≤ pl := G.ar.e1 ▸ Nat.sub_le _ _
theorem Cfg.b16 (G : Cfg z0 z1 z2 z3 wd bs lo mi hg pl sz c0 c1 c2 fr) : bs ^ (lo + mi) = 16 := by
  rcases G.cases with ⟨_, rfl, e, _⟩ | ⟨_, rfl, e, _⟩ <;> rw [e]
theorem Cfg.szq (G : Cfg z0 z1 z2 z3 wd bs lo mi hg pl sz c0 c1 c2 fr) : sz = 16 * bs ^ hg ∧ sz = bs ^ pl := by
  have := G.hsz
  rw [G.hpl, Nat.pow_add, G.b16] at this
  exact ⟨this, G.hsz⟩
theorem Cfg.frq (G : Cfg z0 z1 z2 z3 wd bs lo mi hg pl sz c0 c1 c2 fr) : fr = 16 * (fr / 16) ∧ fr / 16 < bs ^ hg ∧ c0 / 16 = fr / 16 ∧ c0 < sz ∧ c1 < sz ∧ c2 < sz := by
  have h1 := G.hfr
  have h2 := G.szq.1
  have h3 : c0 < sz := by rw [G.hc0]; exact Nat.mod_lt _ (by have := G.sz2; omega)
  have h4 : c1 < sz := by rw [G.hc1]; exact Nat.mod_lt _ (by have := G.sz2; omega)
  have h5 : c2 < sz := by rw [G.hc2]; exact Nat.mod_lt _ (by have := G.sz2; omega)
  generalize bs ^ hg = b at *
  omega
theorem Cfg.due (G : Cfg z0 z1 z2 z3 wd bs lo mi hg pl sz c0 c1 c2 fr) : (dueL fr sz).length ≤ 16 ∧ ∀ j < 16, ((fr + j : Nat) : Int) ∈ dueL fr sz := by
  obtain ⟨h1, h2, _⟩ := G.frq
  have h3 := G.szq.1
  rw [h1]
  generalize fr / 16 = q at *
  rcases G.cases with ⟨_, rfl, _, e1, e2⟩ | ⟨_, rfl, _, e1, e2⟩ <;> rcases (show hg = 1 ∨ hg = 2 by lia) with rfl | rfl
  · rw [show sz = 32 from h3]; exact due32 q h2
  · rw [show sz = 64 from h3]; exact due64 q h2
  · rw [show sz = 64 from h3]; exact due64 q h2
  · rw [show sz = 256 from h3]; exact due256 q h2
/-- the rows of the octets are the numbers' figures -/
theorem Cfg.rows (G : Cfg z0 z1 z2 z3 wd bs lo mi hg pl sz c0 c1 c2 fr) {fo : Array UInt8} (hfo : figF wd pl (numsL fr sz c0 c1 c2) = fo) : ∀ i < 21, rowN (rowF fo pl i) = dg bs pl ((numsL fr sz c0 c1 c2).getD i 0).toNat := by
  intro i hi
  have hp := G.pos
  have hd := G.digs
  have hw := G.wd2
  have hb := G.hbs
  rw [← hfo, hb]
  have h1 : ∀ j, (numsL fr sz c0 c1 c2).getD j 0 = ((((numsL fr sz c0 c1 c2).getD j 0).toNat : Nat) : Int) := fun j => by
    have := (hd j).1
    omega
  have h2 : ∀ j, ((numsL fr sz c0 c1 c2).getD j 0).toNat < 2 ^ (wd * pl) := fun j => by
    have := hd j
    have e : ((2 ^ (wd * pl) : Nat) : Int) = 2 ^ (wd * pl) := by push_cast; rfl
    omega
  exact row_fig (f := fun i => ((numsL fr sz c0 c1 c2).getD i 0).toNat) h1 h2 hw (by rw [numsL_length]; exact hi) (by unfold wholeN; omega)
end
end
section
open PySem PySem.W PyProof.Rows PySem.Calls
set_option maxRecDepth 100000
section
variable {z0 z1 z2 z3 wd bs lo mi hg pl sz c0 c1 c2 fr : Nat} {fo to : Array UInt8}
theorem Cfg.rowsT (G : Cfg z0 z1 z2 z3 wd bs lo mi hg pl sz c0 c1 c2 fr) (hfo : figF wd pl (numsL fr sz c0 c1 c2) = fo) (hto : swOut fo pl 21 = to) : ∀ i < 21, rowN (rowF to pl i) = (dg bs pl ((numsL fr sz c0 c1 c2).getD i 0).toNat).reverse := by
  intro i hi
  have hs : fo.size = 21 * pl := by rw [← hfo]; exact G.figSize
  rw [← hto, row_sw hs hi, G.rows hfo i hi]
theorem Cfg.hostsN (G : Cfg z0 z1 z2 z3 wd bs lo mi hg pl sz c0 c1 c2 fr) (hfo : figF wd pl (numsL fr sz c0 c1 c2) = fo) : hostsL fo pl = (numsL fr sz c0 c1 c2).map (hN bs pl) := by
  rw [← range_map_getD _ 0, numsL_length]
  refine List.map_congr_left fun i hi => ?_
  rw [hostF_eq, G.rows hfo i (List.mem_range.mp hi)]
  rfl
theorem Cfg.hostsR (G : Cfg z0 z1 z2 z3 wd bs lo mi hg pl sz c0 c1 c2 fr) (hfo : figF wd pl (numsL fr sz c0 c1 c2) = fo) (hto : swOut fo pl 21 = to) : hostsL to pl = (numsL fr sz c0 c1 c2).map (hR bs pl) := by
  rw [← range_map_getD _ 0, numsL_length]
  refine List.map_congr_left fun i hi => ?_
  rw [hostF_eq, G.rowsT hfo hto i (List.mem_range.mp hi)]
  rfl
theorem Cfg.rowsB (G : Cfg z0 z1 z2 z3 wd bs lo mi hg pl sz c0 c1 c2 fr) (hfo : figF wd pl (numsL fr sz c0 c1 c2) = fo) : rowsL fo pl = (numsL fr sz c0 c1 c2).map (bN bs pl) := by
  rw [← range_map_getD _ 0, numsL_length]
  exact List.map_congr_left fun i hi => row_back (G.rows hfo i (List.mem_range.mp hi))
theorem drop3 {α : Type} (fr sz c0 c1 c2 : Nat) (g : Int → α) : ((numsL fr sz c0 c1 c2).map g).drop 3 = (numL fr sz).map g := rfl
theorem Cfg.numIn (G : Cfg z0 z1 z2 z3 wd bs lo mi hg pl sz c0 c1 c2 fr) {n : Int} (hn : n ∈ numL fr sz) : ∃ x : Nat, n = (x : Int) ∧ x < sz := by
  have := G.bound n (List.mem_append_right _ hn)
  exact ⟨n.toNat, by omega, by omega⟩
theorem Cfg.dgG (G : Cfg z0 z1 z2 z3 wd bs lo mi hg pl sz c0 c1 c2 fr) (x : Nat) : Good (dg bs pl x) := dg_good G.bs24 pl x
theorem due_iff {x fr sz : Nat} (h : (x : Int) ∈ numL fr sz) : (x : Int) ∈ dueL fr sz ↔ x / 16 = fr / 16 := by
  unfold dueL
  rw [List.mem_filter]
  have e : dueB fr (x : Int) = true ↔ x / 16 = fr / 16 := by
    unfold dueB
    rw [beq_iff_eq, Int.fdiv_eq_ediv_of_nonneg _ (by decide), Int.fdiv_eq_ediv_of_nonneg _ (by decide)]
    lia
  rw [e]
  exact ⟨fun q => q.2, fun q => ⟨h, q⟩⟩
theorem left_iff {x : Nat} (h : (x : Int) ∈ dueL fr sz) : (x : Int) ∈ leftL fr sz c1 bs lo ↔ x % bs ^ lo = leastN c1 bs lo := by
  unfold leftL
  rw [List.mem_filter]
  have e : leftB c1 bs lo (x : Int) = true ↔ x % bs ^ lo = leastN c1 bs lo := by
    unfold leftB
    rw [beq_iff_eq, Int.fmod_eq_emod_of_nonneg _ (Int.natCast_nonneg _), ← Int.natCast_emod]
    exact Int.ofNat_inj
  rw [e]
  exact ⟨fun q => q.2, fun q => ⟨h, q⟩⟩
theorem leftL_filter (fr sz c1 bs lo : Nat) : leftL fr sz c1 bs lo = (numL fr sz).filter fun n => leftB c1 bs lo n && dueB fr n := by
  unfold leftL dueL
  rw [List.filter_filter]
theorem plainD (G : Cfg z0 z1 z2 z3 wd bs lo mi hg pl sz c0 c1 c2 fr) (hfo : figF wd pl (numsL fr sz c0 c1 c2) = fo) (hto : swOut fo pl 21 = to) : PlainD bs lo hg pl sz c1 fr fo to := by
  have hpl := G.hpl
  have hw := G.wdpl
  have h24 := G.bs24
  have hszq := G.szq
  obtain ⟨f1, f2, f3, f4, f5, f6⟩ := G.frq
  have e0 : hostF (rowF fo pl 0) = hN bs pl (c0 : Int) := by rw [hostF_eq, G.rows hfo 0 (by decide)]; rfl
  have e1 : hostF (rowF to pl 1) = hR bs pl (c1 : Int) := by rw [hostF_eq, G.rowsT hfo hto 1 (by decide)]; rfl
  have dl : ∀ x, (dg bs pl x).length = pl := dg_len bs pl
  have A := G.ar
  have hk : 1 ≤ pl - hg ∧ 1 ≤ pl - lo := ⟨A.f1, A.f2⟩
  have d0 : domF (hN bs pl (c0 : Int)) (pl - hg) = St ((46 :: hostC (dg bs hg (c0 / 16))).map upC) := by
    unfold hN
    rw [Int.toNat_natCast, dom_host (G.dgG c0) hk.1 (by rw [dl]; exact Nat.sub_le _ _), dg_drop, A.e2, A.e1, G.b16]
  have d1 : domF (hR bs pl (c1 : Int)) (pl - lo) = St ((46 :: hostC (dg bs lo c1).reverse).map upC) := by
    unfold hR
    rw [Int.toNat_natCast, dom_host (G.dgG c1).rev hk.2 (by rw [List.length_reverse, dl]; exact Nat.sub_le _ _), List.drop_reverse, dl, A.e3, dg_take _ _ _ _ A.l2]
  have g0 : Good (dg bs hg (c0 / 16)) := dg_good h24 _ _
  have g1 : Good (dg bs lo c1).reverse := (dg_good h24 _ _).rev
  have h3 : (hostsL fo pl).drop 3 = (numL fr sz).map (hN bs pl) := by rw [G.hostsN hfo, drop3]
  have hE : endsL to pl fr sz = (dueL fr sz).map (hR bs pl) := by
    unfold endsL
    rw [G.hostsR hfo hto, drop3]
    exact zipsel _ _ _
  refine ⟨?p1, ?q1, ?r1, ?p2, ?q2, ?r2, ?len⟩
  case p1 => rw [e0]; exact domPre_host (G.dgG _) (by rw [dl]; exact A.p8) (by rw [dl]; exact Nat.sub_le _ _)
  case q1 =>
    rw [e0, d0, h3]
    have := parPre_host (hs := (numL fr sz).map fun n => dg bs pl n.toNat) (t := dg bs hg (c0 / 16)) (fun a ha => by
      obtain ⟨n, _, rfl⟩ := List.mem_map.mp ha
      exact ⟨G.dgG _, by rw [dl]; exact A.p8⟩) g0 (by rw [dg_len]; exact A.hg8)
    rw [List.map_map] at this
    exact this
  case r1 =>
    rw [e0, d0, h3]
    unfold parOk
    refine zipall _ _ _ fun n hn => ?_
    obtain ⟨x, rfl, hx⟩ := G.numIn hn
    rw [beq_iff_eq, Bool.eq_iff_iff, decide_eq_true_iff, due_iff hn]
    dsimp only
    unfold hN
    rw [Int.toNat_natCast, dm_host (m := pl - hg - 1) (G.dgG x) g0 (by rw [dl, dg_len]; exact A.g1), decide_eq_true_iff, dg_drop, A.h1, A.e2, A.e1, G.b16, dg_eq, Nat.mod_eq_of_lt, Nat.mod_eq_of_lt, f3]
    · rw [hszq.1] at f4; omega
    · rw [hszq.1] at hx; lia
  case p2 => rw [e1]; exact domPre_host (G.dgG _).rev (by rw [List.length_reverse, dl]; exact A.p8) (by rw [List.length_reverse, dl]; exact Nat.sub_le _ _)
  case q2 =>
    rw [e1, d1, hE]
    have := parPre_host (hs := (dueL fr sz).map fun n => (dg bs pl n.toNat).reverse) (t := (dg bs lo c1).reverse) (fun a ha => by
      obtain ⟨n, _, rfl⟩ := List.mem_map.mp ha
      exact ⟨(G.dgG _).rev, by rw [List.length_reverse, dl]; exact A.p8⟩) g1 (by rw [List.length_reverse, dg_len]; exact A.lo8)
    rw [List.map_map] at this
    exact this
  case r2 =>
    rw [e1, d1, hE]
    unfold parOk
    refine zipall _ _ _ fun n hn => ?_
    obtain ⟨x, rfl, hx⟩ := G.numIn (List.mem_filter.mp hn).1
    rw [beq_iff_eq, Bool.eq_iff_iff, decide_eq_true_iff, left_iff hn]
    dsimp only
    unfold hR
    rw [Int.toNat_natCast, dm_host (m := pl - lo - 1) (G.dgG x).rev g1 (by rw [List.length_reverse, List.length_reverse, dl, dg_len]; exact A.g2), decide_eq_true_iff, List.drop_reverse, dl, A.h2, A.e3, dg_take _ _ _ _ A.l2, List.reverse_inj, dg_eq]
    rfl
  case len => rw [hE, List.length_map]
end
end
section
open PySem PySem.W PyProof.Rows PySem.Calls
set_option maxRecDepth 100000
/-- what maps N numbers to N numbers, no two alike, leaves none out -/
theorem holes : ∀ (N : Nat) (f : Nat → Nat), (∀ k, k < N → f k < N) → (∀ i j, i < N → j < N → f i = f j → i = j) → ∀ s, s < N → ∃ k, k < N ∧ f k = s
  | 0, _, _, _, s, hs => by lia
  | N + 1, f, hf, inj, s, hs => by
    have off : ∀ k, k < N → f k ≠ f N := fun k hk e => by have := inj k N (by omega) (by omega) e; omega
    have hN := hf N (by omega)
    obtain ⟨g, hg⟩ : ∃ g : Nat → Nat, ∀ k, g k = if f k = N then f N else f k := ⟨_, fun _ => rfl⟩
    have hgl : ∀ k, k < N → g k < N := fun k hk => by
      have h1 := hf k (by omega)
      have h2 := off k hk
      rw [hg]
      split <;> lia
    have ih := holes N g hgl (fun i j hi hj e => by
      have oi := off i hi
      have oj := off j hj
      refine inj i j (by omega) (by omega) ?_
      rw [hg, hg] at e
      split at e <;> split at e <;> lia)
    by_cases e : s = f N
    · exact ⟨N, by omega, e.symm⟩
    by_cases e2 : s = N
    · obtain ⟨k, hk, hks⟩ := ih (f N) (by omega)
      refine ⟨k, by omega, ?_⟩
      have o := off k hk
      rw [hg] at hks
      split at hks <;> lia
    · obtain ⟨k, hk, hks⟩ := ih s (by omega)
      refine ⟨k, by omega, ?_⟩
      rw [hg] at hks
      split at hks <;> lia
theorem val_lt {bs : Nat} (hb : 0 < bs) : ∀ {l : List Nat}, (∀ d ∈ l, d < bs) → valD bs l < bs ^ l.length
  | [], _ => by simp [valD]
  | d :: l, h => by
    have h1 := h d List.mem_cons_self
    have h2 := val_lt hb fun e he => h e (List.mem_cons_of_mem _ he)
    have h3 : bs * (valD bs l + 1) ≤ bs * bs ^ l.length := Nat.mul_le_mul_left _ h2
    rw [List.length_cons, Nat.pow_succ']
    show d + bs * valD bs l < _
    rw [Nat.mul_add] at h3
    omega
theorem dg_val {bs : Nat} (hb : 0 < bs) : ∀ {l : List Nat}, (∀ d ∈ l, d < bs) → dg bs l.length (valD bs l) = l
  | [], _ => rfl
  | d :: l, h => by
    have h1 := h d List.mem_cons_self
    have ih := dg_val hb fun e he => h e (List.mem_cons_of_mem _ he)
    rw [List.length_cons, dg_succ]
    have e : valD bs (d :: l) = d + bs * valD bs l := rfl
    rw [e, Nat.add_mul_mod_self_left, Nat.mod_eq_of_lt h1, Nat.add_mul_div_left _ _ hb, Nat.div_eq_of_lt h1, Nat.zero_add, ih]
/-- figures stay below the base when they are moved -/
noncomputable def Lim (b : Int) (l : List Int) : Prop := ∀ x ∈ l, 0 ≤ x ∧ x < b
theorem mvSet_lim {b : Int} (hb : 0 < b) {l : List Int} (h : Lim b l) (p : Nat) : Lim b (mvSet b l p) := fun x hx => by
  rcases List.mem_or_eq_of_mem_set hx with h' | h'
  · exact h x h'
  · rw [h']; exact ⟨Int.fmod_nonneg_of_pos _ hb, Int.fmod_lt_of_pos _ hb⟩
theorem mvIn_lim {b : Int} (hb : 0 < b) (n : Nat) {l : List Int} (h : Lim b l) : ∀ j, Lim b (mvIn b n l j)
  | 0 => h
  | j + 1 => mvSet_lim hb (mvIn_lim hb n h j) _
theorem mvOut_lim {b : Int} (hb : 0 < b) (n : Nat) {l : List Int} (h : Lim b l) : ∀ j, Lim b (mvOut b n l j)
  | 0 => h
  | j + 1 => mvIn_lim hb n (mvOut_lim hb n h j) _
theorem mvL_lt {bs : Nat} (hb : 0 < bs) {a : List Nat} (h : ∀ d ∈ a, d < bs) : ∀ d ∈ mvL bs a, d < bs := fun d hd => by
  obtain ⟨x, hx, rfl⟩ := List.mem_map.mp hd
  have := mvOut_lim (b := (bs : Int)) (by omega) a.length (l := a.map fun (c : Nat) => (c : Int)) (fun y hy => by
    obtain ⟨c, hc, rfl⟩ := List.mem_map.mp hy
    have := h c hc
    omega) (a.length - 1) x hx
  omega
theorem dg_lt {bs : Nat} (hb : 0 < bs) (pl x : Nat) : ∀ d ∈ dg bs pl x, d < bs := fun d hd => by
  obtain ⟨j, _, rfl⟩ := List.mem_map.mp hd
  exact Nat.mod_lt _ hb
section
variable {z0 z1 z2 z3 wd bs lo mi hg pl sz c0 c1 c2 fr : Nat}
theorem Cfg.back (G : Cfg z0 z1 z2 z3 wd bs lo mi hg pl sz c0 c1 c2 fr) {x : Nat} (hx : x < sz) : toldV (x / 16) (x % bs ^ lo) (valD bs ((mvL bs (dg bs pl x)).take mi)) bs lo mi pl = (x : Int) := by
  have cU := chk_all (by rcases G.cases with ⟨_, h⟩ | ⟨_, h⟩; exact .inl h; exact .inr h)
  unfold chkU at cU
  rw [← G.hpl] at cU
  rw [← G.szq.2] at cU
  exact beq_iff_eq.mp (List.all_eq_true.mp cU x (List.mem_range.mpr hx))
/-- and there is just one way back -/
theorem Cfg.forth (G : Cfg z0 z1 z2 z3 wd bs lo mi hg pl sz c0 c1 c2 fr) {q l s x : Nat} (hq : q < bs ^ hg) (hl : l < bs ^ lo) (hs : s < bs ^ mi) (hx : (x : Int) = toldV q l s bs lo mi pl) : (mvL bs (dg bs pl x)).take mi = dg bs mi s := by
  have hb : 0 < bs := by have := G.bs24; lia
  have hpl := G.hpl
  have hbl : 0 < bs ^ lo := Nat.pow_pos hb
  have h16 : bs ^ lo * bs ^ mi = 16 := by rw [← Nat.pow_add]; exact G.b16
  have low : ∀ k, k < bs ^ mi → l + bs ^ lo * k < 16 := fun k hk => by
    have h1 : bs ^ lo * (k + 1) ≤ bs ^ lo * bs ^ mi := Nat.mul_le_mul_left _ hk
    rw [h16, Nat.mul_add] at h1
    omega
  obtain ⟨N, hN⟩ : ∃ N : Nat → Nat, ∀ k, N k = 16 * q + (l + bs ^ lo * k) := ⟨_, fun _ => rfl⟩
  have n1 : ∀ k, k < bs ^ mi → N k < sz := fun k hk => by
    have := low k hk
    have h1 : 16 * (q + 1) ≤ 16 * bs ^ hg := Nat.mul_le_mul_left _ hq
    rw [G.szq.1, hN]
    omega
  have n2 : ∀ k, k < bs ^ mi → N k / 16 = q := fun k hk => by have := low k hk; rw [hN]; omega
  have n3 : ∀ k, N k % bs ^ lo = l := fun k => by
    rw [hN, ← h16, Nat.mul_assoc, show bs ^ lo * (bs ^ mi * q) + (l + bs ^ lo * k) = l + bs ^ lo * (bs ^ mi * q + k) from by rw [Nat.mul_add]; lia, Nat.add_mul_mod_self_left, Nat.mod_eq_of_lt hl]
  have dl : ∀ y, ∀ d ∈ (mvL bs (dg bs pl y)).take mi, d < bs := fun y d hd => mvL_lt hb (dg_lt hb pl y) d (List.mem_of_mem_take hd)
  have ll : ∀ y, ((mvL bs (dg bs pl y)).take mi).length = mi := fun y => by rw [List.length_take, mvL_len, dg_len]; lia
  have fw : ∀ k, k < bs ^ mi → toldV q l (valD bs ((mvL bs (dg bs pl (N k))).take mi)) bs lo mi pl = (N k : Int) := fun k hk => by
    have := G.back (n1 k hk)
    rw [n2 k hk, n3 k] at this
    exact this
  obtain ⟨k, hk, hks⟩ := holes (bs ^ mi) (fun k => valD bs ((mvL bs (dg bs pl (N k))).take mi)) (fun k _ => by
    have := val_lt hb (dl (N k))
    rw [ll] at this
    exact this) (fun i j hi hj e => by
    have h1 := fw i hi
    have h2 := fw j hj
    rw [e] at h1
    rw [h1] at h2
    have h3 : N i = N j := Int.ofNat_inj.mp h2
    rw [hN, hN] at h3
    exact Nat.eq_of_mul_eq_mul_left hbl (by lia)) s hs
  have h1 := fw k hk
  rw [hks, ← hx] at h1
  have h2 : x = N k := Int.ofNat_inj.mp h1
  rw [h2]
  have := dg_val hb (dl (N k))
  rw [ll, hks] at this
  exact this.symm
end
end
section
open PySem PySem.W PyProof.Rows PySem.Calls
set_option maxRecDepth 100000
section
variable {z0 z1 z2 z3 wd bs lo mi hg pl sz c0 c1 c2 fr : Nat} {fo to mv : Array UInt8}
theorem Cfg.kept (G : Cfg z0 z1 z2 z3 wd bs lo mi hg pl sz c0 c1 c2 fr) (hfo : figF wd pl (numsL fr sz c0 c1 c2) = fo) : keptL fo pl fr sz c1 bs lo = (leftL fr sz c1 bs lo).map (bN bs pl) := by
  unfold keptL
  rw [G.rowsB hfo, drop3, leftL_filter]
  exact zipsel _ _ _
theorem bN_size (bs pl : Nat) (n : Int) : (bN bs pl n).size = pl := by simp [bN, dg_len]
theorem rowN_bN {bs : Nat} (h : bs = 2 ∨ bs = 4) (pl : Nat) (n : Int) : rowN (bN bs pl n) = dg bs pl n.toNat := by
  unfold rowN bN
  rw [List.map_map]
  conv => rhs; rw [← List.map_id (dg bs pl n.toNat)]
  refine List.map_congr_left fun d hd => ?_
  have := dg_good h pl n.toNat d hd
  show UInt8.toNat (UInt8.ofNat d) = d
  rw [UInt8.toNat_ofNat']
  lia
theorem Cfg.leftPos (G : Cfg z0 z1 z2 z3 wd bs lo mi hg pl sz c0 c1 c2 fr) : 0 < (leftL fr sz c1 bs lo).length ∧ (leftL fr sz c1 bs lo).length ≤ 16 := by
  obtain ⟨d1, d2⟩ := G.due
  have h24 := G.bs24
  have hb : 0 < bs ^ lo := Nat.pow_pos (by omega)
  have hl : leastN c1 bs lo < bs ^ lo := Nat.mod_lt _ hb
  have h16 : bs ^ lo * bs ^ mi = 16 := by rw [← Nat.pow_add]; exact G.b16
  have hm : 0 < bs ^ mi := Nat.pow_pos (by omega)
  have hle : bs ^ lo ≤ 16 := h16 ▸ Nat.le_mul_of_pos_right _ hm
  obtain ⟨f1, _⟩ := G.frq
  refine ⟨?_, Nat.le_trans (List.length_filter_le _ _) d1⟩
  have hin : ((fr + leastN c1 bs lo : Nat) : Int) ∈ leftL fr sz c1 bs lo := by
    rw [left_iff (d2 _ (by omega))]
    have e : fr = bs ^ lo * (bs ^ mi * (fr / 16)) := by rw [← Nat.mul_assoc, h16]; exact f1
    rw [e, Nat.mul_add_mod_self_left, Nat.mod_eq_of_lt hl]
  exact List.length_pos_of_mem hin
theorem plainE (G : Cfg z0 z1 z2 z3 wd bs lo mi hg pl sz c0 c1 c2 fr) (hfo : figF wd pl (numsL fr sz c0 c1 c2) = fo) (hto : swOut fo pl 21 = to) : PlainE bs lo mi pl sz c1 c2 fr fo to := by
  have hk := G.kept hfo
  have hw := G.wdpl
  have hpl := G.hpl
  have A := G.ar
  have e2 : hostF (rowF to pl 2) = hR bs pl (c2 : Int) := by rw [hostF_eq, G.rowsT hfo hto 2 (by decide)]; rfl
  have sz1 : ∀ b ∈ keptL fo pl fr sz c1 bs lo, b.size = pl := fun b hb => by
    rw [hk] at hb
    obtain ⟨n, _, rfl⟩ := List.mem_map.mp hb
    exact bN_size _ _ _
  have len : (keptL fo pl fr sz c1 bs lo).length = (leftL fr sz c1 bs lo).length := by rw [hk, List.length_map]
  refine ⟨len, G.leftPos.1, G.leftPos.2, ?_, sz1, ?_⟩
  · rw [e2]; exact domPre_host (G.dgG _).rev (by rw [List.length_reverse, dg_len]; exact A.p8) (by rw [List.length_reverse, dg_len]; exact Nat.sub_le _ _)
  · refine List.eq_replicate_iff.mpr ⟨by rw [List.length_map, List.length_map, len], fun z hz => ?_⟩
    obtain ⟨b, hb, rfl⟩ := List.mem_map.mp hz
    obtain ⟨c, hc, rfl⟩ := List.mem_map.mp hb
    rw [moved_size, sz1 c hc]
theorem shown_dg (c bs mi : Nat) : shownL c bs mi = (dg bs mi c).map fun (d : Nat) => (d : Int) := by
  unfold shownL dg
  rw [List.map_map]
  rfl
theorem open_len (fr c1 c2 bs lo mi pl : Nat) : (openL fr c1 c2 bs lo mi pl).length = mi := by simp [openL, shownL]
theorem told_congr {c1' c2' : Nat} (h1 : leastN c1 bs lo = leastN c1' bs lo) (h2 : shownL c2 bs mi = shownL c2' bs mi) : ∀ i, toldF fr c1 c2 bs lo mi pl i = toldF fr c1' c2' bs lo mi pl i
  | 0 => by rw [toldF, toldF, h1]
  | i + 1 => by rw [toldF, toldF, told_congr h1 h2 i]; unfold openL; rw [h1, h2]
theorem Cfg.told (G : Cfg z0 z1 z2 z3 wd bs lo mi hg pl sz c0 c1 c2 fr) : toldF fr c1 c2 bs lo mi pl (openL fr c1 c2 bs lo mi pl).length = toldV (fr / 16) (leastN c1 bs lo) (c2 % bs ^ mi) bs lo mi pl := by
  unfold toldV
  rw [open_len, ← G.frq.1]
  refine told_congr ?_ ?_ _
  · unfold leastN; rw [Nat.mod_mod]
  · rw [shown_dg, shown_dg, dg_mod]
theorem plainG (G : Cfg z0 z1 z2 z3 wd bs lo mi hg pl sz c0 c1 c2 fr) (hfo : figF wd pl (numsL fr sz c0 c1 c2) = fo) (hto : swOut fo pl 21 = to) (hmv : swOut (mvB fo pl fr sz c1 bs lo) pl (leftL fr sz c1 bs lo).length = mv) : PlainG bs lo mi pl sz c1 c2 fr mv to := by
  have hk := G.kept hfo
  have hw := G.wdpl
  have hpl := G.hpl
  have hcs := G.cases
  have h24 := G.bs24
  have hszq := G.szq
  have E := plainE G hfo hto
  obtain ⟨f1, f2, f3, f4, f5, f6⟩ := G.frq
  have dl : ∀ x, (dg bs pl x).length = pl := dg_len bs pl
  have ml : ∀ x, (mvL bs (dg bs pl x)).length = pl := fun x => by rw [mvL_len, dl]
  have hb : 0 < bs := by lia
  have gm : ∀ y, Good (mvL bs (dg bs pl y)) := fun y d hd => by
    have := mvL_lt hb (dg_lt hb pl y) d hd
    omega
  have A := G.ar
  have hkm : 1 ≤ pl - mi := A.f3
  have e2 : hostF (rowF to pl 2) = hR bs pl (c2 : Int) := by rw [hostF_eq, G.rowsT hfo hto 2 (by decide)]; rfl
  have d2 : domF (hR bs pl (c2 : Int)) (pl - mi) = St ((46 :: hostC (dg bs mi c2).reverse).map upC) := by
    unfold hR
    rw [Int.toNat_natCast, dom_host (G.dgG c2).rev hkm (by rw [List.length_reverse, dl]; exact Nat.sub_le _ _), List.drop_reverse, dl, A.e4, dg_take _ _ _ _ A.l3]
  have g2 : Good (dg bs mi c2).reverse := (dg_good h24 _ _).rev
  have lin : ∀ n ∈ leftL fr sz c1 bs lo, ∃ x : Nat, n = (x : Int) ∧ x < sz ∧ x / 16 = fr / 16 ∧ x % bs ^ lo = leastN c1 bs lo := fun n hn => by
    have hd := (List.mem_filter.mp hn).1
    have hnum := (List.mem_filter.mp hd).1
    obtain ⟨x, rfl, hx⟩ := G.numIn hnum
    exact ⟨x, rfl, hx, (due_iff hnum).mp hd, (left_iff hd).mp hn⟩
  have hH : hostsN (leftL fr sz c1 bs lo).length mv pl = (leftL fr sz c1 bs lo).map (hM bs pl) := by
    unfold Mine.hostsN
    rw [← range_map_getD (leftL fr sz c1 bs lo) 0 (hM bs pl)]
    refine List.map_congr_left fun i hi => ?_
    have hi := List.mem_range.mp hi
    have szs : ∀ b ∈ (keptL fo pl fr sz c1 bs lo).map (fun b => movedF b (bs : Int)), b.size = pl := fun b hb => by
      obtain ⟨c, hc, rfl⟩ := List.mem_map.mp hb
      rw [moved_size, E.szK c hc]
    have hms : (mvB fo pl fr sz c1 bs lo).size = (leftL fr sz c1 bs lo).length * pl := by
      unfold mvB
      rw [joinB_size szs, List.length_map, E.lenK]
    have hr : ((keptL fo pl fr sz c1 bs lo).map fun b => movedF b (bs : Int))[i]? = some (movedF (bN bs pl ((leftL fr sz c1 bs lo).getD i 0)) (bs : Int)) := by
      rw [hk, List.getElem?_map, List.getElem?_map, List.getD_eq_getElem?_getD, List.getElem?_eq_getElem hi]
      rfl
    rw [hostF_eq, ← hmv, row_sw hms hi]
    unfold mvB
    rw [row_join szs hr, rowN_moved h24, rowN_bN h24]
    rfl
  refine ⟨?q, ?r, ?x, ?R⟩
  case q =>
    rw [e2, d2, hH]
    have := parPre_host (hs := (leftL fr sz c1 bs lo).map fun n => (mvL bs (dg bs pl n.toNat)).reverse) (t := (dg bs mi c2).reverse) (fun a ha => by
      obtain ⟨n, hn, rfl⟩ := List.mem_map.mp ha
      obtain ⟨x, rfl, hx, _⟩ := lin n hn
      exact ⟨(gm x).rev, by rw [List.length_reverse, ml]; exact A.p8⟩) g2 (by rw [List.length_reverse, dg_len]; exact A.mi8)
    rw [List.map_map] at this
    exact this
  case r =>
    rw [e2, d2, hH, G.told]
    unfold parOk
    refine zipall _ _ _ fun n hn => ?_
    obtain ⟨x, rfl, hx, hx16, hxl⟩ := lin n hn
    rw [beq_iff_eq, Bool.eq_iff_iff, decide_eq_true_iff, List.mem_singleton]
    dsimp only
    unfold hM
    rw [Int.toNat_natCast, dm_host (m := pl - mi - 1) (gm x).rev g2 (by rw [List.length_reverse, List.length_reverse, ml, dg_len]; exact A.g3), decide_eq_true_iff, List.drop_reverse, ml, A.h3, A.e4, List.reverse_inj]
    have U := G.back hx
    rw [hx16, hxl] at U
    constructor
    · intro h
      rw [h, val_dg] at U
      exact U.symm
    · intro h
      rw [G.forth f2 (Nat.mod_lt _ (Nat.pow_pos hb)) (Nat.mod_lt _ (Nat.pow_pos hb)) h, dg_mod]
  case x => rw [e2]; exact slen _ (by rw [hostC_len, List.length_reverse, dl]; lia)
  case R =>
    rw [e2, d2]
    exact ruledPre_host (G.dgG _).rev g2 (by rw [List.length_reverse, dl]; exact A.p3) (by rw [List.length_reverse, dl]; exact A.p8) (by rw [List.length_reverse, List.length_reverse, dl, dg_len]; exact A.k3)
end
end
section
local macro_rules | `(tactic| omega) => `(tactic| first | lia | omega (config := {}))
open PySem PySem.W PyProof.Rows PySem.Calls
set_option maxRecDepth 100000
set_option maxHeartbeats 8000000

theorem pow_fit {bs i : Nat} (hb : bs = 2 ∨ bs = 4) (hi : i < 7) : bs ^ i ≤ 4096 := by
  have h4 : bs ≤ 4 := by rcases hb with h | h <;> rw [h] <;> decide
  exact Nat.le_trans (Nat.pow_le_pow_left h4 i) (Nat.pow_le_pow_right (n := 4) (by decide) (Nat.le_of_lt_succ hi))
theorem law_G {w : World} {bd : List Stmt} {sc : Scope} (hp : partOf (hd.heap_39 w.params) 168 = some (bd, sc)) {dp0 un0 : Nat} {fr0 : Option (List Env)} {s : Shared} {Q E : Value → Shared → Prop} {h₀ bse : Heap} {outer : List Env} {mg mb : Str → Option Value} {loose : List Str} {mean : ExcName → Option Value}
   {L' DW DL DE DD lh1 lh2 DN D1 D2 l : Addr} {vt vx : Option Value} {ys us2 vh2 : List Value} {e2 : Nat} {fo to mv : Array UInt8} {tf tt tm : Tok} {z0 z1 z2 z3 wd bs lo mi hg pl sz c0 c1 c2 fr : Nat} {p1 p2 : Array Value} {o1 o2 o3 o4 o5 o6 o7 o8 : Obj} {t1 t2 t3 t4 t5 t6 t7 t8 t9 : Tok}
   (hdp : dp0 < 400) (hu : un0 < 3000) (B' : Below ⟨none, dp0, fr0, some [], un0⟩ bse outer h₀) (X' : (hd.heap_39 w.params).In h₀) (T' : Top topProg loose mean mg mb h₀)
   (F' : Fr h₀ L' s.heap (lawM6 mv tm DW DE lh1 lh2 DN D1 l fo to tf tt vt vx wd mi hg pl t1 t2 t3 t4))
   (N' : News h₀ L' s.heap [(DL, LCg.lst us2), (lh2, PySem.W.listOf vh2.toArray e2), (D2, LCg.lst ys), (L' + 1 + 1 + 1 + 1 + 1 + 1 + 1 + 1, o1), (L' + 1 + 1 + 1 + 1 + 1 + 1 + 1, o2), (L' + 1 + 1 + 1 + 1 + 1 + 1, o3), (L' + 1 + 1 + 1 + 1 + 1, o4), (L' + 1 + 1 + 1 + 1, o5), (L' + 1 + 1 + 1, o6), (L' + 1 + 1, o7), (L' + 1, o8), (66, tabObj p1), (59, tabObj p2)])
   (d1 : o1.data = .cell (some (.ref DL))) (d2 : o2.data = .cell (some (.int ((leastN c1 bs lo : Nat) : Int) t9))) (d3 : o3.data = .cell (some (.ref DD))) (d4 : o4.data = .cell (some (.int (fr : Int) t5))) (d5 : o5.data = .cell (some (.ref D2))) (d6 : o6.data = .cell (some (.int (sz : Int) t6))) (d7 : o7.data = .cell (some (.int (lo : Int) t7))) (d8 : o8.data = .cell (some (.int (bs : Int) t8)))
   (hcs : IntsAre ys [(c0 : Int), (c1 : Int), (c2 : Int)]) (hls : IntsAre us2 (leftL fr sz c1 bs lo)) (hvh2 : StrsAre vh2 (hostsL to pl))
   (G : Cfg z0 z1 z2 z3 wd bs lo mi hg pl sz c0 c1 c2 fr) (hms : mv.size = (leftL fr sz c1 bs lo).length * pl) (hmv : swOut (mvB fo pl fr sz c1 bs lo) pl (leftL fr sz c1 bs lo).length = mv) (hts : to.size = 21 * pl) (hfo : figF wd pl (numsL fr sz c0 c1 c2) = fo) (hto : swOut fo pl 21 = to)
   (h : ∀ h' tk', (∀ b o, h₀.get? b = some o → h'.get? b = some o) → GrownAt 66 h' → GrownAt 59 h' → Q (.bool true) { s with heap := h', toks := tk' }) :
   wpG (model Challenge.rw_zo0018_01.row.prog w) (Around.deeper ⟨none, dp0, fr0, some [], un0⟩ (envOfC (Str.ofString "law") sc L' 168 (.ref 167))) (execs (bd.drop 25) (envOfC (Str.ofString "law") sc L' 168 (.ref 167)))
     (fun fl s' => Q (match fl with | .ret v => v | _ => .none) s') (fun e s' => wpAny (model Challenge.rw_zo0018_01.row.prog w) (Around.deeper ⟨none, dp0, fr0, some [], un0⟩ (envOfC (Str.ofString "law") sc L' 168 (.ref 167))) (leaving (envOfC (Str.ofString "law") sc L' 168 (.ref 167)) e) (fun _ s'' => E e s'') (fun e' s'' => E e' s'') s') s := by
  have hp0 := hp
  with_unfolding_all (change some (_, _) = some (bd, sc) at hp)
  injection hp with hp
  injection hp with h1 h2
  subst h1 h2
  dsimp only [List.drop]
  let mm : Str → Option Value := lawM6 mv tm DW DE lh1 lh2 DN D1 l fo to tf tt vt vx wd mi hg pl t1 t2 t3 t4
  replace F' : Fr h₀ L' s.heap mm := F'
  revert X'; k_fill; intro X'
  have hcode : CodeHd h₀ 70 66 := codeHd_of_K X' (by kernel_rfl)
  have P := plainE G hfo hto
  have Q := plainG G hfo hto hmv
  have A := G.ar
  have hpl6 := A.p6
  have hmi4 := G.mi4
  have hlo4 := G.lo4
  refine wpG_execs_cons (wpG_any ?_)
  rename Fr _ _ _ _ => F9
  refine AssignComp_L F9 rfl (by with_unfolding_all rfl) (by with_unfolding_all rfl) (by decide) rfl (by decide) rfl rfl ?_
  have hbs : bs = 2 ∨ bs = 4 := G.bs24
  have hz2 := G.sz2
  have hc1b : c1 < sz := G.frq.2.2.2.2.1
  have hc2b : c2 < sz := G.frq.2.2.2.2.2
  have hfrb : fr < sz := Nat.lt_of_le_of_lt (by rw [G.hfr]; exact Nat.sub_le _ _) G.frq.2.2.2.1
  have hlb : leastN c1 bs lo ≤ c1 := Nat.mod_le _ _
  repeat' (first | (k_unfold; (try dsimp only)) | (k_end; wrow_close) | (dsimp only; walk1) | (walk1) | (k_end; dsimp only; k_unfold; (try dsimp only)))
  refine GSrc.range (n := pl) (by decide) (by rfl) (by rfl) (by k_asm) (by k_asm) (by k_asm) (range_small pl (A.far (by decide))) (range_size pl) (by unfold sizeLine; exact A.far (by decide))
    (fun i ys => IntsAre ys ((knownL fr (leastN c1 bs lo) bs pl).take i)) .nil ?stepN ?finN
  case stepN =>
    intro g i ys t C D oC m2 h3 tk3 E3 hi hJ hx hC F3 N3
    have hi6 : i < 7 := A.seven hi
    have ebi : (bs : Int) ^ (0 + (i : Int) * 1).toNat = ((bs ^ i : Nat) : Int) := by rw [show (0 + (i : Int) * 1).toNat = i from by omega]; push_cast; rfl
    have hbi : (0 : Int) < ((bs ^ i : Nat) : Int) := Int.ofNat_lt.mpr (Nat.pow_pos G.b0)
    have hbu : bs ^ i ≤ 4096 := pow_fit hbs hi6
    repeat' (first | (k_unfold; (try dsimp only)) | (k_end; wrow_close) | ((fail_if_success (with_reducible show wpAny _ _ (binaryOp Operator.FloorDiv _ _) _ _ _)); dsimp only; walk1) | ((fail_if_success (with_reducible show wpAny _ _ (binaryOp Operator.FloorDiv _ _) _ _ _)); walk1) | (k_end; dsimp only; k_unfold; (try dsimp only)))
    rw [ebi]
    refine floordiv_int (by omega) ?_ (hp := Or.inl (PyProof.noPylong_small (by omega)))
    repeat' (first | (k_unfold; (try dsimp only)) | (k_end; wrow_close) | ((fail_if_success (with_reducible show wpAny _ _ (binaryOp Operator.Mod _ _) _ _ _)); dsimp only; walk1) | ((fail_if_success (with_reducible show wpAny _ _ (binaryOp Operator.Mod _ _) _ _ _)); walk1) | (k_end; dsimp only; k_unfold; (try dsimp only)))
    refine mod_int' (by omega) ?_
    k_end
    refine ⟨_, _, rfl, fun _ _ e => e, ints_snoc ?_ hJ⟩
    unfold knownL
    rw [List.getElem?_map, List.getElem?_range hi]
    exact congrArg some (digit_eq fr (leastN c1 bs lo) (bs ^ i) bs).symm
  case finN =>
    intro g DK h4 tk4 vk F4 N4 o4' hJ h5 tk5 F5 N5
    have hks : IntsAre vk (knownL fr (leastN c1 bs lo) bs pl) := by
      rw [List.take_of_length_le (by simp [knownL])] at hJ
      exact hJ
    clear hJ F4 N4
    dsimp only
    refine wpG_execs_cons (wpG_any ?_)
    rename Fr _ _ _ _ => F9
    refine AssignComp_L F9 rfl (by with_unfolding_all rfl) (by with_unfolding_all rfl) (by decide) rfl (by decide) rfl rfl ?_
    repeat' (first | (k_unfold; (try dsimp only)) | (k_end; wrow_close) | (dsimp only; walk1) | (walk1) | (k_end; dsimp only; k_unfold; (try dsimp only)))
    refine GSrc.range (n := mi) (by decide) (by rfl) (by rfl) (by k_asm) (by k_asm) (by k_asm) (range_small mi (Nat.le_trans hmi4 (by decide))) (range_size mi) (by unfold sizeLine; exact Nat.le_trans hmi4 (by decide))
      (fun i ys => IntsAre ys ((shownL c2 bs mi).take i)) .nil ?stepS ?finS
    case stepS =>
      intro g i ys2 t C D oC m2 h3 tk3 E3 hi hJ hx hC F3 N3
      have hi6 : i < 7 := Nat.lt_of_lt_of_le hi (Nat.le_trans hmi4 (by decide))
      have ebi : (bs : Int) ^ (0 + (i : Int) * 1).toNat = ((bs ^ i : Nat) : Int) := by rw [show (0 + (i : Int) * 1).toNat = i from by omega]; push_cast; rfl
      have hbi : (0 : Int) < ((bs ^ i : Nat) : Int) := Int.ofNat_lt.mpr (Nat.pow_pos G.b0)
      have hbu : bs ^ i ≤ 4096 := pow_fit hbs hi6
      repeat' (first | (k_unfold; (try dsimp only)) | (k_end; wrow_close) | ((fail_if_success (with_reducible show wpAny _ _ (binaryOp Operator.FloorDiv _ _) _ _ _)); dsimp only; walk1) | ((fail_if_success (with_reducible show wpAny _ _ (binaryOp Operator.FloorDiv _ _) _ _ _)); walk1) | (k_end; dsimp only; k_unfold; (try dsimp only)))
      rw [ebi]
      refine floordiv_int (by omega) ?_ (hp := Or.inl (PyProof.noPylong_small (by omega)))
      repeat' (first | (k_unfold; (try dsimp only)) | (k_end; wrow_close) | ((fail_if_success (with_reducible show wpAny _ _ (binaryOp Operator.Mod _ _) _ _ _)); dsimp only; walk1) | ((fail_if_success (with_reducible show wpAny _ _ (binaryOp Operator.Mod _ _) _ _ _)); walk1) | (k_end; dsimp only; k_unfold; (try dsimp only)))
      refine mod_int' (by omega) ?_
      k_end
      refine ⟨_, _, rfl, fun _ _ e => e, ints_snoc ?_ hJ⟩
      unfold shownL
      rw [List.getElem?_map, List.getElem?_range hi]
      exact congrArg some (digit_eq0 c2 (bs ^ i) bs).symm
    case finS =>
      intro g DS h6 tk6 vs F6 N6 o6' hJ h7 tk7 F7 N7
      have hss : IntsAre vs (shownL c2 bs mi) := by
        rw [List.take_of_length_le (by simp [shownL])] at hJ
        exact hJ
      clear hJ F6 N6
      dsimp only
      refine wpG_execs_cons (wpG_any ?_)
      repeat' (first | (k_unfold; (try dsimp only)) | (k_end; wrow_close) | (dsimp only; walk1) | (walk1) | (k_end; dsimp only; k_unfold; (try dsimp only)))
      refine wpG_execs_cons (wpG_any ?_)
      refine For_pair3 h₀ rfl rfl rfl rfl ?_ (by intro _; rfl)
      repeat' (first | (k_unfold; (try dsimp only)) | (k_end; wrow_close) | ((fail_if_success (with_reducible show wpAny _ _ (call (Value.ref 149) _) _ _ _)); dsimp only; walk1) | ((fail_if_success (with_reducible show wpAny _ _ (call (Value.ref 149) _) _ _ _)); walk1) | (k_end; dsimp only; k_unfold; (try dsimp only)))
      rename News _ _ _ _ => N9
      rename Fr _ _ _ _ => F9
      refine unknown_ok (ks := knownL fr (leastN c1 bs lo) bs pl) (ss := shownL c2 bs mi) (Cx.push B' F9 X' T' rfl rfl rfl) (by show dp0 + 1 < 920; exact dlt hdp (by decide)) (by show un0 + 3 < 8700; exact ult hu (by decide)) ⟨_, (N9 (DK, _) (by k_mem)).1, rfl, _, rfl⟩ hks ⟨_, (N9 (DS, _) (by k_mem)).1, rfl, _, rfl⟩ hss (by simp [knownL]; omega) (by simp [shownL]; omega) (by omega) (by omega) ?_
      intro DO yo h8 tk8 hK hn hg hyo
      have F8 := F9.keeps hK
      have oO := News.madeOffN N9 hn
      have N8 := News.made F9 (N9.grown hK) hn hg
      clear F9 N9 hK hn hg
      (try dsimp only)
      repeat' (first | (k_unfold; (try dsimp only)) | (k_end; wrow_close) | ((fail_if_success (with_reducible show wpAny _ _ (call (Value.type _) _) _ _ _)); dsimp only; walk1) | ((fail_if_success (with_reducible show wpAny _ _ (call (Value.type _) _) _ _ _)); walk1) | (k_end; dsimp only; k_unfold; (try dsimp only)))
      rename News _ _ _ _ => N9
      rename Fr _ _ _ _ => F9
      refine enum_K (as := openL fr c1 c2 bs lo mi pl) rfl ⟨_, (N9 (DO, _) (.head _)).1, rfl, _, rfl⟩ hyo.areOf (Ne.symm (N9 (DO, _) (.head _)).2.1) oO F9 (fun p hp => N9 p (.tail _ hp)) ?_
      intro h9 e9 F3 N3 S3
      clear F9 N9
      dsimp only
      repeat' (first | (k_unfold; (try dsimp only)) | (k_end; wrow_close) | ((fail_if_success (with_reducible show wpAny _ _ (pyIter _) _ _ _)); dsimp only; walk1) | ((fail_if_success (with_reducible show wpAny _ _ (pyIter _) _ _ _)); walk1) | (k_end; dsimp only; k_unfold; (try dsimp only)))
      refine S3 _ rfl (Str.ofString "i") (Str.ofString "figure") _ _ (fun i m nx => ∃ (vi vf : Option Value) (td : Tok), nx = [(DS, LCg.lst vs), (DK, LCg.lst vk), (DL, LCg.lst us2), (lh2, PySem.W.listOf vh2.toArray e2), (D2, LCg.lst ys), (L' + 1 + 1 + 1 + 1 + 1 + 1 + 1 + 1, o1), (L' + 1 + 1 + 1 + 1 + 1 + 1 + 1, o2), (L' + 1 + 1 + 1 + 1 + 1 + 1, o3), (L' + 1 + 1 + 1 + 1 + 1, o4), (L' + 1 + 1 + 1 + 1, o5), (L' + 1 + 1 + 1, o6), (L' + 1 + 1, o7), (L' + 1, o8), (66, tabObj p1), (59, tabObj p2)] ∧ m = lawM7 vi vf (toldF fr c1 c2 bs lo mi pl i) td DS DK mv tm DW DE lh1 lh2 DN D1 l fo to tf tt vt vx wd mi hg pl t1 t2 t3 t4) ⟨none, none, _, rfl, lawM7_start⟩ ?turn ?done
      case turn =>
        rintro i a t v m1 nx s1 own ⟨hp1, tk1, rfl⟩ ha ⟨tv, rfl⟩ ⟨vi, vf, td, rfl, rfl⟩ hadr hoff F1 N1
        dsimp only at F1 N1
        have F2 : Fr h₀ L' hp1 _ := F1
        have N2 : News h₀ L' hp1 _ := N1
        clear F1 N1 F3 N3 S3
        have hi7 : i < mi := by have := (List.getElem?_eq_some_iff.mp ha).1; simpa [openL, shownL] using this
        repeat' (first | (k_unfold; (try dsimp only)) | (k_end; wrow_close) | ((fail_if_success (with_reducible show wpAny _ _ (binaryOp Operator.Pow _ _) _ _ _)); dsimp only; walk1) | ((fail_if_success (with_reducible show wpAny _ _ (binaryOp Operator.Pow _ _) _ _ _)); walk1) | (k_end; dsimp only; k_unfold; (try dsimp only)))
        rw [show (lo : Int) + (i : Int) = ((lo + i : Nat) : Int) from by push_cast; rfl]
        have hli : lo + i < 7 := A.seven (Nat.lt_of_lt_of_le (Nat.add_lt_add_left hi7 lo) G.lomi)
        refine pow_int_small (by omega) (by omega) (by omega) ?_
        rw [show (bs : Int) ^ (((lo + i : Nat) : Int)).toNat = ((bs ^ (lo + i) : Nat) : Int) from by rw [Int.toNat_natCast]; push_cast; rfl]
        have hbu : bs ^ (lo + i) ≤ 4096 := pow_fit hbs hli
        have ha4 : 0 ≤ a ∧ a < 5 := by
          obtain ⟨k, hk, rfl⟩ := List.mem_map.mp (List.mem_of_getElem? ha)
          unfold openF
          have h1 := Int.fmod_nonneg_of_pos (((rangeKs (k : Int) ((shownL c2 bs mi).length - k)).map fun j => (-1) ^ (j - (k : Int)).toNat * waysF j k * (((List.range (shownL c2 bs mi).length).map (partF (knownL fr (leastN c1 bs lo) bs pl) (shownL c2 bs mi) (lo : Int))).getD j.toNat 0)).sum) (show (0 : Int) < (bs : Int) by omega)
          have h2 := Int.fmod_lt_of_pos (((rangeKs (k : Int) ((shownL c2 bs mi).length - k)).map fun j => (-1) ^ (j - (k : Int)).toNat * waysF j k * (((List.range (shownL c2 bs mi).length).map (partF (knownL fr (leastN c1 bs lo) bs pl) (shownL c2 bs mi) (lo : Int))).getD j.toNat 0)).sum) (show (0 : Int) < (bs : Int) by omega)
          omega
        repeat' (first | (k_unfold; (try dsimp only)) | (k_end; wrow_close) | ((fail_if_success (with_reducible show wpAny _ _ (PySem.execs [] _) _ _ _)); dsimp only; walk1) | ((fail_if_success (with_reducible show wpAny _ _ (PySem.execs [] _) _ _ _)); walk1) | (k_end; dsimp only; k_unfold; (try dsimp only)))
        rename News _ _ _ _ => N5
        rename Fr _ _ _ _ => F5
        refine wpAny_execs_nil ?_
        have htd : toldF fr c1 c2 bs lo mi pl i + a * ((bs ^ (lo + i) : Nat) : Int) = toldF fr c1 c2 bs lo mi pl (i + 1) := by
          rw [toldF, List.getD_eq_getElem?_getD, ha]; rfl
        rw [htd] at F5
        refine LoopStep3.of2 (LoopStep2.intro F5 N5 rfl ?_)
        refine ⟨some (.int (i : Int) t), some (.int a tv), tk1 + 1 + 1 + 1, rfl, ?_⟩
        funext y
        unfold lawM7 lawM6 lawM5 lawM4 lawM3 lawM2 lawM1
        by_cases h1 : y = Str.ofString "figure"
        · subst h1; rfl
        by_cases h2 : y = Str.ofString "i"
        · subst h2; rfl
        by_cases h3 : y = Str.ofString "told"
        · subst h3; rfl
        simp only [if_neg h1, if_neg h2, if_neg h3]
      case done =>
        rintro h4 tk4 m4 nx F4 N4 hadr ⟨vi, vf, td, rfl, rfl⟩
        dsimp only
        let mt : Str → Option Value := lawM7 vi vf (toldF fr c1 c2 bs lo mi pl (openL fr c1 c2 bs lo mi pl).length) td DS DK mv tm DW DE lh1 lh2 DN D1 l fo to tf tt vt vx wd mi hg pl t1 t2 t3 t4
        have F2 : Fr h₀ L' h4 mt := F4
        have N2 : News h₀ L' h4 _ := N4
        clear F4 N4 F3 N3 S3
        refine wpG_execs_cons (wpG_any ?_)
        repeat' (first | (k_unfold; (try dsimp only)) | (k_end; wrow_close) | ((fail_if_success (with_reducible show wpAny _ _ (subscriptTail _ _ _ _) _ _ _)); dsimp only; walk1) | ((fail_if_success (with_reducible show wpAny _ _ (subscriptTail _ _ _ _) _ _ _)); walk1) | (k_end; dsimp only; k_unfold; (try dsimp only)))
        rename News _ _ _ _ => N9
        obtain ⟨th1, hx1⟩ := strs_get hvh2 2 (hostF (rowF to pl 2)) (by simp [hostsL])
        refine item_list ⟨_, (N9 (lh2, _) (by k_mem)).1, rfl, _, rfl⟩ (by decide) (by decide) (by show vh2.toArray[2]? = _; simpa using hx1) ?_
        repeat' (first | (k_unfold; (try dsimp only)) | (k_end; wrow_close) | ((fail_if_success (with_reducible show wpAny _ _ (call (Value.ref 130) _) _ _ _)); dsimp only; walk1) | ((fail_if_success (with_reducible show wpAny _ _ (call (Value.ref 130) _) _ _ _)); walk1) | (k_end; dsimp only; k_unfold; (try dsimp only)))
        rename Fr _ _ _ _ => F9
        rw [show (pl : Int) - (mi : Int) = ((pl - mi : Nat) : Int) from (Int.ofNat_sub A.l3).symm]
        refine dom_ok (n := pl - mi) (Cx.push B' F9 X' T' rfl rfl rfl) (by show dp0 + 1 < 940; exact dlt hdp (by decide)) (by show un0 + 3 < 8800; exact ult hu (by decide)) P.p3.n16 P.p3.g P.p3.up ?_
        intro tq h5 tk5 hK
        have F8 := F9.keeps hK
        have N8 := N9.grown hK
        clear F9 N9 hK
        dsimp only
        repeat' (first | (k_unfold; (try dsimp only)) | (k_end; wrow_close) | (dsimp only; walk1) | (walk1) | (k_end; dsimp only; k_unfold; (try dsimp only)))
        refine wpG_execs_cons (wpG_any ?_)
        repeat' (first | (k_unfold; (try dsimp only)) | (k_end; wrow_close) | ((fail_if_success (with_reducible show wpAny _ _ (call (Value.ref 123) _) _ _ _)); dsimp only; walk1) | ((fail_if_success (with_reducible show wpAny _ _ (call (Value.ref 123) _) _ _ _)); walk1) | (k_end; dsimp only; k_unfold; (try dsimp only)))
        rename News _ _ _ _ => N9
        rename Fr _ _ _ _ => F9
        refine hosts_ok (n := (leftL fr sz c1 bs lo).length) (k := pl) (Cx.push B' F9 X' T' rfl rfl rfl) (by show dp0 + 1 < 940; exact dlt hdp (by decide)) (by show un0 + 3 < 8800; exact ult hu (by decide)) hms A.p0 A.p8 (by rw [hms]; exact A.sixteen (Nat.mul_le_mul_right pl P.le)) ?_
        intro lh3 vh3 hh3 tkh3 hK hn hgx hvh3
        obtain ⟨eph3, hgx⟩ := hgx
        have F8 := F9.keeps hK
        have oH := News.madeOffN N9 hn
        have N8 := News.made F9 (N9.grown hK) hn hgx
        clear F9 N9 hK hn hgx
        (try dsimp only)
        repeat' (first | (k_unfold; (try dsimp only)) | (k_end; wrow_close) | ((fail_if_success (with_reducible show wpAny _ _ (call (Value.ref 156) _) _ _ _)); dsimp only; walk1) | ((fail_if_success (with_reducible show wpAny _ _ (call (Value.ref 156) _) _ _ _)); walk1) | (k_end; dsimp only; k_unfold; (try dsimp only)))
        rename_i lT _
        rename News _ _ _ _ => N9
        rename Fr _ _ _ _ => F9
        refine parted_ok (ns := leftL fr sz c1 bs lo) (hs := hostsN (leftL fr sz c1 bs lo).length mv pl) (ds := [toldF fr c1 c2 bs lo mi pl (openL fr c1 c2 bs lo mi pl).length]) (Cx.push B' F9 X' T' rfl rfl rfl) (by show dp0 + 1 < 920; exact dlt hdp (by decide)) (by show un0 + 3 < 8700; exact ult hu (by decide)) ⟨_, (N9 (DL, _) (by k_mem)).1, rfl, _, rfl⟩ hls ⟨_, (N9 (lh3, _) (by k_mem)).1, rfl, _, rfl⟩ hvh3 (by is_list) (.cons _ _ .nil) (by simp [hostsN]) (by have := P.le; omega) (by simp) Q.q.d1 Q.q.d2 Q.q.d3 Q.q.d4 Q.q.g ?_
        intro h7 tk7 hK
        have F8 := F9.keeps hK
        have N8 := N9.grown hK
        clear F9 N9 hK
        have hr := Q.r
        unfold parOk domF at hr
        rw [hr]
        clear hr
        repeat' (first | (k_unfold; (try dsimp only)) | (k_end; wrow_close) | ((fail_if_success (with_reducible show wpAny _ _ (subscriptTail _ _ _ _) _ _ _)); dsimp only; walk1) | ((fail_if_success (with_reducible show wpAny _ _ (subscriptTail _ _ _ _) _ _ _)); walk1) | (k_end; dsimp only; k_unfold; (try dsimp only)))
        rename News _ _ _ _ => N9
        refine item_list ⟨_, (N9 (lh2, _) (by k_mem)).1, rfl, _, rfl⟩ (by decide) (by decide) (by show vh2.toArray[2]? = _; simpa using hx1) ?_
        repeat' (first | (k_unfold; (try dsimp only)) | (k_end; wrow_close) | ((fail_if_success (with_reducible show wpAny _ _ (call (Value.ref 163) _) _ _ _)); dsimp only; walk1) | ((fail_if_success (with_reducible show wpAny _ _ (call (Value.ref 163) _) _ _ _)); walk1) | (k_end; dsimp only; k_unfold; (try dsimp only)))
        rename Fr _ _ _ _ => F9
        refine ruled_ok (Cx.push B' F9 X' T' rfl rfl rfl) (by show dp0 + 1 < 920; exact dlt hdp (by decide)) (by show un0 + 3 < 8700; exact ult hu (by decide)) Q.x Q.q.d1 Q.R ?_
        intro h8 tk8 hK
        have F8 := F9.keeps hK
        have N8 := N9.grown hK
        clear F9 N9 hK
        repeat' (first | (k_unfold; (try dsimp only)) | (k_end; wrow_close) | (dsimp only; walk1) | (walk1) | (k_end; dsimp only; k_unfold; (try dsimp only)))
        rename News _ _ _ _ => N9
        rename Fr _ _ _ _ => F9
        exact h _ _ F9.keep ⟨_, (N9 (66, _) (by k_mem)).1⟩ ⟨_, (N9 (59, _) (by k_mem)).1⟩
end
section
open PySem PySem.W PyProof.Rows PySem.Calls
set_option maxRecDepth 100000
set_option maxHeartbeats 8000000

theorem law_E {w : World} {bd : List Stmt} {sc : Scope} (hp : partOf (hd.heap_39 w.params) 168 = some (bd, sc)) {dp0 un0 : Nat} {fr0 : Option (List Env)} {s : Shared} {Q E : Value → Shared → Prop} {h₀ bse : Heap} {outer : List Env} {mg mb : Str → Option Value} {loose : List Str} {mean : ExcName → Option Value}
   {L' DL DE DD lh1 lh2 DN D1 D2 l : Addr} {vt vx : Option Value} {ys ws zs us us2 vh1 vh2 : List Value} {e1 e2 : Nat} {fo to : Array UInt8} {tf tt : Tok} {z0 z1 z2 z3 wd bs lo mi hg pl sz c0 c1 c2 fr : Nat} {p1 p2 : Array Value} {o1 o2 o3 o4 o5 o6 o7 o8 : Obj} {t1 t2 t3 t4 t5 t6 t7 t8 t9 : Tok}
   (hdp : dp0 < 400) (hu : un0 < 3000) (B' : Below ⟨none, dp0, fr0, some [], un0⟩ bse outer h₀) (X' : (hd.heap_39 w.params).In h₀) (T' : Top topProg loose mean mg mb h₀)
   (F' : Fr h₀ L' s.heap (lawM5 DE lh1 lh2 DN D1 l fo to tf tt vt vx wd mi hg pl t1 t2 t3 t4))
   (N' : News h₀ L' s.heap [(DL, LCg.lst us2), (DE, LCg.lst us), (DD, LCg.lst zs), (lh2, PySem.W.listOf vh2.toArray e2), (lh1, PySem.W.listOf vh1.toArray e1), (DN, LCg.lst ws), (D2, LCg.lst ys), (L' + 1 + 1 + 1 + 1 + 1 + 1 + 1 + 1, o1), (L' + 1 + 1 + 1 + 1 + 1 + 1 + 1, o2), (L' + 1 + 1 + 1 + 1 + 1 + 1, o3), (L' + 1 + 1 + 1 + 1 + 1, o4), (L' + 1 + 1 + 1 + 1, o5), (L' + 1 + 1 + 1, o6), (L' + 1 + 1, o7), (L' + 1, o8), (66, tabObj p1), (59, tabObj p2)])
   (d1 : o1.data = .cell (some (.ref DL))) (d2 : o2.data = .cell (some (.int ((leastN c1 bs lo : Nat) : Int) t9))) (d3 : o3.data = .cell (some (.ref DD))) (d4 : o4.data = .cell (some (.int (fr : Int) t5))) (d5 : o5.data = .cell (some (.ref D2))) (d6 : o6.data = .cell (some (.int (sz : Int) t6))) (d7 : o7.data = .cell (some (.int (lo : Int) t7))) (d8 : o8.data = .cell (some (.int (bs : Int) t8)))
   (hcs : IntsAre ys [(c0 : Int), (c1 : Int), (c2 : Int)]) (hns : IntsAre ws (numL fr sz)) (hds : IntsAre zs (dueL fr sz)) (hls : IntsAre us2 (leftL fr sz c1 bs lo)) (hvh1 : StrsAre vh1 (hostsL fo pl)) (hvh2 : StrsAre vh2 (hostsL to pl))
   (G : Cfg z0 z1 z2 z3 wd bs lo mi hg pl sz c0 c1 c2 fr) (hfs : fo.size = 21 * pl) (hts : to.size = 21 * pl) (hfo : figF wd pl (numsL fr sz c0 c1 c2) = fo) (hto : swOut fo pl 21 = to)
   (h : ∀ h' tk', (∀ b o, h₀.get? b = some o → h'.get? b = some o) → GrownAt 66 h' → GrownAt 59 h' → Q (.bool true) { s with heap := h', toks := tk' }) :
   wpG (model Challenge.rw_zo0018_01.row.prog w) (Around.deeper ⟨none, dp0, fr0, some [], un0⟩ (envOfC (Str.ofString "law") sc L' 168 (.ref 167))) (execs (bd.drop 23) (envOfC (Str.ofString "law") sc L' 168 (.ref 167)))
     (fun fl s' => Q (match fl with | .ret v => v | _ => .none) s') (fun e s' => wpAny (model Challenge.rw_zo0018_01.row.prog w) (Around.deeper ⟨none, dp0, fr0, some [], un0⟩ (envOfC (Str.ofString "law") sc L' 168 (.ref 167))) (leaving (envOfC (Str.ofString "law") sc L' 168 (.ref 167)) e) (fun _ s'' => E e s'') (fun e' s'' => E e' s'') s') s := by
  have hp0 := hp
  with_unfolding_all (change some (_, _) = some (bd, sc) at hp)
  injection hp with hp
  injection hp with h1 h2
  subst h1 h2
  dsimp only [List.drop]
  let mm : Str → Option Value := lawM5 DE lh1 lh2 DN D1 l fo to tf tt vt vx wd mi hg pl t1 t2 t3 t4
  replace F' : Fr h₀ L' s.heap mm := F'
  revert X'; k_fill; intro X'
  have hcode : CodeHd h₀ 70 66 := codeHd_of_K X' (by kernel_rfl)
  have P := plainE G hfo hto
  have A := G.ar
  have hwl : ws.length = 18 := by rw [hns.length]; simp [numL]
  refine wpG_execs_cons (wpG_any ?_)
  rename Fr _ _ _ _ => F9
  refine AssignComp_L F9 rfl (by with_unfolding_all rfl) (by with_unfolding_all rfl) (by decide) rfl (by decide) rfl rfl ?_
  repeat' (first | (k_unfold; (try dsimp only)) | (k_end; wrow_close) | ((fail_if_success (with_reducible show wpAny _ _ (call (Value.ref 118) _) _ _ _)); dsimp only; walk1) | ((fail_if_success (with_reducible show wpAny _ _ (call (Value.ref 118) _) _ _ _)); walk1) | (k_end; dsimp only; k_unfold; (try dsimp only)))
  rename News _ _ _ _ => N9
  rename Fr _ _ _ _ => F9
  refine rows_ok (n := 21) (k := pl) (Cx.push B' F9 X' T' rfl rfl rfl) (by show dp0 + 1 < 960; exact dlt hdp (by decide)) (by show un0 + 3 < 8900; exact ult hu (by decide)) hfs A.p0 A.p8 (A.big hfs) ?_
  intro DR yr h3 tk3 hK hn hg hyr
  have F8 := F9.keeps hK
  have oR := News.madeOffN N9 hn
  have N8 := News.made F9 (N9.grown hK) hn hg
  clear F9 N9 hK hn hg
  (try dsimp only)
  repeat' (first | (k_unfold; (try dsimp only)) | (k_end; wrow_close) | ((fail_if_success (with_reducible show wpAny _ _ (subscriptTail _ _ _ _) _ _ _)); dsimp only; walk1) | ((fail_if_success (with_reducible show wpAny _ _ (subscriptTail _ _ _ _) _ _ _)); walk1) | (k_end; dsimp only; k_unfold; (try dsimp only)))
  rename News _ _ _ _ => N9
  rename Fr _ _ _ _ => F9
  have hyl : yr.length = 21 := by rw [hyr.1]; simp
  refine kba_turn (value' := PySem.Expr.Name (PySem.Str.ofString "_") ⟨0, 0, 0, 0⟩) (fun _ => rfl) ?_
  refine sl_from (s := ⟨_, _, _, _, _⟩) F9 N9 ⟨_, (N9 (DR, _) (by k_mem)).1, rfl, _, rfl⟩ rfl (by rw [hyl]; decide) ?_
  intro hA DA FA NA ltA
  simp only [List.forall_mem_cons, List.not_mem_nil, false_implies, implies_true, and_true] at ltA
  clear F9 N9
  dsimp only
  repeat' (first | (k_unfold; (try dsimp only)) | (k_end; wrow_close) | ((fail_if_success (with_reducible show wpAny _ _ (call (Value.type _) _) _ _ _)); dsimp only; walk1) | ((fail_if_success (with_reducible show wpAny _ _ (call (Value.type _) _) _ _ _)); walk1) | (k_end; dsimp only; k_unfold; (try dsimp only)))
  rename News _ _ _ _ => N9
  rename Fr _ _ _ _ => F9
  refine GSrc.zip (xs := ws.toArray) (ys := (yr.drop 3).toArray) (by decide) (by decide) (by decide) rfl rfl F9 N9 ⟨_, (N9 (DN, _) (by k_mem)).1, rfl, _, rfl⟩ ⟨_, (N9 (DA, _) (by k_mem)).1, rfl, _, rfl⟩ (by rw [List.size_toArray, hwl]; decide)
    (fun i us => BytsAre us (((((numL fr sz).zip ((rowsL fo pl).drop 3)).take i).filter fun p => decide (p.1 ∈ leftL fr sz c1 bs lo)).map (·.2))) ⟨rfl, by simp⟩ ?stepE ?finE
  case stepE =>
    intro g i us va vb C D oC m3 h3 tk3 E3 ha hb hJ hxa hxb hC F3 N3
    obtain ⟨a, ha', tA, rfl⟩ := (hns.areOf).get i va (by simpa using ha)
    obtain ⟨b, tB, hb', rfl⟩ := bytes_at (bytes_drop hyr 3) i vb (by simpa using hb)
    clear F9 N9 ltA
    repeat' (first | (k_unfold; (try dsimp only)) | (k_end; wrow_close) | (dsimp only; walk1) | (walk1) | (k_end; dsimp only; k_unfold; (try dsimp only)))
    · exact ⟨_, _, rfl, fun _ _ e => e, bfilt_snoc (zip_get ha' hb') (by rw [← any_mem]; assumption) hJ⟩
    · exact ⟨_, _, rfl, fun _ _ e => e, bfilt_skip (zip_get ha' hb') (by rw [← any_mem]; assumption) hJ⟩
  case finE =>
    intro g DW h3 tk3 vw F3 N3 o3' hJ h4 tk4 F4 N4
    clear F9 N9 F3 N3
    dsimp only
    have hkw : BytsAre vw (keptL fo pl fr sz c1 bs lo) := by
      rw [List.take_of_length_le (by simp [hwl, hyl, numL, rowsL])] at hJ
      exact hJ
    clear hJ
    simp only [List.forall_mem_cons, List.not_mem_nil, false_implies, implies_true, and_true] at o3'
    refine wpG_execs_cons (wpG_Assign (CallG ?_) ?_)
    repeat' (first | (k_unfold; (try dsimp only)) | (k_end; wrow_close) | (dsimp only; walk1) | (walk1) | (k_end; dsimp only; k_unfold; (try dsimp only)))
    obtain ⟨o6f, fd6, hl6, hd6⟩ := fn_of (K := hd.heap_39 w.params) (a := 106) (by kernel_rfl)
    refine callDefG hd6 ?_ (by rfl)
    repeat' (first | (k_unfold; (try dsimp only)) | (k_end; wrow_close) | ((fail_if_success (with_reducible show wpAny _ _ (getMethod _ _ _) _ _ _)); dsimp only; walk1) | ((fail_if_success (with_reducible show wpAny _ _ (getMethod _ _ _) _ _ _)); walk1) | (k_end; dsimp only; k_unfold; (try dsimp only)))
    refine bj_method ?_
    repeat' (first | (k_unfold; (try dsimp only)) | (k_end; wrow_close) | ((fail_if_success (with_reducible show wpAny _ _ (PySem.eval (Expr.ListComp _ _ _ _) _) _ _ _)); dsimp only; walk1) | ((fail_if_success (with_reducible show wpAny _ _ (PySem.eval (Expr.ListComp _ _ _ _) _) _ _ _)); walk1) | (k_end; dsimp only; k_unfold; (try dsimp only)))
    refine ListComp_G (by k_asm) (by with_unfolding_all rfl) (by decide) (by rfl) (by decide) ?_
    repeat' (first | (k_unfold; (try dsimp only)) | (k_end; wrow_close) | (dsimp only; walk1) | (walk1) | (k_end; dsimp only; k_unfold; (try dsimp only)))
    have hvl : vw.length = (leftL fr sz c1 bs lo).length := by rw [hkw.1]; exact P.lenK
    have hle := P.le
    refine GSrc.list (ax := DW) (its := vw.toArray) (by decide) (by rfl) (by rfl) (by k_asm) (by k_asm) (by is_list) (by rw [List.size_toArray]; unfold sizeLine; omega) (fun i us => BytsAre us (((keptL fo pl fr sz c1 bs lo).take i).map fun b => movedF b (bs : Int))) ⟨rfl, by simp⟩ ?stepM ?finM
    case stepM =>
      intro g i us v C D oC m3 h5 tk5 E3 hi hJ hx hC F3 N3
      obtain ⟨b, tB, hb, rfl⟩ := bytes_at hkw i v (by simpa using hi)
      have hbz := P.szK b (List.mem_of_getElem? hb)
      repeat' (first | (k_unfold; (try dsimp only)) | (k_end; wrow_close) | ((fail_if_success (with_reducible show wpAny _ _ (call (Value.ref 137) _) _ _ _)); dsimp only; walk1) | ((fail_if_success (with_reducible show wpAny _ _ (call (Value.ref 137) _) _ _ _)); walk1) | (k_end; dsimp only; k_unfold; (try dsimp only)))
      rename Fr _ _ _ _ => F9
      refine moved_ok (b := b) (Cx.push B' F9 X' T' rfl rfl rfl) (by show dp0 + 1 < 940; exact dlt hdp (by decide)) (by show un0 + 3 < 8800; exact ult hu (by decide)) (by rw [hbz]; exact A.p3) (by rw [hbz]; exact A.p6) G.bsI ?_
      intro tm h6 tk6 hK
      k_end
      exact ⟨_, _, rfl, hK, by rw [List.take_add_one, hb, List.map_append]; exact hJ.snoc⟩
    case finM =>
      intro g DM h5 tk5 vm F3 N3 oM hJ
      have hvm : BytsAre vm ((keptL fo pl fr sz c1 bs lo).map fun b => movedF b (bs : Int)) := by
        rw [List.size_toArray, List.take_of_length_le (show (keptL fo pl fr sz c1 bs lo).length ≤ vw.length from Nat.le_of_eq hkw.1.symm)] at hJ
        exact hJ
      clear hJ
      repeat' (first | (k_unfold; (try dsimp only)) | (k_end; wrow_close) | ((fail_if_success (with_reducible show wpAny _ _ (call (Value.builtin _) _) _ _ _)); dsimp only; walk1) | ((fail_if_success (with_reducible show wpAny _ _ (call (Value.builtin _) _) _ _ _)); walk1) | (k_end; dsimp only; k_unfold; (try dsimp only)))
      have hsum : (((keptL fo pl fr sz c1 bs lo).map fun b => movedF b (bs : Int)).map (·.size)).sum = (leftL fr sz c1 bs lo).length * pl := by
        rw [P.szM, List.sum_replicate_nat]
      have hle2 : (leftL fr sz c1 bs lo).length * pl ≤ 16 * pl := Nat.mul_le_mul_right _ hle
      refine bj_ok (by is_list) hvm (by rw [hsum]; exact A.sixteen hle2) ?_
      intro tb kb
      have hms : (mvB fo pl fr sz c1 bs lo).size = (leftL fr sz c1 bs lo).length * pl := by
        unfold mvB joinB; rw [joinB_len, hsum]; simp
      rw [show joinB ((keptL fo pl fr sz c1 bs lo).map fun b => movedF b (bs : Int)) = mvB fo pl fr sz c1 bs lo from rfl]
      repeat' (first | (k_unfold; (try dsimp only)) | (k_end; wrow_close) | (dsimp only; walk1) | (walk1) | (k_end; dsimp only; k_unfold; (try dsimp only)))
      · exact (Frag.In.keeps X' (Fr.keep (by k_asm))) _ _ hl6
      rename News _ _ _ _ => N9
      rename Fr _ _ _ _ => F9
      refine swap_ok (n := (leftL fr sz c1 bs lo).length) (k := pl) (Cx.push B' F9 X' T' rfl rfl rfl) (by show dp0 + 1 < 940; exact dlt hdp (by decide)) (by show un0 + 3 < 8800; exact ult hu (by decide)) rfl hms P.pos A.p0 A.p8 (by rw [hms]; exact A.sixteen hle2) ?_
      intro tm ht tkt hK
      have F8 := F9.keeps hK
      have N8 := N9.grown hK
      clear F9 N9 hK
      dsimp only
      refine wpG_any ?_
      repeat' (first | (k_unfold; (try dsimp only)) | (k_end; wrow_close) | (dsimp only; walk1) | (walk1) | (k_end; dsimp only; k_unfold; (try dsimp only)))
      rename News _ _ _ _ => N9
      rename Fr _ _ _ _ => F9
      exact law_G (s := ⟨_, _, _, _, _⟩) hp0 hdp hu B' X' T' (by unfold lawM6 lawM5 lawM4 lawM3 lawM2 lawM1; exact F9) (news_sub N9 (by repeat (first | exact .slnil | apply List.Sublist.cons₂ | apply List.Sublist.cons))) d1 d2 d3 d4 d5 d6 d7 d8 hcs hls hvh2 G (by rw [swOut_size]; exact hms) rfl hts hfo hto h
end
section
local macro_rules | `(tactic| omega) => `(tactic| first | lia | omega (config := {}))
open PySem PySem.W PyProof.Rows PySem.Calls
set_option maxRecDepth 100000
set_option maxHeartbeats 8000000

theorem news_drop34 {h₀ h : Heap} {L : Addr} {p q a b : Addr × Obj} {r : List (Addr × Obj)} (N : News h₀ L h (p :: q :: a :: b :: r)) : News h₀ L h (p :: q :: r) := fun x hx => by
  rcases List.mem_cons.mp hx with rfl | hx
  · exact N _ (.head _)
  · rcases List.mem_cons.mp hx with rfl | hx
    · exact N _ (.tail _ (.head _))
    · exact N _ (.tail _ (.tail _ (.tail _ (.tail _ hx))))
theorem law_D {w : World} {bd : List Stmt} {sc : Scope} (hp : partOf (hd.heap_39 w.params) 168 = some (bd, sc)) {dp0 un0 : Nat} {fr0 : Option (List Env)} {s : Shared} {Q E : Value → Shared → Prop} {h₀ bse : Heap} {outer : List Env} {mg mb : Str → Option Value} {loose : List Str} {mean : ExcName → Option Value}
   {L' DD lh1 lh2 DN D1 D2 l : Addr} {vt vx : Option Value} {ys ws zs vh1 vh2 : List Value} {e1 e2 : Nat} {fo to : Array UInt8} {tf tt : Tok} {z0 z1 z2 z3 wd bs lo mi hg pl sz c0 c1 c2 fr : Nat} {p1 p2 : Array Value} {o1 o2 o3 o4 o5 o6 o7 o8 : Obj} {x1 x2 : Option Value} {t1 t2 t3 t4 t5 t6 t7 t8 : Tok}
   (hdp : dp0 < 400) (hu : un0 < 3000) (B' : Below ⟨none, dp0, fr0, some [], un0⟩ bse outer h₀) (X' : (hd.heap_39 w.params).In h₀) (T' : Top topProg loose mean mg mb h₀) (hlt : @LT.lt Nat _ 66 L')
   (F' : Fr h₀ L' s.heap (lawM4 lh1 lh2 DN D1 l fo to tf tt vt vx wd mi hg pl t1 t2 t3 t4))
   (N' : News h₀ L' s.heap [(DD, LCg.lst zs), (lh2, PySem.W.listOf vh2.toArray e2), (lh1, PySem.W.listOf vh1.toArray e1), (DN, LCg.lst ws), (D2, LCg.lst ys), (L' + 1 + 1 + 1 + 1 + 1 + 1 + 1 + 1, o1), (L' + 1 + 1 + 1 + 1 + 1 + 1 + 1, o2), (L' + 1 + 1 + 1 + 1 + 1 + 1, o3), (L' + 1 + 1 + 1 + 1 + 1, o4), (L' + 1 + 1 + 1 + 1, o5), (L' + 1 + 1 + 1, o6), (L' + 1 + 1, o7), (L' + 1, o8), (66, tabObj p1), (59, tabObj p2)])
   (O0 : @LT.lt Nat _ lh2 DD ∧ @LT.lt Nat _ lh1 DD ∧ @LT.lt Nat _ DN DD ∧ @LT.lt Nat _ D2 DD ∧ @LT.lt Nat _ (L' + 1 + 1 + 1 + 1 + 1 + 1 + 1 + 1) DD) (hD2 : @LT.lt Nat _ (L' + 1 + 1 + 1 + 1 + 1 + 1 + 1 + 1) D2) (hDN : @LT.lt Nat _ D2 DN)
   (O1 : @Ne Nat (L' + 1 + 1 + 1 + 1 + 1 + 1 + 1 + 1) lh1 ∧ @Ne Nat (L' + 1 + 1 + 1 + 1 + 1 + 1 + 1) lh1) (O2 : @Ne Nat (L' + 1 + 1 + 1 + 1 + 1 + 1 + 1 + 1) lh2 ∧ @Ne Nat (L' + 1 + 1 + 1 + 1 + 1 + 1 + 1) lh2)
   (d1 : o1.data = .cell x1) (d2 : o2.data = .cell x2) (d3 : o3.data = .cell (some (.ref DD))) (d4 : o4.data = .cell (some (.int (fr : Int) t5))) (d5 : o5.data = .cell (some (.ref D2))) (d6 : o6.data = .cell (some (.int (sz : Int) t6))) (d7 : o7.data = .cell (some (.int (lo : Int) t7))) (d8 : o8.data = .cell (some (.int (bs : Int) t8)))
   (hcs : IntsAre ys [(c0 : Int), (c1 : Int), (c2 : Int)]) (hns : IntsAre ws (numL fr sz)) (hds : IntsAre zs ((numL fr sz).filter (dueB fr))) (hvh1 : StrsAre vh1 ((List.range 21).map fun i => hostF (rowF fo pl i))) (hvh2 : StrsAre vh2 ((List.range 21).map fun i => hostF (rowF to pl i)))
   (G : Cfg z0 z1 z2 z3 wd bs lo mi hg pl sz c0 c1 c2 fr) (hfs : fo.size = 21 * pl) (hts : to.size = 21 * pl) (hfo : figF wd pl (numsL fr sz c0 c1 c2) = fo) (hto : swOut fo pl 21 = to)
   (h : ∀ h' tk', (∀ b o, h₀.get? b = some o → h'.get? b = some o) → GrownAt 66 h' → GrownAt 59 h' → Q (.bool true) { s with heap := h', toks := tk' }) :
   wpG (model Challenge.rw_zo0018_01.row.prog w) (Around.deeper ⟨none, dp0, fr0, some [], un0⟩ (envOfC (Str.ofString "law") sc L' 168 (.ref 167))) (execs (bd.drop 18) (envOfC (Str.ofString "law") sc L' 168 (.ref 167)))
     (fun fl s' => Q (match fl with | .ret v => v | _ => .none) s') (fun e s' => wpAny (model Challenge.rw_zo0018_01.row.prog w) (Around.deeper ⟨none, dp0, fr0, some [], un0⟩ (envOfC (Str.ofString "law") sc L' 168 (.ref 167))) (leaving (envOfC (Str.ofString "law") sc L' 168 (.ref 167)) e) (fun _ s'' => E e s'') (fun e' s'' => E e' s'') s') s := by
  have hp0 := hp
  with_unfolding_all (change some (_, _) = some (bd, sc) at hp)
  injection hp with hp
  injection hp with h1 h2
  subst h1 h2
  dsimp only [List.drop]
  let mm : Str → Option Value := lawM4 lh1 lh2 DN D1 l fo to tf tt vt vx wd mi hg pl t1 t2 t3 t4
  replace F' : Fr h₀ L' s.heap mm := F'
  revert X'; k_fill; intro X'
  have hcode : CodeHd h₀ 70 66 := codeHd_of_K X' (by kernel_rfl)
  have P := plainD G hfo hto
  have hw := G.wdpl
  have hcs' := G.cases
  have hpl' := G.hpl
  have hl1 : vh1.length = 21 := by rw [strsAre_length hvh1]; simp
  have hl2 : vh2.length = 21 := by rw [strsAre_length hvh2]; simp
  refine wpG_execs_cons (wpG_any ?_)
  repeat' (first | (k_unfold; (try dsimp only)) | (k_end; wrow_close) | ((fail_if_success (with_reducible show wpAny _ _ (subscriptTail _ _ _ _) _ _ _)); dsimp only; walk1) | ((fail_if_success (with_reducible show wpAny _ _ (subscriptTail _ _ _ _) _ _ _)); walk1) | (k_end; dsimp only; k_unfold; (try dsimp only)))
  rename News _ _ _ _ => N9
  rename Fr _ _ _ _ => F9
  refine sl_from (s := ⟨_, _, _, _, _⟩) F9 N9 ⟨_, (N9 (lh1, _) (.tail _ (.tail _ (.head _)))).1, rfl, _, rfl⟩ rfl (by omega) ?_
  intro hA DA FA NA ltA
  replace ltA : @LT.lt Nat _ (L' + 1 + 1 + 1 + 1 + 1 + 1 + 1 + 1) DA := ltA (_, o1) (by k_mem)
  clear F9 N9
  dsimp only
  repeat' (first | (k_unfold; (try dsimp only)) | (k_end; wrow_close) | ((fail_if_success (with_reducible show wpAny _ _ (subscriptTail _ _ _ _) _ _ _)); dsimp only; walk1) | ((fail_if_success (with_reducible show wpAny _ _ (subscriptTail _ _ _ _) _ _ _)); walk1) | (k_end; dsimp only; k_unfold; (try dsimp only)))
  obtain ⟨th0, hx0⟩ := strs_get hvh1 0 (hostF (rowF fo pl 0)) (by simp)
  refine item_list ⟨_, (NA (lh1, _) (by k_mem)).1, rfl, _, rfl⟩ (by decide) (by decide) (by show vh1.toArray[0]? = _; simpa using hx0) ?_
  repeat' (first | (k_unfold; (try dsimp only)) | (k_end; wrow_close) | ((fail_if_success (with_reducible show wpAny _ _ (call (Value.ref 130) _) _ _ _)); dsimp only; walk1) | ((fail_if_success (with_reducible show wpAny _ _ (call (Value.ref 130) _) _ _ _)); walk1) | (k_end; dsimp only; k_unfold; (try dsimp only)))
  rename News _ _ _ _ => N9
  rename Fr _ _ _ _ => F9
  rw [show (pl : Int) - (hg : Int) = ((pl - hg : Nat) : Int) from (Int.ofNat_sub G.ar.l1).symm]
  refine dom_ok (n := pl - hg) (Cx.push B' F9 X' T' rfl rfl rfl) (by show dp0 + 1 < 940; exact dlt hdp (by decide)) (by show un0 + 3 < 8800; exact ult hu (by decide)) P.p1.n16 P.p1.g P.p1.up ?_
  intro td h5 tk5 hK
  have F8 := F9.keeps hK
  have N8 := N9.grown hK
  clear F9 N9 hK
  dsimp only
  repeat' (first | (k_unfold; (try dsimp only)) | (k_end; wrow_close) | ((fail_if_success (with_reducible show wpAny _ _ (call (Value.ref 156) _) _ _ _)); dsimp only; walk1) | ((fail_if_success (with_reducible show wpAny _ _ (call (Value.ref 156) _) _ _ _)); walk1) | (k_end; dsimp only; k_unfold; (try dsimp only)))
  rename News _ _ _ _ => N9
  rename Fr _ _ _ _ => F9
  refine parted_ok (ns := numL fr sz) (hs := (hostsL fo pl).drop 3) (ds := dueL fr sz) (Cx.push B' F9 X' T' rfl rfl rfl) (by show dp0 + 1 < 920; exact dlt hdp (by decide)) (by show un0 + 3 < 8700; exact ult hu (by decide)) ⟨_, (N9 (DN, _) (by k_mem)).1, rfl, _, rfl⟩ hns ⟨_, (N9 (DA, _) (by k_mem)).1, rfl, _, rfl⟩ (StrsAre.drop' hvh1 3) ⟨_, (N9 (DD, _) (by k_mem)).1, rfl, _, rfl⟩ hds
    (by simp [numL, hostsL]) (by simp [numL]) (Nat.le_trans (List.length_filter_le _ _) (by simp [numL])) P.q1.d1 P.q1.d2 P.q1.d3 P.q1.d4 P.q1.g ?_
  intro h6 tk6 hK
  have F8 := F9.keeps hK
  have N8 := N9.grown hK
  clear F9 N9 hK
  have hr1 := P.r1
  unfold parOk at hr1
  unfold domF at hr1
  rw [hr1]
  clear hr1
  repeat' (first | (k_unfold; (try dsimp only)) | (k_end; wrow_close) | (dsimp only; walk1) | (walk1) | (k_end; dsimp only; k_unfold; (try dsimp only)))
  refine wpG_execs_cons (wpG_any ?_)
  rename Fr _ _ _ _ => F9
  refine AssignComp_L F9 rfl (by with_unfolding_all rfl) (by with_unfolding_all rfl) (by decide) rfl (by decide) rfl rfl ?_
  repeat' (first | (k_unfold; (try dsimp only)) | (k_end; wrow_close) | ((fail_if_success (with_reducible show wpAny _ _ (subscriptTail _ _ _ _) _ _ _)); dsimp only; walk1) | ((fail_if_success (with_reducible show wpAny _ _ (subscriptTail _ _ _ _) _ _ _)); walk1) | (k_end; dsimp only; k_unfold; (try dsimp only)))
  rename News _ _ _ _ => N9
  rename Fr _ _ _ _ => F9
  refine sl_from (s := ⟨_, _, _, _, _⟩) F9 N9 ⟨_, (N9 (lh2, _) (by k_mem)).1, rfl, _, rfl⟩ rfl (by omega) ?_
  intro hB DB FB NB ltB
  replace ltB : @LT.lt Nat _ (L' + 1 + 1 + 1 + 1 + 1 + 1 + 1 + 1) DB := ltB (_, o1) (by k_mem)
  clear F9 N9
  dsimp only
  have hwl : ws.length = 18 := by rw [hns.length]; simp [numL]
  repeat' (first | (k_unfold; (try dsimp only)) | (k_end; wrow_close) | ((fail_if_success (with_reducible show wpAny _ _ (call (Value.type _) _) _ _ _)); dsimp only; walk1) | ((fail_if_success (with_reducible show wpAny _ _ (call (Value.type _) _) _ _ _)); walk1) | (k_end; dsimp only; k_unfold; (try dsimp only)))
  rename News _ _ _ _ => N9
  rename Fr _ _ _ _ => F9
  refine GSrc.zip (xs := ws.toArray) (ys := (vh2.drop 3).toArray) (by decide) (by decide) (by decide) rfl rfl F9 N9 ⟨_, (N9 (DN, _) (by k_mem)).1, rfl, _, rfl⟩ ⟨_, (N9 (DB, _) (by k_mem)).1, rfl, _, rfl⟩ (by rw [List.size_toArray, hwl]; decide)
    (fun i us => StrsAre us (((((numL fr sz).zip ((hostsL to pl).drop 3)).take i).filter fun p => decide (p.1 ∈ dueL fr sz)).map (·.2))) .nil ?stepE ?finE
  case stepE =>
    intro g i us va vb C D oC m3 h3 tk3 E3 ha hb hJ hxa hxb hC F3 N3
    obtain ⟨a, ha', tA, rfl⟩ := (hns.areOf).get i va (by simpa using ha)
    obtain ⟨b, tB, hb', rfl⟩ := strs_val (StrsAre.drop' hvh2 3) i vb (by simpa using hb)
    clear F9 N9 ltB
    repeat' (first | (k_unfold; (try dsimp only)) | (k_end; wrow_close) | (dsimp only; walk1) | (walk1) | (k_end; dsimp only; k_unfold; (try dsimp only)))
    · exact ⟨_, _, rfl, fun _ _ e => e, zfilt_snoc (zip_get ha' hb') (by rw [← any_mem]; assumption) hJ⟩
    · exact ⟨_, _, rfl, fun _ _ e => e, zfilt_skip (zip_get ha' hb') (by rw [← any_mem]; assumption) hJ⟩
  case finE =>
    intro g DE h3 tk3 us F3 N3 o3' hJ h4 tk4 F4 N4
    replace o3' : @LT.lt Nat _ (L' + 1 + 1 + 1 + 1 + 1 + 1 + 1 + 1) DE := o3' (_, o1) (by k_mem)
    have hes : StrsAre us (endsL to pl fr sz) := by
      have hl2' : (vh2.drop 3).length = 18 := by rw [List.length_drop, hl2]
      rw [List.size_toArray, List.size_toArray, hwl, hl2', List.take_of_length_le (by simp [numL, hostsL])] at hJ
      exact hJ
    clear hJ F3 N3 F9 N9
    dsimp only
    refine wpG_execs_cons (wpG_any ?_)
    have hbl : (0 : Int) < ((bs ^ lo : Nat) : Int) := Int.ofNat_lt.mpr (Nat.pow_pos G.b0)
    have ebl : (bs : Int) ^ ((lo : Int)).toNat = ((bs ^ lo : Nat) : Int) := by rw [Int.toNat_natCast]; push_cast; rfl
    repeat' (first | (k_unfold; (try dsimp only)) | (k_end; wrow_close) | ((fail_if_success (with_reducible show wpAny _ _ (binaryOp Operator.Mod _ _) _ _ _)); dsimp only; walk1) | ((fail_if_success (with_reducible show wpAny _ _ (binaryOp Operator.Mod _ _) _ _ _)); walk1) | (k_end; dsimp only; k_unfold; (try dsimp only)))
    rw [ebl]
    refine mod_int' (by omega) ?_
    repeat' (first | (k_unfold; (try dsimp only)) | (k_end; wrow_close) | ((fail_if_success (with_reducible show wpAny _ _ (storeName _ _ _) _ _ _)); dsimp only; walk1) | ((fail_if_success (with_reducible show wpAny _ _ (storeName _ _ _) _ _ _)); walk1) | (k_end; dsimp only; k_unfold; (try dsimp only)))
    refine st_int (y := ((leastN c1 bs lo : Nat) : Int)) ?_ ?_
    · show (c1 : Int).fmod ((bs ^ lo : Nat) : Int) = _
      rw [Int.fmod_eq_emod_of_nonneg _ (by omega)]; unfold leastN; push_cast; rfl
    repeat' (first | (k_unfold; (try dsimp only)) | (k_end; wrow_close) | (dsimp only; walk1) | (walk1) | (k_end; dsimp only; k_unfold; (try dsimp only)))
    refine wpG_execs_cons (wpG_any ?_)
    repeat' (first | (k_unfold; (try dsimp only)) | (k_end; wrow_close) | ((fail_if_success (with_reducible show wpAny _ _ (PySem.eval (Expr.ListComp _ _ _ _) _) _ _ _)); dsimp only; walk1) | ((fail_if_success (with_reducible show wpAny _ _ (PySem.eval (Expr.ListComp _ _ _ _) _) _ _ _)); walk1) | (k_end; dsimp only; k_unfold; (try dsimp only)))
    have hzl : zs.length ≤ 18 := by rw [hds.length]; exact Nat.le_trans (List.length_filter_le _ _) (by simp [numL])
    refine ListComp_G (by k_asm) (by with_unfolding_all rfl) (by decide) (by rfl) (by decide) ?_
    repeat' (first | (k_unfold; (try dsimp only)) | (k_end; wrow_close) | (dsimp only; walk1) | (walk1) | (k_end; dsimp only; k_unfold; (try dsimp only)))
    refine GSrc.list (ax := DD) (its := zs.toArray) (by decide) (by rfl) (by rfl) (by k_asm) (by k_asm) (by is_list) (by rw [List.size_toArray]; unfold sizeLine; omega) (fun i us => IntsAre us (((dueL fr sz).take i).filter (leftB c1 bs lo))) .nil ?stepF ?finF
    case stepF =>
      intro g i us v C D oC m3 h5 tk5 E3 hi hJ hx hC F3 N3
      obtain ⟨a, ha', tA, rfl⟩ := (hds.areOf).get i v (by simpa using hi)
      repeat' (first | (k_unfold; (try dsimp only)) | (k_end; wrow_close) | ((fail_if_success (with_reducible show wpAny _ _ (binaryOp Operator.Mod _ _) _ _ _)); dsimp only; walk1) | ((fail_if_success (with_reducible show wpAny _ _ (binaryOp Operator.Mod _ _) _ _ _)); walk1) | (k_end; dsimp only; k_unfold; (try dsimp only)))
      rw [ebl]
      refine mod_int' (by omega) ?_
      repeat' (first | (k_unfold; (try dsimp only)) | (k_end; wrow_close) | (dsimp only; walk1) | (walk1) | (k_end; dsimp only; k_unfold; (try dsimp only)))
      · exact ⟨_, _, rfl, fun _ _ e => e, filt_snoc ha' (by unfold leftB; rw [beq_iff_eq]; assumption) hJ⟩
      · exact ⟨_, _, rfl, fun _ _ e => e, filt_skip ha' (by unfold leftB; rw [beq_eq_false_iff_ne]; assumption) hJ⟩
    case finF =>
      intro g DL h5 tk5 us2 F3 N3 o5 hJ
      replace o5 : @LT.lt Nat _ (L' + 1 + 1 + 1 + 1 + 1 + 1 + 1 + 1) DL := o5 (_, o1) (by k_mem)
      have hls : IntsAre us2 (leftL fr sz c1 bs lo) := by
        rw [List.size_toArray, List.take_of_length_le (show (dueL fr sz).length ≤ zs.length from Nat.le_of_eq hds.length.symm)] at hJ
        exact hJ
      clear hJ
      repeat' (first | (k_unfold; (try dsimp only)) | (k_end; wrow_close) | (dsimp only; walk1) | (walk1) | (k_end; dsimp only; k_unfold; (try dsimp only)))
      refine wpG_execs_cons (wpG_any ?_)
      repeat' (first | (k_unfold; (try dsimp only)) | (k_end; wrow_close) | ((fail_if_success (with_reducible show wpAny _ _ (subscriptTail _ _ _ _) _ _ _)); dsimp only; walk1) | ((fail_if_success (with_reducible show wpAny _ _ (subscriptTail _ _ _ _) _ _ _)); walk1) | (k_end; dsimp only; k_unfold; (try dsimp only)))
      rename News _ _ _ _ => N9
      obtain ⟨th1, hx1⟩ := strs_get hvh2 1 (hostF (rowF to pl 1)) (by simp)
      refine item_list ⟨_, (N9 (lh2, _) (by k_mem)).1, rfl, _, rfl⟩ (by decide) (by decide) (by show vh2.toArray[1]? = _; simpa using hx1) ?_
      repeat' (first | (k_unfold; (try dsimp only)) | (k_end; wrow_close) | ((fail_if_success (with_reducible show wpAny _ _ (call (Value.ref 130) _) _ _ _)); dsimp only; walk1) | ((fail_if_success (with_reducible show wpAny _ _ (call (Value.ref 130) _) _ _ _)); walk1) | (k_end; dsimp only; k_unfold; (try dsimp only)))
      rename Fr _ _ _ _ => F9
      rw [show (pl : Int) - (lo : Int) = ((pl - lo : Nat) : Int) from (Int.ofNat_sub G.ar.l2).symm]
      refine dom_ok (n := pl - lo) (Cx.push B' F9 X' T' rfl rfl rfl) (by show dp0 + 1 < 940; exact dlt hdp (by decide)) (by show un0 + 3 < 8800; exact ult hu (by decide)) P.p2.n16 P.p2.g P.p2.up ?_
      intro td h6 tk6 hK
      have F8 := F9.keeps hK
      have N8 := N9.grown hK
      clear F9 N9 hK
      dsimp only
      repeat' (first | (k_unfold; (try dsimp only)) | (k_end; wrow_close) | ((fail_if_success (with_reducible show wpAny _ _ (call (Value.ref 156) _) _ _ _)); dsimp only; walk1) | ((fail_if_success (with_reducible show wpAny _ _ (call (Value.ref 156) _) _ _ _)); walk1) | (k_end; dsimp only; k_unfold; (try dsimp only)))
      rename News _ _ _ _ => N9
      rename Fr _ _ _ _ => F9
      refine parted_ok (ns := dueL fr sz) (hs := endsL to pl fr sz) (ds := leftL fr sz c1 bs lo) (Cx.push B' F9 X' T' rfl rfl rfl) (by show dp0 + 1 < 920; exact dlt hdp (by decide)) (by show un0 + 3 < 8700; exact ult hu (by decide)) ⟨_, (N9 (DD, _) (by k_mem)).1, rfl, _, rfl⟩ hds ⟨_, (N9 (DE, _) (by k_mem)).1, rfl, _, rfl⟩ hes ⟨_, (N9 (DL, _) (by k_mem)).1, rfl, _, rfl⟩ hls
        P.len (Nat.le_trans (List.length_filter_le _ _) (by simp [numL])) (Nat.le_trans (List.length_filter_le _ _) (Nat.le_trans (List.length_filter_le _ _) (by simp [numL]))) P.q2.d1 P.q2.d2 P.q2.d3 P.q2.d4 P.q2.g ?_
      intro h7 tk7 hK
      have F8 := F9.keeps hK
      have N8 := N9.grown hK
      clear F9 N9 hK
      have hr2 := P.r2
      unfold parOk domF at hr2
      rw [hr2]
      clear hr2
      repeat' (first | (k_unfold; (try dsimp only)) | (k_end; wrow_close) | (dsimp only; walk1) | (walk1) | (k_end; dsimp only; k_unfold; (try dsimp only)))
      rename News _ _ _ _ => N9
      rename Fr _ _ _ _ => F9
      dsimp only
      exact law_E hp0 hdp hu B' X' T' (by unfold lawM5 lawM4 lawM3 lawM2 lawM1; exact F9) (news_drop34 N9) (by assumption) (by assumption) d3 d4 d5 d6 d7 d8 hcs hns hds hls hvh1 hvh2 G hfs hts hfo hto h
end
section
local macro_rules | `(tactic| omega) => `(tactic| first | lia | omega (config := {}))
open PySem PySem.W PyProof.Rows PySem.Calls
set_option maxRecDepth 100000
set_option maxHeartbeats 8000000

theorem law_C {w : World} {bd : List Stmt} {sc : Scope} (hp : partOf (hd.heap_39 w.params) 168 = some (bd, sc)) {dp0 un0 : Nat} {fr0 : Option (List Env)} {s : Shared} {Q E : Value → Shared → Prop} {h₀ bse : Heap} {outer : List Env} {mg mb : Str → Option Value} {loose : List Str} {mean : ExcName → Option Value}
   {L' DN D1 D2 l : Addr} {vt vx : Option Value} {ys ws : List Value} {z0 z1 z2 z3 wd bs lo mi hg pl sz c0 c1 c2 fr : Nat} {o1 o2 o3 o4 o5 o6 o7 o8 : Obj} {x1 x2 x3 : Option Value} {t1 t2 t3 t4 t5 t6 t7 t8 : Tok}
   (hdp : dp0 < 400) (hu : un0 < 3000) (B' : Below ⟨none, dp0, fr0, some [], un0⟩ bse outer h₀) (X' : (hd.heap_39 w.params).In h₀) (T' : Top topProg loose mean mg mb h₀) (hlt : @LT.lt Nat _ 66 L') (hD2 : @LT.lt Nat _ (L' + 1 + 1 + 1 + 1 + 1 + 1 + 1 + 1) D2) (hDN : @LT.lt Nat _ D2 DN)
   (F' : Fr h₀ L' s.heap (lawM3 DN D1 l vt vx wd mi hg pl t1 t2 t3 t4))
   (N' : News h₀ L' s.heap [(DN, LCg.lst ws), (D2, LCg.lst ys), (L' + 1 + 1 + 1 + 1 + 1 + 1 + 1 + 1, o1), (L' + 1 + 1 + 1 + 1 + 1 + 1 + 1, o2), (L' + 1 + 1 + 1 + 1 + 1 + 1, o3), (L' + 1 + 1 + 1 + 1 + 1, o4), (L' + 1 + 1 + 1 + 1, o5), (L' + 1 + 1 + 1, o6), (L' + 1 + 1, o7), (L' + 1, o8), (66, tabObj #[]), (59, tabObj #[])])
   (d1 : o1.data = .cell x1) (d2 : o2.data = .cell x2) (d3 : o3.data = .cell x3) (d4 : o4.data = .cell (some (.int (fr : Int) t5))) (d5 : o5.data = .cell (some (.ref D2))) (d6 : o6.data = .cell (some (.int (sz : Int) t6))) (d7 : o7.data = .cell (some (.int (lo : Int) t7))) (d8 : o8.data = .cell (some (.int (bs : Int) t8)))
   (hcs : IntsAre ys [(c0 : Int), (c1 : Int), (c2 : Int)]) (hns : IntsAre ws (numL fr sz)) (G : Cfg z0 z1 z2 z3 wd bs lo mi hg pl sz c0 c1 c2 fr)
   (h : ∀ h' tk', (∀ b o, h₀.get? b = some o → h'.get? b = some o) → GrownAt 66 h' → GrownAt 59 h' → Q (.bool true) { s with heap := h', toks := tk' }) :
   wpG (model Challenge.rw_zo0018_01.row.prog w) (Around.deeper ⟨none, dp0, fr0, some [], un0⟩ (envOfC (Str.ofString "law") sc L' 168 (.ref 167))) (execs (bd.drop 12) (envOfC (Str.ofString "law") sc L' 168 (.ref 167)))
     (fun fl s' => Q (match fl with | .ret v => v | _ => .none) s') (fun e s' => wpAny (model Challenge.rw_zo0018_01.row.prog w) (Around.deeper ⟨none, dp0, fr0, some [], un0⟩ (envOfC (Str.ofString "law") sc L' 168 (.ref 167))) (leaving (envOfC (Str.ofString "law") sc L' 168 (.ref 167)) e) (fun _ s'' => E e s'') (fun e' s'' => E e' s'') s') s := by
  have hp0 := hp
  with_unfolding_all (change some (_, _) = some (bd, sc) at hp)
  injection hp with hp
  injection hp with h1 h2
  subst h1 h2
  dsimp only [List.drop]
  let mm : Str → Option Value := lawM3 DN D1 l vt vx wd mi hg pl t1 t2 t3 t4
  replace F' : Fr h₀ L' s.heap mm := F'
  revert X'; k_fill; intro X'
  have hcode : CodeHd h₀ 70 66 := codeHd_of_K X' (by kernel_rfl)
  refine wpG_execs_cons (wpG_any ?_)
  repeat' (first | (k_unfold; (try dsimp only)) | (k_end; wrow_close) | ((fail_if_success (with_reducible show wpAny _ _ (call (Value.ref 113) _) _ _ _)); dsimp only; walk1) | ((fail_if_success (with_reducible show wpAny _ _ (call (Value.ref 113) _) _ _ _)); walk1) | (k_end; dsimp only; k_unfold; (try dsimp only)))
  rename News _ _ _ _ => N9
  rename Fr _ _ _ _ => F9
  rename IntsAre _ (_ ++ _) => hI9
  have z66 := N9 (66, tabObj #[]) (by k_mem)
  have z59 := N9 (59, tabObj #[]) (by k_mem)
  have zD := N9 _ (.head _)
  have F66 := fr_without F9 z66.2.1 z66.2.2
  have F59 := fr_without F66 z59.2.1 z59.2.2
  have hw := G.wdpl
  have A := G.ar
  refine figures_ok (h₀ := without (without _ 66) 59) (ds := numsL fr sz c0 c1 c2) (Cx.push B' F59 X' T' rfl rfl rfl) (fun b o e => without_keep b o (without_keep b o e)) (by rw [without_size, without_size]) (by show dp0 + 1 < 600; exact dlt hdp (by decide)) (by show un0 + 3 < 5000; exact ult hu (by decide)) ?hn ?hall ⟨_, (without_other ?n59).trans ((without_other ?n66).trans zD.1), rfl, _, rfl⟩ hI9 (by rw [numsL_length]; decide) G.wd2 (by omega) hw.1 G.digs G.pos ?_
  case hn =>
    intro p hp
    rcases List.mem_cons.mp hp with rfl | hp
    · exact ⟨z66.1, (without_other (by decide)).trans (without_self _ _)⟩
    rcases List.mem_cons.mp hp with rfl | hp
    · exact ⟨z59.1, without_self _ _⟩
    · cases hp
  case hall => exact fun b o h1 h2 e => (without_other h2).trans ((without_other h1).trans e)
  case n59 => k_ne
  case n66 => k_ne
  intro tf hf tkf hsf gp1 gp2
  obtain ⟨p1, gp1⟩ := gp1
  obtain ⟨p2, gp2⟩ := gp2
  have F1 : Fr h₀ L' hf _ := ⟨F9.ns.at' fun o e => hsf _ o (Ne.symm z66.2.1) (Ne.symm z59.2.1) e, fun b o e => hsf b o (fun q => by rw [q, z66.2.2] at e; cases e) (fun q => by rw [q, z59.2.2] at e; cases e) (F9.keep b o e), F9.above⟩
  have N1 : News h₀ L' hf [(DN, LCg.lst ws), (D2, LCg.lst ys), (L' + 1 + 1 + 1 + 1 + 1 + 1 + 1 + 1, o1), (L' + 1 + 1 + 1 + 1 + 1 + 1 + 1, o2), (L' + 1 + 1 + 1 + 1 + 1 + 1, o3), (L' + 1 + 1 + 1 + 1 + 1, o4), (L' + 1 + 1 + 1 + 1, o5), (L' + 1 + 1 + 1, o6), (L' + 1 + 1, o7), (L' + 1, o8), (66, tabObj p1), (59, tabObj p2)] := fun p hp => by
    rcases List.mem_append.mp (show p ∈ [(DN, LCg.lst ws), (D2, LCg.lst ys), (L' + 1 + 1 + 1 + 1 + 1 + 1 + 1 + 1, o1), (L' + 1 + 1 + 1 + 1 + 1 + 1 + 1, o2), (L' + 1 + 1 + 1 + 1 + 1 + 1, o3), (L' + 1 + 1 + 1 + 1 + 1, o4), (L' + 1 + 1 + 1 + 1, o5), (L' + 1 + 1 + 1, o6), (L' + 1 + 1, o7), (L' + 1, o8)] ++ [(66, tabObj p1), (59, tabObj p2)] from hp) with hp | hp
    case inr =>
      rcases List.mem_cons.mp hp with rfl | hp
      · exact ⟨gp1, z66.2⟩
      rcases List.mem_cons.mp hp with rfl | hp
      · exact ⟨gp2, z59.2⟩
      · cases hp
    have hm : p ∈ [(DN, LCg.lst ws), (D2, LCg.lst ys), (L' + 1 + 1 + 1 + 1 + 1 + 1 + 1 + 1, o1), (L' + 1 + 1 + 1 + 1 + 1 + 1 + 1, o2), (L' + 1 + 1 + 1 + 1 + 1 + 1, o3), (L' + 1 + 1 + 1 + 1 + 1, o4), (L' + 1 + 1 + 1 + 1, o5), (L' + 1 + 1 + 1, o6), (L' + 1 + 1, o7), (L' + 1, o8), (66, tabObj #[]), (59, tabObj #[])] := List.mem_append_left [(66, tabObj #[]), (59, tabObj #[])] hp
    have z := N9 p (.tail _ hm)
    refine ⟨hsf _ _ ?_ ?_ z.1, z.2⟩ <;>
      (simp only [List.mem_cons, List.not_mem_nil, or_false] at hp
       rcases hp with rfl | rfl | rfl | rfl | rfl | rfl | rfl | rfl | rfl | rfl <;> k_ne)
  clear F9 N9 z66 z59 zD F66 F59 hI9 hsf
  dsimp only
  repeat' (first | (k_unfold; (try dsimp only)) | (k_end; wrow_close) | (dsimp only; walk1) | (walk1) | (k_end; dsimp only; k_unfold; (try dsimp only)))
  have hfs : (figF wd pl (numsL fr sz c0 c1 c2)).size = 21 * pl := G.figSize
  generalize hfo : figF wd pl (numsL fr sz c0 c1 c2) = fo at *
  refine wpG_execs_cons (wpG_Assign (CallG ?_) ?_)
  repeat' (first | (k_unfold; (try dsimp only)) | (k_end; wrow_close) | (dsimp only; walk1) | (walk1) | (k_end; dsimp only; k_unfold; (try dsimp only)))
  obtain ⟨o6f, fd6, hl6, hd6⟩ := fn_of (K := hd.heap_39 w.params) (a := 106) (by kernel_rfl)
  refine callDefG hd6 ?_ (by rfl)
  repeat' (first | (k_unfold; (try dsimp only)) | (k_end; wrow_close) | (dsimp only; walk1) | (walk1) | (k_end; dsimp only; k_unfold; (try dsimp only)))
  · exact (Frag.In.keeps X' (Fr.keep (by k_asm))) _ _ hl6
  rename News _ _ _ _ => N9
  rename Fr _ _ _ _ => F9
  refine swap_ok (n := 21) (k := pl) (Cx.push B' F9 X' T' rfl rfl rfl) (by show dp0 + 1 < 940; exact dlt hdp (by decide)) (by show un0 + 3 < 8800; exact ult hu (by decide)) rfl hfs (by decide) A.p0 A.p8 (A.big hfs) ?_
  intro tt ht tkt hK
  have F8 := F9.keeps hK
  have N8 := N9.grown hK
  clear F9 N9 hK
  have hts : (swOut fo pl 21).size = 21 * pl := by rw [swOut_size]; exact hfs
  generalize hto : swOut fo pl 21 = to at *
  dsimp only
  refine wpG_any ?_
  repeat' (first | (k_unfold; (try dsimp only)) | (k_end; wrow_close) | (dsimp only; walk1) | (walk1) | (k_end; dsimp only; k_unfold; (try dsimp only)))
  refine wpG_execs_cons (wpG_any ?_)
  repeat' (first | (k_unfold; (try dsimp only)) | (k_end; wrow_close) | (dsimp only; walk1) | (walk1) | (k_end; dsimp only; k_unfold; (try dsimp only)))
  refine wpG_execs_cons (wpG_any ?_)
  repeat' (first | (k_unfold; (try dsimp only)) | (k_end; wrow_close) | (dsimp only; walk1) | (walk1) | (k_end; dsimp only; k_unfold; (try dsimp only)))
  rename News _ _ _ _ => N9
  rename Fr _ _ _ _ => F9
  refine hosts_ok (n := 21) (k := pl) (Cx.push B' F9 X' T' rfl rfl rfl) (by show dp0 + 1 < 940; exact dlt hdp (by decide)) (by show un0 + 3 < 8800; exact ult hu (by decide)) hfs A.p0 A.p8 (A.big hfs) ?_
  intro lh1 vh1 hh1 tkh1 hK hn hgx hvh1
  obtain ⟨eph1, hgx⟩ := hgx
  have F8 := F9.keeps hK
  have N8 := News.made F9 (N9.grown hK) hn hgx
  have O1 := News.madeOffN N9 hn
  simp only [List.forall_mem_cons, List.not_mem_nil, false_implies, implies_true, and_true] at O1
  have O1a := O1.2.2.1
  have O1b := O1.2.2.2.1
  have O1c := O1.2.2.2.2.1
  clear O1
  clear F9 N9 hK hn hgx
  dsimp only
  repeat' (first | (k_unfold; (try dsimp only)) | (k_end; wrow_close) | (dsimp only; walk1) | (walk1) | (k_end; dsimp only; k_unfold; (try dsimp only)))
  refine wpG_execs_cons (wpG_any ?_)
  repeat' (first | (k_unfold; (try dsimp only)) | (k_end; wrow_close) | (dsimp only; walk1) | (walk1) | (k_end; dsimp only; k_unfold; (try dsimp only)))
  rename News _ _ _ _ => N9
  rename Fr _ _ _ _ => F9
  refine hosts_ok (n := 21) (k := pl) (Cx.push B' F9 X' T' rfl rfl rfl) (by show dp0 + 1 < 940; exact dlt hdp (by decide)) (by show un0 + 3 < 8800; exact ult hu (by decide)) hts A.p0 A.p8 (A.big hts) ?_
  intro lh2 vh2 hh2 tkh2 hK hn hgx hvh2
  obtain ⟨eph2, hgx⟩ := hgx
  have F8 := F9.keeps hK
  have N8 := News.made F9 (N9.grown hK) hn hgx
  have O2 := News.madeOffN N9 hn
  simp only [List.forall_mem_cons, List.not_mem_nil, false_implies, implies_true, and_true] at O2
  have O2a := O2.2.2.2.1
  have O2b := O2.2.2.2.2.1
  have O2c := O2.2.2.2.2.2.1
  clear O2
  clear F9 N9 hK hn hgx
  dsimp only
  repeat' (first | (k_unfold; (try dsimp only)) | (k_end; wrow_close) | (dsimp only; walk1) | (walk1) | (k_end; dsimp only; k_unfold; (try dsimp only)))
  refine wpG_execs_cons (wpG_any ?_)
  repeat' (first | (k_unfold; (try dsimp only)) | (k_end; wrow_close) | ((fail_if_success (with_reducible show wpAny _ _ (PySem.eval (Expr.ListComp _ _ _ _) _) _ _ _)); dsimp only; walk1) | ((fail_if_success (with_reducible show wpAny _ _ (PySem.eval (Expr.ListComp _ _ _ _) _) _ _ _)); walk1) | (k_end; dsimp only; k_unfold; (try dsimp only)))
  have hwl : ws.length = 18 := by rw [hns.length]; simp [numL]
  refine ListComp_G (by k_asm) (by with_unfolding_all rfl) (by decide) (by rfl) (by decide) ?_
  repeat' (first | (k_unfold; (try dsimp only)) | (k_end; wrow_close) | (dsimp only; walk1) | (walk1) | (k_end; dsimp only; k_unfold; (try dsimp only)))
  refine GSrc.list (ax := DN) (its := ws.toArray) (by decide) (by rfl) (by rfl) (by k_asm) (by k_asm) (by is_list) (by rw [List.size_toArray, hwl]; decide) (fun i zs => IntsAre zs (((numL fr sz).take i).filter (dueB fr))) .nil ?stepD ?finD
  case stepD =>
    intro g i zs v C D oC m3 h3 tk3 E3 hi hJ hx hC F3 N3
    obtain ⟨a, ha, tA, rfl⟩ := (hns.areOf).get i v (by simpa using hi)
    repeat' (first | (k_unfold; (try dsimp only)) | (k_end; wrow_close) | (dsimp only; walk1) | (walk1) | (k_end; dsimp only; k_unfold; (try dsimp only)))
    · exact ⟨_, _, rfl, fun _ _ e => e, filt_snoc ha (by unfold dueB; rw [beq_iff_eq]; assumption) hJ⟩
    · exact ⟨_, _, rfl, fun _ _ e => e, filt_skip ha (by unfold dueB; rw [beq_eq_false_iff_ne]; assumption) hJ⟩
  case finD =>
    intro g DD h3 tk3 zs F3 N3 o3 hJ
    simp only [List.forall_mem_cons, List.not_mem_nil, false_implies, implies_true, and_true] at o3
    have o3z := o3.2.2.2.2.1
    have hds : IntsAre zs ((numL fr sz).filter (dueB fr)) := by
      rw [List.size_toArray, hwl, List.take_of_length_le (by simp [numL])] at hJ
      exact hJ
    clear hJ
    repeat' (first | (k_unfold; (try dsimp only)) | (k_end; wrow_close) | (dsimp only; walk1) | (walk1) | (k_end; dsimp only; k_unfold; (try dsimp only)))
    rename News _ _ _ _ => NN
    rename Fr _ _ _ _ => FF
    exact law_D hp0 hdp hu B' X' T' hlt (by unfold lawM4 lawM3 lawM2 lawM1; exact FF) NN ⟨o3.1, o3.2.1, o3.2.2.1, o3.2.2.2.1, o3.2.2.2.2.1⟩ hD2 hDN ⟨O1a, O1b⟩ ⟨O2a, O2b⟩ d1 d2 (by assumption) d4 d5 d6 d7 d8 hcs hns hds hvh1 hvh2 G hfs hts hfo hto h
end
section
open PySem PySem.W PyProof.Rows PySem.Calls
set_option maxRecDepth 100000
set_option maxHeartbeats 8000000

theorem law_N {w : World} {bd : List Stmt} {sc : Scope} (hp : partOf (hd.heap_39 w.params) 168 = some (bd, sc)) {dp0 un0 : Nat} {fr0 : Option (List Env)} {s : Shared} {Q E : Value → Shared → Prop} {h₀ bse : Heap} {outer : List Env} {mg mb : Str → Option Value} {loose : List Str} {mean : ExcName → Option Value}
   {L' D1 D2 l : Addr} {vt vx : Option Value} {vs2 ys : List Value} {k2 : Nat} {z0 z1 z2 z3 wd bs lo mi hg pl sz c0 c1 c2 fr : Nat} {o1 o2 o3 o4 o5 o6 o7 o8 : Obj} {x1 x2 x3 : Option Value} {t1 t2 t3 t4 t5 t6 t7 t8 : Tok}
   (hdp : dp0 < 400) (hu : un0 < 3000) (B' : Below ⟨none, dp0, fr0, some [], un0⟩ bse outer h₀) (X' : (hd.heap_39 w.params).In h₀) (T' : Top topProg loose mean mg mb h₀) (hlt : @LT.lt Nat _ 66 L') (hD1 : @LT.lt Nat _ (L' + 1 + 1 + 1 + 1 + 1 + 1 + 1 + 1) D1) (hD2 : @LT.lt Nat _ D1 D2)
   (F' : Fr h₀ L' s.heap (lawM2 D1 l vt vx wd mi hg pl t1 t2 t3 t4))
   (N' : News h₀ L' s.heap [(D2, LCg.lst ys), (D1, PySem.W.listOf vs2.toArray k2), (L' + 1 + 1 + 1 + 1 + 1 + 1 + 1 + 1, o1), (L' + 1 + 1 + 1 + 1 + 1 + 1 + 1, o2), (L' + 1 + 1 + 1 + 1 + 1 + 1, o3), (L' + 1 + 1 + 1 + 1 + 1, o4), (L' + 1 + 1 + 1 + 1, o5), (L' + 1 + 1 + 1, o6), (L' + 1 + 1, o7), (L' + 1, o8), (66, tabObj #[]), (59, tabObj #[])])
   (d1 : o1.data = .cell x1) (d2 : o2.data = .cell x2) (d3 : o3.data = .cell x3) (d4 : o4.data = .cell (some (.int (fr : Int) t5))) (d5 : o5.data = .cell (some (.ref D2))) (d6 : o6.data = .cell (some (.int (sz : Int) t6))) (d7 : o7.data = .cell (some (.int (lo : Int) t7))) (d8 : o8.data = .cell (some (.int (bs : Int) t8)))
   (hcs : IntsAre ys [(c0 : Int), (c1 : Int), (c2 : Int)]) (hsz2 : 2 ≤ sz ∧ sz ≤ 4096) (G : Cfg z0 z1 z2 z3 wd bs lo mi hg pl sz c0 c1 c2 fr)
   (h : ∀ h' tk', (∀ b o, h₀.get? b = some o → h'.get? b = some o) → GrownAt 66 h' → GrownAt 59 h' → Q (.bool true) { s with heap := h', toks := tk' }) :
   wpG (model Challenge.rw_zo0018_01.row.prog w) (Around.deeper ⟨none, dp0, fr0, some [], un0⟩ (envOfC (Str.ofString "law") sc L' 168 (.ref 167))) (execs (bd.drop 11) (envOfC (Str.ofString "law") sc L' 168 (.ref 167)))
     (fun fl s' => Q (match fl with | .ret v => v | _ => .none) s') (fun e s' => wpAny (model Challenge.rw_zo0018_01.row.prog w) (Around.deeper ⟨none, dp0, fr0, some [], un0⟩ (envOfC (Str.ofString "law") sc L' 168 (.ref 167))) (leaving (envOfC (Str.ofString "law") sc L' 168 (.ref 167)) e) (fun _ s'' => E e s'') (fun e' s'' => E e' s'') s') s := by
  have hp0 := hp
  with_unfolding_all (change some (_, _) = some (bd, sc) at hp)
  injection hp with hp
  injection hp with h1 h2
  subst h1 h2
  dsimp only [List.drop]
  let mm : Str → Option Value := lawM2 D1 l vt vx wd mi hg pl t1 t2 t3 t4
  replace F' : Fr h₀ L' s.heap mm := F'
  revert X'; k_fill; intro X'
  have hcode : CodeHd h₀ 70 66 := codeHd_of_K X' (by kernel_rfl)
  refine wpG_execs_cons (wpG_any ?_)
  refine AssignComp_L F' rfl (by with_unfolding_all rfl) (by with_unfolding_all rfl) (by decide) rfl (by decide) rfl rfl ?_
  repeat' (first | (k_unfold; (try dsimp only)) | (k_end; wrow_close) | (dsimp only; walk1) | (walk1) | (k_end; dsimp only; k_unfold; (try dsimp only)))
  refine GSrc.range (n := 18) (by decide) (by rfl) (by rfl) (by k_asm) (by k_asm) (by k_asm) (by decide) (by decide) (by decide)
    (fun i ys => IntsAre ys ((numL fr sz).take i)) .nil ?stepN ?finN
  case stepN =>
    intro g i ys t C D oC m2 h3 tk3 E3 hi hJ hx hC F3 N3
    repeat' (first | (k_unfold; (try dsimp only)) | (k_end; wrow_close) | (dsimp only; walk1) | (walk1) | (k_end; dsimp only; k_unfold; (try dsimp only)))
    refine ⟨_, _, rfl, fun _ _ e => e, ints_snoc ?_ hJ⟩
    rw [numL, List.getElem?_map, List.getElem?_range hi]
    rw [show (0 + (i : Int) * 1) = (i : Int) from by omega]
    rfl
  case finN =>
    intro g DN h4 tk4 ys4 F4 N4 o4' hJ h5 tk5 F5 N5
    simp only [List.forall_mem_cons, List.not_mem_nil, false_implies, implies_true, and_true] at o4'
    have hns : IntsAre ys4 (numL fr sz) := by
      rw [List.take_of_length_le (by simp [numL])] at hJ
      exact hJ
    have N6 : News h₀ L' h5 (_ :: _ :: _) := fun x hx => by
      rcases List.mem_cons.mp hx with rfl | hx
      · exact N5 _ (.head _)
      rcases List.mem_cons.mp hx with rfl | hx
      · exact N5 _ (.tail _ (.head _))
      · exact N5 _ (.tail _ (.tail _ (.tail _ hx)))
    dsimp only
    exact law_C hp0 hdp hu B' X' T' hlt (Nat.lt_trans hD1 hD2) o4'.1 (by unfold lawM3 lawM2 lawM1; exact F5) N6 d1 d2 d3 d4 d5 d6 d7 d8 hcs hns G h
end
section
local macro_rules | `(tactic| omega) => `(tactic| first | lia | omega (config := {}))
open PySem PySem.W PyProof.Rows PySem.Calls
set_option maxRecDepth 100000
set_option maxHeartbeats 8000000

section
variable {z0 z1 z2 z3 wd bs lo mi hg pl sz c0 c1 c2 fr : Nat} (G : Cfg z0 z1 z2 z3 wd bs lo mi hg pl sz c0 c1 c2 fr)
include G
theorem Cfg.iq : (4 : Int).fdiv (wd : Int) = ((4 / wd : Nat) : Int) := by rw [Int.fdiv_eq_ediv_of_nonneg _ (Int.natCast_nonneg _)]; push_cast; rfl
theorem Cfg.iwd : 1 + (z0 : Int).fmod 2 = (wd : Int) := by rw [Int.fmod_eq_emod_of_nonneg _ (by decide), G.hwd]; push_cast; rfl
theorem Cfg.ibs : (2 : Int) ^ ((wd : Int)).toNat = (bs : Int) := by rw [Int.toNat_natCast, G.hbs]; push_cast; rfl
theorem Cfg.ilo : ((z0 : Int).fdiv 2).fmod ((4 : Int).fdiv (wd : Int) + 1) = (lo : Int) := by
  rw [G.iq, G.hlo, Int.fdiv_eq_ediv_of_nonneg _ (by decide), Int.fmod_eq_emod_of_nonneg _ (show (0 : Int) ≤ ((4 / wd : Nat) : Int) + 1 from Int.natCast_nonneg (4 / wd + 1))]; push_cast; rfl
theorem Cfg.imi : (4 : Int).fdiv (wd : Int) - (lo : Int) = (mi : Int) := by
  have h : lo ≤ 4 / wd := by rw [G.hlo]; exact Nat.le_of_lt_succ (Nat.mod_lt _ (Nat.succ_pos _))
  rw [G.iq, G.hmi, Int.ofNat_sub h]
theorem Cfg.ihg : 1 + ((z0 : Int).fdiv 30).fmod 2 = (hg : Int) := by rw [Int.fdiv_eq_ediv_of_nonneg _ (by decide), Int.fmod_eq_emod_of_nonneg _ (by decide), G.hhg]; push_cast; rfl
theorem Cfg.ipl : (lo : Int) + (mi : Int) + (hg : Int) = (pl : Int) := by rw [G.hpl]; push_cast; rfl
theorem Cfg.isz : (bs : Int) ^ ((pl : Int)).toNat = (sz : Int) := by rw [Int.toNat_natCast, G.hsz]; push_cast; rfl
theorem Cfg.ifr : (c0 : Int) - (c0 : Int).fmod 16 = (fr : Int) := by rw [Int.fmod_eq_emod_of_nonneg _ (by decide), G.hfr, Int.ofNat_sub (Nat.mod_le _ _)]; push_cast; rfl
end
theorem law_B {w : World} {bd : List Stmt} {sc : Scope} (hp : partOf (hd.heap_39 w.params) 168 = some (bd, sc)) {dp0 un0 : Nat} {fr0 : Option (List Env)} {s : Shared} {Q E : Value → Shared → Prop} {h₀ bse : Heap} {outer : List Env} {mg mb : Str → Option Value} {loose : List Str} {mean : ExcName → Option Value}
   {L' D1 l : Addr} {vt vx : Option Value} {vs2 : List Value} {k2 : Nat} {z0 z1 z2 z3 wd bs lo mi hg pl sz c0 c1 c2 fr : Nat} {o1 o2 o3 o4 o5 o6 o7 o8 : Obj} {x1 x2 x3 x4 x5 x6 x7 x8 : Option Value}
   (hdp : dp0 < 400) (hu : un0 < 3000) (B' : Below ⟨none, dp0, fr0, some [], un0⟩ bse outer h₀) (X' : (hd.heap_39 w.params).In h₀) (T' : Top topProg loose mean mg mb h₀) (hlt : @LT.lt Nat _ 66 L') (hD1 : @LT.lt Nat _ (L' + 1 + 1 + 1 + 1 + 1 + 1 + 1 + 1) D1)
   (F' : Fr h₀ L' s.heap (lawM1 D1 l vt vx))
   (N' : News h₀ L' s.heap [(D1, PySem.W.listOf vs2.toArray k2), (L' + 1 + 1 + 1 + 1 + 1 + 1 + 1 + 1, o1), (L' + 1 + 1 + 1 + 1 + 1 + 1 + 1, o2), (L' + 1 + 1 + 1 + 1 + 1 + 1, o3), (L' + 1 + 1 + 1 + 1 + 1, o4), (L' + 1 + 1 + 1 + 1, o5), (L' + 1 + 1 + 1, o6), (L' + 1 + 1, o7), (L' + 1, o8), (66, tabObj #[]), (59, tabObj #[])])
   (d1 : o1.data = .cell x1) (d2 : o2.data = .cell x2) (d3 : o3.data = .cell x3) (d4 : o4.data = .cell x4) (d5 : o5.data = .cell x5) (d6 : o6.data = .cell x6) (d7 : o7.data = .cell x7) (d8 : o8.data = .cell x8)
   (hv : IntsAre vs2 [(z0 : Int), (z1 : Int), (z2 : Int), (z3 : Int)])
   (G : Cfg z0 z1 z2 z3 wd bs lo mi hg pl sz c0 c1 c2 fr)
   (h : ∀ h' tk', (∀ b o, h₀.get? b = some o → h'.get? b = some o) → GrownAt 66 h' → GrownAt 59 h' → Q (.bool true) { s with heap := h', toks := tk' }) :
   wpG (model Challenge.rw_zo0018_01.row.prog w) (Around.deeper ⟨none, dp0, fr0, some [], un0⟩ (envOfC (Str.ofString "law") sc L' 168 (.ref 167))) (execs (bd.drop 2) (envOfC (Str.ofString "law") sc L' 168 (.ref 167)))
     (fun fl s' => Q (match fl with | .ret v => v | _ => .none) s') (fun e s' => wpAny (model Challenge.rw_zo0018_01.row.prog w) (Around.deeper ⟨none, dp0, fr0, some [], un0⟩ (envOfC (Str.ofString "law") sc L' 168 (.ref 167))) (leaving (envOfC (Str.ofString "law") sc L' 168 (.ref 167)) e) (fun _ s'' => E e s'') (fun e' s'' => E e' s'') s') s := by
  have hp0 := hp
  with_unfolding_all (change some (_, _) = some (bd, sc) at hp)
  injection hp with hp
  injection hp with h1 h2
  subst h1 h2
  dsimp only [List.drop]
  let mm : Str → Option Value := lawM1 D1 l vt vx
  replace F' : Fr h₀ L' s.heap mm := F'
  revert X'; k_fill; intro X'
  have hcode : CodeHd h₀ 70 66 := codeHd_of_K X' (by kernel_rfl)
  have hwd1 := G.wd2
  have hq : (4 : Int).fdiv (wd : Int) = ((4 / wd : Nat) : Int) := G.iq
  have hq1 : 2 ≤ 4 / wd ∧ 4 / wd ≤ 4 := by rcases (show wd = 1 ∨ wd = 2 by omega) with e | e <;> rw [e] <;> decide
  have A := G.ar
  have hpl6 := A.p6
  have hpl3 := A.p3
  have hlo4 := G.lo4
  have hbs4 := G.bsI
  have hsz2 := G.sz2
  refine wpG_execs_cons (wpG_any ?_)
  repeat' (first | (k_unfold; (try dsimp only)) | (k_end; wrow_close) | ((fail_if_success (with_reducible show wpAny _ _ (storeName _ _ _) _ _ _)); dsimp only; walk1) | ((fail_if_success (with_reducible show wpAny _ _ (storeName _ _ _) _ _ _)); walk1) | (k_end; dsimp only; k_unfold; (try dsimp only)))
  refine st_int (y := (wd : Int)) ?_ ?_
  · exact G.iwd
  repeat' (first | (k_unfold; (try dsimp only)) | (k_end; wrow_close) | (dsimp only; walk1) | (walk1) | (k_end; dsimp only; k_unfold; (try dsimp only)))
  refine wpG_execs_cons (wpG_any ?_)
  repeat' (first | (k_unfold; (try dsimp only)) | (k_end; wrow_close) | ((fail_if_success (with_reducible show wpAny _ _ (storeName _ _ _) _ _ _)); dsimp only; walk1) | ((fail_if_success (with_reducible show wpAny _ _ (storeName _ _ _) _ _ _)); walk1) | (k_end; dsimp only; k_unfold; (try dsimp only)))
  refine st_int (y := (bs : Int)) ?_ ?_
  · exact G.ibs
  repeat' (first | (k_unfold; (try dsimp only)) | (k_end; wrow_close) | (dsimp only; walk1) | (walk1) | (k_end; dsimp only; k_unfold; (try dsimp only)))
  refine wpG_execs_cons (wpG_any ?_)
  repeat' (first | (k_unfold; (try dsimp only)) | (k_end; wrow_close) | ((fail_if_success (with_reducible show wpAny _ _ (storeName _ _ _) _ _ _)); dsimp only; walk1) | ((fail_if_success (with_reducible show wpAny _ _ (storeName _ _ _) _ _ _)); walk1) | (k_end; dsimp only; k_unfold; (try dsimp only)))
  refine st_int (y := (lo : Int)) ?_ ?_
  · exact G.ilo
  repeat' (first | (k_unfold; (try dsimp only)) | (k_end; wrow_close) | (dsimp only; walk1) | (walk1) | (k_end; dsimp only; k_unfold; (try dsimp only)))
  refine wpG_execs_cons (wpG_any ?_)
  repeat' (first | (k_unfold; (try dsimp only)) | (k_end; wrow_close) | ((fail_if_success (with_reducible show wpAny _ _ (storeName _ _ _) _ _ _)); dsimp only; walk1) | ((fail_if_success (with_reducible show wpAny _ _ (storeName _ _ _) _ _ _)); walk1) | (k_end; dsimp only; k_unfold; (try dsimp only)))
  refine st_int (y := (mi : Int)) ?_ ?_
  · exact G.imi
  repeat' (first | (k_unfold; (try dsimp only)) | (k_end; wrow_close) | (dsimp only; walk1) | (walk1) | (k_end; dsimp only; k_unfold; (try dsimp only)))
  refine wpG_execs_cons (wpG_any ?_)
  repeat' (first | (k_unfold; (try dsimp only)) | (k_end; wrow_close) | ((fail_if_success (with_reducible show wpAny _ _ (storeName _ _ _) _ _ _)); dsimp only; walk1) | ((fail_if_success (with_reducible show wpAny _ _ (storeName _ _ _) _ _ _)); walk1) | (k_end; dsimp only; k_unfold; (try dsimp only)))
  refine st_int (y := (hg : Int)) ?_ ?_
  · exact G.ihg
  repeat' (first | (k_unfold; (try dsimp only)) | (k_end; wrow_close) | (dsimp only; walk1) | (walk1) | (k_end; dsimp only; k_unfold; (try dsimp only)))
  refine wpG_execs_cons (wpG_any ?_)
  repeat' (first | (k_unfold; (try dsimp only)) | (k_end; wrow_close) | ((fail_if_success (with_reducible show wpAny _ _ (storeName _ _ _) _ _ _)); dsimp only; walk1) | ((fail_if_success (with_reducible show wpAny _ _ (storeName _ _ _) _ _ _)); walk1) | (k_end; dsimp only; k_unfold; (try dsimp only)))
  refine st_int (y := (pl : Int)) ?_ ?_
  · exact G.ipl
  repeat' (first | (k_unfold; (try dsimp only)) | (k_end; wrow_close) | (dsimp only; walk1) | (walk1) | (k_end; dsimp only; k_unfold; (try dsimp only)))
  refine wpG_execs_cons (wpG_any ?_)
  repeat' (first | (k_unfold; (try dsimp only)) | (k_end; wrow_close) | ((fail_if_success (with_reducible show wpAny _ _ (storeName _ _ _) _ _ _)); dsimp only; walk1) | ((fail_if_success (with_reducible show wpAny _ _ (storeName _ _ _) _ _ _)); walk1) | (k_end; dsimp only; k_unfold; (try dsimp only)))
  refine st_int (y := (sz : Int)) ?_ ?_
  · exact G.isz
  repeat' (first | (k_unfold; (try dsimp only)) | (k_end; wrow_close) | (dsimp only; walk1) | (walk1) | (k_end; dsimp only; k_unfold; (try dsimp only)))
  have hvl : vs2.length = 4 := hv.length
  refine wpG_execs_cons (wpG_any ?_)
  repeat' (first | (k_unfold; (try dsimp only)) | (k_end; wrow_close) | ((fail_if_success (with_reducible show wpAny _ _ (PySem.eval (Expr.ListComp _ _ _ _) _) _ _ _)); dsimp only; walk1) | ((fail_if_success (with_reducible show wpAny _ _ (PySem.eval (Expr.ListComp _ _ _ _) _) _ _ _)); walk1) | (k_end; dsimp only; k_unfold; (try dsimp only)))
  refine ListComp_G (by k_asm) (by with_unfolding_all rfl) (by decide) (by rfl) (by decide) ?_
  repeat' (first | (k_unfold; (try dsimp only)) | (k_end; wrow_close) | ((fail_if_success (with_reducible show wpAny _ _ (subscriptTail _ _ _ _) _ _ _)); dsimp only; walk1) | ((fail_if_success (with_reducible show wpAny _ _ (subscriptTail _ _ _ _) _ _ _)); walk1) | (k_end; dsimp only; k_unfold; (try dsimp only)))
  rename News _ _ _ _ => N9
  rename Fr _ _ _ _ => F9
  refine sl_from (s := ⟨_, _, _, _, _⟩) F9 N9 (by is_list) rfl (by omega) ?_
  intro hA DA FA NA ltA
  simp only [List.forall_mem_cons, List.not_mem_nil, false_implies, implies_true, and_true] at ltA
  clear F9 N9
  dsimp only
  repeat' (first | (k_unfold; (try dsimp only)) | (k_end; wrow_close) | (dsimp only; walk1) | (walk1) | (k_end; dsimp only; k_unfold; (try dsimp only)))
  refine GSrc.list (by decide) (by rfl) (by rfl) FA NA ⟨_, (NA _ (.head _)).1, rfl, _, rfl⟩ (by rw [List.size_toArray, List.length_drop]; unfold sizeLine; omega)
    (fun i ys => IntsAre ys ([(c0 : Int), (c1 : Int), (c2 : Int)].take i)) .nil ?stepA ?finA
  case stepA =>
    intro g i ys v C D oC m2 h3 tk3 E3 hi hJ hx hC F3 N3
    obtain ⟨a, ha, tA, rfl⟩ := ((ints_drop hv 1).areOf).get i v (by simpa using hi)
    clear FA NA ltA
    repeat' (first | (k_unfold; (try dsimp only)) | (k_end; wrow_close) | (dsimp only; walk1) | (walk1) | (k_end; dsimp only; k_unfold; (try dsimp only)))
    refine ⟨_, _, rfl, fun _ _ e => e, ints_snoc ?_ hJ⟩
    have hmod : ∀ z : Nat, (z : Int).fmod (sz : Int) = ((z % sz : Nat) : Int) := fun z => by rw [Int.fmod_eq_emod_of_nonneg _ (by omega)]; push_cast; rfl
    match i, ha with
    | 0, ha => injection ha with ha; subst ha; rw [hmod, ← G.hc0]; rfl
    | 1, ha => injection ha with ha; subst ha; rw [hmod, ← G.hc1]; rfl
    | 2, ha => injection ha with ha; subst ha; rw [hmod, ← G.hc2]; rfl
    | i + 3, ha => simp at ha
  case finA =>
    intro g D2 h3 tk3 ys F3 N3 o3 hJ
    simp only [List.forall_mem_cons, List.not_mem_nil, false_implies, implies_true, and_true] at o3
    have hcs : IntsAre ys [(c0 : Int), (c1 : Int), (c2 : Int)] := by
      rw [List.take_of_length_le (by rw [List.size_toArray, List.length_drop, hvl]; exact Nat.le_refl _)] at hJ
      exact hJ
    clear hJ FA NA ltA
    have N4 := news_drop2 N3
    obtain ⟨-, o3⟩ := o3
    have o3z := o3.2.1
    replace o3 := o3.1
    clear N3
    repeat' (first | (k_unfold; (try dsimp only)) | (k_end; wrow_close) | (dsimp only; walk1) | (walk1) | (k_end; dsimp only; k_unfold; (try dsimp only)))
    refine wpG_execs_cons (wpG_any ?_)
    repeat' (first | (k_unfold; (try dsimp only)) | (k_end; wrow_close) | ((fail_if_success (with_reducible show wpAny _ _ (storeName _ _ _) _ _ _)); dsimp only; walk1) | ((fail_if_success (with_reducible show wpAny _ _ (storeName _ _ _) _ _ _)); walk1) | (k_end; dsimp only; k_unfold; (try dsimp only)))
    refine st_int (y := (fr : Int)) ?_ ?_
    · exact G.ifr
    repeat' (first | (k_unfold; (try dsimp only)) | (k_end; wrow_close) | (dsimp only; walk1) | (walk1) | (k_end; dsimp only; k_unfold; (try dsimp only)))
    rename Fr _ _ _ _ => F9
    rename News _ _ _ _ => N9
    exact law_N hp0 hdp hu B' X' T' hlt hD1 o3 (by unfold lawM2 lawM1; exact F9) N9 d1 d2 d3 (by assumption) (by assumption) (by assumption) (by assumption) (by assumption) hcs ⟨hsz2.1, Nat.le_trans hsz2.2 (by decide)⟩ G h
end
section
open PySem PySem.W PyProof.Rows PySem.Calls
set_option maxRecDepth 100000
set_option maxHeartbeats 8000000

theorem law_A {w : World} {A : Around} {s : Shared} {Q E : Value → Shared → Prop}
   {h₀ : Heap} {l : Addr} {vs : List Value} {ns : List Int}
   (C : Cx w A h₀) (hk₀ : ∀ b o, h₀.get? b = some o → s.heap.get? b = some o) (hz₀ : h₀.objs.size = s.heap.objs.size) (hdp : A.depth < 400) (hu : A.units < 3000) (hg : A.guards = some [])
   (hn₀ : ∀ p ∈ [(66, tabObj #[]), (59, tabObj #[])], s.heap.get? p.1 = some p.2 ∧ h₀.get? p.1 = none)
   (hl : h₀.IsList l vs.toArray) (hi : IntsAre vs ns) (hlen : ns.length ≤ 63)
   (h : ∀ h' tk', (∀ b o, h₀.get? b = some o → h'.get? b = some o) → GrownAt 66 h' → GrownAt 59 h' → Q (.bool true) { s with heap := h', toks := tk' }) :
   wpG (model Challenge.rw_zo0018_01.row.prog w) A (call (.ref 168) [.ref l]) Q E s := by
  have hlt : 66 < s.heap.objs.size := Heap.lt_size (hn₀ _ List.mem_cons_self).1
  have KX := C.X.keeps hk₀
  have hh := C.hh
  revert KX; k_fill; intro KX
  obtain ⟨hd0, dp0, fr0, gd0, un0⟩ := A
  obtain rfl : hd0 = none := hh
  dsimp only at hdp hu
  refine wpG_call ?_
  skip
  k_dflt (refine' enterGCE ?k1 ?kS ?kZ ?kN ?k6 ?k7 ?k8 ?k9 ?kB ?kD ?_ ?c2 ?c3 ?c4; (case k1 => exact C); (case kS => exact hk₀); (case kZ => exact hz₀); (case kN => exact hn₀); (case k6 => k_is); (case k7 => k_is); (case k8 => (simp only [recursionLimit]; omega)); (case k9 => first | exact BindsTo.of_eq rfl | fail "no rule for these arguments"); (case kB => exact rfl); (case kD => decide +kernel); (case c2 => exact rfl); (case c3 => exact rfl); (case c4 => exact rfl); k_whole; intro L' h' tk' cells' bse outer loose mean mg mb B' X' T' F' N' Y' K' S'; clear C KX; (try simp only [List.cons_append, List.nil_append] at N'); (try dsimp only); (try k_fold))
  have hg' : gd0 = some [] := hg
  subst hg'
  obtain ⟨o1, o2, o3, o4, o5, o6, o7, o8, he, d1, d2, d3, d4, d5, d6, d7, d8⟩ := kc_eight Y'
  subst he; clear Y'
  (try simp only [List.cons_append, List.nil_append] at N')
  refine wpG_execs_cons (wpG_any ?_)
  repeat' (first | (k_unfold; (try dsimp only)) | (k_end; wrow_close) | (dsimp only; walk1) | (walk1) | (k_end; dsimp only; k_unfold; (try dsimp only)))
  refine wpG_execs_cons (wpG_any ?_)
  refine For_pair3 h₀ rfl rfl rfl rfl ?_ (by intro _; rfl)
  repeat' (first | (k_unfold; (try dsimp only)) | (k_end; wrow_close) | ((fail_if_success (with_reducible show wpAny _ _ (subscriptTail _ _ _ _) _ _ _)); dsimp only; walk1) | ((fail_if_success (with_reducible show wpAny _ _ (subscriptTail _ _ _ _) _ _ _)); walk1) | (k_end; dsimp only; k_unfold; (try dsimp only)))
  rename News _ _ _ _ => N9
  rename Fr _ _ _ _ => F9
  have hll : l ≠ L' := fun q => by
    obtain ⟨_, e, _⟩ := hl
    have := Nat.lt_of_lt_of_le (Heap.lt_size e) F9.above
    rw [q] at this; exact Nat.lt_irrefl _ this
  refine sl_upto (s := ⟨_, _, _, _, _⟩) F9 N9 (hl.at fun o e => F9.keep _ o e) rfl (by rw [hi.length]; omega) ?_
  intro h2 D F2 N2 lt2
  clear F9
  dsimp only
  repeat' (first | (k_unfold; (try dsimp only)) | (k_end; wrow_close) | ((fail_if_success (with_reducible show wpAny _ _ (call (Value.type _) _) _ _ _)); dsimp only; walk1) | ((fail_if_success (with_reducible show wpAny _ _ (call (Value.type _) _) _ _ _)); walk1) | (k_end; dsimp only; k_unfold; (try dsimp only)))
  rename Fr _ _ _ _ => F9
  rename News _ _ _ _ => N8
  refine enum_K (as := ns.take 24) rfl ⟨_, (N8 _ (.head _)).1, rfl, _, rfl⟩ (ints_take hi 24).areOf (Ne.symm (N8 _ (.head _)).2.1) (fun q hq => Nat.ne_of_lt (lt2 q hq)) F9 (fun p hp => N8 p (.tail _ hp)) ?_
  intro h3 e3 F3 N3 S3
  clear F9 N8 lt2
  dsimp only
  repeat' (first | (k_unfold; (try dsimp only)) | (k_end; wrow_close) | ((fail_if_success (with_reducible show wpAny _ _ (pyIter _) _ _ _)); dsimp only; walk1) | ((fail_if_success (with_reducible show wpAny _ _ (pyIter _) _ _ _)); walk1) | (k_end; dsimp only; k_unfold; (try dsimp only)))
  rename_i D1 hA1 lA hA2
  refine S3 _ rfl (Str.ofString "turn") (Str.ofString "x") _ _ (fun i m nx => ∃ (vs2 : List Value) (c2 : Nat) (ms : List Int) (vt vx : Option Value), nx = [(D1, PySem.W.listOf vs2.toArray c2), (L' + 1 + 1 + 1 + 1 + 1 + 1 + 1 + 1, o1), (L' + 1 + 1 + 1 + 1 + 1 + 1 + 1, o2), (L' + 1 + 1 + 1 + 1 + 1 + 1, o3), (L' + 1 + 1 + 1 + 1 + 1, o4), (L' + 1 + 1 + 1 + 1, o5), (L' + 1 + 1 + 1, o6), (L' + 1 + 1, o7), (L' + 1, o8), (66, tabObj #[]), (59, tabObj #[])] ∧
    IntsAre vs2 ms ∧ ms.length = 4 ∧ (∀ k, 0 ≤ ms.getD k 0) ∧ m = lawM1 D1 l vt vx) ⟨_, _, [4, 19, 22, 9], none, none, rfl, .cons _ _ (.cons _ _ (.cons _ _ (.cons _ _ .nil))), rfl, ?nn, ?e1⟩ ?turn ?done
  case nn => intro k; match k with
    | 0 => decide
    | 1 => decide
    | 2 => decide
    | 3 => decide
    | k + 4 => simp
  case e1 => 
    funext y
    change (if y = Str.ofString "sums" then some (Value.ref D1) else if y = Str.ofString "script" then some (Value.ref l) else none) = _
    unfold lawM1
    by_cases h1 : y = Str.ofString "x"
    · subst h1; rfl
    by_cases h2 : y = Str.ofString "turn"
    · subst h2; rfl
    rw [if_neg h1, if_neg h2]
  case turn =>
    rintro i a t v m1 nx s1 own ⟨hp1, tk1, rfl⟩ ha ⟨tv, rfl⟩ ⟨vs2, c2, ms, vt, vx, rfl, hv2, hl2, hn2, rfl⟩ hadr hoff F1 N1
    dsimp only at F1 N1
    unfold lawM1 at F1
    have F2 : Fr h₀ L' hp1 _ := F1
    have N2 : News h₀ L' hp1 _ := N1
    clear F1 N1 F3 N3 S3 N9
    repeat' (first | (k_unfold; (try dsimp only)) | (k_end; wrow_close) | (dsimp only; walk1) | (walk1) | (k_end; dsimp only; k_unfold; (try dsimp only)))
    have hoffD : ∀ p ∈ own, p.1 ≠ D1 := fun p hp => hoff p hp _ (.head _)
    have hfm := Int.fmod_nonneg_of_pos (i : Int) (show (0 : Int) < 4 by decide)
    have hfl := Int.fmod_lt_of_pos (i : Int) (show (0 : Int) < 4 by decide)
    refine lst_setK F2 N2 (List.mem_append_right _ (.head _)) (nf := fun o' => own ++ (D1, o') :: _) (fun o' => upd_app hoffD (.head ?hr)) hv2 hfm (by rw [hl2]; exact hfl) (by omega) ?_
    case hr =>
      intro p hp
      simp only [List.mem_cons, List.not_mem_nil, or_false] at hp
      rcases hp with rfl | rfl | rfl | rfl | rfl | rfl | rfl | rfl | rfl | rfl <;> k_ne
    intro h5 vs5 c5 F5 N5 hv5
    dsimp only
    refine wpAny_execs_nil ?_
    refine LoopStep3.of2 (LoopStep2.intro F5 N5 rfl ?_)
    refine ⟨vs5, c5, _, some (.int (i : Int) t), some (.int a tv), rfl, hv5, by rw [List.length_set]; exact hl2, ?_, ?_⟩
    · exact fun k => getD_set_nn hn2 (by have := Int.fmod_nonneg_of_pos a (show (0 : Int) < 10 ^ Int.toNat 6 by decide); have := hn2 ((i : Int).fmod 4).toNat; omega) k
    · funext y
      unfold lawM1
      by_cases h1 : y = Str.ofString "x"
      · subst h1; rfl
      by_cases h2 : y = Str.ofString "turn"
      · subst h2; rfl
      simp only [if_neg h1, if_neg h2]
  case done =>
    rintro h4 tk4 m4 nx F4 N4 hadr ⟨vs2, c2, ms, vt, vx, rfl, hv2, hl2, hn2, rfl⟩
    match ms, hl2, hn2, hv2 with
    | [y0, y1, y2, y3], _, hn2, hv2 =>
      obtain ⟨z0, rfl⟩ := Int.eq_ofNat_of_zero_le (show 0 ≤ y0 from hn2 0)
      obtain ⟨z1, rfl⟩ := Int.eq_ofNat_of_zero_le (show 0 ≤ y1 from hn2 1)
      obtain ⟨z2, rfl⟩ := Int.eq_ofNat_of_zero_le (show 0 ≤ y2 from hn2 2)
      obtain ⟨z3, rfl⟩ := Int.eq_ofNat_of_zero_le (show 0 ≤ y3 from hn2 3)
      dsimp only
      exact law_B (s := ⟨_, _, _, _, _⟩) (by with_unfolding_all rfl) hdp hu B' X' T' (Nat.lt_of_lt_of_le hlt S') lA.1 F4 N4 d1 d2 d3 d4 d5 d6 d7 d8 hv2 ⟨rfl, rfl, rfl, rfl, rfl, rfl, rfl, rfl, rfl, rfl, rfl⟩ h
end
end
end Mine
open PySem PySem.W PyProof.Rows PySem.Calls
set_option maxRecDepth 100000
set_option maxHeartbeats 8000000
namespace Mine
noncomputable abbrev tabs2 : List (Addr × Addr) := [(70, 66), (63, 59)]
theorem good_true {c : ClaimW} {cl : Str → Option Addr} {mean : ExcName → Option Value} {args : List WData} {s₁ : Shared} {h' : Heap} {tk' : Nat} (hT : TabsAt tabs2 s₁.heap) (hk : ∀ b o, (ghostOf s₁.heap tabs2).get? b = some o → h'.get? b = some o)
    (g66 : GrownAt 66 h') (g59 : GrownAt 59 h') (hg : s₁.gens = #[]) (hr : ∀ x, c.raises args x = false) (hp : c.post args (.bool true) args = true) : GoodWG c cl mean args s₁ (.ok (.ret (.bool true))) { s₁ with heap := h', toks := tk' } := by
  have tab : ∀ b o, b ∈ tabs2.map (·.2) → s₁.heap.get? b = some o → isCodeTable s₁.heap b ∧ o = tabObj #[] ∧ ∃ ps, h'.get? b = some (tabObj ps) := fun b o hb e => by
    obtain ⟨q, hq, rfl⟩ := List.mem_map.mp hb
    obtain ⟨x1, x2⟩ := hT q hq
    refine ⟨(x1.tab x2).isCodeTable, Option.some.inj (e.symm.trans x2), ?_⟩
    rcases List.mem_cons.mp hq with rfl | hq
    · exact g66
    rcases List.mem_cons.mp hq with rfl | hq
    · exact g59
    · cases hq
  refine ⟨.inl ⟨.bool true, .bool true, [], rfl, hr, .bool true, hp, fun _ => ⟨List.nodup_nil, fun a ha => nomatch ha⟩⟩, ⟨fun b o e => ?_, fun b o e => ?_⟩, rfl, .of_eq hg⟩
  · by_cases hb : b ∈ tabs2.map (·.2)
    · obtain ⟨x1, rfl, ps, x3⟩ := tab b o hb e
      exact .inr (.inl ⟨x1, rfl, #[], ps, rfl, by rw [Array.empty_append]; exact x3⟩)
    · exact .inl (hk b o (ghost_ne e hb))
  · by_cases hb : b ∈ tabs2.map (·.2)
    · obtain ⟨_, _, ps, x3⟩ := tab b o hb e
      exact ⟨_, x3⟩
    · exact ⟨o, hk b o (ghost_ne e hb)⟩
end Mine
theorem PySem.Challenge.cw_zo0018_01_holds : PySem.Challenge.rw_zo0018_01.Holds := by
  refine Mine.hd ?_
  intro w s₀ s₁ mg mb G Y fa o pm cd doc dV kV ho hd' hcd hD hmg hg args vals as hpre hlay hrd hwl hlo
  have KX := km_in_of Y
  have hT := km_tabs_of Y
  have T := G.T
  have hm : mg (Str.ofString "law") = some (.ref 168) := mg_of KX T.g (by kernel_rfl)
  have hfa : fa = 168 := by
    have e := hmg.symm.trans hm
    cases e; rfl
  subst hfa
  clear ho hd' hcd hD
  have hT9 : TabsAt Mine.tabs2 s₁.heap := fun q hq => by
    rcases List.mem_cons.mp hq with rfl | hq
    · exact ⟨codeHd_of_K KX (by kernel_rfl), hT 66 (by decide)⟩
    rcases List.mem_cons.mp hq with rfl | hq
    · exact ⟨codeHd_of_K KX (by kernel_rfl), hT 59 (by decide)⟩
    · cases hq
  wrow_args hpre hlay hrd hwl hlo
  rename Heap.IsList _ _ _ => hL
  rename IntsAre _ _ => hI
  refine Mine.law_A (h₀ := ghostOf s₁.heap Mine.tabs2) ⟨ghost_K hT9 KX (by kernel_rfl), ⟨_, _, _, _, ghost_top hT9 T⟩, ⟨_, _, ghost_below hT9⟩, rfl⟩ (fun b o e => of_hideAll _ e) (hideAll_size _ _) (by decide) (by decide) rfl (fun p hp => ?_) (ghost_list hT9 hL) hI (by omega) fun h' tk' hk g66 g59 => Mine.good_true hT9 hk g66 g59 hg (fun _ => rfl) ?_
  · rcases List.mem_cons.mp hp with rfl | hp
    · exact ⟨hT 66 (by decide), Mine.hide_none (by decide)⟩
    rcases List.mem_cons.mp hp with rfl | hp
    · exact ⟨hT 59 (by decide), Mine.hide_none (by decide)⟩
    · cases hp
  · wrow_post
